import PyProof.Rows.All
import Wide.All
import OpenK.AllK
import Wide.FinOn
import PySem.Challenge.RW_oy0178_01
set_option Elab.async false
set_option linter.all false
set_option maxRecDepth 100000
set_option tactic.hygienic false
set_option bootstrap.genMatcherCode false
set_option compiler.postponeCompile true
set_option genSizeOf false
set_option compiler.extract_closed false
namespace LP.Internal
local macro_rules | `(tactic| refine_lift $e) => `(tactic| focus (refine $e; rotate_right))
theorem OA {α β : Type} {f : α → Option β} {x : Option α} : x >>= f = x.bind f := rfl
theorem OB {α β : Type} (a : α) (f : α → Option β) : (some a).bind f = f a := rfl
theorem OC {α : Type} : (pure : α → Option α) = some := rfl
theorem OD {α β : Type} {b : β} {x : Option α} {f : α → Option β} : x.bind f = some b ↔ ∃ a, x = some a ∧ f a = some b := Option.bind_eq_some_iff
theorem OE {α : Type} (a b : α) : (some a = some b) = (a = b) := Option.some.injEq a b
theorem GA {α : Type} {a : α} {i : Nat} {as : List α} : (a :: as)[i + 1]? = as[i]? := rfl
theorem GB {α : Type} {a : α} {as : List α} : (a :: as)[0]? = some a := rfl
theorem SA {α : Type} {xs : List α} {i : Nat} {a x : α} : (x :: xs).set (i + 1) a = x :: xs.set i a := rfl
theorem SB {α : Type} {x : α} {xs : List α} {a : α} : (x :: xs).set 0 a = a :: xs := rfl
section
theorem nos{α:Type}{a:α}{G:Prop}(e:none=some a):G:=nomatch e
theorem noT{G:Prop}(e:false=true):G:=nomatch e
@[elab_as_elim] theorem rwl{α:Sort _}{a:α}{P:α->Prop}{b:α}(e:a=b)(p:P b):P a:=e▸p
theorem zdy{G:Prop}(h:∀X:Prop,(G->X)->X):G:=h G id
theorem xa{P0:Prop}{P1:Prop}{G:Prop}(h:P0/\P1)(k:P0->P1->G):G:=k h.1 h.2
theorem xe{α:Type}{P0:α->Prop}{G:Prop}(h:∃a,P0 a)(k:∀a,P0 a->G):G:=h.elim λa h1=>k a h1
theorem xaa{P0:Prop}{P1:Prop}{P2:Prop}{G:Prop}(h:P0/\P1/\P2)(k:P0->P1->P2->G):G:=k h.1 h.2.1 h.2.2
theorem xae{α:Type}{P0:Prop}{P1:α->Prop}{G:Prop}(h:P0/\(∃a,P1 a))(k:P0->∀a,P1 a->G):G:=h.2.elim λa h1=>k h.1 a h1
theorem xea{α:Type}{P0:α->Prop}{P1:α->Prop}{G:Prop}(h:∃a,P0 a/\P1 a)(k:∀a,P0 a->P1 a->G):G:=h.elim λa h1=>k a h1.1 h1.2
theorem xee{α β:Type}{P0:α->β->Prop}{G:Prop}(h:∃a,∃b,P0 a b)(k:∀a,∀b,P0 a b->G):G:=h.elim λa h1=>h1.elim λb h2=>k a b h2
theorem zig{P0:Prop}{P1:Prop}{P2:Prop}{P3:Prop}{G:Prop}(h:P0/\P1/\P2/\P3)(k:P0->P1->P2->P3->G):G:=k h.1 h.2.1 h.2.2.1 h.2.2.2
theorem xaea{α:Type}{P0:Prop}{P1:α->Prop}{P2:α->Prop}{G:Prop}(h:P0/\(∃a,P1 a/\P2 a))(k:P0->∀a,P1 a->P2 a->G):G:=h.2.elim λa h1=>k h.1 a h1.1 h1.2
theorem zgt{α:Type}{P0:α->Prop}{P1:α->Prop}{P2:α->Prop}{G:Prop}(h:∃a,P0 a/\P1 a/\P2 a)(k:∀a,P0 a->P1 a->P2 a->G):G:=h.elim λa h1=>k a h1.1 h1.2.1 h1.2.2
theorem zc0{α β:Type}{P0:α->β->Prop}{P1:α->β->Prop}{G:Prop}(h:∃a,∃b,P0 a b/\P1 a b)(k:∀a,∀b,P0 a b->P1 a b->G):G:=h.elim λa h1=>h1.elim λb h2=>k a b h2.1 h2.2
theorem xeee{α β γ:Type}{P0:α->β->γ->Prop}{G:Prop}(h:∃a,∃b,∃c,P0 a b c)(k:∀a,∀b,∀c,P0 a b c->G):G:=h.elim λa h1=>h1.elim λb h2=>h2.elim λc h3=>k a b c h3
theorem xaaaa{P0:Prop}{P1:Prop}{P2:Prop}{P3:Prop}{P4:Prop}{G:Prop}(h:P0/\P1/\P2/\P3/\P4)(k:P0->P1->P2->P3->P4->G):G:=k h.1 h.2.1 h.2.2.1 h.2.2.2.1 h.2.2.2.2
theorem zgG{α β:Type}{P0:Prop}{P1:α->β->Prop}{P2:α->β->Prop}{G:Prop}(h:P0/\(∃a,∃b,P1 a b/\P2 a b))(k:P0->∀a,∀b,P1 a b->P2 a b->G):G:=h.2.elim λa h1=>h1.elim λb h2=>k h.1 a b h2.1 h2.2
theorem zqy{α:Type}{P0:α->Prop}{P1:α->Prop}{P2:α->Prop}{P3:α->Prop}{G:Prop}(h:∃a,P0 a/\P1 a/\P2 a/\P3 a)(k:∀a,P0 a->P1 a->P2 a->P3 a->G):G:=h.elim λa h1=>k a h1.1 h1.2.1 h1.2.2.1 h1.2.2.2
theorem xeaae{α β:Type}{P0:α->Prop}{P1:α->Prop}{P2:α->β->Prop}{G:Prop}(h:∃a,P0 a/\P1 a/\(∃b,P2 a b))(k:∀a,P0 a->P1 a->∀b,P2 a b->G):G:=h.elim λa h1=>h1.2.2.elim λb h2=>k a h1.1 h1.2.1 b h2
theorem zaj{α β:Type}{P0:α->β->Prop}{P1:α->β->Prop}{P2:α->β->Prop}{G:Prop}(h:∃a,∃b,P0 a b/\P1 a b/\P2 a b)(k:∀a,∀b,P0 a b->P1 a b->P2 a b->G):G:=h.elim λa h1=>h1.elim λb h2=>k a b h2.1 h2.2.1 h2.2.2
theorem zo5{α β γ:Type}{P0:α->β->γ->Prop}{P1:α->β->γ->Prop}{G:Prop}(h:∃a,∃b,∃c,P0 a b c/\P1 a b c)(k:∀a,∀b,∀c,P0 a b c->P1 a b c->G):G:=h.elim λa h1=>h1.elim λb h2=>h2.elim λc h3=>k a b c h3.1 h3.2
theorem xeeee{α β γ δ:Type}{P0:α->β->γ->δ->Prop}{G:Prop}(h:∃a,∃b,∃c,∃d,P0 a b c d)(k:∀a,∀b,∀c,∀d,P0 a b c d->G):G:=h.elim λa h1=>h1.elim λb h2=>h2.elim λc h3=>h3.elim λd h4=>k a b c d h4
theorem zra{P0:Prop}{P1:Prop}{P2:Prop}{P3:Prop}{P4:Prop}{P5:Prop}{G:Prop}(h:P0/\P1/\P2/\P3/\P4/\P5)(k:P0->P1->P2->P3->P4->P5->G):G:=k h.1 h.2.1 h.2.2.1 h.2.2.2.1 h.2.2.2.2.1 h.2.2.2.2.2
theorem zrb{α:Type}{P0:α->Prop}{P1:α->Prop}{P2:α->Prop}{P3:α->Prop}{P4:α->Prop}{G:Prop}(h:∃a,P0 a/\P1 a/\P2 a/\P3 a/\P4 a)(k:∀a,P0 a->P1 a->P2 a->P3 a->P4 a->G):G:=h.elim λa h1=>k a h1.1 h1.2.1 h1.2.2.1 h1.2.2.2.1 h1.2.2.2.2
theorem zbp{α β:Type}{P0:α->β->Prop}{P1:α->β->Prop}{P2:α->β->Prop}{P3:α->β->Prop}{G:Prop}(h:∃a,∃b,P0 a b/\P1 a b/\P2 a b/\P3 a b)(k:∀a,∀b,P0 a b->P1 a b->P2 a b->P3 a b->G):G:=h.elim λa h1=>h1.elim λb h2=>k a b h2.1 h2.2.1 h2.2.2.1 h2.2.2.2
theorem zba{α β γ:Type}{P0:α->β->γ->Prop}{P1:α->β->γ->Prop}{P2:α->β->γ->Prop}{G:Prop}(h:∃a,∃b,∃c,P0 a b c/\P1 a b c/\P2 a b c)(k:∀a,∀b,∀c,P0 a b c->P1 a b c->P2 a b c->G):G:=h.elim λa h1=>h1.elim λb h2=>h2.elim λc h3=>k a b c h3.1 h3.2.1 h3.2.2
theorem zlz{α β γ δ:Type}{P0:α->β->γ->δ->Prop}{P1:α->β->γ->δ->Prop}{G:Prop}(h:∃a,∃b,∃c,∃d,P0 a b c d/\P1 a b c d)(k:∀a,∀b,∀c,∀d,P0 a b c d->P1 a b c d->G):G:=h.elim λa h1=>h1.elim λb h2=>h2.elim λc h3=>h3.elim λd h4=>k a b c d h4.1 h4.2
theorem xeeeee{α β γ δ ε:Type}{P0:α->β->γ->δ->ε->Prop}{G:Prop}(h:∃a,∃b,∃c,∃d,∃e,P0 a b c d e)(k:∀a,∀b,∀c,∀d,∀e,P0 a b c d e->G):G:=h.elim λa h1=>h1.elim λb h2=>h2.elim λc h3=>h3.elim λd h4=>h4.elim λe h5=>k a b c d e h5
theorem ze8{α β:Type}{P0:α->β->Prop}{P1:α->β->Prop}{P2:α->β->Prop}{P3:α->β->Prop}{P4:α->β->Prop}{G:Prop}(h:∃a,∃b,P0 a b/\P1 a b/\P2 a b/\P3 a b/\P4 a b)(k:∀a,∀b,P0 a b->P1 a b->P2 a b->P3 a b->P4 a b->G):G:=h.elim λa h1=>h1.elim λb h2=>k a b h2.1 h2.2.1 h2.2.2.1 h2.2.2.2.1 h2.2.2.2.2
theorem zih{α β γ:Type}{P0:α->β->γ->Prop}{P1:α->β->γ->Prop}{P2:α->β->γ->Prop}{P3:α->β->γ->Prop}{G:Prop}(h:∃a,∃b,∃c,P0 a b c/\P1 a b c/\P2 a b c/\P3 a b c)(k:∀a,∀b,∀c,P0 a b c->P1 a b c->P2 a b c->P3 a b c->G):G:=h.elim λa h1=>h1.elim λb h2=>h2.elim λc h3=>k a b c h3.1 h3.2.1 h3.2.2.1 h3.2.2.2
theorem zs4{α β γ δ:Type}{P0:α->β->γ->δ->Prop}{P1:α->β->γ->δ->Prop}{P2:α->β->γ->δ->Prop}{G:Prop}(h:∃a,∃b,∃c,∃d,P0 a b c d/\P1 a b c d/\P2 a b c d)(k:∀a,∀b,∀c,∀d,P0 a b c d->P1 a b c d->P2 a b c d->G):G:=h.elim λa h1=>h1.elim λb h2=>h2.elim λc h3=>h3.elim λd h4=>k a b c d h4.1 h4.2.1 h4.2.2
theorem zcQ{P0:Prop}{P1:Prop}{P2:Prop}{P3:Prop}{P4:Prop}{P5:Prop}{P6:Prop}{P7:Prop}{G:Prop}(h:P0/\P1/\P2/\P3/\P4/\P5/\P6/\P7)(k:P0->P1->P2->P3->P4->P5->P6->P7->G):G:=k h.1 h.2.1 h.2.2.1 h.2.2.2.1 h.2.2.2.2.1 h.2.2.2.2.2.1 h.2.2.2.2.2.2.1 h.2.2.2.2.2.2.2
theorem zdG{α β:Type}{P0:Prop}{P1:α->β->Prop}{P2:α->β->Prop}{P3:α->β->Prop}{P4:α->β->Prop}{P5:α->β->Prop}{G:Prop}(h:P0/\(∃a,∃b,P1 a b/\P2 a b/\P3 a b/\P4 a b/\P5 a b))(k:P0->∀a,∀b,P1 a b->P2 a b->P3 a b->P4 a b->P5 a b->G):G:=h.2.elim λa h1=>h1.elim λb h2=>k h.1 a b h2.1 h2.2.1 h2.2.2.1 h2.2.2.2.1 h2.2.2.2.2
theorem zly{α:Type}{P0:α->Prop}{P1:α->Prop}{P2:α->Prop}{P3:α->Prop}{P4:α->Prop}{P5:α->Prop}{P6:α->Prop}{G:Prop}(h:∃a,P0 a/\P1 a/\P2 a/\P3 a/\P4 a/\P5 a/\P6 a)(k:∀a,P0 a->P1 a->P2 a->P3 a->P4 a->P5 a->P6 a->G):G:=h.elim λa h1=>k a h1.1 h1.2.1 h1.2.2.1 h1.2.2.2.1 h1.2.2.2.2.1 h1.2.2.2.2.2.1 h1.2.2.2.2.2.2
theorem zqz{α β γ:Type}{P0:α->Prop}{P1:α->Prop}{P2:α->β->γ->Prop}{P3:α->β->γ->Prop}{P4:α->β->γ->Prop}{G:Prop}(h:∃a,P0 a/\P1 a/\(∃b,∃c,P2 a b c/\P3 a b c/\P4 a b c))(k:∀a,P0 a->P1 a->∀b,∀c,P2 a b c->P3 a b c->P4 a b c->G):G:=h.elim λa h1=>h1.2.2.elim λb h2=>h2.elim λc h3=>k a h1.1 h1.2.1 b c h3.1 h3.2.1 h3.2.2
theorem zqA{α β γ δ ε ζ:Type}{P0:α->Prop}{P1:α->β->γ->δ->ε->ζ->Prop}{G:Prop}(h:∃a,P0 a/\(∃b,∃c,∃d,∃e,∃f,P1 a b c d e f))(k:∀a,P0 a->∀b,∀c,∀d,∀e,∀f,P1 a b c d e f->G):G:=h.elim λa h1=>h1.2.elim λb h2=>h2.elim λc h3=>h3.elim λd h4=>h4.elim λe h5=>h5.elim λf h6=>k a h1.1 b c d e f h6
theorem zcR{α β:Type}{P0:α->β->Prop}{P1:α->β->Prop}{P2:α->β->Prop}{P3:α->β->Prop}{P4:α->β->Prop}{P5:α->β->Prop}{G:Prop}(h:∃a,∃b,P0 a b/\P1 a b/\P2 a b/\P3 a b/\P4 a b/\P5 a b)(k:∀a,∀b,P0 a b->P1 a b->P2 a b->P3 a b->P4 a b->P5 a b->G):G:=h.elim λa h1=>h1.elim λb h2=>k a b h2.1 h2.2.1 h2.2.2.1 h2.2.2.2.1 h2.2.2.2.2.1 h2.2.2.2.2.2
theorem zbe{α β γ:Type}{P0:α->β->γ->Prop}{P1:α->β->γ->Prop}{P2:α->β->γ->Prop}{P3:α->β->γ->Prop}{P4:α->β->γ->Prop}{G:Prop}(h:∃a,∃b,∃c,P0 a b c/\P1 a b c/\P2 a b c/\P3 a b c/\P4 a b c)(k:∀a,∀b,∀c,P0 a b c->P1 a b c->P2 a b c->P3 a b c->P4 a b c->G):G:=h.elim λa h1=>h1.elim λb h2=>h2.elim λc h3=>k a b c h3.1 h3.2.1 h3.2.2.1 h3.2.2.2.1 h3.2.2.2.2
theorem zdH{α β γ δ:Type}{P0:α->β->γ->δ->Prop}{P1:α->β->γ->δ->Prop}{P2:α->β->γ->δ->Prop}{P3:α->β->γ->δ->Prop}{G:Prop}(h:∃a,∃b,∃c,∃d,P0 a b c d/\P1 a b c d/\P2 a b c d/\P3 a b c d)(k:∀a,∀b,∀c,∀d,P0 a b c d->P1 a b c d->P2 a b c d->P3 a b c d->G):G:=h.elim λa h1=>h1.elim λb h2=>h2.elim λc h3=>h3.elim λd h4=>k a b c d h4.1 h4.2.1 h4.2.2.1 h4.2.2.2
theorem zeA{α β γ δ ε ζ η:Type}{P0:α->β->γ->δ->ε->ζ->η->Prop}{G:Prop}(h:∃a,∃b,∃c,∃d,∃e,∃f,∃g,P0 a b c d e f g)(k:∀a,∀b,∀c,∀d,∀e,∀f,∀g,P0 a b c d e f g->G):G:=h.elim λa h1=>h1.elim λb h2=>h2.elim λc h3=>h3.elim λd h4=>h4.elim λe h5=>h5.elim λf h6=>h6.elim λg h7=>k a b c d e f g h7
theorem lnA(p q a b:Nat){x y:Nat}(h:x+p<=y+q)(k:Nat.ble (a+q) (b+p)=true):x+a<=y+b:=by have:=Nat.le_of_ble_eq_true k;omega
theorem lnB(p q r s a b:Nat){x y z:Nat}(h:x+p<=y+q)(h2:y+r<=z+s)(k:Nat.ble (a+(q+s)) (b+(p+r))=true):x+a<=z+b:=by have:=Nat.le_of_ble_eq_true k;omega
@[elab_as_elim] theorem rwr{α:Sort _}{a:α}{P:α->Prop}{b:α}(e:b=a)(p:P b):P a:=e▸p
theorem ya{P0 P1:Prop}(h:∀X:Prop,(P0->P1->X)->X):P0/\P1:=h _ λh0 h1=>⟨h0,h1⟩
theorem ia{P0 P1:Prop}  (h0:P0)(h1:P1):P0/\P1:=⟨h0,h1⟩
theorem iaa{P0 P1 P2:Prop}  (h0:P0)(h1:P1)(h2:P2):P0/\P1/\P2:=⟨h0,h1,h2⟩
theorem iaaa{P0 P1 P2 P3:Prop}  (h0:P0)(h1:P1)(h2:P2)(h3:P3):P0/\P1/\P2/\P3:=⟨h0,h1,h2,h3⟩
theorem iaaaa{P0 P1 P2 P3 P4:Prop}  (h0:P0)(h1:P1)(h2:P2)(h3:P3)(h4:P4):P0/\P1/\P2/\P3/\P4:=⟨h0,h1,h2,h3,h4⟩
theorem ye{α:Type}{P0:α->Prop}(h:∀X:Prop,(∀a,P0 a->X)->X):∃a,P0 a:=h _ λa h0=>⟨a,h0⟩
theorem ie{α:Type}{P0:α->Prop}(a:α)(h0:P0 a):∃a,P0 a:=⟨a,h0⟩
theorem yea{α:Type}{P0 P1:α->Prop}(h:∀X:Prop,(∀a,P0 a->P1 a->X)->X):∃a,P0 a/\P1 a:=h _ λa h0 h1=>⟨a,h0,h1⟩
theorem iea{α:Type}{P0 P1:α->Prop}(a:α)(h0:P0 a)(h1:P1 a):∃a,P0 a/\P1 a:=⟨a,h0,h1⟩
theorem zk2{α:Type}{P0 P1 P2:α->Prop}(a:α)(h0:P0 a)(h1:P1 a)(h2:P2 a):∃a,P0 a/\P1 a/\P2 a:=⟨a,h0,h1,h2⟩
theorem ieaaa{α:Type}{P0 P1 P2 P3:α->Prop}(a:α)(h0:P0 a)(h1:P1 a)(h2:P2 a)(h3:P3 a):∃a,P0 a/\P1 a/\P2 a/\P3 a:=⟨a,h0,h1,h2,h3⟩
theorem zk3{α:Type}{P0 P1 P2 P3 P4:α->Prop}(a:α)(h0:P0 a)(h1:P1 a)(h2:P2 a)(h3:P3 a)(h4:P4 a):∃a,P0 a/\P1 a/\P2 a/\P3 a/\P4 a:=⟨a,h0,h1,h2,h3,h4⟩
theorem yee{α β:Type}{P0:α->β->Prop}(h:∀X:Prop,(∀a,∀b,P0 a b->X)->X):∃a,∃b,P0 a b:=h _ λa b h0=>⟨a,b,h0⟩
theorem iee{α β:Type}{P0:α->β->Prop}(a:α)(b:β)(h0:P0 a b):∃a,∃b,P0 a b:=⟨a,b,h0⟩
theorem ieea{α β:Type}{P0 P1:α->β->Prop}(a:α)(b:β)(h0:P0 a b)(h1:P1 a b):∃a,∃b,P0 a b/\P1 a b:=⟨a,b,h0,h1⟩
theorem zgr{α β:Type}{P0 P1 P2:α->β->Prop}(h:∀X:Prop,(∀a,∀b,P0 a b->P1 a b->P2 a b->X)->X):∃a,∃b,P0 a b/\P1 a b/\P2 a b:=h _ λa b h0 h1 h2=>⟨a,b,h0,h1,h2⟩
theorem zbT{α β:Type}{P0 P1 P2:α->β->Prop}(a:α)(b:β)(h0:P0 a b)(h1:P1 a b)(h2:P2 a b):∃a,∃b,P0 a b/\P1 a b/\P2 a b:=⟨a,b,h0,h1,h2⟩
theorem zrc{α β:Type}{P0 P1 P2 P3:α->β->Prop}(h:∀X:Prop,(∀a,∀b,P0 a b->P1 a b->P2 a b->P3 a b->X)->X):∃a,∃b,P0 a b/\P1 a b/\P2 a b/\P3 a b:=h _ λa b h0 h1 h2 h3=>⟨a,b,h0,h1,h2,h3⟩
theorem ziR{α β:Type}{P0 P1 P2 P3:α->β->Prop}(a:α)(b:β)(h0:P0 a b)(h1:P1 a b)(h2:P2 a b)(h3:P3 a b):∃a,∃b,P0 a b/\P1 a b/\P2 a b/\P3 a b:=⟨a,b,h0,h1,h2,h3⟩
theorem zs5{α β:Type}{P0 P1 P2 P3 P4:α->β->Prop}(h:∀X:Prop,(∀a,∀b,P0 a b->P1 a b->P2 a b->P3 a b->P4 a b->X)->X):∃a,∃b,P0 a b/\P1 a b/\P2 a b/\P3 a b/\P4 a b:=h _ λa b h0 h1 h2 h3 h4=>⟨a,b,h0,h1,h2,h3,h4⟩
theorem zo6{α β:Type}{P0 P1 P2 P3 P4 P5 P6:α->β->Prop}(h:∀X:Prop,(∀a,∀b,P0 a b->P1 a b->P2 a b->P3 a b->P4 a b->P5 a b->P6 a b->X)->X):∃a,∃b,P0 a b/\P1 a b/\P2 a b/\P3 a b/\P4 a b/\P5 a b/\P6 a b:=h _ λa b h0 h1 h2 h3 h4 h5 h6=>⟨a,b,h0,h1,h2,h3,h4,h5,h6⟩
theorem ziS{α β:Type}{P0 P1 P2 P3 P4 P5 P6:α->β->Prop}(a:α)(b:β)(h0:P0 a b)(h1:P1 a b)(h2:P2 a b)(h3:P3 a b)(h4:P4 a b)(h5:P5 a b)(h6:P6 a b):∃a,∃b,P0 a b/\P1 a b/\P2 a b/\P3 a b/\P4 a b/\P5 a b/\P6 a b:=⟨a,b,h0,h1,h2,h3,h4,h5,h6⟩
theorem yeee{α β γ:Type}{P0:α->β->γ->Prop}(h:∀X:Prop,(∀a,∀b,∀c,P0 a b c->X)->X):∃a,∃b,∃c,P0 a b c:=h _ λa b c h0=>⟨a,b,c,h0⟩
theorem ieee{α β γ:Type}{P0:α->β->γ->Prop}(a:α)(b:β)(c:γ)(h0:P0 a b c):∃a,∃b,∃c,P0 a b c:=⟨a,b,c,h0⟩
theorem yeeeaa{α β γ:Type}{P0 P1 P2:α->β->γ->Prop}(h:∀X:Prop,(∀a,∀b,∀c,P0 a b c->P1 a b c->P2 a b c->X)->X):∃a,∃b,∃c,P0 a b c/\P1 a b c/\P2 a b c:=h _ λa b c h0 h1 h2=>⟨a,b,c,h0,h1,h2⟩
theorem ieeeaa{α β γ:Type}{P0 P1 P2:α->β->γ->Prop}(a:α)(b:β)(c:γ)(h0:P0 a b c)(h1:P1 a b c)(h2:P2 a b c):∃a,∃b,∃c,P0 a b c/\P1 a b c/\P2 a b c:=⟨a,b,c,h0,h1,h2⟩
theorem zeB{α β γ:Type}{P0 P1 P2 P3 P4:α->β->γ->Prop}(h:∀X:Prop,(∀a,∀b,∀c,P0 a b c->P1 a b c->P2 a b c->P3 a b c->P4 a b c->X)->X):∃a,∃b,∃c,P0 a b c/\P1 a b c/\P2 a b c/\P3 a b c/\P4 a b c:=h _ λa b c h0 h1 h2 h3 h4=>⟨a,b,c,h0,h1,h2,h3,h4⟩
theorem zeC{α β γ:Type}{P0 P1 P2 P3 P4 P5:α->β->γ->Prop}(h:∀X:Prop,(∀a,∀b,∀c,P0 a b c->P1 a b c->P2 a b c->P3 a b c->P4 a b c->P5 a b c->X)->X):∃a,∃b,∃c,P0 a b c/\P1 a b c/\P2 a b c/\P3 a b c/\P4 a b c/\P5 a b c:=h _ λa b c h0 h1 h2 h3 h4 h5=>⟨a,b,c,h0,h1,h2,h3,h4,h5⟩
theorem znL{α β γ:Type}{P0 P1 P2 P3 P4 P5:α->β->γ->Prop}(a:α)(b:β)(c:γ)(h0:P0 a b c)(h1:P1 a b c)(h2:P2 a b c)(h3:P3 a b c)(h4:P4 a b c)(h5:P5 a b c):∃a,∃b,∃c,P0 a b c/\P1 a b c/\P2 a b c/\P3 a b c/\P4 a b c/\P5 a b c:=⟨a,b,c,h0,h1,h2,h3,h4,h5⟩
theorem ieeee{α β γ δ:Type}{P0:α->β->γ->δ->Prop}(a:α)(b:β)(c:γ)(d:δ)(h0:P0 a b c d):∃a,∃b,∃c,∃d,P0 a b c d:=⟨a,b,c,d,h0⟩
theorem zmH{α β γ δ:Type}{P0 P1 P2 P3 P4 P5:α->β->γ->δ->Prop}(h:∀X:Prop,(∀a,∀b,∀c,∀d,P0 a b c d->P1 a b c d->P2 a b c d->P3 a b c d->P4 a b c d->P5 a b c d->X)->X):∃a,∃b,∃c,∃d,P0 a b c d/\P1 a b c d/\P2 a b c d/\P3 a b c d/\P4 a b c d/\P5 a b c d:=h _ λa b c d h0 h1 h2 h3 h4 h5=>⟨a,b,c,d,h0,h1,h2,h3,h4,h5⟩
theorem zkz{α β γ δ ε:Type}{P0 P1 P2 P3 P4 P5:α->β->γ->δ->ε->Prop}(h:∀X:Prop,(∀a,∀b,∀c,∀d,∀e,P0 a b c d e->P1 a b c d e->P2 a b c d e->P3 a b c d e->P4 a b c d e->P5 a b c d e->X)->X):∃a,∃b,∃c,∃d,∃e,P0 a b c d e/\P1 a b c d e/\P2 a b c d e/\P3 a b c d e/\P4 a b c d e/\P5 a b c d e:=h _ λa b c d e h0 h1 h2 h3 h4 h5=>⟨a,b,c,d,e,h0,h1,h2,h3,h4,h5⟩
@[elab_as_elim] theorem seaq{α:Type}{κ:Type}{f:α->κ}{P0:α->Prop}{P:(y:κ)->(∃a,P0 a/\y=f a)->Prop}{y:κ}(h:∃a,P0 a/\y=f a)(k:∀a,∀p0:P0 a,P (f a) ⟨a,p0,rfl⟩):P y h:=by obtain⟨a,p0,q0⟩:=h;subst q0;exact k a p0
@[elab_as_elim] theorem seeeeeqaz{α β γ δ ε:Type}{κ:Type}{f:α->β->γ->δ->ε->κ}{P0:α->β->γ->δ->ε->Prop}{P1:α->β->γ->δ->ε->Prop}{P:(y:κ)->(∃a,∃b,∃c,∃d,∃e,y=f a b c d e/\P0 a b c d e/\P1 a b c d e)->Prop}{y:κ}(h:∃a,∃b,∃c,∃d,∃e,y=f a b c d e/\P0 a b c d e/\P1 a b c d e)(k:∀a,∀b,∀c,∀d,∀e,∀p0:P0 a b c d e,∀p1:P1 a b c d e,P (f a b c d e) ⟨a,b,c,d,e,rfl,p0,p1⟩):P y h:=by obtain⟨a,b,c,d,e,q0,p0,p1⟩:=h;subst q0;exact k a b c d e p0 p1
@[elab_as_elim] theorem seeeeqaaz{α β γ δ:Type}{κ:Type}{f:α->β->γ->δ->κ}{P0:α->β->γ->δ->Prop}{P1:α->β->γ->δ->Prop}{P2:α->β->γ->δ->Prop}{P:(y:κ)->(∃a,∃b,∃c,∃d,y=f a b c d/\P0 a b c d/\P1 a b c d/\P2 a b c d)->Prop}{y:κ}(h:∃a,∃b,∃c,∃d,y=f a b c d/\P0 a b c d/\P1 a b c d/\P2 a b c d)(k:∀a,∀b,∀c,∀d,∀p0:P0 a b c d,∀p1:P1 a b c d,∀p2:P2 a b c d,P (f a b c d) ⟨a,b,c,d,rfl,p0,p1,p2⟩):P y h:=by obtain⟨a,b,c,d,q0,p0,p1,p2⟩:=h;subst q0;exact k a b c d p0 p1 p2
@[elab_as_elim] theorem seeeeqz{α β γ δ:Type}{κ:Type}{f:α->β->γ->δ->κ}{P0:α->β->γ->δ->Prop}{P:(y:κ)->(∃a,∃b,∃c,∃d,y=f a b c d/\P0 a b c d)->Prop}{y:κ}(h:∃a,∃b,∃c,∃d,y=f a b c d/\P0 a b c d)(k:∀a,∀b,∀c,∀d,∀p0:P0 a b c d,P (f a b c d) ⟨a,b,c,d,rfl,p0⟩):P y h:=by obtain⟨a,b,c,d,q0,p0⟩:=h;subst q0;exact k a b c d p0
@[elab_as_elim] theorem seeeqaaaz{α β γ:Type}{κ:Type}{f:α->β->γ->κ}{P0:α->β->γ->Prop}{P1:α->β->γ->Prop}{P2:α->β->γ->Prop}{P3:α->β->γ->Prop}{P:(y:κ)->(∃a,∃b,∃c,y=f a b c/\P0 a b c/\P1 a b c/\P2 a b c/\P3 a b c)->Prop}{y:κ}(h:∃a,∃b,∃c,y=f a b c/\P0 a b c/\P1 a b c/\P2 a b c/\P3 a b c)(k:∀a,∀b,∀c,∀p0:P0 a b c,∀p1:P1 a b c,∀p2:P2 a b c,∀p3:P3 a b c,P (f a b c) ⟨a,b,c,rfl,p0,p1,p2,p3⟩):P y h:=by obtain⟨a,b,c,q0,p0,p1,p2,p3⟩:=h;subst q0;exact k a b c p0 p1 p2 p3
@[elab_as_elim] theorem seeeqaz{α β γ:Type}{κ:Type}{f:α->β->γ->κ}{P0:α->β->γ->Prop}{P1:α->β->γ->Prop}{P:(y:κ)->(∃a,∃b,∃c,y=f a b c/\P0 a b c/\P1 a b c)->Prop}{y:κ}(h:∃a,∃b,∃c,y=f a b c/\P0 a b c/\P1 a b c)(k:∀a,∀b,∀c,∀p0:P0 a b c,∀p1:P1 a b c,P (f a b c) ⟨a,b,c,rfl,p0,p1⟩):P y h:=by obtain⟨a,b,c,q0,p0,p1⟩:=h;subst q0;exact k a b c p0 p1
@[elab_as_elim] theorem seeq{α β:Type}{κ:Type}{f:α->β->κ}{P:(y:κ)->(∃a,∃b,y=f a b)->Prop}{y:κ}(h:∃a,∃b,y=f a b)(k:∀a,∀b,P (f a b) ⟨a,b,rfl⟩):P y h:=by obtain⟨a,b,q0⟩:=h;subst q0;exact k a b
@[elab_as_elim] theorem seeqaaz{α β:Type}{κ:Type}{f:α->β->κ}{P0:α->β->Prop}{P1:α->β->Prop}{P2:α->β->Prop}{P:(y:κ)->(∃a,∃b,y=f a b/\P0 a b/\P1 a b/\P2 a b)->Prop}{y:κ}(h:∃a,∃b,y=f a b/\P0 a b/\P1 a b/\P2 a b)(k:∀a,∀b,∀p0:P0 a b,∀p1:P1 a b,∀p2:P2 a b,P (f a b) ⟨a,b,rfl,p0,p1,p2⟩):P y h:=by obtain⟨a,b,q0,p0,p1,p2⟩:=h;subst q0;exact k a b p0 p1 p2
@[elab_as_elim] theorem seeqaz{α β:Type}{κ:Type}{f:α->β->κ}{P0:α->β->Prop}{P1:α->β->Prop}{P:(y:κ)->(∃a,∃b,y=f a b/\P0 a b/\P1 a b)->Prop}{y:κ}(h:∃a,∃b,y=f a b/\P0 a b/\P1 a b)(k:∀a,∀b,∀p0:P0 a b,∀p1:P1 a b,P (f a b) ⟨a,b,rfl,p0,p1⟩):P y h:=by obtain⟨a,b,q0,p0,p1⟩:=h;subst q0;exact k a b p0 p1
@[elab_as_elim] theorem seq{α:Type}{κ:Type}{f:α->κ}{P:(y:κ)->(∃a,y=f a)->Prop}{y:κ}(h:∃a,y=f a)(k:∀a,P (f a) ⟨a,rfl⟩):P y h:=by obtain⟨a,q0⟩:=h;subst q0;exact k a
@[elab_as_elim] theorem seqz{α:Type}{κ:Type}{f:α->κ}{P0:α->Prop}{P:(y:κ)->(∃a,y=f a/\P0 a)->Prop}{y:κ}(h:∃a,y=f a/\P0 a)(k:∀a,∀p0:P0 a,P (f a) ⟨a,rfl,p0⟩):P y h:=by obtain⟨a,q0,p0⟩:=h;subst q0;exact k a p0
@[elab_as_elim] theorem sqez{α:Type}{κ:Type}{f:κ}{P0:α->Prop}{P:(y:κ)->(y=f/\(∃a,P0 a))->Prop}{y:κ}(h:y=f/\(∃a,P0 a))(k:∀a,∀p0:P0 a,P f ⟨rfl,a,p0⟩):P y h:=by obtain⟨q0,a,p0⟩:=h;subst q0;exact k a p0
end
section
open PySem
set_option genInjectivity false in
set_option genCtorIdx false in
set_option backward.linearNoConfusionType false in
inductive Sc where
 |int (i:Int)
 |str (l:List Nat)
noncomputable def Sc.ctorIdx(v:Sc):Nat:=by
 induction v using Sc.casesOn with
 |int=>exact 0
 |str=>exact 1
set_option genInjectivity false in
set_option genCtorIdx false in
set_option backward.linearNoConfusionType false in
inductive V where
 |uA
 |none
 |bool (b:Bool)
 |int (i:Int)
 |str (l:List Nat)
 |tup (vs:List V)
 |lA (vs:List V)
 |dI (kC:List (Int×Sc))
 |dS (kC:List (List Nat×Sc))
 |rng (a b c:Int)
 |obj (i:Nat)
 |inst (i:Nat)
 |give (text:List Nat) (i:Nat)
 |rdch (i:Nat)
noncomputable def V.ctorIdx(v:V):Nat:=by
 induction v using V.casesOn with
 |uA=>exact 0
 |none=>exact 1
 |bool=>exact 2
 |int=>exact 3
 |str=>exact 4
 |tup=>exact 5
 |lA=>exact 6
 |dI=>exact 7
 |dS=>exact 8
 |rng=>exact 9
 |obj=>exact 10
 |inst=>exact 11
 |give=>exact 12
 |rdch=>exact 13
set_option genInjectivity false in
set_option genCtorIdx false in
set_option backward.linearNoConfusionType false in
inductive Ob where
 |gone
 |list (vs:List V)
 |dI (kC:List (Int×Sc))
 |dS (kC:List (List Nat×Sc))
 |attrs (kC:List (Nat×V))
 |citer (i:Nat) (live:Bool)
 |tab
 |tabg
noncomputable def Ob.ctorIdx(v:Ob):Nat:=by
 induction v using Ob.casesOn with
 |gone=>exact 0
 |list=>exact 1
 |dI=>exact 2
 |dS=>exact 3
 |attrs=>exact 4
 |citer=>exact 5
 |tab=>exact 6
 |tabg=>exact 7
noncomputable abbrev F:=Nat
set_option genInjectivity false in
set_option genCtorIdx false in
set_option backward.linearNoConfusionType false in
inductive E where
 |c (v:V)
 |v (i:Nat)
 |bin (op:Operator) (a b:E)
 |neg (a:E)
 |not (a:E)
 |and (a b:E)
 |or (a b:E)
 |ite (t a b:E)
 |cmp (op:CmpOp) (a b:E)
 |call (f:F) (args:E)
 |meth (f:F) (self:E) (args:E)
 |read (o:E) (arg:E)
 |mk (arg:E)
 |len (a:E)
 |rg (args:E)
 |sum (a:E)
 |min (a:E)
 |min2 (a b:E)
 |sorted (a:E)
 |list (a:E)
 |iter (o:E)
 |enum (a:E)
 |rev (a:E)
 |idx (a i:E)
 |slc (a lo hi:E)
 |tup (es:E)
 |lA (es:E)
 |dlit (kC:List (Int×Int))
 |emptyD
 |get (d k x:E)
 |join (s l:E)
 |count (s x:E)
 |append (l x:E)
 |pop (l:E)
 |pop0 (l:E)
 |attr (o:E) (name:Nat)
 |comp (tA:List Nat) (it cond elt:E)
 |comp2 (x:Nat) (it:E) (y:Nat) (it2 cond elt:E)
 |dcomp (x:Nat) (it k v:E)
 |nil
 |cons (e es:E)
set_option genInjectivity false in
set_option genCtorIdx false in
set_option backward.linearNoConfusionType false in
inductive S where
 |skip
 |seq (a b:S)
 |expr (e:E)
 |ret (e:E)
 |asg (i:Nat) (e:E)
 |asgM (i:Nat) (e:E)
 |asgT (is:List Nat) (e:E)
 |setI (o i e:E)
 |setA (o:E) (name:Nat) (e:E)
 |setAM (o:E) (name:Nat) (e:E)
 |augV (i:Nat) (e:E)
 |augA (o:E) (name:Nat) (e:E)
 |ifs (t:E) (a b:S)
 |fors (tA:List Nat) (it:E) (body orelse:S)
 |whiles (t:E) (body:S)
 |brk
 |cont
 |defGive (slot text at_:Nat)
 |frz (xs:List Nat) (s:S)
set_option genInjectivity false in
set_option genCtorIdx false in
set_option backward.linearNoConfusionType false in
inductive Fl where
 |next|brk|cont
 |ret (v:V)
noncomputable def Fl.ctorIdx(v:Fl):Nat:=by
 induction v using Fl.casesOn with
 |next=>exact 0
 |brk=>exact 1
 |cont=>exact 2
 |ret=>exact 3
noncomputable abbrev H:=List Ob
noncomputable abbrev Vs:=List V
noncomputable def zad:Nat:=100000
noncomputable def Sc.v:Sc->V
 | .int i=>.int i
 | .str l=>.str l
noncomputable def zlj(v:V):Option Sc:=by
 induction v using V.casesOn with
 |int i=>exact some (.int i)
 |str l=>exact some (.str l)
 |_=>exact none
noncomputable def za6(v:V):Option Int:=by
 induction v using V.casesOn with
 |int i=>exact some i
 |_=>exact none
noncomputable def zbm(v:V):Option (List Nat):=by
 induction v using V.casesOn with
 |str l=>exact some l
 |_=>exact none
noncomputable def zbz(v:V):Option (List V):=by
 induction v using V.casesOn with
 |tup l=>exact some l
 |_=>exact none
noncomputable def zem(v:V):Option (List V):=by
 induction v using V.casesOn with
 |lA l=>exact some l
 |_=>exact none
noncomputable def zfd(v:V):Option Unit:=by
 induction v using V.casesOn with
 |none=>exact some ()
 |_=>exact none
noncomputable def upOf(v:V):Option Int:=by
 induction v using V.casesOn with
 |rng a b c=>exact if a=0/\c=1 then some b else none
 |_=>exact none
noncomputable def zeW(v:V):Option Nat:=by
 induction v using V.casesOn with
 |obj i=>exact some i
 |_=>exact none
noncomputable def zcw(v:V):Option Nat:=by
 induction v using V.casesOn with
 |inst i=>exact some i
 |_=>exact none
noncomputable def zgU(v:V):Option (List Nat×Nat):=by
 induction v using V.casesOn with
 |give t i=>exact some (t,i)
 |_=>exact none
noncomputable def zf8(o:Ob):Option (List V):=by
 induction o using Ob.casesOn with
 |list l=>exact some l
 |_=>exact none
noncomputable def zhO(o:Ob):Option (List (Nat×V)):=by
 induction o using Ob.casesOn with
 |attrs l=>exact some l
 |_=>exact none
noncomputable def zsw(o:Ob):Option Unit:=by
 induction o using Ob.casesOn with
 |tab=>exact some ()
 |_=>exact none
noncomputable def zsv(o:Ob):Option (Nat×Bool):=by
 induction o using Ob.casesOn with
 |citer i b=>exact some (i,b)
 |_=>exact none
noncomputable def obDI(o:Ob):Option (List (Int×Sc)):=by
 induction o using Ob.casesOn with
 |dI l=>exact some l
 |_=>exact none
noncomputable def zcg{α:Type}:List α->Option α
 |[x]=>some x
 |_=>none
noncomputable def zqu{α:Type}:List α->Option (α×α)
 |[x,y]=>some (x,y)
 |_=>none
noncomputable def zpv(v:V):Option Nat:=(zbm v).bind zcg
noncomputable def onI{α:Type}(v:V)(f:Int->α)(d:α):α:=(za6 v).elim d f
noncomputable def onS{α:Type}(v:V)(f:List Nat->α)(d:α):α:=(zbm v).elim d f
noncomputable def zo7{α:Type}(a b:V)(f:Int->Int->Option α):Option α:=(za6 a).bind λx=>(za6 b).bind (f x)
noncomputable def zg2(v:V):Option (Int×Int):=(zbz v).bind λl=>(zqu l).bind λp=>(za6 p.1).bind λx=>(za6 p.2).bind λy=>some (x,y)
noncomputable def zal(p q:Int×Int):Bool:=if p.1=q.1 then decide (p.2<q.2) else decide (p.1<q.1)
noncomputable def zgE(h:H)(v:V):Option (List V):=by
 induction v using V.casesOn with
 |lA vs=>exact some vs
 |obj i=>exact(h[i]?).bind zf8
 |_=>exact none
noncomputable def zil{α:Type}(n:Nat)(x:α):Option α:=if n<=zad then some x else none
noncomputable def zaU(op:Operator)(h:H)(a b:V):Option V:=
 match op with
 | .Add=>onI a (λx=>(za6 b).bind λy=>some (.int (x+y))) (onS a (λx=>(zbm b).bind λy=>zil (x.length+y.length) (.str (x++y)))
  ((zgE h a).bind λxs=>(zgE h b).bind λys=>zil (xs.length+ys.length) (.lA (xs++ys))))
 | .Sub=>zo7 a b λx y=>some (.int (x-y))
 | .Mult=>onI a (λx=>(za6 b).bind λy=>if x.natAbs<=1000000/\y.natAbs<=1000000 then some (.int (x*y)) else none)
  ((zem a).bind λxs=>(za6 b).bind λn=>(zcg xs).bind λx=>zil n.natAbs (.lA (List.replicate n.toNat x)))
 | .FloorDiv=>zo7 a b λx y=>if y=0\/1000000<y.natAbs then none else some (.int (x.fdiv y))
 | .Mod=>zo7 a b λx y=>if y=0 then none else some (.int (x.fmod y))
 | .BitAnd=>zo7 a b λx y=>some (.int (Builtin.bitAnd x y))
 | .BitOr=>zo7 a b λx y=>some (.int (Builtin.bitOr x y))
 | .Pow=>zo7 a b λx y=>if x=2/\0<=y/\y<=100 then some (.int (x ^ y.toNat)) else none
 | .RShift=>zo7 a b λx y=>if y=1 then some (.int (x.fdiv 2)) else none
 | .MatMult=>none
 | .Div=>none
 | .LShift=>none
 | .BitXor=>none
noncomputable def zpj(a b:V):Option V:=onI a (λx=>(za6 b).bind λy=>some (.int (x+y))) ((zbm a).bind λx=>(zbm b).bind λy=>zil (x.length+y.length) (.str (x++y)))
noncomputable def zaT(h:H)(v:V):Option Bool:=by
 induction v using V.casesOn with
 |none=>exact some false
 |bool b=>exact some b
 |int i=>exact some (i != 0)
 |str l=>exact zil l.length (!l.isEmpty)
 |lA vs=>exact zil vs.length (!vs.isEmpty)
 |obj i=>exact(h[i]?).bind λo=>(zf8 o).bind λvs=>zil vs.length (!vs.isEmpty)
 |_=>exact none
noncomputable def sk(l:List Nat):Str:=⟨l.toArray⟩
noncomputable def zqb(v:V):Option PyData:=
 V.rec (motive_1:=λ_=>Option PyData) (motive_2:=λ_=>Option (List PyData)) none (some .none) (λ_=>none) (λi=>some (.int i)) (λl=>some (.str (sk l))) (λ_ k=>k.map .tuple) (λ_ k=>k.map .list) (λ_=>none) (λ_=>none) (λ_ _ _=>none) (λ_=>none) (λ_=>none) (λ_ _=>none) (λ_=>none)
  (some []) (λ_ _ a b=>a.bind λd=>b.bind λds=>some (d::ds)) v
noncomputable def zor(v:List V):Option (List PyData):=
 V.rec_1 (motive_1:=λ_=>Option PyData) (motive_2:=λ_=>Option (List PyData)) none (some .none) (λ_=>none) (λi=>some (.int i)) (λl=>some (.str (sk l))) (λ_ k=>k.map .tuple) (λ_ k=>k.map .list) (λ_=>none) (λ_=>none) (λ_ _ _=>none) (λ_=>none) (λ_=>none) (λ_ _=>none) (λ_=>none)
  (some []) (λ_ _ a b=>a.bind λd=>b.bind λds=>some (d::ds)) v
noncomputable def zf0:List V->Option (List Int)
 |[]=>some []
 |v::r=>(za6 v).bind λi=>(zf0 r).map (i::·)
noncomputable def zfh:List V->Option (List (List Nat))
 |[]=>some []
 |v::r=>(zbm v).bind λs=>(zfh r).map (s::·)
noncomputable def infix?(x:List Nat)(y:List Nat):Bool:=(zcg x).elim false λc=>y.contains c
noncomputable def zbl(op:CmpOp)(h:H)(a b:V):Option Bool:=
 match op with
 | .Eq=>onI a (λx=>(za6 b).bind λy=>some (x==y)) ((zbm a).bind λx=>(zbm b).bind λy=>some (x==y))
 | .NotEq=>onI a (λx=>(za6 b).bind λy=>some (x != y)) ((zqb a).bind λp=>(zqb b).bind λq=>if SeqAt.shaped p=true/\SeqAt.shaped q=true then some (!PyData.eqv p q) else none)
 | .Lt=>onI a (λx=>(za6 b).bind λy=>some (decide (x<y))) ((zg2 a).bind λp=>(zg2 b).bind λq=>some (zal p q))
 | .LtE=>zo7 a b λx y=>some (decide (x<=y))
 | .Gt=>zo7 a b λx y=>some (decide (y<x))
 | .IsNot=>(zfd b).bind λ_=>onI a (λ_=>some true) ((zfd a).bind λ_=>some false)
 | .In=>onI a (λx=>(zem b).bind λys=>(zf0 ys).map (·.contains x)) ((zbm a).bind λx=>onS b (λy=>if x.length=1 then some (infix? x y) else none) ((zbz b).bind λys=>(zfh ys).map (·.contains x)))
 | .NotIn=>(za6 a).bind λx=>(zeW b).bind λi=>(h[i]?).bind λo=>(obDI o).bind λkC=>some (!(kC.any (·.1==x)))
 | .GtE=>none
 | .Is=>none
noncomputable def zcE(n:Nat)(i:Int):Option Nat:=
 if 0<=i/\i<n/\n<=zad then some i.toNat else none
noncomputable def zoh(vs:List V)(i:V):Option V:=(za6 i).bind λk=>(zcE vs.length k).bind (vs[·]?)
noncomputable def getI(kC:List (Int×Sc))(i:V):Option V:=(za6 i).bind λk=>(kC.lookup k).map Sc.v
noncomputable def zb9(h:H)(a i:V):Option V:=
 by
 induction a using V.casesOn with
 |tup vs=>exact zoh vs i
 |lA vs=>exact zoh vs i
 |obj o=>exact(h[o]?).bind λb=>(zf8 b).elim ((obDI b).bind λkC=>getI kC i) λvs=>zoh vs i
 |str l=>exact(za6 i).bind λk=>(zcE l.length k).bind λj=>(l[j]?).map λc=>.str [c]
 |dI kC=>exact getI kC i
 |dS kC=>exact(zbm i).bind λk=>(kC.lookup k).map Sc.v
 |_=>exact none
noncomputable def zff(v:V):Option (Option Int):=by
 induction v using V.casesOn with
 |none=>exact some none
 |int i=>exact some (some i)
 |_=>exact none
noncomputable def zgs{α:Type}(l:List α)(lo hi:Option Int):List α:=(l.drop (lo.elim 0 (clipAt l.length))).take (hi.elim l.length (clipAt l.length)-lo.elim 0 (clipAt l.length))
noncomputable def zeu(a lo hi:V):Option V:=(zff lo).bind λl=>(zff hi).bind λu=>onS a (λvs=>zil vs.length (.str (zgs vs l u))) ((zem a).bind λvs=>zil vs.length (.lA (zgs vs l u)))
noncomputable def zbs(a b c:Int):List V:=(List.range (Builtin.Range.rangeSize a b c).toNat).map λ(i:Nat)=>V.int (a+(i:Int)*c)
noncomputable def zaN(v:V):Option (List V):=by
 induction v using V.casesOn with
 |lA vs=>exact some vs
 |tup vs=>exact some vs
 |rng a b c=>exact if Builtin.Range.small a b c=true/\0<=Builtin.Range.rangeSize a b c then some (zbs a b c) else none
 |str l=>exact if l.all (·<128)=true then some (l.map λc=>.str [c]) else none
 |dI kC=>exact some (kC.map λp=>.int p.1)
 |dS kC=>exact some (kC.map λp=>.str p.1)
 |_=>exact none
noncomputable def zaQ(v:V):Bool:=by
 induction v using V.casesOn with
 |lA=>exact true
 |tup=>exact true
 |_=>exact false
noncomputable def zak(tA:List Nat)(v:V):Option (List V):=(zaN v).bind λxs=>if xs.length<=zad/\(tA.length=1\/zaQ v=true) then some xs else none
noncomputable def sumV(l:List V):Option Int:=(zf0 l).map List.sum
noncomputable def zji:List Int->Option Int
 |[]=>none
 |[i]=>some i
 |i::r=>(zji r).map (Min.min i ·)
theorem mi_s{i j:Int}{r:List Int}:zji (i::j::r)=(zji (j::r)).map (Min.min i ·):=rfl
noncomputable def minV(l:List V):Option Int:=(zf0 l).bind zji
noncomputable def zdh(h:H)(v:V):Option Int:=onS v (λl=>zil l.length (l.length:Int)) ((zgE h v).bind λl=>zil l.length (l.length:Int))
noncomputable def pairsOf:List V->Option (List (Int×Int))
 |[]=>some []
 |v::r=>(zg2 v).bind λp=>(pairsOf r).map (p::·)
theorem po_s:pairsOf (v::r)=(zg2 v).bind λp=>(pairsOf r).map (p::·):=rfl
noncomputable abbrev R6:List V:=List.replicate 6 .uA
noncomputable def zse{α:Type}(cmp:Nat->Nat->Bool):PySem.W.KasT α->α
 | .ret a=>a
 | .ask i j k=>zse cmp (k (cmp i j))
noncomputable def zmv(ps:List (Int×Int)):List (Int×Int):=(zse (λi j=>zal (ps.getD i (0,0)) (ps.getD j (0,0))) (PySem.W.kas_sort 4)).toList.map λi=>ps.getD i (0,0)
noncomputable def zgy(s:List Nat):List (List Nat)->List Nat
 |[]=>[]
 |[x]=>x
 |x::r=>x++s++zgy s r
theorem jo_1:zgy s [x]=x:=rfl
theorem jo_s{s x y:List Nat}{r:List (List Nat)}:zgy s (x::y::r)=x++s++zgy s (y::r):=rfl
noncomputable def zeD{α:Type}[BEq α](k:α)(v:Sc):List (α×Sc)->List (α×Sc)
 |[]=>[(k,v)]
 |p::r=>if p.1==k then(p.1,v)::r else p::zeD k v r
theorem pd_0{α:Type}[BEq α]{k:α}:zeD k v []=[(k,v)]:=rfl
theorem pd_s{α:Type}[BEq α]{k:α}{v:Sc}{p:α×Sc}{r:List (α×Sc)}:zeD k v (p::r)=if p.1==k then(p.1,v)::r else p::zeD k v r:=rfl
noncomputable def flat(v:V):Bool:=by
 induction v using V.casesOn with
 |obj=>exact false
 |inst=>exact false
 |give=>exact false
 |rdch=>exact false
 |uA=>exact false
 |_=>exact true
noncomputable def ziY:Nat:=4
theorem bs{α β:Type}{x:Option α}{a:α}{f:α->Option β}{r:Option β}(e:x=some a)(k:f a=r):x.bind f=r:=e▸k
theorem be{α β:Type}{x:Option α}{f:α->Option β}{r:β}{G:Prop}(h:x.bind f=some r)(k:∀a,x=some a->f a=some r->G):G:=
 match x,h,k with
 |some a,h,k=>k a rfl h
 |none,h,_=>nomatch h
theorem fit{α:Type}{n:Nat}{x:α}(h:n<=zad):zil n x=some x:=if_pos h
@[elab_as_elim] theorem ite_e{α:Type}{c:Prop}[d:Decidable c]{x r:α}{P:α->Prop}(h:(if c then some x else none)=some r)(k:c->P x):P r:=
 match d,h with
 | .isTrue q,h=>Option.some.inj h▸k q
 | .isFalse _,h=>nomatch h
theorem ite_x{α:Type}{c:Prop}[d:Decidable c]{x:Option α}{r:α}{G:Prop}(h:(if c then x else none)=some r)(k:c->x=some r->G):G:=
 match d,h with
 | .isTrue q,h=>k q h
 | .isFalse _,h=>nomatch h
theorem ite_or{α:Type}{c:Prop}[d:Decidable c]{x y z:α}{G:Prop}(h:(if c then x else y)=z)(k:x=z->G)(k2:y=z->G):G:=by
 by_cases q:c
 ·exact k ((if_pos q).symm.trans h)
 ·exact k2 ((if_neg q).symm.trans h)
@[elab_as_elim] theorem ite_n{α:Type}{c:Prop}[d:Decidable c]{x r:α}{P:α->Prop}(h:(if c then none else some x)=some r)(k:¬ c->P x):P r:=
 match d,h with
 | .isFalse q,h=>Option.some.inj h▸k q
 | .isTrue _,h=>nomatch h
@[elab_as_elim] theorem fit_e{α:Type}{n:Nat}{x r:α}{P:α->Prop}(h:zil n x=some r)(k:n<=100000->P x):P r:=ite_e h k
@[elab_as_elim] theorem map_e{α β:Type}{o:Option α}{f:α->β}{r:β}{P:β->Prop}(h:o.map f=some r)(k:∀a,o=some a->P (f a)):P r:=
 match o,h,k with
 |some a,h,k=>Option.some.inj h▸k a rfl
 |none,h,_=>nomatch h
@[elab_as_elim] theorem sm{α:Type}{x r:α}{P:α->Prop}(h:some x=some r)(k:P x):P r:=Option.some.inj h▸k
theorem zbA{x:V}{i:Int}(h:za6 x=some i):x=.int i:=by
 induction x using V.casesOn with
 |int j=>exact sm h rfl
 |_=>exact nos h
theorem zdq{x:V}{l:List Nat}(h:zbm x=some l):x=.str l:=by
 induction x using V.casesOn with
 |str j=>exact sm h rfl
 |_=>exact nos h
theorem zg5{x:V}{l:List V}(h:zbz x=some l):x=.tup l:=by
 induction x using V.casesOn with
 |tup j=>exact sm h rfl
 |_=>exact nos h
theorem zg1{x:V}{l:List V}(h:zem x=some l):x=.lA l:=by
 induction x using V.casesOn with
 |lA j=>exact sm h rfl
 |_=>exact nos h
theorem zf9{x:V}{i:Nat}(h:zeW x=some i):x=.obj i:=by
 induction x using V.casesOn with
 |obj j=>exact sm h rfl
 |_=>exact nos h
theorem zhN{x:V}{u:Unit}(h:zfd x=some u):x=.none:=by
 induction x using V.casesOn with
 |none=>rfl
 |_=>exact nos h
theorem zdV{x:V}{i:Nat}(h:zcw x=some i):x=.inst i:=by
 induction x using V.casesOn with
 |inst j=>exact sm h rfl
 |_=>exact nos h
theorem oa_of{x:Ob}{l:List (Nat×V)}(h:zhO x=some l):x=.attrs l:=by
 induction x using Ob.casesOn with
 |attrs j=>exact sm h rfl
 |_=>exact nos h
theorem zm7{n j:Nat}(hj:j<n)(hz:n<=zad):zcE n (j:Int)=some j:=if_pos ⟨Int.natCast_nonneg j,Int.ofNat_lt.2 hj,hz⟩
noncomputable abbrev PA:=F->List V->H->Option (V×H)
noncomputable def zsB{α:Type}:List α->Option (α×List α)
 |[]=>none
 |x::l=>some (x,l)
noncomputable def zbu(vs:Vs):List Nat->List V->Option Vs
 |[],l=>cond l.isEmpty (some vs) none
 |i::is,l=>(zsB l).bind λp=>zbu (vs.set i p.1) is p.2
theorem sa_0{vs:Vs}:zbu vs [] []=some vs:=rfl
theorem sa_s{vs:Vs}{i:Nat}{is:List Nat}{x:V}{xs:List V}:zbu vs (i::is) (x::xs)=zbu (vs.set i x) is xs:=rfl
noncomputable def zbC(vs:Vs)(tA:List Nat)(x:V):Option Vs:=(zcg tA).elim ((zbz x).bind (zbu vs tA)) λi=>some (vs.set i x)
noncomputable def zaB{σ:Type}(step:V->σ->Option σ):List V->σ->Option σ
 |[],s=>some s
 |x::xs,s=>(step x s).bind (zaB step xs)
theorem fe_0{σ:Type}{step:V->σ->Option σ}{s:σ}:zaB step [] s=some s:=rfl
theorem fe_s{σ:Type}{step:V->σ->Option σ}{x:V}{xs:List V}{s:σ}:zaB step (x::xs) s=(step x s).bind (zaB step xs):=rfl
noncomputable def zd7(h:H)(i:Nat):Option (Nat×Bool):=(h[i]?).bind zsv
noncomputable def zdP(h:H)(i:Nat):Option (List V):=(h[i]?).bind zf8
noncomputable def zbg(h:H)(i:Nat):Option (List (Nat×V)):=(h[i]?).bind zhO
noncomputable def zsG:List V->Option V
 |[]=>none
 |a::l=>do
  let a <-za6 a
  match l with
  |[]=>some (.rng 0 a 1)
  |b::l=>do
   let b <-za6 b
   match l with
   |[]=>some (.rng a b 1)
   |c::l=>do
    let c <-za6 c
    if c= -1/\l=[] then some (.rng a b c) else none
noncomputable def getV(x d k:V):Option V:=by
 induction d using V.casesOn with
 |dI kC=>exact(za6 k).map λk=>((kC.lookup k).map Sc.v).getD x
 |dS kC=>exact(zbm k).map λk=>((kC.lookup k).map Sc.v).getD x
 |_=>exact none
theorem zds{h:H}{i:Nat}{us:List (Nat×V)}(e:zbg h i=some us):h[i]?=some (.attrs us):=be e λ_ e q=>oa_of q▸e
theorem zfl(i:Int):za6 (.int i)=some i:=rfl
theorem zeX(l:List Nat):zbm (.str l)=some l:=rfl
theorem zgB(c:Nat):zpv (.str [c])=some c:=rfl
theorem zaH(l:List V):zbz (.tup l)=some l:=rfl
theorem zdY(l:List V):zem (.lA l)=some l:=rfl
theorem zce:zfd .none=some ():=rfl
theorem zp9(b:Int):upOf (.rng 0 b 1)=some b:=rfl
theorem zbO(i:Nat):zeW (.obj i)=some i:=rfl
theorem zbB(i:Nat):zcw (.inst i)=some i:=rfl
theorem p_give(t:List Nat)(i:Nat):zgU (.give t i)=some (t,i):=rfl
theorem zhQ(l:List V):zf8 (.list l)=some l:=rfl
theorem zjj(l:List (Nat×V)):zhO (.attrs l)=some l:=rfl
theorem zpb(i:Nat)(b:Bool):zsv (.citer i b)=some (i,b):=rfl
theorem zp8:zsw .tab=some ():=rfl
theorem zhP(h:H)(i:Nat):zdP h i=(h[i]?).bind zf8:=rfl
theorem zi1(h:H)(i:Nat):zbg h i=(h[i]?).bind zhO:=rfl
theorem zon(h:H)(i:Nat):zd7 h i=(h[i]?).bind zsv:=rfl
theorem zoo{α:Type}(x:α):zcg [x]=some x:=rfl
theorem zjk(a:Int):zsG [.int a]=some (.rng 0 a 1):=rfl
theorem zpc(a b:Int):zsG [.int a,.int b]=some (.rng a b 1):=rfl
theorem zpd(a b:Int):zsG [.int a,.int b,.int (-1)]=some (.rng a b (-1)):=rfl
theorem zo9(x:V)(kC:List (Int×Sc))(k:Int):getV x (.dI kC) (.int k)=some (((kC.lookup k).map Sc.v).getD x):=rfl
theorem zpa(x:V)(kC:List (List Nat×Sc))(k:List Nat):getV x (.dS kC) (.str k)=some (((kC.lookup k).map Sc.v).getD x):=rfl
theorem zgC(x:V)(l:List V):zsB (x::l)=some (x,l):=rfl
noncomputable def eE(Φ:PA)(vs:Vs):E->H->Option (V×H)
 | .c v,h=>some (v,h)
 | .v i,h=>match vs[i]? with
  |some .uA=>none
  |some x=>some (x,h)
  |none=>none
 | .bin op a b,h=>do
  let (x,h) <-eE Φ vs a h
  let (y,h) <-eE Φ vs b h
  let z <-zaU op h x y
  pure (z,h)
 | .neg a,h=>do
  let (x,h) <-eE Φ vs a h
  let i <-za6 x
  pure (.int (-i),h)
 | .not a,h=>do
  let (x,h) <-eE Φ vs a h
  let b <-zaT h x
  pure (.bool (!b),h)
 | .and a b,h=>do
  let (x,h) <-eE Φ vs a h
  let t <-zaT h x
  if t then eE Φ vs b h else pure (x,h)
 | .or a b,h=>do
  let (x,h) <-eE Φ vs a h
  let t <-zaT h x
  if t then pure (x,h) else eE Φ vs b h
 | .ite t a b,h=>do
  let (x,h) <-eE Φ vs t h
  let t <-zaT h x
  if t then eE Φ vs a h else eE Φ vs b h
 | .cmp op a b,h=>do
  let (x,h) <-eE Φ vs a h
  let (y,h) <-eE Φ vs b h
  let z <-zbl op h x y
  pure (.bool z,h)
 | .call f args,h=>do
  let (x,h) <-eE Φ vs args h
  let xs <-zbz x
  Φ f xs h
 | .meth f self args,h=>do
  let (o,h) <-eE Φ vs self h
  let i <-zcw o
  let _ <-zbg h i
  let (x,h) <-eE Φ vs args h
  let xs <-zbz x
  Φ f (.inst i::xs) h
 | .read o arg,h=>do
  let (o,h) <-eE Φ vs o h
  let i <-zcw o
  let kC <-zbg h i
  let g <-kC.lookup ziY
  let (t,at_) <-zgU g
  let (x,h) <-eE Φ vs arg h
  Φ 30 [.give t at_,x] h
 | .mk arg,h=>do
  let (x,h) <-eE Φ vs arg h
  let (r,h') <-Φ 26 [.inst h.length,x] (h++[.attrs []])
  let _ <-zfd r
  pure (.inst h.length,h')
 | .len a,h=>do
  let (x,h) <-eE Φ vs a h
  let n <-zdh h x
  pure (.int n,h)
 | .rg args,h=>do
  let (x,h) <-eE Φ vs args h
  let xs <-zbz x
  let r <-zsG xs
  pure (r,h)
 | .sum a,h=>do
  let (x,h) <-eE Φ vs a h
  let l <-zem x
  let n <-sumV l
  pure (.int n,h)
 | .min a,h=>do
  let (x,h) <-eE Φ vs a h
  let l <-zem x
  let n <-minV l
  pure (.int n,h)
 | .min2 a b,h=>do
  let (x,h) <-eE Φ vs a h
  let (y,h) <-eE Φ vs b h
  let i <-za6 x
  let j <-za6 y
  pure (.int (if j<i then j else i),h)
 | .sorted a,h=>do
  let (x,h) <-eE Φ vs a h
  let l <-zem x
  let ps <-pairsOf l
  if ps.length=4 then pure (.lA ((zmv ps).map λp=>.tup [.int p.1,.int p.2]),h) else none
 | .list a,h=>do
  let (x,h) <-eE Φ vs a h
  let l <-zem x
  if l.length<=zad then pure (.lA l,h) else none
 | .iter o,h=>do
  let (o,h) <-eE Φ vs o h
  let i <-zcw o
  let _ <-zbg h i
  pure (.rdch i,h)
 | .enum a,h=>do
  let (x,h) <-eE Φ vs a h
  let l <-zbz x
  pure (.lA ((List.range l.length).zipWith (λ(i:Nat) v=>.tup [.int i,v]) l),h)
 | .rev a,h=>do
  let (x,h) <-eE Φ vs a h
  let b <-upOf x
  if 0<=b/\b<=1000 then pure (.lA ((List.range b.toNat).map λ(i:Nat)=>.int (b-1+(i:Int)* -1)),h) else none
 | .idx a i,h=>do
  let (x,h) <-eE Φ vs a h
  let (y,h) <-eE Φ vs i h
  let z <-zb9 h x y
  pure (z,h)
 | .slc a lo hi,h=>do
  let (x,h) <-eE Φ vs a h
  let (l,h) <-eE Φ vs lo h
  let (u,h) <-eE Φ vs hi h
  let z <-zeu x l u
  pure (z,h)
 | .tup es,h=>do
  let (x,h) <-eE Φ vs es h
  let xs <-zbz x
  if xs.all flat=true then pure (.tup xs,h) else none
 | .lA es,h=>do
  let (x,h) <-eE Φ vs es h
  let xs <-zbz x
  if xs.all flat=true then pure (.lA xs,h) else none
 | .dlit kC,h=>some (.dI (kC.map λp=>(p.1,.int p.2)),h)
 | .emptyD,h=>some (.dI [],h)
 | .get d k x,h=>do
  let (d,h) <-eE Φ vs d h
  let (k,h) <-eE Φ vs k h
  let (x,h) <-eE Φ vs x h
  let z <-getV x d k
  pure (z,h)
 | .join s l,h=>do
  let (s,h) <-eE Φ vs s h
  let (l,h) <-eE Φ vs l h
  let s <-zbm s
  let xs <-zgE h l
  let ss <-zfh xs
  if(ss.map List.length).sum+ss.length*s.length<=zad then pure (.str (zgy s ss),h) else none
 | .count s x,h=>do
  let (s,h) <-eE Φ vs s h
  let (x,h) <-eE Φ vs x h
  let s <-zbm s
  let c <-zpv x
  pure (.int (s.count c),h)
 | .append l x,h=>do
  let (l,h) <-eE Φ vs l h
  let i <-zeW l
  let _ <-zdP h i
  let (x,h) <-eE Φ vs x h
  let vs <-zdP h i
  if flat x/\vs.length<=zad then pure (.none,h.set i (.list (vs++[x]))) else none
 | .pop l,h=>do
  let (l,h) <-eE Φ vs l h
  let i <-zeW l
  let vs <-zdP h i
  let x <-vs.getLast?
  if vs.length<=zad then pure (x,h.set i (.list vs.dropLast)) else none
 | .pop0 l,h=>do
  let (l,h) <-eE Φ vs l h
  let i <-zeW l
  let vs <-zdP h i
  let (x,vs) <-zsB vs
  if vs.length<=zad then pure (x,h.set i (.list vs)) else none
 | .attr o name,h=>do
  let (o,h) <-eE Φ vs o h
  let i <-zcw o
  let kC <-zbg h i
  let x <-kC.lookup name
  match x with
  | .give _ _=>none
  |x=>pure (x,h)
 | .comp tA it cond elt,h=>do
  let (it,h) <-eE Φ vs it h
  let xs <-zak tA it
  let (acc,h) <-zaB (λx (st:List V×H)=>do
   let vs' <-zbC vs tA x
   let (b,h) <-eE Φ vs' cond st.2
   let t <-zaT h b
   if t then do
    let (y,h) <-eE Φ vs' elt h
    if flat y then pure (st.1++[y],h) else none
   else pure (st.1,h)) xs ([],h)
  pure (.lA acc,h)
 | .comp2 x it y it2 cond elt,h=>do
  let (it,h) <-eE Φ vs it h
  let xs <-zak [x] it
  let (acc,h) <-zaB (λa (st:List V×H)=>do
   let (it2,h) <-eE Φ ((vs.set x a).set y .uA) it2 st.2
   let ys <-zak [y] it2
   zaB (λb (st:List V×H)=>do
    let (t,h) <-eE Φ ((vs.set x a).set y b) cond st.2
    let t <-zaT h t
    if t then do
     let (z,h) <-eE Φ ((vs.set x a).set y b) elt h
     if flat z=true/\st.1.length<=zad then pure (st.1++[z],h) else none
    else pure (st.1,h)) ys (st.1,h)) xs ([],h)
  pure (.lA acc,h)
 | .dcomp x it k v,h=>do
  let (it,h) <-eE Φ vs it h
  let xs <-zak [x] it
  let (acc,h) <-zaB (λa (st:List (List Nat×Sc)×H)=>do
   let (k,h) <-eE Φ (vs.set x a) k st.2
   let (v,h) <-eE Φ (vs.set x a) v h
   let k <-zbm k
   let v <-zlj v
   pure (zeD k v st.1,h)) xs ([],h)
  pure (.dS acc,h)
 | .nil,h=>some (.tup [],h)
 | .cons e es,h=>do
  let (x,h) <-eE Φ vs e h
  let (r,h) <-eE Φ vs es h
  let xs <-zbz r
  pure (.tup (x::xs),h)
noncomputable def zjd(h:H)(v:V):Option (V×H):=by
 induction v using V.casesOn with
 |lA vs=>exact some (.obj h.length,h++[.list vs])
 |dI kC=>exact some (.obj h.length,h++[.dI kC])
 |rdch i=>exact some (.obj h.length,h++[.citer i true])
 |_=>exact none
noncomputable def frzOf(o:Ob):Option V:=by
 induction o using Ob.casesOn with
 |list vs=>exact some (.lA vs)
 |dI kC=>exact some (.dI kC)
 |dS kC=>exact some (.dS kC)
 |_=>exact none
noncomputable def zdO(h:H)(v:V):Option (V×H):=(zeW v).bind λi=>(h[i]?).bind λo=>(frzOf o).map λw=>(w,h.set i .gone)
noncomputable def za9:List Nat->Vs×H->Option (Vs×H)
 |[],st=>some st
 |x::xs,(vs,h)=>do
  let v <-vs[x]?
  let (w,h) <-zdO h v
  za9 xs (vs.set x w,h)
theorem zrH{st:Vs×H}:za9 [] st=some st:=rfl
theorem zrI{x:Nat}{xs:List Nat}{vs:Vs}{h:H}:za9 (x::xs) (vs,h)=(vs[x]?).bind λv=>(zdO h v).bind λp=>za9 xs (vs.set x p.1,p.2):=rfl
noncomputable def setItem(h:H)(o i x:V):Option H:=(zeW o).bind λa=>(h[a]?).bind λb=>
 by
 induction b using Ob.casesOn with
 |list vs=>exact(za6 i).bind λk=>(zcE vs.length k).bind λj=>if flat x then some (h.set a (.list (vs.set j x))) else none
 |dI kC=>exact onI i (λk=>(zlj x).bind λx=>zil kC.length (h.set a (.dI (zeD k x kC)))) ((zbm i).bind λk=>(zlj x).bind λx=>if kC.isEmpty then some (h.set a (.dS [(k,x)])) else none)
 |dS kC=>exact(zbm i).bind λk=>(zlj x).bind λx=>zil kC.length (h.set a (.dS (zeD k x kC)))
 |_=>exact none
noncomputable def setAttr(h:H)(o:V)(n:Nat)(x:V):Option H:=
 (zcw o).bind λa=>(zbg h a).bind λkC=>if kC.length<=8 then some (h.set a (.attrs (if kC.any (·.1==n) then kC.map (λp=>if p.1==n then(n,x) else p) else kC++[(n,x)]))) else none
theorem zrt(h:H)(x y:Int):zbl .Lt h (.int x) (.int y)=some (decide (x<y)):=rfl
theorem zqD(h:H)(x y:Int):zbl .Gt h (.int x) (.int y)=some (decide (y<x)):=rfl
theorem zmI(h:H)(x y:Int):zbl .Eq h (.int x) (.int y)=some (x==y):=rfl
theorem c_le(h:H)(x y:Int):zbl .LtE h (.int x) (.int y)=some (decide (x<=y)):=rfl
theorem zpr(h:H)(x y:List Nat):zbl .Eq h (.str x) (.str y)=some (x==y):=rfl
theorem zaL(h:H)(b:Bool):zaT h (.bool b)=some b:=rfl
theorem zh8(h:H)(i:Int):zaT h (.int i)=some (i != 0):=rfl
theorem zc2(h:H)(x y:Int):zaU .Add h (.int x) (.int y)=some (.int (x+y)):=rfl
theorem zha(h:H)(x y:Int):zaU .Sub h (.int x) (.int y)=some (.int (x-y)):=rfl
theorem b_and(h:H)(x y:Int):zaU .BitAnd h (.int x) (.int y)=some (.int (Builtin.bitAnd x y)):=rfl
theorem b_shr(h:H)(x:Int):zaU .RShift h (.int x) (.int 1)=some (.int (x.fdiv 2)):=rfl
theorem t_lst{h:H}{l:List V}(z:l.length<=zad):zaT h (.lA l)=some (!l.isEmpty):=fit z
theorem zqk{h:H}{i:Nat}{l:List V}(e:h[i]?=some (.list l))(z:l.length<=zad):zaT h (.obj i)=some (!l.isEmpty):=bs e (fit z)
theorem n_str{h:H}{l:List Nat}(z:l.length<=zad):zdh h (.str l)=some (l.length:Int):=fit z
theorem n_lst{h:H}{l:List V}(z:l.length<=zad):zdh h (.lA l)=some (l.length:Int):=fit z
theorem zsp{h:H}{i:Nat}{l:List V}(e:h[i]?=some (.list l))(z:l.length<=zad):zdh h (.obj i)=some (l.length:Int):=bs (bs e rfl) (fit z)
theorem zoi{l:List V}{j:Nat}{v:V}(e:l[j]?=some v)(z:l.length<=zad):zoh l (.int (j:Int))=some v:=bs rfl (bs (zm7 (List.getElem?_eq_some_iff.mp e).1 z) e)
theorem i_obj{h:H}{o j:Nat}{l:List V}{v:V}(ho:h[o]?=some (.list l))(e:l[j]?=some v)(z:l.length<=zad):zb9 h (.obj o) (.int (j:Int))=some v:=bs ho (zoi e z)
theorem i_str{h:H}{l:List Nat}{j c:Nat}(e:l[j]?=some c)(z:l.length<=zad):zb9 h (.str l) (.int (j:Int))=some (.str [c]):=by show (zcE l.length (j:Int)).bind _=_;refine rwl (zm7 (List.getElem?_eq_some_iff.mp e).1 z) ?_;show (l[j]?).map _=_;refine rwl e ?_;rfl
theorem i_oI{h:H}{o:Nat}{kC:List (Int×Sc)}{k:Int}{s:Sc}(ho:h[o]?=some (.dI kC))(e:kC.lookup k=some s):zb9 h (.obj o) (.int k)=some s.v:=bs ho (show (kC.lookup k).map Sc.v=_ from e▸rfl)
theorem i_dI{h:H}{kC:List (Int×Sc)}{k:Int}{s:Sc}(e:kC.lookup k=some s):zb9 h (.dI kC) (.int k)=some s.v:=show (kC.lookup k).map Sc.v=_ from e▸rfl
theorem i_dS{h:H}{kC:List (List Nat×Sc)}{k:List Nat}{s:Sc}(e:kC.lookup k=some s):zb9 h (.dS kC) (.str k)=some s.v:=show (kC.lookup k).map Sc.v=_ from e▸rfl
theorem s_obj{h:H}{o j:Nat}{l:List V}{x:V}(ho:h[o]?=some (.list l))(e:j<l.length)(z:l.length<=zad)(f:flat x=true):setItem h (.obj o) (.int (j:Int)) x=some (h.set o (.list (l.set j x))):=bs rfl (bs ho (bs rfl (bs (zm7 e z) (if_pos f))))
theorem s_oI{h:H}{o:Nat}{kC:List (Int×Sc)}{k:Int}{x:V}{s:Sc}(ho:h[o]?=some (.dI kC))(hs:zlj x=some s)(hz:kC.length<=zad):setItem h (.obj o) (.int k) x=some (h.set o (.dI (zeD k s kC))):=bs rfl (bs ho (bs hs (fit hz)))
noncomputable def flK{α:Type}(f:Fl)(go:α)(out:Fl->α):α:=by
 induction f using Fl.casesOn with
 |next=>exact go
 |cont=>exact go
 |brk=>exact out .next
 |ret v=>exact out (.ret v)
noncomputable def zcZ(orelse:Vs×H->Option (Fl×Vs×H))(r:Option (Option Fl×Vs×H)):Option (Fl×Vs×H):=r.bind λp=>p.1.elim (orelse p.2) λf=>some (f,p.2)
theorem fl_N{o:Vs×H->Option (Fl×Vs×H)}{st:Vs×H}:zcZ o (some (none,st))=o st:=rfl
theorem fl_S{o:Vs×H->Option (Fl×Vs×H)}{f:Fl}{st:Vs×H}:zcZ o (some (some f,st))=some (f,st):=rfl
noncomputable def zgz(next:Vs×H->Option (Option Fl×Vs×H))(r:Option (Fl×Vs×H)):Option (Option Fl×Vs×H):=r.bind λp=>flK p.1 (next p.2) λf=>some (some f,p.2)
theorem lk_n{k:Vs×H->Option (Option Fl×Vs×H)}{st:Vs×H}:zgz k (some (.next,st))=k st:=rfl
noncomputable def zbZ(body:Vs×H->Option (Fl×Vs×H))(tA:List Nat)(l:List V):Vs×H->Option (Option Fl×Vs×H):=
 List.rec (motive:=λ_=>Vs×H->Option (Option Fl×Vs×H)) (λst=>some (none,st)) (λx _ k st=>(zbC st.1 tA x).bind λvs=>zgz k (body (vs,st.2))) l
section
variable {body:Vs×H->Option (Fl×Vs×H)}{tA:List Nat}{x:V}{xs:List V}{vs vs1:Vs}{h:H}{st:Vs×H}{v:V}
theorem lo_0:zbZ body tA [] st=some (none,st):=rfl
theorem lo_s:zbZ body tA (x::xs) (vs,h)=(zbC vs tA x).bind λvs=>zgz (zbZ body tA xs) (body (vs,h)):=rfl
theorem zf3(b:zbC vs tA x=some vs1)(e:body (vs1,h)=some (.next,st)):zbZ body tA (x::xs) (vs,h)=zbZ body tA xs st:=bs b (bs e rfl)
theorem lo_b(b:zbC vs tA x=some vs1)(e:body (vs1,h)=some (.brk,st)):zbZ body tA (x::xs) (vs,h)=some (some .next,st):=bs b (bs e rfl)
theorem lo_r(b:zbC vs tA x=some vs1)(e:body (vs1,h)=some (.ret v,st)):zbZ body tA (x::xs) (vs,h)=some (some (.ret v),st):=bs b (bs e rfl)
end
noncomputable def zb8(next:Nat->H->Option (V×H))(body:Vs×H->Option (Fl×Vs×H))(it tA:Nat)(n:Nat):Vs×H->Option (Option Fl×Vs×H):=
 Nat.rec (motive:=λ_=>Vs×H->Option (Option Fl×Vs×H)) (λ_=>none) (λ_ k st=>(zd7 st.2 it).bind λp=>cond p.2 ((next p.1 st.2).bind λu=>(zbm u.1).bind λl=>(zd7 u.2 it).bind λq=>
  cond q.2 (if l=[] then some (none,st.1,u.2.set it (.citer q.1 false)) else zgz k (body (st.1.set tA (.str l),u.2))) none) (some (none,st))) n
section
variable {next:Nat->H->Option (V×H)}{body:Vs×H->Option (Fl×Vs×H)}{it tA n i j:Nat}{vs:Vs}{h hJ:H}{l:List Nat}{st:Vs×H}{r:Option (Option Fl×Vs×H)}
theorem cl_k(a:zd7 h it=some (i,true))(b:next i h=some (.str l,hJ))(c:zd7 hJ it=some (j,true))(hl:l≠[])(e:zgz (zb8 next body it tA n) (body (vs.set tA (.str l),hJ))=r):zb8 next body it tA (n+1) (vs,h)=r:=bs a (bs b (bs rfl (bs c ((if_neg hl).trans e))))
theorem cl_e(a:zd7 h it=some (i,true))(b:next i h=some (.str [],hJ))(c:zd7 hJ it=some (j,true)):zb8 next body it tA (n+1) (vs,h)=some (none,vs,hJ.set it (.citer j false)):=bs a (bs b (bs rfl (bs c rfl)))
end
noncomputable def zdr(test:Vs×H->Option (Bool×H))(body:Vs×H->Option (Fl×Vs×H))(n:Nat):Vs×H->Option (Fl×Vs×H):=
 Nat.rec (motive:=λ_=>Vs×H->Option (Fl×Vs×H)) (λ_=>none) (λ_ k st=>(test st).bind λp=>cond p.1 ((body (st.1,p.2)).bind λr=>flK r.1 (k r.2) λf=>some (f,r.2)) (some (.next,st.1,p.2))) n
section
variable {test:Vs×H->Option (Bool×H)}{body:Vs×H->Option (Fl×Vs×H)}{n:Nat}{vs:Vs}{h hJ:H}{st:Vs×H}{v:V}
theorem wl_0(t:test (vs,h)=some (false,hJ)):zdr test body (n+1) (vs,h)=some (.next,vs,hJ):=bs t rfl
theorem wl_n(t:test (vs,h)=some (true,hJ))(e:body (vs,hJ)=some (.next,st)):zdr test body (n+1) (vs,h)=zdr test body n st:=bs t (bs e rfl)
theorem wl_c(t:test (vs,h)=some (true,hJ))(e:body (vs,hJ)=some (.cont,st)):zdr test body (n+1) (vs,h)=zdr test body n st:=bs t (bs e rfl)
theorem wl_b(t:test (vs,h)=some (true,hJ))(e:body (vs,hJ)=some (.brk,st)):zdr test body (n+1) (vs,h)=some (.next,st):=bs t (bs e rfl)
end
noncomputable def zaq:Nat:=200
noncomputable def eF(Φ:PA):S->Vs×H->Option (Fl×Vs×H)
 | .skip,st=>some (.next,st)
 | .seq a b,st=>match eF Φ a st with
  |some (.next,st)=>eF Φ b st
  |r=>r
 | .expr e,(vs,h)=>do
  let (x,h) <-eE Φ vs e h
  let _ <-zfd x
  pure (.next,vs,h)
 | .ret e,(vs,h)=>do
  let (x,h) <-eE Φ vs e h
  pure (.ret x,vs,h)
 | .asg i e,(vs,h)=>do
  let (x,h) <-eE Φ vs e h
  pure (.next,vs.set i x,h)
 | .asgM i e,(vs,h)=>do
  let (x,h) <-eE Φ vs e h
  let (x,h) <-zjd h x
  pure (.next,vs.set i x,h)
 | .asgT is e,(vs,h)=>do
  let (x,h) <-eE Φ vs e h
  let xs <-zbz x
  let vs <-zbu vs is xs
  pure (.next,vs,h)
 | .setI o i e,(vs,h)=>do
  let (x,h) <-eE Φ vs e h
  let (o,h) <-eE Φ vs o h
  let (i,h) <-eE Φ vs i h
  let h <-setItem h o i x
  pure (.next,vs,h)
 | .setA o n e,(vs,h)=>do
  let (x,h) <-eE Φ vs e h
  let (o,h) <-eE Φ vs o h
  let h <-setAttr h o n x
  pure (.next,vs,h)
 | .setAM o n e,(vs,h)=>do
  let (x,h) <-eE Φ vs e h
  let (x,h) <-zjd h x
  let (o,h) <-eE Φ vs o h
  let h <-setAttr h o n x
  pure (.next,vs,h)
 | .augV i e,(vs,h)=>do
  let x <-vs[i]?
  let (y,h) <-eE Φ vs e h
  let z <-zpj x y
  pure (.next,vs.set i z,h)
 | .augA o n e,(vs,h)=>do
  let (o,h) <-eE Φ vs o h
  let i <-zcw o
  let kC <-zbg h i
  let x <-kC.lookup n
  let (y,h) <-eE Φ vs e h
  let z <-zpj x y
  let h <-setAttr h o n z
  pure (.next,vs,h)
 | .ifs t a b,(vs,h)=>do
  let (x,h) <-eE Φ vs t h
  let t <-zaT h x
  if t then eF Φ a (vs,h) else eF Φ b (vs,h)
 | .fors tA it body orelse,(vs,h)=>do
  let (it,h) <-eE Φ vs it h
  match it with
  | .obj i=>do
   let x <-zcg tA
   let _ <-zd7 h i
   zcZ (eF Φ orelse) (zb8 (λo h=>Φ 27 [.inst o] h) (eF Φ body) i x zaq (vs,h))
  |it=>do
   let xs <-zak tA it
   zcZ (eF Φ orelse) (zbZ (eF Φ body) tA xs (vs,h))
 | .whiles t body,(vs,h)=>
  zdr (λst=>do
   let (x,h) <-eE Φ st.1 t st.2
   let b <-zaT h x
   pure (b,h)) (eF Φ body) zaq (vs,h)
 | .brk,st=>some (.brk,st)
 | .cont,st=>some (.cont,st)
 | .defGive slot tx at_,(vs,h)=>do
  let t <-vs[tx]?
  let t <-zbm t
  let a <-vs[at_]?
  let i <-zeW a
  let o <-h[0]?
  let _ <-zsw o
  pure (.next,vs.set slot (.give t i),h.set 0 .tabg)
 | .frz xs s,st=>do
  let st <-za9 xs st
  eF Φ s st
theorem zbL{Φ:PA}:eE Φ vs (.c v) h=(some (v,h)):=rfl
theorem zaF{Φ:PA}:eE Φ vs (.v i) h=( match vs[i]? with
 |some .uA=>none
 |some x=>some (x,h)
 |none=>none):=rfl
theorem zaz{Φ:PA}:eE Φ vs (.bin op a b) h=( do
 let (x,h) <-eE Φ vs a h
 let (y,h) <-eE Φ vs b h
 let z <-zaU op h x y
 pure (z,h)):=rfl
theorem zc9{Φ:PA}:eE Φ vs (.neg a) h=( do
 let (x,h) <-eE Φ vs a h
 let i <-za6 x
 pure (.int (-i),h)):=rfl
theorem zcc{Φ:PA}:eE Φ vs (.not a) h=( do
 let (x,h) <-eE Φ vs a h
 let b <-zaT h x
 pure (.bool (!b),h)):=rfl
theorem zcT{Φ:PA}:eE Φ vs (.and a b) h=( do
 let (x,h) <-eE Φ vs a h
 let t <-zaT h x
 if t then eE Φ vs b h else pure (x,h)):=rfl
theorem zgx{Φ:PA}:eE Φ vs (.or a b) h=( do
 let (x,h) <-eE Φ vs a h
 let t <-zaT h x
 if t then pure (x,h) else eE Φ vs b h):=rfl
theorem zc8{Φ:PA}:eE Φ vs (.ite t a b) h=( do
 let (x,h) <-eE Φ vs t h
 let t <-zaT h x
 if t then eE Φ vs a h else eE Φ vs b h):=rfl
theorem zaI{Φ:PA}:eE Φ vs (.cmp op a b) h=( do
 let (x,h) <-eE Φ vs a h
 let (y,h) <-eE Φ vs b h
 let z <-zbl op h x y
 pure (.bool z,h)):=rfl
theorem zav{Φ:PA}:eE Φ vs (.call f args) h=( do
 let (x,h) <-eE Φ vs args h
 let xs <-zbz x
 Φ f xs h):=rfl
theorem zbq{Φ:PA}:eE Φ vs (.meth f self args) h=( do
 let (o,h) <-eE Φ vs self h
 let i <-zcw o
 let _ <-zbg h i
 let (x,h) <-eE Φ vs args h
 let xs <-zbz x
 Φ f (.inst i::xs) h):=rfl
theorem zco{Φ:PA}:eE Φ vs (.read o arg) h=( do
 let (o,h) <-eE Φ vs o h
 let i <-zcw o
 let kC <-zbg h i
 let g <-kC.lookup ziY
 let (t,at_) <-zgU g
 let (x,h) <-eE Φ vs arg h
 Φ 30 [.give t at_,x] h):=rfl
theorem zhg{Φ:PA}:eE Φ vs (.mk arg) h=( do
 let (x,h) <-eE Φ vs arg h
 let (r,h') <-Φ 26 [.inst h.length,x] (h++[.attrs []])
 let _ <-zfd r
 pure (.inst h.length,h')):=rfl
theorem zaV{Φ:PA}:eE Φ vs (.len a) h=( do
 let (x,h) <-eE Φ vs a h
 let n <-zdh h x
 pure (.int n,h)):=rfl
theorem zcI{Φ:PA}:eE Φ vs (.rg args) h=( do
 let (x,h) <-eE Φ vs args h
 let xs <-zbz x
 let r <-zsG xs
 pure (r,h)):=rfl
theorem zcV{Φ:PA}:eE Φ vs (.sum a) h=( do
 let (x,h) <-eE Φ vs a h
 let l <-zem x
 let n <-sumV l
 pure (.int n,h)):=rfl
theorem zdL{Φ:PA}:eE Φ vs (.min a) h=( do
 let (x,h) <-eE Φ vs a h
 let l <-zem x
 let n <-minV l
 pure (.int n,h)):=rfl
theorem zcm{Φ:PA}:eE Φ vs (.min2 a b) h=( do
 let (x,h) <-eE Φ vs a h
 let (y,h) <-eE Φ vs b h
 let i <-za6 x
 let j <-za6 y
 pure (.int (if j<i then j else i),h)):=rfl
theorem zbj{Φ:PA}:eE Φ vs (.sorted a) h=( do
 let (x,h) <-eE Φ vs a h
 let l <-zem x
 let ps <-pairsOf l
 if ps.length=4 then pure (.lA ((zmv ps).map λp=>.tup [.int p.1,.int p.2]),h) else none):=rfl
theorem zcl{Φ:PA}:eE Φ vs (.list a) h=( do
 let (x,h) <-eE Φ vs a h
 let l <-zem x
 if l.length<=zad then pure (.lA l,h) else none):=rfl
theorem zcH{Φ:PA}:eE Φ vs (.iter o) h=( do
 let (o,h) <-eE Φ vs o h
 let i <-zcw o
 let _ <-zbg h i
 pure (.rdch i,h)):=rfl
theorem zcG{Φ:PA}:eE Φ vs (.enum a) h=( do
 let (x,h) <-eE Φ vs a h
 let l <-zbz x
 pure (.lA ((List.range l.length).zipWith (λ(i:Nat) v=>.tup [.int i,v]) l),h)):=rfl
theorem zeb{Φ:PA}:eE Φ vs (.rev a) h=( do
 let (x,h) <-eE Φ vs a h
 let b <-upOf x
 if 0<=b/\b<=1000 then pure (.lA ((List.range b.toNat).map λ(i:Nat)=>.int (b-1+(i:Int)* -1)),h) else none):=rfl
theorem zar{Φ:PA}:eE Φ vs (.idx a i) h=( do
 let (x,h) <-eE Φ vs a h
 let (y,h) <-eE Φ vs i h
 let z <-zb9 h x y
 pure (z,h)):=rfl
theorem zcs{Φ:PA}:eE Φ vs (.slc a lo hi) h=( do
 let (x,h) <-eE Φ vs a h
 let (l,h) <-eE Φ vs lo h
 let (u,h) <-eE Φ vs hi h
 let z <-zeu x l u
 pure (z,h)):=rfl
theorem zbM{Φ:PA}:eE Φ vs (.tup es) h=( do
 let (x,h) <-eE Φ vs es h
 let xs <-zbz x
 if xs.all flat=true then pure (.tup xs,h) else none):=rfl
theorem zcU{Φ:PA}:eE Φ vs (.lA es) h=( do
 let (x,h) <-eE Φ vs es h
 let xs <-zbz x
 if xs.all flat=true then pure (.lA xs,h) else none):=rfl
theorem zcF{Φ:PA}:eE Φ vs (.dlit kC) h=(some (.dI (kC.map λp=>(p.1,.int p.2)),h)):=rfl
theorem zbi{Φ:PA}:eE Φ vs (.emptyD) h=(some (.dI [],h)):=rfl
theorem zc7{Φ:PA}:eE Φ vs (.get d k x) h=( do
 let (d,h) <-eE Φ vs d h
 let (k,h) <-eE Φ vs k h
 let (x,h) <-eE Φ vs x h
 let z <-getV x d k
 pure (z,h)):=rfl
theorem zb4{Φ:PA}:eE Φ vs (.join s l) h=( do
 let (s,h) <-eE Φ vs s h
 let (l,h) <-eE Φ vs l h
 let s <-zbm s
 let xs <-zgE h l
 let ss <-zfh xs
 if(ss.map List.length).sum+ss.length*s.length<=zad then pure (.str (zgy s ss),h) else none):=rfl
theorem zbJ{Φ:PA}:eE Φ vs (.count s x) h=( do
 let (s,h) <-eE Φ vs s h
 let (x,h) <-eE Φ vs x h
 let s <-zbm s
 let c <-zpv x
 pure (.int (s.count c),h)):=rfl
theorem zaA{Φ:PA}:eE Φ vs (.append l x) h=( do
 let (l,h) <-eE Φ vs l h
 let i <-zeW l
 let _ <-zdP h i
 let (x,h) <-eE Φ vs x h
 let vs <-zdP h i
 if flat x/\vs.length<=zad then pure (.none,h.set i (.list (vs++[x]))) else none):=rfl
theorem zdM{Φ:PA}:eE Φ vs (.pop l) h=( do
 let (l,h) <-eE Φ vs l h
 let i <-zeW l
 let vs <-zdP h i
 let x <-vs.getLast?
 if vs.length<=zad then pure (x,h.set i (.list vs.dropLast)) else none):=rfl
theorem zcn{Φ:PA}:eE Φ vs (.pop0 l) h=( do
 let (l,h) <-eE Φ vs l h
 let i <-zeW l
 let vs <-zdP h i
 let (x,vs) <-zsB vs
 if vs.length<=zad then pure (x,h.set i (.list vs)) else none):=rfl
theorem zbE{Φ:PA}:eE Φ vs (.attr o name) h=( do
 let (o,h) <-eE Φ vs o h
 let i <-zcw o
 let kC <-zbg h i
 let x <-kC.lookup name
 match x with
 | .give _ _=>none
 |x=>pure (x,h)):=rfl
theorem zck{Φ:PA}:eE Φ vs (.comp tA it cnd elt) h=( do
 let (it,h) <-eE Φ vs it h
 let xs <-zak tA it
 let (acc,h) <-zaB (λx (st:List V×H)=>do
  let vs' <-zbC vs tA x
  let (b,h) <-eE Φ vs' cnd st.2
  let t <-zaT h b
  if t then do
   let (y,h) <-eE Φ vs' elt h
   if flat y then pure (st.1++[y],h) else none
  else pure (st.1,h)) xs ([],h)
 pure (.lA acc,h)):=rfl
theorem zbI{Φ:PA}:eE Φ vs (.comp2 x it y it2 cnd elt) h=( do
 let (it,h) <-eE Φ vs it h
 let xs <-zak [x] it
 let (acc,h) <-zaB (λa (st:List V×H)=>do
  let (it2,h) <-eE Φ ((vs.set x a).set y .uA) it2 st.2
  let ys <-zak [y] it2
  zaB (λb (st:List V×H)=>do
   let (t,h) <-eE Φ ((vs.set x a).set y b) cnd st.2
   let t <-zaT h t
   if t then do
    let (z,h) <-eE Φ ((vs.set x a).set y b) elt h
    if flat z=true/\st.1.length<=zad then pure (st.1++[z],h) else none
   else pure (st.1,h)) ys (st.1,h)) xs ([],h)
 pure (.lA acc,h)):=rfl
theorem zbK{Φ:PA}:eE Φ vs (.dcomp x it k v) h=( do
 let (it,h) <-eE Φ vs it h
 let xs <-zak [x] it
 let (acc,h) <-zaB (λa (st:List (List Nat×Sc)×H)=>do
  let (k,h) <-eE Φ (vs.set x a) k st.2
  let (v,h) <-eE Φ (vs.set x a) v h
  let k <-zbm k
  let v <-zlj v
  pure (zeD k v st.1,h)) xs ([],h)
 pure (.dS acc,h)):=rfl
theorem zap{Φ:PA}:eE Φ vs (.nil) h=(some (.tup [],h)):=rfl
theorem zag{Φ:PA}:eE Φ vs (.cons e es) h=( do
 let (x,h) <-eE Φ vs e h
 let (r,h) <-eE Φ vs es h
 let xs <-zbz r
 pure (.tup (x::xs),h)):=rfl
theorem zaW{Φ:PA}:eF Φ (.skip) st=(some (.next,st)):=rfl
theorem zaJ{Φ:PA}:eF Φ (.seq a b) st=( match eF Φ a st with
 |some (.next,st)=>eF Φ b st
 |r=>r):=rfl
theorem za5{Φ:PA}:eF Φ (.expr e) (vs,h)=( do
 let (x,h) <-eE Φ vs e h
 let _ <-zfd x
 pure (.next,vs,h)):=rfl
theorem za2{Φ:PA}:eF Φ (.ret e) (vs,h)=( do
 let (x,h) <-eE Φ vs e h
 pure (.ret x,vs,h)):=rfl
theorem zaw{Φ:PA}:eF Φ (.asg i e) (vs,h)=( do
 let (x,h) <-eE Φ vs e h
 pure (.next,vs.set i x,h)):=rfl
theorem zb5{Φ:PA}:eF Φ (.asgM i e) (vs,h)=( do
 let (x,h) <-eE Φ vs e h
 let (x,h) <-zjd h x
 pure (.next,vs.set i x,h)):=rfl
theorem zeK{Φ:PA}:eF Φ (.asgT is e) (vs,h)=( do
 let (x,h) <-eE Φ vs e h
 let xs <-zbz x
 let vs <-zbu vs is xs
 pure (.next,vs,h)):=rfl
theorem zbR{Φ:PA}:eF Φ (.setI o i e) (vs,h)=( do
 let (x,h) <-eE Φ vs e h
 let (o,h) <-eE Φ vs o h
 let (i,h) <-eE Φ vs i h
 let h <-setItem h o i x
 pure (.next,vs,h)):=rfl
theorem zhj{Φ:PA}:eF Φ (.setA o n e) (vs,h)=( do
 let (x,h) <-eE Φ vs e h
 let (o,h) <-eE Φ vs o h
 let h <-setAttr h o n x
 pure (.next,vs,h)):=rfl
theorem zfp{Φ:PA}:eF Φ (.setAM o n e) (vs,h)=( do
 let (x,h) <-eE Φ vs e h
 let (x,h) <-zjd h x
 let (o,h) <-eE Φ vs o h
 let h <-setAttr h o n x
 pure (.next,vs,h)):=rfl
theorem zfP{Φ:PA}:eF Φ (.augV i e) (vs,h)=( do
 let x <-vs[i]?
 let (y,h) <-eE Φ vs e h
 let z <-zpj x y
 pure (.next,vs.set i z,h)):=rfl
theorem zhh{Φ:PA}:eF Φ (.augA o n e) (vs,h)=( do
 let (o,h) <-eE Φ vs o h
 let i <-zcw o
 let kC <-zbg h i
 let x <-kC.lookup n
 let (y,h) <-eE Φ vs e h
 let z <-zpj x y
 let h <-setAttr h o n z
 pure (.next,vs,h)):=rfl
theorem zdN{Φ:PA}:eF Φ (.ifs t a b) (vs,h)=( do
 let (x,h) <-eE Φ vs t h
 let t <-zaT h x
 if t then eF Φ a (vs,h) else eF Φ b (vs,h)):=rfl
theorem zcJ{Φ:PA}:eF Φ (.fors tA it body orelse) (vs,h)=( do
 let (it,h) <-eE Φ vs it h
 match it with
 | .obj i=>do
  let x <-zcg tA
  let _ <-zd7 h i
  zcZ (eF Φ orelse) (zb8 (λo h=>Φ 27 [.inst o] h) (eF Φ body) i x zaq (vs,h))
 |it=>do
  let xs <-zak tA it
  zcZ (eF Φ orelse) (zbZ (eF Φ body) tA xs (vs,h))):=rfl
theorem zda{Φ:PA}:eF Φ (.whiles t body) (vs,h)=(
 zdr (λst=>do
  let (x,h) <-eE Φ st.1 t st.2
  let b <-zaT h x
  pure (b,h)) (eF Φ body) zaq (vs,h)):=rfl
theorem ziG{Φ:PA}:eF Φ (.brk) st=(some (.brk,st)):=rfl
theorem zhi{Φ:PA}:eF Φ (.cont) st=(some (.cont,st)):=rfl
theorem zdu{Φ:PA}:eF Φ (.defGive slot tx at_) (vs,h)=( do
 let t <-vs[tx]?
 let t <-zbm t
 let a <-vs[at_]?
 let i <-zeW a
 let o <-h[0]?
 let _ <-zsw o
 pure (.next,vs.set slot (.give t i),h.set 0 .tabg)):=rfl
theorem zcW{Φ:PA}:eF Φ (.frz xs s) st=( do
 let st <-za9 xs st
 eF Φ s st):=rfl
noncomputable abbrev Gam:=List (Str×Nat)
noncomputable def zhp:List (Str×F):=[("heappop",0),("heapreplace",1),("heapify",2),("_siftdown",3),("_siftup",4),
 ("S_IMODE",5),("S_IFMT",6),("S_ISDIR",7),("S_ISLNK",8),("filemode",9),
 ("_law_drawn",10),("_law_row",11),("_law_chain",12),("_law_written",13),("_law_step",14),("_law_turn",15),("_law_known",16),("_law_ring",17),
 ("_law_by_turns_had",18),("_law_shortest_first",19),("_law_told_ring",20),("_law_told_shortest",21),("_law_least",22),("_law_ends",23),("_law_holds",24),("law",25)]
noncomputable def zcp:List (Str×F):=[("__init__",26),("_read_char",27),("get_token",28),("push_token",29)]
noncomputable def zaD:List (Str×Nat):=[("lineno",0),("instream",1),("whitespace",2),("pushback",3),("read",4)]
noncomputable def prog:Program:=PySem.Challenge.pw_oy0178_01
noncomputable def zgn:List Stmt:=prog.main.body
noncomputable def zdQ(e:Expr):Option Str:=by
 induction e using PySem.Expr.casesOn with
 |Name x=>exact some x
 |_=>exact none
noncomputable def zkK(e:Expr):Option Int:=by
 induction e using PySem.Expr.casesOn with
 |Constant c=>induction c using PySem.Const.casesOn with
  |int i=>exact some i
  |_=>exact none
 |_=>exact none
noncomputable def zrk(s:Stmt):Option (Str×Expr):=by
 induction s using PySem.Stmt.casesOn with
 |Assign ts e=>exact(zcg ts).bind λt=>(zdQ t).map λy=>(y,e)
 |_=>exact none
noncomputable def zee:List (Str×Int):=zgn.filterMap λs=>(zrk s).bind λp=>(zkK p.2).map λi=>(p.1,i)
noncomputable def zhx(x:Str):Option V:=(zee.find? λp=>p.1==x).map λp=>.int p.2
noncomputable def znd(c:Const):Option V:=by
 induction c using PySem.Const.casesOn with
 |none=>exact some .none
 |bool b=>exact some (.bool b)
 |int i=>exact some (.int i)
 |str s=>exact some (.str s.cps.toList)
 |_=>exact none
noncomputable def zgg:List Expr->Gam->Option (List Nat)
 |[],_=>some []
 |e::r,Γ=>(zdQ e).bind λx=>(Γ.lookup x).bind λi=>(zgg r Γ).bind λis=>some (i::is)
noncomputable def zbG(Γ:Gam)(e:Expr):Option (List Nat):=by
 induction e using PySem.Expr.casesOn with
 |Name x=>exact(Γ.lookup x).map λi=>[i]
 |Tuple es=>exact if 2<=es.length then zgg es Γ else none
 |_=>exact none
noncomputable def zfb(sc:Scope)(nb:Nat):Gam:=
 let own:=(sc.names.filter λp=>p.2==.local&&p.1 != (".0":Str)).map (·.1)
 own.zip ((List.range own.length).map (nb+·))
noncomputable def zcj(sc:Scope)(Γ:Gam)(nb:Nat):Gam:=zfb sc nb++Γ.filter λp=>sc.names.lookup p.1==some .free
noncomputable def zeg(sc:Scope):Bool:=sc.names.any λp=>p.1==("give":Str)
noncomputable def zc6(sc cD:Scope)(Γ Γ' Γw':Gam)(tA:List Nat):Bool:=
 cD.kind==.function&&cD.names.all (λp=>p.2 != .cell)&&cD.names.all (λp=>p.2 != .local||cD.names.lookup p.1==some .local)&&
 cD.names.all (λp=>p.2 != .free||sc.names.lookup p.1==some .cell||sc.names.lookup p.1==some .free)&&
 Γ'.all (λp=>(cD.names.lookup p.1==some .local&&tA.contains p.2)||(cD.names.any (λq=>q.1==p.1&&q.2==.free)&&cD.names.lookup p.1==some .free&&Γ.lookup p.1==some p.2&& !tA.contains p.2))&&
 Γ'.all (λp=>Γ'.all λq=>p.2 != q.2||p.1==q.1)&&
 Γw'.all (λp=>Γ'.lookup p.1==some p.2&&cD.names.lookup p.1==some .local)&&
 Γ'.all (λp=>p.1 != ("__debug__":Str)&&p.1 != ("__classdict__":Str))&& !zeg cD
noncomputable def zcx(e:Expr):Bool:=by
 induction e using PySem.Expr.casesOn with
 |ListComp=>exact true
 |DictComp=>exact true
 |_=>exact false
noncomputable def zdW(e:Expr):Bool:=by
 induction e using PySem.Expr.casesOn with
 |Call=>exact true
 |_=>exact false
noncomputable def zr2(e:Expr):Bool:=by
 induction e using PySem.Expr.casesOn with
 |Set=>exact true
 |_=>exact false
noncomputable def znO(e:Expr):Bool:=by
 induction e using PySem.Expr.casesOn with
 |Call f as ks=>exact(zdQ f).elim false λf=>(zcg as).isSome&&ks.isEmpty&&f==("enumerate":Str)
 |_=>exact false
noncomputable def zma(e:Expr):Bool:=by
 induction e using PySem.Expr.casesOn with
 |Tuple=>exact true
 |_=>exact false
noncomputable def zgO:List (Option Expr)->List Expr->Option (List (Int×Int))
 |[],es=>if es.isEmpty=true then some [] else none
 |k::ks,es=>(zsB es).bind λp=>(k.bind zkK).bind λi=>(zkK p.1).bind λj=>(zgO ks p.2).map λr=>(i,j)::r
noncomputable def zaP:E:=.neg .nil
noncomputable def zd6:S:=.expr .nil
noncomputable def on1{α β:Type}(z:β)(l:List α)(f:α->β):β:=(zcg l).elim z f
noncomputable def on2{α β:Type}(z:β)(l:List α)(f:α->α->β):β:=(zqu l).elim z λp=>f p.1 p.2
noncomputable def ziD(l:List E):E:=l.foldr .cons .nil
noncomputable def slOf(e:Expr):Option (Option Expr×Option Expr):=by
 induction e using PySem.Expr.casesOn with
 |Slice lo hi st=>exact cond st.isNone (some (lo,hi)) none
 |_=>exact none
noncomputable def callE(f:Str)(as:List E):E:=
 (zhp.lookup f).elim
  (cond (f==("_netrclex":Str)) (on1 zaP as .mk)
  (cond (f==("len":Str)) (on1 zaP as .len)
  (cond (f==("range":Str)) (.rg (ziD as))
  (cond (f==("sum":Str)) (on1 zaP as .sum)
  (cond (f==("min":Str)) (on1 (on2 zaP as .min2) as .min)
  (cond (f==("sorted":Str)) (on1 zaP as .sorted)
  (cond (f==("list":Str)) (on1 zaP as .list) zaP)))))))
  λf=>.call f (ziD as)
noncomputable def isZ(e:E):Bool:=by
 induction e using E.casesOn with
 |c v=>exact(za6 v).elim false (·==0)
 |_=>exact false
noncomputable def methE(o:E)(m:Str)(as:List E):E:=
 (zcp.lookup m).elim
  (cond (m==("read":Str)) (on1 zaP as (.read o))
  (cond (m==("append":Str)) (on1 zaP as (.append o))
  (cond (m==("pop":Str)) (cond as.isEmpty (.pop o) (on1 zaP as λa=>cond (isZ a) (.pop0 o) zaP))
  (cond (m==("join":Str)) (on1 zaP as (.join o))
  (cond (m==("count":Str)) (on1 zaP as (.count o))
  (cond (m==("get":Str)) (on2 zaP as (.get o)) zaP))))))
  λf=>.meth f o (ziD as)
section
variable (G:Str->Option V)(nb:Nat)
mutual
noncomputable def cE:Nat->Gam->Scope->Expr->E
 |0,_,_,_=>zaP
 |n+1,Γ,sc,e=>by
  induction e using PySem.Expr.casesOn with
  |Constant c=>exact(znd c).elim zaP .c
  |Name x=>exact(Γ.lookup x).elim (cond (sc.names.lookup x==some .globalImplicit&& !(x==("__debug__":Str))) ((G x).elim zaP .c) zaP) .v
  |BinOp l op r=>exact .bin op (cE n Γ sc l) (cE n Γ sc r)
  |UnaryOp op x=>exact cond (op==.USub) (.neg (cE n Γ sc x)) zaP
  |BoolOp op xs=>exact cond (op==.And) (on2 zaP xs λx y=>.and (cE n Γ sc x) (cE n Γ sc y)) zaP
  |IfExp t x y=>exact .ite (cT n Γ sc t) (cE n Γ sc x) (cE n Γ sc y)
  |Compare l ops rs=>exact on1 zaP ops λop=>on1 zaP rs λr=>.cmp op (cE n Γ sc l) (cE n Γ sc r)
  |Tuple es=>exact cond (decide (es.length<=1000)) (.tup (ziD (es.map (cE n Γ sc)))) zaP
  |List es=>exact cond (decide (es.length<=1000)) (.lA (ziD (es.map (cE n Γ sc)))) zaP
  |Dict ks vs=>exact cond (ks.isEmpty&&vs.isEmpty) .emptyD ((zgO ks vs).elim zaP λkC=>cond (decide ((kC.map (·.1)).Nodup/\kC.length<=10/\kC≠[])) (.dlit kC) zaP)
  |Subscript o i=>exact(slOf i).elim (.idx (cE n Γ sc o) (cE n Γ sc i)) λp=>.slc (cE n Γ sc o) (p.1.elim (.c .none) (cE n Γ sc)) (p.2.elim (.c .none) (cE n Γ sc))
  |ListComp elt gs cD=>exact on1 (on2 zaP gs λg g2=>cond (g.is_async==0&&g2.is_async==0&&g.ifs.isEmpty&& !zr2 g2.iter) (on1 zaP g2.ifs λc=>(zdQ g.target).elim zaP λxn=>(zdQ g2.target).elim zaP λyn=>((zfb cD nb).lookup xn).elim zaP λx=>((zfb cD nb).lookup yn).elim zaP λy=>cond (zc6 sc cD Γ (zcj cD Γ nb) (zfb cD nb) [x,y]) (.comp2 x (cE n Γ sc g.iter) y (cE n (zcj cD Γ nb) cD g2.iter) (cT n (zcj cD Γ nb) cD c) (cE n (zcj cD Γ nb) cD elt)) zaP) zaP) gs λg=>cond (g.is_async==0&&decide (g.ifs.length<=1)) ((zbG (zfb cD nb) g.target).elim zaP λtg=>cond (zc6 sc cD Γ (zcj cD Γ nb) (zfb cD nb) tg) (.comp tg (cE n Γ sc g.iter) (g.ifs.head?.elim (.c (.bool true)) (cT n (zcj cD Γ nb) cD)) (cE n (zcj cD Γ nb) cD elt)) zaP) zaP
  |DictComp k v gs cD=>exact on1 zaP gs λg=>cond (g.is_async==0&&g.ifs.isEmpty) ((zdQ g.target).elim zaP λxn=>((zfb cD nb).lookup xn).elim zaP λx=>cond (zc6 sc cD Γ (zcj cD Γ nb) (zfb cD nb) [x]) (.dcomp x (cE n Γ sc g.iter) (cE n (zcj cD Γ nb) cD k) (cE n (zcj cD Γ nb) cD v)) zaP) zaP
  |Attribute o a=>exact cond (zdW o) zaP ((zaD.lookup a).elim zaP (.attr (cE n Γ sc o)))
  |Call f args kws pos=>exact cond kws.isEmpty (by induction f using PySem.Expr.casesOn with|Name f=>exact cond (sc.names.lookup f==some .globalImplicit) (callE f (args.map (cE n Γ sc))) zaP|Attribute o m ap=>exact cond (ap.endLine==pos.line&&decide (args.length<20)&& !zdW o) (methE (cE n Γ sc o) m (args.map (cE n Γ sc))) zaP|_=>exact zaP) zaP
  |_=>exact zaP
noncomputable def cT:Nat->Gam->Scope->Expr->E
 |0,_,_,_=>zaP
 |n+1,Γ,sc,e=>by
  have z:=cE n Γ sc e;induction e using PySem.Expr.casesOn with
  |UnaryOp op x=>exact cond (op==.Not) (.not (cT n Γ sc x)) zaP
  |BoolOp op xs=>exact cond (op==.And) (on2 zaP xs λx y=>.and (cT n Γ sc x) (cT n Γ sc y)) (on2 zaP xs λx y=>.or (cT n Γ sc x) (cT n Γ sc y))
  |IfExp=>exact zaP
  |Compare l ops rs=>exact on1 zaP ops λop=>on1 zaP rs λr=>.cmp op (cE n Γ sc l) (cE n Γ sc r)
  |_=>exact z
end
noncomputable def freshE(e:Expr):Bool:=by
 induction e using PySem.Expr.casesOn with
 |List=>exact true
 |Dict ks vs=>exact ks.isEmpty&&vs.isEmpty
 |ListComp=>exact true
 |BinOp _ op=>exact op==.Mult
 |_=>exact false
noncomputable def attrOf(e:Expr):Option (Expr×Str):=by
 induction e using PySem.Expr.casesOn with
 |Attribute o m=>exact some (o,m)
 |_=>exact none
noncomputable def cstrOf(e:Expr):Option Str:=by
 induction e using PySem.Expr.casesOn with
 |Constant c=>induction c using PySem.Const.casesOn with
  |str s=>exact some s
  |_=>exact none
 |_=>exact none
noncomputable def cM(n:Nat)(Γ:Gam)(sc:Scope)(e:Expr):E:=by
 have z:E:=cond (freshE e) (cE G nb n Γ sc e) zaP;induction e using PySem.Expr.casesOn with
 |Call f args kws=>exact cond kws.isEmpty ((zdQ f).elim zaP λf=>cond (sc.names.lookup f==some .globalImplicit) (cond (f==("list":Str)) (on1 zaP args λa=>.list (cE G nb n Γ sc a)) (cond (f==("iter":Str)) (on2 zaP args λa b=>(attrOf a).elim zaP λp=>(cstrOf b).elim zaP λs=>cond (p.2==("_read_char":Str)&&s.cps.isEmpty&& !zdW p.1) (.iter (cE G nb n Γ sc p.1)) zaP) zaP)) zaP) zaP
 |_=>exact z
noncomputable def cI(n:Nat)(Γ:Gam)(sc:Scope)(e:Expr):E:=by
 have z:=cE G nb n Γ sc e;induction e using PySem.Expr.casesOn with
 |Call f args kws=>exact cond kws.isEmpty ((zdQ f).elim z λx=>cond (sc.names.lookup x==some .globalImplicit) (cond (x==("enumerate":Str)) (on1 zaP args λa=>.enum (cE G nb n Γ sc a)) (cond (x==("reversed":Str)) (on1 zaP args λa=>.rev (cE G nb n Γ sc a)) z)) zaP) zaP
 |_=>exact z
variable (mutL:List Nat)(frzL:List (Nat×List Str))
noncomputable def cA(n:Nat)(Γ Γw:Gam)(sc:Scope)(t e:Expr):S:=by
 induction t using PySem.Expr.casesOn with
 |Name x=>exact(Γw.lookup x).elim zd6 λi=>.asg i (cE G nb n Γ sc e)
 |Tuple ts k p=>exact cond (zma e) zd6 ((zbG Γw (.Tuple ts k p)).elim zd6 λis=>.asgT is (cE G nb n Γ sc e))
 |Subscript o i=>exact .setI (cE G nb n Γ sc o) (cE G nb n Γ sc i) (cE G nb n Γ sc e)
 |Attribute o m=>exact(zaD.lookup m).elim zd6 λm=>.setA (cE G nb n Γ sc o) m (cE G nb n Γ sc e)
 |_=>exact zd6
noncomputable def cAM(n:Nat)(Γ Γw:Gam)(sc:Scope)(t e:Expr):S:=by
 induction t using PySem.Expr.casesOn with
 |Name x=>exact(Γw.lookup x).elim zd6 λi=>.asgM i (cM G nb n Γ sc e)
 |Attribute o m=>exact(zaD.lookup m).elim zd6 λm=>.setAM (cE G nb n Γ sc o) m (cM G nb n Γ sc e)
 |_=>exact zd6
noncomputable def cG(n:Nat)(Γ Γw:Gam)(sc:Scope)(t e:Expr):S:=by
 induction t using PySem.Expr.casesOn with
 |Name x=>exact(Γw.lookup x).elim zd6 λi=>.augV i (cE G nb n Γ sc e)
 |Attribute o m=>exact(zaD.lookup m).elim zd6 λm=>.augA (cE G nb n Γ sc o) m (cE G nb n Γ sc e)
 |_=>exact zd6
noncomputable def zsQ(l:List S):S:=l.foldr .seq .skip
noncomputable def cSt(R:Stmt->S)(n:Nat)(Γ Γw:Gam)(sc:Scope)(s:Stmt):S:=by
 have ln:=s.pos.line;induction s using PySem.Stmt.casesOn with
 |Expr e=>exact cond (zcx e) zd6 (.expr (cE G nb n Γ sc e))
 |Return e=>exact e.elim zd6 λe=>.ret (cE G nb n Γ sc e)
 |Assign ts e=>exact on1 zd6 ts λt=>cond (mutL.contains ln) (cAM G nb n Γ Γw sc t e) (cA G nb n Γ Γw sc t e)
 |AugAssign t op e=>exact cond (op==.Add) (cG G nb n Γ Γw sc t e) zd6
 |If t a b=>exact .ifs (cT G nb n Γ sc t) (zsQ (a.map (R))) (zsQ (b.map (R)))
 |For t it a b=>exact cond (znO it&& !zma t) zd6 ((zbG Γw t).elim zd6 λtg=>.fors tg (cI G nb n Γ sc it) (zsQ (a.map (R))) (zsQ (b.map (R))))
 |While t a b=>exact cond b.isEmpty (.whiles (cT G nb n Γ sc t) (zsQ (a.map (R)))) zd6
 |Break=>exact .brk
 |Continue=>exact .cont
 |_=>exact zd6
noncomputable def cS:Nat->Gam->Gam->Scope->Stmt->S
 |0,_,_,_,_=>zd6
 |n+1,Γ,Γw,sc,s=>(frzL.lookup s.pos.line).elim id (λxs=>.frz (xs.filterMap λx=>Γ.lookup x)) (cSt G nb mutL (cS n Γ Γw sc) n Γ Γw sc s)
noncomputable def ziv(n:Nat)(Γ:Gam)(sc:Scope):Gam->List Stmt->S
 |_,[]=>.skip
 | Γw,s::r=>by
  have z:S:=.seq (cS G nb mutL frzL n Γ Γw sc s) (ziv n Γ sc Γw r);induction s using PySem.Stmt.casesOn with
  |FunctionDef f=>exact cond (f==("give":Str)) ((Γw.lookup f).elim zd6 λi=>(Γ.lookup ("text":Str)).elim zd6 λt=>(Γ.lookup ("at":Str)).elim zd6 λa=>.seq (.defGive i t a) (ziv n Γ sc (Γw.filter λp=>p.1 != ("text":Str)&&p.1 != ("at":Str)) r)) zd6
  |_=>exact z
end
structure Df where
 params:Arguments
 body:List Stmt
 scope:Scope
noncomputable def dfAt(f:Str)(s:Stmt):Option Df:=by
 induction s using PySem.Stmt.casesOn with
 |FunctionDef g ps body _ _ _ sc=>exact cond (g==f) (some ⟨ps,body,sc⟩) none
 |_=>exact none
noncomputable def zkU(b:List Stmt)(f:Str):Option Df:=b.findSome? (dfAt f)
noncomputable def clsAt(c:Str)(s:Stmt):Option (List Stmt):=by
 induction s using PySem.Stmt.casesOn with
 |ClassDef g _ _ body=>exact cond (g==c) (some body) none
 |_=>exact none
noncomputable def zrx(b:List Stmt)(c:Str):List Stmt:=(b.findSome? (clsAt c)).getD []
noncomputable def zbS(sc:Scope):Gam:=
 let own:=(sc.names.filter λp=>p.2==.local||p.2==.cell||p.2==.free).map (·.1)
 own.zip (List.range own.length)
noncomputable def zpI(sc:Scope):Gam:=(zbS sc).filter λp=>sc.names.lookup p.1==some .local||sc.names.lookup p.1==some .cell
noncomputable def zaY:List Nat:=[51,63,118,136,151,168,169,180,189,198,209,210,211,226,231,240,262]
noncomputable def zaX:List (Nat×List Str):=[(139,["vals"]),(155,["chain"]),(177,["names","turned"]),(195,["words"]),(202,["run"]),(214,["run"]),(238,["run"]),(246,["told"]),(265,["shown"])]
noncomputable def tabE:Option Expr:=zgn.findSome? λs=>(zrk s).bind λp=>if p.1==("_filemode_table":Str) then some p.2 else none
noncomputable def zla:Scope:={ prog.main.scope with names:=prog.main.scope.names.map λp=>(p.1,.globalImplicit) }
noncomputable def tabV:V:=tabE.elim .uA λe=>(eE (λ_ _ _=>none) [] (cE zhx 0 60 [] zla e) []).elim .uA (·.1)
noncomputable def zan(x:Str):Option V:=(zhx x).elim (if x==("_filemode_table":Str) then some tabV else none) some
noncomputable def zai(d:Df):Nat×Nat×S:=
 ((zbS d.scope).length,d.params.args.length,ziv zan (zbS d.scope).length zaY zaX 60 (zbS d.scope) d.scope (zpI d.scope) d.body)
noncomputable def dfT:List (Option Df):=zhp.map (λp=>zkU zgn p.1)++zcp.map (λp=>zkU (zrx zgn "_netrclex") p.1)++[(zkU zgn "_law_ring").bind λd=>zkU d.body "give"]
noncomputable def zbx(f:F):Option Df:=(dfT[f]?).bind id
noncomputable def refOk(n:Nat)(v:V):Bool:=by
 induction v using V.casesOn with
 |obj i=>exact decide (i<n)
 |inst i=>exact decide (i<n)
 |give _ i=>exact decide (i<n)
 |rdch=>exact false
 |uA=>exact false
 |_=>exact true
noncomputable def obOk(n:Nat)(o:Ob):Bool:=by
 induction o using Ob.casesOn with
 |attrs kC=>exact kC.all λp=>refOk n p.2
 |citer i=>exact decide (i<n)
 |_=>exact true
noncomputable def zne(d:Df):Bool:=
 d.scope.kind==.function&& !d.scope.isGenerator&& !d.scope.isCoroutine&&d.params.posonlyargs.isEmpty&&d.params.vararg.isNone&&d.params.kwonlyargs.isEmpty&&d.params.kwarg.isNone&&
 decide (d.scope.names.map (·.1)).Nodup&&(zbS d.scope).all (λp=>p.1 != ("__debug__":Str)&&p.1 != ("__classdict__":Str))&&decide (d.params.args.map (·.arg)).Nodup&&
 ((d.params.args.map (·.arg)).zip (List.range d.params.args.length)).all (λp=>(zbS d.scope).lookup p.1==some p.2&&(d.scope.names.lookup p.1==some .local||d.scope.names.lookup p.1==some .cell))&&
 decide (d.params.args.length<=(zbS d.scope).length)
end
section
open PySem PySem.W PyProof.Rows
noncomputable abbrev Gm:=Addr->Option Obj
noncomputable def ScR:Sc->Value->Prop
 | .int i,x=>∃t,x=.int i t
 | .str l,x=>∃t,x=.str (sk l) t
section
variable (prog:Program)(w:World)
def zqB{K:Type}[DecidableEq K](knd:KeyKind prog w K)(o:Obj)(kC:List (K×Value)):Prop:=
 ∃es ep,o.ExactDict/\o.data=.dict es ep/\KeysOf knd es/\Pairs knd es.toList kC/\(kC.map (·.1)).Nodup
noncomputable def Kv{α β:Type}(f:α->β):List (α×Sc)->List (β×Value)->Prop
 |[],ks=>ks=[]
 |p::r,ks=>∃x r',ks=(f p.1,x)::r'/\ScR p.2 x/\Kv f r r'
noncomputable def KvI:List (Int×Sc)->List (Int×Value)->Prop:=Kv id
noncomputable def KvS:List (List Nat×Sc)->List (Str×Value)->Prop:=Kv sk
def DI(o:Obj)(kC:List (Int×Sc)):Prop:=∃ks,zqB prog w (intKind prog w) o ks/\KvI kC ks
def DS(o:Obj)(kC:List (List Nat×Sc)):Prop:=∃ks,zqB prog w (strKind prog w) o ks/\KvS kC ks
noncomputable abbrev zie(items:Array Value)(n:Nat):Obj:=⟨.type "tuple",none,.seq items n,#[]⟩
noncomputable abbrev zg0(items:Array Value)(n:Nat):Obj:=⟨.type "list",none,.seq items n,#[]⟩
noncomputable abbrev zsK(a b c:Int)(t u v:Tok):Obj:=⟨.type "range",none,.fields #[.int a t,.int b u,.int c v],#[]⟩
noncomputable def VF(g:Gm)(v:V):Value->Prop:=
 V.rec (motive_1:=λ_=>Value->Prop) (motive_2:=λ_=>List Value->Prop) (λ_=>False) (λx=>x=.none) (λb x=>x=.bool b) (λi x=>∃t,x=.int i t) (λl x=>∃t,x=.str (sk l) t)
  (λ_ k x=>∃a items n,x=.ref a/\g a=some (zie items n)/\k items.toList) (λ_ k x=>∃a items n,x=.ref a/\g a=some (zg0 items n)/\k items.toList)
  (λkC x=>∃a o,x=.ref a/\g a=some o/\DI prog w o kC/\(a==sysModules)=false) (λkC x=>∃a o,x=.ref a/\g a=some o/\DS prog w o kC/\(a==sysModules)=false)
  (λa b c x=>∃r t u v,x=.ref r/\g r=some (zsK a b c t u v)) (λ_ _=>False) (λ_ _=>False) (λ_ _ _=>False) (λ_ _=>False)
  (λxs=>xs.casesOn True λ_ _=>False) (λ_ _ f k xs=>xs.casesOn False λx r=>f x/\k r) v
noncomputable def VFs(g:Gm)(v:List V):List Value->Prop:=
 V.rec_1 (motive_1:=λ_=>Value->Prop) (motive_2:=λ_=>List Value->Prop) (λ_=>False) (λx=>x=.none) (λb x=>x=.bool b) (λi x=>∃t,x=.int i t) (λl x=>∃t,x=.str (sk l) t)
  (λ_ k x=>∃a items n,x=.ref a/\g a=some (zie items n)/\k items.toList) (λ_ k x=>∃a items n,x=.ref a/\g a=some (zg0 items n)/\k items.toList)
  (λkC x=>∃a o,x=.ref a/\g a=some o/\DI prog w o kC/\(a==sysModules)=false) (λkC x=>∃a o,x=.ref a/\g a=some o/\DS prog w o kC/\(a==sysModules)=false)
  (λa b c x=>∃r t u v,x=.ref r/\g r=some (zsK a b c t u v)) (λ_ _=>False) (λ_ _=>False) (λ_ _ _=>False) (λ_ _=>False)
  (λxs=>xs.casesOn True λ_ _=>False) (λ_ _ f k xs=>xs.casesOn False λx r=>f x/\k r) v
noncomputable def zcS:Addr:=87
noncomputable def rdA:Addr:=70
noncomputable def zfn:Addr:=202
noncomputable def zdn:Addr:=206
noncomputable def noDf:Df:=⟨⟨[],[],none,[],[],none,[]⟩,[],zla⟩
noncomputable def za3:Df:=(zbx 30).getD noDf
def zpg(g:Gm)(cd:Value)(q:Str):Prop:=∃c o vs t,cd=.ref c/\g c=some o/\o.data=.fields vs/\vs[1]?=some (.str q t)
def zmO(g:Gm)(as:List Addr)(a:Addr)(tx:List Nat)(i:Nat):Prop:=
 ∃fd qual cA cT oA oT y t,g a=some ⟨.type "function",none,.func fd,#[]⟩/\fd.qualname=qual/\zpg g fd.code qual/\fd.params=za3.params/\fd.body=.stmts za3.body/\fd.scope=za3.scope/\fd.globals=mainGlobals/\fd.builtins=builtinsNs/\
  fd.defaults=.none/\fd.kwdefaults=.none/\fd.closure.lookup ("at":Str)=some cA/\fd.closure.lookup ("text":Str)=some cT/\(∀x c,fd.closure.lookup x=some c->(x=("at":Str)/\c=cA)\/(x=("text":Str)/\c=cT))/\cA≠cT/\
  g cA=some oA/\oA.data=.cell (some (.ref y))/\as[i]?=some y/\g cT=some oT/\oT.data=.cell (some (.str (sk tx) t))
noncomputable def zah(g:Gm)(as:List Addr):V->Value->Prop
 | .obj i,x=>∃a,x=.ref a/\as[i]?=some a
 | .inst i,x=>∃a dx,x=.ref a/\g a=some (instObj zcS dx)/\as[i]?=some dx
 | .give tx i,x=>∃a,x=.ref a/\zmO g as a tx i
 |v,x=>VF prog w g v x
def Gle(g g':Gm):Prop:=∀a o,g a=some o->g' a=some o
def AR(g:Gm)(as:List Addr)(o:Obj)(kC:List (Nat×V)):Prop:=
 o.cls=.type "dict"/\∃es n,o.data=.dict es n/\StrKeys es/\es.size<=kC.length/\kC.length<=9/\
  ∀nm:Str,match (zaD.lookup nm).bind λk=>kC.lookup k with
   |some v=>∃y,nsFind es nm=some y/\zah prog w g as v y
   |none=>nsFind es nm=none
noncomputable abbrev citO(live:Bool)(b:Addr)(t:Tok):Obj:=⟨.type "callable_iterator",none,.fields (if live then #[.ref b,.str (sk []) t,.bool false] else #[.none,.none,.bool true]),#[]⟩
noncomputable def OR(g:Gm)(as:List Addr):Ob->Addr->Heap->Prop
 | .gone,a,h=>∃o,h.get? a=some o/\∀v,o.data≠.cell v
 | .list vs,a,h=>∃items n,h.get? a=some (zg0 items n)/\VFs prog w g vs items.toList
 | .dI kC,a,h=>∃o,h.get? a=some o/\DI prog w o kC/\(a==sysModules)=false
 | .dS kC,a,h=>∃o,h.get? a=some o/\DS prog w o kC/\(a==sysModules)=false
 | .attrs kC,a,h=>∃o,h.get? a=some o/\AR prog w g as o kC
 | .citer i live,a,h=>∃b t x,h.get? a=some (citO live b t)/\g b=some (methodObj (.ref rdA) x)/\zah prog w g as (.inst i) x
 | .tab,a,h=>a=zfn/\h.get? a=some (tabObj #[])
 | .tabg,a,h=>a=zfn/\∃ps,h.get? a=some (tabObj ps)
structure Rel (g:Gm) (as:List Addr) (H:H) (h:Heap):Prop where
 frz:∀a o,g a=some o->h.get? a=some o
 len:as.length=H.length
 ob:∀(i:Nat) a o,as[i]?=some a->H[i]?=some o->OR prog w g as o a h
 off:∀(i:Nat) a o,as[i]?=some a->H[i]?=some o->o≠.gone->g a=none
 nd:∀(i j:Nat) a,as[i]?=some a->as[j]?=some a->i=j
 ex:∀a∈as,∃o,h.get? a=some o
end
structure Ext (g:Gm) (as:List Addr) (s:Shared) (g':Gm) (as':List Addr) (s':Shared):Prop where
 gle:Gle g g'
 pre:∃r,as'=as++r
 new:∀a∈as',a ∉ as->s.heap.get? a=none
 same:∃h tk,s'={ s with heap:=h,toks:=tk }
 keep:∀a o,a ∉ as->s.heap.get? a=some o->s'.heap.get? a=some o
 there:∀a o,s.heap.get? a=some o->∃o',s'.heap.get? a=some o'
 gnew:∀a o,g' a=some o->g a=some o\/s.heap.get? a=none\/a∈as
theorem Gle.refl(g:Gm):Gle g g:=λ_ _ e=>e
theorem Gle.trans{g g' g'':Gm}(h:Gle g g')(h':Gle g' g''):Gle g g'':=λa o e=>h' a o (h a o e)
theorem Ext.refl(g:Gm)(as:List Addr)(s:Shared):Ext g as s g as s:=
 ⟨.refl g,⟨[],by simp⟩,λa h h'=>absurd h h',⟨_,_,rfl⟩,λ_ _ _ e=>e,λ_ o e=>⟨o,e⟩,λ_ _ e=>.inl e⟩
theorem Ext.trans{g g' g'':Gm}{as as' as'':List Addr}{s s' s'':Shared}(x:Ext g as s g' as' s')(y:Ext g' as' s' g'' as'' s''):Ext g as s g'' as'' s'' where
 gle:=x.gle.trans y.gle
 pre:=by refine xe x.pre λr e=>?_;refine xe y.pre λr' e'=>?_;exact⟨r++r',by rw[e',e,List.append_assoc]⟩
 new:=λa h h'=>by
  by_cases hq:a∈as'
  ·exact x.new a hq h'
  ·generalize e:s.heap.get? a=x0;induction x0 using Option.casesOn with
   |none=>rfl
   |some o=>have:=y.new a h hq;rw[x.keep a o h' e]at this;exact nos (Eq.symm this)
 same:=by refine xee x.same λh tk r0=>?_;subst r0;refine xee y.same λh' tk' t0=>?_;subst t0;exact⟨_,_,rfl⟩
 keep:=λa o h e=>y.keep a o (λq=>by have:=x.new a q h;rw[e]at this;exact nos (Eq.symm this)) (x.keep a o h e)
 there:=λa o e=>let ⟨o',e'⟩:=x.there a o e;y.there a o' e'
 gnew:=λa o e=>by
  rcases y.gnew a o e with h|h|h
  ·exact x.gnew a o h
  ·generalize q:s.heap.get? a=b0;induction b0 using Option.casesOn with
   |none=>exact .inr (.inl rfl)
   |some o'=>obtain⟨o'',e''⟩:=x.there a o' q;rw[h]at e'';exact nos e''
  ·by_cases hq:a∈as
   ·exact .inr (.inr hq)
   ·exact .inr (.inl (x.new a h hq))
theorem Ext.tok{g g':Gm}{as as':List Addr}{s s':Shared}(x:Ext g as s g' as' s')(t:Nat):Ext g as s g' as' { s' with toks:=t }:=
 ⟨x.gle,x.pre,x.new,let ⟨h,_,e⟩:=x.same;⟨h,t,by rw[e]⟩,x.keep,x.there,x.gnew⟩
section
variable {prog:Program}{w:World}
theorem VFs.nil_inv{g:Gm}{xs:List Value}(q:VFs prog w g [] xs):xs=[]:=by
 induction xs using List.casesOn with
 |nil=>rfl
 |cons=>exact q.elim
@[elab_as_elim] theorem VFs.cons_el{g:Gm}{v:V}{vs:List V}{xs:List Value}{P:List Value->Prop}(q:VFs prog w g (v::vs) xs)(k:∀y ys,VF prog w g v y->VFs prog w g vs ys->P (y::ys)):P xs:=by
 induction xs using List.casesOn with
 |nil=>exact q.elim
 |cons y ys=>exact k y ys q.1 q.2
theorem VF.mono{g g':Gm}(h:Gle g g'){v:V}:∀{x:Value},VF prog w g v x->VF prog w g' v x:=
 @V.rec (λv=>∀{x:Value},VF prog w g v x->VF prog w g' v x) (λvs=>∀{xs:List Value},VFs prog w g vs xs->VFs prog w g' vs xs)
  id id (λ_ _=>id) (λ_ _=>id) (λ_ _=>id) (λ_ k _ q=>zba q λa items n e q r=>⟨a,items,n,e,h _ _ q,k r⟩) (λ_ k _ q=>zba q λa items n e q r=>⟨a,items,n,e,h _ _ q,k r⟩)
  (λ_ _ q=>zaj q λa o e q r=>⟨a,o,e,h _ _ q,r⟩) (λ_ _ q=>zaj q λa o e q r=>⟨a,o,e,h _ _ q,r⟩) (λ_ _ _ _ q=>zlz q λr t u v e q=>⟨r,t,u,v,e,h _ _ q⟩) (λ_ _=>id) (λ_ _=>id) (λ_ _ _=>id) (λ_ _=>id)
  id (λ_ _ f k _ q=>VFs.cons_el q λ_ _ q r=>⟨f q,k r⟩) v
theorem VFs.mono{g g':Gm}(h:Gle g g'){vs:List V}:∀{xs:List Value},VFs prog w g vs xs->VFs prog w g' vs xs:=by
 induction vs with
 |nil=>exact id
 |cons _ _ ih=>exact λq=>VFs.cons_el q λ_ _ q r=>⟨q.mono h,ih r⟩
theorem zah.of_VF{g:Gm}{as:List Addr}{v:V}{x:Value}(h:VF prog w g v x):zah prog w g as v x:=by induction v using V.casesOn<;>first|exact h|exact h.elim
theorem zir{as as':List Addr}(hp:∃r,as'=as++r){i:Nat}{a:Addr}(q:as[i]?=some a):as'[i]?=some a:=by obtain⟨r,rfl⟩:=hp;exact rwl (List.getElem?_append_left (List.getElem?_eq_some_iff.mp q).1) q
theorem zpg.mono{g g':Gm}(h:Gle g g'){cd:Value}{q:Str}(x:zpg g cd q):zpg g' cd q:=
 let ⟨c,o,vs,t,e,e',r⟩:=x;⟨c,o,vs,t,e,h _ _ e',r⟩
theorem zmO.mono{g g':Gm}{as as':List Addr}(h:Gle g g')(hp:∃r,as'=as++r){a:Addr}{tx:List Nat}{i:Nat}(q:zmO g as a tx i):zmO g' as' a tx i:=by refine zeA q λfd qual cA cT oA oT y x0=>?_;refine zly x0 λt e1 e2 e3 e4 e5 e6 r0=>?_;refine zcQ r0 λe7 e8 e9 e10 e11 e12 e13 t0=>?_;refine zra t0 λne f1 f2 f3 f4 f5=>?_;exact⟨fd,qual,cA,cT,oA,oT,y,t,h _ _ e1,e2,e3.mono h,e4,e5,e6,e7,e8,e9,e10,e11,e12,e13,ne,h _ _ f1,f2,zir hp f3,h _ _ f4,f5⟩
theorem zah.mono{g g':Gm}{as as':List Addr}(h:Gle g g')(hp:∃r,as'=as++r){v:V}{x:Value}(q:zah prog w g as v x):zah prog w g' as' v x:=by
 have k:VF prog w g v x->VF prog w g' v x:=VF.mono h
 induction v using V.casesOn<;>first
   |exact k q
   | (obtain⟨a,e,q⟩:=q
      exact⟨a,e,zir hp q⟩)
   | (obtain⟨a,dx,e,q,r⟩:=q
      exact⟨a,dx,e,h _ _ q,zir hp r⟩)
   | (obtain⟨a,e,q⟩:=q
      exact⟨a,e,q.mono h hp⟩)
set_option tactic.hygienic true in
theorem AR.mono{g g':Gm}{as as':List Addr}(h:Gle g g')(hp:∃r,as'=as++r){o:Obj}{kC:List (Nat×V)}(q:AR prog w g as o kC):AR prog w g' as' o kC:=by
 refine zdG q λq0 es n q1 q2 q3 q4 q5=>?_;refine⟨q0,es,n,q1,q2,q3,q4,λnm=>?_⟩;have:=q5 nm;split at this
 ·refine xea this λy a c=>?_;exact iea y a (c.mono h hp)
 ·exact this
theorem Ext.rep{g g':Gm}{as as':List Addr}{s s':Shared}(x:Ext g as s g' as' s'){v:V}{y:Value}(q:zah prog w g as v y):zah prog w g' as' v y:=q.mono x.gle x.pre
theorem zah.int{g:Gm}{as:List Addr}(i:Int)(t:Tok):zah prog w g as (.int i) (.int i t):=⟨t,rfl⟩
theorem zah.str{g:Gm}{as:List Addr}(l:List Nat)(t:Tok):zah prog w g as (.str l) (.str (sk l) t):=⟨t,rfl⟩
theorem zah.bool{g:Gm}{as:List Addr}(b:Bool):zah prog w g as (.bool b) (.bool b):=rfl
theorem zah.none{g:Gm}{as:List Addr}:zah prog w g as .none .none:=rfl
theorem zah.int_inv{g:Gm}{as:List Addr}{i:Int}{x:Value}(h:zah prog w g as (.int i) x):∃t,x=.int i t:=h
theorem zah.str_inv{g:Gm}{as:List Addr}{l:List Nat}{x:Value}(h:zah prog w g as (.str l) x):∃t,x=.str (sk l) t:=h
theorem zah.bool_inv{g:Gm}{as:List Addr}{b:Bool}{x:Value}(h:zah prog w g as (.bool b) x):x=.bool b:=h
theorem zah.none_inv{g:Gm}{as:List Addr}{x:Value}(h:zah prog w g as .none x):x=.none:=h
theorem zah.tup_inv{g:Gm}{as:List Addr}{vs:List V}{x:Value}(h:zah prog w g as (.tup vs) x):∃a items n,x=.ref a/\g a=some (zie items n)/\VFs prog w g vs items.toList:=h
theorem zah.lst_inv{g:Gm}{as:List Addr}{vs:List V}{x:Value}(h:zah prog w g as (.lA vs) x):∃a items n,x=.ref a/\g a=some (zg0 items n)/\VFs prog w g vs items.toList:=h
theorem zah.dI_inv{g:Gm}{as:List Addr}{kC:List (Int×Sc)}{x:Value}(h:zah prog w g as (.dI kC) x):∃a o,x=.ref a/\g a=some o/\DI prog w o kC/\(a==sysModules)=false:=h
theorem zah.dS_inv{g:Gm}{as:List Addr}{kC:List (List Nat×Sc)}{x:Value}(h:zah prog w g as (.dS kC) x):∃a o,x=.ref a/\g a=some o/\DS prog w o kC/\(a==sysModules)=false:=h
theorem zah.lA'{g:Gm}{as:List Addr}{vs:List V}{a:Addr}{items:Array Value}{n:Nat}(h:g a=some (zg0 items n))(q:VFs prog w g vs items.toList):zah prog w g as (.lA vs) (.ref a):=⟨a,items,n,rfl,h,q⟩
theorem zah.tup'{g:Gm}{as:List Addr}{vs:List V}{a:Addr}{items:Array Value}{n:Nat}(h:g a=some (zie items n))(q:VFs prog w g vs items.toList):zah prog w g as (.tup vs) (.ref a):=⟨a,items,n,rfl,h,q⟩
theorem zah.rng_inv{g:Gm}{as:List Addr}{a b c:Int}{x:Value}(h:zah prog w g as (.rng a b c) x):∃r t u v,x=.ref r/\g r=some (zsK a b c t u v):=h
theorem zah.rng'{g:Gm}{as:List Addr}{a b c:Int}{r:Addr}{t u v:Tok}(h:g r=some (zsK a b c t u v)):zah prog w g as (.rng a b c) (.ref r):=⟨r,t,u,v,rfl,h⟩
theorem VF.int_inv{g:Gm}{i:Int}{x:Value}(h:VF prog w g (.int i) x):∃t,x=.int i t:=h
theorem VF.str_inv{g:Gm}{l:List Nat}{x:Value}(h:VF prog w g (.str l) x):∃t,x=.str (sk l) t:=h
theorem VF.tup_inv{g:Gm}{vs:List V}{x:Value}(h:VF prog w g (.tup vs) x):∃a items n,x=.ref a/\g a=some (zie items n)/\VFs prog w g vs items.toList:=h
theorem VF.lst_inv{g:Gm}{vs:List V}{x:Value}(h:VF prog w g (.lA vs) x):∃a items n,x=.ref a/\g a=some (zg0 items n)/\VFs prog w g vs items.toList:=h
theorem VF.of_sc{g:Gm}{c:Sc}{x:Value}(h:ScR c x):VF prog w g c.v x:=by induction c using Sc.casesOn<;>exact h
theorem VFs.length{g:Gm}{vs:List V}{xs:List Value}(q:VFs prog w g vs xs):vs.length=xs.length:=by
 induction vs generalizing xs with
 |nil=>exact q.nil_inv▸rfl
 |cons _ _ ih=>exact VFs.cons_el q λ_ _ _ r=>congrArg (·+1) (ih r)
theorem VFs.get{g:Gm}{vs:List V}{xs:List Value}(q:VFs prog w g vs xs)(i:Nat)(v:V)(e:vs[i]?=some v):∃x,xs[i]?=some x/\VF prog w g v x:=by
 induction vs generalizing xs i with
 |nil=>exact nos e
 |cons _ _ ih=>
  refine VFs.cons_el q λy ys q r=>?_;induction i using Nat.casesAuxOn with
  |zero=>exact⟨y,rfl,Option.some.inj e▸q⟩
  |succ i=>exact ih r i e
theorem VFs.append{g:Gm}{vs us:List V}{xs ys:List Value}(q:VFs prog w g vs xs)(hu:VFs prog w g us ys):VFs prog w g (vs++us) (xs++ys):=by
 induction vs generalizing xs with
 |nil=>exact q.nil_inv▸hu
 |cons _ _ ih=>exact VFs.cons_el q λ_ _ q r=>⟨q,ih r⟩
theorem VFs.set{g:Gm}{vs:List V}{xs:List Value}(q:VFs prog w g vs xs)(i:Nat){u:V}{y:Value}(hu:VF prog w g u y):VFs prog w g (vs.set i u) (xs.set i y):=by
 induction vs generalizing xs i with
 |nil=>exact q.nil_inv▸trivial
 |cons _ _ ih=>
  exact VFs.cons_el q λ_ _ q r=>by
   induction i using Nat.casesAuxOn with
   |zero=>exact⟨hu,r⟩
   |succ i=>exact⟨q,ih r i⟩
theorem VFs.take{g:Gm}{vs:List V}{xs:List Value}(q:VFs prog w g vs xs)(n:Nat):VFs prog w g (vs.take n) (xs.take n):=by
 induction vs generalizing xs n with
 |nil=>rw[q.nil_inv,List.take_nil,List.take_nil];trivial
 |cons _ _ ih=>
  exact VFs.cons_el q λ_ _ q r=>by
   induction n using Nat.casesAuxOn with
   |zero=>trivial
   |succ n=>exact⟨q,ih r n⟩
theorem VFs.drop{g:Gm}{vs:List V}{xs:List Value}(q:VFs prog w g vs xs)(n:Nat):VFs prog w g (vs.drop n) (xs.drop n):=by
 induction vs generalizing xs n with
 |nil=>rw[q.nil_inv,List.drop_nil,List.drop_nil];trivial
 |cons _ _ ih=>
  exact VFs.cons_el q λ_ _ q r=>by
   induction n using Nat.casesAuxOn with
   |zero=>exact⟨q,r⟩
   |succ n=>exact ih r n
theorem zdv{g:Gm}{as:List Addr}{v:V}{x:Value}(hf:flat v=true)(h:zah prog w g as v x):VF prog w g v x:=by induction v using V.casesOn<;>first|exact h|simp[flat.eq_def]at hf
theorem OR.noCell{g:Gm}{as:List Addr}{ob:Ob}{a:Addr}{h:Heap}(q:OR prog w g as ob a h):∃o,h.get? a=some o/\∀v,o.data≠.cell v:=by
 induction ob using Ob.casesOn with
 |gone=>exact q
 |list vs=>obtain⟨items,n,e,r⟩:=q;exact⟨_,e,λv q=>by cases q⟩
 |dI kC=>obtain⟨o,e,⟨ks,⟨es,ep,_,hd,_⟩,_⟩,_⟩:=q;exact⟨o,e,λv q=>by rw[hd]at q;cases q⟩
 |dS kC=>obtain⟨o,e,⟨ks,⟨es,ep,_,hd,_⟩,_⟩,_⟩:=q;exact⟨o,e,λv q=>by rw[hd]at q;cases q⟩
 |attrs=>obtain⟨o,e,_,es,n,hd,_⟩:=q;exact⟨o,e,λv q=>by rw[hd]at q;cases q⟩
 |citer=>obtain⟨b,t,x,e,_⟩:=q;exact⟨_,e,λv q=>by cases q⟩
 |tab=>exact⟨_,q.2,λv q=>by cases q⟩
 |tabg=>obtain⟨_,ps,q⟩:=q;exact⟨_,q,λv q=>by cases q⟩
theorem OR.keep{g g':Gm}{as as':List Addr}{o:Ob}{a:Addr}{h h':Heap}(hg:Gle g g')(hp:∃r,as'=as++r)(hk:∀o,h.get? a=some o->h'.get? a=some o)(q:OR prog w g as o a h):OR prog w g' as' o a h':=by
 induction o using Ob.casesOn with
 |gone=>obtain⟨o,e,r⟩:=q;exact⟨o,hk _ e,r⟩
 |list vs=>obtain⟨items,n,e,r⟩:=q;exact⟨items,n,hk _ e,r.mono hg⟩
 |dI kC=>obtain⟨o,e,r⟩:=q;exact⟨o,hk _ e,r⟩
 |dS kC=>obtain⟨o,e,r⟩:=q;exact⟨o,hk _ e,r⟩
 |attrs=>obtain⟨o,e,r⟩:=q;exact⟨o,hk _ e,r.mono hg hp⟩
 |citer=>obtain⟨b,t,x,e,f,r⟩:=q;exact⟨b,t,x,hk _ e,hg _ _ f,r.mono hg hp⟩
 |tab=>exact⟨q.1,hk _ q.2⟩
 |tabg=>obtain⟨q1,ps,q2⟩:=q;exact⟨q1,ps,hk _ q2⟩
theorem za0(as:List Addr):∃r,as=as++r:=⟨[],by simp⟩
theorem Rel.keepAll{g:Gm}{as:List Addr}{H:H}{h h':Heap}(R:Rel prog w g as H h)(hk:∀a o,h.get? a=some o->h'.get? a=some o):Rel prog w g as H h':=
 ⟨λa o e=>hk _ _ (R.frz a o e),R.len,λi a o e q=>(R.ob i a o e q).keep (.refl g) (za0 as) (hk a),R.off,R.nd,λa ha=>let ⟨o,e⟩:=R.ex a ha;⟨o,hk _ _ e⟩⟩
theorem Rel.kept{g:Gm}{as:List Addr}{H:H}{s:Shared}{h':Heap}(R:Rel prog w g as H s.heap)(hk:∀a o,s.heap.get? a=some o->h'.get? a=some o)(tk:Nat):
  Rel prog w g as H h'/\Ext g as s g as { s with heap:=h',toks:=tk }:=
 ⟨R.keepAll hk,.refl g,⟨[],by simp⟩,λ_ hb hq=>absurd hb hq,⟨_,_,rfl⟩,λ_ _ _ e=>hk _ _ e,λ_ o e=>⟨o,hk _ _ e⟩,λ_ _ e=>.inl e⟩
noncomputable def zby(g:Gm)(a:Addr)(o:Obj):Gm:=λb=>if b=a then some o else g b
set_option tactic.hygienic true in
theorem zbF{g:Gm}{a:Addr}{o:Obj}(h:g a=none):Gle g (zby g a o):=λb o' e=>by
 unfold zby
 split
 ·rename_i q;rw[q,h]at e;exact nos e
 ·exact e
theorem zat(g:Gm)(a:Addr)(o:Obj):zby g a o a=some o:=by simp[zby]
set_option tactic.hygienic true in
theorem Rel.alloc{g:Gm}{as:List Addr}{H:H}{s:Shared}(R:Rel prog w g as H s.heap){a:Addr}{o:Obj}{h':Heap}(hn:s.heap.get? a=none)(ho:h'.get? a=some o)
  (hk:∀b o,s.heap.get? b=some o->h'.get? b=some o) (tk:Nat):
  Rel prog w (zby g a o) as H h'/\Ext g as s (zby g a o) as { s with heap:=h',toks:=tk }:=by
 have ga:g a=none:=by
  generalize e:g a=x0;induction x0 using Option.casesOn with
  |none=>rfl
  |some o'=>have:=R.frz a o' e;rw[hn]at this;exact nos this
 have na:∀b∈as,b≠a:=λb hb q=>by obtain⟨o',e⟩:=R.ex b hb;rw[q,hn]at e;exact nos e
 refine ia ⟨λb o' e=>?_,R.len,λi b o' e q=>(R.ob i b o' e q).keep (zbF ga) (za0 as) (hk b),λi b o' e q z=>?_,R.nd,λb hb=>let ⟨o',e⟩:=R.ex b hb;⟨o',hk _ _ e⟩⟩ ⟨zbF ga,⟨[],by simp⟩,λb hb hq=>absurd hb hq,⟨_,_,rfl⟩,λb o' _ e=>hk b o' e,λb o' e=>⟨o',hk b o' e⟩,λb o' e=>?_⟩
 ·unfold zby at e;split at e
  ·rename_i q;have r0:=Option.some.inj e;subst r0;exact rwl q ho
  ·exact hk _ _ (R.frz b o' e)
 ·unfold zby
  refine rwl (if_neg (na b (List.mem_of_getElem? e))) ?_;exact R.off i b o' e q z
 ·unfold zby at e;split at e
  ·rename_i q;exact rwl q (.inr (.inl hn))
  ·exact .inl e
theorem Ext.tick(g:Gm)(as:List Addr)(s:Shared)(t:Nat):Ext g as s g as { s with toks:=t }:=(Ext.refl g as s).tok t
end
structure Cx where
 w:World
 base:Heap
 mg:Str->Option Value
 mb:Str->Option Value
 K:Frag
def zmN(K:Frag)(a:Addr)(qual:Str)(f:F):Prop:=
 ∃d name oc od osl an cdv ct doc pm,zbx f=some d/\K.lookup a=some ⟨oc,od,.func (fnOf name qual d.params d.body d.scope .none .none doc pm an cdv ct),osl⟩/\codeIn K cdv qual=true/\oc=.type "function"/\(zeg d.scope=true->cdv=.ref zdn)
structure KFacts (K:Frag):Prop where
 fns:∀nm f,(nm,f)∈zhp->∃a,nsIn K mainGlobals nm=some (some (.ref a))/\zmN K a nm f
 cls:nsIn K mainGlobals ("_netrclex":Str)=some (some (.ref zcS))
 makes:makesIn K zcS=true
 meths:∀nm f,(nm,f)∈zcp->∃a qual,findIn K (.ref zcS) nm=some (some (.ref a))/\zmN K a qual f
 rd:findIn K (.ref zcS) ("_read_char":Str)=some (some (.ref rdA))
 rdg:specialIn K (.ref rdA) "__get__"=some (some (.builtin "function.__get__"))
 rdt:takesIn K (.ref rdA)=some false
 ga:findIn K (.ref zcS) "__getattribute__"=some (some (.builtin "object.__getattribute__"))
 gt:findIn K (.ref zcS) "__getattr__"=some none
 sa:findIn K (.ref zcS) "__setattr__"=some (some (.builtin "object.__setattr__"))
 po:plainOver K zcS=true
 hd:(clsIn K zcS).any (·.hasDict)=true
 keep:keepIn K (.ref zcS)=true
 attrs:∀nm n,(nm,n)∈zaD->findIn K (.ref zcS) nm=some none
 tab:PySem.W.codeHdIn K zdn zfn=true
noncomputable def zci:List Str:=["len","range","sum","min","sorted","list","iter","enumerate","reversed"]
structure Ok (C:Cx):Prop where
 ng:C.base.Ns mainGlobals C.mg
 nb:C.base.Ns builtinsNs C.mb
 lim:C.base.NoLimit
 boot:∀x:Str,x≠"__name__"->C.mb x=bootBuiltins x
 miss:∀x∈zci,C.mg x=none
 kin:C.K.In C.base
 kf:KFacts C.K
 bt:C.base.BuiltinsAt C.mg zfn
 glob:∀x v,zan x=some v->∃y,C.mg x=some y/\VF prog C.w C.base.get? v y
def AOk(l:Nat)(A:Around):Prop:=A.handled=none/\A.depth<=310+5*l/\A.units<=100+50*l/\l<=60
structure EnvOk (sc:Scope) (env:Env):Prop where
 kind:env.scope.kind=.function
 kd:∀x k,sc.names.lookup x=some k->env.kindOf x=some k\/(k=.free/\env.kindOf x=some .cell)
 cel:∀x,sc.names.lookup x=some .cell\/sc.names.lookup x=some .free->∃c,env.cells.lookup x=some c
 gl:env.globals=mainGlobals
 bi:env.builtins=builtinsNs
 ap:∀x y c,env.cells.lookup x=some c->env.cells.lookup y=some c->x=y
 cd:zeg sc=true->env.code=.ref zdn
theorem EnvOk.glob{sc:Scope}{env:Env}(h:EnvOk sc env)(x:Str)(hx:sc.names.lookup x=some .globalImplicit):env.kindOf x=some .globalImplicit:=
 (h.kd x _ hx).elim id λq=>by cases q.1
structure FRel (C:Cx) (g:Gm) (as:List Addr) (env:Env) (Γ:Gam) (vs:Vs) (h:Heap):Prop where
 ns:∃(m cm:Str->Option Value),h.Ns env.locals m/\(∀x c,env.cells.lookup x=some c->h.IsCell c (cm x))/\
   ∀x i v,Γ.lookup x=some i->vs[i]?=some v->v≠.uA->
     (env.kindOf x=some .local/\∃y,m x=some y/\zah prog C.w g as v y)\/
     ((env.kindOf x=some .cell\/env.kindOf x=some .free)/\(∃c,env.cells.lookup x=some c)/\∃y,cm x=some y/\zah prog C.w g as v y)
 gL:g env.locals=none
 aL:env.locals ∉ as
 aC:∀x c,env.cells.lookup x=some c->c ∉ as/\c≠env.locals
 nm:∀x i,Γ.lookup x=some i->x≠("__debug__":Str)/\x≠("__classdict__":Str)
theorem FRel.ext{C:Cx}{g g':Gm}{as as':List Addr}{env:Env}{Γ:Gam}{vs:Vs}{s s':Shared}(F:FRel C g as env Γ vs s.heap)(x:Ext g as s g' as' s'):FRel C g' as' env Γ vs s'.heap:=by
 refine zaj F.ns λm cm hn hc hv=>?_;have hcell:∀x' c,env.cells.lookup x'=some c->s'.heap.IsCell c (cm x'):=λx' c e=>by refine xea (hc x' c e) λo ho hd=>?_;exact iea o (x.keep _ _ (F.aC x' c e).1 ho) hd
 refine⟨⟨m,cm,hn.at λo e=>x.keep _ _ F.aL e,hcell,λy i v h1 h2 h3=>?_⟩,?_,?_,λy c e=>⟨λq=>?_,(F.aC y c e).2⟩,F.nm⟩
 ·rcases hv y i v h1 h2 h3 with ⟨k,z,hz,r⟩|⟨k,c,z,hz,r⟩
  ·exact .inl ⟨k,z,hz,x.rep r⟩
  ·exact .inr ⟨k,c,z,hz,x.rep r⟩
 ·refine zo5 hn λoL _ _ ho _=>?_;generalize e:g' env.locals=x0;induction x0 using Option.casesOn with
  |none=>rfl
  |some o=>
   rcases x.gnew _ _ e with q|q|q
   ·rw[F.gL]at q;exact nos q
   ·rw[ho]at q;exact nos (Eq.symm q)
   ·exact absurd q F.aL
 ·intro q;refine zo5 hn λoL _ _ ho _=>?_;have:=x.new _ q F.aL;rw[ho]at this;exact nos (Eq.symm this)
 ·refine xea (hc y c e) λo ho _=>?_;have:=x.new _ q (F.aC y c e).1;rw[ho]at this;exact nos (Eq.symm this)
structure At (C:Cx) (l:Nat) (sc:Scope) (Γ:Gam) (vs:Vs) (A:Around) (env:Env) (g:Gm) (as:List Addr) (h:H) (s:Shared):Prop where
 ok:Ok C
 aok:AOk l A
 eok:EnvOk sc env
 bas:Gle C.base.get? g
 rel:Rel prog C.w g as h s.heap
 frm:FRel C g as env Γ vs s.heap
theorem At.step{C:Cx}{l:Nat}{sc:Scope}{Γ:Gam}{vs:Vs}{A:Around}{env:Env}{g g':Gm}{as as':List Addr}{h h':H}{s s':Shared}
  (x:At C l sc Γ vs A env g as h s) (e:Ext g as s g' as' s') (r:Rel prog C.w g' as' h' s'.heap):At C l sc Γ vs A env g' as' h' s':=
 ⟨x.ok,x.aok,x.eok,x.bas.trans e.gle,r,x.frm.ext e⟩
def zay(C:Cx)(g:Gm)(as:List Addr)(s:Shared)(v:V)(h':H)(x:Value)(s':Shared):Prop:=
 ∃g' as',Ext g as s g' as' s'/\Rel prog C.w g' as' h' s'.heap/\zah prog C.w g' as' v x
noncomputable def No:Value->Shared->Prop:=λ_ _=>False
theorem zay.after{C:Cx}{g g':Gm}{as as':List Addr}{s s' s'':Shared}{v:V}{h':H}{x:Value}(e:Ext g as s g' as' s')(p:zay C g' as' s' v h' x s''):zay C g as s v h' x s'':=
 let ⟨g'',as'',e',r,q⟩:=p;⟨g'',as'',e.trans e',r,q⟩
noncomputable abbrev Md(C:Cx):Model:=model prog C.w
def Ev(C:Cx)(l:Nat)(sc:Scope)(Γ:Gam)(vs:Vs)(e:Expr)(h:H)(v:V)(h':H):Prop:=
 ∀A env g as s,At C l sc Γ vs A env g as h s->wpAny (Md C) A (eval e env) (zay C g as s v h') No s
def PostL(C:Cx)(g:Gm)(as:List Addr)(s:Shared)(vs:List V)(h':H)(xs:List Value)(s':Shared):Prop:=
 ∃g' as',Ext g as s g' as' s'/\Rel prog C.w g' as' h' s'.heap/\xs.length=vs.length/\∀(i:Nat) v,vs[i]?=some v->∃x,xs[i]?=some x/\zah prog C.w g' as' v x
def EvL(C:Cx)(l:Nat)(sc:Scope)(Γ:Gam)(vs:Vs)(es:List Expr)(h:H)(us:List V)(h':H):Prop:=
 ∀A env g as s pos,At C l sc Γ vs A env g as h s->wpAny (Md C) A (spliced (backTo pos (starEach es env))) (PostL C g as s us h') No s
def zrf(C:Cx)(g:Gm)(as:List Addr)(s:Shared)(b:Bool)(h':H)(x:Bool)(s':Shared):Prop:=
 x=b/\∃g' as',Ext g as s g' as' s'/\Rel prog C.w g' as' h' s'.heap
def Ts(C:Cx)(l:Nat)(sc:Scope)(Γ:Gam)(vs:Vs)(e:Expr)(h:H)(b:Bool)(h':H):Prop:=
 ∀A env g as s,At C l sc Γ vs A env g as h s->wpAny (Md C) A (isTrue e env (eval e env)) (zrf C g as s b h') No s
section
variable {C:Cx}{l:Nat}{sc:Scope}{Γ:Gam}{vs:Vs}{A:Around}{env:Env}{g:Gm}{as:List Addr}{h h':H}{s:Shared}
theorem zaZ{α:Type}{t:Sem α}{Q:α->Shared->Prop}{E:Value->Shared->Prop}{M:Model}(x:wpAny M A t Q No s):wpAny M A t Q E s:=wpAny_mono x (λ_ _ y=>y) λ_ _ y=>y.elim
theorem zay.pure(a:Rel prog C.w g as h s.heap){v:V}{x:Value}(q:zah prog C.w g as v x)(t:Nat):zay C g as s v h x { s with toks:=t }:=⟨g,as,Ext.tick g as s t,a,q⟩
theorem zay.now(a:Rel prog C.w g as h s.heap){v:V}{x:Value}(q:zah prog C.w g as v x):zay C g as s v h x s:=⟨g,as,Ext.refl g as s,a,q⟩
theorem At.pure(a:At C l sc Γ vs A env g as h s){v:V}{x:Value}(q:zah prog C.w g as v x)(t:Nat):zay C g as s v h x { s with toks:=t }:=zay.pure a.rel q t
theorem At.now(a:At C l sc Γ vs A env g as h s){v:V}{x:Value}(q:zah prog C.w g as v x):zay C g as s v h x s:=zay.now a.rel q
theorem Ev.con{c:Const}{k:Nat}{pos:Pos}{v:V}(hv:znd c=some v):Ev C l sc Γ vs (.Constant c k pos) h v h:=by
 intro A env g as s a;induction c using PySem.Const.casesOn<;>simp[znd.eq_def]at hv<;>subst hv
 ·exact wpAny_Constant_none (a.now .none)
 ·exact wpAny_Constant_bool (a.now (.bool _))
 ·exact wpAny_Constant_int (a.pure (.int ..) _)
 ·exact wpAny_Constant_str (a.pure (.str ..) _)
theorem zoe{x:Str}{i:Nat}{v:V}(a:At C l sc Γ vs A env g as h s)(hx:Γ.lookup x=some i)(hv:vs[i]?=some v)(hu:v≠.uA):
  wpAny (Md C) A (loadName env x) (zay C g as s v h) No s:=by
 refine zaj a.frm.ns λm cm hn hc hq=>?_
 rcases hq x i v hx hv hu with ⟨k,y,hy,r⟩|⟨k,⟨c,e⟩,y,hy,r⟩
 ·exact wpAny_loadName_local a.eok.kind k hn hy (a.now r)
 ·have hcv:=hc x c e;rw[hy]at hcv;rcases k with k|k
  ·exact wpAny_loadName_cell a.eok.kind k e hcv (a.now r)
  ·exact wpAny_loadName_free a.eok.kind k e hcv (a.now r) (beq_eq_false_iff_ne.mpr (a.frm.nm x i hx).2)
theorem Ev.nam{x:Str}{pos:Pos}{i:Nat}{v:V}(hx:Γ.lookup x=some i)(hv:vs[i]?=some v)(hu:v≠.uA):Ev C l sc Γ vs (.Name x pos) h v h:=by intro A env g as s a;exact wpAny_Name (zoe a hx hv hu) (beq_eq_false_iff_ne.mpr (a.frm.nm x i hx).1)
theorem zf4{x:Str}{y:Value}(a:At C l sc Γ vs A env g as h s)(hx:sc.names.lookup x=some .globalImplicit)(hd:(x==("__debug__":Str))=false)(hy:C.mg x=some y){pos:Pos}{Q:Value->Shared->Prop}{E:Value->Shared->Prop}(q:Q y s):
  wpAny (Md C) A (eval (.Name x pos) env) Q E s:=by
 refine Calls.Name_function_global a.eok.kind (a.eok.glob x hx) (Calls.loadGlobal_global (mg:=C.mg) ?_ hy q) hd
 refine rwl a.eok.gl ?_
 exact a.ok.ng.keeps λb o e=>a.rel.frz b o (a.bas b o e)
theorem zhJ{x:Str}{y:Value}(a:At C l sc Γ vs A env g as h s)(hx:sc.names.lookup x=some .globalImplicit)(hd:(x==("__debug__":Str))=false)(hm:x∈zci)(hn:x≠"__name__")(hy:bootBuiltins x=some y){pos:Pos}{Q:Value->Shared->Prop}{E:Value->Shared->Prop}(q:Q y s):
  wpAny (Md C) A (eval (.Name x pos) env) Q E s:=by
 refine Calls.Name_function_global a.eok.kind (a.eok.glob x hx) (Calls.loadGlobal_builtin (mg:=C.mg) (mb:=C.mb) ?_ (a.ok.miss x hm) ?_ ((a.ok.boot x hn).trans hy) q) hd
 ·exact rwl a.eok.gl (a.ok.ng.keeps λb o e=>a.rel.frz b o (a.bas b o e))
 ·rw[a.eok.bi];exact a.ok.nb.keeps λb o e=>a.rel.frz b o (a.bas b o e)
theorem Ev.glb{x:Str}{pos:Pos}{v:V}(hx:sc.names.lookup x=some .globalImplicit)(hd:(x==("__debug__":Str))=false)(hv:zan x=some v):Ev C l sc Γ vs (.Name x pos) h v h:=by intro A env g as s a;refine xea (a.ok.glob x v hv) λy hy q=>?_;exact zf4 a hx hd hy (a.now (.of_VF (q.mono a.bas)))
theorem two{eB eC:Expr}{x y:V}{hJ hO:H}{P:Value->Value->Sem Value}{v:V}(H1:Ev C l sc Γ vs eB h x hJ)(H2:Ev C l sc Γ vs eC hJ y hO)
  (a:At C l sc Γ vs A env g as h s)
  (H3:∀g' as' s' p q,At C l sc Γ vs A env g' as' hO s'->zah prog C.w g' as' x p->zah prog C.w g' as' y q->wpAny (Md C) A (P p q) (zay C g' as' s' v h') No s'):
  wpAny (Md C) A (eval eB env) (λp sA=>wpAny (Md C) A (eval eC env) (λq sE=>wpAny (Md C) A (P p q) (zay C g as s v h') No sE) No sA) No s:=by
 refine wpAny_mono (H1 A env g as s a) (λp sA z=>?_) λ_ _ z=>z
 refine zaj z λgB asA xA rB vA=>?_
 refine wpAny_mono (H2 A env gB asA sA (a.step xA rB)) (λq sE z=>?_) λ_ _ z=>z
 refine zaj z λgD asB xB rC vB=>?_
 exact wpAny_mono (H3 gD asB sE p q ((a.step xA rB).step xB rC) (xB.rep vA) vB) (λz sB p=>p.after (xA.trans xB)) λ_ _ z=>z
theorem one{eB:Expr}{x:V}{hJ:H}{P:Value->Sem Value}{v:V}(H1:Ev C l sc Γ vs eB h x hJ)
  (a:At C l sc Γ vs A env g as h s)
  (H3:∀g' as' s' p,At C l sc Γ vs A env g' as' hJ s'->zah prog C.w g' as' x p->wpAny (Md C) A (P p) (zay C g' as' s' v h') No s'):
  wpAny (Md C) A (eval eB env) (λp sA=>wpAny (Md C) A (P p) (zay C g as s v h') No sA) No s:=by
 refine wpAny_mono (H1 A env g as s a) (λp sA z=>?_) λ_ _ z=>z
 refine zaj z λgB asA xA rB vA=>?_
 exact wpAny_mono (H3 gB asA sA p (a.step xA rB) vA) (λz sB p=>p.after xA) λ_ _ z=>z
theorem Ev.nil:EvL C l sc Γ vs [] h [] h:=by intro A env g as s pos a;exact wpAny_items_nil ⟨g,as,Ext.refl g as s,a.rel,rfl,λi v e=>by simp at e⟩
theorem Ev.cons{e:Expr}{es:List Expr}{x:V}{us:List V}{hJ hO:H}(hs:∀env,starEach (e::es) env=(false,eval e env)::starEach es env)(H1:Ev C l sc Γ vs e h x hJ)(H2:EvL C l sc Γ vs es hJ us hO):
  EvL C l sc Γ vs (e::es) h (x::us) hO:=by
 intro A env g as s pos a
 refine wpAny_items_cons (wpAny_mono (H1 A env g as s a) (λp sA z=>?_) λ_ _ z=>z) (hs env)
 refine zaj z λgB asA xA rB vA=>?_
 refine wpAny_mono (H2 A env gB asA sA pos (a.step xA rB)) (λq sE z=>?_) λ_ _ z=>z
 refine zbp z λgD asB xB rC hl hv=>?_
 refine ziR gD asB (xA.trans xB) rC (by simp[hl]) (λi v e=>?_)
 induction i using Nat.casesAuxOn with
 |zero=>simp at e;subst e;exact⟨p,by simp,xB.rep vA⟩
 |succ i=>simpa using hv i v (by simpa using e)
theorem zfR{xs:List Value}:∀{us:List V},us.all flat=true->xs.length=us.length->(∀(i:Nat) v,us[i]?=some v->∃x,xs[i]?=some x/\zah prog C.w g as v x)->VFs prog C.w g us xs:=by
 induction xs with
 |nil=>intro us _ hl _;induction us using List.casesOn with|nil=>trivial|cons=>simp at hl
 |cons x xs ih=>
  intro us hf hl hv;induction us using List.casesOn with
  |nil=>simp at hl
  |cons u us=>simp only[List.all_cons,Bool.and_eq_true]at hf;refine xea (hv 0 u (by simp)) λy e q=>?_;simp at e;subst e;exact ia (zdv hf.1 q) (ih hf.2 (by simpa using hl) λi v e=>by simpa using hv (i+1) v (by simpa using e))
theorem zas(h:Heap):h.get? h.objs.size=none:=by
 generalize e:h.get? h.objs.size=x0;induction x0 using Option.casesOn with
 |none=>rfl
 |some o=>exact absurd (Heap.lt_size e) (Nat.lt_irrefl _)
theorem Rel.push{h:H}(R:Rel prog C.w g as h s.heap)(o:Obj)(hf:o.isFreed=false)(tk:Nat):
  Rel prog C.w (zby g s.heap.objs.size o) as h (s.heap.push o)/\Ext g as s (zby g s.heap.objs.size o) as { s with heap:=s.heap.push o,toks:=tk }:=
 R.alloc (zas _) (Heap.get?_push_size _ hf) (λ_ _ e=>Heap.get?_push_of_some _ e) tk
theorem Ev.tup{es:List Expr}{k:Nat}{pos:Pos}{us:List V}(H1:EvL C l sc Γ vs es h us h')(hf:us.all flat=true)(hz:us.length<=1000):Ev C l sc Γ vs (.Tuple es k pos) h (.tup us) h':=by intro A env g as s a;refine wpAny_Tuple (wpAny_mono (H1 A env g as s pos a) (λq sE z=>?_) λ_ _ z=>z);refine zbp z λgD asB xB rC hl hv=>?_;refine xa (rC.push (zie q.toArray 0) rfl sE.toks) λr e=>?_;refine⟨by rw[hl,sizeLine_eq];exact Nat.le_trans hz (by decide),_,_,xB.trans e,r,?_⟩;exact zah.tup' (zat ..) ((zfR hf hl hv).mono e.gle)
theorem Ev.lA{es:List Expr}{pos:Pos}{us:List V}(H1:EvL C l sc Γ vs es h us h')(hf:us.all flat=true)(hz:us.length<=1000):Ev C l sc Γ vs (.List es pos) h (.lA us) h':=by intro A env g as s a;refine wpAny_List (wpAny_mono (H1 A env g as s pos a) (λq sE z=>?_) λ_ _ z=>z);refine zbp z λgD asB xB rC hl hv=>?_;refine xa (rC.push (zg0 q.toArray 0) rfl sE.toks) λr e=>?_;refine⟨by rw[hl,sizeLine_eq];exact Nat.le_trans hz (by decide),_,_,xB.trans e,r,?_⟩;exact zah.lA' (zat ..) ((zfR hf hl hv).mono e.gle)
end
end
section
open PySem PySem.W PyProof.Rows PySem.Calls
noncomputable def noTab(o:Obj):Bool:=match o.cls,o.data with
 | .none,.fields _=>false
 |_,_=>true
noncomputable def znt(h:Heap):Frag:=(List.range h.objs.size).filterMap λa=>match h.get? a with
 |some o=>if noTab o then some (a,o) else none
 |none=>none
set_option tactic.hygienic true in
theorem znu(h:Heap):(znt h).In h:=by
 intro a o e;unfold znt at e;generalize List.range h.objs.size=l at e;induction l with
 |nil=>exact nos e
 |cons x r ih=>
  rw[List.filterMap_cons]at e;split at e
  ·exact ih e
  ·rename_i p hp;rw[List.lookup_cons]at e;split at hp
   ·rename_i o' ho;split at hp
    ·have r0:=Option.some.inj hp;subst r0;split at e
     ·rename_i hx;have r0:=Option.some.inj e;subst r0;exact rwl (eq_of_beq hx) ho
     ·exact ih e
    ·exact nos hp
   ·exact nos hp
noncomputable abbrev FO:=Value×Str×Arguments×FuncBody×Scope×Addr×List (Str×Addr)×Value×Value×Addr×Bool×Bool
noncomputable def vRef(v:Value):Option Addr:=by
 induction v using Value.casesOn with
 |ref a=>exact some a
 |_=>exact none
theorem zo2{y:Value}{a:Addr}(h:vRef y=some a):y=.ref a:=by
 induction y using Value.casesOn with
 |ref i=>exact sm h rfl
 |_=>exact nos h
noncomputable def fnD(d:Data):Option FuncData:=by
 induction d using Data.casesOn with
 |func a=>exact some a
 |_=>exact none
theorem fnD_e{d:Data}{p:FuncData}(h:fnD d=some p):d=.func p:=by
 induction d using Data.casesOn with
 |func a=>exact sm h rfl
 |_=>exact nos h
noncomputable def obsF(K:Frag)(v:Option (Option Value)):Option FO:=(v.bind λv=>v.bind vRef).bind λa=>(K.lookup a).bind λo=>(fnD o.data).map λfd=>(o.cls,fd.qualname,fd.params,fd.body,fd.scope,fd.globals,fd.closure,fd.defaults,fd.kwdefaults,fd.builtins,codeIn K fd.code fd.qualname, !zeg fd.scope||vRef fd.code==some zdn)
noncomputable def expF(f:F)(qual:Str):Option FO:=(zbx f).map λd=>(.type "function",qual,d.params,.stmts d.body,d.scope,mainGlobals,[],.none,.none,builtinsNs,true,true)
theorem zoj{K:Frag}{f:F}{qual:Str}{v:Option (Option Value)}(hs:(zbx f).isSome=true)(e:obsF K v=expF f qual):∃a,v=some (some (.ref a))/\zmN K a qual f:=by
 unfold expF at e;generalize hd:zbx f=x0;induction x0 using Option.casesOn with
 |none=>rw[hd]at hs;exact noT hs
 |some d=>rw[hd,Option.map_some]at e;refine zdy λX kX=>?_;refine xea (Option.bind_eq_some_iff.mp e) λa ha e=>xea (Option.bind_eq_some_iff.mp e) λo hk e=>xea (Option.map_eq_some_iff.mp e) λfd hf e=>xea (Option.bind_eq_some_iff.mp ha) λv1 h1 h2=>xea (Option.bind_eq_some_iff.mp h2) λv2 h2 h3=>?_;simp only[Prod.mk.injEq]at e;obtain⟨e1,e2,e3,e4,e5,e6,e7,e8,e9,e10,e11,e12⟩:=e;obtain⟨name,qualname,params,body,scope,globals,closure,defaults,kwdefaults,doc,pyModule,annotations,code,closureTuple,builtins⟩:=fd;obtain⟨oc,od,ot,osl⟩:=o;dsimp only at e1 e2 e3 e4 e5 e6 e7 e8 e9 e10 e11 e12 hf;subst e1 e2 e3 e4 e5 e6 e7 e8 e9 e10;refine kX ?_;refine⟨a,by rw[h1,h2,zo2 h3],d,name,_,od,osl,annotations,code,closureTuple,doc,pyModule,hd,by rw[hk,fnD_e hf],e11,rfl,λq=>?_⟩;rw[q]at e12;exact zo2 (eq_of_beq e12)
noncomputable def vInt:Value->Option Int
 | .int j _=>some j
 |_=>none
noncomputable def vStr:Value->Option Str
 | .str s _=>some s
 |_=>none
noncomputable def vType:Value->Option String
 | .type s=>some s
 |_=>none
noncomputable def seqD:Data->Option (Array Value×Nat)
 | .seq a n=>some (a,n)
 |_=>none
theorem zq9{y:Value}{j:Int}(h:vInt y=some j):∃t,y=.int j t:=by
 induction y using Value.casesOn with
 |int i t=>exact sm h ⟨t,rfl⟩
 |_=>exact nos h
theorem vStr_e{y:Value}{j:Str}(h:vStr y=some j):∃t,y=.str j t:=by
 induction y using Value.casesOn with
 |str i t=>exact sm h ⟨t,rfl⟩
 |_=>exact nos h
theorem zsY{y:Value}{a:String}(h:vType y=some a):y=.type a:=by
 induction y using Value.casesOn with
 |type i=>exact sm h rfl
 |_=>exact nos h
theorem seqD_e{d:Data}{p:Array Value×Nat}(h:seqD d=some p):d=.seq p.1 p.2:=by
 induction d using Data.casesOn with
 |seq a n=>exact sm h rfl
 |_=>exact nos h
theorem zfN{α:Type}{o:Option α}{f:α->Bool}{G:Prop}(h:o.elim false f=true)(k:∀a,o=some a->f a=true->G):G:=
 match o,h,k with
 |some a,h,k=>k a rfl h
 |none,h,_=>noT h
theorem zpn{a b:Bool}{G:Prop}(h:(a&&b)=true)(k:a=true->b=true->G):G:=
 match a,b,h,k with
 |true,true,_,k=>k rfl rfl
noncomputable def znQ(o:Obj)(f:List Value->Bool):Bool:=(vType o.cls).elim false λs=>s=="tuple"&&(o.dict.isNone&&(o.slots.size==0&&(seqD o.data).elim false λp=>f p.1.toList))
theorem zpU{o:Obj}{f:List Value->Bool}{G:Prop}(h:znQ o f=true)(k:∀items n,o=zie items n->f items.toList=true->G):G:=
 zfN h λs e1 h=>zpn h λe2 h=>zpn h λe3 h=>zpn h λe4 h=>zfN h λp e5 h=>k p.1 p.2 (by obtain⟨c,d,dt,sl⟩:=o;have q1:c=.type s:=zsY e1;have q2:s="tuple":=eq_of_beq e2;have q3:d=none:=Option.isNone_iff_eq_none.mp e3;have q4:sl=#[]:=Array.eq_empty_of_size_eq_zero (eq_of_beq e4);have q5:dt=.seq p.1 p.2:=seqD_e e5;rw[q1,q2,q3,q4,q5]) h
noncomputable def vfIn:Nat->Frag->V->Value->Bool
 |0,_,_,_=>false
 |n+1,K,v,y=>(za6 v).elim ((zbm v).elim ((zbz v).elim false λvs=>(vRef y).elim false λa=>(K.lookup a).elim false λo=>znQ o λxs=>vs.length==xs.length&&(vs.zip xs).all λp=>vfIn n K p.1 p.2)
  λl=>(vStr y).elim false λs=>s==sk l) λi=>(vInt y).elim false λj=>i==j
theorem vfi_s:vfIn (n+1) kk v y=(za6 v).elim ((zbm v).elim ((zbz v).elim false λvs=>(vRef y).elim false λa=>((kk:Frag).lookup a).elim false λo=>znQ o λxs=>vs.length==xs.length&&(vs.zip xs).all λp=>vfIn n kk p.1 p.2)
 λl=>(vStr y).elim false λs=>s==sk l) λi=>(vInt y).elim false λj=>i==j:=rfl
theorem zrh{w:World}{g:Gm}(vs:List V):∀{xs:List Value},vs.length=xs.length->(∀p∈vs.zip xs,VF prog w g p.1 p.2)->VFs prog w g vs xs:=by
 induction vs with
 |nil=>intro xs hl _;induction xs using List.casesOn with
  |nil=>exact trivial
  |cons=>cases hl
 |cons v vs ih=>intro xs hl hp;induction xs using List.casesOn with
  |nil=>cases hl
  |cons x xs=>exact⟨hp (v,x) (.head _),ih (Nat.succ.inj hl) λp h=>hp p (.tail _ h)⟩
theorem zs0{K:Frag}{h:Heap}{w:World}(X:K.In h)(n:Nat):∀v y,vfIn n K v y=true->VF prog w h.get? v y:=by
 induction n with
 |zero=>exact λ_ _ e=>noT e
 |succ n ih=>
  intro v y e;rw[vfi_s]at e;generalize e1:za6 v=o1 at e;induction o1 using Option.casesOn with
  |some i=>rw[zbA e1];exact zfN e λj h1 h2=>xe (zq9 h1) λt q=>⟨t,by rw[q,eq_of_beq h2]⟩
  |none=>
   generalize e2:zbm v=o2 at e;induction o2 using Option.casesOn with
   |some l=>rw[zdq e2];exact zfN e λs h1 h2=>xe (vStr_e h1) λt q=>⟨t,by rw[q,eq_of_beq h2]⟩
   |none=>
    generalize e3:zbz v=o3 at e;induction o3 using Option.casesOn with
    |none=>exact noT e
    |some vs=>refine rwl (zg5 e3) ?_;exact zfN e λa h1 e=>zfN e λo h2 e=>zpU e λitems k q e=>zpn e λh3 h4=>⟨a,items,k,zo2 h1,q▸X _ _ h2,zrh vs (eq_of_beq h3) λp hp=>ih _ _ (List.all_eq_true.mp h4 p hp)⟩
theorem zjV{x:Str}{v:V}(e:zhx x=some v):∃i,v=.int i/\(x,i)∈zee:=
 map_e (P:=λv=>∃i,v=.int i/\(x,i)∈zee) e λp h=>⟨p.2,rfl,by have h1:=List.find?_some h;have h2:=List.mem_of_find?_eq_some h;rw[<-eq_of_beq h1];exact h2⟩
noncomputable def znP(K:Frag)(x:Str)(i:Int):Bool:=(nsIn K mainGlobals x).elim false λo=>o.elim false λy=>(vInt y).elim false λj=>j==i
noncomputable def zq6(K:Frag):Bool:=(nsIn K mainGlobals ("_filemode_table":Str)).elim false λo=>o.elim false λy=>vfIn 30 K tabV y
noncomputable def mq(nm:Str):Str:=if nm==("__init__":Str) then "_netrclex.__init__" else if nm==("_read_char":Str) then "_netrclex._read_char" else if nm==("get_token":Str) then "_netrclex.get_token" else "_netrclex.push_token"
noncomputable def zqI(K:Frag):Bool:=makesIn K zcS&&(plainOver K zcS&&((clsIn K zcS).any (·.hasDict)&&(keepIn K (.ref zcS)&&(PySem.W.codeHdIn K zdn zfn&&(noTabs K&&(zci.all (λx=>match nsIn K mainGlobals x with|some none=>true|_=>false)&&(zee.all (λp=>znP K p.1 p.2)&&zq6 K)))))))
noncomputable abbrev TO:=List (Option FO)×List (Option FO)×Option (Option Value)×Option (Option Value)×Option (Option Value)×Option Bool×Option (Option Value)×Option (Option Value)×Option (Option Value)×List (Option (Option Value))×Bool
noncomputable def obsT(K:Frag):TO:=(zhp.map λp=>obsF K (nsIn K mainGlobals p.1),zcp.map λp=>obsF K (findIn K (.ref zcS) p.1),nsIn K mainGlobals ("_netrclex":Str),findIn K (.ref zcS) ("_read_char":Str),specialIn K (.ref rdA) "__get__",takesIn K (.ref rdA),findIn K (.ref zcS) "__getattribute__",findIn K (.ref zcS) "__getattr__",findIn K (.ref zcS) "__setattr__",zaD.map λp=>findIn K (.ref zcS) p.1,zqI K)
noncomputable def expT:TO:=(zhp.map λp=>expF p.2 p.1,zcp.map λp=>expF p.2 (mq p.1),some (some (.ref zcS)),some (some (.ref rdA)),some (some (.builtin "function.__get__")),some false,some (some (.builtin "object.__getattribute__")),some none,some (some (.builtin "object.__setattr__")),zaD.map λ_=>some none,true)
structure HF (K:Frag):Prop where
 kf:KFacts K
 nt:noTabs K=true
 bi:zci.all (λx=>match nsIn K mainGlobals x with|some none=>true|_=>false)=true
 it:zee.all (λp=>znP K p.1 p.2)=true
 tb:zq6 K=true
theorem hf_of{K:Frag}(e:obsT K=expT):HF K:=by unfold obsT expT at e;simp only[Prod.mk.injEq]at e;refine zcQ e λe1 e2 e3 e4 e5 e6 e7 x0=>?_;refine zig x0 λe8 e9 e10 e11=>?_;unfold zqI at e11;simp only[Bool.and_eq_true]at e11;refine zcQ e11 λb1 b2 b3 b4 b5 b6 b7 r0=>?_;refine xa r0 λb8 b9=>?_;exact⟨⟨λnm f h=>zoj (List.all_eq_true.mp (by kernel_rfl:zhp.all (λp=>(zbx p.2).isSome)=true) _ h) ((List.map_inj_left.mp e1) (nm,f) h),e3,b1,λnm f h=>let ⟨a,x,y⟩:=zoj (List.all_eq_true.mp (by kernel_rfl:zcp.all (λp=>(zbx p.2).isSome)=true) _ h) ((List.map_inj_left.mp e2) (nm,f) h);⟨a,_,x,y⟩,e4,e5,e6,e7,e8,e9,b2,b3,b4,λnm n h=>(List.map_inj_left.mp e10) (nm,n) h,b5⟩,b6,b7,b8,b9⟩
theorem zrS{K:Frag}(F:HF K){mg:Str->Option Value}{h:Heap}{w:World}(X:K.In h)(G:h.Ns mainGlobals mg)(x:Str)(v:V)(e:zan x=some v):∃y,mg x=some y/\VF prog w h.get? v y:=by
 unfold zan at e;generalize q:zhx x=o at e;induction o using Option.casesOn with
 |some u=>refine sm e (xea (zjV q) λi r hm=>?_);subst r;exact zfN (List.all_eq_true.mp F.it _ hm) λo h1 h=>zfN h λy h2 h=>zfN h λj h3 h=>xe (zq9 h3) λt q=>⟨_,mg_of X G (h2▸h1),⟨t,by rw[q,eq_of_beq h]⟩⟩
 |none=>
  exact ite_e e λhx=>by refine rwl (eq_of_beq hx) ?_;exact zfN F.tb λo h1 h=>zfN h λy h2 h=>⟨y,mg_of X G (h2▸h1),zs0 X 30 _ _ h⟩
noncomputable def hk:Hook where
 α:=TO×Option Obj
 obs:=λs=>(obsT (znt s.heap),s.heap.get? zfn)
 val:=λ_=>(expT,some (tabObj #[]))
 says:=λ_ h=>(∃K:Frag,K.In h/\HF K)/\h.get? zfn=some (tabObj #[])
 of:=λw s x=>⟨⟨_,znu s.heap,hf_of (Prod.mk.inj x).1⟩,(Prod.mk.inj x).2⟩
 keeps:=λw h h' x k=>⟨let ⟨K,a,b⟩:=x.1;⟨K,Frag.In.keeps a k,b⟩,k _ _ x.2⟩
theorem zr1(xs:List WData):WShape.hasItems [] xs .int=true->∃is:List Int,xs=is.map .int:=by
 induction xs with
 |nil=>exact λ_=>⟨[],rfl⟩
 |cons x xs ih=>intro h;have h:(WShape.has [] x .int&&WShape.hasItems [] xs .int)=true:=h;rw[Bool.and_eq_true]at h;exact xe (hasW_int h.1) λi e=>xe (ih h.2) λis e2=>⟨i::is,e▸e2▸rfl⟩
theorem zri(is:List Int)(h:WTm.holds [] (.and (.not (.lt (.lit (.int 63)) (.len (.arg 0)))) (.lit (.bool true))) { args:=[.list (is.map .int)] }=true):is.length<=63:=by
 have h3:=h;simp[WTm.holds.eq_def,WTm.value,W.less?,W.Num.less?]at h3;by_cases q:is.length<=63
 ·exact q
 ·have e:decide ((63:Int)<(is.length:Int))=true:=by rw[decide_eq_true_eq];omega
  rw[e]at h3;exact noT h3
theorem zrj{args:List WData}(h:Challenge.rw_oy0178_01.row.toRowW.claim.pre args=true):∃is:List Int,args=[.list (is.map .int)]/\is.length<=63:=by
 have h':(WShape.hasAll [] args [.list .int]&&WTm.holds [] Challenge.rw_oy0178_01.pre { args:=args })=true:=h;rw[Bool.and_eq_true]at h';refine xa h' λh1 h2=>?_;clear h h';induction args using List.casesOn with
 |nil=>exact noT h1
 |cons x r=>
  have h1:(WShape.has [] x (.list .int)&&WShape.hasAll [] r [])=true:=h1;rw[Bool.and_eq_true]at h1;refine xa h1 λa b=>?_;clear h1;induction r using List.casesOn with
  |nil=>exact xea (hasW_list a) λxs e c=>xe (zr1 xs c) λis e2=>⟨is,e▸e2▸rfl,zri is (by subst e e2;exact h2)⟩
  |cons y r=>exact noT b
theorem zop(args ds:List WData):Challenge.rw_oy0178_01.row.toRowW.claim.post args (.bool true) ds=true:=by show (WShape.has [] (.bool true) .bool&&WTm.holds [] (.eq .res (.lit (.bool true))) { args:=args,res:=some (.bool true),after:=ds })=true;have e:WShape.has [] (.bool true) .bool=true:=rfl;refine rwl e ?_;simp[WTm.holds.eq_def,WTm.value,W.same]
theorem zhy{P:Params}{h:Heap}{w:World}{g:Gm}:∀{is:List Int} {vs:List Value},WellAll P h vs (is.map .int)->VFs prog w g (is.map V.int) vs:=by
 intro l9;induction l9 with
 |nil=>intro vs x;cases x;trivial
 |cons i is zhy=>
  intro vs x;cases x with
  |cons a b=>cases a;exact⟨⟨_,rfl⟩,zhy b⟩
noncomputable def isNm(s:Stmt):Bool:=(zrk s).elim false λp=>p.1==("__name__":Str)
noncomputable def qq:Program:={ prog with main:={ prog.main with body:=prog.main.body.filter λs=> !isNm s } }
noncomputable def ti(l:List (Int×Nat)):WData:=.tuple (l.map λp=>.tuple [.int p.1,.str ⟨#[p.2]⟩])
noncomputable def vv:List (Str×WData):=[(Str.ofString "_filemode_table",.tuple [ti [(40960,108),(49152,115),(32768,45),(24576,98),(16384,100),(8192,99),(4096,112)],ti [(256,114)],ti [(128,119)],ti [(2112,115),(2048,83),(64,120)],ti [(32,114)],ti [(16,119)],ti [(1032,115),(1024,83),(8,120)],ti [(4,114)],ti [(2,119)],ti [(513,116),(512,84),(1,120)]])]
theorem bai{a b:Bool}(x:a=true)(y:b=true):(a&&b)=true:=Bool.and_eq_true_iff.mpr ⟨x,y⟩
set_option maxHeartbeats 8000000 in
theorem said:OpenLaw.wellSaid Challenge.rw_oy0178_01=true:=by
 rw[Fast.te9446332074065402090];delta Fast.tw9446332074065402090;repeat' with_reducible refine bai ?_ ?_
 all_goals as_aux_lemma=>kernel_rfl
noncomputable def xt(s:Shared):Bool:=xlAt qq vv s&&recOk (RowW.records Challenge.rw_oy0178_01.row.toRowW) s
noncomputable abbrev lz:List Str:=[Str.ofString "_filemode_table"]
theorem leftA(w:World):(openEnds treeTable prog w 3062).map (openSeen qq lz (importedModules prog.main.body) xt true)=some (openGood qq lz):=by delta openEnds topFrom openGood expectedOf plainGoodE plainGoodD wideGood clsGoodW;rw[Fast.te14082659384304107361,Fast.te14364793385576792824,Fast.te4187177175401517315,Fast.te3247288618530077131,Fast.te821141287760084731,Fast.te3399658132070893891,Fast.te210736558901404530,Fast.te4354255287344443571,Fast.te694669760492028198,Fast.te1571739515156823405];kernel_rfl
theorem leftB(w:World):(openEnds treeTable prog w 3062).map hk.obs=some (hk.val w):=by delta openEnds topFrom;rw[Fast.te14082659384304107361,Fast.te14364793385576792824];kernel_rfl
theorem both{α β γ:Type}{o:Option α}{f:α->β}{g:α->γ}{b:β}{c:γ}(h:o.map f=some b)(k:o.map g=some c):o.map (λs=>(f s,g s))=some (b,c):=by
 induction o using Option.casesOn with
 |none=>exact nos h
 |some s=>exact congrArg some (Prod.ext (Option.some.inj h) (Option.some.inj k))
theorem left:LeftO prog qq lz xt hk.obs hk.val 3062:=λw=>both (leftA w) (leftB w)
end
section
open PySem PySem.W PyProof.Rows
section
variable {C:Cx}{l:Nat}{sc:Scope}{Γ:Gam}{vs:Vs}{A:Around}{env:Env}{g:Gm}{as:List Addr}{h h':H}{s:Shared}
section
variable {α:Type}{x y:V}{p q:Value}{r:α}{f:Int->Option α}{fs:List Nat->Option α}{ft:List V->Option α}{d:Option α}{P:Value->Prop}
@[elab_as_elim] theorem bI(hx:zah prog C.w g as x p)(h:(za6 x).bind f=some r)(k:∀i t,f i=some r->P (.int i t)):P p:=
 be h λi e h=>by have hx:=zbA e▸hx;refine xe hx.int_inv λt q=>?_;subst q;exact k i t h
@[elab_as_elim] theorem bS(hx:zah prog C.w g as x p)(h:(zbm x).bind fs=some r)(k:∀i t,fs i=some r->P (.str (sk i) t)):P p:=
 be h λi e h=>by have hx:=zdq e▸hx;refine xe hx.str_inv λt q=>?_;subst q;exact k i t h
@[elab_as_elim] theorem bL(hx:zah prog C.w g as x p)(h:(zem x).bind ft=some r)(k:∀us a items n,g a=some (zg0 items n)->VFs prog C.w g us items.toList->ft us=some r->P (.ref a)):P p:=
 be h λi e h=>by have hx:=zg1 e▸hx;refine zba hx.lst_inv λa items n q ha ra=>?_;subst q;exact k i a items n ha ra h
@[elab_as_elim] theorem bT(hx:zah prog C.w g as x p)(h:(zbz x).bind ft=some r)(k:∀us a items n,g a=some (zie items n)->VFs prog C.w g us items.toList->ft us=some r->P (.ref a)):P p:=
 be h λi e h=>by have hx:=zg5 e▸hx;refine zba hx.tup_inv λa items n q ha ra=>?_;subst q;exact k i a items n ha ra h
@[elab_as_elim] theorem oI(hx:zah prog C.w g as x p)(h:onI x f d=some r)(k:∀i t,f i=some r->P (.int i t))(k0:d=some r->P p):P p:=by
 unfold onI at h;generalize e:za6 x=o at h;induction o using Option.casesOn with
 |none=>exact k0 h
 |some i=>have hx:=zbA e▸hx;refine xe hx.int_inv λt q=>?_;subst q;exact k i t h
@[elab_as_elim] theorem oS(hx:zah prog C.w g as x p)(h:onS x fs d=some r)(k:∀i t,fs i=some r->P (.str (sk i) t))(k0:d=some r->P p):P p:=by
 unfold onS at h;generalize e:zbm x=o at h;induction o using Option.casesOn with
 |none=>exact k0 h
 |some i=>have hx:=zdq e▸hx;refine xe hx.str_inv λt q=>?_;subst q;exact k i t h
@[elab_as_elim] theorem oII{f:Int->Int->Option α}{P:Value->Value->Prop}(hx:zah prog C.w g as x p)(hy:zah prog C.w g as y q)(h:zo7 x y f=some r)(k:∀i t j u,f i j=some r->P (.int i t) (.int j u)):P p q:=
 bI hx h λi t h=>bI hy h λj u h=>k i t j u h
end
theorem zi6(R:Rel prog C.w g as h s.heap){v:V}{x:Value}{xs:List V}(hq:zgE h v=some xs)(q:zah prog C.w g as v x):
  ∃a items n,x=.ref a/\s.heap.get? a=some (zg0 items n)/\VFs prog C.w g xs items.toList:=by
 induction v using V.casesOn with
 |lA us=>exact sm hq (zba q.lst_inv λa items n e e' r=>⟨a,items,n,e,R.frz _ _ e',r⟩)
 |obj i=>
  refine xea q λa e e'=>?_;exact be hq λo e'' hq=>by
   induction o using Ob.casesOn with
   |list us=>exact sm hq (zc0 (R.ob i a _ e' e'') λitems n e3 r=>⟨a,items,n,e,e3,r⟩)
   |_=>exact nos hq
 |_=>exact nos hq
theorem zhV(R:Rel prog C.w g as h s.heap){us:List V}{items:Array Value}(q:VFs prog C.w g us items.toList):zay C g as s (.lA us) h (.ref s.heap.objs.size) { s with heap:=s.heap.push (zg0 items 0) }:=by refine zgr λX kX=>?_;refine xa (R.push (zg0 items 0) rfl s.toks) λr e=>?_;exact kX _ _ e r (.lA' (zat ..) (q.mono e.gle))
theorem zet(x y:List Nat):sk x++sk y=sk (x++y):=by apply Str.ext';simp[sk,Str.cps_append]
theorem zaS(x:List Nat):(sk x).length=x.length:=by simp[sk,Str.length]
theorem ziL(n:Nat)(x:Value):∀acc:Array Value,List.foldl (λx1 x2=>x1++x2) acc (List.replicate n #[x])=acc++(List.replicate n x).toArray:=by
 induction n with
 |zero=>intro acc;simp
 |succ n ih=>intro acc;rw[List.replicate_succ,List.foldl_cons,ih,List.replicate_succ];apply Array.ext';simp
theorem VFs.rep{g:Gm}{v:V}{x:Value}(q:VF prog C.w g v x):∀n,VFs prog C.w g (List.replicate n v) (List.replicate n x):=λn=>by
 induction n with
 |zero=>trivial
 |succ n ih=>exact⟨q,ih⟩
theorem zku{α:Type}{l:List α}{a:α×α}(h:zqu l=some a):l=[a.1,a.2]:=
 match l,h with
 |[_,_],h=>sm h rfl
theorem zld{o:Ob}{l:List V}(h:zf8 o=some l):o=.list l:=by
 induction o using Ob.casesOn with
 |list j=>exact sm h rfl
 |_=>exact nos h
theorem obDI_e{o:Ob}{l:List (Int×Sc)}(h:obDI o=some l):o=.dI l:=by
 induction o using Ob.casesOn with
 |dI j=>exact sm h rfl
 |_=>exact nos h
theorem zcM{α:Type}{l:List α}{a:α}(h:zcg l=some a):l=[a]:=
 match l,h with
 |[_],h=>sm h rfl
theorem zpo{op:Operator}{x y v:V}{p q:Value}(hb:zaU op h x y=some v)(R:Rel prog C.w g as h s.heap)(hx:zah prog C.w g as x p)(hy:zah prog C.w g as y q):
  wpAny (Md C) A (binaryOp op p q) (zay C g as s v h) No s:=by
 induction op using PySem.Operator.casesOn with
 |Add=>
  exact oI hx hb (λi t hb=>bI hy hb λj u hb=>sm hb (add_int (zay.pure R (.int ..) _))) λhb=>
   oS hx hb (λi t hb=>bS hy hb λj u hb=>fit_e hb λhz=>add_str (λt' tk=>by rw[zet];exact zay.pure R (.str ..) _) (by rw[zaS,zaS,sizeLine_eq];exact Nat.le_trans hz (by decide))) λhb=>
   be hb λxs e1 hb=>be hb λys e2 hb=>fit_e hb λhz=>by refine zba (zi6 R e1 hx) λa items n x0 ha ra=>?_;subst x0;refine zba (zi6 R e2 hy) λb items2 n2 r0 hb rb=>?_;subst r0;have l1:=ra.length;have l2:=rb.length;simp at l1 l2;refine P.add_list ha hb (zhV R (by simpa using ra.append rb)) (by rw[sizeLine_eq];lia)
 |Sub=>exact oII hx hy hb λi t j u hb=>sm hb (sub_int (zay.pure R (.int ..) _))
 |Mult=>
  exact oI hx hb (λi t hb=>bI hy hb λj u hb=>ite_e hb λhz=>mul_int (zay.pure R (.int ..) _) (IntMulOk.of_left (intBits_le_64 (by lia) (by lia)))) λhb=>
   bL hx hb λus a items k ha ra hb=>bI hy hb λj t hb=>be hb λu e hb=>fit_e hb λhz=>by
    have e:=zcM e;subst e;have hl:=R.frz _ _ ha;obtain⟨z,rfl⟩:∃z,items=#[z]:=by have:=ra.length;exact Array.size_eq_one_iff.mp this.symm
    have rz:VF prog C.w g u z:=ra.1;exact wpAny_binaryOp_repeat_ref (T:="list") (U:="int") (by decide) ⟨_,hl,rfl⟩ (λs'=>typeIs_int s' j t) noFill_list_mul F.fills_int_mul F.slot_int_rmul repeat_list F.slot_int_index.lookup
     (call_meets F.slot_int_rmul (typeIs_int s j t) F.entry_int_rmul (F.args_int_rmul_2 _ _) (int___rmul___int_list j t a _ k)
      ⟨hl,rfl,⟨_,hl,rfl⟩,call_meets F.slot_list_mul ⟨_,hl,rfl⟩ F.entry_list_mul (F.args_list_mul_2 _ _)
       (AutoListH.list___mul___list_int_3 a _ k j t (by simp[Builtin.List.listFitsIndex];lia) (by simp;lia) (by simp[Builtin.List.listTooLong,sizeLine];lia))
       ⟨hl,zhV R (by simp[ziL];exact VFs.rep rz _)⟩⟩)
 |FloorDiv=>exact oII hx hy hb λi t j u hb=>ite_n hb λhz=>floordiv_int (by lia) (zay.pure R (.int ..) _) (.inl (PyProof.noPylong_small (by lia)))
 |Mod=>exact oII hx hy hb λi t j u hb=>ite_n hb λhz=>mod_int' hz (zay.pure R (.int ..) _)
 |BitAnd=>exact oII hx hy hb λi t j u hb=>sm hb (and_int (zay.pure R (.int ..) _))
 |BitOr=>exact oII hx hy hb λi t j u hb=>sm hb (or_int (zay.pure R (.int ..) _))
 |Pow=>
  exact oII hx hy hb λi t j u hb=>ite_e hb λhz=>by
   refine xaa hz λt0 h0 h1=>?_;subst t0;refine pow_int h0 ?_ (zay.pure R (.int ..) _);have:Builtin.Int.intBits 2=2:=by decide
   rw[this];lia
 |RShift=>
  exact oII hx hy hb λi t j u hb=>ite_e hb λhz=>by subst hz;exact rshift_int (by decide) (zay.pure R (.int ..) _)
 |MatMult=>exact nos hb
 |Div=>exact nos hb
 |LShift=>exact nos hb
 |BitXor=>exact nos hb
theorem zif{prog:Program}{w:World}{A:Around}{E:Value->Shared->Prop}{s:Shared}{a b:Addr}{n m:Nat}{x1 x2 y1 y2:Int}{t1 t2 u1 u2:Tok}{P:Fin->Shared->Prop}
  (ha:s.heap.get? a=some (zie #[.int x1 t1,.int x2 t2] n)) (hb:s.heap.get? b=some (zie #[.int y1 u1,.int y2 u2] m))
  (h:P (.done (.ret (.bool (if x1=y1 then decide (x2<y2) else decide (x1<y1))))) s):wpAny (model prog w) A (Builtin.«tuple.__lt__» ⟨[.ref a,.ref b],[]⟩) P E s:=by
 show wpAny _ _ (isInstance (.ref b) (.type "tuple") >>= _) _ _ s
 refine wpAny_bind (wpAny_isInstance ⟨_,hb,rfl⟩ isSubtype_tuple_tuple ?_)
 refine wpAny_bind (wpAny_tupleItemsOf ha rfl ?_)
 refine wpAny_bind (wpAny_tupleItemsOf hb rfl ?_)
 refine wpAny_bind ?_
 simp only[List.zip_cons_cons,List.zip_nil_right,List.forIn_cons,List.forIn_nil]
 refine wpAny_bind (wpAny_bind (wpAny_eqBool_int ?_))
 by_cases h1:x1=y1
 ·subst h1;rw[if_pos rfl]at h;rw[beq_self_eq_true];refine wpAny_pure ?_;refine wpAny_bind (wpAny_bind (wpAny_eqBool_int ?_));by_cases h2:x2=y2
  ·subst h2;rw[beq_self_eq_true];refine wpAny_pure (wpAny_pure ?_);exact wpAny_pure (show P (Fin.done (Flow.ret (Value.bool false))) s by simpa using h)
  ·have:(x2==y2)=false:=by simpa using h2
   rw[this];exact wpAny_bind (wpAny_rule (wpAny_bind (lt_int (wpAny_bind (wpAny_pure (wpAny_pure (wpAny_pure (wpAny_pure h))))))))
 ·rw[if_neg h1]at h;have:(x1==y1)=false:=by simpa using h1
  rw[this];exact wpAny_bind (wpAny_rule (wpAny_bind (lt_int (wpAny_bind (wpAny_pure (wpAny_pure (wpAny_pure (wpAny_pure h))))))))
theorem zlg{g:Gm}{h:Heap}(hg:∀a o,g a=some o->h.get? a=some o){v:V}:∀{x:Value} {d:PyData},zqb v=some d->VF prog C.w g v x->∃as,Reads h x d as:=
 @V.rec (λv=>∀{x:Value} {d:PyData},zqb v=some d->VF prog C.w g v x->∃as,Reads h x d as) (λvs=>∀{xs:List Value} {ds:List PyData},zor vs=some ds->VFs prog C.w g vs xs->∃as,ReadsAll h xs ds as)
  (λe _=>nos e) (λe q=>sm e (by cases (q:_=Value.none);exact⟨_,.none⟩)) (λ_ _ _ e _=>nos e) (λ_ _ _ e q=>sm e (xe q.int_inv λt r=>by subst r;exact⟨_,.int ..⟩)) (λ_ _ _ e q=>sm e (xe q.str_inv λt r=>by subst r;exact⟨_,.str ..⟩))
  (λ_ k _ _ e q=>map_e e λds e1=>by refine zba q.tup_inv λa items n x0 ha r=>?_;subst x0;exact xe (k e1 r) λas ra=>⟨_,.tuple (hg _ _ ha) rfl rfl ra⟩)
  (λ_ k _ _ e q=>map_e e λds e1=>by refine zba q.lst_inv λa items n r0 ha r=>?_;subst r0;exact xe (k e1 r) λas ra=>⟨_,.list (hg _ _ ha) rfl rfl ra⟩)
  (λ_ _ _ e _=>nos e) (λ_ _ _ e _=>nos e) (λ_ _ _ _ _ e _=>nos e) (λ_ _ _ e _=>nos e) (λ_ _ _ e _=>nos e) (λ_ _ _ _ e _=>nos e) (λ_ _ _ e _=>nos e)
  (λe q=>sm e (q.nil_inv▸⟨_,.nil⟩))
  (λ_ _ f k _ _ e q=>VFs.cons_el q λy ys q1 q2=>be e λd e1 e=>be e λds' e2 e=>sm e (xe (f e1 q1) λas1 r1=>xe (k e2 q2) λas2 r2=>⟨_,.cons r1 r2⟩)) v
theorem zi3{v:V}{d:PyData}(e:zqb v=some d):flat v=true:=by induction v using V.casesOn<;>first|rfl|exact nos e
theorem zjW{g:Gm}{ys:List V}:∀{xs:List Value} {ns:List Int},zf0 ys=some ns->VFs prog C.w g ys xs->(∀y,y∈xs->∃i u,y=Value.int i u)/\numsOf xs=ns:=by
 induction ys with
 |nil=>intro xs ns e q;have q:=q.nil_inv;subst q;exact sm e ⟨λ_ h=>(nomatch h),rfl⟩
 |cons v vs ih=>intro xs ns e q;refine VFs.cons_el q λy xs q1 q2=>be e λi e1 e=>map_e e λns' e'=>?_;refine xe (zbA e1▸q1:VF prog C.w g (.int i) y).int_inv λu x0=>?_;subst x0;refine xa (ih e' q2) λh1 h2=>⟨λy hy=>?_,congrArg (i::·) h2⟩;exact(List.mem_cons.mp hy).elim (λe=>⟨i,u,e⟩) (h1 y)
theorem zoL{g:Gm}{ys:List V}:∀{xs:List Value} {ns:List (List Nat)},zfh ys=some ns->VFs prog C.w g ys xs->StrsAre xs (ns.map sk):=by
 induction ys with
 |nil=>intro xs ns e q;have q:=q.nil_inv;subst q;exact sm e .nil
 |cons v vs ih=>intro xs ns e q;refine VFs.cons_el q λy xs q1 q2=>be e λi e1 e=>map_e e λns' e'=>?_;refine xe (zdq e1▸q1:VF prog C.w g (.str i) y).str_inv λu x0=>?_;subst x0;exact .cons _ _ (ih e' q2)
theorem zi9{x y:List Nat}(e:sk x=sk y):x=y:=by have:=congrArg (λs:Str=>s.cps.toList) e;simpa[sk] using this
theorem zq3(x y:List Nat):(sk x==sk y)=(x==y):=by rw[Bool.eq_iff_iff,beq_iff_eq,beq_iff_eq];exact⟨zi9,congrArg sk⟩
noncomputable def isK(k:Int):Value->Bool
 | .int i _=>i==k
 |_=>false
theorem zjp(k:Int):∀l:List Value,(∀v,v∈l->∃a t,v=Value.int a t)->l.any (isK k)=(numsOf l).contains k:=by
 intro l9;induction l9 with
 |nil=>intro _;exact rfl
 |cons v l zjp=>intro h;refine seeq (h v (List.mem_cons_self ..)) λa t=>?_;simp only[List.any_cons,numsOf,List.contains_cons,(zjp λv hv=>h v (List.mem_cons_of_mem _ hv))];exact rwl (Bool.beq_comm (a:=k)) rfl
theorem any_sk(k:List Nat)(ns:List (List Nat)):((ns.map sk).any (·==sk k))=ns.contains k:=by
 induction ns with
 |nil=>rfl
 |cons z r ih=>rw[List.map_cons,List.any_cons,ih,zq3,List.contains_cons,Bool.beq_comm]
theorem zaE{K:Type}[DecidableEq K]{knd:KeyKind prog C.w K}{o:Obj}{ks:List (K×Value)}(d:zqB prog C.w knd o ks){hp:Heap}{a:Addr}(e:hp.get? a=some o):hp.DictOf knd a ks:=by refine zeC λX kX=>?_;refine ze8 d λes ep h1 h2 h3 h4 h5=>?_;exact kX o es ep e h1 h2 h3 h4 h5
theorem zfL{K:Type}[DecidableEq K]{knd:KeyKind prog C.w K}{ks:List (K×Value)}{hp:Heap}{a:Addr}(d:hp.DictOf knd a ks):∃o,hp.get? a=some o/\zqB prog C.w knd o ks:=by refine zbe d λo es ep e h1 h2 h3 x0=>?_;refine xa x0 λh4 h5=>?_;exact⟨o,e,es,ep,h1,h2,h3,h4,h5⟩
theorem zn4{α β:Type}[BEq α][LawfulBEq α][DecidableEq β]{f:α->β}(hf:∀x y,f x=f y->x=y){k:α}(kC:List (α×Sc)):∀{ks:List (β×Value)},Kv f kC ks->match kC.lookup k with|some c=>∃x,valueAt ks (f k)=some x/\ScR c x|none=>valueAt ks (f k)=none:=by
 induction kC with
 |nil=>intro ks q;have q:ks=[]:=q;subst q;rfl
 |cons p r ih=>
  intro ks q;obtain⟨k',c⟩:=p;refine zaj q λx r' e h1 h2=>?_;subst e;by_cases e:k=k'
  ·subst e;refine rwl List.lookup_cons ?_;rw[beq_self_eq_true];exact iea x (by simp[valueAt]) h1
  ·refine rwl List.lookup_cons ?_;refine rwl (by simpa using e:(k==k')=false) ?_;have e2:¬ f k'=f k:=λq=>e (hf _ _ q).symm;exact rwl (show valueAt ((f k',x)::r') (f k)=valueAt r' (f k) by simp[valueAt,e2]) (ih h2)
theorem zhG{k:Int}{kC:List (Int×Sc)}{ks:List (Int×Value)}(q:KvI kC ks):match kC.lookup k with|some c=>∃x,valueAt ks k=some x/\ScR c x|none=>valueAt ks k=none:=zn4 (λ_ _ e=>e) kC q
theorem zk5{k:List Nat}{kC:List (List Nat×Sc)}{ks:List (Str×Value)}(q:KvS kC ks):match kC.lookup k with|some c=>∃x,valueAt ks (sk k)=some x/\ScR c x|none=>valueAt ks (sk k)=none:=zn4 (λ_ _ e=>zi9 e) kC q
theorem zmg{α β:Type}[BEq α][LawfulBEq α](k:α)(l:List (α×β)):(l.lookup k).isSome=l.any (·.1==k):=by
 induction l with
 |nil=>rfl
 |cons p r ih=>
  obtain⟨a,b⟩:=p;by_cases e:k=a
  ·subst e;simp
  ·simp[List.lookup_cons,(by simpa using e:(k==a)=false),(by simpa using λq=>e q.symm:(a==k)=false),ih]
theorem zlv(a:AOk l A)(n:Nat)(hn:n<=1000):A.units+n<cLine:=by refine zig a λ_ _ h1 h2=>?_;have:cLine=9900:=rfl;lia
theorem zj7{p:Value}{x:V}{r:Int×Int}(hx:zah prog C.w g as x p)(e:zg2 x=some r):∃a n z1 z2 t1 t2,p=.ref a/\g a=some (zie #[z1,z2] n)/\z1=.int r.1 t1/\z2=.int r.2 t2:=
 bT hx e λus a items n ha ra e=>be e λw e1 e=>be e λi1 e2 e=>be e λi2 e3 e=>sm e (by
  have q:=zbA e2;have q':=zbA e3;obtain⟨w1,w2⟩:=w;simp only at q q';subst q q';have e1:=zku e1;subst e1;obtain⟨l1⟩:=items;exact VFs.cons_el (P:=λl=>g a=some (zie ⟨l⟩ n)->_) ra (λy ys q1 q2=>VFs.cons_el (P:=λl=>g a=some (zie ⟨y::l⟩ n)->_) q2 λz zs q3 q4 ha=>by have e4:=q4.nil_inv;subst e4;exact xe q1.int_inv λt1 r1=>xe q3.int_inv λt2 r2=>⟨a,n,y,z,t1,t2,rfl,ha,r1,r2⟩) ha)
theorem zkN{op:CmpOp}{x y:V}{b:Bool}{p q:Value}(hb:zbl op h x y=some b)(a:AOk l A)(R:Rel prog C.w g as h s.heap)(hx:zah prog C.w g as x p)(hy:zah prog C.w g as y q):
  wpAny (Md C) A (compareOp op p q) (zay C g as s (.bool b) h) No s:=by
 induction op using PySem.CmpOp.casesOn with
 |Eq=>
  exact oI hx hb (λi t hb=>bI hy hb λj u hb=>sm hb (eq_int (zay.now R (.bool _)))) λhb=>
   bS hx hb λi t hb=>bS hy hb λj u hb=>sm hb (eq_str (by rw[zq3];exact zay.now R (.bool _)))
 |NotEq=>
  exact oI hx hb (λi t hb=>bI hy hb λj u hb=>sm hb (ne_int (zay.now R (.bool _)))) λhb=>
   be hb λp' e1 hb=>be hb λq' e2 hb=>ite_e hb λhz=>
    xe (zlg (C:=C) R.frz e1 (zdv (zi3 e1) hx)) λas1 r1=>xe (zlg (C:=C) R.frz e2 (zdv (zi3 e2) hy)) λas2 r2=>
     ne_dataH r1 r2 hz.1 hz.2 (zlv a 64 (by decide)) (zay.now R (.bool _))
 |Lt=>
  exact oI hx hb (λi t hb=>bI hy hb λj u hb=>sm hb (lt_int (zay.now R (.bool _)))) λhb=>
   be hb λr1 e1 hb=>be hb λr2 e2 hb=>sm hb (by obtain⟨a1,n,z1,z2,t1,t2,rfl,ha,rfl,rfl⟩:=zj7 hx e1;obtain⟨a2,n2,y1,y2,u1,u2,rfl,hb,rfl,rfl⟩:=zj7 hy e2;have h1:=R.frz _ _ ha;have h2:=R.frz _ _ hb;refine wpAny_richCompare_same_room (T:="tuple") (op:=.Lt) ⟨_,h1,rfl⟩ ⟨_,h2,rfl⟩ F.slot_tuple_lt ?_ (zlv a 0 (by decide));refine wpAny_call_entry F.slot_tuple_lt ⟨_,h1,rfl⟩ F.entry_tuple_lt ?_ (F.args_tuple_lt_2 _ _);exact zif h1 h2 ⟨_,rfl,by simp[zal],zay.now R (.bool _)⟩)
 |LtE=>exact oII hx hy hb λi t j u hb=>sm hb (le_int (zay.now R (.bool _)))
 |Gt=>exact oII hx hy hb λi t j u hb=>sm hb (gt_int (zay.now R (.bool _)))
 |IsNot=>
  exact be hb λ_ e hb=>by
   have e:=(zhN e▸hy:zah prog C.w g as .none q).none_inv;subst e;exact oI hx hb (λi t hb=>sm hb (isNot_none (zay.now R (.bool _)))) λhb=>be hb λ_ e hb=>sm hb (by have e:=(zhN e▸hx:zah prog C.w g as .none p).none_inv;subst e;exact isNot_none (zay.now R (.bool _)))
 |In=>
  exact oI hx hb (λk t hb=>bL hy hb λys a1 items n ha ra hb=>map_e hb λns e1=>xa (zjW e1 ra) λh1 h2=>by
    refine SeqRoads2.in_list (items:=items) (n:=n) (isK k) (λy hy=>?_) (R.frz _ _ ha) ?_
    ·refine xee (h1 y (by simpa using hy)) λa u x0=>?_;subst x0;exact λ_ _ _ _ _ _ h=>wpAny_eqBool_int h
    ·rw[<-Array.any_toList,zjp k _ h1,h2];exact zay.now R (.bool _)) λhb=>
   bS hx hb λk t hb=>oS hy hb (λz u hb=>ite_e hb λhz=>by
     match k,hz with
     |[c],_=>
      refine in_str ?_;have:=StrLaws.found_one (sk z) c;have e:(sk [c])=⟨#[c]⟩:=rfl;rw[e,this];have:decide (c∈(sk z).cps.toList)=infix? [c] z:=by rw[Bool.eq_iff_iff];exact decide_eq_true_iff.trans (List.contains_iff_mem (a:=c)).symm
      rw[this];exact zay.now R (.bool _)) λhb=>bT hy hb λys a1 items n ha ra hb=>map_e hb λns e1=>in_tuple_strs ⟨_,R.frz _ _ ha,rfl,n,rfl⟩ (zoL e1 ra) (by rw[any_sk];exact zay.now R (.bool _))
 |NotIn=>
  exact bI hx hb λk t hb=>be hb λi e1 hb=>be hb λob e2 hb=>be hb λkC e3 hb=>sm hb (by
   have e1:=zf9 e1;subst e1;have e3:=obDI_e e3;subst e3;refine xea hy λd r0 e4=>?_;subst r0;refine zgt (R.ob i d _ e4 e2) λo ho t0 hs=>?_;refine xea t0 λks hd hk=>?_;refine wpAny_notIn_of (knd:=intKind prog C.w) (intKind_is prog C.w k t) hs (zaE hd ho).mapOf ?_;have:=zhG (k:=k) hk;rw[<-zmg];generalize e3:kC.lookup k=b0;induction b0 using Option.casesOn with
   |none=>rw[e3]at this;rw[this];exact zay.pure R (.bool _) _
   |some c=>rw[e3]at this;obtain⟨z,hz,_⟩:=this;rw[hz];exact zay.pure R (.bool _) _)
 |GtE=>exact nos hb
 |Is=>exact nos hb
theorem isE(us:List V){items:Array Value}(e:us.length=items.toList.length):items.isEmpty=us.isEmpty:=by induction us using List.casesOn<;>cases items using Array.casesOn with|_ l=>cases l<;>first|rfl|exact nomatch e
theorem zlu{x:V}{b:Bool}{p:Value}(hb:zaT h x=some b)(R:Rel prog C.w g as h s.heap)(hx:zah prog C.w g as x p):
  wpAny (Md C) A (truthy p) (λr s'=>r=b/\∃t,s'={ s with toks:=t }) No s:=by
 induction x using V.casesOn with
 |none=>exact sm hb (by have e:=hx.none_inv;subst e;exact λ_ _ _=>⟨rfl,s.toks,rfl⟩)
 |bool b=>exact sm hb (by have e:=hx.bool_inv;subst e;exact wpAny_truthy_bool ⟨rfl,s.toks,rfl⟩)
 |int i=>exact sm hb (xe hx.int_inv λt r=>by subst r;exact P.truthy_int ⟨rfl,s.toks,rfl⟩)
 |str lx=>
  exact fit_e hb λhz=>by refine xe hx.str_inv λt r=>?_;subst r;refine P.truthy_str (by rw[zaS];lia) ⟨?_,_,rfl⟩;rw[zaS];induction lx using List.casesOn<;>simp;lia
 |lA lx=>
  exact fit_e hb λhz=>by refine zba hx.lst_inv λa1 items n x0 ha ra=>?_;subst x0;exact wpAny_truthy_list ⟨_,R.frz _ _ ha,rfl,n,rfl⟩ (by have:=ra.length;simp at this;lia) ⟨by rw[isE lx ra.length],_,rfl⟩
 |obj i=>
  exact be hb λo e1 hb=>be hb λlx e2 hb=>fit_e hb λhz=>by have e2:=zld e2;subst e2;refine xea hx λa1 r0 e2=>?_;subst r0;refine zc0 (R.ob i a1 _ e2 e1) λitems n ha ra=>?_;exact wpAny_truthy_list ⟨_,ha,rfl,n,rfl⟩ (by have:=ra.length;simp at this;lia) ⟨by rw[isE lx ra.length],_,rfl⟩
 |_=>exact nos hb
theorem ze4{i:Expr}(hi:∀lo hi st p,i≠.Slice lo hi st p)(o iv:Value):subscripted i false o iv=operate [o,iv] (getItem o iv):=by induction i using PySem.Expr.casesOn<;>first|rfl|exact absurd rfl (hi _ _ _ _)
theorem zeo{M:Model}{o:Value}{T id:String}{Q:Bool->Shared->Prop}{E:Value->Shared->Prop}(hl:typeLookup (.type T) "__getitem__"=pure (some (.builtin id)))(hT:s.TypeIs o T)(q:Q false s):
  wpAny M A (getitemInPython o) Q E s:=by
 exact wpAny_bind (wpAny_specialOf hT hl (wpAny_pure q))
theorem zm8(n:Nat)(i:Int):clipAt n i<=n:=by unfold clipAt;omega
theorem zrX(n:Nat)(i:Option Int):i.elim n (clipAt n)<=n:=by induction i using Option.casesOn with|none=>simp|some i=>exact zm8 n i
theorem zg8{value i:Expr}{pos:Pos}{Q E:Value->Shared->Prop}(hi:∀lo hi st p,i≠.Slice lo hi st p)
  (h:wpAny (Md C) A (eval value env) (λo sA=>wpAny (Md C) A (eval i env) (λiv sE=>ItemOn (Md C) A E o iv Q sE) E sA) E s):
  wpAny (Md C) A (eval (.Subscript value i pos) env) Q E s:=by
 refine wpAny_bind (wpAny_mono h (λo sA hJ=>wpAny_bind (wpAny_holding (wpAny_mono hJ (λiv sE hO=>wpAny_bind (wpAny_standAt ?_)) λ_ _ x=>x)))
  λ_ _ x=>x)
 refine zaj hO λT id hl hT hg=>?_
 have fin:wpAny (Md C) A (operate [o,iv] (getItem o iv)) (λr sB=>wpAny (Md C) A (letTemporaryGo value o r >>= λ_=>pure r) Q E sB) E sE:=
  wpAny_operating (wpAny_mono hg (λr sB hX=>wpAny_bind (wpAny_letTemporaryGo (wpAny_pure hX))) λ_ _ x=>x)
 refine wpAny_bind (zeo hl hT ?_)
 rw[ze4 hi]
 exact wpAny_bind fin
theorem zfI{n:Nat}{k:Int}{j:Nat}(e:zcE n k=some j):0<=k/\k<n/\n<=100000/\j=k.toNat:=
 ite_e (P:=λj=>0<=k/\k<n/\n<=100000/\j=k.toNat) e λhz=>⟨hz.1,hz.2.1,hz.2.2,rfl⟩
theorem zgf{n:Nat}{k:Int}(h0:0<=k)(h1:k<n):seqIndex? k n=some k.toNat:=by
 unfold seqIndex?;have:¬ k<0:=by lia
 simp only[this,if_false];simp[h0,h1]
theorem zn6{xs:List V}{items:Array Value}{n:Nat}{a:Addr}{k:Int}{t:Tok}{j:Nat}{v:V}(R:Rel prog C.w g as h s.heap)(ha:s.heap.get? a=some (zg0 items n))(ra:VFs prog C.w g xs items.toList)
  (e:zcE xs.length k=some j) (hv:xs[j]?=some v):ItemOn (Md C) A No (.ref a) (.int k t) (zay C g as s v h) s:=by
 refine zgr λX kX=>?_
 refine zig (zfI e) λh0 h1 h2 x0=>?_;subst x0
 refine xea (ra.get _ _ hv) λx hx q=>?_
 have il:s.heap.IsList a items:=⟨_,ha,rfl,n,rfl⟩
 exact kX ("list") _ slot_list_getitem.lookup il.typeIs (wpAny_getItem_list il h0 (by lia) (by simpa using hx) (zay.now R (.of_VF q)))
theorem zlS{kC:List (Int×Sc)}{a:Addr}{o:Obj}{k:Int}{t:Tok}{c:Sc}(R:Rel prog C.w g as h s.heap)(ha:s.heap.get? a=some o)(hd:DI prog C.w o kC)(e:kC.lookup k=some c):
  ItemOn (Md C) A No (.ref a) (.int k t) (zay C g as s c.v h) s:=by
 refine zgr λX kX=>?_
 refine xea hd λks hd hk=>?_
 have:=zhG (k:=k) hk
 rw[e]at this
 refine xea this λx hx q=>?_
 exact kX ("dict") _ slot_dict_getitem.lookup ((zaE hd ha).mapOf).typeIs (wpAny_getItem_of (intKind_is prog C.w k t) ((zaE hd ha).mapOf) hx (zay.pure R (.of_VF (.of_sc q)) _))
theorem zlT{kC:List (List Nat×Sc)}{a:Addr}{o:Obj}{k:List Nat}{t:Tok}{c:Sc}(R:Rel prog C.w g as h s.heap)(ha:s.heap.get? a=some o)(hd:DS prog C.w o kC)(e:kC.lookup k=some c):
  ItemOn (Md C) A No (.ref a) (.str (sk k) t) (zay C g as s c.v h) s:=by
 refine zgr λX kX=>?_
 refine xea hd λks hd hk=>?_
 have:=zk5 (k:=k) hk
 rw[e]at this
 refine xea this λx hx q=>?_
 exact kX ("dict") _ slot_dict_getitem.lookup ((zaE hd ha).mapOf).typeIs (wpAny_getItem_of (strKind_is prog C.w (sk k) t) ((zaE hd ha).mapOf) hx (zay.pure R (.of_VF (.of_sc q)) _))
theorem zqV{us:List V}{a:Addr}{items:Array Value}{n:Nat}{y v:V}{q:Value}(hb:zoh us y=some v)(R:Rel prog C.w g as h s.heap)(ha:s.heap.get? a=some (zg0 items n))(ra:VFs prog C.w g us items.toList)(hy:zah prog C.w g as y q):
 ItemOn (Md C) A No (.ref a) q (zay C g as s v h) s:=bI hy hb λk t hb=>be hb λj e hv=>zn6 R ha ra e hv
theorem znA{kC:List (Int×Sc)}{a:Addr}{o:Obj}{y v:V}{q:Value}(hb:getI kC y=some v)(R:Rel prog C.w g as h s.heap)(ha:s.heap.get? a=some o)(hd:DI prog C.w o kC)(hy:zah prog C.w g as y q):
 ItemOn (Md C) A No (.ref a) q (zay C g as s v h) s:=bI hy hb λk t hb=>map_e hb λc e=>zlS R ha hd e
theorem zpT{x y v:V}{p q:Value}(hb:zb9 h x y=some v)(R:Rel prog C.w g as h s.heap)(hx:zah prog C.w g as x p)(hy:zah prog C.w g as y q):
  ItemOn (Md C) A No p q (zay C g as s v h) s:=by
 induction x using V.casesOn with
 |tup us=>
  refine zba hx.tup_inv λa items n x0 ha ra=>?_;subst x0;exact bI hy hb λk t hb=>be hb λj e hv=>by refine zgr λX kX=>?_;have hl:=ra.length;simp at hl;rw[hl]at e;refine zig (zfI e) λh0 h1 h2 r0=>?_;subst r0;refine xea (ra.get _ _ hv) λz hz qz=>?_;have it:IsTup s.heap a items:=⟨_,R.frz _ _ ha,rfl,n,rfl⟩;exact kX ("tuple") _ slot_tuple_getitem.lookup it.typeIs (getItem_tuple it (by lia) (by lia) (zgf h0 h1) (by simpa using hz) (zay.now R (.of_VF qz)))
 |lA us=>refine zba hx.lst_inv λa items n t0 ha ra=>?_;subst t0;exact zqV hb R (R.frz _ _ ha) ra hy
 |obj i=>
  refine xea hx λa b0 e1=>?_;subst b0;exact be hb λo e2 hb=>by
   induction o using Ob.casesOn with
   |list us=>exact zc0 (R.ob i a _ e1 e2) λitems n ha ra=>zqV hb R ha ra hy
   |dI kC=>exact zgt (R.ob i a _ e1 e2) λo ho hd _=>znA hb R ho hd hy
   |_=>exact nos hb
 |str l=>
  refine xe hx.str_inv λt e0=>?_;subst e0;exact bI hy hb λk u hb=>be hb λj e hv=>map_e hv λc hc=>by
   refine zgr λX kX=>?_;refine zig (zfI e) λh0 h1 h2 f0=>?_;subst f0;refine kX ("str") _ F.slot_str_getitem.lookup (typeIs_str s _ _) (P.getItem_str (c:=c) ?_ ?_ (zay.pure R (.str [c] _) _))
   ·lia
   ·rw[zaS,zgf h0 h1];simpa[sk] using hc
 |dI kC=>refine zbp hx.dI_inv λa o t0 ho hd _=>?_;subst t0;exact znA hb R (R.frz _ _ ho) hd hy
 |dS kC=>refine zbp hx.dS_inv λa o b0 ho hd _=>?_;subst b0;exact bS hy hb λk t hb=>map_e hb λc e=>zlT R (R.frz _ _ ho) hd e
 |_=>exact nos hb
theorem Ev.idx{e i:Expr}{pos:Pos}{x y v:V}{hJ hO:H}(hi:∀lo hi st p,i≠.Slice lo hi st p)(H1:Ev C l sc Γ vs e h x hJ)(H2:Ev C l sc Γ vs i hJ y hO)(hv:zb9 hO x y=some v):
  Ev C l sc Γ vs (.Subscript e i pos) h v hO:=by
 intro A env g as s a
 refine zg8 hi (wpAny_mono (H1 A env g as s a) (λp sA z=>?_) λ_ _ z=>z)
 refine zaj z λgB asA xA rB vA=>?_
 refine wpAny_mono (H2 A env gB asA sA (a.step xA rB)) (λq sE z=>?_) λ_ _ z=>z
 refine zaj z λgD asB xB rC vB=>?_
 refine zaj (zpT (C:=C) (A:=A) hv rC (xB.rep vA) vB) λT id b1 b2 b3=>?_
 exact zbT T id b1 b2 (wpAny_mono b3 (λ_ _ p=>p.after (xA.trans xB)) λ_ _ z=>z)
theorem zhR{v:V}{x:Value}{o:Option Int}(e:zff v=some o)(q:zah prog C.w g as v x):IsPart x o/\∃p:Option (Int×Tok),x=partValue p/\p.map (·.1)=o:=by
 induction v using V.casesOn<;>simp[zff.eq_def]at e<;>subst e
 ·have:=q.none_inv;subst this;exact⟨.none,none,rfl,rfl⟩
 ·obtain⟨t,rfl⟩:=q.int_inv;exact⟨.int ..,some (_,t),rfl,rfl⟩
theorem zja(lo hi:Option Int)(n:Nat):Builtin.Str.strSliceIndices lo hi 1 n=(List.range (hi.elim n (clipAt n)-lo.elim 0 (clipAt n))).map (lo.elim 0 (clipAt n)+·):=by have:Builtin.Str.strSliceIndices lo hi 1 n=sliceRange (sliceBounds lo hi none n).1 (sliceBounds lo hi none n).2.1 1:=rfl;rw[this,sliceBounds_plain,sliceRange_one]
theorem VFs.cut{g:Gm}{us:List V}{xs:List Value}(q:VFs prog C.w g us xs)(lo hi:Option Int):VFs prog C.w g (zgs us lo hi) (zgs xs lo hi):=by unfold zgs;refine rwl q.length ?_;exact(q.drop _).take _
theorem evO{o:Option Expr}{x:V}{hJ:H}(H1:match o with|none=>x=.none/\hJ=h|some e=>Ev C l sc Γ vs e h x hJ)(a:At C l sc Γ vs A env g as h s):
  wpAny (Md C) A (evalPart o env) (zay C g as s x hJ) No s:=by
 induction o using Option.casesOn with
 |none=>obtain⟨rfl,rfl⟩:=H1;exact wpAny_pure (a.now .none)
 |some e=>exact H1 A env g as s a
set_option tactic.hygienic true in
theorem Ev.slc{e:Expr}{lo hi:Option Expr}{p pos:Pos}{x y z v:V}{hJ hO hX:H}(H1:Ev C l sc Γ vs e h x hJ)(H2:match lo with|none=>y=.none/\hO=hJ|some e=>Ev C l sc Γ vs e hJ y hO)
  (H3:match hi with|none=>z=.none/\hX=hO|some e=>Ev C l sc Γ vs e hO z hX) (hv:zeu x y z=some v):Ev C l sc Γ vs (.Subscript e (.Slice lo hi none p) pos) h v hX:=by
 intro A env g as s a
 refine wpAny_bind (wpAny_mono (H1 A env g as s a) (λo sA q=>?_) λ_ _ z=>z)
 refine zaj q λgB asA xA rB vA=>?_
 have aA:=a.step xA rB
 refine wpAny_bind (wpAny_holding (wpAny_Slice (wpAny_mono (evO H2 aA) (λvl sE q=>?_) λ_ _ z=>z)))
 refine zaj q λgD asB xB rC vB=>?_
 have aB:=aA.step xB rC
 refine wpAny_mono (evO H3 aB) (λvu sB q=>?_) λ_ _ z=>z
 refine zaj q λgE as3 xC rD vC=>?_
 refine wpAny_pure ?_
 refine wpAny_bind (wpAny_standAt ?_)
 refine xa (rD.push { cls:=.type "slice",data:=.fields #[vl,vu,.none] } rfl sB.toks) λrE xD=>?_
 have X:=(xA.trans xB).trans (xC.trans xD)
 have hsl:=Heap.IsSliceOf.new sB.heap vl vu .none
 have v1:=(xB.trans (xC.trans xD)).rep vA
 have v2:=(xC.trans xD).rep vB
 have v3:=xD.rep vC
 generalize hS:({ sB with heap:=sB.heap.push { cls:=.type "slice",data:=.fields #[vl,vu,.none] } }:Shared)=S at*
 have hS':S.heap=sB.heap.push { cls:=.type "slice",data:=.fields #[vl,vu,.none] }:=by rw[<-hS]
 rw[<-hS']at rE hsl
 generalize zby gE sB.heap.objs.size { cls:=.type "slice",data:=.fields #[vl,vu,.none] }=G at*
 have key:ItemOn (Md C) A No o (.ref sB.heap.objs.size) (zay C G as3 S v hX) S:=by
  exact be hv λlo' e1 hv=>be hv λhi' e2 hv=>oS v1 hv (λus t hv=>fit_e hv λhz=>by
   refine xaea (zhR e1 v2) λ_ pl x0 hl=>?_;subst x0;refine xaea (zhR e2 v3) λ_ pu r0 hu=>?_;subst r0;refine zgt hsl λos hos hc hd=>?_;refine⟨"str",_,F.slot_str_getitem.lookup,typeIs_str S _ _,wpAny_getItem_str_slice (l:=pl) (u:=pu) (st:=none) ⟨os,hos,hc,hd⟩ rfl ?_⟩;have e3:slicePicked (sk us) pl pu none=(List.range (hi'.elim us.length (clipAt us.length)-lo'.elim 0 (clipAt us.length))).map (lo'.elim 0 (clipAt us.length)+·):=by unfold slicePicked;rw[hl,hu,zaS];exact zja lo' hi' us.length
   have e4:((slicePicked (sk us) pl pu none).filterMap ((sk us).cps[·]?))=zgs us lo' hi':=by rw[e3,pick_run];simp[sk,zgs]
   unfold sliceMade;split
   ·rename_i hq;have hq':(slicePicked (sk us) pl pu none).length=us.length:=by simpa[zaS] using hq
    have:zgs us lo' hi'=us:=by
     rw[e3]at hq';simp at hq';unfold zgs;have hb:=zrX us.length hi';generalize lo'.elim 0 (clipAt us.length)=a0 at*;rcases Nat.eq_zero_or_pos us.length with h0|h0
     ·have:us=[]:=List.length_eq_zero_iff.mp h0;subst this;simp
     ·have h1:a0=0:=by lia
      subst h1;rw[List.drop_zero,List.take_of_length_le (by lia)]
    rw[this];exact zay.now rE (.str ..)
   ·rw[e4];refine⟨?_,zay.pure rE (.str ..) _⟩;have:(zgs us lo' hi').length<=us.length:=by unfold zgs;simp;lia
    exact lnB 0 0 0 100000 0 16777216 this hz rfl) λhv=>bL v1 hv λus b items n ha ra hv=>fit_e hv λhz=>by
   have il:S.heap.IsList b items:=⟨_,rE.frz _ _ ha,rfl,n,rfl⟩
   have hlen:=ra.length
   simp at hlen
   refine⟨"list",_,slot_list_getitem.lookup,il.typeIs,wpAny_getItem_list_slice il hsl (zhR e1 v2).1 (zhR e2 v3).1 .none (by simp) ?_ (by rw[sizeLine_eq];lia)⟩
   refine zhV rE ?_
   rw[slicePick_plain]
   have:=ra.cut lo' hi'
   simpa[zgs] using this
 refine zaj key λT id hl hT hg=>?_
 have fin:wpAny (Md C) A (operate [.ref sB.heap.objs.size,o] (getItem o (.ref sB.heap.objs.size))) (λr sB=>wpAny (Md C) A (letTemporaryGo e o r >>= λ_=>pure r) (zay C g as s v hX) No sB) No S:=
  wpAny_operating (wpAny_mono hg (λr sB hX=>wpAny_bind (wpAny_letTemporaryGo (wpAny_pure (hX.after X)))) λ_ _ x=>x)
 exact wpAny_bind (zeo hl hT (wpAny_bind fin))
theorem Ev.bin{eB eC:Expr}{op:Operator}{pos:Pos}{x y v:V}{hJ hO:H}(H1:Ev C l sc Γ vs eB h x hJ)(H2:Ev C l sc Γ vs eC hJ y hO)(hv:zaU op hO x y=some v):Ev C l sc Γ vs (.BinOp eB op eC pos) h v hO:=by intro A env g as s a;exact wpAny_BinOp (two (P:=binaryOp op) H1 H2 a λg' as' s' p q a' hp hq=>zpo hv a'.rel hp hq)
theorem Ev.cmp{eB eC:Expr}{op:CmpOp}{pos:Pos}{x y:V}{b:Bool}{hJ hO:H}(hm:behindInMarks op eC=false)(H1:Ev C l sc Γ vs eB h x hJ)(H2:Ev C l sc Γ vs eC hJ y hO)(hv:zbl op hO x y=some b):
  Ev C l sc Γ vs (.Compare eB [op] [eC] pos) h (.bool b) hO:=by
 intro A env g as s a
 exact wpAny_Compare1 (two (P:=compareOp op) H1 H2 a λg' as' s' p q a' hp hq=>zkN hv a'.aok a'.rel hp hq) hm
theorem Ev.neg{e:Expr}{pos:Pos}{i:Int}{hJ:H}(H1:Ev C l sc Γ vs e h (.int i) hJ):Ev C l sc Γ vs (.UnaryOp .USub e pos) h (.int (-i)) hJ:=by intro A env g as s a;refine wpAny_UnaryOp (one (P:=unaryOp .USub) H1 a λg' as' s' p a' hp=>?_);refine seq hp.int_inv λt=>?_;exact P.neg_int (a'.pure (.int ..) _)
theorem zlr{t:Sem Value}{x:V}{b:Bool}(H1:wpAny (Md C) A t (zay C g as s x h') No s)(hb:zaT h' x=some b):
  wpAny (Md C) A t (λv sA=>wpAny (Md C) A (truthy v) (zrf C g as s b h') No sA) No s:=by
 refine wpAny_mono H1 (λp sA z=>?_) λ_ _ z=>z
 refine zaj z λgB asA xA rB vA=>?_
 refine wpAny_mono (zlu hb rB vA) (λr sE z=>?_) λ_ _ z=>z
 refine sqez z λt' x0=>?_;subst x0
 exact⟨rfl,gB,asA,xA.tok t',rB⟩
theorem Ts.val{e:Expr}{x:V}{b:Bool}{hJ:H}(he:∀env whole,isTrue e env whole=(do let v <-whole;standAt e.pos;holding [v] (truthy v)))(H1:Ev C l sc Γ vs e h x hJ)(hb:zaT hJ x=some b):Ts C l sc Γ vs e h b hJ:=by intro A env g as s a;exact wpAny_isTrue_value (zlr (H1 A env g as s a) hb) (he env _)
theorem Ts.cmp{eB eC:Expr}{op:CmpOp}{pos:Pos}{x y:V}{b:Bool}{hJ hO:H}(hm:behindInMarks op eC=false)(H1:Ev C l sc Γ vs eB h x hJ)(H2:Ev C l sc Γ vs eC hJ y hO)(hv:zbl op hO x y=some b):
  Ts C l sc Γ vs (.Compare eB [op] [eC] pos) h b hO:=by
 intro A env g as s a
 refine wpAny_isTrue_Compare1 ?_ hm
 refine wpAny_mono (H1 A env g as s a) (λp sA z=>?_) λ_ _ z=>z
 refine zaj z λgB asA xA rB vA=>?_
 refine wpAny_mono (H2 A env gB asA sA (a.step xA rB)) (λq sE z=>?_) λ_ _ z=>z
 refine zaj z λgD asB xB rC vB=>?_
 refine wpAny_mono (zlr (zkN hv a.aok rC (xB.rep vA) vB) rfl) (λr sB z=>?_) λ_ _ z=>z
 refine wpAny_mono z (λr s4 z=>?_) λ_ _ z=>z
 refine zgG z λe gE as3 xC rD=>?_
 exact⟨e,gE,as3,(xA.trans xB).trans xC,rD⟩
theorem Ts.not{e:Expr}{pos:Pos}{b:Bool}{hJ:H}(H1:Ts C l sc Γ vs e h b hJ):Ts C l sc Γ vs (.UnaryOp .Not e pos) h (!b) hJ:=by intro A env g as s a;refine wpAny_isTrue_Not (wpAny_mono (H1 A env g as s a) (λr sA z=>?_) λ_ _ z=>z);obtain⟨rfl,z⟩:=z;exact ia rfl z
theorem Ts.or{eB eC:Expr}{pos:Pos}{b c:Bool}{hJ hO:H}(H1:Ts C l sc Γ vs eB h b hJ)(H2:if b then c=true/\hO=hJ else Ts C l sc Γ vs eC hJ c hO):Ts C l sc Γ vs (.BoolOp .Or [eB,eC] pos) h c hO:=by
 intro A env g as s a;refine wpAny_isTrue_BoolOp (wpAny_allTrue_Or_cons (wpAny_mono (H1 A env g as s a) (λr sA z=>?_) λ_ _ z=>z));refine zgG z λx0 gB asA xA rB=>?_;subst x0;induction r using Bool.casesOn with
 |true=>obtain⟨rfl,rfl⟩:=H2;exact⟨rfl,gB,asA,xA,rB⟩
 |false=>
  refine wpAny_allTrue_Or_cons (wpAny_mono (H2 A env gB asA sA (a.step xA rB)) (λr sE z=>?_) λ_ _ z=>z);refine zgG z λr0 gD asB xB rC=>?_;subst r0;induction r using Bool.casesOn with
  |true=>exact⟨rfl,gD,asB,xA.trans xB,rC⟩
  |false=>exact wpAny_allTrue_Or_nil ⟨rfl,gD,asB,xA.trans xB,rC⟩
theorem Ts.and{eB eC:Expr}{pos:Pos}{b c:Bool}{hJ hO:H}(H1:Ts C l sc Γ vs eB h b hJ)(H2:if b then Ts C l sc Γ vs eC hJ c hO else c=false/\hO=hJ):Ts C l sc Γ vs (.BoolOp .And [eB,eC] pos) h c hO:=by
 intro A env g as s a;refine wpAny_isTrue_BoolOp (wpAny_allTrue_And_cons (wpAny_mono (H1 A env g as s a) (λr sA z=>?_) λ_ _ z=>z));refine zgG z λx0 gB asA xA rB=>?_;subst x0;induction r using Bool.casesOn with
 |false=>obtain⟨rfl,rfl⟩:=H2;exact⟨rfl,gB,asA,xA,rB⟩
 |true=>
  refine wpAny_allTrue_And_cons (wpAny_mono (H2 A env gB asA sA (a.step xA rB)) (λr sE z=>?_) λ_ _ z=>z);refine zgG z λr0 gD asB xB rC=>?_;subst r0;induction r using Bool.casesOn with
  |false=>exact⟨rfl,gD,asB,xA.trans xB,rC⟩
  |true=>exact wpAny_allTrue_And_nil ⟨rfl,gD,asB,xA.trans xB,rC⟩
theorem Ev.ite{t eB eC:Expr}{pos:Pos}{b:Bool}{v:V}{hJ hO:H}(H1:Ts C l sc Γ vs t h b hJ)(H2:if b then Ev C l sc Γ vs eB hJ v hO else Ev C l sc Γ vs eC hJ v hO):Ev C l sc Γ vs (.IfExp t eB eC pos) h v hO:=by
 intro A env g as s a;refine wpAny_IfExp (wpAny_mono (H1 A env g as s a) (λr sA z=>?_) λ_ _ z=>z);refine zgG z λx0 gB asA xA rB=>?_;subst x0;induction r using Bool.casesOn
 ·exact wpAny_mono (H2 A env gB asA sA (a.step xA rB)) (λ_ _ p=>p.after xA) λ_ _ z=>z
 ·exact wpAny_mono (H2 A env gB asA sA (a.step xA rB)) (λ_ _ p=>p.after xA) λ_ _ z=>z
theorem Ev.and{eB eC:Expr}{pos:Pos}{x v:V}{b:Bool}{hJ hO:H}(H1:Ev C l sc Γ vs eB h x hJ)(hb:zaT hJ x=some b)(H2:if b then Ev C l sc Γ vs eC hJ v hO else v=x/\hO=hJ):Ev C l sc Γ vs (.BoolOp .And [eB,eC] pos) h v hO:=by
 intro A env g as s a;refine wpAny_And2 (wpAny_mono (H1 A env g as s a) (λp sA z=>?_) λ_ _ z=>z);refine zaj z λgB asA xA rB vA=>?_;refine wpAny_mono (zlu hb rB vA) (λr sE z=>?_) λ_ _ z=>z;refine xae z λx0 t' r0=>?_;subst x0;subst r0;have x1':=xA.tok t';induction r using Bool.casesOn with
 |false=>obtain⟨rfl,rfl⟩:=H2;exact⟨gB,asA,x1',rB,vA⟩
 |true=>exact wpAny_mono (H2 A env gB asA _ (a.step x1' rB)) (λ_ _ p=>p.after x1') λ_ _ z=>z
theorem Ev.bi{f:Str}{id:String}{p pos:Pos}{e:Expr}{es:List Expr}{us:List V}{v:V}{hJ:H}(hf:sc.names.lookup f=some .globalImplicit)(hd:(f==("__debug__":Str))=false)(hm:f∈zci)(hn:f≠"__name__")
  (hb:bootBuiltins f=some (.builtin id)) (hst:∀env,starEach (e::es) env=(false,eval e env)::starEach es env) (hpl:∀env,(backTo pos (starEach es env)).any (·.1)=false)
  (H1:EvL C l sc Γ vs (e::es) h us hJ)
  (H2:∀A env g as s xs,At C l sc Γ vs A env g as hJ s->xs.length=us.length->(∀(i:Nat) v,us[i]?=some v->∃x,xs[i]?=some x/\zah prog C.w g as v x)->wpAny (Md C) A (call (.builtin id) xs) (zay C g as s v h') No s):
  Ev C l sc Γ vs (.Call (.Name f p) (e::es) [] pos) h v h':=by
 intro A env g as s a
 refine wpAny_Call_NameR (zhJ a hf hd hm hn hb ?_)
 refine PyProof.Rows.callWith_builtin1 (wpAny_mono (H1 A env g as s pos a) (λxs sA z=>?_) λ_ _ z=>z) (hst env) (hpl env)
 refine zbp z λgB asA xA rB hl hv=>?_
 exact wpAny_mono (H2 A env gB asA sA xs (a.step xA rB) hl hv) (λ_ _ p=>p.after xA) λ_ _ z=>z
theorem Ev.ty{f:Str}{T:String}{p pos:Pos}{e:Expr}{es:List Expr}{us:List V}{v:V}{hJ:H}(hf:sc.names.lookup f=some .globalImplicit)(hd:(f==("__debug__":Str))=false)(hm:f∈zci)(hn:f≠"__name__")
  (hb:bootBuiltins f=some (.type T)) (hst:∀env,starEach (e::es) env=(false,eval e env)::starEach es env) (hpl:∀env,(backTo pos (starEach es env)).any (·.1)=false)
  (H1:EvL C l sc Γ vs (e::es) h us hJ)
  (H2:∀A env g as s xs,At C l sc Γ vs A env g as hJ s->xs.length=us.length->(∀(i:Nat) v,us[i]?=some v->∃x,xs[i]?=some x/\zah prog C.w g as v x)->wpAny (Md C) A (call (.type T) xs) (zay C g as s v h') No s):
  Ev C l sc Γ vs (.Call (.Name f p) (e::es) [] pos) h v h':=by
 intro A env g as s a
 refine wpAny_Call_NameR (zhJ a hf hd hm hn hb ?_)
 refine callWith_type1 (wpAny_mono (H1 A env g as s pos a) (λxs sA z=>?_) λ_ _ z=>z) (hst env) (hpl env)
 refine zbp z λgB asA xA rB hl hv=>?_
 exact wpAny_mono (H2 A env gB asA sA xs (a.step xA rB) hl hv) (λ_ _ p=>p.after xA) λ_ _ z=>z
theorem zfC{P:Value->V->Prop}{xs:List Value}{u:V}{us:List V}(hl:xs.length=us.length+1)(hv:∀(i:Nat) v,(u::us)[i]?=some v->∃x,xs[i]?=some x/\P x v){G:Prop}
  (k:∀x ys,xs=x::ys->P x u->ys.length=us.length->(∀(i:Nat) v,us[i]?=some v->∃x,ys[i]?=some x/\P x v)->G):G:=by
 cases xs with
 |nil=>exact absurd hl (Nat.succ_ne_zero _).symm
 |cons x ys=>exact xea (hv 0 u rfl) λy e q=>k x ys rfl (Option.some.inj e▸q) (Nat.succ.inj hl) λi v e=>hv (i+1) v e
theorem zio{xs:List Value}{u:V}(hl:xs.length=[u].length)(hv:∀(i:Nat) v,[u][i]?=some v->∃x,xs[i]?=some x/\zah prog C.w g as v x):∃x,xs=[x]/\zah prog C.w g as u x:=
 zfC (P:=λx v=>zah prog C.w g as v x) hl hv λx ys e q hl _=>⟨x,by rw[e,List.length_eq_zero_iff.mp hl],q⟩
theorem zmU{xs:List Value}{u v:V}(hl:xs.length=[u,v].length)(hv:∀(i:Nat) z,[u,v][i]?=some z->∃x,xs[i]?=some x/\zah prog C.w g as z x):∃x y,xs=[x,y]/\zah prog C.w g as u x/\zah prog C.w g as v y:=
 zfC (P:=λx v=>zah prog C.w g as v x) hl hv λx ys e q hl hv=>xea (zio hl hv) λy e' q'=>⟨x,y,by rw[e,e'],q,q'⟩
theorem args3{xs:List Value}{u v w:V}(hl:xs.length=[u,v,w].length)(hv:∀(i:Nat) z,[u,v,w][i]?=some z->∃x,xs[i]?=some x/\zah prog C.w g as z x):∃x y z,xs=[x,y,z]/\zah prog C.w g as u x/\zah prog C.w g as v y/\zah prog C.w g as w z:=
 zfC (P:=λx v=>zah prog C.w g as v x) hl hv λx ys e q hl hv=>zaj (zmU hl hv) λy z e' q' q''=>⟨x,y,z,by rw[e,e'],q,q',q''⟩
theorem len_ok{x:V}{n:Int}{p:Value}(hb:zdh h x=some n)(R:Rel prog C.w g as h s.heap)(hx:zah prog C.w g as x p):wpAny (Md C) A (call (.builtin "len") [p]) (zay C g as s (.int n) h) No s:=by
 exact oS hx hb (λus t hb=>fit_e hb λhz=>P.len_str (by rw[zaS];lia) (by rw[zaS];exact zay.pure R (.int ..) _)) λhb=>be hb λxs e1 hb=>fit_e hb λhz=>by refine seeeqaz (zi6 R e1 hx) λa items k ha ra=>?_;have hl:=ra.length;simp at hl;refine Calls.call_len_list ⟨_,ha,rfl,k,rfl⟩ (by lia) ?_;refine rwl hl ?_;exact zay.pure R (.int ..) _
theorem zot{b:Int}{p:Value}(R:Rel prog C.w g as h s.heap)(hx:zah prog C.w g as (.int b) p):wpAny (Md C) A (call (.type "range") [p]) (zay C g as s (.rng 0 b 1) h) No s:=by refine seq hx.int_inv λt=>?_;refine xa (R.push (zsK 0 b 1 s.toks t (s.toks+1)) rfl (s.toks+1+1)) λr e=>?_;exact call_range_1 ⟨_,_,e,r,.rng' (zat ..)⟩
theorem zou{a b:Int}{p q:Value}(R:Rel prog C.w g as h s.heap)(hx:zah prog C.w g as (.int a) p)(hy:zah prog C.w g as (.int b) q):wpAny (Md C) A (call (.type "range") [p,q]) (zay C g as s (.rng a b 1) h) No s:=by obtain⟨t,rfl⟩:=hx.int_inv;obtain⟨u,rfl⟩:=hy.int_inv;obtain⟨r,e⟩:=R.push (zsK a b 1 t u s.toks) rfl (s.toks+1);exact call_range_2 ⟨_,_,e,r,.rng' (zat ..)⟩
theorem zov{a b:Int}{p q z:Value}(R:Rel prog C.w g as h s.heap)(hx:zah prog C.w g as (.int a) p)(hy:zah prog C.w g as (.int b) q)(hz:zah prog C.w g as (.int (-1)) z):wpAny (Md C) A (call (.type "range") [p,q,z]) (zay C g as s (.rng a b (-1)) h) No s:=by refine seq hx.int_inv λt=>?_;refine seq hy.int_inv λu=>?_;refine seq hz.int_inv λv=>?_;refine xa (R.push (zsK a b (-1) t u v) rfl s.toks) λr e=>?_;exact call_range_3 (by decide) ⟨_,_,e,r,.rng' (zat ..)⟩ (.inl (PyProof.noPylong_small (by decide)))
theorem zsm{i j:Int}{p q:Value}(a:AOk l A)(R:Rel prog C.w g as h s.heap)(hx:zah prog C.w g as (.int i) p)(hy:zah prog C.w g as (.int j) q):
  wpAny (Md C) A (call (.builtin "min") [p,q]) (zay C g as s (.int (if j<i then j else i)) h) No s:=by
 refine seq hx.int_inv λt=>?_
 refine seq hy.int_inv λu=>?_
 refine min_two_ints a.1 λh' tk hk=>?_
 refine zgr λX kX=>?_
 refine xa (R.kept hk tk) λr e=>?_
 refine kX _ _ e r ?_
 split<;>exact .int ..
theorem zsi{us:List V}{p:Value}(R:Rel prog C.w g as h s.heap)(hx:zah prog C.w g as (.lA us) p)(hz:us.length<=zad):wpAny (Md C) A (call (.type "list") [p]) (zay C g as s (.lA us) h) No s:=by refine seeeqaz hx.lst_inv λa items n ha ra=>?_;have hl:=ra.length;simp at hl;unfold zad at hz;refine call_list_seq a (.inl rfl) (R.frz _ _ ha) rfl rfl (λh' c' hk he=>?_) (by rw[sizeLine_eq];lia);refine xa (R.alloc (zas s.heap) he hk s.toks) λr e=>?_;exact zbT _ _ e r (.lA' (zat ..) (ra.mono e.gle))
theorem Rel.write{i:Nat}{a:Addr}{o o':Ob}{hp:Heap}(R:Rel prog C.w g as h s.heap)(ei:as[i]?=some a)(eh:h[i]?=some o)(ng:o≠.gone)(hs:Heap.SameBut a s.heap hp)(ho:OR prog C.w g as o' a hp)(hx:∃ob,hp.get? a=some ob)(ng':o'≠.gone)(tk:Nat):
  Rel prog C.w g as (h.set i o') hp/\Ext g as s g as { s with heap:=hp,toks:=tk }:=by
 have ga:=R.off i a o ei eh ng
 have ili:i<h.length:=(List.getElem?_eq_some_iff.mp eh).1
 refine⟨⟨λb ob e=>?_,by rw[List.length_set];exact R.len,λj b ob e1 e2=>?_,λj b ob e1 e2 nq=>?_,R.nd,λb hb=>?_⟩,.refl g,⟨[],by simp⟩,λ_ hb hq=>absurd hb hq,⟨_,_,rfl⟩,λb ob hb e=>?_,λb ob e=>?_,λ_ _ e=>.inl e⟩
 ·have:b≠a:=λq=>by rw[q,ga]at e;exact nos e
  exact(hs.2 b this).trans (R.frz b ob e)
 ·by_cases hij:i=j
  ·subst hij;rw[ei]at e1;have r0:=Option.some.inj e1;subst r0;rw[List.getElem?_set_self ili]at e2;have r0:=Option.some.inj e2;subst r0;exact ho
  ·rw[List.getElem?_set_ne hij]at e2;have:b≠a:=λq=>hij (R.nd i j a ei (q▸e1));exact(R.ob j b ob e1 e2).keep (.refl g) (za0 as) λo' e=>(hs.2 b this).trans e
 ·by_cases hij:i=j
  ·subst hij;rw[ei]at e1;have r0:=Option.some.inj e1;subst r0;exact ga
  ·rw[List.getElem?_set_ne hij]at e2;exact R.off j b ob e1 e2 nq
 ·by_cases hb':b=a
  ·exact rwl hb' hx
  ·refine xe (R.ex b hb) λob e=>?_;exact⟨ob,(hs.2 b hb').trans e⟩
 ·have:b≠a:=λq=>hb (q▸(List.mem_of_getElem? ei));exact(hs.2 b this).trans e
 ·by_cases hb':b=a
  ·exact rwl hb' hx
  ·exact⟨ob,(hs.2 b hb').trans e⟩
theorem zmT{i:Nat}{us:List V}{x:V}{p q:Value}(R:Rel prog C.w g as h s.heap)(hi:h[i]?=some (.list us))(hf:flat x=true)(hz:us.length<=zad)(hp:zah prog C.w g as (.obj i) p)(hq:zah prog C.w g as x q):
  wpAny (Md C) A (call (.builtin "list.append") [p,q]) (zay C g as s .none (h.set i (.list (us++[x])))) No s:=by
 refine seqz hp λa ei=>?_
 refine zc0 (R.ob i a _ ei hi) λitems n ha ra=>?_
 have hl:=ra.length
 simp at hl
 unfold zad at hz
 refine wpAny_list_append_plain ⟨n,ha⟩ (λhp hpl hs=>?_) (by rw[sizeLine_eq];lia)
 refine xe hpl λn' e'=>?_
 obtain⟨r,e⟩:=R.write (o':=.list (us++[x])) ei hi (by simp) hs ⟨_,n',e',by simpa using ra.append (us:=[x]) (ys:=[q]) ⟨zdv hf hq,trivial⟩⟩ ⟨_,e'⟩ (by simp) s.toks
 exact zbT _ _ e r .none
theorem VFs.last{us:List V}{xs:List Value}{x:V}(q:VFs prog C.w g us xs)(e:us.getLast?=some x):∃y,xs[xs.length-1]?=some y/\VF prog C.w g x y/\VFs prog C.w g us.dropLast xs.dropLast:=by rw[List.getLast?_eq_getElem?]at e;refine xea (q.get _ _ e) λy hy r=>?_;rw[q.length]at hy;refine zk2 y hy r ?_;refine rwl List.dropLast_eq_take ?_;refine rwl List.dropLast_eq_take ?_;refine rwl q.length ?_;exact q.take _
theorem zlX(items:Array Value):(items.eraseIdxIfInBounds (items.size-1)).toList=items.toList.dropLast:=by
 obtain⟨l⟩:=items;refine rwl List.dropLast_eq_take ?_;by_cases h:l.length=0
 ·have:l=[]:=List.length_eq_zero_iff.mp h;subst this;exact rfl
 ·simp[List.eraseIdx_eq_take_drop_succ];lia
theorem pop_ok{i:Nat}{us:List V}{x:V}{p:Value}(R:Rel prog C.w g as h s.heap)(hi:h[i]?=some (.list us))(hx:us.getLast?=some x)(hz:us.length<=zad)(hp:zah prog C.w g as (.obj i) p):
  wpAny (Md C) A (call (.builtin "list.pop") [p]) (zay C g as s x (h.set i (.list us.dropLast))) No s:=by
 refine seqz hp λa ei=>?_
 refine zc0 (R.ob i a _ ei hi) λitems n ha ra=>?_
 have hl:=ra.length
 simp at hl
 unfold zad at hz
 refine zgt (ra.last hx) λy hy r1 r2=>?_
 refine call_meets F.slot_list_pop ⟨_,ha,rfl⟩ F.entry_list_pop (F.args_list_pop_1 _) (MeetsSeq.list_pop_last a items n y (by simpa using hy) (by rw[sizeLine_eq];omega)) ⟨ha,?_⟩
 obtain⟨r,e⟩:=R.write (o':=.list us.dropLast) ei hi (by simp) (Heap.SameBut.update s.heap a _) ⟨_,_,(PySem.IsL.update ha λxs=>xs.eraseIdxIfInBounds (items.size-1)),by rw[zlX];exact r2⟩ ⟨_,(PySem.IsL.update ha λxs=>xs.eraseIdxIfInBounds (items.size-1))⟩ (by simp) s.toks
 exact zbT _ _ e r (.of_VF r1)
theorem zsA{i:Nat}{us:List V}{x:V}{p q:Value}(R:Rel prog C.w g as h s.heap)(hi:h[i]?=some (.list (x::us)))(hz:us.length<=zad)(hp:zah prog C.w g as (.obj i) p)(hq:zah prog C.w g as (.int 0) q):
  wpAny (Md C) A (call (.builtin "list.pop") [p,q]) (zay C g as s x (h.set i (.list us))) No s:=by
 refine seqz hp λa ei=>?_
 refine seq hq.int_inv λt=>?_
 refine zc0 (R.ob i a _ ei hi) λitems n ha ra=>?_
 obtain⟨l⟩:=items
 match l,ra with
 |y::ys,ra=>have ra:VF prog C.w g _ y/\VFs prog C.w g us ys:=ra;have hl:=ra.2.length;unfold zad at hz;refine call_meets F.slot_list_pop ⟨_,ha,rfl⟩ F.entry_list_pop (F.args_list_pop_2 _ _) (MeetsSeq.list_pop_at a _ n 0 t 0 y (by decide) (by simp[seqIndex?]) (by simp) (by simp[sizeLine_eq];lia)) ⟨ha,?_⟩;refine xa (R.write (o':=.list us) ei hi (by simp) (Heap.SameBut.update s.heap a _) ⟨_,_,(PySem.IsL.update ha λxs=>xs.eraseIdxIfInBounds 0),by simpa[Array.eraseIdxIfInBounds] using ra.2⟩ ⟨_,(PySem.IsL.update ha λxs=>xs.eraseIdxIfInBounds 0)⟩ (by simp) s.toks) λr e=>?_;exact zbT _ _ e r (.of_VF ra.1)
theorem sum_ok{us:List V}{n:Int}{p:Value}(a:AOk l A)(hv:sumV us=some n)(R:Rel prog C.w g as h s.heap)(hx:zah prog C.w g as (.lA us) p):wpAny (Md C) A (call (.builtin "sum") [p]) (zay C g as s (.int n) h) No s:=by refine xea (Option.map_eq_some_iff.mp hv) λns e1 x0=>?_;subst x0;refine zba hx.lst_inv λb items k r0 ha ra=>?_;subst r0;refine xa (zjW e1 ra) λh1 h2=>?_;have hall:AllInts items:=λv hv=>h1 v (by simpa using hv);refine xe hall.items λxs t0=>?_;subst t0;rw[nums_intItems]at h2;refine sum_intListG a.1 ⟨_,R.frz _ _ ha,rfl,k,rfl⟩ λh' tk t' hk=>?_;refine xa (R.kept hk tk) λr e=>?_;refine zbT _ _ e r ?_;rw[preSum_eq];refine rwl (List.take_of_length_le (by simp)) ?_;refine rwl h2 ?_;exact .int ..
theorem zoc:∀{ns:List Int} {n:Int},zji ns=some n->n∈ns/\∀m∈ns,n<=m
 |[],_,e=>nos e
 |[i],n,e=>by cases Option.some.inj e;simp
 |i::j::r,n,e=>by
  have e:(zji (j::r)).map (Min.min i ·)=some n:=e;refine xea (Option.map_eq_some_iff.mp e) λk e' x0=>?_;subst x0;refine xa (zoc e') λh1 h2=>?_;refine⟨?_,λm hm=>?_⟩
  ·by_cases h:i<=k
   ·rw[Int.min_eq_left h];simp
   ·rw[Int.min_eq_right (by lia)];exact .tail _ h1
  ·rcases List.mem_cons.mp hm with rfl|hm
   ·exact Int.min_le_left ..
   ·exact Int.le_trans (Int.min_le_right ..) (h2 m hm)
theorem min_ok{us:List V}{n:Int}{p:Value}(a:AOk l A)(hv:minV us=some n)(R:Rel prog C.w g as h s.heap)(hx:zah prog C.w g as (.lA us) p):wpAny (Md C) A (call (.builtin "min") [p]) (zay C g as s (.int n) h) No s:=by
 refine xea (Option.bind_eq_some_iff.mp hv) λns e1 hm=>?_;refine zba hx.lst_inv λb items k x0 ha ra=>?_;subst x0;refine xa (zjW e1 ra) λh1 h2=>?_;have hall:AllInts items:=λv hv=>h1 v (by simpa using hv);refine xe hall.items λxs r0=>?_;subst r0;rw[nums_intItems]at h2;refine xa (zoc hm) λm1 m2=>?_;have hsz:0<xs.size:=by have:=List.length_pos_of_mem m1;rw[<-h2]at this;simpa using this
 refine min_intList a.1 ⟨_,R.frz _ _ ha,rfl,k,rfl⟩ hsz λv h' tk hv hk=>?_;refine xe (intItems_at hv) λt t0=>?_;subst t0;refine xa (argBest_lt (numAt xs) (xs.size-1)) λq1 q2=>?_;refine xa (R.kept hk tk) λr e=>?_;have:numAt xs (argBest (λi j=>decide (numAt xs i<numAt xs j)) (xs.size-1))=n:=by
  apply Int.le_antisymm
  ·rw[<-h2]at m1;refine xea (PySem.mem_getD m1) λj hj b0=>?_;subst b0;rw[<-numAt_eq];exact q2 j (by simp at hj;omega)
  ·apply m2;rw[<-h2,numAt_eq];exact PySem.getD_mem (by simp;omega)
 refine rwl this ?_;exact zbT _ _ e r (.int ..)
end
theorem zbV(x:Str)(c:Nat):∀(k j:Nat) (st:Array Nat×Nat),j+k=x.length+1->st.fst.size<=j->st.snd<=j->
  (forIn (List.range' j k) st (StrLaws.occBody x ⟨#[c]⟩ x.length (x.length+1))).run.fst.size=st.fst.size+(x.cps.toList.drop j).count c:=by
 intro l9;induction l9 with
 |zero=>
  intro j st hk _ _;have:x.cps.toList.drop j=[]:=by apply List.drop_of_length_le;simp[Str.length]at hk ⊢;lia
  refine rwl this ?_;rfl
 |succ k zbV=>
  intro j st hk h1 h2;refine rwl List.range'_succ ?_;rw[List.forIn_cons];unfold StrLaws.occBody;by_cases hc:x.cps.toList[j]?=some c
  ·have hc':=(StrLaws.subAt_one x c j).mpr hc;refine rwl (if_pos ⟨⟨⟨by lia,h2⟩,hc'.1⟩,hc'.2⟩) ?_;refine Eq.trans (zbV (j+1) (st.fst.push j,j+(⟨#[c]⟩:Str).length) (by lia) (by simp;exact h1) (Nat.le_refl _)) ?_;obtain⟨hlt,hg⟩:=List.getElem?_eq_some_iff.mp hc;refine rwl (List.drop_eq_getElem_cons hlt) ?_;refine rwl hg ?_;simp;lia
  ·refine rwl (if_neg λq=>hc ((StrLaws.subAt_one x c j).mp ⟨q.1.2,q.2⟩)) ?_;refine Eq.trans (zbV (j+1) st (by lia) (by exact Nat.le_succ_of_le h1) (by exact Nat.le_succ_of_le h2)) ?_;by_cases hlt:j<x.cps.toList.length
   ·refine rwl (List.drop_eq_getElem_cons hlt) ?_;refine rwl List.count_cons ?_;have:¬ x.cps.toList[j]=c:=λq=>hc (by rw[List.getElem?_eq_getElem hlt,q]);simpa using this
   ·refine rwl (List.drop_of_length_le (by exact Nat.le_succ_of_le (Nat.le_of_not_lt hlt))) ?_;exact rwl (List.drop_of_length_le (by exact Nat.le_of_not_lt hlt)) rfl
theorem zok(x:Str)(c:Nat):(Builtin.Str.occurrences x ⟨#[c]⟩ 0 x.length (x.length+1)).length=x.cps.toList.count c:=by rw[StrLaws.occ_eq];have:=zbV x c (x.length+1) 0 (#[],0) (by lia) (by simp) (by simp);simpa using this
section
variable {C:Cx}{l:Nat}{sc:Scope}{Γ:Gam}{vs:Vs}{A:Around}{env:Env}{g:Gm}{as:List Addr}{h h':H}{s:Shared}
theorem zbN{M:Model}{f:Value}{args:List (Bool×Sem Value)}{Q:Args->Shared->Prop}{E:Value->Shared->Prop}(hpl:args.any (·.1)=false)(hq:wpAny M A (spliced args) (λvs sA=>Q ⟨vs,[]⟩ sA) E s):
  wpAny M A (evalArgs f true args []) Q E s:=by
 induction args using List.casesOn with
 |nil=>have e:evalArgs f true [] []=(spliced [] >>= λvs=>pure ⟨vs,[]⟩):=rfl;refine rwl e ?_;exact wpAny_bind (wpAny_mono hq (λ_ _ q=>wpAny_pure q) λ_ _ q=>q)
 |cons a r=>
  obtain⟨b,t⟩:=a;induction b using Bool.casesOn with
  |false=>exact Calls.evalArgs_plain hq
  |true=>simp at hpl
theorem Ev.bmeth{o:Expr}{name:Str}{id:String}{apos pos:Pos}{es:List Expr}{x v:V}{us:List V}{hJ hO:H}(hbase:∀env whole,attributeBase o name env whole=whole)(hline:(apos.endLine==pos.line)=true)
  (hform:∀env,methodCallForm (es.length+0) (backTo pos (starEach es env)) []=true) (hpl:∀env,(backTo pos (starEach es env)).any (·.1)=false)
  (H1:Ev C l sc Γ vs o h x hJ) (H2:EvL C l sc Γ vs es hJ us hO)
  (H3:∀(g:Gm) as s p (pl:Sem Bool) (A:Around) (Q:Value×List Value->Shared->Prop),Rel prog C.w g as hJ s.heap->zah prog C.w g as x p->Q (.builtin id,[p]) s->wpAny (Md C) A (getMethod p name pl) Q No s)
  (H4:∀A env g as s p xs,At C l sc Γ vs A env g as hO s->zah prog C.w g as x p->xs.length=us.length->(∀(i:Nat) v,us[i]?=some v->∃x,xs[i]?=some x/\zah prog C.w g as v x)->wpAny (Md C) A (call (.builtin id) (p::xs)) (zay C g as s v h') No s):
  Ev C l sc Γ vs (.Call (.Attribute o name apos) es [] pos) h v h':=by
 intro A env g as s a
 rw[arm_eval_Call,hbase]
 refine wpAny_bind (wpAny_mono (H1 A env g as s a) (λp sA z=>?_) λ_ _ e=>e)
 refine zaj z λgB asA xA rB vA=>?_
 refine wpAny_bind (wpAny_standAt ?_)
 have hpos:methodCallPos true o env apos pos=pure pos:=by unfold methodCallPos;simp[hline]
 have fin:wpAny (Md C) A (callWith pos (.builtin id) [p] (backTo pos (starEach es env)) []) (zay C g as s v h') No sA:=by refine Calls.callWith_builtin (hpl env) (zbN (hpl env) (wpAny_mono (H2 A env gB asA sA pos (a.step xA rB)) (λxs sE z=>?_) λ_ _ z=>z));refine zbp z λgD asB xB rC hl hv=>?_;exact wpAny_mono (H4 A env gD asB sE p xs ((a.step xA rB).step xB rC) (xB.rep vA) hl hv) (λ_ _ p=>p.after (xA.trans xB)) λ_ _ z=>z
 unfold methodCall
 refine rwl (hform env) ?_
 refine wpAny_bind (wpAny_holding ?_)
 refine H3 gB asA sA p _ A _ rB vA ?_
 exact wpAny_bind (wpAny_of_eq hpos fin)
theorem zf5{name:Str}{id:String}{x:V}{xs:List V}(slot:Slot "list" name id)(hty:typeOf (.builtin id)=pure (.type "method_descriptor"))(hq:zgE h x=some xs)
  (g:Gm) (as:List Addr) (s:Shared) (p:Value) (pl:Sem Bool) (A:Around) (Q:Value×List Value->Shared->Prop) (R:Rel prog C.w g as h s.heap) (v:zah prog C.w g as x p) (q:Q (.builtin id,[p]) s):wpAny (Md C) A (getMethod p name pl) Q No s:=by
 refine zba (zi6 R hq v) λa items n x0 ha _=>?_;subst x0
 exact getMethod_builtin ⟨_,ha,rfl⟩ F.plainAttrs_list slot hty (λb e=>by cases e;exact⟨_,ha,rfl⟩) q
theorem zk9{name:Str}{id:String}{x:List Nat}(slot:Slot "str" name id)(hty:typeOf (.builtin id)=pure (.type "method_descriptor"))
  (g:Gm) (as:List Addr) (s:Shared) (p:Value) (pl:Sem Bool) (A:Around) (Q:Value×List Value->Shared->Prop) (_:Rel prog C.w g as h s.heap) (v:zah prog C.w g as (.str x) p) (q:Q (.builtin id,[p]) s):wpAny (Md C) A (getMethod p name pl) Q No s:=by
 refine xe v.str_inv λt x0=>?_;subst x0
 exact getMethod_builtin (typeIs_str s _ _) F.plainAttrs_str slot hty (λb e=>by cases e) q
theorem zgQ{o:Obj}{K:Type}[DecidableEq K]{knd:KeyKind prog C.w K}{ks:List (K×Value)}(d:zqB prog C.w knd o ks):o.cls=.type "dict"/\o.dict=none:=by refine zc0 d λes ep h1 _=>?_;exact ia h1.1 h1.2.1
theorem zsk{name:Str}{id:String}{kC:List (Int×Sc)}(slot:Slot "dict" name id)(hty:typeOf (.builtin id)=pure (.type "method_descriptor"))
  (g:Gm) (as:List Addr) (s:Shared) (p:Value) (pl:Sem Bool) (A:Around) (Q:Value×List Value->Shared->Prop) (R:Rel prog C.w g as h s.heap) (v:zah prog C.w g as (.dI kC) p) (q:Q (.builtin id,[p]) s):wpAny (Md C) A (getMethod p name pl) Q No s:=by
 refine zbp v.dI_inv λa o x0 ho r0 _=>?_;subst x0;refine xea r0 λks hd _=>?_
 refine xa (zgQ hd) λc1 c2=>?_
 exact getMethod_builtin ⟨_,R.frz _ _ ho,c1⟩ F.plainAttrs_dict slot hty (λb e=>by cases e;exact⟨_,R.frz _ _ ho,c2⟩) q
theorem zsl{name:Str}{id:String}{kC:List (List Nat×Sc)}(slot:Slot "dict" name id)(hty:typeOf (.builtin id)=pure (.type "method_descriptor"))
  (g:Gm) (as:List Addr) (s:Shared) (p:Value) (pl:Sem Bool) (A:Around) (Q:Value×List Value->Shared->Prop) (R:Rel prog C.w g as h s.heap) (v:zah prog C.w g as (.dS kC) p) (q:Q (.builtin id,[p]) s):wpAny (Md C) A (getMethod p name pl) Q No s:=by
 refine zbp v.dS_inv λa o x0 ho r0 _=>?_;subst x0;refine xea r0 λks hd _=>?_
 refine xa (zgQ hd) λc1 c2=>?_
 exact getMethod_builtin ⟨_,R.frz _ _ ho,c1⟩ F.plainAttrs_dict slot hty (λb e=>by cases e;exact⟨_,R.frz _ _ ho,c2⟩) q
theorem zny{kC:List (Int×Sc)}{k:Int}{x:V}{p q z:Value}(R:Rel prog C.w g as h s.heap)(hp:zah prog C.w g as (.dI kC) p)(hq:zah prog C.w g as (.int k) q)(hz:zah prog C.w g as x z):
  wpAny (Md C) A (call (.builtin "dict.get") [p,q,z]) (zay C g as s (((kC.lookup k).map Sc.v).getD x) h) No s:=by
 refine seeqaaz hp.dI_inv λa o ho x0 hsm=>?_;refine xea x0 λks hd hk=>?_
 refine seq hq.int_inv λt=>?_
 refine call_meetsIn F.slot_dict_get ((zaE hd (R.frz _ _ ho)).mapOf).typeIs F.entry_dict_get (F.args_dict_get_3 _ _ _) (meets_dict_get_default (intKind prog C.w) a (intKind_is prog C.w k t) hsm z) ⟨_,((zaE hd (R.frz _ _ ho)).mapOf),?_⟩
 have:=zhG (k:=k) hk
 generalize e3:kC.lookup k=r0;induction r0 using Option.casesOn with
 |none=>rw[e3]at this;rw[this];exact zay.pure R hz _
 |some c=>rw[e3]at this;obtain⟨y,hy,r⟩:=this;rw[hy];exact zay.pure R (.of_VF (.of_sc r)) _
theorem znz{kC:List (List Nat×Sc)}{k:List Nat}{x:V}{p q z:Value}(R:Rel prog C.w g as h s.heap)(hp:zah prog C.w g as (.dS kC) p)(hq:zah prog C.w g as (.str k) q)(hz:zah prog C.w g as x z):
  wpAny (Md C) A (call (.builtin "dict.get") [p,q,z]) (zay C g as s (((kC.lookup k).map Sc.v).getD x) h) No s:=by
 refine seeqaaz hp.dS_inv λa o ho x0 hsm=>?_;refine xea x0 λks hd hk=>?_
 refine seq hq.str_inv λt=>?_
 refine call_meetsIn F.slot_dict_get ((zaE hd (R.frz _ _ ho)).mapOf).typeIs F.entry_dict_get (F.args_dict_get_3 _ _ _) (meets_dict_get_default (strKind prog C.w) a (strKind_is prog C.w (sk k) t) hsm z) ⟨_,((zaE hd (R.frz _ _ ho)).mapOf),?_⟩
 have:=zk5 (k:=k) hk
 generalize e3:kC.lookup k=r0;induction r0 using Option.casesOn with
 |none=>rw[e3]at this;rw[this];exact zay.pure R hz _
 |some c=>rw[e3]at this;obtain⟨y,hy,r⟩:=this;rw[hy];exact zay.pure R (.of_VF (.of_sc r)) _
theorem zoM{xs:List Value}{ys:List Str}(q:StrsAre xs ys):∃l:List (Str×Tok),xs=strValues l/\l.map (·.1)=ys:=by
 induction q with
 |nil=>exact⟨[],rfl,rfl⟩
 |cons y t _ ih=>obtain⟨l,rfl,rfl⟩:=ih;exact⟨(y,t)::l,rfl,rfl⟩
theorem znV(s:List Nat):∀ss:List (List Nat),Str.join (sk s) (ss.map sk)=sk (zgy s ss)
 |[]=>rfl
 |[x]=>rfl
 |x::y::r=>by show sk x++sk s++Str.join (sk s) ((y::r).map sk)=_;rw[znV s (y::r),zet,zet];rfl
theorem zhz(s:List Nat):∀(ss:List (List Nat)) (k:Nat),(ss.map sk).foldl (λ(n:Nat) (x:Str)=>n+x.length+(sk s).length) k=k+((ss.map List.length).sum+ss.length*s.length):=by
 intro l9;induction l9 with
 |nil=>intro k;simp
 |cons x r zhz=>intro k;refine rwl List.foldl_cons ?_;rw[zhz,zaS,zaS];simp[Nat.add_mul];lia
theorem znU{sp:List Nat}{x:V}{xs:List V}{ss:List (List Nat)}{p q:Value}(R:Rel prog C.w g as h s.heap)(hs:zgE h x=some xs)(hss:zfh xs=some ss)(hz:(ss.map List.length).sum+ss.length*sp.length<=zad)
  (hp:zah prog C.w g as (.str sp) p) (hq:zah prog C.w g as x q):wpAny (Md C) A (call (.builtin "str.join") [p,q]) (zay C g as s (.str (zgy sp ss)) h) No s:=by
 refine seq hp.str_inv λt=>?_
 refine seeeqaz (zi6 R hs hq) λa items n ha ra=>?_
 refine xea (zoM (zoL hss ra)) λL e1 e2=>?_
 refine SC.join (D:=a) (l:=L) (texts:=ss.map sk) ⟨_,ha,rfl,n,by rw[(by rw[<-e1,Array.toArray_toList]:items=(strValues L).toArray)]⟩ e2 ?_ (λt' k=>?_)
 ·unfold JoinOk;have:=zhz sp ss 0;simp only[List.foldl_toArray,this];simp[Builtin.Str.tooLong];exact Nat.le_trans hz (by decide)
 ·have e:Txt.join (sk sp) (ss.map sk)=Str.join (sk sp) (ss.map sk):=StrLaws.glued_eq_join _ _;refine rwl e ?_;rw[znV];exact zay.pure R (.str ..) _
theorem zlR{x:List Nat}{c:Nat}{p q:Value}(R:Rel prog C.w g as h s.heap)(hp:zah prog C.w g as (.str x) p)(hq:zah prog C.w g as (.str [c]) q):
  wpAny (Md C) A (call (.builtin "str.count") [p,q]) (zay C g as s (.int (x.count c)) h) No s:=by
 obtain⟨t,rfl⟩:=hp.str_inv
 obtain⟨u,rfl⟩:=hq.str_inv
 refine call_meets F.slot_str_count (typeIs_str s _ _) F.entry_str_count (F.args_str_count_2 _ _) (gives_str_count (sk x) (sk [c]) t u).meets ?_
 have e:sk [c]=⟨#[c]⟩:=rfl
 refine rwl e ?_;rw[zok]
 exact zay.pure R (.int ..) _
end
def zij(env:Env)(a:Addr):Prop:=a=env.locals\/∃x,env.cells.lookup x=some a
def Own(env:Env)(Γw:Gam)(a:Addr):Prop:=a=env.locals\/∃x i,Γw.lookup x=some i/\env.kindOf x=some .cell/\env.cells.lookup x=some a
theorem Own.mine{env:Env}{Γw:Gam}{a:Addr}(h:Own env Γw a):zij env a:=h.elim .inl λ⟨x,_,_,_,e⟩=>.inr ⟨x,e⟩
structure ExtS (B:Addr->Prop) (g:Gm) (as:List Addr) (s:Shared) (g':Gm) (as':List Addr) (s':Shared):Prop where
 gle:Gle g g'
 pre:∃r,as'=as++r
 new:∀a∈as',a ∉ as->s.heap.get? a=none
 same:∃h tk,s'={ s with heap:=h,toks:=tk }
 keep:∀a o,a ∉ as->¬ B a->s.heap.get? a=some o->s'.heap.get? a=some o
 there:∀a o,s.heap.get? a=some o->∃o',s'.heap.get? a=some o'
 gnew:∀a o,g' a=some o->g a=some o\/s.heap.get? a=none\/a∈as\/B a
theorem Ext.toS{B:Addr->Prop}{g g':Gm}{as as':List Addr}{s s':Shared}(x:Ext g as s g' as' s'):ExtS B g as s g' as' s':=
 ⟨x.gle,x.pre,x.new,x.same,λa o h _ e=>x.keep a o h e,x.there,λa o e=>(x.gnew a o e).elim .inl λq=>.inr (q.elim .inl λq=>.inr (.inl q))⟩
theorem ExtS.refl(B:Addr->Prop)(g:Gm)(as:List Addr)(s:Shared):ExtS B g as s g as s:=(Ext.refl g as s).toS
theorem ExtS.trans{B:Addr->Prop}{g g' g'':Gm}{as as' as'':List Addr}{s s' s'':Shared}(x:ExtS B g as s g' as' s')(y:ExtS B g' as' s' g'' as'' s''):ExtS B g as s g'' as'' s'' where
 gle:=x.gle.trans y.gle
 pre:=by refine xe x.pre λr e=>?_;refine xe y.pre λr' e'=>?_;exact⟨r++r',by rw[e',e,List.append_assoc]⟩
 new:=λa h h'=>by
  by_cases hq:a∈as'
  ·exact x.new a hq h'
  ·generalize e:s.heap.get? a=x0;induction x0 using Option.casesOn with
   |none=>rfl
   |some o=>obtain⟨o',e'⟩:=x.there a o e;have:=y.new a h hq;rw[e']at this;exact nos (Eq.symm this)
 same:=by refine xee x.same λh tk r0=>?_;subst r0;refine xee y.same λh' tk' t0=>?_;subst t0;exact⟨_,_,rfl⟩
 keep:=λa o h n e=>y.keep a o (λq=>by have:=x.new a q h;rw[e]at this;exact nos (Eq.symm this)) n (x.keep a o h n e)
 there:=λa o e=>let ⟨o',e'⟩:=x.there a o e;y.there a o' e'
 gnew:=λa o e=>by
  rcases y.gnew a o e with h|h|h|h
  ·exact x.gnew a o h
  ·generalize q:s.heap.get? a=b0;induction b0 using Option.casesOn with
   |none=>exact .inr (.inl rfl)
   |some o'=>obtain⟨o'',e''⟩:=x.there a o' q;rw[h]at e'';exact nos e''
  ·by_cases hq:a∈as
   ·exact .inr (.inr (.inl hq))
   ·exact .inr (.inl (x.new a h hq))
  ·exact .inr (.inr (.inr h))
theorem ExtS.rep{prog:Program}{w:World}{B:Addr->Prop}{g g':Gm}{as as':List Addr}{s s':Shared}(x:ExtS B g as s g' as' s'){v:V}{y:Value}(q:zah prog w g as v y):zah prog w g' as' v y:=q.mono x.gle x.pre
structure FOwn (g:Gm) (env:Env) (Γ Γw:Gam):Prop where
 sub:∀x i,Γw.lookup x=some i->Γ.lookup x=some i/\(env.kindOf x=some .local\/(env.kindOf x=some .cell/\∃c,env.cells.lookup x=some c/\g c=none))
 inj:∀x y i,Γ.lookup x=some i->Γ.lookup y=some i->x=y
 ap:∀x y c,env.cells.lookup x=some c->env.cells.lookup y=some c->x=y
structure AtS (C:Cx) (l:Nat) (sc:Scope) (Γ Γw:Gam) (vs:Vs) (A:Around) (env:Env) (g:Gm) (as:List Addr) (h:H) (s:Shared):Prop where
 at_:At C l sc Γ vs A env g as h s
 own:FOwn g env Γ Γw
section
variable {C:Cx}{l:Nat}{sc:Scope}{Γ Γw:Gam}{vs:Vs}{A:Around}{env:Env}{g:Gm}{as:List Addr}{h h':H}{s:Shared}
theorem AtS.step{g':Gm}{as':List Addr}{s':Shared}(a:AtS C l sc Γ Γw vs A env g as h s)(e:Ext g as s g' as' s')(r:Rel prog C.w g' as' h' s'.heap):AtS C l sc Γ Γw vs A env g' as' h' s':=by
 refine⟨a.at_.step e r,λx i hx=>?_,a.own.inj,a.own.ap⟩;refine xa (a.own.sub x i hx) λh1 h3=>?_;refine⟨h1,h3.elim .inl λ⟨k,c,hc,hg⟩=>.inr ⟨k,c,hc,?_⟩⟩;generalize q:g' c=x0;induction x0 using Option.casesOn with
 |none=>rfl
 |some o=>
  refine zaj a.at_.frm.ns λm cm _ hcell _=>?_;refine xea (hcell x c hc) λoc hoc _=>?_;rcases e.gnew c o q with z|z|z
  ·rw[hg]at z;exact nos z
  ·rw[hoc]at z;exact nos (Eq.symm z)
  ·exact absurd z (a.at_.frm.aC x c hc).1
theorem Rel.other{a:Addr}{hp:Heap}(R:Rel prog C.w g as h s.heap)(hg:g a=none)(ha:a ∉ as)(hs:Heap.SameBut a s.heap hp):Rel prog C.w g as h hp:=by
 have ne:∀b∈as,b≠a:=λb hb q=>ha (q▸hb);refine⟨λb o e=>?_,R.len,λi b o e q=>(R.ob i b o e q).keep (.refl g) (za0 as) λo' e'=>(hs.2 b (ne b (List.mem_of_getElem? e))).trans e',R.off,R.nd,λb hb=>let ⟨o,e⟩:=R.ex b hb;⟨o,(hs.2 b (ne b hb)).trans e⟩⟩;have:b≠a:=λq=>by rw[q,hg]at e;exact nos e
 exact(hs.2 b this).trans (R.frz b o e)
theorem zoD{α:Type}{l:List α}{i:Nat}{v u:α}(e:(l.set i v)[i]?=some u):u=v:=by
 rw[List.getElem?_set,if_pos rfl]at e;split at e
 ·have r0:=Option.some.inj e;subst r0;rfl
 ·exact nos e
def zjo(C:Cx)(l:Nat)(sc:Scope)(Γ Γw:Gam)(A:Around)(env:Env)(g:Gm)(as:List Addr)(s:Shared)(vs':Vs)(h':H)(s':Shared):Prop:=
 ∃g' as',ExtS (Own env Γw) g as s g' as' s'/\AtS C l sc Γ Γw vs' A env g' as' h' s'
theorem zev{x:Str}{i:Nat}{v:V}{y:Value}(a:AtS C l sc Γ Γw vs A env g as h s)(hx:Γw.lookup x=some i)(q:zah prog C.w g as v y):
  wpAny (Md C) A (storeName env x y) (λ_ s'=>zjo C l sc Γ Γw A env g as s (vs.set i v) h s') No s:=by
 refine zaj a.at_.frm.ns λm cm hn hc hv=>?_
 refine xa (a.own.sub x i hx) λh1 h3=>?_
 have slot:∀z j u,Γ.lookup z=some j->(vs.set i v)[j]?=some u->(z=x/\u=v)\/(z≠x/\vs[j]?=some u):=λz j u hz hu=>by
  by_cases hij:i=j
  ·subst hij;have:=a.own.inj x z i h1 hz;subst this;exact .inl ⟨rfl,zoD hu⟩
  ·rw[List.getElem?_set_ne hij]at hu;exact .inr ⟨λe=>hij (by rw[e,h1]at hz;have r0:=Option.some.inj hz;subst r0;rfl),hu⟩
 rcases h3 with k|⟨k,c,hcx,hgc⟩
 ·refine wpAny_storeName_local k hn (λhp hn' hs=>?_) (by rw[a.at_.eok.kind];rfl);have r:=a.at_.rel.other (hp:=hp) a.at_.frm.gL a.at_.frm.aL hs;refine⟨g,as,⟨.refl g,⟨[],by simp⟩,λ_ hb hq=>absurd hb hq,⟨_,_,rfl⟩,λb o _ no e=>(hs.2 b λq=>no (.inl q)).trans e,λb o e=>?_,λ_ _ e=>.inl e⟩,⟨a.at_.ok,a.at_.aok,a.at_.eok,a.at_.bas,r,?_⟩,a.own⟩
  ·by_cases hb:b=env.locals
   ·obtain⟨o',_,_,e',_⟩:=hn';exact⟨o',hb▸e'⟩
   ·exact⟨o,(hs.2 b hb).trans e⟩
  ·refine⟨⟨_,cm,hn',λz cz hz=>?_,λz j u hz hu nu=>?_⟩,a.at_.frm.gL,a.at_.frm.aL,a.at_.frm.aC,a.at_.frm.nm⟩
   ·exact(hc z cz hz).sameBut hs (a.at_.frm.aC z cz hz).2
   ·rcases slot z j u hz hu with ⟨rfl,rfl⟩|⟨hne,hu'⟩
    ·exact .inl ⟨k,y,by simp,q⟩
    ·rcases hv z j u hz hu' nu with ⟨kz,w',hw,r'⟩|z'
     ·exact .inl ⟨kz,w',by rw[if_neg hne];exact hw,r'⟩
     ·exact .inr z'
 ·refine wpAny_storeName_cell a.at_.eok.kind k hcx (hc x c hcx) λhp hc' hs=>?_;have r:=a.at_.rel.other (hp:=hp) hgc (a.at_.frm.aC x c hcx).1 hs;refine⟨g,as,⟨.refl g,⟨[],by simp⟩,λ_ hb hq=>absurd hb hq,⟨hp,s.toks,rfl⟩,λb o _ no e=>(hs.2 b λq=>no (.inr ⟨x,i,hx,k,q▸hcx⟩)).trans e,λb o e=>?_,λ_ _ e=>.inl e⟩,⟨a.at_.ok,a.at_.aok,a.at_.eok,a.at_.bas,r,?_⟩,a.own⟩
  ·by_cases hb:b=c
   ·obtain⟨o',e',_⟩:=hc';exact⟨o',hb▸e'⟩
   ·exact⟨o,(hs.2 b hb).trans e⟩
  ·refine⟨⟨m,λz=>if z=x then some y else cm z,hn.sameBut hs (Ne.symm (a.at_.frm.aC x c hcx).2),λz cz hz=>?_,λz j u hz hu nu=>?_⟩,a.at_.frm.gL,a.at_.frm.aL,a.at_.frm.aC,a.at_.frm.nm⟩
   ·by_cases hzx:z=x
    ·subst hzx;rw[hcx]at hz;have r0:=Option.some.inj hz;subst r0;simpa using hc'
    ·have:cz≠c:=λe=>hzx (a.own.ap z x c (e▸hz) hcx);simp only[hzx];exact(hc z cz hz).sameBut hs this
   ·rcases slot z j u hz hu with ⟨rfl,rfl⟩|⟨hne,hu'⟩
    ·exact .inr ⟨.inl k,⟨c,hcx⟩,y,by simp,q⟩
    ·rcases hv z j u hz hu' nu with z'|⟨kz,cz,w',hw,r'⟩
     ·exact .inl z'
     ·exact .inr ⟨kz,cz,w',by simp[hne];exact hw,r'⟩
theorem zcC{x:Str}{pos:Pos}{i:Nat}{v:V}{y:Value}(a:AtS C l sc Γ Γw vs A env g as h s)(hx:Γw.lookup x=some i)(q:zah prog C.w g as v y):
  wpAny (Md C) A (assign (.Name x pos) env y) (λ_ s'=>zjo C l sc Γ Γw A env g as s (vs.set i v) h s') No s:=
 wpAny_assign_Name (zev a hx q)
end
def zlA(C:Cx)(A:Around)(g:Gm)(I:Addr)(its:List V)(tb:Bool)(fp:List Addr)(P:Nat->Value->Prop)(St:Nat->Heap->Prop):Prop:=
 Walks prog C.w A I fp [I] its.length P St/\(∀b∈fp,b=I\/∃o,g b=some o)/\(∀i x,i<its.length->P i x->∃v,its[i]?=some v/\VF prog C.w g v x)/\
 (tb=true->∀i (s:Shared) target v (Q:Unit->Shared->Prop) (E:Value->Shared->Prop),St i s.heap->Q () s->wpAny (Md C) A (letOwnedTupleGo target (.ref I) v) Q E s)/\∀i h,St i h->∃o,h.get? I=some o
section
variable {C:Cx}{l:Nat}{sc:Scope}{Γ Γw:Gam}{vs:Vs}{A:Around}{env:Env}{g:Gm}{as:List Addr}{h h':H}{s:Shared}
theorem zf2{I:Addr}{o:Obj}{n:String}{fs:Array Value}(hg:s.heap.get? I=some o)(hc:o.cls=.type n)(hd:o.data=.fields fs)
  (hn:(["enumerate","zip","dict_itemiterator","dict_reverseitemiterator","odict_iterator","itertools.zip_longest","itertools.pairwise"].contains n)=false)
  (target:Expr) (v:Value) (Q:Unit->Shared->Prop) (E:Value->Shared->Prop) (q:Q () s):wpAny (Md C) A (letOwnedTupleGo target (.ref I) v) Q E s:=by
 have key:∀a,wpAny (Md C) A (load I >>= λo=>match o.cls,o.data with
   | .type n,.fields vs=>
    if ["enumerate","zip","dict_itemiterator","dict_reverseitemiterator","odict_iterator","itertools.zip_longest","itertools.pairwise"].contains n&&vs[0]?==some (rawInt a) then do
     rule "for.unpacks-the-owned-tuple"
     updateField I 0 .none
    else pure ()
   |_,_=>pure ()) Q E s:=λa=>by
  refine wpAny_bind (wpAny_load hg ?_)
  refine rwl hc ?_;refine rwl hd ?_
  show wpAny _ A (if(["enumerate","zip","dict_itemiterator","dict_reverseitemiterator","odict_iterator","itertools.zip_longest","itertools.pairwise"].contains n&&fs[0]?==some (rawInt a))=true then _ else _) Q E s
  refine rwl hn ?_;rw[Bool.false_and]
  exact wpAny_pure q
 induction target using PySem.Expr.casesOn<;>first
  |exact wpAny_pure q
  | (induction v using PySem.Value.casesOn<;>first|exact wpAny_pure q|exact key _)
def PostI(C:Cx)(A:Around)(g:Gm)(s:Shared)(its:List V)(tb:Bool)(it:Value)(s':Shared):Prop:=
 ∃I fp P St,it=.ref I/\s.heap.get? I=none/\zlA C A g I its tb fp P St/\St 0 s'.heap/\(∃h tk,s'={ s with heap:=h,toks:=tk })/\∀a o,s.heap.get? a=some o->s'.heap.get? a=some o
theorem zcA{I:Addr}{o:Obj}{its:List V}{tb:Bool}{fp:List Addr}{P:Nat->Value->Prop}{St:Nat->Heap->Prop}(hI:I=s.heap.objs.size)(hi:zlA C A g I its tb fp P St)(hs:St 0 (s.heap.push o)):
  PostI C A g s its tb (.ref s.heap.objs.size) { s with heap:=s.heap.push o }:=by
 refine zmH λX kX=>?_
 subst hI
 exact kX _ fp P St rfl (zas _) hi hs ⟨_,_,rfl⟩ (λ_ _ e=>Heap.get?_push_of_some _ e)
theorem zqP{α β:Type}{f:α->β}(kC:List (α×Sc)):∀{ks:List (β×Value)},Kv f kC ks->kC.length=ks.length:=by
 induction kC with
 |nil=>intro ks q;have q:ks=[]:=q;subst q;rfl
 |cons p r ih=>intro ks q;refine zaj q λx r' e _ h2=>?_;subst e;exact congrArg (·+1) (ih h2)
theorem zqO{α β:Type}{f:α->β}(kC:List (α×Sc)):∀{ks:List (β×Value)},Kv f kC ks->∀(i:Nat) k x,ks[i]?=some (k,x)->∃k' c,kC[i]?=some (k',c)/\f k'=k:=by
 induction kC with
 |nil=>intro ks q i k x e;have q:ks=[]:=q;subst q;simp at e
 |cons p r ih=>
  intro ks q i k x e;refine zaj q λx' r' e' _ h2=>?_;subst e';induction i using Nat.casesOn with
  |zero=>exact⟨p.1,p.2,rfl,congrArg Prod.fst (Option.some.inj e)⟩
  |succ i=>exact ih h2 i k x e
theorem zn3{kC:List (Int×Sc)}{ks:List (Int×Value)}(q:KvI kC ks):kC.length=ks.length:=zqP kC q
theorem zj1{kC:List (List Nat×Sc)}{ks:List (Str×Value)}(q:KvS kC ks):kC.length=ks.length:=zqP kC q
theorem zsf{kC:List (Int×Sc)}{ks:List (Int×Value)}(q:KvI kC ks)(i:Nat)(k:Int)(x:Value)(e:ks[i]?=some (k,x)):∃c,kC[i]?=some (k,c):=zc0 (zqO kC q i k x e) λk' c h e=>⟨c,e▸h⟩
theorem zsg{kC:List (List Nat×Sc)}{ks:List (Str×Value)}(q:KvS kC ks)(i:Nat)(k:Str)(x:Value)(e:ks[i]?=some (k,x)):∃k' c,kC[i]?=some (k',c)/\sk k'=k:=zqO kC q i k x e
theorem zjX{v:V}{its:List V}{x:Value}(a:AOk l A)(hv:zaN v=some its)(R:Rel prog C.w g as h s.heap)(q:zah prog C.w g as v x):wpAny (Md C) A (pyIter x) (PostI C A g s its (zaQ v)) No s:=by
 have hh:=a.1;induction v using V.casesOn with
 |lA us=>
  have r0:=Option.some.inj hv;cases r0;refine zba q.lst_inv λb items n x0 ha ra=>?_;subst x0;have il:s.heap.IsList b items:=⟨_,R.frz _ _ ha,rfl,n,rfl⟩;have hne:b≠s.heap.objs.size:=Nat.ne_of_lt (Heap.lt_size (R.frz _ _ ha));have hl:=ra.length;simp at hl;have W:=Walks.list (prog:=prog) (w:=C.w) hh s.heap.objs.size b hne items;rw[<-hl]at W;refine wpAny_pyIter_list il (zcA rfl ⟨W,λc hc=>?_,λi y hlt hy=>?_,λ_ i s' target v Q E st q=>?_,λ_ _ ⟨⟨o,ho,_⟩,_⟩=>⟨o,ho⟩⟩ ⟨⟨_,Heap.get?_push_size _ rfl,rfl,rfl⟩,il.push _⟩)
  ·simp at hc;rcases hc with rfl|rfl
   ·exact .inl rfl
   ·exact .inr ⟨_,ha⟩
  ·have hi:i<its.length:=by rw[hl];exact(Array.getElem?_eq_some_iff.mp hy).1
   refine xea (ra.get i its[i] (by simp[hi])) λz hz r=>?_;rw[Array.getElem?_toList,hy]at hz;have r0:=Option.some.inj hz;subst r0;exact⟨_,by simp[hi],r⟩
  ·refine xa st λt0 _=>?_;refine zgt t0 λo ho hc hd=>?_;exact zf2 ho hc hd (by decide) target v Q E q
 |tup us=>
  have r0:=Option.some.inj hv;cases r0;refine zba q.tup_inv λb items n e0 ha ra=>?_;subst e0;have il:s.heap.IsTuple b items:=⟨_,R.frz _ _ ha,rfl,n,rfl⟩;have hne:b≠s.heap.objs.size:=Nat.ne_of_lt (Heap.lt_size (R.frz _ _ ha));have hl:=ra.length;simp at hl;have W:=Walks.tuple (prog:=prog) (w:=C.w) hh s.heap.objs.size b hne items;rw[<-hl]at W;refine wpAny_pyIter_tuple il (zcA rfl ⟨W,λc hc=>?_,λi y hlt hy=>?_,λ_ i s' target v Q E st q=>?_,λ_ _ ⟨⟨o,ho,_⟩,_⟩=>⟨o,ho⟩⟩ ⟨⟨_,Heap.get?_push_size _ rfl,rfl,rfl⟩,il.push _⟩)
  ·simp at hc;rcases hc with rfl|rfl
   ·exact .inl rfl
   ·exact .inr ⟨_,ha⟩
  ·have hi:i<its.length:=by rw[hl];exact(Array.getElem?_eq_some_iff.mp hy).1
   refine xea (ra.get i its[i] (by simp[hi])) λz hz r=>?_;rw[Array.getElem?_toList,hy]at hz;have r0:=Option.some.inj hz;subst r0;exact⟨_,by simp[hi],r⟩
  ·refine xa st λf0 _=>?_;refine zgt f0 λo ho hc hd=>?_;exact zf2 ho hc hd (by decide) target v Q E q
 |rng a0 b0 c0=>
  exact ite_e hv λhz=>by
   refine zlz q.rng_inv λr t u w' y0 hr=>?_;subst y0;have W:=Walks.range (prog:=prog) (w:=C.w) hh s.heap.objs.size a0 c0 (Builtin.Range.rangeSize a0 b0 c0).toNat;have hl:(zbs a0 b0 c0).length=(Builtin.Range.rangeSize a0 b0 c0).toNat:=by simp[zbs]
   rw[<-hl]at W;refine wpAny_pyIter_range (R.frz _ _ hr) hz.1 (zcA rfl ⟨W,λc hc=>?_,λi y hlt hy=>?_,λq=>?_,λ_ _ e=>⟨_,e⟩⟩ ?_)
   ·simp at hc;exact .inl hc
   ·refine xe hy λt' h0=>?_;subst h0;rw[hl]at hlt;exact⟨.int (a0+i*c0),by simp[zbs,hlt],⟨t',rfl⟩⟩
   ·exact noT q
   ·have e:(((Builtin.Range.rangeSize a0 b0 c0).toNat:Nat):Int)=Builtin.Range.rangeSize a0 b0 c0:=Int.toNat_of_nonneg hz.2;rw[hl,e];simp only[Int.natCast_zero,Int.zero_mul,Int.add_zero,Int.sub_zero];exact Heap.get?_push_size _ rfl
 |str lx=>
  exact ite_e hv λhz=>by
   refine xe q.str_inv λt q0=>?_;subst q0;have W:=Walks.strAscii (prog:=prog) (w:=C.w) hh s.heap.objs.size (sk lx) t;have hl:(sk lx).cps.size=(lx.map λc=>V.str [c]).length:=by simp[sk]
   rw[hl]at W;refine wpAny_pyIter_ascii (by simpa[sk] using hz) (zcA rfl ⟨W,λc hc=>?_,λi y hlt hy=>?_,λq=>?_,λ_ _ ⟨o,ho,_⟩=>⟨o,ho⟩⟩ ⟨_,Heap.get?_push_size _ rfl,rfl,rfl⟩)
   ·simp at hc;exact .inl hc
   ·refine zc0 hy λc u hc v0=>?_;subst v0;have:lx[i]?=some c:=by simpa[sk] using hc
    exact⟨.str [c],by simp[this],⟨u,rfl⟩⟩
   ·exact noT q
 |dI kC=>
  have r0:=Option.some.inj hv;subst r0;refine zbp q.dI_inv λb o p0 ho g0 hsm=>?_;subst p0;refine xea g0 λks hd hk=>?_;have hho:=R.frz _ _ ho;have hne:b≠s.heap.objs.size:=Nat.ne_of_lt (Heap.lt_size hho);refine xe ((zaE hd hho).dictAt) λep hda=>?_;have W:=Walks.dictKeys (knd:=intKind prog C.w) hh s.heap.objs.size b hne ks ep;have hl:ks.length=(kC.map λp=>V.int p.1).length:=by simp[zn3 hk]
  have W':=Eq.mp (congrArg (λn=>Walks prog C.w A s.heap.objs.size [s.heap.objs.size,b] [s.heap.objs.size] n _ _) hl) W;refine wpAny_pyIter_dict hsm hda (zcA rfl ⟨W',λc hc=>?_,λi y hlt hy=>?_,λq=>?_,λ_ _ ⟨⟨o,ho,_⟩,_⟩=>⟨o,ho⟩⟩ ⟨⟨_,Heap.get?_push_size _ rfl,rfl,rfl⟩,hda.push _⟩)
  ·simp at hc;rcases hc with rfl|rfl
   ·exact .inl rfl
   ·exact .inr ⟨_,ho⟩
  ·refine zc0 hy λk z hkz hkey=>?_;refine xe (zsf hk i k z hkz) λc hc=>?_;refine xe (Value.isInt_shape hkey) λt x0=>?_;subst x0;exact⟨.int k,by simp[hc],⟨t,rfl⟩⟩
  ·exact noT q
 |dS kC=>
  have r0:=Option.some.inj hv;subst r0;refine zbp q.dS_inv λb o n0 ho d0 hsm=>?_;subst n0;refine xea d0 λks hd hk=>?_;have hho:=R.frz _ _ ho;have hne:b≠s.heap.objs.size:=Nat.ne_of_lt (Heap.lt_size hho);refine xe ((zaE hd hho).dictAt) λep hda=>?_;have W:=Walks.dictKeys (knd:=strKind prog C.w) hh s.heap.objs.size b hne ks ep;have hl:ks.length=(kC.map λp=>V.str p.1).length:=by simp[zj1 hk]
  have W':=Eq.mp (congrArg (λn=>Walks prog C.w A s.heap.objs.size [s.heap.objs.size,b] [s.heap.objs.size] n _ _) hl) W;refine wpAny_pyIter_dict hsm hda (zcA rfl ⟨W',λc hc=>?_,λi y hlt hy=>?_,λq=>?_,λ_ _ ⟨⟨o,ho,_⟩,_⟩=>⟨o,ho⟩⟩ ⟨⟨_,Heap.get?_push_size _ rfl,rfl,rfl⟩,hda.push _⟩)
  ·simp at hc;rcases hc with rfl|rfl
   ·exact .inl rfl
   ·exact .inr ⟨_,ho⟩
  ·refine zc0 hy λk z hkz hkey=>?_;refine zc0 (zsg hk i k z hkz) λk' c hc s0=>?_;subst s0;refine xe (Value.isStrOf_shape hkey) λt y0=>?_;subst y0;exact⟨.str k',by simp[hc],⟨t,rfl⟩⟩
  ·exact noT q
 |_=>exact nos hv
theorem zmb{b:Addr}{items:Array Value}{n:Nat}(e:s.heap.get? b=some (zie items n)):s.heap.IsTuple b items:=⟨_,e,rfl,n,rfl⟩
theorem zjo.after{g':Gm}{as':List Addr}{s' s'':Shared}{vs':Vs}(e:ExtS (Own env Γw) g as s g' as' s')(p:zjo C l sc Γ Γw A env g' as' s' vs' h' s''):zjo C l sc Γ Γw A env g as s vs' h' s'':=
 let ⟨g'',as'',e',r⟩:=p;⟨g'',as'',e.trans e',r⟩
theorem zlc{e:Expr}{x:Str}(h:zdQ e=some x):∃p,e=.Name x p:=by
 induction e using PySem.Expr.casesOn with
 |Name y p=>exact sm h ⟨p,rfl⟩
 |_=>exact nos h
theorem ze0:∀{es:List Expr} {is:List Nat},zgg es Γw=some is->(assignEach es env).findIdx? (·.1)=none/\(assignEach es env).length=es.length/\es.length=is.length:=by
 intro l9;induction l9 with
 |nil=>intro is e;exact sm e ⟨rfl,rfl,rfl⟩
 |cons e0 es ze0=>
  intro is e;exact be e λx e1 e=>be e λi hi e=>be e λis' he e=>sm e (by refine xe (zlc e1) λp q=>?_;subst q;refine xaa (ze0 he) λh1 h2 h3=>?_;refine iaa ?_ (congrArg (·+1) h2) (congrArg (·+1) h3);refine rwl List.findIdx?_cons ?_;simp[h1])
theorem zdR:∀{es:List Expr} {is:List Nat} {xs:List V} {ys:List Value} {vs vs':Vs} {g:Gm} {as:List Addr} {s:Shared},zgg es Γw=some is->zbu vs is xs=some vs'->AtS C l sc Γ Γw vs A env g as h s->VFs prog C.w g xs ys->
  wpAny (Md C) A (assignInOrder ((assignEach es env).map (·.2)) ys) (λ_ s'=>zjo C l sc Γ Γw A env g as s vs' h s') No s:=by
 intro l9;induction l9 with
 |nil=>
  intro is xs ys vs vs' g as s e e' a q;have e:=Option.some.inj e;subst e;induction xs using List.casesOn with
  |cons=>exact nos e'
  |nil=>exact sm e' (wpAny_pure ⟨g,as,.refl ..,a⟩)
 |cons e0 es zdR=>
  intro is xs ys vs vs' g as s e e' a q;exact be e λx e1 e=>be e λi hi e=>be e λis' he e=>by
   have e:=Option.some.inj e;subst e;refine xe (zlc e1) λpx q0=>?_;subst q0;induction xs using List.casesOn with
   |nil=>exact nos e'
   |cons v xs=>refine VFs.cons_el q λy ys q1 q2=>?_;refine wpAny_bind (wpAny_holding (wpAny_mono (zcC a hi (.of_VF q1)) (λ_ sA z=>?_) λ_ _ z=>z));refine zc0 z λgB asA xA aA=>?_;exact wpAny_mono (zdR he e' aA (q2.mono xA.gle)) (λ_ _ p=>p.after xA) λ_ _ z=>z
set_option tactic.hygienic true in
theorem zbW{t:Expr}{tA:List Nat}{x:V}{y:Value}{vs':Vs}(a:AtS C l sc Γ Γw vs A env g as h s)(ht:zbG Γw t=some tA)(hb:zbC vs tA x=some vs')(q:zah prog C.w g as x y):
  wpAny (Md C) A (assign t env y) (λ_ s'=>zjo C l sc Γ Γw A env g as s vs' h s') No s:=by
 induction t using PySem.Expr.casesOn with
 |Name z p=>refine xea (Option.map_eq_some_iff.mp ht) λi hi x0=>?_;subst x0;have hb:=Option.some.inj hb;subst hb;exact zcC a hi q
 |Tuple es k pos=>
  refine ite_x ht λh2 ht=>?_;refine xaa (ze0 (env:=env) ht) λhst hln hls=>?_;have hb':(zbz x).bind (zbu vs tA)=some vs':=by
   induction tA using List.casesOn with
   |nil=>exact hb
   |cons i r=>induction r using List.casesOn with
    |nil=>simp at hls;lia
    |cons=>exact hb
  refine be hb' λxs e hs=>?_;have e:=zg5 e;subst e;refine zba q.tup_inv λb items n r0 ha ra=>?_;subst r0;have len:∀(is:List Nat) (xs:List V) (vs vs':Vs),zbu vs is xs=some vs'->is.length=xs.length:=by
   intro is;induction is with
   |nil=>intro xs vs vs' e;induction xs using List.casesOn with|nil=>rfl|cons=>exact nos e
   |cons i is ih=>intro xs vs vs' e;induction xs using List.casesOn with|nil=>exact nos e|cons x xs=>exact congrArg Nat.succ (ih _ _ _ e)
  have hsz:=ra.length;simp at hsz;refine wpAny_assign_Tuple a.at_.aok.1 (zmb (a.at_.rel.frz _ _ ha)) (by rw[hln,hls,len _ _ _ _ hs,hsz]) hst λhp he=>?_;have hk:∀c o,s.heap.get? c=some o->hp.get? c=some o:=λc o e=>he c o (Nat.ne_of_lt (Heap.lt_size e)) e;refine xa (a.at_.rel.kept hk s.toks) λr e=>?_;exact wpAny_mono (zdR ht hs (a.step e r) ra) (λ_ _ p=>p.after e.toS) λ_ _ z=>z
 |_=>exact nos ht
end
noncomputable def FlR(C:Cx)(g:Gm)(as:List Addr):Fl->Flow->Prop
 | .next,.next=>True
 | .brk,.brk=>True
 | .cont,.cont=>True
 | .ret v,.ret x=>zah prog C.w g as v x
 |_,_=>False
def zc1(C:Cx)(l:Nat)(sc:Scope)(Γ Γw:Gam)(A:Around)(env:Env)(g:Gm)(as:List Addr)(s:Shared)(fl:Fl)(vs':Vs)(h':H)(f:Flow)(s':Shared):Prop:=
 ∃g' as',ExtS (Own env Γw) g as s g' as' s'/\AtS C l sc Γ Γw vs' A env g' as' h' s'/\FlR C g' as' fl f
def Ex(C:Cx)(l:Nat)(sc:Scope)(Γ Γw:Gam)(st:Stmt)(vs:Vs)(h:H)(fl:Fl)(vs':Vs)(h':H):Prop:=
 ∀A env g as s,AtS C l sc Γ Γw vs A env g as h s->wpAny (Md C) A (exec st env) (zc1 C l sc Γ Γw A env g as s fl vs' h') No s
def Exs(C:Cx)(l:Nat)(sc:Scope)(Γ Γw:Gam)(sts:List Stmt)(vs:Vs)(h:H)(fl:Fl)(vs':Vs)(h':H):Prop:=
 ∀A env g as s,AtS C l sc Γ Γw vs A env g as h s->wpAny (Md C) A (execs sts env) (zc1 C l sc Γ Γw A env g as s fl vs' h') No s
section
variable {C:Cx}{l:Nat}{sc:Scope}{Γ Γw:Gam}{vs vs1 vs':Vs}{A:Around}{env:Env}{g:Gm}{as:List Addr}{h hJ hO h':H}{s:Shared}{fl:Fl}
theorem zc1.after{g':Gm}{as':List Addr}{s' s'':Shared}{f:Flow}(e:ExtS (Own env Γw) g as s g' as' s')(p:zc1 C l sc Γ Γw A env g' as' s' fl vs' h' f s''):zc1 C l sc Γ Γw A env g as s fl vs' h' f s'':=
 let ⟨g'',as'',e',r⟩:=p;⟨g'',as'',e.trans e',r⟩
theorem FlR.next_inv{f:Flow}(q:FlR C g as .next f):f=.next:=by induction f using PySem.Flow.casesOn<;>first|rfl|exact q.elim
theorem FlR.brk_inv{f:Flow}(q:FlR C g as .brk f):f=.brk:=by induction f using PySem.Flow.casesOn<;>first|rfl|exact q.elim
theorem FlR.cont_inv{f:Flow}(q:FlR C g as .cont f):f=.cont:=by induction f using PySem.Flow.casesOn<;>first|rfl|exact q.elim
theorem FlR.ret_inv{f:Flow}{v:V}(q:FlR C g as (.ret v) f):∃x,f=.ret x/\zah prog C.w g as v x:=by induction f using PySem.Flow.casesOn<;>first|exact⟨_,rfl,q⟩|exact q.elim
theorem Exs.nil:Exs C l sc Γ Γw [] vs h .next vs h:=λ_ _ g as _ a=>wpAny_execs_nil ⟨g,as,.refl ..,a,trivial⟩
theorem Exs.cons{st:Stmt}{r:List Stmt}(H1:Ex C l sc Γ Γw st vs h .next vs1 hJ)(H2:Exs C l sc Γ Γw r vs1 hJ fl vs' h'):Exs C l sc Γ Γw (st::r) vs h fl vs' h':=by intro A env g as s a;refine wpAny_execs_cons (wpAny_mono (H1 A env g as s a) (λf sA z=>?_) λ_ _ z=>z);refine zaj z λgB asA xA aA q=>?_;have r0:=q.next_inv;subst r0;exact wpAny_mono (H2 A env gB asA sA aA) (λ_ _ p=>p.after xA) λ_ _ z=>z
theorem Exs.stop{st:Stmt}{r:List Stmt}(H1:Ex C l sc Γ Γw st vs h fl vs' h')(hf:fl≠.next):Exs C l sc Γ Γw (st::r) vs h fl vs' h':=by
 intro A env g as s a;refine wpAny_execs_cons (wpAny_mono (H1 A env g as s a) (λf sA z=>?_) λ_ _ z=>z);refine zaj z λgB asA xA aA q=>?_;induction fl using Fl.casesOn with
 |next=>exact absurd rfl hf
 |brk=>have r0:=q.brk_inv;subst r0;exact⟨gB,asA,xA,aA,q⟩
 |cont=>have r0:=q.cont_inv;subst r0;exact⟨gB,asA,xA,aA,q⟩
 |ret v=>obtain⟨x,rfl,r⟩:=q.ret_inv;exact⟨gB,asA,xA,aA,q⟩
theorem Ex.ret{e:Expr}{pos:Pos}{v:V}(H1:Ev C l sc Γ vs e h v hJ):Ex C l sc Γ Γw (.Return (some e) pos) vs h (.ret v) vs hJ:=by intro A env g as s a;refine wpAny_Return_some (wpAny_mono (H1 A env g as s a.at_) (λf sA z=>?_) λ_ _ z=>z);refine zgr λX kX=>?_;refine zaj z λgB asA xA rB vA=>?_;exact kX gB asA xA.toS (a.step xA rB) vA
theorem Ex.brk{pos:Pos}:Ex C l sc Γ Γw (.Break pos) vs h .brk vs h:=λ_ _ g as _ a=>wpAny_Break ⟨g,as,.refl ..,a,trivial⟩
theorem Ex.cont{pos:Pos}:Ex C l sc Γ Γw (.Continue pos) vs h .cont vs h:=λ_ _ g as _ a=>wpAny_Continue ⟨g,as,.refl ..,a,trivial⟩
theorem Ex.expr{e:Expr}{pos:Pos}(hs:∀env,swapsWith e none pos.line env=pure false)(H1:Ev C l sc Γ vs e h .none hJ):Ex C l sc Γ Γw (.Expr e pos) vs h .next vs hJ:=by intro A env g as s a;refine wpAny_Expr (wpAny_mono (H1 A env g as s a.at_) (λf sA z=>?_) λ_ _ z=>z) (by unfold interactive;rw[a.at_.eok.kind];rfl) (hs env);refine zaj z λgB asA xA rB vA=>?_;have r0:=vA.none_inv;subst r0;exact zbT gB asA xA.toS (a.step xA rB) trivial
theorem Ex.asg{x:Str}{i:Nat}{px pos:Pos}{e:Expr}{v:V}(hx:Γw.lookup x=some i)(hs:∀env,swapsWith e (some (.Name x px)) pos.line env=pure false)(H1:Ev C l sc Γ vs e h v hJ):
  Ex C l sc Γ Γw (.Assign [.Name x px] e pos) vs h .next (vs.set i v) hJ:=by
 intro A env g as s a
 refine wpAny_Assign_Name (wpAny_mono (H1 A env g as s a.at_) (λy sA z=>?_) λ_ _ z=>z) (hs env)
 refine zaj z λgB asA xA rB vA=>?_
 refine wpAny_mono (zev (a.step xA rB) hx vA) (λ_ sE z=>?_) λ_ _ z=>z
 refine zc0 z λgD asB xB aB=>?_
 exact zbT gD asB (xA.toS.trans xB) aB trivial
theorem Ex.asgT{es:List Expr}{k:Nat}{px pos:Pos}{is:List Nat}{e:Expr}{us:List V}(hx:zbG Γw (.Tuple es k px)=some is)(hn:2<=is.length)
  (hs:∀env,swapsWithSole [.Tuple es k px] e pos.line env=pure false) (hw:∀env,swappedStores [.Tuple es k px] e env=pure none)
  (H1:Ev C l sc Γ vs e h (.tup us) hJ) (hb:zbu vs is us=some vs'):
  Ex C l sc Γ Γw (.Assign [.Tuple es k px] e pos) vs h .next vs' hJ:=by
 intro A env g as s a
 refine Assign_Tuple (wpAny_mono (H1 A env g as s a.at_) (λy sA z=>?_) λ_ _ z=>z) (hs env) (hw env)
 refine zaj z λgB asA xA rB vA=>?_
 have hbt:zbC vs is (.tup us)=some vs':=by
  match is,hn with
  |_::_::_,_=>exact hb
 refine wpAny_mono (zbW (a.step xA rB) hx hbt vA) (λ_ sE z=>?_) λ_ _ z=>z
 refine zc0 z λgD asB xB aB=>?_
 exact zbT gD asB (xA.toS.trans xB) aB trivial
theorem Ex.ifs{t:Expr}{bA bB:List Stmt}{pos:Pos}{b:Bool}(H1:Ts C l sc Γ vs t h b hJ)(H2:if b then Exs C l sc Γ Γw bA vs hJ fl vs' h' else Exs C l sc Γ Γw bB vs hJ fl vs' h'):
  Ex C l sc Γ Γw (.If t bA bB pos) vs h fl vs' h':=by
 intro A env g as s a
 refine wpAny_If (wpAny_mono (H1 A env g as s a.at_) (λr sA z=>?_) λ_ _ z=>z)
 refine zgG z λx0 gB asA xA rB=>?_;subst x0
 induction r using Bool.casesOn
 ·exact wpAny_mono (H2 A env gB asA sA (a.step xA rB)) (λ_ _ p=>p.after xA.toS) λ_ _ z=>z
 ·exact wpAny_mono (H2 A env gB asA sA (a.step xA rB)) (λ_ _ p=>p.after xA.toS) λ_ _ z=>z
theorem Rel.but{I:Addr}{hp:Heap}(R:Rel prog C.w g as h s.heap)(hg:g I=none)(ha:I ∉ as)(hk:∀b o,b≠I->s.heap.get? b=some o->hp.get? b=some o):Rel prog C.w g as h hp:=by
 have ne:∀b∈as,b≠I:=λb hb q=>ha (q▸hb);refine⟨λb o e=>?_,R.len,λi b o e q=>(R.ob i b o e q).keep (.refl g) (za0 as) λo' e'=>hk b o' (ne b (List.mem_of_getElem? e)) e',R.off,R.nd,λb hb=>let ⟨o,e⟩:=R.ex b hb;⟨o,hk b o (ne b hb) e⟩⟩;have:b≠I:=λq=>by rw[q,hg]at e;exact nos e
 exact hk b o this (R.frz b o e)
theorem AtS.but{I:Addr}{hp:Heap}(a:AtS C l sc Γ Γw vs A env g as h s)(hg:g I=none)(ha:I ∉ as)(hI:¬ zij env I)(hk:∀b o,b≠I->s.heap.get? b=some o->hp.get? b=some o)(tk:Nat):
  AtS C l sc Γ Γw vs A env g as h { s with heap:=hp,toks:=tk }:=by
 refine zaj a.at_.frm.ns λm cm hn hc hv=>?_
 refine⟨⟨a.at_.ok,a.at_.aok,a.at_.eok,a.at_.bas,a.at_.rel.but hg ha hk,⟨m,cm,hn.at λo e=>hk _ _ (λq=>hI (.inl q.symm)) e,λx c e=>?_,hv⟩,a.at_.frm.gL,a.at_.frm.aL,a.at_.frm.aC,a.at_.frm.nm⟩,a.own⟩
 refine xea (hc x c e) λo ho hd=>?_
 exact iea o (hk _ _ (λq=>hI (.inr ⟨x,q▸e⟩)) ho) hd
theorem ExtS.but{B:Addr->Prop}{I:Addr}{hp:Heap}{g':Gm}{as':List Addr}{s':Shared}(x:ExtS B g as s g' as' s')(h0:s.heap.get? I=none)(hk:∀b o,b≠I->s'.heap.get? b=some o->hp.get? b=some o)(tk:Nat):
  ExtS B g as s g' as' { s' with heap:=hp,toks:=tk }:=by
 have ne:∀b o,s.heap.get? b=some o->b≠I:=λb o e q=>by rw[q,h0]at e;exact nos e
 refine⟨x.gle,x.pre,x.new,?_,λb o h1 h2 e=>hk b o (ne b o e) (x.keep b o h1 h2 e),λb o e=>let ⟨o',e'⟩:=x.there b o e;⟨o',hk b o' (ne b o e) e'⟩,x.gnew⟩
 refine seeq x.same λh t=>?_
 exact iee _ _ rfl
structure Side (g:Gm) (as:List Addr) (I:Addr) (h:Heap):Prop where
 gn:g I=none
 na:I ∉ as
 ex:∃o,h.get? I=some o
theorem Side.ext{B:Addr->Prop}{I:Addr}{g':Gm}{as':List Addr}{s':Shared}(d:Side g as I s.heap)(hI:¬ B I)(x:ExtS B g as s g' as' s'):Side g' as' I s'.heap:=by
 refine xe d.ex λo ho=>?_;refine⟨?_,λq=>?_,o,x.keep I o d.na hI ho⟩
 ·generalize e:g' I=x0;induction x0 using Option.casesOn with
  |none=>rfl
  |some o'=>
   rcases x.gnew I o' e with z|z|z|z
   ·rw[d.gn]at z;exact nos z
   ·rw[ho]at z;exact nos (Eq.symm z)
   ·exact absurd z d.na
   ·exact absurd z hI
 ·have:=x.new I q d.na;rw[ho]at this;exact nos (Eq.symm this)
theorem zlw{B:Addr->Prop}{I:Addr}{g0 g':Gm}{as':List Addr}{s':Shared}{fp:List Addr}{P:Nat->Value->Prop}{St:Nat->Heap->Prop}{n i:Nat}{hH hH':H}(W:Walks prog C.w A I fp [I] n P St)(hf:∀b∈fp,b=I\/∃o,g0 b=some o)(hg:Gle g0 g)
  (d:Side g as I s.heap) (hI:¬ B I) (R:Rel prog C.w g as hH s.heap) (R':Rel prog C.w g' as' hH' s'.heap) (x:ExtS B g as s g' as' s') (st:St i s.heap):St i s'.heap:=by
 refine W.frame _ _ _ st λb hb o e=>?_
 rcases hf b hb with rfl|⟨o',q⟩
 ·exact x.keep _ _ d.na hI e
 ·have:=R.frz b o' (hg _ _ q);rw[e]at this;have r0:=Option.some.inj this;subst r0;exact R'.frz b _ (x.gle _ _ (hg _ _ q))
theorem zfe(a:At C l sc Γ vs A env g as h s){I:Addr}(hI:s.heap.get? I=none):¬ zij env I:=by
 refine zaj a.frm.ns λm cm hn hc _=>?_;rintro (rfl|⟨x,e⟩)
 ·obtain⟨o,_,_,ho,_⟩:=hn;rw[hI]at ho;exact nos ho
 ·obtain⟨o,ho,_⟩:=hc x I e;rw[hI]at ho;exact nos ho
theorem zhI{x:Str}{p:Pos}{it v:Value}{Q:Unit->Shared->Prop}{E:Value->Shared->Prop}(q:Q () s):wpAny (Md C) A (letOwnedTupleGo (.Name x p) it v) Q E s:=wpAny_pure q
theorem ExtS.weak{B B':Addr->Prop}{g':Gm}{as':List Addr}{s':Shared}(x:ExtS B g as s g' as' s')(hB:∀a,B a->B' a):ExtS B' g as s g' as' s':=
 ⟨x.gle,x.pre,x.new,x.same,λa o h n e=>x.keep a o h (λq=>n (hB a q)) e,x.there,λa o e=>(x.gnew a o e).elim .inl λq=>.inr (q.elim .inl λq=>.inr (q.elim .inl λq=>.inr (hB a q)))⟩
theorem ExtS.put{B:Addr->Prop}{D:Addr}{hq:Heap}(hD:B D)(hs:∀b o,b≠D->s.heap.get? b=some o->hq.get? b=some o)(hx:∃o,hq.get? D=some o)(tk:Nat):ExtS B g as s g as { s with heap:=hq,toks:=tk }:=by
 refine⟨.refl g,⟨[],by simp⟩,λ_ hb hq=>absurd hb hq,⟨_,_,rfl⟩,λb o _ nB e=>hs b o (λq=>nB (q▸hD)) e,λb o e=>?_,λ_ _ e=>.inl e⟩;by_cases hb:b=D
 ·exact rwl hb hx
 ·exact⟨o,hs b o hb e⟩
noncomputable abbrev mvS(s:Shared)(hp:Heap)(tk:Nat):Shared:={ s with heap:=hp,toks:=tk }
set_option genInjectivity false in
set_option genSizeOf false in
structure LK where
 C:Cx
 l:Nat
 sc:Scope
 Γ:Gam
 Γw:Gam
 A:Around
 env:Env
 B:Addr->Prop
 g0:Gm
 as0:List Addr
 sF:Shared
 gW:Gm
 I:Addr
 its:List V
 tb:Bool
 fp:List Addr
 P:Nat->Value->Prop
 St:Nat->Heap->Prop
structure LKok (K:LK):Prop where
 W:zlA K.C K.A K.gW K.I K.its K.tb K.fp K.P K.St
 h0:K.sF.heap.get? K.I=none
 hM:¬ zij K.env K.I
 oB:∀a,Own K.env K.Γw a->K.B a
structure Lv (K:LK) (i:Nat) (g:Gm) (as:List Addr) (vs:Vs) (h:H) (s:Shared):Prop where
 x:ExtS K.B K.g0 K.as0 K.sF g as s
 a:AtS K.C K.l K.sc K.Γ K.Γw vs K.A K.env g as h s
 hg:Gle K.gW g
 d:Side g as K.I s.heap
 st:K.St i s.heap
inductive FInv (K:LK) (R:Nat->Gm->List Addr->Vs->H->Shared->Prop) (n:Nat) (s:Shared):Prop
 |mk (i:Nat) (g:Gm) (as:List Addr) (vs:Vs) (h:H) (L:Lv K i g as vs h s) (hi:i<=K.its.length) (r:R i g as vs h s) (e:n=K.its.length+1-i):FInv K R n s
section
variable {K:LK}{i n:Nat}{g':Gm}{as':List Addr}{s':Shared}{R:Nat->Gm->List Addr->Vs->H->Shared->Prop}
theorem LKok.oI(k:LKok K):¬ Own K.env K.Γw K.I:=λq=>k.hM q.mine
theorem Lv.extB(k:LKok K)(L:Lv K i g as vs h s){B:Addr->Prop}(hB:∀a,B a->K.B a)(hI:¬ B K.I)(x:ExtS B g as s g' as' s')(a:AtS K.C K.l K.sc K.Γ K.Γw vs' K.A K.env g' as' h' s'):Lv K i g' as' vs' h' s':=
 ⟨L.x.trans (x.weak hB),a,L.hg.trans x.gle,L.d.ext hI x,zlw k.W.1 k.W.2.1 L.hg L.d hI L.a.at_.rel a.at_.rel x L.st⟩
theorem Lv.ext(k:LKok K)(L:Lv K i g as vs h s)(x:ExtS (Own K.env K.Γw) g as s g' as' s')(a:AtS K.C K.l K.sc K.Γ K.Γw vs' K.A K.env g' as' h' s'):Lv K i g' as' vs' h' s':=
 L.extB k k.oB k.oI x a
theorem Lv.step(k:LKok K)(L:Lv K i g as vs h s)(x:Ext g as s g' as' s')(r:Rel prog K.C.w g' as' h' s'.heap):Lv K i g' as' vs h' s':=
 ⟨L.x.trans x.toS,L.a.step x r,L.hg.trans x.gle,L.d.ext (B:=λ_=>False) (λq=>q) x.toS,zlw (B:=λ_=>False) k.W.1 k.W.2.1 L.hg L.d (λq=>q) L.a.at_.rel r x.toS L.st⟩
theorem Lv.put(k:LKok K)(L:Lv K i g as vs h s){D:Addr}{hq:Heap}{o:Obj}(hD:K.B D)(dg:g D=none)(da:D ∉ as)(hM:¬ zij K.env D)(hI:K.I≠D)(hs:∀b o,b≠D->s.heap.get? b=some o->hq.get? b=some o)(hx:hq.get? D=some o)(tk:Nat):Lv K i g as vs h (mvS s hq tk):=
 ⟨L.x.trans (ExtS.put hD hs ⟨o,hx⟩ tk),L.a.but dg da hM hs tk,L.hg,⟨L.d.gn,L.d.na,let ⟨o,e⟩:=L.d.ex;⟨o,hs _ _ hI e⟩⟩,k.W.1.frame _ _ _ L.st λb hb o e=>hs b o (λq=>by
  rcases k.W.2.1 b hb with e'|⟨o',q'⟩
  ·exact hI (e'.symm.trans q)
  ·have:=L.hg _ _ q';rw[q,dg]at this;cases this) e⟩
theorem FInv.next(L:Lv K (i+1) g as vs h s)(hlt:i<K.its.length)(r:R (i+1) g as vs h s)(e:n=K.its.length+1-i):∃m,m<n/\FInv K R m s:=⟨K.its.length+1-(i+1),e▸Nat.sub_lt_sub_left (Nat.lt_succ_of_lt hlt) (Nat.lt_succ_self i),.mk _ _ _ _ _ L hlt r rfl⟩
theorem FInv.elim{G:Prop}(q:FInv K R n s)(k:∀i g as vs h,Lv K i g as vs h s->i<=K.its.length->R i g as vs h s->n=K.its.length+1-i->G):G:=
 match q with
 | .mk _ _ _ _ _ L hi r e=>k _ _ _ _ _ L hi r e
theorem zcy(k:LKok K)(L:Lv K i g as vs h s)(hi:i<=K.its.length){Q:Option Value->Shared->Prop}{E:Value->Shared->Prop}
  (item:i<K.its.length->∀y v hp tk,K.its.drop i=v::K.its.drop (i+1)->VF prog K.C.w K.gW v y->(∀b o,b≠K.I->s.heap.get? b=some o->hp.get? b=some o)->Lv K (i+1) g as vs h (mvS s hp tk)->Q (some y) (mvS s hp tk))
  (done:i=K.its.length->∀hp tk,(∀b o,b≠K.I->s.heap.get? b=some o->hp.get? b=some o)->ExtS K.B K.g0 K.as0 K.sF g as (mvS s hp tk)->AtS K.C K.l K.sc K.Γ K.Γw vs K.A K.env g as h (mvS s hp tk)->Q none (mvS s hp tk)):
  wpAny (Md K.C) K.A (pyNext (.ref K.I)) Q E s:=by
 have mv:∀(hp:Heap),(∀b o,b ∉ [K.I]->s.heap.get? b=some o->hp.get? b=some o)->∀b o,b≠K.I->s.heap.get? b=some o->hp.get? b=some o:=λhp hk b o hb e=>hk b o (by simpa using hb) e
 by_cases hlt:i<K.its.length
 ·refine k.W.1.item i _ _ _ hlt L.st λy hp tk hy st hk=>xea (k.W.2.2.1 i y hlt hy) λv hv q=>?_;refine item hlt y v hp tk (by obtain⟨hl,e⟩:=List.getElem?_eq_some_iff.mp hv;rw[<-e];exact List.drop_eq_getElem_cons hl) q (mv hp hk) ⟨L.x.but k.h0 (mv hp hk) tk,L.a.but L.d.gn L.d.na k.hM (mv hp hk) tk,L.hg,⟨L.d.gn,L.d.na,k.W.2.2.2.2 _ _ st⟩,st⟩
 ·exact k.W.1.done _ _ _ ((by omega:i=K.its.length)▸L.st) λhp tk hk=>done (by omega:i=K.its.length) hp tk (mv hp hk) (L.x.but k.h0 (mv hp hk) tk) (L.a.but L.d.gn L.d.na k.hM (mv hp hk) tk)
theorem Lv.lgo(k:LKok K)(L:Lv K i g as vs h s){t:Expr}{y:Value}(hgo:K.tb=true\/∃x p,t=.Name x p){Q:Unit->Shared->Prop}{E:Value->Shared->Prop}(q:Q () s):wpAny (Md K.C) K.A (letOwnedTupleGo t (.ref K.I) y) Q E s:=by
 rcases hgo with z|⟨x,p,rfl⟩
 ·exact k.W.2.2.2.1 z i _ t y Q E L.st q
 ·exact zhI q
end
theorem zel{body:List Stmt}{bd ob:Vs×H->Option (Fl×Vs×H)}{next:Vs×H->Option (Option Fl×Vs×H)}(HB:∀vs h fl vs' h',bd (vs,h)=some (fl,vs',h')->Exs C l sc Γ Γw body vs h fl vs' h')(a:AtS C l sc Γ Γw vs A env g as h s)
  (hk:zcZ ob (zgz next (bd (vs,h)))=some (fl,vs',h')) {Q:Flow->Shared->Prop} {E:Value->Shared->Prop}
  (hn:∀g' as' vs₂ hO s',ExtS (Own env Γw) g as s g' as' s'->AtS C l sc Γ Γw vs₂ A env g' as' hO s'->zcZ ob (next (vs₂,hO))=some (fl,vs',h')->Q .next s'/\Q .cont s')
  (hb:∀s',zc1 C l sc Γ Γw A env g as s fl vs' h' .next s'->Q .brk s') (hr:∀s' v,zc1 C l sc Γ Γw A env g as s fl vs' h' (.ret v) s'->Q (.ret v) s'):wpAny (Md C) A (execs body env) Q E s:=by
 generalize q:bd (vs,h)=o at hk;induction o using Option.casesOn with
 |none=>exact nos hk
 |some p=>
  obtain⟨f,vs₂,hO⟩:=p;refine zaZ (wpAny_mono (HB _ _ _ _ _ q A env g as s a) (λf' s' z=>?_) λ_ _ z=>z);refine zaj z λg' as' x a' w=>?_;clear z;induction f using Fl.casesOn with
  |next=>cases w.next_inv;exact(hn _ _ _ _ _ x a' hk).1
  |cont=>cases w.cont_inv;exact(hn _ _ _ _ _ x a' hk).2
  |brk=>cases w.brk_inv;cases hk;exact hb _ ⟨g',as',x,a',trivial⟩
  |ret v=>obtain⟨y,e,r⟩:=w.ret_inv;cases e;cases hk;exact hr _ _ ⟨g',as',x,a',r⟩
inductive SInv (C:Cx) (l:Nat) (sc:Scope) (Γ Γw:Gam) (A:Around) (env:Env) (g:Gm) (as:List Addr) (s:Shared) (R:Vs->H->Prop) (s':Shared):Prop
 |mk (g':Gm) (as':List Addr) (vs:Vs) (h:H) (x:ExtS (Own env Γw) g as s g' as' s') (a:AtS C l sc Γ Γw vs A env g' as' h s') (r:R vs h):SInv C l sc Γ Γw A env g as s R s'
theorem wl_K{w:Vs×H->Option (Fl×Vs×H)}(o:Option (Fl×Vs×H)):zcZ (λst=>some (.next,st)) (zgz (λst=>(w st).map λr=>(some r.1,r.2)) o)=o.bind λr=>flK r.1 (w r.2) λf=>some (f,r.2):=by
 induction o using Option.casesOn with
 |none=>rfl
 |some p=>
  obtain⟨f,st⟩:=p;have k:zcZ (λst=>some (.next,st)) ((w st).map λr=>(some r.1,r.2))=w st:=by generalize w st=z;induction z using Option.casesOn<;>rfl
  induction f using Fl.casesOn with
  |next=>exact k
  |cont=>exact k
  |brk=>rfl
  |ret v=>rfl
theorem zo4{test:Vs×H->Option (Bool×H)}{bd:Vs×H->Option (Fl×Vs×H)}{r:Fl×Vs×H}{G:Prop}{n:Nat}(hk:zdr test bd n (vs,h)=some r)(k1:∀hO,test (vs,h)=some (false,hO)->r=(.next,vs,hO)->G)
  (k2:∀hO m,n=m+1->test (vs,h)=some (true,hO)->zcZ (λst=>some (.next,st)) (zgz (λst=>(zdr test bd m st).map λr=>(some r.1,r.2)) (bd (vs,hO)))=some r->G):G:=by
 induction n using Nat.casesAuxOn with
 |zero=>exact nos hk
 |succ n=>
  refine be (x:=test (vs,h)) hk λp q hk=>?_;obtain⟨b,hO⟩:=p;induction b using Bool.casesOn with
  |false=>exact k1 hO q (Option.some.inj hk).symm
  |true=>exact k2 hO n rfl q ((wl_K (bd (vs,hO))).trans hk)
theorem zs2{o:Option (Fl×Vs×H)}{r:Fl×Vs×H}(e:zcZ (λst=>some (.next,st)) (o.map λr=>(some r.1,r.2))=some r):o=some r:=by
 induction o using Option.casesOn with
 |none=>exact nos e
 |some p=>exact e
theorem Ex.whiles{t:Expr}{body:List Stmt}{pos:Pos}{n:Nat}{test:Vs×H->Option (Bool×H)}{bd:Vs×H->Option (Fl×Vs×H)}
  (HT:∀vs h b hJ,test (vs,h)=some (b,hJ)->Ts C l sc Γ vs t h b hJ)
  (HB:∀vs h fl vs' h',bd (vs,h)=some (fl,vs',h')->Exs C l sc Γ Γw body vs h fl vs' h')
  (hw:zdr test bd n (vs,h)=some (fl,vs',h')):Ex C l sc Γ Γw (.While t body [] pos) vs h fl vs' h':=λA env g as s a=>
 wpAny_While (codeAny_whileLoop (λk s'=>SInv C l sc Γ Γw A env g as s (λvs h=>zdr test bd k (vs,h)=some (fl,vs',h')) s') (λk sA q=>by
  match q with
  | .mk gB asA vs1 hJ xA aA hk=>
   refine zo4 hk (λhO et er=>?_) λhO m em et hk=>?_
   ·cases er;refine zaZ (wpAny_mono (HT _ _ _ _ et A env gB asA sA aA.at_) (λr sE z=>zgG z λe gD asB xB rC=>?_) λ_ _ z=>z);subst e;exact wpAny_execs_nil ⟨gD,asB,xA.trans xB.toS,aA.step xB rC,trivial⟩
   ·refine zaZ (wpAny_mono (HT _ _ _ _ et A env gB asA sA aA.at_) (λr sE z=>zgG z λe gD asB xB rC=>?_) λ_ _ z=>z);subst e;have xx:=xA.trans (xB.toS (B:=Own env Γw));exact zel HB (aA.step xB rC) hk (λg' as' vs₂ hO s' x a hk=>have z:∃k',k'<k/\SInv C l sc Γ Γw A env g as s (λvs h=>zdr test bd k' (vs,h)=some (fl,vs',h')) s':=⟨m,em▸Nat.lt_succ_self m,.mk _ _ _ _ (xx.trans x) a (zs2 hk)⟩;⟨z,z⟩)
     (λs' p=>p.after xx) λs' v p=>p.after xx) n (.mk g as vs h (.refl ..) a hw))
theorem zkX{K:LK}(k:LKok K)(hK:K.B=Own K.env K.Γw){t:Expr}{body orelse:List Stmt}{tA:List Nat}{bd ob:Vs×H->Option (Fl×Vs×H)}(ht:zbG K.Γw t=some tA)(hgo:K.tb=true\/∃x p,t=.Name x p)
  (HB:∀vs h fl vs' h',bd (vs,h)=some (fl,vs',h')->Exs K.C K.l K.sc K.Γ K.Γw body vs h fl vs' h') (HO:∀vs h fl vs' h',ob (vs,h)=some (fl,vs',h')->Exs K.C K.l K.sc K.Γ K.Γw orelse vs h fl vs' h')
  (L:Lv K 0 g as vs h s) (hw:zcZ ob (zbZ bd tA K.its (vs,h))=some (fl,vs',h')) {E:Value->Shared->Prop}:
  codeAny (Md K.C) K.A (.forLoop t (.ref K.I) body orelse K.env) (λr s'=>match r with| .ok f=>zc1 K.C K.l K.sc K.Γ K.Γw K.A K.env K.g0 K.as0 K.sF fl vs' h' f s'| .error e=>E e s') s:=by
 refine codeAny_forLoop_any (FInv K λi _ _ vs h _=>zcZ ob (zbZ bd tA (K.its.drop i) (vs,h))=some (fl,vs',h')) (λn s q=>q.elim λi g as vs h L hi hk e=>zcy k L hi (λhlt y v hp tk hd q _ L=>?_) λhin hp tk _ x a=>?_) (K.its.length+1) (.mk 0 _ _ _ _ L (Nat.zero_le _) hw rfl)
 ·rw[hd,lo_s]at hk;refine L.lgo k hgo ?_;generalize eb:zbC vs tA v=o at hk;induction o using Option.casesOn with
  |none=>exact nos hk
  |some vs₂=>refine zaZ (wpAny_mono (zbW L.a ht eb (.of_VF (q.mono L.hg))) (λ_ sB z=>zc0 z λgE as3 xC aD=>?_) λ_ _ z=>z);have xx:=(L.ext k xC aD).x;rw[hK]at xx;exact zel HB aD hk (λg' as' vs₂ hO s' x a hk=>have z:=FInv.next (R:=λi _ _ vs h _=>zcZ ob (zbZ bd tA (K.its.drop i) (vs,h))=some (fl,vs',h')) ((L.ext k xC aD).ext k x a) hlt hk e;⟨z,z⟩) (λs' p=>p.after xx) λs' v p=>p.after xx
 ·subst hin;rw[List.drop_length]at hk;rw[hK]at x;exact zaZ (wpAny_mono (HO _ _ _ _ _ hk _ _ _ _ _ a) (λf s4 z=>z.after x) λ_ _ z=>z)
theorem Ex.fors{t it:Expr}{body orelse:List Stmt}{pos:Pos}{v:V}{its:List V}{tA:List Nat}{bd ob:Vs×H->Option (Fl×Vs×H)}
  (hs:∀env x,foldedSetIterable it env x=pure x) (ht:zbG Γw t=some tA) (hgo:zaQ v=true\/∃x p,t=.Name x p) (hi:zaN v=some its)
  (H1:Ev C l sc Γ vs it h v hJ)
  (HB:∀vs h fl vs' h',bd (vs,h)=some (fl,vs',h')->Exs C l sc Γ Γw body vs h fl vs' h')
  (HO:∀vs h fl vs' h',ob (vs,h)=some (fl,vs',h')->Exs C l sc Γ Γw orelse vs h fl vs' h')
  (hw:zcZ ob (zbZ bd tA its (vs,hJ))=some (fl,vs',h')):Ex C l sc Γ Γw (.For t it body orelse pos) vs h fl vs' h':=by
 intro A env g as s a
 refine wpAny_For (wpAny_mono (H1 A env g as s a.at_) (λx sA z=>?_) λ_ _ z=>z) (hs env)
 refine zaj z λgB asA xA rB vA=>?_
 refine wpAny_mono (zjX a.at_.aok hi rB vA) (λy sE z=>?_) λ_ _ z=>z
 refine zdH z λI fp P St x0 hn W r0=>?_;subst x0;refine xaa r0 λst t0 hk=>?_;refine xee t0 λhp tk b0=>?_;subst b0
 refine xa (rB.kept hk tk) λrC xB=>?_
 have d:Side gB asA I hp:=by
  refine⟨?_,λq=>?_,W.2.2.2.2 _ _ st⟩
  ·generalize e:gB I=e0;induction e0 using Option.casesOn with
   |none=>rfl
   |some o=>have:=rB.frz I o e;rw[hn]at this;exact nos this
  ·obtain⟨o,e⟩:=rB.ex I q;rw[hn]at e;exact nos e
 refine codeAny_mono (zkX (K:=⟨C,l,sc,Γ,Γw,A,env,Own env Γw,gB,asA,sA,gB,I,its,zaQ v,fp,P,St⟩) (E:=λe s'=>cameBackBy (Md C) A env No e s') ⟨W,hn,(zfe (a.step xA rB).at_ hn),λ_ q=>q⟩ rfl ht hgo HB HO ⟨xB.toS,(a.step xA rB).step xB rC,.refl _,d,st⟩ hw) λr s' z=>?_
 induction r using Except.casesOn with
 |ok f=>exact zc1.after xA.toS z
 |error e=>exact z
end
theorem zoq{α β:Type}[BEq α][LawfulBEq α][DecidableEq β]{f:α->β}(hf:∀x y,f x=f y->x=y){k:α}{c:Sc}{x:Value}(hc:ScR c x)(kC:List (α×Sc)):∀{ks:List (β×Value)},Kv f kC ks->(ks.map (·.1)).Nodup->Kv f (zeD k c kC) (stored ks (f k) x):=by
 induction kC with
 |nil=>intro ks q _;have q:ks=[]:=q;subst q;exact⟨x,[],rfl,hc,rfl⟩
 |cons p r ih=>
  intro ks q nd;obtain⟨k',c'⟩:=p;refine zaj q λx' r' e q1 q2=>?_;subst e;simp only[List.map_cons,List.nodup_cons]at nd;by_cases hk:k'=k
  ·subst hk;have e1:zeD k' c ((k',c')::r)=(k',c)::r:=if_pos (beq_self_eq_true k');have e2:stored ((f k',x')::r') (f k') x=(f k',x)::r':=by
    have:(r'.map λkv=>if kv.1=f k' then(kv.1,x) else kv)=r':=by
     conv=>rhs;rw[<-List.map_id r']
     exact List.map_congr_left λp hp=>if_neg ((λp hp e=>nd.1 (e▸List.mem_map_of_mem hp):∀p∈r',p.1≠f k') p hp)
    simp[stored,this]
   refine rwl e1 ?_;refine rwl e2 ?_;exact zbT x r' rfl hc q2
  ·have hk':¬ f k'=f k:=λe=>hk (hf _ _ e);have e1:zeD k c ((k',c')::r)=(k',c')::zeD k c r:=if_neg λe=>hk (eq_of_beq e);have e2:stored ((f k',x')::r') (f k) x=(f k',x')::stored r' (f k) x:=by unfold stored;simp only[List.any_cons,hk',decide_false,Bool.false_or,List.map_cons,if_false];split<;>simp
   refine rwl e1 ?_;refine rwl e2 ?_;exact zbT x' _ rfl q1 (ih q2 nd.2)
section
variable {C:Cx}{l:Nat}{sc:Scope}{Γ Γw:Gam}{vs vs1 vs':Vs}{A:Around}{env:Env}{g:Gm}{as:List Addr}{h hJ hO hX h':H}{s:Shared}{fl:Fl}
theorem zlk{x:V}{c:Sc}{y:Value}(e:zlj x=some c)(q:zah prog C.w g as x y):ScR c y:=by
 induction x using V.casesOn<;>simp[zlj.eq_def]at e
 ·subst e;exact q.int_inv
 ·subst e;exact q.str_inv
def zrg(C:Cx)(g:Gm)(as:List Addr)(s:Shared)(h':H)(s':Shared):Prop:=∃g' as',Ext g as s g' as' s'/\Rel prog C.w g' as' h' s'.heap
theorem zjF{K:Type}[DecidableEq K]{knd:KeyKind prog C.w K}{o:Obj}{ks:List (K×Value)}(d:zqB prog C.w knd o ks):(ks.map (·.1)).Nodup:=by obtain⟨_,_,_,_,_,_,h⟩:=d;exact h
theorem zmt{o i x:V}{p q y:Value}(hb:setItem h o i x=some h')(R:Rel prog C.w g as h s.heap)(ho:zah prog C.w g as o p)(hi:zah prog C.w g as i q)(hx:zah prog C.w g as x y):
  wpAny (Md C) A (PySem.setItem p q y) (λ_ s'=>zrg C g as s h' s') No s:=by
 refine be hb λa e1 hb=>be hb λb eh hb=>?_
 have e1:=zf9 e1
 subst e1
 refine seqz ho λad ea=>?_
 induction b using Ob.casesOn with
 |list us=>
  exact bI hi hb λk t hb=>be hb λj hj hb=>ite_e hb λhf=>ite_e (P:=λj=>wpAny (Md C) A (PySem.setItem (.ref ad) (.int k t) y) (λ_ s'=>zrg C g as s (h.set a (.list (us.set j x))) s') No s) hj λhc=>by
   refine zc0 (R.ob a ad _ ea eh) λitems n ha ra=>?_;have hl:=ra.length;simp at hl;refine xaa hc λhc0 hc1 hc2=>?_;have hc1':k<items.size:=by rw[<-hl];exact hc1
   unfold zad at hc2;refine ki_setAt (n:=n) ha hc0 (by lia) hc1' ?_;exact xa (R.write (o':=.list (us.set k.toNat x)) ea eh (by simp) (Heap.SameBut.update s.heap ad _) ⟨_,_,(PySem.IsL.update ha λxs=>xs.setIfInBounds k.toNat y),by simpa using ra.set k.toNat (zdv hf hx)⟩ ⟨_,(PySem.IsL.update ha λxs=>xs.setIfInBounds k.toNat y)⟩ (by simp) s.toks) λr e=>⟨_,_,e,r⟩
 |dI kC=>
  refine zgt (R.ob a ad _ ea eh) λo ho x0 hsm=>?_;refine xea x0 λks hd hk=>?_;exact oI hi hb (λk t hb=>be hb λc hc hb=>fit_e hb λhz=>by
   have hl:=zn3 hk;refine wpAny_setItem_pairs (knd:=intKind prog C.w) (intKind_is prog C.w k t) (zaE hd ho) (λhp hd' hs=>?_) (by rw[sizeLine_eq];lia);refine xea (zfL hd') λo' ho' hd''=>?_;exact xa (R.write (o':=.dI (zeD k c kC)) ea eh (by simp) hs ⟨o',ho',⟨_,hd'',zoq (λ_ _ e=>e) (zlk hc hx) kC hk (zjF hd)⟩,hsm⟩ ⟨_,ho'⟩ (by simp) (s.toks+1)) λr e=>⟨_,_,e,r⟩) λhb=>
   bS hi hb λk t hb=>be hb λc hc hb=>ite_e hb λhz=>by
    have hz:=List.isEmpty_iff.mp hz;subst hz;subst hk;have hd0:zqB prog C.w (strKind prog C.w) o []:=by
     refine zs5 λX kX=>?_;refine ze8 hd λes ep h1 h2 h3 h4 h5=>?_;have he:es=#[]:=by simpa using h4.length
     subst he;exact kX (#[]) ep h1 h2 (by intro e he;simp at he) .nil (by simp)
    refine wpAny_setItem_pairs (knd:=strKind prog C.w) (strKind_is prog C.w (sk k) t) (zaE hd0 ho) (λhp hd' hs=>?_) (by simp);refine xea (zfL hd') λo' ho' hd''=>?_;exact xa (R.write (o':=.dS [(k,c)]) ea eh (by simp) hs ⟨o',ho',⟨_,hd'',⟨y,[],rfl,zlk hc hx,rfl⟩⟩,hsm⟩ ⟨_,ho'⟩ (by simp) (s.toks+1)) λr e=>⟨_,_,e,r⟩
 |dS kC=>
  refine zgt (R.ob a ad _ ea eh) λo ho x0 hsm=>?_;refine xea x0 λks hd hk=>?_;exact bS hi hb λk t hb=>be hb λc hc hb=>fit_e hb λhz=>by have hl:=zj1 hk;refine wpAny_setItem_pairs (knd:=strKind prog C.w) (strKind_is prog C.w (sk k) t) (zaE hd ho) (λhp hd' hs=>?_) (by rw[sizeLine_eq];lia);refine xea (zfL hd') λo' ho' hd''=>?_;exact xa (R.write (o':=.dS (zeD k c kC)) ea eh (by simp) hs ⟨o',ho',⟨_,hd'',zoq (λ_ _ e=>zi9 e) (zlk hc hx) kC hk (zjF hd)⟩,hsm⟩ ⟨_,ho'⟩ (by simp) (s.toks+1)) λr e=>⟨_,_,e,r⟩
 |_=>exact nos hb
theorem Ex.setI{o i e:Expr}{px pos:Pos}{x ov iv:V}(hs:∀env,swapsWith e (some (.Subscript o i px)) pos.line env=pure false)
  (H1:Ev C l sc Γ vs e h x hJ) (H2:Ev C l sc Γ vs o hJ ov hO) (H3:Ev C l sc Γ vs i hO iv hX) (hb:setItem hX ov iv x=some h'):
  Ex C l sc Γ Γw (.Assign [.Subscript o i px] e pos) vs h .next vs h':=by
 intro A env g as s a
 refine wpAny_Assign_Subscript (wpAny_mono (H1 A env g as s a.at_) (λy sA z=>?_) λ_ _ z=>z) (hs env)
 refine zaj z λgB asA xA rB vA=>?_
 have aA:=a.step xA rB
 refine wpAny_mono (H2 A env gB asA sA aA.at_) (λp sE z=>?_) λ_ _ z=>z
 refine zaj z λgD asB xB rC vB=>?_
 refine wpAny_mono (H3 A env gD asB sE (aA.step xB rC).at_) (λq sB z=>?_) λ_ _ z=>z
 refine zaj z λgE as3 xC rD vC=>?_
 refine wpAny_mono (zmt hb rD (xC.rep vB) vC (xC.rep (xB.rep vA))) (λ_ s4 z=>?_) λ_ _ z=>z
 refine zc0 z λgF as4 xD rE=>?_
 exact zbT gF as4 ((((xA.trans xB).trans xC).trans xD).toS) (((aA.step xB rC).step xC rD).step xD rE) trivial
theorem Rel.alloc_mut{a:Addr}{o:Obj}{ob:Ob}{hp:Heap}(R:Rel prog C.w g as h s.heap)(hn:s.heap.get? a=none)(ho:hp.get? a=some o)(hk:∀b ob,s.heap.get? b=some ob->hp.get? b=some ob)(hr:OR prog C.w g as ob a hp)(tk:Nat):
  Rel prog C.w g (as++[a]) (h++[ob]) hp/\Ext g as s g (as++[a]) { s with heap:=hp,toks:=tk }:=by
 have ga:g a=none:=by
  generalize e:g a=x0;induction x0 using Option.casesOn with
  |none=>rfl
  |some o'=>have:=R.frz a o' e;rw[hn]at this;exact nos this
 have na:a ∉ as:=λq=>by obtain⟨o',e⟩:=R.ex a q;rw[hn]at e;exact nos e
 have R':=R.keepAll hk
 have cas:∀(i:Nat) b,(as++[a])[i]?=some b->(as[i]?=some b/\i<as.length)\/(i=as.length/\b=a):=λi b e=>by
  by_cases hi:i<as.length
  ·rw[List.getElem?_append_left hi]at e;exact .inl ⟨e,hi⟩
  ·rw[List.getElem?_append_right (by exact Nat.le_of_not_lt hi)]at e;have:i-as.length=0:=by
    by_cases hz:i-as.length=0
    ·exact hz
    ·rw[List.getElem?_eq_none (by simp;exact Nat.pos_of_ne_zero hz)]at e;exact nos e
   rw[this]at e;have r0:=Option.some.inj e;subst r0;exact .inr ⟨by lia,rfl⟩
 refine⟨⟨R'.frz,by simp[R.len],λi b o' e q=>?_,λi b o' e q z=>?_,λi j b e1 e2=>?_,λb hb=>?_⟩,.refl g,⟨[a],rfl⟩,λb hb hq=>?_,⟨_,_,rfl⟩,λb o' _ e=>hk b o' e,λb o' e=>⟨o',hk b o' e⟩,λ_ _ e=>.inl e⟩
 ·rcases cas i b e with ⟨e',hi⟩|⟨rfl,rfl⟩
  ·rw[List.getElem?_append_left (by rw[<-R.len];exact hi)]at q;exact(R'.ob i b o' e' q).keep (.refl g) ⟨[a],rfl⟩ λ_ e=>e
  ·rw[R.len]at q;simp at q;subst q;exact hr.keep (.refl g) ⟨[b],rfl⟩ λ_ e=>e
 ·rcases cas i b e with ⟨e',hi⟩|⟨rfl,rfl⟩
  ·rw[List.getElem?_append_left (by rw[<-R.len];exact hi)]at q;exact R.off i b o' e' q z
  ·exact ga
 ·rcases cas i b e1 with ⟨e1',hi⟩|⟨e1',rfl⟩
  ·rcases cas j b e2 with ⟨e2',hj⟩|⟨e2',rfl⟩
   ·exact R.nd i j b e1' e2'
   ·exact absurd (List.mem_of_getElem? e1') na
  ·rcases cas j b e2 with ⟨e2',hj⟩|⟨e2',_⟩
   ·exact absurd (List.mem_of_getElem? e2') na
   ·refine rwl e1' ?_;exact rwl e2' rfl
 ·rcases List.mem_append.mp hb with q|q
  ·exact R'.ex b q
  ·simp at q;subst q;exact⟨o,ho⟩
 ·rcases List.mem_append.mp hb with q|q
  ·exact absurd q hq
  ·simp at q;subst q;exact hn
theorem zer{R:Rel prog C.w g as h s.heap}{a:Addr}:zah prog C.w g (as++[a]) (.obj h.length) (.ref a):=⟨a,rfl,by rw[<-R.len];simp⟩
theorem Ev.lstM{es:List Expr}{pos:Pos}{us:List V}(H1:EvL C l sc Γ vs es h us h')(hf:us.all flat=true)(hz:us.length<=1000):Ev C l sc Γ vs (.List es pos) h (.obj h'.length) (h'++[.list us]):=by intro A env g as s a;refine wpAny_List (wpAny_mono (H1 A env g as s pos a) (λq sE z=>?_) λ_ _ z=>z);refine zbp z λgD asB xB rC hl hv=>?_;have e1:(sE.heap.push (zg0 q.toArray 0)).get? sE.heap.objs.size=some (zg0 q.toArray 0):=Heap.get?_push_size _ rfl;refine xa (rC.alloc_mut (ob:=.list us) (zas _) e1 (λ_ _ e=>Heap.get?_push_of_some _ e) ⟨_,_,e1,by simpa using zfR hf hl hv⟩ sE.toks) λr e=>?_;exact⟨by rw[hl,sizeLine_eq];exact Nat.le_trans hz (by decide),_,_,xB.trans e,r,zer (R:=rC)⟩
end
noncomputable def zik(env:Env):List (Str×NameKind)->List (Str×Addr)->List (Str×Addr)
 |[],cs=>cs
 | (n,k)::r,cs=>if k==.free then zik env r ((n,(env.cells.lookup n).getD 0)::cs) else zik env r cs
theorem zpw:zik env ((n,k)::r) cs=if k==.free then zik env r ((n,(env.cells.lookup n).getD 0)::cs) else zik env r cs:=rfl
set_option tactic.hygienic true in
theorem zd9{env:Env}{x:Str}{c:Addr}:∀{names:List (Str×NameKind)} {cs:List (Str×Addr)},(∀p∈names,p.2=.free->∃c,env.cells.lookup p.1=some c)->(zik env names cs).lookup x=some c->
  env.cells.lookup x=some c\/cs.lookup x=some c:=by
 intro l9;induction l9 with
 |nil=>intro cs _ e;exact .inr e
 |cons p9 r zd9=>
  obtain⟨n,k⟩:=p9;intro cs hc e;rw[zpw]at e;split at e
  ·rename_i hk;rcases zd9 (λp hp=>hc p (.tail _ hp)) e with q|q
   ·exact .inl q
   ·rw[List.lookup_cons]at q;split at q
    ·rename_i hx;have hx':x=n:=by simpa using hx
     refine xe (hc (n,k) (.head _) (by simpa using hk)) λc' hc'=>?_;rw[hc']at q;simp at q;exact .inl (by rw[hx',hc',q])
    ·exact .inr q
  ·exact zd9 (λp hp=>hc p (.tail _ hp)) e
set_option tactic.hygienic true in
theorem zd8{env:Env}{x:Str}{c:Addr}(he:env.cells.lookup x=some c):∀{names:List (Str×NameKind)} {cs:List (Str×Addr)},cs.lookup x=some c->(zik env names cs).lookup x=some c:=by
 intro l9;induction l9 with
 |nil=>intro _ e;exact e
 |cons p9 r zd8=>
  obtain⟨n,k⟩:=p9;intro cs e;rw[zpw];split
  ·refine zd8 ?_;refine rwl List.lookup_cons ?_;split
   ·rename_i hx;have hx':x=n:=by simpa using hx
    refine rwr hx' ?_;refine rwl he ?_;rfl
   ·exact e
  ·exact zd8 e
theorem zfo{env:Env}{x:Str}{c:Addr}(he:env.cells.lookup x=some c):∀{names:List (Str×NameKind)} {cs:List (Str×Addr)},(x,NameKind.free)∈names->(zik env names cs).lookup x=some c
 | (n,k)::r,cs,hm=>by
  rw[zpw];rcases List.mem_cons.mp hm with q|q
  ·cases q;rw[if_pos (by decide)];refine zd8 he ?_;rw[List.lookup_cons];simp[he]
  ·split
   ·exact zfo he q
   ·exact zfo he q
theorem zcb{env:Env}:∀(names:List (Str×NameKind)) (cs:List (Str×Addr)),(∀p∈names,p.2=.free->∃c,env.cells.lookup p.1=some c)->
  (forIn names cs λ(x:Str×NameKind) (cs:List (Str×Addr))=>(if x.2==.free then do let c <-cellOf env x.1;pure (ForInStep.yield ((x.1,c)::cs)) else pure (ForInStep.yield cs):Sem _))=pure (zik env names cs):=by
 intro l9;induction l9 with
 |nil=>intro cs _;exact rfl
 |cons p9 r zcb=>
  obtain⟨n,k⟩:=p9;intro cs hc;rw[List.forIn_cons];rw[zpw];generalize hk:(k==NameKind.free)=x0;induction x0 using Bool.casesOn with
  |true=>
   refine xe (hc (n,k) (.head _) (by simpa using hk)) λc e=>?_;have e1:cellOf env n=pure c:=by unfold cellOf;exact rwl e rfl
   refine rwl e1 ?_;refine rwl e ?_;exact zcb _ λp hp=>hc p (.tail _ hp)
  |false=>exact zcb cs λp hp=>hc p (.tail _ hp)
theorem zlM{scope:Scope}{env:Env}(hc:∀p∈scope.names,p.2=.free->∃c,env.cells.lookup p.1=some c):closureFor scope env=pure (zik env scope.names []):=by
 have:=zcb scope.names [] hc;unfold closureFor;first
  | (rw[show (forIn scope.names ([]:List (Str×Addr)) λx cs=>_)=_ from this];rfl)
  | (simp only[] ; exact congrArg (λt=>t >>= λcs=>pure cs) this)
structure CompOk (sc cD:Scope) (Γ Γ' Γw':Gam) (tA:List Nat):Prop where
 kind:cD.kind=.function
 noc:∀p∈cD.names,p.2≠.cell
 loc:∀p∈cD.names,p.2=.local->cD.names.lookup p.1=some .local
 fre:∀p∈cD.names,p.2=.free->sc.names.lookup p.1=some .cell\/sc.names.lookup p.1=some .free
 gam:∀x i,Γ'.lookup x=some i->(cD.names.lookup x=some .local/\i∈tA)\/((x,NameKind.free)∈cD.names/\cD.names.lookup x=some .free/\Γ.lookup x=some i/\i ∉ tA)
 inj:∀x y i,Γ'.lookup x=some i->Γ'.lookup y=some i->x=y
 gw:∀x i,Γw'.lookup x=some i->Γ'.lookup x=some i/\cD.names.lookup x=some .local
 nm:∀x i,Γ'.lookup x=some i->x≠("__debug__":Str)/\x≠("__classdict__":Str)
 nr:zeg cD=false
noncomputable def zjq(vs:Vs)(tA:List Nat):Vs:=tA.foldl (λv i=>v.set i .uA) vs
theorem zc5:∀(tA:List Nat) (vs:Vs),(zjq vs tA).length=vs.length:=by
 intro l9;induction l9 with
 |nil=>exact λvs=>rfl
 |cons i r zc5=>exact λvs=>by show (zjq (vs.set i .uA) r).length=_;rw[zc5,List.length_set]
theorem zb1{j:Nat}:∀(tA:List Nat) (vs:Vs),j ∉ tA->(zjq vs tA)[j]?=vs[j]? :=by
 intro l9;induction l9 with
 |nil=>intro vs _;exact rfl
 |cons i r zb1=>intro vs h;rw[List.mem_cons,not_or]at h;refine rwl (zb1 _ h.2) ?_;exact rwl (List.getElem?_set_ne (Ne.symm h.1)) rfl
theorem zkF{j:Nat}{v:V}:∀(tA:List Nat) (vs:Vs),j∈tA->(zjq vs tA)[j]?=some v->v=.uA
 |i::r,vs,h,e=>by
  by_cases hr:j∈r
  ·exact zkF r _ hr e
  ·have hij:j=i:=by simpa[hr] using h
   subst hij;have e':(vs.set j .uA)[j]?=some v:=by rw[<-zb1 r (vs.set j .uA) hr];exact e
   rw[List.getElem?_set]at e';simp at e';exact e'.2.symm
theorem zdm{env:Env}(hk:env.scope.kind=.function):∀{names:List (Str×NameKind)} {x:Str},names.lookup x=some .free->
  (names.map λ(n,k)=>if(k==NameKind.free&&env.scope.kind==.function&&env.kindOf n==some .cell) then(n,NameKind.cell) else(n,k)).lookup x=some (if env.kindOf x==some .cell then .cell else .free)
 |[],_,h=>by simp at h
 | (n,k)::r,x,h=>by
  have ih:=@zdm env hk r x;show List.lookup x ((if(k==NameKind.free&&env.scope.kind==.function&&env.kindOf n==some .cell)=true then(n,NameKind.cell) else(n,k))::_)=_;cases hx:x==n with
  |true=>
   simp only[List.lookup_cons,hx]at h;have r0:=Option.some.inj h;subst r0;have:x=n:=by simpa using hx
   subst this;generalize hc:(env.kindOf x==some NameKind.cell)=x0;induction x0 using Bool.casesOn<;>simp[List.lookup_cons,hk]
  |false=>
   simp only[List.lookup_cons,hx]at h;by_cases hc:(k==NameKind.free&&env.scope.kind==.function&&env.kindOf n==some .cell)=true
   ·rw[if_pos hc];simp only[List.lookup_cons,hx];exact ih h
   ·rw[if_neg hc];simp only[List.lookup_cons,hx];exact ih h
theorem zcf{env:Env}{kB:NameKind}(hkA:kB≠.free):∀{names:List (Str×NameKind)} {x:Str},names.lookup x=some kB->
  (names.map λ(n,k)=>if(k==NameKind.free&&env.scope.kind==.function&&env.kindOf n==some .cell) then(n,NameKind.cell) else(n,k)).lookup x=some kB
 |[],_,h=>by simp at h
 | (n,k)::r,x,h=>by
  have ih:=@zcf env kB hkA r x;show List.lookup x ((if(k==NameKind.free&&env.scope.kind==.function&&env.kindOf n==some .cell)=true then(n,NameKind.cell) else(n,k))::_)=_;cases hx:x==n with
  |true=>
   simp only[List.lookup_cons,hx]at h;have r0:=Option.some.inj h;cases r0;have:(kB==NameKind.free)=false:=by simpa using hkA
   rw[this,Bool.false_and,Bool.false_and,if_neg (by decide),List.lookup_cons,hx]
  |false=>
   simp only[List.lookup_cons,hx]at h;by_cases hc:(k==NameKind.free&&env.scope.kind==.function&&env.kindOf n==some .cell)=true
   ·rw[if_pos hc];simp only[List.lookup_cons,hx];exact ih h
   ·rw[if_neg hc];simp only[List.lookup_cons,hx];exact ih h
section
variable {C:Cx}{l:Nat}{sc cD:Scope}{Γ Γ' Γw':Gam}{vs:Vs}{A:Around}{env:Env}{g:Gm}{as:List Addr}{h:H}{s s':Shared}{tA:List Nat}
theorem zeI(a:At C l sc Γ vs A env g as h s)(k:CompOk sc cD Γ Γ' Γw' tA):∀p∈cD.names,p.2=.free->∃c,env.cells.lookup p.1=some c:=
 λp hp hf=>a.eok.cel _ (k.fre p hp hf)
set_option tactic.hygienic true in
theorem zlO(a:At C l sc Γ vs A env g as h s)(k:CompOk sc cD Γ Γ' Γw' tA){Cn:Addr}{m:Str->Option Value}(hn:s'.heap.Ns Cn m)(hf:s.heap.get? Cn=none)
  (hk:∀b o,s.heap.get? b=some o->s'.heap.get? b=some o):
  AtS C l cD Γ' Γw' (zjq vs tA) A (compEnvC cD (zik env cD.names []) Cn env) g as h s':=by
 have cells:=zeI a k
 have sub:∀x c,(zik env cD.names []).lookup x=some c->env.cells.lookup x=some c:=λx c e=>(zd9 cells e).elim id λq=>by simp at q
 refine zaj a.frm.ns λmm cm hn0 hc0 hv0=>?_
 have gC:g Cn=none:=by
  cases e:g Cn with
  |none=>rfl
  |some o=>have:=a.rel.frz Cn o e;rw[hf]at this;cases this
 have aC:Cn ∉ as:=λq=>by obtain⟨o,e⟩:=a.rel.ex Cn q;rw[hf]at e;cases e
 refine⟨⟨a.ok,a.aok,⟨k.kind,λx kk hx=>?_,λx hx=>?_,a.eok.gl,a.eok.bi,λx y c e1 e2=>a.eok.ap x y c (sub x c e1) (sub y c e2),λq=>by rw[k.nr]at q;cases q⟩,a.bas,a.rel.keepAll hk,⟨m,cm,hn,λx c e=>?_,λx i v h1 h2 h3=>?_⟩,gC,aC,λx c e=>⟨(a.frm.aC x c (sub x c e)).1,λq=>?_⟩,k.nm⟩,λx i hx=>?_,k.inj,λx y c e1 e2=>a.eok.ap x y c (sub x c e1) (sub y c e2)⟩
 ·by_cases hkk:kk=.free
  ·subst hkk;have:=zdm (env:=env) a.eok.kind hx;cases hc:(env.kindOf x==some NameKind.cell)
   ·left;rw[hc]at this;exact this
   ·right;rw[hc]at this;exact⟨rfl,this⟩
  ·exact .inl (zcf hkk hx)
 ·have hx':cD.names.lookup x=some .free:=by
   rcases hx with q|q
   ·obtain⟨p,hp,he⟩:∃p∈cD.names,p=(x,NameKind.cell):=by
     have:∀(l:List (Str×NameKind)),l.lookup x=some .cell->(x,NameKind.cell)∈l:=by
      intro l;induction l with
      |nil=>simp
      |cons p r ih=>
       refine zdy λX r0=>?_;obtain⟨n,kd⟩:=p;refine r0 ?_;clear r0 X;intro e;rw[List.lookup_cons]at e;split at e
       ·rename_i hx;have:x=n:=by simpa using hx
        have r0:=Option.some.inj e;cases r0;subst this;exact .head _
       ·exact .tail _ (ih e)
     exact iea _ (this _ q) rfl
    exact absurd (by rw[he]) (k.noc p hp)
   ·exact q
  have hm:(x,NameKind.free)∈cD.names:=by
   have:∀(l:List (Str×NameKind)),l.lookup x=some .free->(x,NameKind.free)∈l:=by
    intro l;induction l with
    |nil=>simp
    |cons p r ih=>
     refine zdy λX r0=>?_;obtain⟨n,kd⟩:=p;refine r0 ?_;clear r0 X;intro e;rw[List.lookup_cons]at e;split at e
     ·rename_i hx;have:x=n:=by simpa using hx
      have r0:=Option.some.inj e;cases r0;subst this;exact .head _
     ·exact .tail _ (ih e)
   exact this _ hx'
  refine xe (cells _ hm rfl) λc e=>?_;exact⟨c,zfo e hm⟩
 ·refine xea (hc0 x c (sub x c e)) λo ho hd=>?_;exact iea o (hk _ _ ho) hd
 ·rcases k.gam x i h1 with ⟨_,ht⟩|⟨hm,hl,hg,ht⟩
  ·exact absurd (zkF tA vs ht h2) h3
  ·rw[zb1 tA vs ht]at h2;refine xe (cells _ hm rfl) λc e=>?_;rcases hv0 x i v hg h2 h3 with ⟨kl,_⟩|⟨_,_,y,hy,r⟩
   ·exfalso;rcases (k.fre _ hm rfl) with q|q
    ·rcases a.eok.kd _ _ q with z|⟨z,_⟩
     ·rw[kl]at z;have r0:=Option.some.inj z;cases r0
     ·cases z
    ·rcases a.eok.kd _ _ q with z|⟨_,z⟩
     ·rw[kl]at z;have r0:=Option.some.inj z;cases r0
     ·rw[kl]at z;have r0:=Option.some.inj z;cases r0
   ·refine .inr ⟨?_,⟨c,zfo e hm⟩,y,hy,r⟩;have:=zdm (env:=env) a.eok.kind hl;generalize hc:(env.kindOf x==some NameKind.cell)=x0;induction x0 using Bool.casesOn
    ·right;rw[hc]at this;exact this
    ·left;rw[hc]at this;exact this
 ·refine xea (hc0 x c (sub x c e)) λo ho _=>?_;have q':c=Cn:=q;rw[q',hf]at ho;exact nos ho
 ·refine xa (k.gw x i hx) λh1 h3=>?_;exact⟨h1,.inl (zcf (by decide) h3)⟩
end
section
variable {prog:Program}{w:World}{A:Around}{R:Result->Shared->Prop}{s:Shared}
theorem ziy{elt target iter:Expr}{ifs:List Expr}{scope:Scope}{pos:Pos}{it acc:Value}{env:Env}(I:Nat->Shared->Prop)
  (turn:∀n s,I n s->wpAny (model prog w) A (pyNext it) (λr sA=>match r with
   |none=>R (.ok .next) sA
   |some v=>wpAny (model prog w) A (letOwnedTupleGo target it v) (λ_ sA'=>wpAny (model prog w) A (assign target env v) (λ_ sE=>
    wpAny (model prog w) A (forIn ifs true λc r=>if r=true then do let ok <-isTrue c env (eval c env);pure (ForInStep.yield ok) else pure (ForInStep.yield r)) (λok sB=>
     if ok=true then wpAny (model prog w) A (eval elt env) (λx s4=>
      wpAny (model prog w) A (call (.builtin "list.append") [acc,x]) (λ_ s5=>∃m,m<n/\I m s5) No s4) No sB
     else ∃m,m<n/\I m sB) No sE) No sA') No sA) No s)
  (n:Nat) (h:I n s):codeAny (model prog w) A (.compLoop (.ListComp elt [⟨target,iter,ifs,0⟩] scope pos) 0 it acc env) R s:=by
 refine codeAny_loop rfl I (λn s hI=>?_) n h
 refine wpAny_noted (zaZ ?_)
 rw[compTurn_list]
 refine wpAny_bind (wpAny_standAt (wpAny_bind (wpAny_mono (turn n s hI) (λr sA hJ=>?_) λ_ _ h'=>h')))
 induction r using Option.casesOn with
 |none=>exact wpAny_pure hJ
 |some v=>
  refine wpAny_bind (wpAny_mono hJ (λ_ sA' hA'=>?_) λ_ _ h'=>h');refine wpAny_bind (wpAny_mono hA' (λ_ sE hO=>wpAny_bind (wpAny_mono hO (λok sB hX=>?_) λ_ _ h'=>h')) λ_ _ h'=>h');induction ok using Bool.casesOn with
  |false=>exact wpAny_pure ⟨rfl,hX⟩
  |true=>exact wpAny_bind (wpAny_bind (wpAny_mono hX (λx s4 hZ=>wpAny_bind (wpAny_mono hZ (λ_ s5 h5A=>wpAny_pure (wpAny_pure ⟨rfl,h5A⟩)) λ_ _ h'=>h')) λ_ _ h'=>h'))
end
theorem Ext.thenS{B:Addr->Prop}{g g' g'':Gm}{as as' as'':List Addr}{s s' s'':Shared}(x:Ext g as s g' as' s')(y:ExtS B g' as' s' g'' as'' s'')(hB:∀a,B a->s.heap.get? a=none):Ext g as s g'' as'' s'' where
 gle:=x.gle.trans y.gle
 pre:=by refine xe x.pre λr e=>?_;refine xe y.pre λr' e'=>?_;exact⟨r++r',by rw[e',e,List.append_assoc]⟩
 new:=λa h h'=>by
  by_cases hq:a∈as'
  ·exact x.new a hq h'
  ·generalize e:s.heap.get? a=x0;induction x0 using Option.casesOn with
   |none=>rfl
   |some o=>obtain⟨o',e'⟩:=x.there a o e;have:=y.new a h hq;rw[e']at this;exact nos (Eq.symm this)
 same:=by refine xee x.same λh tk r0=>?_;subst r0;refine xee y.same λh' tk' t0=>?_;subst t0;exact⟨_,_,rfl⟩
 keep:=λa o h e=>y.keep a o (λq=>by have:=x.new a q h;rw[e]at this;exact nos (Eq.symm this)) (λq=>by rw[hB a q]at e;exact nos e) (x.keep a o h e)
 there:=λa o e=>let ⟨o',e'⟩:=x.there a o e;y.there a o' e'
 gnew:=λa o e=>by
  rcases y.gnew a o e with h|h|h|h
  ·exact x.gnew a o h
  ·generalize q:s.heap.get? a=b0;induction b0 using Option.casesOn with
   |none=>exact .inr (.inl rfl)
   |some o'=>obtain⟨o'',e''⟩:=x.there a o' q;rw[h]at e'';exact nos e''
  ·by_cases hq:a∈as
   ·exact .inr (.inr hq)
   ·exact .inr (.inl (x.new a h hq))
  ·exact .inr (.inl (hB a h))
theorem Ext.but{I:Addr}{hp:Heap}{g g':Gm}{as as':List Addr}{s s':Shared}(x:Ext g as s g' as' s')(h0:s.heap.get? I=none)(hk:∀b o,b≠I->s'.heap.get? b=some o->hp.get? b=some o)(tk:Nat):
  Ext g as s g' as' { s' with heap:=hp,toks:=tk }:=by
 have ne:∀b o,s.heap.get? b=some o->b≠I:=λb o e q=>by rw[q,h0]at e;exact nos e
 refine⟨x.gle,x.pre,x.new,?_,λb o h1 e=>hk b o (ne b o e) (x.keep b o h1 e),λb o e=>let ⟨o',e'⟩:=x.there b o e;⟨o',hk b o' (ne b o e) e'⟩,x.gnew⟩
 refine seeq x.same λh t=>?_
 exact iee _ _ rfl
def TsI(C:Cx)(l:Nat)(sc:Scope)(Γ:Gam)(vs:Vs)(ifs:List Expr)(h:H)(b:Bool)(hJ:H):Prop:=(ifs=[]/\b=true/\hJ=h)\/∃c,ifs=[c]/\Ts C l sc Γ vs c h b hJ
theorem TsI.run{C:Cx}{l:Nat}{sc:Scope}{Γ:Gam}{vs:Vs}{A:Around}{env:Env}{g:Gm}{as:List Addr}{ifs:List Expr}{h hJ:H}{b:Bool}{s:Shared}(t:TsI C l sc Γ vs ifs h b hJ)(a:At C l sc Γ vs A env g as h s):
  wpAny (Md C) A (forIn ifs true λc r=>if r=true then do let ok <-isTrue c env (eval c env);pure (ForInStep.yield ok) else pure (ForInStep.yield r)) (zrf C g as s b hJ) No s:=by
 rcases t with ⟨rfl,rfl,rfl⟩|⟨c,rfl,t⟩
 ·exact wpAny_tests_nil ⟨rfl,g,as,.refl ..,a.rel⟩
 ·exact wpAny_tests_one (t A env g as s a)
theorem zdp:∀{is:List Nat} {xs:List V} {vs1 vs₂ vs':Vs},vs1.length=vs₂.length->(∀j,j ∉ is->vs1[j]?=vs₂[j]?)->zbu vs₂ is xs=some vs'->zbu vs1 is xs=some vs':=by
 intro l9;induction l9 with
 |nil=>
  intro l8;induction l8 using List.casesOn with
  |nil=>intro vs1 vs₂ vs' hl ha e;refine sm e (congrArg some ?_);exact List.ext_getElem? λj=>ha j (by simp)
  |cons _ _=>intro _ _ _ _ _ e;exact nos e
 |cons i is zdp=>
  intro l8;induction l8 using List.casesOn with
  |nil=>intro _ _ _ _ _ e;exact nos e
  |cons x xs=>
   intro vs1 vs₂ vs' hl ha e;refine zdp (by simp[hl]) (λj hj=>?_) e;by_cases hij:i=j
   ·subst hij;rw[List.getElem?_set,List.getElem?_set];simp[hl]
   ·rw[List.getElem?_set_ne hij,List.getElem?_set_ne hij];exact ha j (by simp only[List.mem_cons,not_or];exact⟨λq=>hij q.symm,hj⟩)
theorem zkE{tA:List Nat}{x:V}{vs vs':Vs}(e:zbC vs tA x=some vs'):∃xs,zbu vs tA xs=some vs'/\∀us us',zbu us tA xs=some us'->zbC us tA x=some us':=by
 generalize hs:zcg tA=o;induction o using Option.casesOn with
 |some i=>have:=zcM hs;subst this;exact⟨[x],e,λ_ _ h=>h⟩
 |none=>unfold zbC at e;rw[hs]at e;exact be e λxs h2 e=>⟨xs,e,λus us' h=>by unfold zbC;rw[hs,h2];exact h⟩
theorem zfG{tA:List Nat}{x:V}{vs1 vs₂ vs':Vs}(hl:vs1.length=vs₂.length)(ha:∀j,j ∉ tA->vs1[j]?=vs₂[j]?)(e:zbC vs₂ tA x=some vs'):zbC vs1 tA x=some vs':=
 xea (zkE e) λ_ h k=>k _ _ (zdp hl ha h)
theorem zeZ:∀{is:List Nat} {xs:List V} {vs vs':Vs},zbu vs is xs=some vs'->vs'.length=vs.length/\∀j,j ∉ is->vs'[j]?=vs[j]? :=by
 intro l9;induction l9 with
 |nil=>
  intro l8;induction l8 using List.casesOn with
  |nil=>intro vs vs' e;exact sm e ⟨rfl,λ_ _=>rfl⟩
  |cons _ _=>intro _ _ e;exact nos e
 |cons i is zeZ=>
  intro l8;induction l8 using List.casesOn with
  |nil=>intro _ _ e;exact nos e
  |cons x xs=>intro vs vs' e;refine xa (zeZ e) λh1 h2=>?_;refine⟨by rw[h1,List.length_set],λj hj=>?_⟩;simp only[List.mem_cons,not_or]at hj;rw[h2 j hj.2,List.getElem?_set_ne (Ne.symm hj.1)]
theorem zfH{tA:List Nat}{x:V}{vs vs':Vs}(e:zbC vs tA x=some vs'):vs'.length=vs.length/\∀j,j ∉ tA->vs'[j]?=vs[j]? :=
 xea (zkE e) λ_ h _=>zeZ h
section
variable {C:Cx}{l:Nat}{sc cD:Scope}{Γ Γ' Γw':Gam}{vs:Vs}{A:Around}{env cC:Env}{g:Gm}{as:List Addr}{h h':H}{s:Shared}{tA:List Nat}
theorem Side.ext'{I:Addr}{g':Gm}{as':List Addr}{s':Shared}(d:Side g as I s.heap)(x:Ext g as s g' as' s'):Side g' as' I s'.heap:=d.ext (B:=λ_=>False) (λq=>q) x.toS
def Turn(C:Cx)(l:Nat)(cD:Scope)(Γ':Gam)(vs:Vs)(tA:List Nat)(ifs:List Expr)(elt:Expr)(lim:Prop)(f:V->List V×H->Option (List V×H)):Prop:=
 ∀x acc h acc' h',f x (acc,h)=some (acc',h')->∃vs' b hJ,zbC vs tA x=some vs'/\TsI C l cD Γ' vs' ifs h b hJ/\
  (if b=true then ∃y,Ev C l cD Γ' vs' elt hJ y h'/\flat y=true/\acc'=acc++[y]/\(lim\/acc.length<=zad) else acc'=acc/\h'=hJ)
inductive AccD (C:Cx) (D:Addr) (acc:List V) (g:Gm) (as:List Addr) (s:Shared):Prop
 |mk (items:Array Value) (n:Nat) (d:Side g as D s.heap) (e:s.heap.get? D=some (zg0 items n)) (v:VFs prog C.w g acc items.toList):AccD C D acc g as s
section
variable {D:Addr}{acc:List V}{g':Gm}{as':List Addr}{s':Shared}{y:V}{z:Value}
theorem AccD.side(q:AccD C D acc g as s):Side g as D s.heap:=match q with| .mk _ _ d _ _=>d
theorem AccD.ext{B:Addr->Prop}(q:AccD C D acc g as s)(hD:¬ B D)(x:ExtS B g as s g' as' s'):AccD C D acc g' as' s':=match q with| .mk _ _ d e v=>.mk _ _ (d.ext hD x) (x.keep _ _ d.na hD e) (v.mono x.gle)
theorem AccD.step(q:AccD C D acc g as s)(x:Ext g as s g' as' s'):AccD C D acc g' as' s':=q.ext (B:=λ_=>False) (λq=>q) x.toS
theorem AccD.move{I:Addr}{hp:Heap}(q:AccD C D acc g as s)(hI:I≠D)(hk:∀b o,b≠I->s.heap.get? b=some o->hp.get? b=some o)(tk:Nat):AccD C D acc g as (mvS s hp tk):=match q with| .mk _ _ d e v=>.mk _ _ ⟨d.gn,d.na,_,hk _ _ (Ne.symm hI) e⟩ (hk _ _ (Ne.symm hI) e) v
theorem AccD.append(q:AccD C D acc g as s)(hf:flat y=true)(hy:zah prog C.w g as y z)(hz:acc.length<=zad){Q:Value->Shared->Prop}{E:Value->Shared->Prop}
  (H:∀hq o,(∀b o,b≠D->s.heap.get? b=some o->hq.get? b=some o)->hq.get? D=some o->AccD C D (acc++[y]) g as (mvS s hq s.toks)->Q .none (mvS s hq s.toks)):wpAny (Md C) A (call (.builtin "list.append") [.ref D,z]) Q E s:=by
 match q with
 | .mk items n d e v=>have hsz:=v.length;unfold zad at hz;refine wpAny_list_append_plain ⟨n,e⟩ (λhq hpl hs=>xe hpl λn' e'=>?_) (by rw[sizeLine_eq];simp at hsz;omega);refine H hq _ (λb o hb e=>(hs.2 b hb).trans e) e' (.mk _ n' ⟨d.gn,d.na,_,e'⟩ e' ?_);simpa using v.append (us:=[y]) (ys:=[z]) ⟨zdv hf hy,trivial⟩
end
inductive CR (K:LK) (f:V->List V×H->Option (List V×H)) (tA:List Nat) (vs0:Vs) (D:Addr) (lim:Prop) (acc':List V) (h':H) (i:Nat) (g:Gm) (as:List Addr) (vs:Vs) (h:H) (s:Shared):Prop
 |mk (acc:List V) (ag:vs.length=vs0.length/\∀j,j ∉ tA->vs[j]?=vs0[j]?) (A:AccD K.C D acc g as s) (le:lim->acc.length<=i) (k:zaB f (K.its.drop i) (acc,h)=some (acc',h')):CR K f tA vs0 D lim acc' h' i g as vs h s
inductive CEnd (K:LK) (tA:List Nat) (vs0:Vs) (D:Addr) (acc:List V) (h:H) (s:Shared):Prop
 |mk (g:Gm) (as:List Addr) (vs:Vs) (x:ExtS K.B K.g0 K.as0 K.sF g as s) (a:AtS K.C K.l K.sc K.Γ K.Γw vs K.A K.env g as h s) (ag:vs.length=vs0.length/\∀j,j ∉ tA->vs[j]?=vs0[j]?) (A:AccD K.C D acc g as s):CEnd K tA vs0 D acc h s
section
variable {K:LK}{f:V->List V×H->Option (List V×H)}{vs0:Vs}{D:Addr}{lim:Prop}{acc':List V}{i n:Nat}
theorem CR.done(r:CR K f tA vs0 D lim acc' h' K.its.length g as vs h s)(hI:K.I≠D){hp:Heap}{tk:Nat}(hk:∀b o,b≠K.I->s.heap.get? b=some o->hp.get? b=some o)(x:ExtS K.B K.g0 K.as0 K.sF g as (mvS s hp tk))(a:AtS K.C K.l K.sc K.Γ K.Γw vs K.A K.env g as h (mvS s hp tk)):CEnd K tA vs0 D acc' h' (mvS s hp tk):=by
 match r with
 | .mk acc ag q _ e=>rw[List.drop_length]at e;cases e;exact .mk _ _ _ x a ag (q.move hI hk tk)
theorem CR.item(r:CR K f tA vs0 D lim acc' h' i g as vs h s){v:V}(hd:K.its.drop i=v::K.its.drop (i+1)){G:Prop}(k:∀acc acc2 hO,(vs.length=vs0.length/\∀j,j ∉ tA->vs[j]?=vs0[j]?)->AccD K.C D acc g as s->(lim->acc.length<=i)->f v (acc,h)=some (acc2,hO)->zaB f (K.its.drop (i+1)) (acc2,hO)=some (acc',h')->G):G:=by
 match r with
 | .mk acc ag q l e=>rw[hd]at e;exact xea (Option.bind_eq_some_iff.mp e) λp hf e=>k acc p.1 p.2 ag q l hf e
theorem ziC(k:LKok K){t elt:Expr}{ifs:List Expr}(ht:zbG K.Γw t=some tA)(hgo:K.tb=true\/∃x p,t=.Name x p)(HF:Turn K.C K.l K.sc K.Γ vs0 tA ifs elt lim f)(hlim:lim->K.its.length<=zad)
  (hBD:K.B D) (hMD:¬ zij K.env D) (hID:K.I≠D) {v:V} {y:Value} (hlt:i<K.its.length) (hd:K.its.drop i=v::K.its.drop (i+1)) (q:VF prog K.C.w K.gW v y) (r:CR K f tA vs0 D lim acc' h' i g as vs h s) {hp:Heap} {tk:Nat} (hk:∀b o,b≠K.I->s.heap.get? b=some o->hp.get? b=some o)
  (L:Lv K (i+1) g as vs h (mvS s hp tk)) (hn:n=K.its.length+1-i):
  wpAny (Md K.C) K.A (letOwnedTupleGo t (.ref K.I) y) (λ_ sA'=>wpAny (Md K.C) K.A (assign t K.env y) (λ_ sE=>
   wpAny (Md K.C) K.A (forIn ifs true λc r=>if r=true then do let ok <-isTrue c K.env (eval c K.env);pure (ForInStep.yield ok) else pure (ForInStep.yield r)) (λok sB=>
    if ok=true then wpAny (Md K.C) K.A (eval elt K.env) (λx s4=>wpAny (Md K.C) K.A (call (.builtin "list.append") [.ref D,x]) (λ_ s5=>∃m,m<n/\FInv K (CR K f tA vs0 D lim acc' h') m s5) No s4) No sB
    else ∃m,m<n/\FInv K (CR K f tA vs0 D lim acc' h') m sB) No sE) No sA') No (mvS s hp tk):=
 r.item hd λacc acc2 hO ag A hl hf hk'=>zba (HF _ _ _ _ _ hf) λvs₂ b hX hb hT hE=>by
  clear hf r;refine L.lgo k hgo (wpAny_mono (zbW L.a ht (zfG ag.1 ag.2 hb) (.of_VF (q.mono L.hg))) (λ_ sB z=>zc0 z λgE as3 xC aD=>?_) λ_ _ z=>z);refine wpAny_mono (hT.run aD.at_) (λok s4 z=>zgG z λe gF as4 xD rE=>?_) λ_ _ z=>z;subst e;have L4:=(L.ext k xC aD).step k xD rE;have A4:=((A.move hID hk tk).ext (λq=>hMD q.mine) xC).step xD;clear L xC aD xD A rE;cases ok with
  |false=>cases hE.1;cases hE.2;exact FInv.next L4 hlt (.mk acc (zfH hb) A4 (λq=>Nat.le_succ_of_le (hl q)) hk') hn
  |true=>refine zqy hE λu hu hfl e hsz=>?_;subst e;refine wpAny_mono (hu _ _ _ _ _ L4.a.at_) (λz s5 p=>zaj p λg5 as5 xE r5 v5=>?_) λ_ _ z=>z;have L5:=L4.step k xE r5;have A5:=A4.step xE;refine A5.append hfl v5 (hsz.elim (λq=>Nat.le_trans (hl q) (Nat.le_of_lt (Nat.lt_of_lt_of_le hlt (hlim q)))) id) λhq o hs ho A6=>?_;exact FInv.next (L5.put k hBD A5.side.gn A5.side.na hMD hID hs ho _) hlt (.mk _ (zfH hb) A6 (λq=>by rw[List.length_append];exact Nat.succ_le_succ (hl q)) hk') hn
theorem znc(k:LKok K){t elt iter:Expr}{ifs:List Expr}{pos:Pos}(ht:zbG K.Γw t=some tA)(hgo:K.tb=true\/∃x p,t=.Name x p)(HF:Turn K.C K.l K.sc K.Γ vs0 tA ifs elt lim f)(hlim:lim->K.its.length<=zad)
  (hBD:K.B D) (hMD:¬ zij K.env D) (hID:K.I≠D) (L:Lv K 0 g as vs h s) (ag:vs.length=vs0.length/\∀j,j ∉ tA->vs[j]?=vs0[j]?) (A:AccD K.C D [] g as s) (hw:zaB f K.its ([],h)=some (acc',h')):
  codeAny (Md K.C) K.A (.compLoop (.ListComp elt [⟨t,iter,ifs,0⟩] cD pos) 0 (.ref K.I) (.ref D) K.env) (λr s'=>r=.ok .next/\CEnd K tA vs0 D acc' h' s') s:=
 ziy (FInv K (CR K f tA vs0 D lim acc' h')) (λn s q=>q.elim λi g as vs h L hi r e=>zcy k L hi (λhlt y v hp tk hd q hk L=>ziC k ht hgo HF hlim hBD hMD hID hlt hd q r hk L e)
  λhin hp tk hk x a=>⟨rfl,CR.done (hin▸r) hID hk x a⟩) (K.its.length+1) (.mk 0 _ _ _ _ L (Nat.zero_le _) (.mk [] ag A (λ_=>Nat.le_refl _) hw) rfl)
end
end
section
variable {C:Cx}{l:Nat}{sc cD:Scope}{Γ Γ' Γw':Gam}{vs:Vs}{A:Around}{env cC:Env}{g g':Gm}{as as':List Addr}{h hJ h':H}{s s':Shared}{tA:List Nat}
set_option tactic.hygienic true in
theorem Rel.adopt{D:Addr}{o:Obj}(R:Rel prog C.w g' as' h s'.heap)(d:Side g' as' D s'.heap)(e:s'.heap.get? D=some o)(x:Ext g as s g' as' s')(h0:s.heap.get? D=none):
  Rel prog C.w (zby g' D o) as' h s'.heap/\Ext g as s (zby g' D o) as' s':=by
 have le:=zbF (o:=o) d.gn
 refine⟨⟨λb o' q=>?_,R.len,λi b o' q r=>(R.ob i b o' q r).keep le (za0 as') λ_ e=>e,λi b o' q r z=>?_,R.nd,R.ex⟩,x.gle.trans le,x.pre,x.new,x.same,x.keep,x.there,λb o' q=>?_⟩
 ·unfold zby at q;split at q
  ·rename_i hb;have r0:=Option.some.inj q;subst r0;exact rwl hb e
  ·exact R.frz b o' q
 ·unfold zby
  refine rwl (if_neg λq':b=D=>d.na (q'▸List.mem_of_getElem? q)) ?_;exact R.off i b o' q r z
 ·unfold zby at q;split at q
  ·rename_i hb;exact rwl hb (.inr (.inl h0))
  ·exact x.gnew b o' q
theorem Rel.adoptM{D:Addr}{o:Obj}{ob:Ob}(R:Rel prog C.w g' as' h s'.heap)(d:Side g' as' D s'.heap)(e:s'.heap.get? D=some o)(hr:OR prog C.w g' as' ob D s'.heap)(x:Ext g as s g' as' s')(h0:s.heap.get? D=none):
  Rel prog C.w g' (as'++[D]) (h++[ob]) s'.heap/\Ext g as s g' (as'++[D]) s':=by
 have cas:∀(i:Nat) b,(as'++[D])[i]?=some b->(as'[i]?=some b/\i<as'.length)\/(i=as'.length/\b=D):=λi b e=>by
  by_cases hi:i<as'.length
  ·rw[List.getElem?_append_left hi]at e;exact .inl ⟨e,hi⟩
  ·rw[List.getElem?_append_right (by exact Nat.le_of_not_lt hi)]at e;have:i-as'.length=0:=by
    by_cases hz:i-as'.length=0
    ·exact hz
    ·rw[List.getElem?_eq_none (by simp;exact Nat.pos_of_ne_zero hz)]at e;exact nos e
   rw[this]at e;have r0:=Option.some.inj e;subst r0;exact .inr ⟨by lia,rfl⟩
 refine⟨⟨R.frz,by simp[R.len],λi b o' q r=>?_,λi b o' q r z=>?_,λi j b e1 e2=>?_,λb hb=>?_⟩,x.gle,?_,λb hb hq=>?_,x.same,x.keep,x.there,x.gnew⟩
 ·rcases cas i b q with ⟨q',hi⟩|⟨rfl,rfl⟩
  ·rw[List.getElem?_append_left (by rw[<-R.len];exact hi)]at r;exact(R.ob i b o' q' r).keep (.refl g') ⟨[D],rfl⟩ λ_ e=>e
  ·rw[R.len]at r;simp at r;subst r;exact hr.keep (.refl g') ⟨[b],rfl⟩ λ_ e=>e
 ·rcases cas i b q with ⟨q',hi⟩|⟨rfl,rfl⟩
  ·rw[List.getElem?_append_left (by rw[<-R.len];exact hi)]at r;exact R.off i b o' q' r z
  ·exact d.gn
 ·rcases cas i b e1 with ⟨e1',hi⟩|⟨e1',rfl⟩
  ·rcases cas j b e2 with ⟨e2',hj⟩|⟨e2',rfl⟩
   ·exact R.nd i j b e1' e2'
   ·exact absurd (List.mem_of_getElem? e1') d.na
  ·rcases cas j b e2 with ⟨e2',hj⟩|⟨e2',_⟩
   ·exact absurd (List.mem_of_getElem? e2') d.na
   ·refine rwl e1' ?_;exact rwl e2' rfl
 ·rcases List.mem_append.mp hb with q|q
  ·exact R.ex b q
  ·simp at q;subst q;exact⟨o,e⟩
 ·refine xe x.pre λr e=>?_;exact⟨r++[D],by rw[e,List.append_assoc]⟩
 ·rcases List.mem_append.mp hb with q|q
  ·exact x.new b q hq
  ·simp at q;subst q;exact h0
end
def zca(C:Cx)(g:Gm)(as:List Addr)(s:Shared)(ob:Ob)(h':H)(D Cn:Addr)(s':Shared):Prop:=
 ∃g' as' m,Ext g as s g' as' s'/\Rel prog C.w g' as' h' s'.heap/\Side g' as' D s'.heap/\Side g' as' Cn s'.heap/\OR prog C.w g' as' ob D s'.heap/\s'.heap.Ns Cn m/\D≠Cn/\s.heap.get? D=none/\s.heap.get? Cn=none
noncomputable def zjI(e:Expr)(env:Env)(use:Option (Value->Sem Unit)):Sem Value:=match e with
 | .ListComp _ gens scope pos=>comprehension e scope env (firstIterPos gens pos) (newList []) (firstAsync gens) (firstIter gens env) use
 | .DictComp _ _ gens scope pos=>comprehension e scope env (firstIterPos gens pos) newDict (firstAsync gens) (firstIter gens env) use
 |_=>pure .none
theorem ziE{e:Expr}{env:Env}(h:zcx e=true):eval e env=zjI e env none:=by induction e using PySem.Expr.casesOn<;>first|rfl|exact noT h
theorem ziF{e:Expr}{env:Env}{u:Value->Sem Unit}(h:zcx e=true):evalThenUse e env u=(do let _ <-zjI e env (some u);pure ()):=by induction e using PySem.Expr.casesOn<;>first|rfl|exact noT h
def zaM(C:Cx)(l:Nat)(sc:Scope)(Γ:Gam)(vs:Vs)(e:Expr)(h:H)(ob:Ob)(h':H):Prop:=
 ∀(A:Around) (env:Env) (g:Gm) (as:List Addr) (s:Shared) (use:Option (Value->Sem Unit)) (Q:Value->Shared->Prop),At C l sc Γ vs A env g as h s->
  (∀D Cn s',zca C g as s ob h' D Cn s'->compPost (Md C) A No use Q (.ref D) Cn (.ok .next) s')->wpAny (Md C) A (zjI e env use) Q No s
section
variable {C:Cx}{l:Nat}{sc cD:Scope}{Γ Γ' Γw Γw':Gam}{vs:Vs}{A:Around}{env cC:Env}{g g':Gm}{as as':List Addr}{h hJ h':H}{s s':Shared}{tA:List Nat}{ob:Ob}{e:Expr}
theorem zqW{D:Addr}{hp:Heap}{v:V}(hg:g D=none)(hv:frzOf ob=some v)(q:OR prog C.w g as ob D hp):∃o,hp.get? D=some o/\VF prog C.w (zby g D o) v (.ref D):=by
 induction ob using Ob.casesOn<;>simp only[frzOf.eq_def]at hv<;>cases hv
 ·refine zc0 q λitems n e r=>?_;refine iea _ e ?_;exact ieeeaa D items n rfl (zat ..) (r.mono (zbF hg))
 ·refine zgt q λo e r hs=>?_;refine iea _ e ?_;exact ziR D o rfl (zat ..) r hs
 ·refine zgt q λo e r hs=>?_;refine iea _ e ?_;exact ziR D o rfl (zat ..) r hs
theorem or_get{D:Addr}{hp:Heap}{v:V}(hv:frzOf ob=some v)(q:OR prog C.w g as ob D hp):∃o,hp.get? D=some o:=by
 induction ob using Ob.casesOn<;>simp only[frzOf.eq_def]at hv<;>cases hv
 ·obtain⟨items,n,e,r⟩:=q;exact⟨_,e⟩
 ·obtain⟨o,e,r,hs⟩:=q;exact⟨_,e⟩
 ·obtain⟨o,e,r,hs⟩:=q;exact⟨_,e⟩
noncomputable def zd4(m:Bool)(h:H)(ob:Ob):Option (V×H):=if m then some (.obj h.length,h++[ob]) else(frzOf ob).map λv=>(v,h)
theorem zca.adopt{m:Bool}{D Cn:Addr}{v:V}{hO:H}{w:V}(p:zca C g as s ob h' D Cn s')(hw:frzOf ob=some w)(hv:zd4 m h' ob=some (v,hO)):
  ∃gD asB mm,Ext g as s gD asB s'/\Rel prog C.w gD asB hO s'.heap/\zah prog C.w gD asB v (.ref D)/\Side gD asB Cn s'.heap/\s'.heap.Ns Cn mm/\s.heap.get? Cn=none:=by
 refine zbe p λg' as' mm x R sD sC x0=>?_;refine xaaaa x0 λho hn hDC hD0 hC0=>?_
 unfold zd4 at hv
 split at hv
 ·refine zeC λX kX=>?_;have r0:=Option.some.inj hv;cases r0;refine xe (or_get hw ho) λo eo=>?_;refine xa (R.adoptM sD eo ho x hD0) λR2 xB=>?_;refine kX _ _ mm xB R2 ⟨D,rfl,by rw[<-R.len];simp⟩ ⟨sC.gn,?_,sC.ex⟩ hn hC0;intro q;rcases List.mem_append.mp q with q|q
  ·exact sC.na q
  ·simp at q;exact hDC q.symm
 ·refine zeC λX kX=>?_;refine xea (Option.map_eq_some_iff.mp hv) λu hu e=>?_;cases e;refine xea (zqW sD.gn hu ho) λo eo r=>?_;refine xa (R.adopt sD eo x hD0) λR2 xB=>?_;refine kX _ _ mm xB R2 (.of_VF r) ⟨?_,sC.na,sC.ex⟩ hn hC0;unfold zby
  rw[if_neg (Ne.symm hDC)];exact sC.gn
theorem Ev.ofComp{m:Bool}{v w:V}{hO:H}(hc:zcx e=true)(H1:zaM C l sc Γ vs e h ob h')(hw:frzOf ob=some w)(hv:zd4 m h' ob=some (v,hO)):Ev C l sc Γ vs e h v hO:=by intro A env g as s a;refine rwl (ziE hc) ?_;refine H1 A env g as s none _ a λD Cn s' p=>?_;refine yea λX kX=>?_;refine zbe (p.adopt hw hv) λgD asB mm x R q sC x0=>?_;refine xa x0 λhn hC0=>?_;refine kX mm hn (λh'' hs=>?_);exact zbT gD asB (x.but hC0 (λb o hb e=>(hs.2 b hb).trans e) s'.toks) (R.but sC.gn sC.na λb o hb e=>(hs.2 b hb).trans e) q
theorem zmD{t:Option Expr}{n:Nat}(hc:zcx e=true)(ht:∃x p,t=some (.Name x p)):∃b,swapsWith e t n env=pure b:=by refine seeq ht λx p=>?_;induction e using PySem.Expr.casesOn<;>first|exact⟨_,rfl⟩|cases hc
theorem Ex.asgC{m:Bool}{x:Str}{i:Nat}{px pos:Pos}{v w:V}{hO:H}(hc:zcx e=true)(hx:Γw.lookup x=some i)(H1:zaM C l sc Γ vs e h ob h')(hw:frzOf ob=some w)(hv:zd4 m h' ob=some (v,hO)):
  Ex C l sc Γ Γw (.Assign [.Name x px] e pos) vs h .next (vs.set i v) hO:=by
 intro A env g as s a
 refine xe (zmD (env:=env) (n:=pos.line) hc ⟨x,px,rfl⟩) λb hb=>?_
 induction b using Bool.casesOn with
 |false=>refine wpAny_Assign_Name (wpAny_mono (Ev.ofComp hc H1 hw hv A env g as s a.at_) (λy sA z=>?_) λ_ _ z=>z) hb;refine zaj z λgB asA xA rB vA=>?_;refine wpAny_mono (zev (a.step xA rB) hx vA) (λ_ sE z=>?_) λ_ _ z=>z;refine zc0 z λgD asB xB aB=>?_;exact zbT gD asB (xA.toS.trans xB) aB trivial
 |true=>refine rwl (exec_Assign_Name_used _ _ _ _ hb) ?_;refine wpAny_bind (wpAny_standAt (wpAny_bind ?_));refine rwl (ziF hc) ?_;refine wpAny_bind (wpAny_mono (H1 A env g as s (some (assign (.Name x px) env)) (λ_ s'=>zc1 C l sc Γ Γw A env g as s .next (vs.set i v) hO .next s') a.at_ λD Cn s' p=>?_) (λ_ s' hq=>wpAny_pure (wpAny_pure hq)) λ_ _ e=>e);refine zbe (p.adopt hw hv) λgD asB mm xB R q sC x0=>?_;refine xa x0 λhn hC0=>?_;have hM:¬ zij env Cn:=zfe a.at_ hC0;refine wpAny_mono (zcC (a.step xB R) hx q) (λ_ sB z=>?_) λ_ _ z=>z;refine zc0 z λgE as3 xC aD=>?_;refine iea mm (hn.at λo e=>xC.keep _ _ sC.na (λq=>hM q.mine) e) (λh'' hs=>?_);exact zbT gE as3 ((xB.toS.trans xC).but hC0 (λb o hb e=>(hs.2 b hb).trans e) sB.toks) (aD.but (sC.ext (λq=>hM q.mine) xC).gn (sC.ext (λq=>hM q.mine) xC).na hM (λb o hb e=>(hs.2 b hb).trans e) sB.toks) trivial
theorem zfu(a:At C l sc Γ vs A env g as h s){D:Addr}(e:D=s.heap.objs.size):(D==sysModules)=false:=by refine zo5 a.ok.ng λo _ _ ho _=>?_;have:=Heap.lt_size (a.rel.frz _ _ (a.bas _ _ ho));rw[beq_eq_false_iff_ne];intro q;rw[<-e,q]at this;exact absurd this (by decide)
theorem zpy(k:CompOk sc cD Γ Γ' Γw' tA){Cn:Addr}(b:Addr)(q:Own (compEnvC cD (zik env cD.names []) Cn env) Γw' b):b=(compEnvC cD (zik env cD.names []) Cn env).locals:=by
 rcases q with q|⟨x,i,hx,hk,_⟩
 ·exact q
 ·exfalso;refine xa (k.gw x i hx) λ_ h3=>?_;have:Env.kindOf (compEnvC cD (zik env cD.names []) Cn env) x=some .local:=zcf (by decide) h3;rw[this]at hk;have r0:=Option.some.inj hk;cases r0
theorem zeJ{it:Expr}{newAcc:Sem Value}{pos:Pos}{v:V}{its:List V}{t:Expr}{ifs:List Expr}{rest:List Comprehension}{o₀:Obj}{use:Option (Value->Sem Unit)}{Q:Value->Shared->Prop}
  (hcl:clausesOf e=⟨t,it,ifs,0⟩::rest) (hs:∀env x,foldedSetIterable it env x=pure x) (hi:zaN v=some its) (k:CompOk sc cD Γ Γ' Γw' tA)
  (hf:o₀.isFreed=false) (hnew:∀(M:Model) (A:Around) (E:Value->Shared->Prop) (Q:Value->Shared->Prop) (s:Shared),Q (.ref s.heap.objs.size) { s with heap:=s.heap.push o₀ }->wpAny M A newAcc Q E s)
  (H1:Ev C l sc Γ vs it h v hJ) (a:At C l sc Γ vs A env g as h s)
  (hc:∀gB asA (sB:Shared) I D cC fp P St,Ext g as s gB asA sB->AtS C l cD Γ' Γw' (zjq vs tA) A cC gB asA hJ sB->sB.heap.get? D=some o₀->s.heap.get? D=none->s.heap.get? I=none->s.heap.get? cC.locals=none->
   zlA C A gB I its (zaQ v) fp P St->St 0 sB.heap->Side gB asA I sB.heap->Side gB asA D sB.heap->¬ zij cC I->¬ zij cC D->I≠D->D≠cC.locals->(∀b,Own cC Γw' b->b=cC.locals)->(D==sysModules)=false->
   codeAny (Md C) A (.compStart e 0 (.ref I) (.ref D) cC) (compPost (Md C) A No use Q (.ref D) cC.locals) sB):
  wpAny (Md C) A (comprehension e cD env pos newAcc false (eval it env) use) Q No s:=by
 refine wpAny_comprehension_free hcl (hs env) (zlM (zeI a k)) k.kind k.loc (wpAny_mono (H1 A env g as s a) (λx sA z=>?_) λ_ _ z=>z)
 refine zaj z λgB asA xA rB vA=>?_
 have aA:=a.step xA rB
 refine wpAny_mono (zjX a.aok hi rB vA) (λy sE z=>?_) λ_ _ z=>z
 refine zdH z λI fp P St x0 hn W r0=>?_;subst x0;refine xaa r0 λst t0 hk=>?_;refine xee t0 λhp tk b0=>?_;subst b0
 refine xa (rB.kept hk tk) λrC xB=>?_
 have aB:=aA.step xB rC
 refine hnew _ _ _ _ _ (wpAny_newFunctionEnv k.noc (by intro y hy;simp at hy) (λhX hns hsb=>?_) k.kind)
 dsimp only at hns hsb ⊢
 generalize hH2:hp.push o₀=H2 at hns hsb ⊢
 have hCs:H2.objs.size=hp.objs.size+1:=by rw[<-hH2,Heap.size_push]
 have hDC:hp.objs.size≠H2.objs.size:=by rw[hCs];exact Nat.ne_of_lt (Nat.lt_succ_self _)
 have old:∀b o,hp.get? b=some o->hX.get? b=some o:=λb o e=>
  hsb.extBut b o (by rw[hCs];exact Nat.ne_of_lt (Nat.lt_succ_of_lt (Heap.lt_size e))) (Heap.get?_push_of_some _ (hH2▸Heap.get?_push_of_some _ e))
 have hD:hX.get? hp.objs.size=some o₀:=hsb.extBut _ _ hDC (Heap.get?_push_of_some _ (hH2▸Heap.get?_push_size _ hf))
 have nD:hp.get? hp.objs.size=none:=zas hp
 have nC:hp.get? H2.objs.size=none:=by
  generalize e:hp.get? H2.objs.size=e0;induction e0 using Option.casesOn with
  |none=>rfl
  |some o=>have:=Heap.lt_size e;rw[hCs]at this;exact absurd this (Nat.not_lt.mpr (Nat.le_succ _))
 have up:∀b o,s.heap.get? b=some o->∃o',hp.get? b=some o':=λb o e=>let ⟨o',e'⟩:=xA.there b o e;⟨o',hk _ _ e'⟩
 have dn:∀b,hp.get? b=none->s.heap.get? b=none:=λb e=>by
  generalize q:s.heap.get? b=f0;induction f0 using Option.casesOn with
  |none=>rfl
  |some o=>obtain⟨o',e'⟩:=up b o q;rw[e]at e';exact nos e'
 have hI:∃o,hp.get? I=some o:=W.2.2.2.2 _ _ st
 have nI:s.heap.get? I=none:=by
  generalize q:s.heap.get? I=y0;induction y0 using Option.casesOn with
  |none=>rfl
  |some o=>obtain⟨o',e'⟩:=xA.there I o q;rw[hn]at e';exact nos e'
 refine xe hI λoI hIo=>?_
 have hID:I≠hp.objs.size:=Nat.ne_of_lt (Heap.lt_size hIo)
 have hIC:I≠H2.objs.size:=by rw[hCs];exact Nat.ne_of_lt (Nat.lt_succ_of_lt (Heap.lt_size hIo))
 let sB:Shared:={ sA with heap:=hX,toks:=tk+([]:List (Str×Value)).length }
 refine xa (rC.kept (s:={ sA with heap:=hp,toks:=tk }) old (tk+([]:List (Str×Value)).length)) λrD xC=>?_
 have aS:AtS C l cD Γ' Γw' (zjq vs tA) A (compEnvC cD (zik env cD.names []) H2.objs.size env) gB asA hJ sB:=zlO (s':=sB) aB k hns nC old
 have gN:∀b,hp.get? b=none->gB b=none:=λb e=>by
  generalize q:gB b=h0;induction h0 using Option.casesOn with
  |none=>rfl
  |some o=>have:=rC.frz b o q;rw[e]at this;exact nos this
 have aN:∀b,hp.get? b=none->b ∉ asA:=λb e q=>by obtain⟨o,e'⟩:=rC.ex b q;rw[e]at e';exact nos e'
 have gI:gB I=none:=by
  generalize q:gB I=q0;induction q0 using Option.casesOn with
  |none=>rfl
  |some o=>have:=rB.frz I o q;rw[hn]at this;exact nos this
 have aI:I ∉ asA:=λq=>by obtain⟨o,e'⟩:=rB.ex I q;rw[hn]at e';exact nos e'
 have mN:∀b,sA.heap.get? b=none->b≠H2.objs.size->¬ zij (compEnvC cD (zik env cD.names []) H2.objs.size env) b:=λb e nb q=>by
  rcases q with q|⟨x,q⟩
  ·exact nb q
  ·rcases zd9 (zeI a k) q with z|z
   ·exact zfe aA e (.inr ⟨x,z⟩)
   ·simp at z
 have nD1:sA.heap.get? hp.objs.size=none:=by
  generalize q:sA.heap.get? hp.objs.size=v0;induction v0 using Option.casesOn with
  |none=>rfl
  |some o=>have:=hk _ _ q;rw[nD]at this;exact nos this
 exact hc gB asA sB I hp.objs.size (compEnvC cD (zik env cD.names []) H2.objs.size env) fp P St (by exact(xA.trans xB).trans xC) aS hD (dn _ nD) nI (dn _ nC) W (W.1.frame _ _ _ st λb _ o e=>old b o e)
  ⟨gI,aI,_,old _ _ hIo⟩ ⟨gN _ nD,aN _ nD,_,hD⟩ (mN I hn hIC) (mN _ nD1 hDC) hID hDC (zpy k) (zfu aB rfl)
theorem zca.of{K:LK}{D:Addr}{vs':Vs}(hB:∀a,K.B a->K.sF.heap.get? a=none)(x:ExtS K.B K.g0 K.as0 K.sF g as s)(a:AtS K.C K.l K.sc K.Γ K.Γw vs' K.A K.env g as h s)(d:Side g as D s.heap)(q:OR prog K.C.w g as ob D s.heap)
  (hDC:D≠K.env.locals) (nD:K.sF.heap.get? D=none) (nC:K.sF.heap.get? K.env.locals=none):zca K.C K.g0 K.as0 K.sF ob h D K.env.locals s:=by
 obtain⟨m,cm,hn,_⟩:=a.at_.frm.ns
 exact⟨g,as,m,(Ext.refl ..).thenS x hB,a.at_.rel,d,⟨a.at_.frm.gL,a.at_.frm.aL,let ⟨o,_,_,ho,_⟩:=hn;⟨o,ho⟩⟩,q,hn,hDC,nD,nC⟩
theorem zaM.list{t it elt:Expr}{ifs:List Expr}{pos:Pos}{v:V}{its acc:List V}{f:V->List V×H->Option (List V×H)}
  (hs:∀env x,foldedSetIterable it env x=pure x) (ht:zbG Γw' t=some tA) (hgo:zaQ v=true\/∃x p,t=.Name x p) (hi:zaN v=some its) (hz:its.length<=zad)
  (k:CompOk sc cD Γ Γ' Γw' tA) (H1:Ev C l sc Γ vs it h v hJ) (HF:Turn C l cD Γ' vs tA ifs elt True f) (hw:zaB f its ([],hJ)=some (acc,h')):
  zaM C l sc Γ vs (.ListComp elt [⟨t,it,ifs,0⟩] cD pos) h (.list acc) h':=by
 intro A env g as s use Q a fin
 refine zeJ (e:=.ListComp elt [⟨t,it,ifs,0⟩] cD pos) (t:=t) (ifs:=ifs) (rest:=[]) (tA:=tA) (o₀:=zg0 #[] 0) rfl hs hi k rfl (λM A E Q s q=>wpAny_newObj_type q) H1 a ?_
 intro gB asA sB I D cC fp P St xC aS hD nD nI nC W st sI sD mI mD hID hDC own _
 have lp:=znc (K:=⟨C,l,cD,Γ',Γw',A,cC,λb=>s.heap.get? b=none,g,as,s,gB,I,its,zaQ v,fp,P,St⟩) (iter:=it) (pos:=pos) (cD:=cD) ⟨W,nI,mI,λb q=>by rw[own b q];exact nC⟩ ht hgo HF (λ_=>hz) nD mD hID
  ⟨xC.toS,aS,.refl _,sI,st⟩ ⟨zc5 tA vs,λj hj=>zb1 tA vs hj⟩ (.mk #[] 0 sD hD trivial) hw
 have lp':codeAny (Md C) A (.compLoop (.ListComp elt [⟨t,it,ifs,0⟩] cD pos) 0 (.ref I) (.ref D) cC) (compPost (Md C) A No use Q (.ref D) cC.locals) sB:=
  codeAny_mono lp λr s' z=>by
   cases z.1;match z.2 with
   | .mk g' as' vs' x a ag (.mk items n d e va)=>exact fin D cC.locals s' (zca.of (K:=⟨C,l,cD,Γ',Γw',A,cC,λb=>s.heap.get? b=none,g,as,s,gB,I,its,zaQ v,fp,P,St⟩) (λ_ q=>q) x a d ⟨items,n,e,va⟩ hDC nD nC)
 exact codeAny_compStart_list lp' (W.1.self 0 _ _ _ st lp')
end
section
variable {C:Cx}{l:Nat}{sc cD:Scope}{Γ Γ' Γw Γw':Gam}{vs:Vs}{A:Around}{env cC:Env}{g g':Gm}{as as':List Addr}{h hJ h':H}{s s':Shared}{ob:Ob}{e:Expr}
def TurnD(C:Cx)(l:Nat)(cD:Scope)(Γ':Gam)(vs:Vs)(x:Nat)(kx vx:Expr)(f:V->List (List Nat×Sc)×H->Option (List (List Nat×Sc)×H)):Prop:=
 ∀a acc h acc' h',f a (acc,h)=some (acc',h')->∃k hJ v c,Ev C l cD Γ' (vs.set x a) kx h (.str k) hJ/\Ev C l cD Γ' (vs.set x a) vx hJ v h'/\zlj v=some c/\acc'=zeD k c acc
theorem zle(k:List Nat)(c:Sc):∀acc:List (List Nat×Sc),(zeD k c acc).length<=acc.length+1:=by
 intro l9;induction l9 with
 |nil=>simp[pd_0]
 |cons p r zle=>
  rw[pd_s];split
  ·simp
  ·simp;omega
inductive AccM (C:Cx) (D:Addr) (acc:List (List Nat×Sc)) (g:Gm) (as:List Addr) (s:Shared):Prop
 |mk (o:Obj) (d:Side g as D s.heap) (e:s.heap.get? D=some o) (v:DS prog C.w o acc):AccM C D acc g as s
section
variable {D:Addr}{acc:List (List Nat×Sc)}{y:V}{z:Value}
theorem AccM.side(q:AccM C D acc g as s):Side g as D s.heap:=match q with| .mk _ d _ _=>d
theorem AccM.ext{B:Addr->Prop}(q:AccM C D acc g as s)(hD:¬ B D)(x:ExtS B g as s g' as' s'):AccM C D acc g' as' s':=match q with| .mk _ d e v=>.mk _ (d.ext hD x) (x.keep _ _ d.na hD e) v
theorem AccM.step(q:AccM C D acc g as s)(x:Ext g as s g' as' s'):AccM C D acc g' as' s':=q.ext (B:=λ_=>False) (λq=>q) x.toS
theorem AccM.move{I:Addr}{hp:Heap}(q:AccM C D acc g as s)(hI:I≠D)(hk:∀b o,b≠I->s.heap.get? b=some o->hp.get? b=some o)(tk:Nat):AccM C D acc g as (mvS s hp tk):=match q with| .mk _ d e v=>.mk _ ⟨d.gn,d.na,_,hk _ _ (Ne.symm hI) e⟩ (hk _ _ (Ne.symm hI) e) v
theorem AccM.set{kk:List Nat}{c:Sc}(q:AccM C D acc g as s)(hk:zah prog C.w g as (.str kk) z){vz:Value}(hv:zah prog C.w g as y vz)(hc:zlj y=some c)(hz:acc.length<=zad){Q:Unit->Shared->Prop}{E:Value->Shared->Prop}
  (H:∀hq o,(∀b o,b≠D->s.heap.get? b=some o->hq.get? b=some o)->hq.get? D=some o->AccM C D (zeD kk c acc) g as (mvS s hq (s.toks+1))->Q () (mvS s hq (s.toks+1))):wpAny (Md C) A (dictSet D z vz) Q E s:=by
 match q with
 | .mk o d e v=>refine xe hk.str_inv λt e'=>?_;subst e';refine xea v λks hdo hkv=>?_;have hsz:=zj1 hkv;unfold zad at hz;refine wpAny_dictSet_pairs (knd:=strKind prog C.w) (strKind_is prog C.w (sk kk) t) (zaE hdo e) (λhq hd' hs=>xea (zfL hd') λo' ho' hd''=>?_) (by rw[sizeLine_eq];omega);exact H hq o' (λb o hb e=>(hs.2 b hb).trans e) ho' (.mk o' ⟨d.gn,d.na,_,ho'⟩ ho' ⟨_,hd'',zoq (λ_ _ e=>zi9 e) (zlk hc hv) _ hkv (zjF hdo)⟩)
end
inductive CM (K:LK) (f:V->List (List Nat×Sc)×H->Option (List (List Nat×Sc)×H)) (x:Nat) (vs0:Vs) (D:Addr) (acc':List (List Nat×Sc)) (h':H) (i:Nat) (g:Gm) (as:List Addr) (vs:Vs) (h:H) (s:Shared):Prop
 |mk (acc:List (List Nat×Sc)) (ag:vs.length=vs0.length/\∀j,j ∉ [x]->vs[j]?=vs0[j]?) (A:AccM K.C D acc g as s) (le:acc.length<=i) (k:zaB f (K.its.drop i) (acc,h)=some (acc',h')):CM K f x vs0 D acc' h' i g as vs h s
inductive CEndM (K:LK) (D:Addr) (acc:List (List Nat×Sc)) (h:H) (s:Shared):Prop
 |mk (g:Gm) (as:List Addr) (vs:Vs) (x:ExtS K.B K.g0 K.as0 K.sF g as s) (a:AtS K.C K.l K.sc K.Γ K.Γw vs K.A K.env g as h s) (A:AccM K.C D acc g as s):CEndM K D acc h s
theorem zlQ{K:LK}(k:LKok K){y:Str}{py:Pos}{x:Nat}{iter kx vx:Expr}{pos:Pos}{D:Addr}{acc:List (List Nat×Sc)}{f:V->List (List Nat×Sc)×H->Option (List (List Nat×Sc)×H)}{vs0:Vs}(ht:K.Γw.lookup y=some x)(HF:TurnD K.C K.l K.sc K.Γ vs0 x kx vx f)(hz:K.its.length<=zad)
  (hBD:K.B D) (hMD:¬ zij K.env D) (hID:K.I≠D) (L:Lv K 0 g as vs h s) (ag:vs.length=vs0.length/\∀j,j ∉ [x]->vs[j]?=vs0[j]?) (A:AccM K.C D [] g as s) (hw:zaB f K.its ([],h)=some (acc,h')):
  codeAny (Md K.C) K.A (.compLoop (.DictComp kx vx [⟨.Name y py,iter,[],0⟩] cD pos) 0 (.ref K.I) (.ref D) K.env) (λr s'=>r=.ok .next/\CEndM K D acc h' s') s:=by
 refine codeAny_compLoop_testsD (FInv K (CM K f x vs0 D acc h')) (λn s q=>q.elim λi g as vs h L hi r e=>zcy k L hi (λhlt yv v hp tk hd q hk L=>?_) λhin hp tk hk x a=>?_) (K.its.length+1) (.mk 0 _ _ _ _ L (Nat.zero_le _) (.mk [] ag A (Nat.le_refl _) hw) rfl)
 ·match r with
  | .mk acc1 ag A hl hf=>refine zdy λX kX=>?_;rw[hd]at hf;refine xea (Option.bind_eq_some_iff.mp hf) λp hf hk'=>zdH (HF _ _ _ _ _ hf) λkk hX vv c hK hV hsc e'=>?_;refine kX ?_;refine zaZ (wpAny_mono (zbW (t:=.Name y py) (tA:=[x]) L.a (by simp[zbG,ht]) (zfG (vs₂:=vs0) ag.1 ag.2 rfl) (.of_VF (q.mono L.hg))) (λ_ sB z=>zc0 z λgE as3 xC aD=>?_) λ_ _ z=>z);refine zaZ (wpAny_tests_nil ?_);refine zaZ (wpAny_mono (hK _ _ _ _ _ aD.at_) (λkz s4 z=>zaj z λgF as4 xD rE v4=>?_) λ_ _ z=>z);have L4:=(L.ext k xC aD).step k xD rE;refine zaZ (wpAny_mono (hV _ _ _ _ _ L4.a.at_) (λvz s5 z=>zaj z λg5 as5 xE r5 v5=>?_) λ_ _ z=>z);refine ((((A.move hID hk tk).ext (λq=>hMD q.mine) xC).step xD).step xE).set (xE.rep v4) v5 hsc (Nat.le_trans hl (Nat.le_of_lt (Nat.lt_of_lt_of_le hlt hz))) λhq o hs ho A6=>?_;exact FInv.next ((L4.step k xE r5).put k hBD A6.side.gn A6.side.na hMD hID hs ho _) hlt (.mk _ (zfH (tA:=[x]) (x:=v) rfl) (e'▸A6) (e'▸Nat.le_trans (zle kk c acc1) (Nat.succ_le_succ hl)) hk') e
 ·match r with
  | .mk acc1 ag A hl hf=>refine zdy λX kX=>?_;subst hin;rw[List.drop_length]at hf;cases hf;refine kX ?_;exact ia rfl (.mk _ _ _ x a (A.move hID hk tk))
theorem zaM.dict{y:Str}{py:Pos}{x:Nat}{it kx vx:Expr}{pos:Pos}{v:V}{its:List V}{acc:List (List Nat×Sc)}{f:V->List (List Nat×Sc)×H->Option (List (List Nat×Sc)×H)}
  (hs:∀env x,foldedSetIterable it env x=pure x) (ht:Γw'.lookup y=some x) (hi:zaN v=some its) (hz:its.length<=zad)
  (k:CompOk sc cD Γ Γ' Γw' [x]) (H1:Ev C l sc Γ vs it h v hJ) (HF:TurnD C l cD Γ' vs x kx vx f) (hw:zaB f its ([],hJ)=some (acc,h')):
  zaM C l sc Γ vs (.DictComp kx vx [⟨.Name y py,it,[],0⟩] cD pos) h (.dS acc) h':=by
 intro A env g as s use Q a fin
 refine zeJ (e:=.DictComp kx vx [⟨.Name y py,it,[],0⟩] cD pos) (t:=.Name y py) (ifs:=[]) (rest:=[]) (tA:=[x]) (o₀:=emptyDict) rfl hs hi k rfl (λM A E Q s q=>(by unfold newDict;exact wpAny_bind (wpAny_alloc (wpAny_pure q)))) H1 a ?_
 intro gB asA sB I D cC fp P St xC aS hD nD nI nC W st sI sD mI mD hID hDC own hsm
 have lp:=zlQ (K:=⟨C,l,cD,Γ',Γw',A,cC,λb=>s.heap.get? b=none,g,as,s,gB,I,its,zaQ v,fp,P,St⟩) (iter:=it) (pos:=pos) (py:=py) (cD:=cD) ⟨W,nI,mI,λb q=>by rw[own b q];exact nC⟩ ht HF hz nD mD hID
  ⟨xC.toS,aS,.refl _,sI,st⟩ ⟨zc5 [x] vs,λj hj=>zb1 [x] vs hj⟩ (.mk _ sD hD ⟨[],⟨#[],0,⟨rfl,rfl,rfl⟩,rfl,by intro e he;simp at he,.nil,by simp⟩,rfl⟩) hw
 have lp':codeAny (Md C) A (.compLoop (.DictComp kx vx [⟨.Name y py,it,[],0⟩] cD pos) 0 (.ref I) (.ref D) cC) (compPost (Md C) A No use Q (.ref D) cC.locals) sB:=
  codeAny_mono lp λr s' z=>by
   cases z.1;match z.2 with
   | .mk g' as' vs' x a (.mk o d e va)=>exact fin D cC.locals s' (zca.of (K:=⟨C,l,cD,Γ',Γw',A,cC,λb=>s.heap.get? b=none,g,as,s,gB,I,its,zaQ v,fp,P,St⟩) (λ_ q=>q) x a d ⟨o,e,va,hsm⟩ hDC nD nC)
 exact codeAny_compStart_dict lp' (W.1.self 0 _ _ _ st lp')
end
theorem zjD(elt t0 it0 t1 it1:Expr)(ifs:List Expr)(scope:Scope)(pos:Pos)(it acc:Value)(env:Env):
 compTurn (.ListComp elt [⟨t0,it0,[],0⟩,⟨t1,it1,ifs,0⟩] scope pos) 1 it acc env=(do
  standAt it1.pos
  match <-pyNext it with
  |none=>pure (.done .next)
  |some v=>
   letOwnedTupleGo t1 it v;assign t1 env v;let mut ok:=true;for c in ifs do
    if ok then ok <-isTrue c env (eval c env)
   if ok then
    (do let _ <-call (.builtin "list.append") [acc,<-eval elt env])
   again (.compLoop (.ListComp elt [⟨t0,it0,[],0⟩,⟨t1,it1,ifs,0⟩] scope pos) 1 it acc env)):=by rfl
theorem ziB(elt t0 it0 t1 it1:Expr)(ifs:List Expr)(scope:Scope)(pos:Pos)(it acc:Value)(env:Env):
 compTurn (.ListComp elt [⟨t0,it0,[],0⟩,⟨t1,it1,ifs,0⟩] scope pos) 0 it acc env=(do
  standAt it0.pos
  match <-pyNext it with
  |none=>pure (.done .next)
  |some v=>
   letOwnedTupleGo t0 it v;assign t0 env v;let mut ok:=true;for c in ([]:List Expr) do
    if ok then ok <-isTrue c env (eval c env)
   if ok then
    let x <-eval it1 env
    standAt it1.pos
    let x <-foldedSetIterable it1 env x
    let _ <-runOwn (.compStart (.ListComp elt [⟨t0,it0,[],0⟩,⟨t1,it1,ifs,0⟩] scope pos) 1 (<-holding [x] (pyIter x)) acc env) env
   again (.compLoop (.ListComp elt [⟨t0,it0,[],0⟩,⟨t1,it1,ifs,0⟩] scope pos) 0 it acc env)):=by rfl
section
variable {prog:Program}{w:World}{A:Around}{R:Result->Shared->Prop}{s:Shared}
theorem zjC{elt t0 it0 t1 it1:Expr}{ifs:List Expr}{scope:Scope}{pos:Pos}{it acc:Value}{env:Env}(I:Nat->Shared->Prop)
  (turn:∀n s,I n s->wpAny (model prog w) A (pyNext it) (λr sA=>match r with
   |none=>R (.ok .next) sA
   |some v=>wpAny (model prog w) A (letOwnedTupleGo t1 it v) (λ_ sA'=>wpAny (model prog w) A (assign t1 env v) (λ_ sE=>
    wpAny (model prog w) A (forIn ifs true λc r=>if r=true then do let ok <-isTrue c env (eval c env);pure (ForInStep.yield ok) else pure (ForInStep.yield r)) (λok sB=>
     if ok=true then wpAny (model prog w) A (eval elt env) (λx s4=>
      wpAny (model prog w) A (call (.builtin "list.append") [acc,x]) (λ_ s5=>∃m,m<n/\I m s5) No s4) No sB
     else ∃m,m<n/\I m sB) No sE) No sA') No sA) No s)
  (n:Nat) (h:I n s):codeAny (model prog w) A (.compLoop (.ListComp elt [⟨t0,it0,[],0⟩,⟨t1,it1,ifs,0⟩] scope pos) 1 it acc env) R s:=by
 refine codeAny_loop rfl I (λn s hI=>?_) n h
 refine wpAny_noted (zaZ ?_)
 rw[zjD]
 refine wpAny_bind (wpAny_standAt (wpAny_bind (wpAny_mono (turn n s hI) (λr sA hJ=>?_) λ_ _ h'=>h')))
 induction r using Option.casesOn with
 |none=>exact wpAny_pure hJ
 |some v=>
  refine wpAny_bind (wpAny_mono hJ (λ_ sA' hA'=>?_) λ_ _ h'=>h');refine wpAny_bind (wpAny_mono hA' (λ_ sE hO=>wpAny_bind (wpAny_mono hO (λok sB hX=>?_) λ_ _ h'=>h')) λ_ _ h'=>h');induction ok using Bool.casesOn with
  |false=>exact wpAny_pure ⟨rfl,hX⟩
  |true=>exact wpAny_bind (wpAny_bind (wpAny_mono hX (λx s4 hZ=>wpAny_bind (wpAny_mono hZ (λ_ s5 h5A=>wpAny_pure (wpAny_pure ⟨rfl,h5A⟩)) λ_ _ h'=>h')) λ_ _ h'=>h'))
theorem ziz{elt t0 it0 t1 it1:Expr}{ifs:List Expr}{scope:Scope}{pos:Pos}{it acc:Value}{env:Env}(I:Nat->Shared->Prop)(hfs:∀x,foldedSetIterable it1 env x=pure x)
  (turn:∀n s,I n s->wpAny (model prog w) A (pyNext it) (λr sA=>match r with
   |none=>R (.ok .next) sA
   |some v=>wpAny (model prog w) A (letOwnedTupleGo t0 it v) (λ_ sA'=>wpAny (model prog w) A (assign t0 env v) (λ_ sE=>
    wpAny (model prog w) A (eval it1 env) (λx sB=>wpAny (model prog w) A (pyIter x) (λit' s4=>
     codeAny (model prog w) A (.compStart (.ListComp elt [⟨t0,it0,[],0⟩,⟨t1,it1,ifs,0⟩] scope pos) 1 it' acc env) (λr s5=>r=.ok .next/\∃m,m<n/\I m s5) s4) No sB) No sE) No sA') No sA) No s)
  (n:Nat) (h:I n s):codeAny (model prog w) A (.compLoop (.ListComp elt [⟨t0,it0,[],0⟩,⟨t1,it1,ifs,0⟩] scope pos) 0 it acc env) R s:=by
 refine codeAny_loop rfl I (λn s hI=>?_) n h
 refine wpAny_noted (zaZ ?_)
 rw[ziB]
 refine wpAny_bind (wpAny_standAt (wpAny_bind (wpAny_mono (turn n s hI) (λr sA hJ=>?_) λ_ _ h'=>h')))
 induction r using Option.casesOn with
 |none=>exact wpAny_pure hJ
 |some v=>refine wpAny_bind (wpAny_mono hJ (λ_ sA' hA'=>?_) λ_ _ h'=>h');refine wpAny_bind (wpAny_mono hA' (λ_ sE hO=>wpAny_bind (wpAny_tests_nil ?_)) λ_ _ h'=>h');refine wpAny_bind (wpAny_mono hO (λx sB hX=>wpAny_bind (wpAny_standAt (wpAny_bind (wpAny_of_eq (hfs x) (wpAny_bind (wpAny_holding (wpAny_mono hX (λit' s4 hZ=>?_) λ_ _ h'=>h'))))))) λ_ _ h'=>h');refine wpAny_bind (wpAny_runOwn (codeAny_mono hZ λr s5 z=>?_));obtain⟨rfl,m,hm⟩:=z;exact wpAny_pure ⟨rfl,m,hm⟩
theorem ziA{elt t0 it0 t1 it1:Expr}{ifs:List Expr}{scope:Scope}{pos:Pos}{it acc:Value}{env:Env}
  (h0:codeAny (model prog w) A (.compLoop (.ListComp elt [⟨t0,it0,[],0⟩,⟨t1,it1,ifs,0⟩] scope pos) 1 it acc env) R s)
  (h:wpAny (model prog w) A (pyIter it) (λit' s'=>codeAny (model prog w) A (.compLoop (.ListComp elt [⟨t0,it0,[],0⟩,⟨t1,it1,ifs,0⟩] scope pos) 1 it' acc env) R s')
   (notedBy (model prog w) A env λx s'=>R (.error x) s') s):
  codeAny (model prog w) A (.compStart (.ListComp elt [⟨t0,it0,[],0⟩,⟨t1,it1,ifs,0⟩] scope pos) 1 it acc env) R s:=by
 refine codeAny_of_tree ?_
 refine wpAny_notedAt ?_
 refine wpAny_bind (wpAny_askSetting (wpAny_ite ?_))
 split
 ·first
   |exact wpAny_bind (wpAny_pure (wpAny_pure (And.intro rfl h0)))
   |exact wpAny_pure (And.intro rfl h0)
 ·first
   |exact wpAny_bind (wpAny_rule (wpAny_bind (wpAny_standAt (wpAny_bind (wpAny_mono h (λit' s' h'=>wpAny_pure (And.intro rfl h')) λ_ _ x=>x)))))
   | (refine wpAny_bind (wpAny_rule ?_);show wpAny _ _ (standAt it1.pos >>= _) _ _ s;exact wpAny_bind (wpAny_standAt (wpAny_bind (wpAny_mono h (λit' s' h'=>wpAny_pure (And.intro rfl h')) λ_ _ x=>x))))
end
section
variable {C:Cx}{l:Nat}{sc cD:Scope}{Γ Γ' Γw Γw':Gam}{vs vs':Vs}{A:Around}{env cC:Env}{g g':Gm}{as as':List Addr}{h hJ h':H}{s s':Shared}{ob:Ob}{e:Expr}
theorem AtS.forget(a:AtS C l sc Γ Γw vs A env g as h s)(hv:∀(i:Nat) v,vs'[i]?=some v->v≠.uA->vs[i]?=some v):AtS C l sc Γ Γw vs' A env g as h s:=by refine zaj a.at_.frm.ns λm cm hn hc hvv=>?_;exact⟨⟨a.at_.ok,a.at_.aok,a.at_.eok,a.at_.bas,a.at_.rel,⟨m,cm,hn,hc,λx i v h1 h2 h3=>hvv x i v h1 (hv i v h2 h3) h3⟩,a.at_.frm.gL,a.at_.frm.aL,a.at_.frm.aC,a.at_.frm.nm⟩,a.own⟩
def TurnO(C:Cx)(l:Nat)(cD:Scope)(Γ':Gam)(vs:Vs)(x y:Nat)(it2 cond elt:Expr)(f:V->List V×H->Option (List V×H)):Prop:=
 ∀a acc h acc' h',f a (acc,h)=some (acc',h')->∃v hJ its f2,Ev C l cD Γ' ((vs.set x a).set y .uA) it2 h v hJ/\zaN v=some its/\zaB f2 its (acc,hJ)=some (acc',h')/\Turn C l cD Γ' (vs.set x a) [y] [cond] elt False f2
theorem zl9{K:LK}(k:LKok K){t0 it0 it1 t elt:Expr}{ifs:List Expr}{pos:Pos}{f:V->List V×H->Option (List V×H)}{tA:List Nat}{vs0:Vs}{D:Addr}{acc0 acc':List V}(ht:zbG K.Γw t=some tA)(hgo:K.tb=true\/∃x p,t=.Name x p)(HF:Turn K.C K.l K.sc K.Γ vs0 tA ifs elt False f)
  (hBD:K.B D) (hMD:¬ zij K.env D) (hID:K.I≠D) (L:Lv K 0 g as vs h s) (ag:vs.length=vs0.length/\∀j,j ∉ tA->vs[j]?=vs0[j]?) (A:AccD K.C D acc0 g as s) (hw:zaB f K.its (acc0,h)=some (acc',h')):
  codeAny (Md K.C) K.A (.compLoop (.ListComp elt [⟨t0,it0,[],0⟩,⟨t,it1,ifs,0⟩] cD pos) 1 (.ref K.I) (.ref D) K.env) (λr s'=>r=.ok .next/\CEnd K tA vs0 D acc' h' s') s:=
 zjC (FInv K (CR K f tA vs0 D False acc' h')) (λn s q=>q.elim λi g as vs h L hi r e=>zcy k L hi (λhlt y v hp tk hd q hk L=>ziC k ht hgo HF (λq=>q.elim) hBD hMD hID hlt hd q r hk L e)
  λhin hp tk hk x a=>⟨rfl,CR.done (hin▸r) hID hk x a⟩) (K.its.length+1) (.mk 0 _ _ _ _ L (Nat.zero_le _) (.mk acc0 ag A (λq=>q.elim) hw) rfl)
theorem zl1{fp:List Addr}{P:Nat->Value->Prop}{St:Nat->Heap->Prop}{J:Addr}{its:List V}{tb:Bool}{hp:Heap}(R:Rel prog C.w g as h s.heap)(hn:s.heap.get? J=none)(W:zlA C A g J its tb fp P St)(st:St 0 hp):Side g as J hp:=by
 refine⟨?_,λq=>?_,W.2.2.2.2 _ _ st⟩
 ·cases e:g J with
  |none=>rfl
  |some o=>have:=R.frz J o e;rw[hn]at this;exact nos this
 ·obtain⟨o,e⟩:=R.ex J q;rw[hn]at e;exact nos e
theorem zo0{x y:Nat}{v:V}{vs0 vs1:Vs}(ag:vs1.length=vs0.length/\∀j,j ∉ [x,y]->vs1[j]?=vs0[j]?):(vs1.set x v).length=(vs0.set x v).length/\∀j,j ∉ [y]->(vs1.set x v)[j]?=(vs0.set x v)[j]? :=by
 refine⟨by rw[List.length_set,List.length_set,ag.1],λj hj=>?_⟩;by_cases hjx:x=j
 ·subst hjx;refine rwl List.getElem?_set ?_;refine rwl List.getElem?_set ?_;refine rwl (if_pos rfl) ?_;refine rwl (if_pos rfl) ?_;exact rwl ag.1 rfl
 ·refine rwl (List.getElem?_set_ne hjx) ?_;refine rwl (List.getElem?_set_ne hjx) ?_;exact ag.2 j (by simp only[List.mem_cons,List.mem_nil_iff,not_or]at hj ⊢;exact⟨Ne.symm hjx,hj⟩)
theorem zqv{x y:Nat}{v:V}{vs0 vs1:Vs}(ag:vs1.length=(vs0.set x v).length/\∀j,j ∉ [y]->vs1[j]?=(vs0.set x v)[j]?):vs1.length=vs0.length/\∀j,j ∉ [x,y]->vs1[j]?=vs0[j]? :=by refine⟨by rw[ag.1,List.length_set],λj hj=>?_⟩;simp only[List.mem_cons,not_or]at hj;refine rwl (ag.2 j (by simp only[List.mem_cons,List.mem_nil_iff,not_or];exact⟨hj.2.1,λq=>q⟩)) ?_;exact rwl (List.getElem?_set_ne (Ne.symm hj.1)) rfl
theorem two_un{x y:Nat}{v u:V}{vs0 vs1:Vs}(ag:vs1.length=vs0.length/\∀j,j ∉ [x,y]->vs1[j]?=vs0[j]?)(j:Nat)(e:((vs0.set x v).set y .uA)[j]?=some u)(ne:u≠.uA):(vs1.set x v)[j]?=some u:=by
 by_cases hjy:y=j
 ·subst hjy;exact absurd (zoD e) ne
 ·rw[List.getElem?_set_ne hjy]at e;refine rwl ((zo0 ag).2 j (by simpa using Ne.symm hjy)) ?_;exact e
theorem zlP{K:LK}(k:LKok K){it0 it1 elt cond:Expr}{xn yn:Str}{px py:Pos}{x y:Nat}{pos:Pos}{acc':List V}{f:V->List V×H->Option (List V×H)}{vs0:Vs}{D:Addr}(hs:∀env x,foldedSetIterable it1 env x=pure x)(hx:K.Γw.lookup xn=some x)(hy:K.Γw.lookup yn=some y)(HF:TurnO K.C K.l K.sc K.Γ vs0 x y it1 cond elt f)
  (hBD:K.B D) (hMD:¬ zij K.env D) (hID:K.I≠D) (L:Lv K 0 g as vs h s) (ag:vs.length=vs0.length/\∀j,j ∉ [x,y]->vs[j]?=vs0[j]?) (A:AccD K.C D [] g as s) (hw:zaB f K.its ([],h)=some (acc',h')):
  codeAny (Md K.C) K.A (.compLoop (.ListComp elt [⟨.Name xn px,it0,[],0⟩,⟨.Name yn py,it1,[cond],0⟩] cD pos) 0 (.ref K.I) (.ref D) K.env) (λr s'=>r=.ok .next/\CEnd K [x,y] vs0 D acc' h' s') s:=by
 refine ziz (FInv K (CR K f [x,y] vs0 D False acc' h')) (hs K.env) (λn s q=>q.elim λi g as vs h L hi r e=>zcy k L hi (λhlt yv v hp tk hd q hk L=>?_) λhin hp tk hk x a=>⟨rfl,CR.done (hin▸r) hID hk x a⟩) (K.its.length+1) (.mk 0 _ _ _ _ L (Nat.zero_le _) (.mk [] ag A (λq=>q.elim) hw) rfl)
 refine r.item hd λacc acc2 hO ag A _ hf hk'=>zdH (HF _ _ _ _ _ hf) λv2 hX its2 f2 hIt hi2 hw2 HI=>?_
 refine zhI (wpAny_mono (zbW (t:=.Name xn px) (tA:=[x]) (vs':=vs.set x v) L.a (by simp[zbG,hx]) rfl (.of_VF (q.mono L.hg))) (λ_ sB z=>zc0 z λgE as3 xC aD=>?_) λ_ _ z=>z)
 refine wpAny_mono (hIt _ _ _ _ _ (aD.forget λj u e ne=>two_un ag j e ne).at_) (λxv s4 z=>zaj z λgF as4 xD rE v4=>?_) λ_ _ z=>z
 have L4:=(L.ext k xC aD).step k xD rE
 refine wpAny_mono (zjX L4.a.at_.aok hi2 rE v4) (λitv s5 z=>?_) λ_ _ z=>z
 refine zdy λX kX=>?_
 obtain⟨J,fp2,P2,St2,rfl,hn2,W2,stJ,⟨hp2,tk2,rfl⟩,hk2⟩:=z
 refine xa (rE.kept hk2 tk2) λr5 xE=>?_
 refine kX ?_
 have hJD:J≠D:=λq=>by obtain⟨o,e⟩:=(((A.move hID hk tk).ext (λq=>hMD q.mine) xC).step xD).side.ex;rw[q]at hn2;rw[hn2]at e;exact nos e
 have lp:=zl9 (K:={ K with B:=λb=>b=D\/Own K.env K.Γw b,g0:=gF,as0:=as4,sF:=s4,gW:=gF,I:=J,its:=its2,tb:=zaQ v2,fp:=fp2,P:=P2,St:=St2 }) (t:=.Name yn py) (t0:=.Name xn px) (it0:=it0) (it1:=it1) (pos:=pos) (cD:=cD) ⟨W2,hn2,zfe L4.a.at_ hn2,λ_ q=>.inr q⟩ (tA:=[y]) (by simp[zbG,hy]) (.inr ⟨_,_,rfl⟩) HI (.inl rfl) hMD hJD
  ⟨xE.toS,L4.a.step xE r5,.refl _,zl1 rE hn2 W2 stJ,stJ⟩ (zo0 ag) ((((A.move hID hk tk).ext (λq=>hMD q.mine) xC).step xD).step xE) hw2
 have lp':codeAny (Md K.C) K.A (.compLoop (.ListComp elt [⟨.Name xn px,it0,[],0⟩,⟨.Name yn py,it1,[cond],0⟩] cD pos) 1 (.ref J) (.ref D) K.env) (λr s6=>r=.ok .next/\∃m,m<n/\FInv K (CR K f [x,y] vs0 D False acc' h') m s6) (mvS s4 hp2 tk2):=
  codeAny_mono lp λr s6 z=>⟨z.1,match z.2 with
   | .mk g6 as6 vs6 xG a6 ag6 A6=>FInv.next (L4.extB k (λb q=>q.elim (λe=>e▸hBD) (k.oB b)) (λq=>q.elim hID k.oI) xG a6) hlt (.mk _ (zqv ag6) A6 (λq=>q.elim) hk') e⟩
 exact ziA lp' (W2.1.self 0 _ _ _ stJ lp')
theorem zaM.list2{it0 it1 elt cond:Expr}{xn yn:Str}{px py:Pos}{x y:Nat}{pos:Pos}{v:V}{its acc:List V}{f:V->List V×H->Option (List V×H)}
  (hs0:∀env x,foldedSetIterable it0 env x=pure x) (hs:∀env x,foldedSetIterable it1 env x=pure x) (hx:Γw'.lookup xn=some x) (hy:Γw'.lookup yn=some y) (hi:zaN v=some its)
  (k:CompOk sc cD Γ Γ' Γw' [x,y]) (H1:Ev C l sc Γ vs it0 h v hJ) (HF:TurnO C l cD Γ' vs x y it1 cond elt f) (hw:zaB f its ([],hJ)=some (acc,h')):
  zaM C l sc Γ vs (.ListComp elt [⟨.Name xn px,it0,[],0⟩,⟨.Name yn py,it1,[cond],0⟩] cD pos) h (.list acc) h':=by
 intro A env g as s use Q a fin
 refine zeJ (e:=.ListComp elt [⟨.Name xn px,it0,[],0⟩,⟨.Name yn py,it1,[cond],0⟩] cD pos) (t:=.Name xn px) (ifs:=[]) (rest:=[⟨.Name yn py,it1,[cond],0⟩]) (tA:=[x,y]) (o₀:=zg0 #[] 0) rfl hs0 hi k rfl (λM A E Q s q=>wpAny_newObj_type q) H1 a ?_
 intro gB asA sB I D cC fp P St xC aS hD nD nI nC W st sI sD mI mD hID hDC own _
 have lp:=zlP (K:=⟨C,l,cD,Γ',Γw',A,cC,λb=>s.heap.get? b=none,g,as,s,gB,I,its,zaQ v,fp,P,St⟩) (it0:=it0) (pos:=pos) (px:=px) (py:=py) (cD:=cD) ⟨W,nI,mI,λb q=>by rw[own b q];exact nC⟩ hs hx hy HF nD mD hID
  ⟨xC.toS,aS,.refl _,sI,st⟩ ⟨zc5 [x,y] vs,λj hj=>zb1 [x,y] vs hj⟩ (.mk #[] 0 sD hD trivial) hw
 have lp':codeAny (Md C) A (.compLoop (.ListComp elt [⟨.Name xn px,it0,[],0⟩,⟨.Name yn py,it1,[cond],0⟩] cD pos) 0 (.ref I) (.ref D) cC) (compPost (Md C) A No use Q (.ref D) cC.locals) sB:=
  codeAny_mono lp λr s' z=>by
   cases z.1;match z.2 with
   | .mk g' as' vs' x a ag (.mk items n d e va)=>exact fin D cC.locals s' (zca.of (K:=⟨C,l,cD,Γ',Γw',A,cC,λb=>s.heap.get? b=none,g,as,s,gB,I,its,zaQ v,fp,P,St⟩) (λ_ q=>q) x a d ⟨items,n,e,va⟩ hDC nD nC)
 exact codeAny_compStart_list lp' (W.1.self 0 _ _ _ st lp')
end
end
section
open PySem PySem.W PyProof.Rows PySem.Calls
section
variable {C:Cx}{l:Nat}{sc:Scope}{Γ:Gam}{vs:Vs}{A:Around}{env:Env}{g:Gm}{as:List Addr}{h h':H}{s:Shared}{E:Value->Shared->Prop}
noncomputable def za8(hp:Heap):List Value->List (Int×Int)->Prop
 |[],[]=>True
 |v::vs,p::ps=>(∃a n t u,v=.ref a/\hp.get? a=some (zie #[.int p.1 t,.int p.2 u] n))/\za8 hp vs ps
 |_,_=>False
theorem za8.keeps{hp hp':Heap}(hk:∀b o,hp.get? b=some o->hp'.get? b=some o):∀{vs:List Value} {ps:List (Int×Int)},za8 hp vs ps->za8 hp' vs ps
 |[],[],_=>trivial
 |[],_::_,q=>q.elim
 |_::_,[],q=>q.elim
 |_::_,_::_,⟨⟨a,n,t,u,e,e'⟩,r⟩=>⟨⟨a,n,t,u,e,hk _ _ e'⟩,r.keeps hk⟩
theorem za8.get{hp:Heap}:∀{vs:List Value} {ps:List (Int×Int)},za8 hp vs ps->∀(i:Nat),i<ps.length->∃a n t u,vs.getD i Value.none=.ref a/\hp.get? a=some (zie #[.int (ps.getD i (0,0)).1 t,.int (ps.getD i (0,0)).2 u] n)
 |[],[],_,i,hi=>by simp at hi
 |[],_::_,q,_,_=>q.elim
 |_::_,[],q,_,_=>q.elim
 |_::_,_::_,⟨⟨a,n,t,u,e,e'⟩,r⟩,0,_=>⟨a,n,t,u,e,e'⟩
 |_::_,_::_,⟨_,r⟩,i+1,hi=>by simpa using r.get i (by simpa using hi)
theorem za8.length{hp:Heap}:∀{vs:List Value} {ps:List (Int×Int)},za8 hp vs ps->vs.length=ps.length
 |[],[],_=>rfl
 |[],_::_,q=>q.elim
 |_::_,[],q=>q.elim
 |_::_,_::_,⟨_,r⟩=>by simp[r.length]
theorem za8.of{us:List V}:∀{xs:List Value} {ps:List (Int×Int)},pairsOf us=some ps->VFs prog C.w g us xs->Rel prog C.w g as h s.heap->za8 s.heap xs ps:=by
 induction us with
 |nil=>intro xs ps e q R;have q:=q.nil_inv;subst q;exact sm e trivial
 |cons u us ih=>
  intro xs ps e q R;exact VFs.cons_el q λx xs q1 q2=>be e λp e1 e=>map_e e λps' e'=>⟨by refine zdy λX kX=>?_;obtain⟨a,n,z1,z2,t1,t2,e,hg,rfl,rfl⟩:=zj7 (zah.of_VF (as:=as) q1) e1;refine kX ?_;exact⟨a,n,t1,t2,e,R.frz _ _ hg⟩,ih e' q2 R⟩
theorem zsy{a b:Addr}{n k:Nat}{x y x' y':Int}{t u t' u':Tok}{Q:Bool->Shared->Prop}(ha:s.heap.get? a=some (zie #[.int x t,.int y u] n))(hb:s.heap.get? b=some (zie #[.int x' t',.int y' u'] k))
  (h:Q (zal (x,y) (x',y')) s):wpAny (Md C) A (keyLt' (tuples' true) (.ref a) (.ref b)) Q E s:=by
 refine kat_lt ha rfl hb rfl ?_
 refine kat_cons (wpAny_eqBool_int (kat_go (λe=>?_) λe=>?_))
 ·have e':x=x':=by simpa using e
  refine kat_yes (kat_cons (wpAny_eqBool_int (kat_go (λf=>?_) λf=>?_)))
  ·have f':y=y':=by simpa using f
   have:zal (x,y) (x',y')=decide (2<2):=by unfold zal;refine rwl (if_pos e') ?_;refine rwl f' ?_;simp
   exact rwr this h
  ·refine kat_no (kat_one _ _ (lt_int ?_));have:zal (x,y) (x',y')=decide (y<y'):=by unfold zal;exact rwl (if_pos e') rfl
   rw[this]at h;exact h
 ·have e':x≠x':=by simpa using e
  refine kat_no (oneLt_int ?_);have:zal (x,y) (x',y')=decide (x<x'):=by unfold zal;exact rwl (if_neg e') rfl
  rw[this]at h;exact h
noncomputable def okb{α:Type}(n:Nat):KasT α->Bool
 | .ret _=>true
 | .ask i j k=>decide (i<n)&&decide (j<n)&&okb n (k true)&&okb n (k false)
noncomputable def allb{α:Type}(p:α->Bool):KasT α->Bool
 | .ret a=>p a
 | .ask _ _ k=>allb p (k true)&&allb p (k false)
theorem zmS{α:Type}{p:α->Bool}{cmp:Nat->Nat->Bool}:∀(t:KasT α),allb p t=true->p (zse cmp t)=true
 | .ret _,h=>h
 | .ask i j k,h=>by
  have h:=Bool.and_eq_true_iff.mp h;show p (zse cmp (k (cmp i j)))=true;refine zmS (k (cmp i j)) ?_;generalize cmp i j=x0;induction x0 using Bool.casesOn
  ·exact h.2
  ·exact h.1
theorem zn2{α:Type}{cmp:Nat->Nat->Bool}{n:Nat}{ask:Nat->Nat->(Bool->Shared->Prop)->Shared->Prop}{s:Shared}(hask:∀i j K,i<n->j<n->K (cmp i j) s->ask i j K s):∀(t:KasT α) (Q:α->Shared->Prop),okb n t=true->Q (zse cmp t) s->t.kasWp ask Q s
 | .ret a,Q,_,q=>q
 | .ask i j k,Q,o,q=>by
  have o:=Bool.and_eq_true_iff.mp o;have o2:=Bool.and_eq_true_iff.mp o.1;have o3:=Bool.and_eq_true_iff.mp o2.1;refine hask i j _ (of_decide_eq_true o3.1) (of_decide_eq_true o3.2) ?_;refine zn2 hask (k (cmp i j)) Q ?_ q;generalize cmp i j=x0;induction x0 using Bool.casesOn
  ·exact o.2
  ·exact o2.2
theorem okb_4:okb 4 (kas_sort 4)=true:=by decide+kernel
theorem allb_4:allb (λa=>a.toList.all (·<4)) (kas_sort 4)=true:=by decide+kernel
theorem ziK{hp:Heap}:∀{vs:List Value} {ps:List (Int×Int)},za8 hp vs ps->∃fs,KatTups hp vs fs/\fs.length=vs.length/\∀v∈fs,∃i t,v=.int i t
 |[],[],_=>⟨[],trivial,rfl,by simp⟩
 |[],_::_,q=>q.elim
 |_::_,[],q=>q.elim
 |_::_,p::_,⟨⟨a,n,t,u,e,e'⟩,r⟩=>by
  refine zgt (ziK r) λfs h1 h2 h3=>?_;refine⟨.int p.1 t::fs,⟨⟨a,_,_,n,e,e',rfl,rfl,rfl⟩,h1⟩,by simp[h2],λv hv=>?_⟩;rcases List.mem_cons.mp hv with rfl|hv
  ·exact⟨_,_,rfl⟩
  ·exact h3 v hv
noncomputable def zi0(xs:List Value)(ps:List (Int×Int)):List Value:=(zse (λi j=>zal (ps.getD i (0,0)) (ps.getD j (0,0))) (kas_sort 4)).toList.map λi=>xs.getD i Value.none
noncomputable abbrev zd2(hp:Heap)(a:Addr)(xs:List Value):Heap:=((hp.update a (Obj.mapSeq λ_=>#[])).push (seqObj "tuple" xs.toArray 0)).push (seqObj "list" #[] 0)
theorem za8.but{hp hp':Heap}{a:Addr}{o:Obj}(ha:hp.get? a=some o)(hc:o.cls=.type "list")(hk:∀b o,b≠a->hp.get? b=some o->hp'.get? b=some o):∀{vs:List Value} {ps:List (Int×Int)},za8 hp vs ps->za8 hp' vs ps
 |[],[],_=>trivial
 |[],_::_,q=>q.elim
 |_::_,[],q=>q.elim
 |_::_,_::_,⟨⟨b,n,t,u,e,e'⟩,r⟩=>⟨⟨b,n,t,u,e,hk _ _ (λz=>by rw[z,ha]at e';have r0:=Option.some.inj e';subst r0;exact absurd hc (by simp)) e'⟩,r.but ha hc hk⟩
theorem zgD{a:Addr}{xs:List Value}{ps:List (Int×Int)}{n:Nat}{P:PySem.Fin->Shared->Prop}(ho:s.heap.get? a=some (seqObj "list" xs.toArray n))(h4:ps.length=4)(hp:za8 s.heap xs ps)
  (h:P (.done (.ret .none)) { s with heap:=sortedHeap s.heap a xs (zi0 xs ps).toArray }):
  wpAny (Md C) A (Builtin.«list.sort» ⟨[.ref a],[]⟩) P E s:=by
 have hx:=hp.length.trans h4
 have ha:a<s.heap.objs.size:=Heap.lt_size ho
 rw[list_sort_plain]
 refine wpAny_bind (listItems_at ho rfl ?_)
 refine wpAny_bind (listUpdate_at ho rfl ?_ (by rw[List.size_toArray,sizeLine_eq];lia) (Nat.zero_le _))
 obtain⟨e1,ho1⟩:∃e1,(s.heap.update a (Obj.mapSeq λ_=>#[])).get? a=some (seqObj "list" #[] e1):=⟨_,get?_update_seq ho λ_=>#[]⟩
 refine wpAny_bind (seqEpoch_at ho1 rfl ?_)
 refine wpAny_bind (wpAny_newTuple ?_ (by show xs.length<=_;rw[sizeLine_eq];lia))
 refine wpAny_bind (wpAny_newList ?_ (Nat.zero_le _))
 refine wpAny_holding ?_
 have ho6:(zd2 s.heap a xs).get? a=some (seqObj "list" #[] e1):=by rw[Heap.get?_push_ne _ _ _ (by rw[size_push',Heap.size_update];exact Nat.ne_of_lt (Nat.lt_succ_of_lt ha)),Heap.get?_push_ne _ _ _ (by rw[Heap.size_update];exact Nat.ne_of_lt ha)];exact ho1
 show wpAny (Md C) A _ P E { s with heap:=zd2 s.heap a xs }
 dsimp only
 have keep:∀b o,b≠a->s.heap.get? b=some o->(zd2 s.heap a xs).get? b=some o:=λb o hb e=>by refine Heap.get?_push_of_some _ (Heap.get?_push_of_some _ ?_);rw[Heap.get?_update_ne _ _ _ _ hb];exact e
 have hp6:za8 (zd2 s.heap a xs) xs ps:=hp.but ho rfl keep
 have hn2:¬ xs.toArray.size<2:=by rw[List.size_toArray];lia
 rw[if_neg hn2,if_neg hn2]
 refine zgt (ziK hp6) λfs hf1 hf2 hf3=>?_
 refine wpAny_bind (kat_kind (T:=.type "int") hf1 (by lia) (λv hv=>?_) (by decide) ?_)
 ·refine seeq (hf3 v hv) λi t=>?_;exact .of_pure rfl
 have ek:(tuples' (Value.type "int" != Value.type "tuple"))=tuples' true:=by rfl
 rw[ek]
 have est:SortSt.mk' (tuples' true) (xs.toArray.zip xs.toArray) #[] 7 none=kas_st (tuples' true) (PyProof.Rows.pairsOf xs) (List.toArray (List.range xs.length)):=by have e:=kas_range (PyProof.Rows.pairsOf xs);rw[pairsOf_size]at e;show SortSt.mk' (tuples' true) (PyProof.Rows.pairsOf xs) #[] 7 none=SortSt.mk' (tuples' true) ((List.toArray (List.range xs.length)).map (kas_item (PyProof.Rows.pairsOf xs))) #[] 7 none;rw[e]
 have ask:(kas_sort xs.length).kasWp (kas_cmp prog C.w A (tuples' true) (PyProof.Rows.pairsOf xs)) (λp s'=>p.toList.map (λi=>xs.getD i Value.none)=zi0 xs ps/\s'={ s with heap:=zd2 s.heap a xs }) { s with heap:=zd2 s.heap a xs }:=by rw[<-kas_ask_eq,hx];refine zn2 (cmp:=λi j=>zal (ps.getD i (0,0)) (ps.getD j (0,0))) (n:=4) (λi j K hi hj k=>?_) (kas_sort 4) _ okb_4 ⟨rfl,rfl⟩;refine zlz (hp6.get i (by omega)) λb n1 t u e e'=>?_;refine zlz (hp6.get j (by omega)) λb' n2 t' u' f f'=>?_;unfold kas_ask;rw[e,f];exact zsy e' f' k
 have run:=kas_runs (E:=E) (Q:=λ_ st' s'=>∃p:Array Nat,p.toList.map (λi=>xs.getD i Value.none)=zi0 xs ps/\p.size=xs.length/\arrOf st'=p.map (kas_item (PyProof.Rows.pairsOf xs))/\failedOf st'=none/\s'={ s with heap:=zd2 s.heap a xs })
  (by lia) (by lia) (λp' st' s' a1 a2 a3 a4=>⟨p',a4.1,a1,a2,a3,a4.2⟩) ask
 rw[<-est]at run
 refine wpAny_bind (wpAny_mono run ?_ λ_ _ e=>e)
 rintro⟨⟨⟩,st'⟩ s' ⟨p,hpo,hps,har,hfl,rfl⟩
 dsimp only
 have hout:(arrOf st').map (·.2)=(zi0 xs ps).toArray:=by apply Array.toList_inj.mp;rw[har,Array.map_map,Array.toList_map,<-hpo];exact List.map_congr_left λi _=>by show (kas_item (PyProof.Rows.pairsOf xs) i).2=_;rw[kas_item_eq]
 rw[hout]
 refine wpAny_bind (seqEpoch_at ho6 rfl ?_)
 refine wpAny_bind (listUpdate_at ho6 rfl ?_ (Nat.zero_le _) (by rw[<-hpo,List.size_toArray,List.length_map,Array.length_toList,hps,sizeLine_eq];lia))
 rw[hfl]
 simp only[bne_self_eq_false,Bool.false_eq_true,if_false]
 exact wpAny_pure h
theorem zqa{u:V}{p:Int×Int}(e:zg2 u=some p):u=.tup [.int p.1,.int p.2]:=
 be e λl e1 e=>be e λw e2 e=>be e λx e3 e=>be e λy e4 e=>sm e (by rw[zg5 e1,zku e2,zbA e3,zbA e4])
theorem zml{us:List V}:∀{ps:List (Int×Int)},Internal.pairsOf us=some ps->us=ps.map λp=>.tup [.int p.1,.int p.2]:=by
 induction us with
 |nil=>intro ps e;exact sm e rfl
 |cons u us ih=>intro ps e;exact be e λp e1 e=>map_e e λps' e'=>by rw[zqa e1,ih e'];rfl
theorem zom{us:List V}{xs:List Value}{ps:List (Int×Int)}(e:Internal.pairsOf us=some ps)(q:VFs prog C.w g us xs)(h4:ps.length=4):VFs prog C.w g ((zmv ps).map λp=>.tup [.int p.1,.int p.2]) (zi0 xs ps):=by
 have key:∀(is:List Nat),(∀i∈is,i<4)->VFs prog C.w g ((is.map λi=>ps.getD i (0,0)).map λp=>.tup [.int p.1,.int p.2]) (is.map λi=>xs.getD i Value.none):=by
  intro is;induction is with
  |nil=>exact λ_=>trivial
  |cons i is ih=>
   intro hi;rw[List.map_cons];refine rwl List.map_cons ?_;refine rwl List.map_cons ?_;refine ia ?_ (ih λj hj=>hi j (.tail _ hj));have hlt:i<ps.length:=by rw[h4];exact hi i (.head _)
   obtain⟨x,hx,r⟩:=q.get i (.tup [.int (ps.getD i (0,0)).1,.int (ps.getD i (0,0)).2]) (by rw[(zml e),List.getElem?_map,List.getElem?_eq_getElem hlt];simp[hlt]);have:xs.getD i Value.none=x:=by rw[List.getD_eq_getElem?_getD,hx];rfl
   refine rwl this ?_;exact r
 refine key _ λi hi=>?_;have:=zmS (cmp:=λi j=>zal (ps.getD i (0,0)) (ps.getD j (0,0))) (kas_sort 4) allb_4;simpa using List.all_eq_true.mp this i hi
theorem zoF{us:List V}{ps:List (Int×Int)}{p:Value}(e:Internal.pairsOf us=some ps)(h4:ps.length=4)(R:Rel prog C.w g as h s.heap)(hx:zah prog C.w g as (.lA us) p):
  wpAny (Md C) A (call (.builtin "sorted") [p]) (zay C g as s (.lA ((zmv ps).map λp=>.tup [.int p.1,.int p.2])) h) No s:=by
 refine seeeqaz hx.lst_inv λb items k ha ra=>?_
 have hP:=za8.of e ra R
 have hx4:=hP.length.trans h4
 refine Calls.call_function_entry kind_sorted plain_sorted entry_sorted (args_sorted1 _) ?_
 refine wpAny_bind (m:=checkCount "sorted" 1 1 _) (wpAny_pure ?_)
 refine wpAny_bind (collect_list (⟨_,R.frz _ _ ha,rfl,k,by simp⟩:s.heap.IsList b items.toList.toArray) ?_ (by rw[sizeLine_eq];lia))
 refine wpAny_bind (wpAny_newList ?_ (by rw[sizeLine_eq];lia))
 generalize hxs:items.toList=xs at*
 have hsz:((s.heap.push (seqObj "list" #[] 0)).update s.heap.objs.size (Obj.mapSeq (·++xs.toArray))).objs.size=s.heap.objs.size+1:=by rw[Heap.size_update,size_push']
 have hoL:(((s.heap.push (seqObj "list" #[] 0)).update s.heap.objs.size (Obj.mapSeq (·++xs.toArray))).push (seqObj "list" xs.toArray 0)).get? (s.heap.objs.size+1)=some (seqObj "list" xs.toArray 0):=by exact rwr hsz (Heap.get?_push_size _ rfl)
 have keep:∀b o,s.heap.get? b=some o->(((s.heap.push (seqObj "list" #[] 0)).update s.heap.objs.size (Obj.mapSeq (·++xs.toArray))).push (seqObj "list" xs.toArray 0)).get? b=some o:=λb o q=>by have hlt:b<s.heap.objs.size:=Heap.lt_size q;refine rwl (Heap.get?_push_ne _ _ _ (by rw[hsz];exact Nat.ne_of_lt (Nat.lt_succ_of_lt hlt))) ?_;refine rwl (Heap.get?_update_ne _ _ _ _ (Nat.ne_of_lt hlt)) ?_;refine rwl (Heap.get?_push_ne _ _ _ (Nat.ne_of_lt hlt)) ?_;exact q
 refine rwl hsz ?_
 refine wpAny_bind (wpAny_holding (wpAny_call_entry slot_list_sort ⟨_,hoL,rfl⟩ entry_list_sort (zgD (C:=C) hoL h4 (hP.keeps keep) ⟨_,rfl,?_⟩) (args_list_sort _)))
 refine wpAny_pure ⟨_,rfl,?_⟩
 refine xe (sortedAll_at s.heap xs (zi0 xs ps).toArray) λc hc=>?_
 obtain⟨r,x⟩:=R.alloc (a:=s.heap.objs.size+1) (o:=seqObj "list" (zi0 xs ps).toArray c) (h':=sortedAll s.heap xs (zi0 xs ps).toArray) (by
  generalize q:s.heap.get? (s.heap.objs.size+1)=x0;induction x0 using Option.casesOn with
  |none=>rfl
  |some o=>exact absurd (Heap.lt_size q) (Nat.not_lt.mpr (Nat.le_succ _))) hc (λ_ _=>sortedAll_old) s.toks
 refine zbT _ _ x r (.lA' (n:=c) (zat ..) ?_)
 exact(zom e ra h4).mono x.gle
end
end
section
open PySem PySem.W PyProof.Rows AutoSeq1
theorem zcq:Slot "range" "__reversed__" "range.__reversed__":=
 .of (owner:="range") (n:="__reversed__") (by rw[typeLookup_type,builtinLookup_eq_fast];kernel_rfl) (by decide+kernel) (by decide+kernel) (by decide+kernel)
  (by first|exact .inl (by decide+kernel)|exact .inr (by decide+kernel)) (by rw[isSubtype_type];kernel_rfl)
theorem zfO:entryFor table "range.__reversed__"=some Builtin.«range.__reversed__»:=entryFor_of_tree (by kernel_rfl)
theorem zgu(a:Value):argsOk "range.__reversed__" ⟨[a],[]⟩:=by unfold argsOk;kernel_rfl
theorem zgk:isSubtype (.type "range_iterator") (.type "reversed")=pure false:=by rw[isSubtype_type];kernel_rfl
section
variable {prog:Program}{w:World}{A:Around}{E:Value->Shared->Prop}{s:Shared}
noncomputable abbrev zos(a b c:Int)(t u v:Tok):Obj:=⟨.type "range",none,.fields #[.int a t,.int b u,.int c v],#[]⟩
noncomputable abbrev zg3(b:Int):Obj:={ cls:=.type "range_iterator",data:=.fields #[rawInt (b-1),rawInt b,rawInt (-1)] }
theorem zh0{r:Addr}{b:Int}{t u v:Tok}{Q:Value->Shared->Prop}(hr:s.heap.get? r=some (zos 0 b 1 t u v))(h0:0<=b)(h1:b<=1000)
  (h:Q (.ref s.heap.objs.size) { s with heap:=s.heap.push (zg3 b) }):wpAny (model prog w) A (call (.builtin "range.__reversed__") [.ref r]) Q E s:=by
 refine wpAny_call_entry zcq ⟨_,hr,rfl⟩ zfO ?_ (zgu _)
 refine wpAny_bind (wpAny_of_eq (a:=Value.ref r) rfl ?_)
 have hs:Builtin.Range.rangeSize 0 b 1=b:=by rw[rangeSize_one];split<;>lia
 refine wpAny_bind ?_
 refine wpAny_bind (wpAny_field hr rfl (x:=.int 0 t) rfl ?_)
 refine wpAny_bind (wpAny_of_eq (a:=some 0) rfl ?_)
 refine wpAny_bind (wpAny_field hr rfl (x:=.int b u) rfl ?_)
 refine wpAny_bind (wpAny_of_eq (a:=some b) rfl ?_)
 refine wpAny_bind (wpAny_field hr rfl (x:=.int 1 v) rfl ?_)
 refine wpAny_pure ?_
 dsimp only
 have hsm:(Builtin.Range.rangeFitsLong 0&&Builtin.Range.rangeFitsLong b&&Builtin.Range.rangeFitsLong 1&&Builtin.Range.rangeFitsLong (-1)&&Builtin.Range.rangeFitsLong (0-1)&&Builtin.Range.rangeFitsLong b)=true:=by
  have:Builtin.Range.rangeFitsLong b=true:=by unfold Builtin.Range.rangeFitsLong;simp only[Bool.and_eq_true,decide_eq_true_eq];lia
  refine rwl this ?_;decide
 refine rwl hs ?_;refine rwl hsm ?_
 refine rwl (by lia:(0:Int)+(b-1)*1=b-1) ?_
 refine wpAny_bind ?_
 exact wpAny_newObj_type (wpAny_pure ⟨_,rfl,h⟩)
theorem zdU{r:Addr}{b:Int}{t u v:Tok}{Q₁:Value->Shared->Prop}(hr:s.heap.get? r=some (zos 0 b 1 t u v))(h0:0<=b)(h1:b<=1000)
  (h:Q₁ (.ref s.heap.objs.size) { s with heap:=s.heap.push (zg3 b) }):
  codeAny (model prog w) A (.call (.builtin "reversed.__new__") ⟨[.type "reversed",.ref r],[]⟩) (wants Q₁ E) s:=by
 refine codeAny_of_tree ?_
 show wpAny _ A.in1 (do checkBuiltinCall "reversed.__new__" ⟨[.type "reversed",.ref r],[]⟩;again (.builtin "reversed.__new__" ⟨[.type "reversed",.ref r],[]⟩)) _ _ s
 refine wpAny_bind (wpAny_of_eq (F.newCall_reversed_1 _) (wpAny_pure ⟨plainId_quiet F.plain_reversed_new _,codeAny_builtin F.entry_reversed_new ?_⟩))
 rw[Around.under_plainId F.plain_reversed_new _]
 unfold Builtin.«reversed.__new__»
 refine wpAny_bind (wpAny_of_eq (newClass_reversed _) ?_)
 try dsimp only
 refine wpAny_bind (wpAny_of_eq (a:=()) (by first|rfl|kernel_rfl) ?_)
 refine wpAny_bind (wpAny_of_eq (a:=()) (by first|rfl|kernel_rfl) ?_)
 try dsimp only
 refine wpAny_bind (wpAny_specialOf (T:="range") ⟨_,hr,rfl⟩ zcq.lookup ?_)
 try dsimp only
 refine wpAny_bind (wpAny_of_eq (zcq.bind _) ?_)
 try dsimp only
 first
 |rw[if_neg (show ¬ ((Value.builtin "range.__reversed__"==Value.none)=true) from Bool.false_ne_true)]
 | (show wpAny _ _ (if(Value.builtin "range.__reversed__"==Value.none)=true then _ else _) _ _ _;rw[if_neg (show ¬ ((Value.builtin "range.__reversed__"==Value.none)=true) from Bool.false_ne_true)])
 refine wpAny_bind (wpAny_rule ?_)
 refine wpAny_bind (m:=runValue (.call (.builtin "range.__reversed__") ⟨[.ref r],[]⟩)) (show wpAny _ _ (call (.builtin "range.__reversed__") [.ref r]) _ _ _ from zh0 hr h0 h1 ?_)
 first
 |exact wpAny_pure h
 |exact wpAny_bind (wpAny_pure (wpAny_pure h))
theorem zdS{r:Addr}{b:Int}{t u v:Tok}{Q:Value->Shared->Prop}(hr:s.heap.get? r=some (zos 0 b 1 t u v))(h0:0<=b)(h1:b<=1000)
  (h:Q (.ref s.heap.objs.size) { s with heap:=s.heap.push (zg3 b) }):wpAny (model prog w) A (call (.type "reversed") [.ref r]) Q E s:=by
 refine callType_other (U:="range_iterator") (Q₁:=λobj sA=>obj=.ref s.heap.objs.size/\sA={ s with heap:=s.heap.push (zg3 b) }) (by decide+kernel) F.create_reversed ⟨_,_,F.mro_reversed⟩ F.made_reversed zgk (F.typeCall_reversed_1 _) (zdU hr h0 h1 ⟨rfl,rfl⟩) ?_
 rintro obj sA ⟨rfl,rfl⟩
 exact ia ⟨_,Heap.get?_push_size _ rfl,rfl⟩ h
set_option tactic.hygienic true in
theorem zdJ(l:Addr)(items:Array Value)(n:Nat):
  Meets (Builtin.«enumerate.__new__» ⟨[.type "enumerate",.ref l],[]⟩) (λ_ R s=>s.heap.get? l=some { cls:=.type "tuple",dict:=none,data:=.seq items n,slots:=#[] }/\
   R (.ok (.ret (.ref (s.heap.push { cls:=.type "tuple_iterator",data:=.fields #[.ref l,.int 0 0] }).objs.size)))
    { s with heap:=(s.heap.push { cls:=.type "tuple_iterator",data:=.fields #[.ref l,.int 0 0] }).push { cls:=.type "enumerate",data:=.fields #[.none,.bool false,.ref s.heap.objs.size,rawInt 0,.none,.none] } }):=
 .of_wp λprog w A R s h=>by
  obtain⟨hp,g,d,tk,os⟩:=s;obtain⟨hl,h⟩:=h;have hsub:=sub_enumerate;have hL:Heap.IsTuple (Shared.heap ⟨hp,g,d,tk,os⟩) l items:=⟨_,hl,rfl,n,rfl⟩;wp_walk using wpAny_loadPart' hl;refine wpAny_stack_any λst=>wpAny_pure ?_;split
  ·rename_i c _ _ _ _ _;generalize (c==Value.type "enumerate")=x0;induction x0 using Bool.casesOn
   ·wp_walk using wpAny_loadPart' hl,wpAny_pyIter_tuple hL;exact⟨_,rfl,h⟩
   ·wp_walk using wpAny_loadPart' hl,wpAny_pyIter_tuple hL;exact⟨_,rfl,h⟩
  ·wp_walk using wpAny_loadPart' hl,wpAny_pyIter_tuple hL;exact⟨_,rfl,h⟩
theorem zcP{it l:Addr}{i:Nat}{items:Array Value}{x:Value}{Q:Value->Shared->Prop}(hit:s.heap.IsTupleIter it l i)
  (hl:s.heap.IsTuple l items) (hx:items[i]?=some x)
  (hQ:∀h',h'.IsTupleIter it l (i+1)->Heap.SameBut it s.heap h'->Q x { s with heap:=h' }):
  wpAny (model prog w) A (Builtin.SmallTypes.nextOf (.ref it)) Q E s:=by
 refine zgt (id hit) λo ho hc hd=>?_
 refine xeaae hl λol hol _ nl hdl=>?_
 unfold Builtin.SmallTypes.nextOf
 refine wpAny_bind (wpAny_callSpecial?_slot (name:=Str.ofString "__next__") hit.typeIs F.slot_tuple_iterator_next
  (wpAny_call_entry F.slot_tuple_iterator_next hit.typeIs F.entry_tuple_iterator_next ?_ (F.args_tuple_iterator_next_1 _)))
 show wpAny _ _ (field (.ref it) 0 >>= _) _ _ s
 refine wpAny_bind (wpAny_field ho hd (x:=.ref l) rfl ?_)
 show wpAny _ _ (if(Value.ref l==Value.none)=true then _ else _) _ _ s
 rw[if_neg (show ¬ ((Value.ref l==Value.none)=true) from Bool.false_ne_true)]
 show wpAny _ _ (field (.ref it) 1 >>= _) _ _ s
 refine wpAny_bind (wpAny_field ho hd (x:=.int i 0) rfl ?_)
 show wpAny _ _ (seqItems? (.ref l) >>= _) _ _ s
 refine wpAny_bind (wpAny_seqItems hol hdl ?_)
 simp only[Int.toNat_natCast,hx]
 refine wpAny_bind (wpAny_setField ho hd (by simp) (wpAny_pure ⟨x,rfl,wpAny_pure (hQ _ ?_ (Heap.SameBut.update ..))⟩))
 exact⟨_,Heap.get?_update_self _ ho (Obj.isFreed_of_fields (Obj.data_mapFields hd _)),(Obj.cls_mapFields ..).trans hc,by rw[Obj.data_mapFields hd];simp[rawInt]⟩
theorem zcY{it l:Addr}{i:Nat}{items:Array Value}{Q:Value->Shared->Prop}(hh:A.handled=none)
  (hit:s.heap.IsTupleIter it l i) (hl:s.heap.IsTuple l items) (hx:items[i]?=none)
  (hE:∀h' e,Heap.ExtBut it s.heap h'->(∃o,h'.get? e=some o/\o.cls=.type "StopIteration")->E (.ref e) { s with heap:=h' }):
  wpAny (model prog w) A (Builtin.SmallTypes.nextOf (.ref it)) Q E s:=by
 refine zgt (id hit) λo ho hc hd=>?_
 refine xeaae hl λol hol _ nl hdl=>?_
 unfold Builtin.SmallTypes.nextOf
 refine wpAny_bind (wpAny_callSpecial?_slot (name:=Str.ofString "__next__") hit.typeIs F.slot_tuple_iterator_next
  (wpAny_call_entry F.slot_tuple_iterator_next hit.typeIs F.entry_tuple_iterator_next ?_ (F.args_tuple_iterator_next_1 _)))
 show wpAny _ _ (field (.ref it) 0 >>= _) _ _ s
 refine wpAny_bind (wpAny_field ho hd (x:=.ref l) rfl ?_)
 show wpAny _ _ (if(Value.ref l==Value.none)=true then _ else _) _ _ s
 rw[if_neg (show ¬ ((Value.ref l==Value.none)=true) from Bool.false_ne_true)]
 show wpAny _ _ (field (.ref it) 1 >>= _) _ _ s
 refine wpAny_bind (wpAny_field ho hd (x:=.int i 0) rfl ?_)
 show wpAny _ _ (seqItems? (.ref l) >>= _) _ _ s
 refine wpAny_bind (wpAny_seqItems hol hdl ?_)
 simp only[Int.toNat_natCast,hx]
 refine wpAny_bind (wpAny_rule (wpAny_bind (wpAny_setField ho hd (by simp) ?_)))
 show wpAny _ _ (newExc (.type "StopIteration") [] >>= _) _ _ _
 refine wpAny_bind ?_
 simp only[newExc,newTuple]
 refine wpAny_bind (wpAny_newObj_type ?_ (by size_fits))
 refine wpAny_bind (m:=firstArgMember _ _) (wpAny_of_eq (a:=Value.none) (by first|rfl| (simp only[firstArgMember];rfl)) ?_)
 refine wpAny_newObj_type ?_ (by size_fits)
 simp only[raiseNew.eq_def]
 refine wpAny_bind (wpAny_handled ?_)
 first|rw[show A.in1.handled=none from hh]|rw[hh]
 refine wpAny_bind (wpAny_pure (wpAny_throw ?_))
 exact hE _ _ (((Heap.SameBut.update ..).extBut.push _).push _) ⟨_,Heap.get?_push_size _ rfl,rfl⟩
theorem Draws.tuple{prog:Program}{w:World}{A:Around}(hh:A.handled=none)(it l:Addr)(hne:l≠it)(items:Array Value):
  Draws prog w A it [it,l] items.size (λi v=>items[i]?=some v) (λi h=>h.IsTupleIter it l i/\h.IsTuple l items) where
 live:=λ_ _ st=>let ⟨o,ho,_⟩:=st.1;⟨o,ho⟩
 frame:=λ_ _ _ st hk=>⟨st.1.at λo e=>hk it (by simp) o e,by obtain⟨o,ho,r⟩:=st.2;exact⟨o,hk l (by simp) o ho,r⟩⟩
 item:=λi s Q E hi st hQ=>by refine zcP st.1 st.2 (x:=items[i]) (by simp[hi]) λh' hit' hs'=>?_;exact hQ _ h' s.toks (by simp[hi]) ⟨hit',st.2.extBut hs'.extBut hne⟩ hs'
 done:=λs Q E st hE=>zcY hh st.1 st.2 (by simp) hE
theorem zdI{l:Addr}{items:Array Value}{n:Nat}{Q:Value->Shared->Prop}
  (hl:s.heap.get? l=some { cls:=.type "tuple",dict:=none,data:=.seq items n,slots:=#[] })
  (h:∀h',IsEnum h' (s.heap.objs.size+1) s.heap.objs.size 0 .none->h'.IsTupleIter s.heap.objs.size l 0->h'.objs.size=s.heap.objs.size+2->
   (∀b o,s.heap.get? b=some o->h'.get? b=some o)->Q (.ref (s.heap.objs.size+1)) { s with heap:=h' }):
  wpAny (model prog w) A (call (.type "enumerate") [.ref l]) Q E s:=by
 refine callType_new F.called_enumerate (by decide) (F.typeCall_enumerate_1 _) (F.newCall_enumerate_1 _) (λobj=>F.args_object_init_2 obj _) F.entry_enumerate_new
  (zdJ l items n) ⟨hl,?_⟩
 have hz:(s.heap.push { cls:=.type "tuple_iterator",data:=.fields #[.ref l,.int 0 0] }).objs.size=s.heap.objs.size+1:=Heap.size_push ..
 show _/\_
 rw[hz]
 have he:IsEnum ((s.heap.push { cls:=.type "tuple_iterator",data:=.fields #[.ref l,.int 0 0] }).push
   { cls:=.type "enumerate",data:=.fields #[.none,.bool false,.ref s.heap.objs.size,rawInt 0,.none,.none] }) (s.heap.objs.size+1) s.heap.objs.size 0 .none:=by
  have:=Heap.get?_push_size (s.heap.push { cls:=.type "tuple_iterator",data:=.fields #[.ref l,.int 0 0] })
   (o:={ cls:=.type "enumerate",data:=.fields #[.none,.bool false,.ref s.heap.objs.size,rawInt 0,.none,.none] }) rfl
  rw[hz]at this;exact this
 refine⟨⟨_,he,rfl⟩,h _ he ⟨_,Heap.get?_push_of_some _ (Heap.get?_push_size _ rfl),rfl,rfl⟩ (by rw[Heap.size_push,hz]) λb o x=>Heap.get?_push_of_some _ (Heap.get?_push_of_some _ x)⟩
end
end
section
open PySem PySem.W PyProof.Rows
section
variable {C:Cx}{l:Nat}{sc:Scope}{Γ Γw:Gam}{vs vs1 vs':Vs}{A:Around}{env:Env}{g:Gm}{as:List Addr}{h hJ hO h':H}{s:Shared}{fl:Fl}
theorem zo1{f:Str}{T:String}{p pos:Pos}{e:Expr}{es:List Expr}{us:List V}{Q:Value->Shared->Prop}(hf:sc.names.lookup f=some .globalImplicit)(hd:(f==("__debug__":Str))=false)(hm:f∈zci)(hn:f≠"__name__")
  (hb:bootBuiltins f=some (.type T)) (hst:∀env,starEach (e::es) env=(false,eval e env)::starEach es env) (hpl:∀env,(backTo pos (starEach es env)).any (·.1)=false)
  (H1:EvL C l sc Γ vs (e::es) h us hJ) (a:At C l sc Γ vs A env g as h s)
  (H2:∀gB asA sA xs,Ext g as s gB asA sA->Rel prog C.w gB asA hJ sA.heap->xs.length=us.length->(∀(i:Nat) v,us[i]?=some v->∃x,xs[i]?=some x/\zah prog C.w gB asA v x)->wpAny (Md C) A (call (.type T) xs) Q No sA):
  wpAny (Md C) A (eval (.Call (.Name f p) (e::es) [] pos) env) Q No s:=by
 refine wpAny_Call_NameR (zhJ a hf hd hm hn hb ?_)
 refine callWith_type1 (wpAny_mono (H1 A env g as s pos a) (λxs sA z=>?_) λ_ _ z=>z) (hst env) (hpl env)
 refine zbp z λgB asA xA rB hl hv=>?_
 exact H2 gB asA sA xs xA rB hl hv
theorem zdx(R:Rel prog C.w g as h s.heap){I:Addr}{hp:Heap}{o:Obj}(hn:s.heap.get? I=none)(ho:hp.get? I=some o):Side g as I hp:=by
 refine⟨?_,λq=>?_,_,ho⟩
 ·generalize e:g I=x0;induction x0 using Option.casesOn with
  |none=>rfl
  |some o=>have:=R.frz I o e;rw[hn]at this;exact nos this
 ·obtain⟨o,e⟩:=R.ex I q;rw[hn]at e;exact nos e
theorem Ex.forsRev{t e:Expr}{p rp:Pos}{body orelse:List Stmt}{pos:Pos}{b:Int}{tA:List Nat}{bd ob:Vs×H->Option (Fl×Vs×H)}
  (hf:sc.names.lookup ("reversed":Str)=some .globalImplicit) (hst:∀env,starEach [e] env=(false,eval e env)::starEach [] env)
  (ht:zbG Γw t=some tA) (h0:0<=b) (h1:b<=1000)
  (H1:EvL C l sc Γ vs [e] h [.rng 0 b 1] hJ)
  (HB:∀vs h fl vs' h',bd (vs,h)=some (fl,vs',h')->Exs C l sc Γ Γw body vs h fl vs' h')
  (HO:∀vs h fl vs' h',ob (vs,h)=some (fl,vs',h')->Exs C l sc Γ Γw orelse vs h fl vs' h')
  (hw:zcZ ob (zbZ bd tA ((List.range b.toNat).map λ(i:Nat)=>.int (b-1+(i:Int)* -1)) (vs,hJ))=some (fl,vs',h')):
  Ex C l sc Γ Γw (.For t (.Call (.Name ("reversed":Str) p) [e] [] rp) body orelse pos) vs h fl vs' h':=by
 intro A env g as s a
 refine wpAny_For (zo1 (T:="reversed") hf (by decide) (by decide) (by decide) boot_reversed hst (λenv=>rfl) H1 a.at_ λgB asA sA xs xA rB hl hv=>?_) (λx=>rfl)
 refine seqz (zio hl hv) λx q=>?_
 refine seeeeqz q.rng_inv λr t1 u1 w1 hr=>?_
 refine zdS (rB.frz _ _ hr) h0 h1 ?_
 have hh:=a.at_.aok.1
 have hn:=zas sA.heap
 refine xa (rB.kept (s:=sA) (h':=sA.heap.push (zg3 b)) (λ_ _ e=>Heap.get?_push_of_some _ e) sA.toks) λrC xB=>?_
 have W:=Walks.range (prog:=prog) (w:=C.w) hh sA.heap.objs.size (b-1) (-1) b.toNat
 have hlen:((List.range b.toNat).map λ(i:Nat)=>V.int (b-1+(i:Int)* -1)).length=b.toNat:=by simp
 have I:zlA C A gB sA.heap.objs.size ((List.range b.toNat).map λ(i:Nat)=>V.int (b-1+(i:Int)* -1)) true [sA.heap.objs.size] (λi v=>∃t,v=.int (b-1+i* -1) t) (λi h=>IsRangeIter h sA.heap.objs.size (b-1+(i:Nat)* -1) ((b.toNat:Int)-(i:Nat)) (-1)):=by
  refine iaaaa (by rw[hlen];exact W) (λc hc=>.inl (by simpa using hc)) (λi y hlt hy=>?_) (λ_ i s' target v Q E st q=>?_) (λ_ _ st=>⟨_,st⟩)
  ·refine seq hy λt'=>?_;rw[hlen]at hlt;exact iea (.int (b-1+i* -1)) (by simp[hlt]) (⟨t',rfl⟩)
  ·exact zf2 st rfl rfl (by decide) target v Q E q
 have st:IsRangeIter (sA.heap.push (zg3 b)) sA.heap.objs.size (b-1+(0:Nat)* -1) ((b.toNat:Int)-(0:Nat)) (-1):=by simp only[(Int.toNat_of_nonneg h0),Int.natCast_zero,Int.zero_mul,Int.add_zero,Int.sub_zero];exact(Heap.get?_push_size _ rfl)
 refine W.self 0 _ _ _ st ?_
 refine codeAny_mono (zkX (K:=⟨C,l,sc,Γ,Γw,A,env,Own env Γw,gB,asA,sA,gB,sA.heap.objs.size,_,true,_,_,_⟩) (E:=λe s'=>cameBackBy (Md C) A env No e s') ⟨I,hn,(zfe (a.step xA rB).at_ hn),λ_ q=>q⟩ rfl ht (.inl rfl) HB HO ⟨xB.toS,(a.step xA rB).step xB rC,.refl _,zdx rB hn (Heap.get?_push_size _ rfl),st⟩ hw) λr s' z=>?_
 induction r using Except.casesOn with
 |ok f=>exact zc1.after xA.toS z
 |error e=>exact z
end
section
variable {C:Cx}{l:Nat}{sc:Scope}{Γ Γw:Gam}{vs vs1 vs':Vs}{A:Around}{env:Env}{g g':Gm}{as as':List Addr}{h hJ hO h':H}{s s':Shared}{fl:Fl}
theorem Rel.butP{N:Addr->Prop}{hp:Heap}(R:Rel prog C.w g as h s.heap)(hN:∀b,N b->g b=none/\b ∉ as)(hk:∀b o,¬ N b->s.heap.get? b=some o->hp.get? b=some o):Rel prog C.w g as h hp:=by
 have ne:∀b∈as,¬ N b:=λb hb q=>(hN b q).2 hb;refine⟨λb o e=>?_,R.len,λi b o e q=>(R.ob i b o e q).keep (.refl g) (za0 as) λo' e'=>hk b o' (ne b (List.mem_of_getElem? e)) e',R.off,R.nd,λb hb=>let ⟨o,e⟩:=R.ex b hb;⟨o,hk b o (ne b hb) e⟩⟩;have:¬ N b:=λq=>by have:=(hN b q).1;rw[e]at this;exact nos (Eq.symm this)
 exact hk b o this (R.frz b o e)
theorem AtS.butP{N:Addr->Prop}{hp:Heap}(a:AtS C l sc Γ Γw vs A env g as h s)(hN:∀b,N b->g b=none/\b ∉ as/\¬ zij env b)(hk:∀b o,¬ N b->s.heap.get? b=some o->hp.get? b=some o)(tk:Nat):
  AtS C l sc Γ Γw vs A env g as h { s with heap:=hp,toks:=tk }:=by
 refine zaj a.at_.frm.ns λm cm hn hc hv=>?_
 refine⟨⟨a.at_.ok,a.at_.aok,a.at_.eok,a.at_.bas,a.at_.rel.butP (λb q=>⟨(hN b q).1,(hN b q).2.1⟩) hk,⟨m,cm,hn.at λo e=>hk _ _ (λq=>(hN _ q).2.2 (.inl rfl)) e,λx c e=>?_,hv⟩,a.at_.frm.gL,a.at_.frm.aL,a.at_.frm.aC,a.at_.frm.nm⟩,a.own⟩
 refine xea (hc x c e) λo ho hd=>?_
 exact iea o (hk _ _ (λq=>(hN _ q).2.2 (.inr ⟨x,e⟩)) ho) hd
theorem ExtS.butP{B N:Addr->Prop}{hp:Heap}(x:ExtS B g as s g' as' s')(h0:∀b,N b->s.heap.get? b=none)(hk:∀b o,¬ N b->s'.heap.get? b=some o->hp.get? b=some o)(tk:Nat):
  ExtS B g as s g' as' { s' with heap:=hp,toks:=tk }:=by
 have ne:∀b o,s.heap.get? b=some o->¬ N b:=λb o e q=>by rw[h0 b q]at e;exact nos e
 refine⟨x.gle,x.pre,x.new,?_,λb o h1 h2 e=>hk b o (ne b o e) (x.keep b o h1 h2 e),λb o e=>let ⟨o',e'⟩:=x.there b o e;⟨o',hk b o' (ne b o e) e'⟩,x.gnew⟩
 refine seeq x.same λh t=>?_
 exact iee _ _ rfl
set_option tactic.hygienic true in
theorem AtS.adopt{T:Addr}{o:Obj}(a:AtS C l sc Γ Γw vs A env g as h s)(d:Side g as T s.heap)(hM:¬ zij env T)(e:s.heap.get? T=some o):AtS C l sc Γ Γw vs A env (zby g T o) as h s:=by
 have le:=zbF (o:=o) d.gn;have off:∀b,b≠T->g b=none->zby g T o b=none:=λb hb q=>by unfold zby;exact rwl (if_neg hb) q
 refine zaj a.at_.frm.ns λm cm hn hc hv=>?_;refine⟨⟨a.at_.ok,a.at_.aok,a.at_.eok,a.at_.bas.trans le,⟨λb o' q=>?_,a.at_.rel.len,λi b o' q r=>(a.at_.rel.ob i b o' q r).keep le (za0 as) λ_ e=>e,λi b o' q r z=>off b (λw=>d.na (w▸List.mem_of_getElem? q)) (a.at_.rel.off i b o' q r z),a.at_.rel.nd,a.at_.rel.ex⟩,
  ⟨⟨m,cm,hn,hc,λx i v h1 h2 h3=>?_⟩,off _ (λq=>hM (.inl q.symm)) a.at_.frm.gL,a.at_.frm.aL,a.at_.frm.aC,a.at_.frm.nm⟩⟩,⟨λx i hx=>?_,a.own.inj,a.own.ap⟩⟩
 ·unfold zby at q;split at q
  ·rename_i hb;have r0:=Option.some.inj q;subst r0;exact rwl hb e
  ·exact a.at_.rel.frz b o' q
 ·rcases hv x i v h1 h2 h3 with ⟨k,y,hy,r⟩|⟨k,c,y,hy,r⟩
  ·exact .inl ⟨k,y,hy,r.mono le (za0 as)⟩
  ·exact .inr ⟨k,c,y,hy,r.mono le (za0 as)⟩
 ·refine xa (a.own.sub x i hx) λz1 z3=>?_;refine⟨z1,z3.elim .inl λ⟨k,c,hc,hg⟩=>.inr ⟨k,c,hc,off c (λq=>hM (.inr ⟨x,q▸hc⟩)) hg⟩⟩
set_option tactic.hygienic true in
theorem ExtS.adopt{B:Addr->Prop}{T:Addr}{o:Obj}(x:ExtS B g as s g' as' s')(d:g' T=none)(h0:s.heap.get? T=none):ExtS B g as s (zby g' T o) as' s':=by
 refine⟨x.gle.trans (zbF d),x.pre,x.new,x.same,x.keep,x.there,λb o' q=>?_⟩;unfold zby at q;split at q
 ·rename_i hb;exact rwl hb (.inr (.inl h0))
 ·exact x.gnew b o' q
structure En (K:LK) (it L:Addr) (i:Nat) (old:Value) (g:Gm) (as:List Addr) (vs:Vs) (h:H) (s:Shared):Prop where
 x:ExtS (Own K.env K.Γw) K.g0 K.as0 K.sF g as s
 a:AtS K.C K.l K.sc K.Γ K.Γw vs K.A K.env g as h s
 hg:Gle K.gW g
 de:Side g as K.I s.heap
 di:Side g as it s.heap
 he:IsEnum s.heap K.I it (i:Nat) old
 hit:s.heap.IsTupleIter it L i
structure EnOk (K:LK) (it:Addr):Prop where
 h0e:K.sF.heap.get? K.I=none
 h0i:K.sF.heap.get? it=none
 hMe:¬ zij K.env K.I
 hMi:¬ zij K.env it
 hei:K.I≠it
inductive EInv (K:LK) (it L:Addr) (R:Nat->Vs->H->Prop) (n:Nat) (s:Shared):Prop
 |mk (i:Nat) (old:Value) (g:Gm) (as:List Addr) (vs:Vs) (h:H) (E:En K it L i old g as vs h s) (hi:i<=K.its.length) (r:R i vs h) (e:n=K.its.length+1-i):EInv K it L R n s
section
variable {K:LK}{it L:Addr}{i n:Nat}{old x:Value}{R:Nat->Vs->H->Prop}
theorem En.ext(k:EnOk K it)(E:En K it L i old g as vs h s)(x:ExtS (Own K.env K.Γw) g as s g' as' s')(a:AtS K.C K.l K.sc K.Γ K.Γw vs1 K.A K.env g' as' hJ s'):En K it L i old g' as' vs1 hJ s':=
 have eo:¬ Own K.env K.Γw K.I:=λq=>k.hMe q.mine
 have io:¬ Own K.env K.Γw it:=λq=>k.hMi q.mine
 ⟨E.x.trans x,a,E.hg.trans x.gle,E.de.ext eo x,E.di.ext io x,x.keep _ _ E.de.na eo E.he,E.hit.at λo e=>x.keep _ _ E.di.na io e⟩
theorem EInv.next(E:En K it L (i+1) old g as vs h s)(hlt:i<K.its.length)(r:R (i+1) vs h)(e:n=K.its.length+1-i):∃m,m<n/\EInv K it L R m s:=
 ⟨K.its.length+1-(i+1),e▸Nat.sub_lt_sub_left (Nat.lt_succ_of_lt hlt) (Nat.lt_succ_self i),.mk _ _ _ _ _ _ E hlt r rfl⟩
theorem En.turned(k:EnOk K it)(E:En K it L i old g as vs h s){hp hO:Heap}{tk:Nat}{o:Obj}(hT:hp.get? s.heap.objs.size=some o)(hkeep:∀b o,b≠K.I->b≠it->s.heap.get? b=some o->hp.get? b=some o)(hs2:Heap.SameBut K.I hp hO)(he2:IsEnum hO K.I it ((i+1:Nat):Int) x)(hit:hp.IsTupleIter it L (i+1)):
  Gle g (zby g s.heap.objs.size o)/\En K it L (i+1) x (zby g s.heap.objs.size o) as vs h (mvS s hO tk):=by
 have kp:∀b o,¬ (b=K.I\/b=it)->s.heap.get? b=some o->hO.get? b=some o:=λb o nb e=>(hs2.2 b λq=>nb (.inl q)).trans (hkeep b o (λq=>nb (.inl q)) (λq=>nb (.inr q)) e)
 have nT:s.heap.get? s.heap.objs.size=none:=zas _
 have hTe:s.heap.objs.size≠K.I:=λq=>by obtain⟨o,e⟩:=E.de.ex;rw[<-q,nT]at e;exact nos e
 have hTi:s.heap.objs.size≠it:=λq=>by obtain⟨o,e⟩:=E.di.ex;rw[<-q,nT]at e;exact nos e
 have hT2:hO.get? s.heap.objs.size=some o:=(hs2.2 _ hTe).trans hT
 have dT:Side g as s.heap.objs.size hO:=zdx E.a.at_.rel nT hT2
 have T0:K.sF.heap.get? s.heap.objs.size=none:=by
  cases q:K.sF.heap.get? s.heap.objs.size with
  |none=>rfl
  |some o=>obtain⟨o',e⟩:=E.x.there _ o q;rw[nT]at e;exact nos e
 refine⟨zbF dT.gn,(E.x.butP (N:=λb=>b=K.I\/b=it) (λb q=>q.elim (λq=>q▸k.h0e) λq=>q▸k.h0i) kp tk).adopt dT.gn T0,
  (E.a.butP (λb q=>q.elim (λq=>q▸⟨E.de.gn,E.de.na,k.hMe⟩) λq=>q▸⟨E.di.gn,E.di.na,k.hMi⟩) kp tk).adopt dT (zfe E.a.at_ nT) hT2,E.hg.trans (zbF dT.gn),⟨?_,E.de.na,_,he2⟩,⟨?_,E.di.na,let ⟨o,e,_⟩:=(hit.at λo e=>(hs2.2 it (Ne.symm k.hei)).trans e);⟨o,e⟩⟩,he2,(hit.at λo e=>(hs2.2 it (Ne.symm k.hei)).trans e)⟩
 ·unfold zby;exact rwl (if_neg (Ne.symm hTe)) E.de.gn
 ·unfold zby;rw[if_neg (Ne.symm hTi)];exact E.di.gn
theorem zpF(k:EnOk K it){es:List Expr}{kk:Nat}{tp:Pos}{body orelse:List Stmt}{us:List V}{tA:List Nat}{bd ob:Vs×H->Option (Fl×Vs×H)}{items:Array Value}{m:Nat}(ht:zbG K.Γw (.Tuple es kk tp)=some tA)
  (HB:∀vs h fl vs' h',bd (vs,h)=some (fl,vs',h')->Exs K.C K.l K.sc K.Γ K.Γw body vs h fl vs' h') (HO:∀vs h fl vs' h',ob (vs,h)=some (fl,vs',h')->Exs K.C K.l K.sc K.Γ K.Γw orelse vs h fl vs' h')
  (hL:K.gW L=some (zie items m)) (hu:VFs prog K.C.w K.gW us items.toList) (hits:(List.range us.length).zipWith (λ(i:Nat) v=>V.tup [.int i,v]) us=K.its) (E:En K it L 0 old g as vs h s)
  (hw:zcZ ob (zbZ bd tA K.its (vs,h))=some (fl,vs',h')) {Er:Value->Shared->Prop}:
  codeAny (Md K.C) K.A (.forLoop (.Tuple es kk tp) (.ref K.I) body orelse K.env) (λr s'=>match r with| .ok f=>zc1 K.C K.l K.sc K.Γ K.Γw K.A K.env K.g0 K.as0 K.sF fl vs' h' f s'| .error e=>Er e s') s:=by
 have hlen:us.length=items.size:=by simpa using hu.length
 have hil:K.its.length=us.length:=by rw[<-hits];simp
 refine codeAny_forLoop_any (EInv K it L λi vs h=>zcZ ob (zbZ bd tA (K.its.drop i) (vs,h))=some (fl,vs',h')) (λn s q=>?_) (K.its.length+1) (.mk 0 _ _ _ _ _ E (Nat.zero_le _) hw rfl)
 match q with
 | .mk i old g as vs h E hi hk e=>
  have hLi:L≠it:=λq=>by have:=E.hg _ _ hL;rw[q,E.di.gn]at this;exact nos this
  have hLe:L≠K.I:=λq=>by have:=E.hg _ _ hL;rw[q,E.de.gn]at this;exact nos this
  have hLt:s.heap.IsTuple L items:=⟨_,E.a.at_.rel.frz _ _ (E.hg _ _ hL),rfl,m,rfl⟩;have D:=Draws.tuple (prog:=prog) (w:=K.C.w) (A:=K.A.in1) E.a.at_.aok.1 it L hLi items;by_cases hlt:i<K.its.length
  ·refine wpAny_pyNext_enum_itemD D E.he ⟨E.hit,hLt⟩ (by rw[<-hlen,<-hil];exact hlt) k.hei (by simp[k.hei];exact Ne.symm hLe) λx hp tk hx heo hst hT hz hkeep=>?_;have hi':i<us.length:=by rw[<-hil];exact hlt
   refine xea (hu.get i us[i] (by simp[hi'])) λy hy q=>?_;have hxy:y=x:=by rw[<-Array.getElem?_toList,hy]at hx;exact Option.some.inj hx
   subst hxy;have hd:K.its.drop i=V.tup [.int i,us[i]]::K.its.drop (i+1):=by
    have:K.its[i]?=some (V.tup [.int i,us[i]]):=by rw[<-hits,List.getElem?_zipWith];simp[hi']
    obtain⟨hl,e'⟩:=List.getElem?_eq_some_iff.mp this;exact rwr e' (List.drop_eq_getElem_cons hl)
   rw[hd,lo_s]at hk;refine wpAny_letOwnedTupleGo_enum (i:=(i:Int)+1) heo λhO he2 hs2=>?_;refine xa (E.turned k (tk:=tk+1) hT hkeep hs2 he2 hst.1) λle E3=>?_;generalize eb:zbC vs tA (V.tup [.int i,us[i]])=o at hk;induction o using Option.casesOn with
   |none=>exact nos hk
   |some vs₂=>refine wpAny_mono (zbW E3.a ht eb (.tup' (zat ..) ⟨⟨tk,rfl⟩,q.mono (E.hg.trans le),trivial⟩)) (λ_ sB z=>zc0 z λgF as4 xD aE=>?_) λ_ _ z=>z.elim;have E4:=E3.ext k xD aE;exact zel HB aE hk (λg' as' vs₂ hO s' x a hk=>have z:=EInv.next (R:=λi vs h=>zcZ ob (zbZ bd tA (K.its.drop i) (vs,h))=some (fl,vs',h')) (E4.ext k x a) hlt hk e;⟨z,z⟩) (λs' p=>p.after E4.x) λs' v p=>p.after E4.x
  ·refine zdy λX kX=>?_;have hin:i=K.its.length:=by omega
   subst hin;rw[List.drop_length]at hk;refine kX ?_;refine wpAny_pyNext_enum_endD D E.he (by rw[<-hlen,<-hil];exact⟨E.hit,hLt⟩) λhp hkeep=>?_;exact zaZ (wpAny_mono (HO _ _ _ _ _ hk _ _ _ _ _ (E.a.but E.di.gn E.di.na k.hMi hkeep s.toks)) (λf s4 z=>z.after (E.x.but k.h0i hkeep s.toks)) λ_ _ z=>z)
end
theorem Ex.forsEnum{es:List Expr}{kk:Nat}{tp:Pos}{e:Expr}{p rp:Pos}{body orelse:List Stmt}{pos:Pos}{us:List V}{tA:List Nat}{bd ob:Vs×H->Option (Fl×Vs×H)}
  (hf:sc.names.lookup ("enumerate":Str)=some .globalImplicit) (hst:∀env,starEach [e] env=(false,eval e env)::starEach [] env)
  (ht:zbG Γw (.Tuple es kk tp)=some tA) (h2:2<=tA.length)
  (H1:EvL C l sc Γ vs [e] h [.tup us] hJ)
  (HB:∀vs h fl vs' h',bd (vs,h)=some (fl,vs',h')->Exs C l sc Γ Γw body vs h fl vs' h')
  (HO:∀vs h fl vs' h',ob (vs,h)=some (fl,vs',h')->Exs C l sc Γ Γw orelse vs h fl vs' h')
  (hw:zcZ ob (zbZ bd tA ((List.range us.length).zipWith (λ(i:Nat) v=>V.tup [.int i,v]) us) (vs,hJ))=some (fl,vs',h')):
  Ex C l sc Γ Γw (.For (.Tuple es kk tp) (.Call (.Name ("enumerate":Str) p) [e] [] rp) body orelse pos) vs h fl vs' h':=by
 intro A env g as s a
 refine wpAny_For (zo1 (T:="enumerate") hf (by decide) (by decide) (by decide) boot_enumerate hst (λenv=>rfl) H1 a.at_ λgB asA sA xs xA rB hl hv=>?_) (λx=>rfl)
 refine seqz (zio hl hv) λx q=>?_
 refine seeeqaz q.tup_inv λL items n hL hu=>?_
 refine zdI (rB.frz _ _ hL) λhp he hit hz hk=>?_
 have aA:=a.step xA rB
 refine xa (rB.kept (s:=sA) (h':=hp) hk sA.toks) λrC xB=>?_
 have nI:=zas sA.heap
 have nE:sA.heap.get? (sA.heap.objs.size+1)=none:=by
  generalize q:sA.heap.get? (sA.heap.objs.size+1)=x0;induction x0 using Option.casesOn with
  |none=>rfl
  |some o=>exact absurd (Heap.lt_size q) (Nat.not_lt.mpr (Nat.le_succ _))
 have he':IsEnum hp (sA.heap.objs.size+1) sA.heap.objs.size ((0:Nat):Int) .none:=he
 refine wpAny_pyIter_enum (s:={ sA with heap:=hp }) he ?_
 refine codeAny_mono (zpF (K:=⟨C,l,sc,Γ,Γw,A,env,Own env Γw,gB,asA,sA,gB,sA.heap.objs.size+1,_,true,[],λ_ _=>True,λ_ _=>True⟩) (Er:=λe s'=>cameBackBy (Md C) A env No e s') ⟨nE,nI,zfe aA.at_ nE,zfe aA.at_ nI,Nat.succ_ne_self _⟩ ht HB HO hL hu rfl
  ⟨xB.toS,aA.step xB rC,.refl _,zdx rB nE he,(by obtain⟨o,e,_⟩:=hit;exact zdx rB nI e),he',hit⟩ hw) λr s' z=>?_
 induction r using Except.casesOn with
 |ok f=>exact zc1.after xA.toS z
 |error e=>exact z
theorem zqH:DI prog C.w emptyDict []:=⟨[],⟨#[],0,⟨rfl,rfl,rfl⟩,rfl,by intro e he;simp at he,.nil,by simp⟩,rfl⟩
theorem Ev.emptyD{pos:Pos}:Ev C l sc Γ vs (.Dict [] [] pos) h (.dI []) h:=by intro A env g as s a;refine wpAny_Dict_empty ?_;refine zgr λX kX=>?_;refine xa (a.rel.push emptyDict rfl s.toks) λr x=>?_;refine kX _ _ x r ?_;exact ziR _ _ rfl (zat ..) zqH (zfu a rfl)
theorem Ev.emptyDM{pos:Pos}:Ev C l sc Γ vs (.Dict [] [] pos) h (.obj h.length) (h++[.dI []]):=by intro A env g as s a;refine wpAny_Dict_empty ?_;refine zgr λX kX=>?_;refine xa (a.rel.alloc_mut (ob:=.dI []) (zas _) (Heap.get?_push_size _ rfl) (λ_ _ e=>Heap.get?_push_of_some _ e) ⟨_,(Heap.get?_push_size _ rfl),zqH,zfu a rfl⟩ s.toks) λr x=>?_;exact kX _ _ x r (zer (R:=a.rel))
inductive DL:List (Option Expr)->List Expr->List (Int×Int)->Prop
 |nil:DL [] [] []
 |cons {i j:Int} {k k':Nat} {p p':Pos} {ks:List (Option Expr)} {es:List Expr} {r:List (Int×Int)} (q:DL ks es r):DL (some (.Constant (.int i) k p)::ks) (.Constant (.int j) k' p'::es) ((i,j)::r)
theorem popL_e{α:Type}{l:List α}{p:α×List α}(h:zsB l=some p):l=p.1::p.2:=
 match l,h with
 |_::_,h=>sm h rfl
theorem zqF{e:Expr}{i:Int}(h:zkK e=some i):∃k p,e=.Constant (.int i) k p:=by
 induction e using PySem.Expr.casesOn with
 |Constant c k p=>induction c using Const.casesOn with
  |int j=>exact sm h ⟨k,p,rfl⟩
  |_=>exact nos h
 |_=>exact nos h
theorem dl_of(ks:List (Option Expr)):∀{es:List Expr} {kC:List (Int×Int)},zgO ks es=some kC->DL ks es kC:=by
 induction ks with
 |nil=>intro es kC e;exact ite_e e λh=>by rw[List.isEmpty_iff.mp h];exact .nil
 |cons k ks ih=>
  intro es kC e;exact be e λp e1 e=>be e λi e2 e=>be e λj e3 e=>map_e e λr e4=>be e2 λe0 e5 e6=>by obtain⟨_,_,q1⟩:=zqF e6;obtain⟨_,_,q2⟩:=zqF e3;refine rwl (popL_e e1) ?_;refine rwl e5 ?_;refine rwl q1 ?_;refine rwl q2 ?_;exact .cons (ih e4)
noncomputable def zkP(env:Env)(pos:Pos):List (Option Expr)->List Expr->List (Sem Value×Sem Value)
 |some k::ks,v::vs=>(eval k env,(do let x <-eval v env;standAt pos;pure x))::zkP env pos ks vs
 |_,_=>[]
theorem zlU{env:Env}{pos:Pos}:∀{ks:List (Option Expr)} {es:List Expr} {kC:List (Int×Int)},zgO ks es=some kC->
  (evalEachOpt ks env).zip ((evalEach es env).map λv=>do let x <-v;standAt pos;pure x)=(zkP env pos ks es).map (λp=>(some p.1,p.2))/\(zkP env pos ks es).length=kC.length:=by
 intro ks es kC e
 have q:=dl_of ks e
 clear e
 induction q with
 |nil=>exact⟨rfl,rfl⟩
 |cons _ ih=>exact⟨congrArg (List.cons _) ih.1,congrArg (·+1) ih.2⟩
noncomputable def zg6:List (Int×Int)->List (Value×Value)->Prop
 |[],[]=>True
 | (k,v)::r,(a,b)::r'=>(∃t,a=.int k t)/\(∃t,b=.int v t)/\zg6 r r'
 |_,_=>False
theorem zng{env:Env}{pos:Pos}{M:Model}{E:Value->Shared->Prop}:∀{ks:List (Option Expr)} {es:List Expr} {kC:List (Int×Int)} {s:Shared} {Q:List (Value×Value)->Shared->Prop},zgO ks es=some kC->
  (∀vs tk,zg6 kC vs->Q vs { s with toks:=tk })->wpAny (Md C) A (evalPairs (zkP env pos ks es)) Q E s:=by
 intro ks es kC s Q e
 have q:=dl_of ks e
 clear e
 induction q generalizing s Q with
 |nil=>intro q;exact evalPairs_nil (q [] s.toks trivial)
 |cons _ ih=>intro q;refine evalPairs_cons (wpAny_Constant_int (wpAny_bind (wpAny_Constant_int (wpAny_bind (wpAny_standAt (wpAny_pure (ih λvs tk hp=>?_)))))));exact q _ tk ⟨⟨_,rfl⟩,⟨_,rfl⟩,hp⟩
theorem zdZ:∀{kC:List (Int×Int)} {vs:List (Value×Value)},zg6 kC vs->∃ks:List (Int×Value),Carries (intKind prog C.w) vs ks/\KvI (kC.map λp=>(p.1,Sc.int p.2)) ks/\ks.map (·.1)=kC.map (·.1):=by
 intro l9;induction l9 with
 |nil=>
  intro l8;induction l8 using List.casesOn with
  |nil=>intro _;exact⟨[],trivial,rfl,rfl⟩
  |cons _ _=>intro q;exact q.elim
 |cons p9 r zdZ=>
  obtain⟨k,v⟩:=p9;intro l8;induction l8 using List.casesOn with
  |nil=>intro q;exact q.elim
  |cons p8 r'=>obtain⟨a,b⟩:=p8;intro ⟨⟨t,h1⟩,⟨u,h2⟩,q⟩;refine zgt (zdZ q) λks c e m=>?_;subst h1;subst h2;exact zk2 ((k,.int v u)::ks) ⟨intKind_is prog C.w k t,rfl,c⟩ ⟨_,_,rfl,⟨u,rfl⟩,e⟩ (congrArg (k::·) m)
theorem zmA{K:Type}[DecidableEq K]{k:K}{v:Value}:∀{acc:List (K×Value)},k ∉ acc.map (·.1)->stored acc k v=acc++[(k,v)]:=by
 intro acc h;unfold stored;have:acc.any (λkv=>decide (kv.1=k))=false:=by rw[List.any_eq_false];intro p hp q;exact h (List.mem_map.mpr ⟨p,hp,by simpa using q⟩)
 refine rwl this ?_;simp
theorem zeV{K:Type}[DecidableEq K]:∀(ks acc:List (K×Value)),((acc++ks).map (·.1)).Nodup->merged acc ks=acc++ks:=by
 intro l9;induction l9 with
 |nil=>intro acc _;simp[merged]
 |cons p9 r zeV=>
  obtain⟨k,v⟩:=p9;intro acc nd;have h1:k ∉ acc.map (·.1):=by rw[List.map_append,List.nodup_append]at nd;intro q;exact nd.2.2 k q k (by simp) rfl
  refine rwl (by simp[merged]:merged acc ((k,v)::r)=merged (stored acc k v) r) ?_;refine rwl (zmA h1) ?_;refine rwl (zeV (acc++[(k,v)]) (by simpa using nd)) ?_;simp
theorem Ev.dlit{ks:List (Option Expr)}{es:List Expr}{pos:Pos}{kC:List (Int×Int)}(hd:zgO ks es=some kC)(nd:(kC.map (·.1)).Nodup)(hl:kC.length<=10)(hne:kC≠[]):
  Ev C l sc Γ vs (.Dict ks es pos) h (.dI (kC.map λp=>(p.1,.int p.2))) h:=by
 intro A env g as s a
 refine xa (zlU (env:=env) (pos:=pos) hd) λs1 s2=>?_
 refine wpAny_Dict_pairs (knd:=intKind prog C.w) s1 (λq=>hne (by rw[q]at s2;exact List.length_eq_zero_iff.mp s2.symm)) (by lia) (zng (M:=Md C) hd λvs tk hp=>?_)
 refine zgt (zdZ (C:=C) hp) λks' c e m=>?_
 have d0':zqB prog C.w (intKind prog C.w) emptyDict []:=⟨#[],0,⟨rfl,rfl,rfl⟩,rfl,by intro e he;simp at he,.nil,by simp⟩
 refine zk2 ks' c (zaE d0' (Heap.get?_push_size _ rfl)) (λhp' hd' hs=>?_)
 rw[zeV ks' [] (by simpa[m] using nd)]at hd'
 refine xea (zfL hd') λo ho hdo=>?_
 refine xa (a.rel.alloc (a:=s.heap.objs.size) (o:=o) (h':=hp') (zas _) ho (λb o e=>hs.extBut b o (Nat.ne_of_lt (Heap.lt_size e)) (Heap.get?_push_of_some _ e)) (tk+vs.length)) λr x=>?_
 refine zbT _ _ x r ?_
 exact ziR _ _ rfl (zat ..) ⟨_,hdo,by simpa using e⟩ (zfu a rfl)
theorem list_M{us:List V}{p:Value}(R:Rel prog C.w g as h s.heap)(hx:zah prog C.w g as (.lA us) p)(hz:us.length<=zad):wpAny (Md C) A (call (.type "list") [p]) (zay C g as s (.obj h.length) (h++[.list us])) No s:=by refine seeeqaz hx.lst_inv λa items n ha ra=>?_;have hl:=ra.length;simp at hl;unfold zad at hz;refine call_list_seq a (.inl rfl) (R.frz _ _ ha) rfl rfl (λh' c' hk he=>?_) (by rw[sizeLine_eq];lia);refine xa (R.alloc_mut (ob:=.list us) (zas s.heap) he hk ⟨_,_,he,ra⟩ s.toks) λr e=>?_;exact zbT _ _ e r (zer (R:=R))
theorem push_M(R:Rel prog C.w g as h s.heap){us:List V}{items:Array Value}(q:VFs prog C.w g us items.toList):zay C g as s (.obj h.length) (h++[.list us]) (.ref s.heap.objs.size) { s with heap:=s.heap.push (zg0 items 0) }:=by refine zgr λX kX=>?_;obtain⟨r,e⟩:=R.alloc_mut (ob:=.list us) (zas s.heap) (Heap.get?_push_size _ rfl) (λ_ _ e=>Heap.get?_push_of_some _ e) ⟨_,_,(Heap.get?_push_size _ rfl),q⟩ s.toks;exact kX _ _ e r (zer (R:=R))
theorem mult_M{u:V}{n:Int}{p q:Value}(R:Rel prog C.w g as h s.heap)(hn:n.natAbs<=zad)(hx:zah prog C.w g as (.lA [u]) p)(hy:zah prog C.w g as (.int n) q):
  wpAny (Md C) A (binaryOp .Mult p q) (zay C g as s (.obj h.length) (h++[.list (List.replicate n.toNat u)])) No s:=by
 refine seeeqaz hx.lst_inv λa items k ha ra=>?_
 refine seq hy.int_inv λt=>?_
 have hl:=R.frz _ _ ha
 obtain⟨z,rfl⟩:∃z,items=#[z]:=by have:=ra.length;exact Array.size_eq_one_iff.mp this.symm
 have rz:VF prog C.w g u z:=ra.1
 unfold zad at hn
 exact wpAny_binaryOp_repeat_ref (T:="list") (U:="int") (by decide) ⟨_,hl,rfl⟩ (λs'=>typeIs_int s' n t) noFill_list_mul F.fills_int_mul F.slot_int_rmul repeat_list F.slot_int_index.lookup
  (call_meets F.slot_int_rmul (typeIs_int s n t) F.entry_int_rmul (F.args_int_rmul_2 _ _) (int___rmul___int_list n t a _ k)
   ⟨hl,rfl,⟨_,hl,rfl⟩,call_meets F.slot_list_mul ⟨_,hl,rfl⟩ F.entry_list_mul (F.args_list_mul_2 _ _)
    (AutoListH.list___mul___list_int_3 a _ k n t (by simp[Builtin.List.listFitsIndex];omega) (by simp;omega) (by simp[Builtin.List.listTooLong,sizeLine];omega))
    ⟨hl,push_M R (by simp[ziL];exact VFs.rep rz _)⟩⟩)
theorem Ev.multM{eB eC:Expr}{pos:Pos}{u:V}{n:Int}{hJ hO:H}(hn:n.natAbs<=zad)(H1:Ev C l sc Γ vs eB h (.lA [u]) hJ)(H2:Ev C l sc Γ vs eC hJ (.int n) hO):Ev C l sc Γ vs (.BinOp eB .Mult eC pos) h (.obj hO.length) (hO++[.list (List.replicate n.toNat u)]):=by intro A env g as s a;exact wpAny_BinOp (two (P:=binaryOp .Mult) H1 H2 a λg' as' s' p q a' hp hq=>mult_M a'.rel hn hp hq)
set_option tactic.hygienic true in
theorem znv{x:Nat}{v w:V}(a:AtS C l sc Γ Γw vs A env g as h s)(hx:vs[x]?=some v)(hf:zdO h v=some (w,h')):∃g',Ext g as s g' as s/\AtS C l sc Γ Γw (vs.set x w) A env g' as h' s:=by
 refine be hf λi hv q1=>be q1 λob eh q2=>xea (Option.map_eq_some_iff.mp q2) λwA hw q3=>?_;clear hf q1 q2;have hv:=zf9 hv;subst hv;cases q3;have R:=a.at_.rel;have il:i<as.length:=by rw[R.len];exact(List.getElem?_eq_some_iff.mp eh).1
 obtain⟨b,eb⟩:∃b,as[i]?=some b:=⟨_,List.getElem?_eq_getElem il⟩;have ng:ob≠.gone:=λq=>by rw[q]at hw;cases hw
 have gb:=R.off i b ob eb eh ng;have ho:=R.ob i b ob eb eh;refine xea (zqW gb hw ho) λo eo r=>?_;have le:=zbF (o:=o) gb;have mb:b∈as:=List.mem_of_getElem? eb;have X:Ext g as s (zby g b o) as s:=⟨le,⟨[],by simp⟩,λa h h'=>absurd h h',⟨_,_,rfl⟩,λ_ _ _ e=>e,λ_ o e=>⟨o,e⟩,λc o' e=>by
  unfold zby at e;split at e
  ·rename_i q;rw[q];exact .inr (.inr mb)
  ·exact .inl e⟩
 have R':Rel prog C.w (zby g b o) as (h.set i .gone) s.heap:=by
  refine⟨λc o' e=>?_,by rw[List.length_set];exact R.len,λj c o' e1 e2=>?_,λj c o' e1 e2 z=>?_,R.nd,R.ex⟩
  ·unfold zby at e;split at e
   ·rename_i q;have r0:=Option.some.inj e;cases r0;rw[q];exact eo
   ·exact R.frz c o' e
  ·by_cases hij:i=j
   ·subst hij;rw[List.getElem?_set_self (by rw[<-R.len];exact il)]at e2;have r0:=Option.some.inj e2;cases r0;rw[<-(by rw[eb]at e1;exact Option.some.inj e1:b=c)];exact ho.noCell
   ·rw[List.getElem?_set_ne hij]at e2;exact(R.ob j c o' e1 e2).keep le (za0 as) λ_ e=>e
  ·by_cases hij:i=j
   ·subst hij;rw[List.getElem?_set_self (by rw[<-R.len];exact il)]at e2;have r0:=Option.some.inj e2;cases r0;exact absurd rfl z
   ·rw[List.getElem?_set_ne hij]at e2;have:c≠b:=λq=>hij (R.nd i j b eb (q▸e1));unfold zby
    rw[if_neg this];exact R.off j c o' e1 e2 z
 have a':=a.step X R';refine⟨_,X,?_⟩;refine zaj a'.at_.frm.ns λm cm hn hc hv=>?_;have conv:∀y,zah prog C.w (zby g b o) as (.obj i) y->zah prog C.w (zby g b o) as w y:=λy q=>by refine seqz q λb' e'=>?_;rw[eb]at e';have r0:=Option.some.inj e';cases r0;exact .of_VF r
 refine⟨⟨a'.at_.ok,a'.at_.aok,a'.at_.eok,a'.at_.bas,R',⟨m,cm,hn,hc,λz j u h1 h2 h3=>?_⟩,a'.at_.frm.gL,a'.at_.frm.aL,a'.at_.frm.aC,a'.at_.frm.nm⟩,a'.own⟩;by_cases hjx:x=j
 ·subst hjx;have hl:x<vs.length:=(List.getElem?_eq_some_iff.mp hx).1;rw[List.getElem?_set_self hl]at h2;have r0:=Option.some.inj h2;cases r0;rcases hv z x _ h1 hx (by simp) with ⟨k,y,hy,q⟩|⟨k,c,y,hy,q⟩
  ·exact .inl ⟨k,y,hy,conv y q⟩
  ·exact .inr ⟨k,c,y,hy,conv y q⟩
 ·rw[List.getElem?_set_ne hjx]at h2;exact hv z j u h1 h2 h3
theorem zdc:∀{xs:List Nat} {vs:Vs} {h:H} {g:Gm},za9 xs (vs,h)=some (vs',h')->AtS C l sc Γ Γw vs A env g as h s->∃g',Ext g as s g' as s/\AtS C l sc Γ Γw vs' A env g' as h' s:=by
 intro l9;induction l9 with
 |nil=>intro vs h g e a;cases e;exact⟨g,.refl ..,a⟩
 |cons x xs zdc=>intro vs h g e a;refine xea (Option.bind_eq_some_iff.mp e) λv hv e=>?_;refine xea (Option.bind_eq_some_iff.mp e) λx0 hf e=>?_;obtain⟨w,hJ⟩:=x0;refine xea (znv a hv hf) λgB xA aA=>?_;refine xea (zdc e aA) λgD xB aB=>?_;exact⟨gD,xA.trans xB,aB⟩
theorem Ex.frz{st:Stmt}{xs:List Nat}(hf:za9 xs (vs,h)=some (vs1,hJ))(H1:Ex C l sc Γ Γw st vs1 hJ fl vs' h'):Ex C l sc Γ Γw st vs h fl vs' h':=by intro A env g as s a;refine xea (zdc hf a) λgB xA aA=>?_;exact wpAny_mono (H1 A env gB as s aA) (λ_ _ z=>z.after xA.toS) λ_ _ z=>z
theorem zmQ{x y v:V}{p q:Value}(hb:zpj x y=some v)(R:Rel prog C.w g as h s.heap)(hx:zah prog C.w g as x p)(hy:zah prog C.w g as y q):
  wpAny (Md C) A (inplaceOp .Add p q) (zay C g as s v h) No s:=
 oI hx hb (λi t hb=>bI hy hb λj u hb=>sm hb (PyProof.Rows.iadd_int (zay.pure R (.int ..) _))) λhb=>
  bS hx hb λi t hb=>bS hy hb λj u hb=>fit_e hb λhz=>PyProof.Rows.iadd_str (λt' tk=>by rw[zet];exact zay.pure R (.str ..) _) (by rw[zaS,zaS,sizeLine_eq];exact Nat.le_trans hz (by decide))
theorem Ex.augV{x:Str}{i:Nat}{px pos:Pos}{e:Expr}{u y v:V}(hx:Γw.lookup x=some i)(hu:vs[i]?=some u)(hne:u≠.uA)(H1:Ev C l sc Γ vs e h y hJ)(hv:zpj u y=some v):
  Ex C l sc Γ Γw (.AugAssign (.Name x px) .Add e pos) vs h .next (vs.set i v) hJ:=by
 intro A env g as s a
 refine wpAny_AugAssign_Name (wpAny_mono (zoe a.at_ ((a.own.sub x i hx).1) hu hne) (λp sA z=>?_) λ_ _ z=>z)
 refine zaj z λgB asA xA rB vA=>?_
 refine wpAny_mono (H1 A env gB asA sA (a.step xA rB).at_) (λq sE z=>?_) λ_ _ z=>z
 refine zaj z λgD asB xB rC vB=>?_
 refine wpAny_mono (zmQ hv rC (xB.rep vA) vB) (λr sB z=>?_) λ_ _ z=>z
 refine zaj z λgE as3 xC rD vC=>?_
 refine wpAny_mono (zev (((a.step xA rB).step xB rC).step xC rD) hx vC) (λ_ s4 z=>?_) λ_ _ z=>z
 refine zc0 z λgF as4 xD aE=>?_
 exact zbT gF as4 (((xA.trans xB).trans xC).toS.trans xD) aE trivial
end
theorem zgZ{α:Type}{ns:List Str}{vs:List α}(hl:ns.length=vs.length)(nd:ns.Nodup)(i:Nat)(n:Str)(e:ns[i]?=some n):(ns.zip vs).lookup n=vs[i]? :=by
 induction ns generalizing vs i with
 |nil=>exact nos e
 |cons n' ns ih=>
  induction vs using List.casesOn with
  |nil=>exact absurd hl (Nat.succ_ne_zero _)
  |cons v vs=>
   induction i using Nat.casesAuxOn with
   |zero=>cases Option.some.inj e;exact List.lookup_cons_self
   |succ i=>have nd':=List.nodup_cons.mp nd;have hb:(n==n')=false:=beq_false_of_ne λq=>nd'.1 (q▸List.mem_of_getElem? (l:=ns) e);refine rwl (List.lookup_cons (as:=ns.zip vs) (a:=n) (k:=n') (b:=v)) ?_;rw[hb];exact ih (Nat.succ.inj hl) nd'.2 i e
theorem zhl{ns:List Str}{vs:List Value}(hl:ns.length=vs.length)(nd:ns.Nodup):ns.filterMap (λn=>((ns.zip vs).lookup n).map (n,·))=ns.zip vs:=by
 have key:∀(k:Nat) (ns':List Str) (vs':List Value),ns'.length=vs'.length->(∀(i:Nat) n,ns'[i]?=some n->(ns.zip vs).lookup n=vs'[i]?)->ns'.filterMap (λn=>((ns.zip vs).lookup n).map (n,·))=ns'.zip vs':=by
  intro k ns';induction ns' with
  |nil=>intro vs' _ _;simp
  |cons n ns' ih=>
   intro vs' hl' h;induction vs' using List.casesOn with
   |nil=>simp at hl'
   |cons v vs'=>refine rwl List.filterMap_cons ?_;refine rwl (h 0 n rfl) ?_;exact rwl (ih vs' (by simpa using hl') λi n e=>by simpa using h (i+1) n (by simpa using e)) rfl
 exact key 0 ns vs hl λi n e=>zgZ hl nd i n e
theorem zk4{α:Type}{c:Prop}{d:Decidable c}{a b r:α}(h:¬ c)(k:b=r):(@ite α c d a b)=r:=(if_neg h).trans k
theorem zrO{α β γ:Type}{l:List α}{b:β}{f:α->β->Sem (ForInStep β)}{k:β->Sem γ}{r:Sem γ}(h:l=[])(q:k b=r):(forIn l b f >>= k)=r:=by subst h;exact q
theorem zc4{fd:FuncData}{vals:List Value}(h1:fd.params.posonlyargs=[])(h2:fd.params.vararg=none)(h3:fd.params.kwonlyargs=[])(h4:fd.params.kwarg=none)(h5:fd.defaults=.none)
  (hl:fd.params.args.length=vals.length) (nd:(fd.params.args.map (·.arg)).Nodup):bindArgs fd ⟨vals,[]⟩=pure ((fd.params.args.map (·.arg)).zip vals):=by
 obtain⟨name,qualname,⟨po,as,va,ko,kd,kw,ds⟩,body,scope,globals,closure,defaults,kwdefaults,doc,pyModule,annotations,code,closureTuple,builtins⟩:=fd
 dsimp only at h1 h2 h3 h4 h5 hl nd
 subst h1 h2 h3 h4 h5
 have hl':(as.map (·.arg)).length=vals.length:=by rw[List.length_map,hl]
 have hm:((as.map (·.arg)).filter λn=>(((as.map (·.arg)).zip vals).lookup n).isNone)=[]:=by rw[List.filter_eq_nil_iff];intro n hn;obtain⟨i,hi,rfl⟩:=List.getElem_of_mem hn;refine rwl (zgZ hl' nd i _ (List.getElem?_eq_getElem hi)) ?_;refine rwl (List.getElem?_eq_getElem (by rw[<-hl'];exact hi)) ?_;exact Bool.false_ne_true
 refine zk4 (c:=(decide (vals.length > (as.map (·.arg)).length)&&true)=true) (by rw[hl',decide_eq_false (Nat.lt_irrefl _)];exact Bool.false_ne_true) ?_
 refine zk4 (c:=(!(((as.map (·.arg)).take ((as.map (·.arg)).length-(([]:List Value).drop (0-(as.map (·.arg)).length)).length)).filter λn=>(((as.map (·.arg)).zip vals).lookup n).isNone).isEmpty)=true) (by rw[List.drop_nil,List.length_nil,Nat.sub_zero,List.take_length,hm];exact Bool.false_ne_true) ?_
 refine zrO (l:=((as.map (·.arg)).drop ((as.map (·.arg)).length-(([]:List Value).drop (0-(as.map (·.arg)).length)).length)).zip (([]:List Value).drop (0-(as.map (·.arg)).length))) (by rw[List.drop_nil,List.zip_nil_right]) ?_
 show (pure ((as.map (λx:Arg=>x.arg)++[]).filterMap λn=>(((as.map λx:Arg=>x.arg).zip vals).lookup n).map (n,·)):Sem (List (Str×Value)))=(pure _:Sem (List (Str×Value)))
 rw[List.append_nil]
 exact congrArg pure (zhl hl' nd)
theorem zfF{k:Str->Option NameKind}{x:Str}:∀{bs:List (Str×Value)} {m:Str->Option Value},(∀v,(x,v) ∉ bs)->bindL k bs m x=m x:=by
 intro l9;induction l9 with
 |nil=>intro m _;exact rfl
 |cons p9 r zfF=>
  obtain⟨n,v⟩:=p9;intro m h;refine rwl (zfF λw hw=>h w (.tail _ hw)) ?_;split
  ·exact if_neg (λq=>h v (q▸.head _):x≠n)
  ·rfl
theorem zkD{k:Str->Option NameKind}{x:Str}{v:Value}(hk:k x=some .local):∀{bs:List (Str×Value)} {m:Str->Option Value},(bs.map (·.1)).Nodup->(x,v)∈bs->bindL k bs m x=some v
 | (n,w)::r,m,nd,h=>by
  unfold bindL;have nd':=List.nodup_cons.mp nd;rcases List.mem_cons.mp h with q|q
  ·cases q;rw[zfF λw hw=>nd'.1 (List.mem_map.mpr ⟨_,hw,rfl⟩),if_pos hk];simp
  ·exact zkD hk nd'.2 q
theorem zfE{k:Str->Option NameKind}{x:Str}:∀{bs:List (Str×Value)} {m:Str->Option Value},(∀v,(x,v) ∉ bs)->bindC k bs m x=m x:=by
 intro l9;induction l9 with
 |nil=>intro m _;exact rfl
 |cons p9 r zfE=>
  obtain⟨n,v⟩:=p9;intro m h;refine rwl (zfE λw hw=>h w (.tail _ hw)) ?_;split
  ·rfl
  ·exact if_neg (λq=>h v (q▸.head _):x≠n)
theorem zkC{k:Str->Option NameKind}{x:Str}{v:Value}(hk:k x≠some .local):∀{bs:List (Str×Value)} {m:Str->Option Value},(bs.map (·.1)).Nodup->(x,v)∈bs->bindC k bs m x=some v
 | (n,w)::r,m,nd,h=>by
  unfold bindC;have nd':=List.nodup_cons.mp nd;rcases List.mem_cons.mp h with q|q
  ·cases q;rw[zfE λw hw=>nd'.1 (List.mem_map.mpr ⟨_,hw,rfl⟩),if_neg hk];simp
  ·exact zkC hk nd'.2 q
theorem zbH{x:Str}:∀{names:List (Str×NameKind)} {n:Nat} {acc:List (Str×Addr)},(∃c,acc.lookup x=some c)->∃c,(cellsFrom n names acc).lookup x=some c:=by
 intro l9;induction l9 with
 |nil=>intro _ _ h;exact h
 |cons p9 r zbH=>
  intro n acc h;unfold cellsFrom;split
  ·refine zbH ?_;refine xe h λc e=>?_;refine rwl List.lookup_cons ?_;split
   ·exact⟨_,rfl⟩
   ·exact⟨c,e⟩
  ·exact zbH h
theorem zbc{x:Str}:∀{names:List (Str×NameKind)} {n:Nat} {acc:List (Str×Addr)},(x,NameKind.cell)∈names->∃c,(cellsFrom n names acc).lookup x=some c
 | (y,k)::r,n,acc,h=>by
  unfold cellsFrom;rcases List.mem_cons.mp h with q|q
  ·cases q;rw[if_pos (by decide)];exact zbH ⟨n,by simp[List.lookup_cons]⟩
  ·split
   ·exact zbc q
   ·exact zbc q
set_option tactic.hygienic true in
theorem zae{α:Type}:∀{l:List (Str×α)} {x:Str} {v:α},l.lookup x=some v->(x,v)∈l
 | (n,w)::r,x,v,e=>by
  rw[List.lookup_cons]at e;split at e
  ·rename_i hx;have:x=n:=by simpa using hx
   have r0:=Option.some.inj e;subst r0;subst this;exact .head _
  ·exact .tail _ (zae e)
theorem zii{own:List Str}{x y:Str}{i:Nat}(hx:(x,i)∈own.zip (List.range own.length))(hy:(y,i)∈own.zip (List.range own.length)):x=y:=by
 have at':∀{z:Str},(z,i)∈own.zip (List.range own.length)->own[i]?=some z:=λ{z} h=>by refine xe (List.getElem?_of_mem h) λj hj=>?_;rw[List.getElem?_zip_eq_some]at hj;refine xa hj λh1 h2=>?_;obtain⟨hl,e⟩:=List.getElem?_eq_some_iff.mp h2;simp at e;exact rwr e h1
 have h2:=at' hy;rw[(at' hx)]at h2;have r0:=Option.some.inj h2;subst r0;rfl
def FnObj(C:Cx)(a:Addr)(f:F):Prop:=
 ∃d o fd,zbx f=some d/\C.base.get? a=some o/\o.data=.func fd/\o.cls=.type "function"/\fd.params=d.params/\fd.body=.stmts d.body/\fd.scope=d.scope/\fd.globals=mainGlobals/\fd.closure=[]/\fd.defaults=.none/\
  fd.builtins=builtinsNs/\C.base.CodeRec fd.code fd.qualname/\(zeg d.scope=true->fd.code=.ref zdn)
section
variable {C:Cx}{l:Nat}{sc:Scope}{Γ Γw:Gam}{vs vs1 vs':Vs}{A:Around}{env:Env}{g g':Gm}{as as':List Addr}{h hJ hO h':H}{s s':Shared}{fl:Fl}
theorem zdw(ok:Ok C){a:Addr}{qual:Str}{f:F}(hd:zmN C.K a qual f):FnObj C a f:=by refine zeA hd λd name oc od osl an cdv x0=>?_;refine zbe x0 λct doc pm h1 h2 h3 h4 h5=>?_;exact⟨d,_,_,h1,ok.kin _ _ h2,rfl,h4,rfl,rfl,rfl,rfl,rfl,rfl,rfl,codeRec_of ok.kin h3,h5⟩
structure DfOk (d:Df):Prop where
 kind:d.scope.kind=.function
 gen:d.scope.isGenerator=false
 cor:d.scope.isCoroutine=false
 p1:d.params.posonlyargs=[]
 p2:d.params.vararg=none
 p3:d.params.kwonlyargs=[]
 p4:d.params.kwarg=none
 nd:(d.scope.names.map (·.1)).Nodup
 nm:∀p∈zbS d.scope,p.1≠("__debug__":Str)/\p.1≠("__classdict__":Str)
 pnd:(d.params.args.map (·.arg)).Nodup
 par:∀(i:Nat) n,(d.params.args.map (·.arg))[i]?=some n->(zbS d.scope).lookup n=some i/\(d.scope.names.lookup n=some .local\/d.scope.names.lookup n=some .cell)
 len:d.params.args.length<=(zbS d.scope).length
theorem zrD{d:Df}(h:zne d=true):DfOk d:=by
 unfold zne at h;simp only[Bool.and_eq_true,beq_iff_eq,Bool.not_eq_true',List.isEmpty_iff,Option.isNone_iff_eq_none,decide_eq_true_eq,List.all_eq_true,bne_iff_ne,Bool.or_eq_true]at h;refine xa h λx0 h12=>?_;refine xa x0 λr0 h11=>?_;refine xa r0 λt0 h10=>?_;refine xa t0 λb0 h9=>?_;refine xa b0 λe0 h8=>?_;refine xa e0 λf0 h7=>?_;refine xa f0 λy0 h6=>?_;refine xa y0 λh0 h5=>?_;refine xa h0 λq0 h4=>?_;refine xa q0 λv0 h3=>?_;refine xa v0 λh1 h2=>?_;refine⟨h1,h2,h3,h4,h5,h6,h7,h8,h9,h10,λi n e=>?_,h12⟩;have hl:i<d.params.args.length:=by have:=(List.getElem?_eq_some_iff.mp e).1;simpa using this
 have hm:(n,i)∈(d.params.args.map (·.arg)).zip (List.range d.params.args.length):=by refine List.mem_of_getElem? (i:=i) ?_;rw[List.getElem?_zip_eq_some];exact ia e (by simp[hl])
 exact h11 (n,i) hm
theorem znx{sc:Scope}{x:Str}{i:Nat}(e:(zbS sc).lookup x=some i):(x,i)∈((sc.names.filter λp=>p.2==.local||p.2==.cell||p.2==.free).map (·.1)).zip (List.range ((sc.names.filter λp=>p.2==.local||p.2==.cell||p.2==.free).map (·.1)).length):=zae e
theorem zjJ{sc:Scope}{x y:Str}{i:Nat}(hx:(zbS sc).lookup x=some i)(hy:(zbS sc).lookup y=some i):x=y:=zii (znx hx) (znx hy)
set_option tactic.hygienic true in
theorem zbU{α:Type}{p:Str×α->Bool}:∀{l:List (Str×α)} {x:Str} {v:α},(l.map (·.1)).Nodup->(l.filter p).lookup x=some v->l.lookup x=some v/\p (x,v)=true:=by
 intro l9;induction l9 with
 |nil=>intro _ _ _ e;simp at e
 |cons p9 r zbU=>
  obtain⟨n,w⟩:=p9;intro x v nd e;have nd':=List.nodup_cons.mp nd;rw[List.filter_cons]at e;split at e
  ·rename_i hp;rw[List.lookup_cons]at e ⊢;split at e
   ·rename_i hx;have:x=n:=by simpa using hx
    have r0:=Option.some.inj e;subst r0;subst this;exact⟨by simp,hp⟩
   ·exact zbU nd'.2 e
  ·have ih:=zbU nd'.2 e;refine rwl List.lookup_cons ?_;split
   ·refine zdy λX kX=>?_;rename_i hx;have:x=n:=by simpa using hx
    subst this;exact absurd (List.mem_map.mpr ⟨_,zae ih.1,rfl⟩) nd'.1
   ·exact ih
theorem ziM{sc:Scope}(nd:(sc.names.map (·.1)).Nodup):((zbS sc).map (·.1)).Nodup:=by
 have:(zbS sc).map (·.1)=(sc.names.filter λp=>p.2==.local||p.2==.cell||p.2==.free).map (·.1):=by exact rwl (List.map_fst_zip (by simp)) rfl
 refine rwl this ?_;exact nd.sublist (List.filter_sublist.map _)
theorem zpJ{sc:Scope}(nd:(sc.names.map (·.1)).Nodup){x:Str}{i:Nat}(e:(zpI sc).lookup x=some i):(zbS sc).lookup x=some i/\(sc.names.lookup x=some .local\/sc.names.lookup x=some .cell):=by have:=zbU (ziM nd) e;exact ia this.1 (by simpa using this.2)
theorem zlJ{d:Df}{fd:FuncData}{a:Addr}{xs:List Value}{args:List V}{sA:Shared}(ok:Ok C)(ak:AOk l A)(D:DfOk d)(nf:∀p∈d.scope.names,p.2≠.free)(e1:fd.scope=d.scope)(eg:fd.globals=mainGlobals)(eb:fd.builtins=builtinsNs)(ec:zeg d.scope=true->fd.code=.ref zdn)
  (hla:args.length=d.params.args.length) (hlx:xs.length=args.length) (hv:∀(i:Nat) v,args[i]?=some v->∃x,xs[i]?=some x/\zah prog C.w g as v x) (bas:Gle C.base.get? g) (R:Rel prog C.w g as h s.heap)
  (henv:env=callEnvC fd s.heap.objs.size a)
  (x:InCallC s env.locals (bindL env.kindOf ((d.params.args.map (·.arg)).zip xs) λ_=>none) env.cells (bindC env.kindOf ((d.params.args.map (·.arg)).zip xs) λ_=>none) sA):
  AtS C l d.scope (zbS d.scope) (zpI d.scope) (args++List.replicate ((zbS d.scope).length+6-args.length) .uA) A env g as h sA:=by
 have hL:env.locals=s.heap.objs.size:=by rw[henv];rfl
 have hk:∀y,env.kindOf y=d.scope.names.lookup y:=λy=>by rw[henv,<-e1];rfl
 have hcs:env.cells=cellsFrom (s.heap.objs.size+1) d.scope.names []:=by rw[henv,<-e1];rfl
 have nL:s.heap.get? env.locals=none:=by rw[hL];exact zas _
 have gN:∀b,s.heap.get? b=none->g b=none:=λb e=>by
  generalize q:g b=x0;induction x0 using Option.casesOn with
  |none=>rfl
  |some o=>have:=R.frz b o q;rw[e]at this;exact nos this
 have aN:∀b,s.heap.get? b=none->b ∉ as:=λb e q=>by obtain⟨o,e'⟩:=R.ex b q;rw[e]at e';exact nos e'
 have cN:∀y c,env.cells.lookup y=some c->s.heap.get? c=none/\c≠env.locals:=λy c e=>by
  have hlt:=x.above y c (zae e);refine⟨?_,Nat.ne_of_gt hlt⟩;generalize q:s.heap.get? c=t0;induction t0 using Option.casesOn with
  |none=>rfl
  |some o=>have:=Heap.lt_size q;rw[hL]at hlt;exact absurd this (Nat.not_lt.mpr (Nat.le_of_lt hlt))
 have hzl:(d.params.args.map (·.arg)).length=xs.length:=by rw[List.length_map,hlx,hla]
 have hzn:(((d.params.args.map (·.arg)).zip xs).map (·.1)).Nodup:=by rw[List.map_fst_zip (by lia)];exact D.pnd
 refine⟨⟨ok,ak,⟨?_,λy k hy=>.inl (by rw[hk];exact hy),λy hy=>?_,?_,?_,(λy z c h1 h2=>name_of_addr x.apart (zae h1) (zae h2)),λq=>by rw[henv];exact ec q⟩,bas,R.keepAll x.toInCall.keep,⟨⟨_,_,x.toInCall.ns,x.cell,λy i v h1 h2 h3=>?_⟩,gN _ nL,aN _ nL,λy c e=>⟨aN _ (cN y c e).1,(cN y c e).2⟩,λy i e=>D.nm (y,i) (zae e)⟩⟩,⟨λy i hy=>?_,λy z i h1 h2=>zjJ h1 h2,(λy z c h1 h2=>name_of_addr x.apart (zae h1) (zae h2))⟩⟩
 ·refine rwl henv ?_;show fd.scope.kind=_;exact rwl e1 D.kind
 ·rcases hy with q|q
  ·exact rwl hcs (zbc (zae q))
  ·exact absurd rfl (nf _ (zae q))
 ·exact rwl henv eg
 ·exact rwl henv eb
 ·refine zdy λX kX=>?_;have hi:i<args.length:=by
   rcases Nat.lt_or_ge i args.length with q|q
   ·exact q
   ·rw[List.getElem?_append_right q,List.getElem?_replicate]at h2;split at h2
    ·have r0:=Option.some.inj h2;subst r0;exact absurd rfl h3
    ·exact nos h2
  rw[List.getElem?_append_left hi]at h2;refine xe (⟨_,List.getElem?_eq_getElem (by rw[List.length_map,<-hla];exact hi)⟩:∃n,(d.params.args.map (·.arg))[i]?=some n) λn hn=>?_;refine xa (D.par i n hn) λp1 p2=>?_;have:=zjJ h1 p1;subst this;refine xea (hv i v h2) λz hz q=>?_;have hm:(y,z)∈(d.params.args.map (·.arg)).zip xs:=List.mem_of_getElem? (i:=i) (by rw[List.getElem?_zip_eq_some];exact⟨hn,hz⟩);refine kX ?_;rcases p2 with p2|p2
  ·exact .inl ⟨by rw[hk];exact p2,z,zkD (by rw[hk];exact p2) hzn hm,q⟩
  ·refine .inr ⟨.inl (by rw[hk];exact p2),by rw[hcs];exact zbc (zae p2),z,zkC (by rw[hk,p2];simp) hzn hm,q⟩
 ·refine xa (zpJ D.nd hy) λh1 h2=>?_;refine⟨h1,h2.elim (λq=>.inl (by rw[hk];exact q)) λq=>.inr ⟨by rw[hk];exact q,?_⟩⟩;refine xe (zbc (n:=s.heap.objs.size+1) (acc:=[]) (zae q)) λc hc=>?_;rw[<-hcs]at hc;exact iea c hc (gN _ (cN _ _ hc).1)
theorem zah.narrow{r:List Addr}{v:V}{x:Value}(hr:refOk as.length v=true)(q:zah prog C.w g (as++r) v x):zah prog C.w g as v x:=by
 have cut:∀{i:Nat} {b:Addr},i<as.length->(as++r)[i]?=some b->as[i]?=some b:=λ{i b} hi e=>by rwa [List.getElem?_append_left hi]at e
 induction v using V.casesOn<;>first
   |exact q
   | (simp only[refOk.eq_def,decide_eq_true_eq]at hr
      refine xea q λa e q=>?_
      exact⟨a,e,cut hr q⟩)
   | (simp only[refOk.eq_def,decide_eq_true_eq]at hr
      refine zaj q λa dx e q w=>?_
      exact⟨a,dx,e,q,cut hr w⟩)
   | (simp only[refOk.eq_def,decide_eq_true_eq]at hr
      refine zqA q λa e fd qual cA cT oA x0=>?_;refine zbe x0 λoT y t e1 e2 e3 e4 r0=>?_;refine zcQ r0 λe5 e6 e7 e8 e9 e10 e11 t0=>?_;refine zcQ t0 λe12 e13 ne f1 f2 f3 f4 f5=>?_
      exact⟨a,e,fd,qual,cA,cT,oA,oT,y,t,e1,e2,e3,e4,e5,e6,e7,e8,e9,e10,e11,e12,e13,ne,f1,f2,cut hr f3,f4,f5⟩)
set_option tactic.hygienic true in
theorem zeT{k:Nat}{v:V}:∀{l:List (Nat×V)},l.lookup k=some v->(k,v)∈l
 | (n,w)::r,e=>by
  rw[List.lookup_cons]at e;split at e
  ·rename_i hx;have:k=n:=by simpa using hx
   have r0:=Option.some.inj e;subst r0;subst this;exact .head _
  ·exact .tail _ (zeT e)
set_option tactic.hygienic true in
theorem OR.narrow{r:List Addr}{o:Ob}{a:Addr}{hp:Heap}(ho:obOk as.length o=true)(q:OR prog C.w g (as++r) o a hp):OR prog C.w g as o a hp:=by
 induction o using Ob.casesOn with
 |attrs kC=>
  refine zqz q λo e q0 es n q1 q2 x0=>?_;refine xaa x0 λq3 q4 q5=>?_;refine⟨o,e,q0,es,n,q1,q2,q3,q4,λnm=>?_⟩;have:=q5 nm;split at this
  ·refine yea λX kX=>?_;rename_i v e';refine xea this λy a1 a3=>?_;refine xea (Option.bind_eq_some_iff.mp e') λk hk hl=>?_;simp only[obOk.eq_def,List.all_eq_true]at ho;exact kX y a1 (a3.narrow (ho _ (zeT hl)))
  ·exact this
 |citer i live=>refine yeeeaa λX kX=>?_;refine zba q λb t x e f q=>?_;exact kX b t x e f (q.narrow ho)
 |_=>exact q
theorem zay.cut{v:V}{x:Value}{hY:H}(hh:hY.length=as.length)(X:Ext g as s g' as' s')(R:Rel prog C.w g' as' h' s'.heap)(q:zah prog C.w g' as' v x)(hv:refOk hY.length v=true)(ho:(h'.take hY.length).all (obOk hY.length)=true):
  zay C g as s v (h'.take hY.length) x s':=by
 refine xe X.pre λr x0=>?_;subst x0
 rw[hh]at hv ho
 refine rwl hh ?_
 have hlen:as.length<=h'.length:=by have:=R.len;rw[List.length_append]at this;lia
 have hob:∀(i:Nat) o,(h'.take as.length)[i]?=some o->i<as.length/\h'[i]?=some o/\obOk as.length o=true:=λi o e=>by
  have hi:i<as.length:=by have:=(List.getElem?_eq_some_iff.mp e).1;rw[List.length_take]at this;exact Nat.le_trans this (Nat.min_le_left _ _)
  refine iaa hi (by rwa [List.getElem?_take_of_lt hi]at e) (List.all_eq_true.mp ho o (List.mem_of_getElem? e))
 have up:∀(i:Nat) b,as[i]?=some b->(as++r)[i]?=some b:=λi b e=>by rw[List.getElem?_append_left (List.getElem?_eq_some_iff.mp e).1];exact e
 refine zbT g' as ⟨X.gle,⟨[],by simp⟩,λa ha hn=>absurd ha hn,X.same,X.keep,X.there,X.gnew⟩ ⟨R.frz,by rw[List.length_take];lia,λi b o e1 e2=>?_,λi b o e1 e2 z=>?_,λi j b e1 e2=>R.nd i j b (up i b e1) (up j b e2),λb hb=>R.ex b (List.mem_append_left _ hb)⟩ (q.narrow hv)
 ·refine xaa (hob i o e2) λ_ e3 e4=>?_;exact(R.ob i b o (up i b e1) e3).narrow e4
 ·refine xaa (hob i o e2) λ_ e3 _=>?_;exact R.off i b o (up i b e1) e3 z
end
end
section
open PySem PySem.W PyProof.Rows PySem.Calls
section
variable {C:Cx}{l:Nat}{sc:Scope}{Γ Γw:Gam}{vs vs1 vs':Vs}{A:Around}{env:Env}{g g':Gm}{as as':List Addr}{h hJ hO h':H}{s s':Shared}{fl:Fl}
theorem zfZ{i:Nat}{kC:List (Nat×V)}{x:Value}(R:Rel prog C.w g as h s.heap)(hi:h[i]?=some (.attrs kC))(q:zah prog C.w g as (.inst i) x):
  ∃a dx o,x=.ref a/\as[i]?=some dx/\g a=some (instObj zcS dx)/\s.heap.get? dx=some o/\AR prog C.w g as o kC/\InstAt s.heap a (instObj zcS dx) zcS (some o):=by
 refine seeqaz q λa dx hg ha=>?_
 refine zeC λX kX=>?_
 refine xea (R.ob i dx _ ha hi) λo ho ar=>?_
 exact kX a dx o rfl ha hg ho ar ⟨R.frz _ _ hg,rfl,rfl,ho⟩
theorem zi5{es:Array DictEntry}(hk:StrKeys es):es.toList.any (·.refKey)=false:=by rw[List.any_eq_false];intro e he q;refine xee (hk e (by simpa using he)) λn t h=>?_;simp[DictEntry.refKey,h]at q
theorem zek{o:Obj}{es:Array DictEntry}{n:Nat}{nm:Str}(hd:o.data=.dict es n)(hk:StrKeys es):lookIn nm o=some (nsFind es nm):=by
 unfold lookIn nsFind findBy;refine rwl hd ?_;dsimp only;refine rwr Array.find?_toList ?_;generalize e:es.toList.find? (λe=>e.key.isStr nm)=x0;induction x0 using Option.casesOn with
 |some en=>rfl
 |none=>refine rwl (if_neg (by rw[zi5 hk];decide)) ?_;rfl
theorem zl6{v:V}{x:Value}(q:zah prog C.w g as v x):handedIn x=true:=by
 have vf:∀{v:V} {x:Value},VF prog C.w g v x->handedIn x=true:=by
  intro v x q;induction v using V.casesOn<;>first
   | (subst q;rfl)
   | (obtain⟨t,rfl⟩:=q;rfl)
   | (obtain⟨a,b,c,rfl,_⟩:=q;rfl)
   | (obtain⟨a,b,rfl,_⟩:=q;rfl)
   | (obtain⟨a,b,c,d,rfl,_⟩:=q;rfl)
   |exact q.elim
 have k:=@vf v x;induction v using V.casesOn<;>first
  |exact k q
  | (obtain⟨a,rfl,_⟩:=q;rfl)
  | (obtain⟨a,b,rfl,_⟩:=q;rfl)
theorem zkV{o:Obj}{nm:Str}{n:Nat}{y:Value}(ok:Ok C)(hm:(nm,n)∈zaD)(hl:lookIn nm o=some (some y)):findObj C.K zcS (some o) nm=some (.value y):=by refine xea (any_some ok.kf.hd) λcd hc hd=>?_;unfold findObj;refine rwl hc ?_;rw[Option.bind_some];refine rwl (ok.kf.attrs nm n hm) ?_;unfold PySem.W.ownOf;refine rwl (if_pos hd) ?_;simp only[hl,OB]
theorem zei(ok:Ok C)(bas:Gle C.base.get? g)(R:Rel prog C.w g as h s.heap):C.K.In s.heap:=ok.kin.keeps λb o e=>R.frz b o (bas b o e)
theorem zkY{i:Nat}{kC:List (Nat×V)}{x:Value}{nm:Str}{n:Nat}{v:V}{expr:Bool}(ok:Ok C)(bas:Gle C.base.get? g)(R:Rel prog C.w g as h s.heap)(hi:h[i]?=some (.attrs kC))(q:zah prog C.w g as (.inst i) x)
  (ha:zaD.lookup nm=some n) (hv:kC.lookup n=some v):wpAny (Md C) A (getAttr x nm expr) (zay C g as s v h) No s:=by
 refine seeeqaaaz (zfZ R hi q) λa dx o hdx hg ho x0=>?_;refine xa x0 λar I=>?_
 refine zdG ar λhc es m hd hk _ _ hf=>?_
 have:=hf nm
 rw[ha]at this
 simp only[OB,hv]at this
 refine xea this λy hy r=>?_
 refine get_value (zei ok bas R) I ok.kf.ga (zkV ok (zae ha) (by rw[zek hd hk,hy])) (zl6 r) ?_
 exact zay.pure R r _
theorem Ev.attr{e:Expr}{nm:Str}{pos:Pos}{i n:Nat}{kC:List (Nat×V)}{v:V}(H1:Ev C l sc Γ vs e h (.inst i) hJ)(hi:hJ[i]?=some (.attrs kC))(ha:zaD.lookup nm=some n)(hv:kC.lookup n=some v)
  (he:∀env,eval (.Attribute e nm pos) env=(do
   let o <-eval e env
   standAt pos.atName
   let r <-holding [o] (getAttr o nm true)
   letTemporaryGo e o r
   pure r)):Ev C l sc Γ vs (.Attribute e nm pos) h v hJ:=by
 intro A env g as s a
 exact Attribute_any_ (one (P:=λo=>getAttr o nm true) H1 a λg' as' s' p a' hp=>zkY a'.ok a'.bas a'.rel hi hp ha hv) (he env)
theorem zpK{i:Nat}{kC:List (Nat×V)}{x:Value}{nm:Str}{fa:Addr}{pl:Sem Bool}{Q:Value×List Value->Shared->Prop}(ok:Ok C)(bas:Gle C.base.get? g)(R:Rel prog C.w g as h s.heap)(hi:h[i]?=some (.attrs kC))(q:zah prog C.w g as (.inst i) x)
  (hn:zaD.lookup nm=none) (hf:findIn C.K (.ref zcS) nm=some (some (.ref fa))) (ht:typeIn C.K (.ref fa)=some (.type "function")) (hQ:Q (.ref fa,[x]) s):wpAny (Md C) A (getMethod x nm pl) Q No s:=by
 refine zbe (zfZ R hi q) λa dx o x0 hdx hg ho r0=>?_;subst x0;refine xa r0 λar I=>?_
 refine zdG ar λhc es m hd hk _ _ hff=>?_
 have:=hff nm
 rw[hn]at this
 simp only[Option.bind_none]at this
 refine method_fn (zei ok bas R) I ok.kf.ga ok.kf.gt hf ht ?_ hQ
 unfold shadowIn
 simp only[zek hd hk,this];rfl
theorem zpm{nm nm':Str}{n:Nat}(h1:zaD.lookup nm=some n)(h2:zaD.lookup nm'=some n):nm=nm':=by exact(by decide+kernel:∀p∈zaD,∀q∈zaD,p.2=q.2->p.1=q.1) _ (zae h1) _ (zae h2) rfl
set_option tactic.hygienic true in
theorem zmh{kC:List (Nat×V)}{n k:Nat}{x:V}:(if kC.any (·.1==n) then kC.map (λp=>if p.1==n then(n,x) else p) else kC++[(n,x)]).lookup k=if k=n then some x else kC.lookup k:=by
 split
 ·rename_i hany;induction kC with
  |nil=>simp at hany
  |cons p r ih=>
   obtain⟨a,b⟩:=p;by_cases ha:a=n
   ·subst ha;simp only[List.map_cons,beq_self_eq_true,if_true,List.lookup_cons];by_cases hk:k=a
    ·simp[hk]
    ·have hb:(k==a)=false:=by simpa using hk
     simp only[hb,hk];have:∀(l:List (Nat×V)),(l.map λp=>if p.1==a then(a,x) else p).lookup k=l.lookup k:=by
      intro l;induction l with
      |nil=>rfl
      |cons q l ih=>
       obtain⟨c,d⟩:=q;by_cases hc:c=a
       ·subst hc;simp only[List.map_cons,beq_self_eq_true,if_true,List.lookup_cons,hb];exact ih
       ·have hc':(c==a)=false:=by simpa using hc
        simp only[List.map_cons,hc',Bool.false_eq_true,if_false,List.lookup_cons];exact rwl ih rfl
     exact this r
   ·have hany':r.any (·.1==n)=true:=by simpa[ha] using hany
    refine rwl (by simp[ha]:(((a,b)::r).map λp=>if p.1==n then(n,x) else p)=(a,b)::r.map λp=>if p.1==n then(n,x) else p) ?_;refine rwl List.lookup_cons ?_;refine rwl List.lookup_cons ?_;by_cases hk:k=a
    ·subst hk;simp[ha]
    ·exact rwl (by simpa using hk:(k==a)=false) (ih hany')
 ·rename_i hany;refine rwl List.lookup_append ?_;have hn:kC.lookup n=none:=by
   generalize e:kC.lookup n=x0;induction x0 using Option.casesOn with
   |none=>rfl
   |some v=>exact absurd (List.any_eq_true.mpr ⟨_,zeT e,by simp⟩) hany
  by_cases hk:k=n
  ·subst hk;simp[hn]
  ·simp[List.lookup_cons,(by simpa using hk:(k==n)=false),hk]
theorem zmj{es:Array DictEntry}{nm x:Str}{hs:Int}{t:Tok}{v:Value}(hk:StrKeys es):∃es',StrKeys es'/\(∀(o:Obj) n,o.data=.dict es n->∃n',(Obj.putName nm hs (.str nm t) v o).data=.dict es' n'/\(Obj.putName nm hs (.str nm t) v o).cls=o.cls)/\
  (∀x,nsFind es' x=if x=nm then some v else nsFind es x)/\(nsFind es nm≠none->es'.size=es.size)/\es'.size<=es.size+1:=by
 generalize hi:es.findIdx? (·.key.isStr nm)=x0;induction x0 using Option.casesOn with
 |some i=>refine zk3 (es.modify i λe=>{ e with val:=v }) (hk.modify _ _) (λo n hd=>?_) (λx=>findBy_modify (λn v=>v.isStr n) Value.isStr_inj es nm x v i hi) (λ_=>by simp) (by simp);obtain⟨c,d,dt,sl⟩:=o;subst hd;exact iea n (by simp only[Obj.putName_eq,Obj.putNameByArray,hi]) (by simp only[Obj.putName_eq,Obj.putNameByArray,hi])
 |none=>
  refine zk3 (es.push ⟨hs,.str nm t,v⟩) (hk.push _ _ _ _) (λo n hd=>?_) (λx=>?_) (λq=>?_) (by simp)
  ·obtain⟨c,d,dt,sl⟩:=o;subst hd;exact iea (n+1) (by simp only[Obj.putName_eq,Obj.putNameByArray,hi]) (by simp only[Obj.putName_eq,Obj.putNameByArray,hi])
  ·exact findBy_push (λn v=>v.isStr n) es nm x _ _ v (λy=>by
    show (nm==y)=decide (y=nm);by_cases h:y=nm
    ·subst h;simp
    ·have:¬ nm=y:=λe=>h e.symm;simp[h,this]) hi
  ·exfalso;apply q;unfold nsFind findBy;have:es.find? (λe=>e.key.isStr nm)=none:=by rw[Array.find?_eq_none];intro e he;have:=Array.findIdx?_eq_none_iff.mp hi e he;simpa using this
   rw[this];rfl
set_option tactic.hygienic true in
theorem zll{o v:V}{n:Nat}{x y:Value}{nm:Str}(hb:setAttr h o n v=some h')(ok:Ok C)(bas:Gle C.base.get? g)(R:Rel prog C.w g as h s.heap)(q:zah prog C.w g as o x)(ha:zaD.lookup nm=some n)(r:zah prog C.w g as v y):
  wpAny (Md C) A (PySem.setAttr x nm y) (λ_ s'=>zrg C g as s h' s') No s:=by
 refine be hb λi q1 q2=>be q2 λkC hi q3=>ite_x q3 λhl8 q4=>?_
 clear hb q2 q3
 have q1:=zdV q1
 subst q1
 have hi:=zds hi
 have r0:=Option.some.inj q4;subst r0
 refine seeeqaaaz (zfZ R hi q) λa dx o hdx hg ho x0=>?_;refine xa x0 λar I=>?_
 refine zdG ar λhc es m hd hk hsz hk9 hf=>?_
 have X:=zei ok bas R
 refine xea (any_some ok.kf.hd) λcd hcd hhd=>?_
 refine set_plain X I ok.kf.sa ?_
 obtain⟨hh,gs,dr,tk,os⟩:=s
 have X':C.K.In hh:=X
 have I':InstAt (Shared.heap ⟨hh,gs,dr,tk+1,os⟩) a (instObj zcS dx) zcS (some o):=I
 refine osa_open (s:=⟨hh,gs,dr,tk+1,os⟩) X I' ok.kf.po (r:=none) (by unfold takerIn;rw[ok.kf.attrs nm n (zae ha)];rfl) λb=>?_
 refine zrb (zmj (nm:=nm) (x:=nm) (hs:=PyData.keyHash C.w.params nm) (t:=tk+1) (v:=y) hk) λes' k1 k2 k3 k4 k5=>?_
 refine xea (k2 o m hd) λn' hd' hc'=>?_
 have hfr:(Obj.putName nm (PyData.keyHash C.w.params nm) (.str nm (tk+1)) y o).isFreed=false:=Obj.isFreed_of_dict hd'
 have D':(hh.update dx (Obj.putName nm (PyData.keyHash C.w.params nm) (.str nm (tk+1)) y)).get? dx=some (Obj.putName nm (PyData.keyHash C.w.params nm) (.str nm (tk+1)) y o):=Heap.get?_update_self _ ho hfr
 have hsz':es'.size<=20:=by exact lnB 0 1 0 8 0 20 k5 (lnB 0 0 0 8 0 8 hsz hl8 rfl) rfl
 refine wpAny_bind (wpAny_pure (wpAny_bind (wpAny_bind (wpAny_loadPart I'.at_ (wpAny_bind ((looks_clsIn (M:=Md C) X' hcd).at ?_))))))
 rw[hhd]
 refine wpAny_pure (a:=some dx) (wpAny_bind (wpAny_pure (wpAny_bind ?_)))
 unfold nsSet
 refine wpAny_bind (wpAny_bind (wpAny_askSetting (wpAny_pure (wpAny_bind (wpAny_mkText (wpAny_bind (wpAny_loadPart ho ?_)))))))
 rw[hd]
 dsimp only
 have c:(!es.any (·.key.isStr nm)&&es.any (·.refKey))=false:=by rw[<-Array.any_toList,<-Array.any_toList,zi5 hk,Bool.and_false]
 rw[aRefKeyMayBeTheName_at,c]
 refine wpAny_updatePart ho ?_
 refine wpAny_bind (wpAny_lookBehind D' (by rw[hd'];exact pastItsLine_dict (by rw[sizeLine_eq];exact Nat.le_trans hsz' (by decide))) ?_)
 refine wpAny_pure ?_
 have hAR:AR prog C.w g as (Obj.putName nm (PyData.keyHash C.w.params nm) (.str nm (tk+1)) y o) (if kC.any (·.1==n) then kC.map (λp=>if p.1==n then(n,v) else p) else kC++[(n,v)]):=by
  refine⟨hc'.trans hc,es',n',hd',k1,?_,?_,λz=>?_⟩
  ·split
   ·rename_i hany;have:nsFind es nm≠none:=by
     have:=hf nm;rw[ha]at this;simp only[OB]at this;refine xea (List.any_eq_true.mp hany) λp hp hpn=>?_;have hpn':p.1=n:=by simpa using hpn
     generalize e:kC.lookup n=t0;induction t0 using Option.casesOn with
     |none=>have:=List.lookup_eq_none_iff.mp e p hp;simp[hpn']at this
     |some u=>rw[e]at this;obtain⟨y',hy',_⟩:=this;rw[hy'];simp
    rw[k4 this,List.length_map];exact hsz
   ·rw[List.length_append,List.length_singleton];exact lnB 0 1 0 0 0 1 k5 hsz rfl
  ·split
   ·rw[List.length_map];exact Nat.le_succ_of_le hl8
   ·rw[List.length_append,List.length_singleton];exact Nat.lt_succ_of_le hl8
  ·have:=hf z;rw[k3 z];generalize ez:zaD.lookup z=b0;induction b0 using Option.casesOn with
   |none=>rw[ez]at this;simp only[Option.bind_none]at this ⊢;rw[if_neg λe=>by rw[e,ha]at ez;exact nos (Eq.symm ez)];exact this
   |some k=>
    rw[ez]at this;simp only[OB,zmh]at this ⊢;by_cases hkn:k=n
    ·subst hkn;have:=zpm ez ha;subst this;simp only[if_true];exact⟨y,rfl,r⟩
    ·rw[if_neg hkn,if_neg λe=>hkn (by rw[e,ha]at ez;have r0:=Option.some.inj ez;subst r0;rfl)];exact this
 refine xa (R.write (s:=⟨hh,gs,dr,tk,os⟩) (o':=.attrs (if kC.any (·.1==n) then kC.map (λp=>if p.1==n then(n,v) else p) else kC++[(n,v)])) hdx hi (by simp) (Heap.SameBut.update hh dx _) ⟨_,D',hAR⟩ ⟨_,D'⟩ (by simp) (tk+1+1)) λw1 w2=>?_
 exact⟨_,_,w2,w1⟩
end
section
variable {C:Cx}{l:Nat}{sc:Scope}{Γ Γw:Gam}{vs vs1 vs':Vs}{A:Around}{env:Env}{g g':Gm}{as as':List Addr}{h hJ hO hX h':H}{s s':Shared}{fl:Fl}
def zjm(C:Cx)(g:Gm)(as:List Addr)(us:List V)(xs:List Value):Prop:=xs.length=us.length/\∀(i:Nat) v,us[i]?=some v->∃x,xs[i]?=some x/\zah prog C.w g as v x
def zcB(C:Cx)(g:Gm)(as:List Addr)(s:Shared)(v:V)(h':H)(r:Result)(s':Shared):Prop:=match r with
 | .ok (.ret x)=>zay C g as s v h' x s'
 |_=>False
theorem zcB.wp{M:Model}{f:Value}{xs:List Value}{v:V}(q:codeAny M A (.call f ⟨xs,[]⟩) (zcB C g as s v h') s):wpAny M A (call f xs) (zay C g as s v h') No s:=
 wpAny_call (codeAny_mono q λr s' z=>by
  match r,z with
  | .ok (.ret x),z=>exact z
  | .ok .next,z=>exact z.elim
  | .ok .brk,z=>exact z.elim
  | .ok .cont,z=>exact z.elim
  | .error _,z=>exact z.elim)
def zfA(C:Cx)(l:Nat)(f:F)(us:List V)(h:H)(v:V)(h':H):Prop:=
 ∀A g as s a xs,AOk l A->Ok C->Gle C.base.get? g->Rel prog C.w g as h s.heap->FnObj C a f->zjm C g as us xs->codeAny (Md C) A (.call (.ref a) ⟨xs,[]⟩) (zcB C g as s v h') s
def zmP(C:Cx)(l:Nat)(tx:List Nat)(i:Nat)(us:List V)(h:H)(v:V)(h':H):Prop:=
 ∀A g as s a xs,AOk l A->Ok C->Gle C.base.get? g->Rel prog C.w g as h s.heap->zmO g as a tx i->zjm C g as us xs->codeAny (Md C) A (.call (.ref a) ⟨xs,[]⟩) (zcB C g as s v h') s
structure PhiOk (C:Cx) (l:Nat) (Φ:PA):Prop where
 fn:∀f us h v h',Φ f us h=some (v,h')->Nat.beq f 30=false->zfA C l f us h v h'
 gv:∀tx i x h v h',Φ 30 [.give tx i,x] h=some (v,h')->zmP C l tx i [x] h v h'
theorem AOk.up(a:AOk l A)(hl:l+1<=60):AOk (l+1) A:=⟨a.1,by have:=a.2.1;lia,by have:=a.2.2.1;lia,hl⟩
theorem Ev.call{nm:Str}{f:F}{p pos:Pos}{es:List Expr}{us:List V}{v:V}(hf:sc.names.lookup nm=some .globalImplicit)(hm:(nm,f)∈zhp)(hpl:∀env,(backTo pos (starEach es env)).any (·.1)=false)(hl:l+1<=60)
  (H1:EvL C l sc Γ vs es h us hJ) (H2:zfA C (l+1) f us hJ v h'):Ev C l sc Γ vs (.Call (.Name nm p) es [] pos) h v h':=by
 intro A env g as s a
 refine xea (a.ok.kf.fns nm f hm) λfa hns hd=>?_
 have hnd:(nm==("__debug__":Str))=false:=by exact(by decide+kernel:∀p∈zhp,(p.1==("__debug__":Str))=false) _ hm
 have hfo:=zdw a.ok hd
 refine zih (id hfo) λd o fd e1 e2 e3 r=>?_
 refine wpAny_Call_NameR (zf4 a hf hnd (mg_of a.ok.kin a.ok.ng hns) ?_)
 refine callWith_function (o:=o) (fd:=fd) (zbN (hpl env) (wpAny_mono (H1 A env g as s pos a) (λxs sA z=>?_) λ_ _ z=>z))
 refine zbp z λgB asA xA rB hl' hv=>?_
 exact⟨⟨rB.frz _ _ ((a.step xA rB).bas _ _ e2),e3⟩,wpAny_mono (zcB.wp (H2 A gB asA sA fa xs (a.aok.up hl) a.ok (a.step xA rB).bas rB hfo ⟨hl',hv⟩)) (λ_ _ p=>p.after xA) λ_ _ z=>z⟩
theorem zkv{K:Frag}{a:Addr}{qual:Str}{f:F}(hd:zmN K a qual f):typeIn K (.ref a)=some (.type "function"):=by refine zeA hd λd name oc od osl an cdv x0=>?_;refine zbe x0 λct doc pm h1 h2 h3 h4 _=>?_;show (K.lookup a).map (·.cls)=_;rw[h2,h4];rfl
theorem zj3{nm:Str}{f:F}(hm:(nm,f)∈zcp):zaD.lookup nm=none:=by simpa using (by decide+kernel:∀p∈zcp,(zaD.lookup p.1).isNone=true) _ hm
theorem Ev.meth{o:Expr}{nm:Str}{f:F}{apos pos:Pos}{es:List Expr}{i:Nat}{kC:List (Nat×V)}{us:List V}{v:V}(hm:(nm,f)∈zcp)(hbase:∀env whole,attributeBase o nm env whole=whole)(hline:(apos.endLine==pos.line)=true)
  (hform:∀env,methodCallForm (es.length+0) (backTo pos (starEach es env)) []=true) (hpl:∀env,(backTo pos (starEach es env)).any (·.1)=false) (hl:l+1<=60)
  (H1:Ev C l sc Γ vs o h (.inst i) hJ) (hi:hJ[i]?=some (.attrs kC)) (H2:EvL C l sc Γ vs es hJ us hO) (H3:zfA C (l+1) f (.inst i::us) hO v h'):Ev C l sc Γ vs (.Call (.Attribute o nm apos) es [] pos) h v h':=by
 intro A env g as s a
 rw[arm_eval_Call,hbase]
 refine wpAny_bind (wpAny_mono (H1 A env g as s a) (λp sA z=>?_) λ_ _ e=>e)
 refine zaj z λgB asA xA rB vA=>?_
 refine wpAny_bind (wpAny_standAt ?_)
 have hpos:methodCallPos true o env apos pos=pure pos:=by unfold methodCallPos;simp[hline]
 have aA:=a.step xA rB
 refine zc0 (a.ok.kf.meths nm f hm) λfa qual hfi hd=>?_
 refine zih (id (zdw a.ok hd)) λd ob fd e1 e2 e3 r=>?_
 have fin:wpAny (Md C) A (callWith pos (.ref fa) [p] (backTo pos (starEach es env)) []) (zay C g as s v h') No sA:=by
  refine callWith_function (o:=ob) (fd:=fd) (zbN (hpl env) (wpAny_mono (H2 A env gB asA sA pos aA) (λxs sE z=>?_) λ_ _ z=>z));refine zbp z λgD asB xB rC hl' hv=>?_;refine⟨⟨rC.frz _ _ ((aA.step xB rC).bas _ _ e2),e3⟩,wpAny_mono (zcB.wp (H3 A gD asB sE fa (p::xs) (a.aok.up hl) a.ok (aA.step xB rC).bas rC (zdw a.ok hd) ⟨by simp[hl'],λj u e=>?_⟩)) (λ_ _ p=>p.after (xA.trans xB)) λ_ _ z=>z⟩;induction j using Nat.casesAuxOn with
  |zero=>simp at e;subst e;exact⟨p,by simp,xB.rep vA⟩
  |succ j=>simpa using hv j u (by simpa using e)
 unfold methodCall
 refine rwl (hform env) ?_
 refine wpAny_bind (wpAny_holding ?_)
 refine zpK a.ok aA.bas rB hi vA (zj3 hm) hfi (zkv hd) ?_
 exact wpAny_bind (wpAny_of_eq hpos fin)
theorem Ev.read{o:Expr}{apos pos:Pos}{e:Expr}{i j:Nat}{kC:List (Nat×V)}{tx:List Nat}{u v:V}(hbase:∀env whole,attributeBase o ("read":Str) env whole=whole)(hline:(apos.endLine==pos.line)=true)
  (hform:∀env,methodCallForm (1+0) (backTo pos (starEach [e] env)) []=true) (hpl:∀env,(backTo pos (starEach [e] env)).any (·.1)=false) (hl:l+1<=60)
  (H1:Ev C l sc Γ vs o h (.inst i) hJ) (hi:hJ[i]?=some (.attrs kC)) (hr:kC.lookup ziY=some (.give tx j)) (H2:EvL C l sc Γ vs [e] hJ [u] hO) (H3:zmP C (l+1) tx j [u] hO v h'):
  Ev C l sc Γ vs (.Call (.Attribute o ("read":Str) apos) [e] [] pos) h v h':=by
 intro A env g as s a
 rw[arm_eval_Call,hbase]
 refine wpAny_bind (wpAny_mono (H1 A env g as s a) (λp sA z=>?_) λ_ _ e=>e)
 refine zaj z λgB asA xA rB vA=>?_
 refine wpAny_bind (wpAny_standAt ?_)
 have hpos:methodCallPos true o env apos pos=pure pos:=by unfold methodCallPos;simp[hline]
 refine zdy λX kX=>?_
 have aA:=a.step xA rB
 obtain⟨xa,dx,od,rfl,hdx,hgx,hod,ar,I⟩:=zfZ rB hi vA
 refine zdG ar λhc es m hd hk _ _ hff=>?_
 have ha:zaD.lookup ("read":Str)=some ziY:=by decide+kernel
 have hy:=hff ("read":Str)
 rw[ha]at hy
 simp only[OB,hr]at hy
 refine xea hy λy hy q=>?_
 refine xea q λfa x0 G=>?_;subst x0
 refine kX ?_
 unfold methodCall
 refine rwl (hform env) ?_
 refine wpAny_bind (wpAny_holding ?_)
 refine method_usual (zei a.ok aA.bas rB) I a.ok.kf.ga a.ok.kf.gt (a.ok.kf.attrs _ _ (zae ha)) rfl ?_
 refine get_value (zei a.ok aA.bas rB) I a.ok.kf.ga (zkV a.ok (zae ha) (by rw[zek hd hk,hy])) rfl ?_
 have xt:=Ext.tick gB asA sA (sA.toks+1)
 have aB:At C l sc Γ vs A env gB asA hJ { sA with toks:=sA.toks+1 }:=aA.step xt rB
 refine wpAny_bind (wpAny_of_eq hpos ?_)
 refine zeA (id G) λfd qual cA cT oA oT yy r0=>?_;refine xea r0 λt e1 _=>?_
 refine callWith_function (o:=⟨.type "function",none,.func fd,#[]⟩) (fd:=fd) (zbN (hpl env) (wpAny_mono (H2 A env gB asA _ pos aB) (λxs sE z=>?_) λ_ _ z=>z))
 refine zbp z λgD asB xB rC hl' hv=>?_
 refine⟨⟨rC.frz _ _ (xB.gle _ _ e1),rfl⟩,wpAny_mono (zcB.wp (H3 A gD asB sE fa xs (a.aok.up hl) a.ok (aB.step xB rC).bas rC (G.mono xB.gle xB.pre) ⟨hl',hv⟩)) (λ_ _ p=>p.after ((xA.trans xt).trans xB)) λ_ _ z=>z⟩
theorem ar_nil:AR prog C.w g as emptyDict []:=by
 refine⟨rfl,#[],0,rfl,λe he=>by simp at he,by simp,by simp,λnm=>?_⟩;have:((zaD.lookup nm).bind λk=>([]:List (Nat×V)).lookup k)=none:=by generalize zaD.lookup nm=x0;induction x0 using Option.casesOn<;>rfl
 refine rwl this ?_;rfl
theorem Ev.mk{p pos:Pos}{e:Expr}{u:V}(hf:sc.names.lookup ("_netrclex":Str)=some .globalImplicit)(hpl:∀env,(backTo pos (starEach [e] env)).any (·.1)=false)(hl:l+1<=60)
  (H1:EvL C l sc Γ vs [e] h [u] hJ) (H2:zfA C (l+1) 26 [.inst hJ.length,u] (hJ++[.attrs []]) .none h'):Ev C l sc Γ vs (.Call (.Name ("_netrclex":Str) p) [e] [] pos) h (.inst hJ.length) h':=by
 intro A env g as s a
 refine wpAny_Call_NameR (zf4 a hf (by decide) (mg_of a.ok.kin a.ok.ng a.ok.kf.cls) ?_)
 refine callWith_of (P:=λhp=>C.K.In hp) (by rw[hpl env];rfl) (keeps_K a.ok.kf.keep) (zbN (hpl env) (wpAny_mono (H1 A env g as s pos a) (λxs sA z=>?_) λ_ _ z=>z))
 refine zbp z λgB asA xA rB hl' hv=>?_
 have X:=zei a.ok (a.step xA rB).bas rB
 refine ia X ?_
 refine seqz (zio hl' hv) λy q=>?_
 refine zc0 (a.ok.kf.meths ("__init__":Str) 26 (.head _)) λfa qual hfi hd=>?_
 refine xa (rB.alloc_mut (ob:=.attrs []) (zas sA.heap) (Heap.get?_push_size _ rfl) (λ_ _ e=>Heap.get?_push_of_some _ e) ⟨_,(Heap.get?_push_size _ rfl),ar_nil⟩ sA.toks) λrC xB=>?_
 refine xa (rC.push (s:={ sA with heap:=sA.heap.push emptyDict }) (instObj zcS sA.heap.objs.size) rfl sA.toks) λrD xC=>?_
 dsimp only at rD xC
 rw[(Heap.size_push ..)]at rD xC
 have vI:zah prog C.w (zby gB (sA.heap.objs.size+1) (instObj zcS sA.heap.objs.size)) (asA++[sA.heap.objs.size]) (.inst hJ.length) (.ref (sA.heap.objs.size+1)):=⟨_,_,rfl,zat ..,by rw[<-rB.len];simp⟩
 obtain⟨hh,gs,dr,tk,os⟩:=sA
 refine wpAny_call (make_core (C:=zcS) (makes_of X a.ok.kf.makes) (looks_findIn X hfi) (λself=>bind_fn X self (zkv hd)) (.inl rfl) ?_)
 have ak:AOk (l+1) (A.under (.builtin "type.__call__" ⟨[.ref zcS,y],[]⟩)):=by
  refine zig a.aok λb1 b2 b3 b4=>?_;refine iaaa b1 ?_ ?_ hl
  ·show A.depth+Code.weight _<=_;have:Code.weight (.builtin "type.__call__" ⟨[.ref zcS,y],[]⟩)=1:=by rfl
   lia
  ·show A.units+Code.cUnits _<=_;have:Code.cUnits (.builtin "type.__call__" ⟨[.ref zcS,y],[]⟩)=1:=by rfl
   lia
 have z:=H2 _ _ _ ⟨(hh.push emptyDict).push (instObj zcS hh.objs.size),gs,dr,tk,os⟩ fa [.ref (hh.objs.size+1),y] ak a.ok (((a.step xA rB).bas.trans xB.gle).trans xC.gle) rD (zdw a.ok hd) ⟨rfl,λi v e=>by
  match i,e with
  |0,e=>have r0:=Option.some.inj e;subst r0;exact⟨_,rfl,vI⟩
  |1,e=>have r0:=Option.some.inj e;subst r0;exact⟨_,rfl,(q.mono (xB.gle.trans xC.gle) xB.pre)⟩⟩
 refine codeAny_mono z λr s' w=>?_
 match r,w with
 | .ok (.ret x),w=>refine zaj w λgF as4 xD rE v4=>?_;exact⟨v4.none_inv,gF,as4,((xA.trans xB).trans xC).trans xD,rE,xD.rep vI⟩
 | .ok .next,w=>exact w.elim
 | .ok .brk,w=>exact w.elim
 | .ok .cont,w=>exact w.elim
 | .error _,w=>exact w.elim
theorem Ex.setA{o e:Expr}{nm:Str}{n:Nat}{px pos:Pos}{x ov:V}(hs:∀env,swapsWith e (some (.Attribute o nm px)) pos.line env=pure false)(ha:zaD.lookup nm=some n)
  (H1:Ev C l sc Γ vs e h x hJ) (H2:Ev C l sc Γ vs o hJ ov hO) (hb:Internal.setAttr hO ov n x=some h'):Ex C l sc Γ Γw (.Assign [.Attribute o nm px] e pos) vs h .next vs h':=by
 intro A env g as s a
 refine plainObj_wpAny_Assign_Attribute (wpAny_mono (H1 A env g as s a.at_) (λy sA z=>?_) λ_ _ z=>z) (hs env)
 refine zaj z λgB asA xA rB vA=>?_
 have aA:=a.step xA rB
 refine wpAny_mono (H2 A env gB asA sA aA.at_) (λp sE z=>?_) λ_ _ z=>z
 refine zaj z λgD asB xB rC vB=>?_
 have aB:=aA.step xB rC
 refine wpAny_mono (zll hb aB.at_.ok aB.at_.bas rC vB ha (xB.rep vA)) (λ_ sB z=>?_) λ_ _ z=>z
 refine zc0 z λgE as3 xC rD=>?_
 exact zbT gE as3 (((xA.trans xB).trans xC).toS) (aB.step xC rD) trivial
theorem Ex.augA{o e:Expr}{nm:Str}{n i:Nat}{kC:List (Nat×V)}{tpos pos:Pos}{u y z:V}(ha:zaD.lookup nm=some n)
  (H1:Ev C l sc Γ vs o h (.inst i) hJ) (hi:hJ[i]?=some (.attrs kC)) (hu:kC.lookup n=some u) (H2:Ev C l sc Γ vs e hJ y hO) (hz:zpj u y=some z) (hb:Internal.setAttr hO (.inst i) n z=some h'):
  Ex C l sc Γ Γw (.AugAssign (.Attribute o nm tpos) .Add e pos) vs h .next vs h':=by
 intro A env g as s a
 refine wpAny_AugAssign_AttributeAny (wpAny_mono (H1 A env g as s a.at_) (λp sA w=>?_) λ_ _ z=>z)
 refine zaj w λgB asA xA rB vA=>?_
 have aA:=a.step xA rB
 refine wpAny_mono (zkY aA.at_.ok aA.at_.bas rB hi vA ha hu) (λold sE w=>?_) λ_ _ z=>z
 refine zaj w λgD asB xB rC vB=>?_
 refine wpAny_mono (H2 A env gD asB sE (aA.step xB rC).at_) (λq sB w=>?_) λ_ _ z=>z
 refine zaj w λgE as3 xC rD vC=>?_
 refine wpAny_mono (zmQ hz rD (xC.rep vB) vC) (λnv s4 w=>?_) λ_ _ z=>z
 refine zaj w λgF as4 xD rE v4=>?_
 have aE:=((aA.step xB rC).step xC rD).step xD rE
 refine wpAny_mono (zll hb aE.at_.ok aE.at_.bas rE (xD.rep (xC.rep (xB.rep vA))) ha v4) (λ_ s5 w=>?_) λ_ _ z=>z
 refine zc0 w λg5 as5 xE r5=>?_
 exact zbT g5 as5 (((((xA.trans xB).trans xC).trans xD).trans xE).toS) (aE.step xE r5) trivial
end
noncomputable def zd5(f:F)(k:Nat)(us:List V):Option (List V):=if Nat.beq f 30=true then(zqu us).bind λp=>(zgU p.1).map λq=>[p.2,.uA,.obj q.2,.str q.1] else if us.length=k then some us else none
noncomputable def flV(f:Fl):V:=by
 induction f using Fl.casesOn with
 |ret v=>exact v
 |_=>exact .none
noncomputable def zgR(f:F)(h:H)(R:Option (Fl×Vs×H)):Option (V×H):=R.bind λr=>if Nat.beq f 26=true then some (flV r.1,r.2.2) else if refOk h.length (flV r.1)=true/\(r.2.2.take h.length).all (obOk h.length)=true then some (flV r.1,r.2.2.take h.length) else none
noncomputable def zjv(Φ:PA)(f:F)(us:List V)(h:H):Option (V×H):=
 (zbx f).bind λd=>(zd5 f (zai d).2.1 us).bind λargs=>zgR f h (eF Φ (zai d).2.2 (args++List.replicate ((zai d).1+6-args.length) .uA,h))
noncomputable def zac:Nat->PA
 |0=>λ_ _ _=>none
 |n+1=>zjv (zac n)
section
variable {C:Cx}{l:Nat}{A:Around}{env:Env}{g g':Gm}{as as':List Addr}{h hJ hO hX h':H}{s s':Shared}{fl:Fl}
noncomputable def flwV:Flow->Value
 | .ret v=>v
 |_=>.none
theorem znl{f:Flow}(q:FlR C g as fl f):zah prog C.w g as (flV fl) (flwV f):=by
 induction fl using Fl.casesOn with
 |next=>have r0:=q.next_inv;subst r0;exact .none
 |brk=>have r0:=q.brk_inv;subst r0;exact .none
 |cont=>have r0:=q.cont_inv;subst r0;exact .none
 |ret v=>obtain⟨x,rfl,r⟩:=q.ret_inv;exact r
end
theorem zbP:Slot "callable_iterator" "__next__" "callable_iterator.__next__":=
 .of (owner:="callable_iterator") (n:="__next__") (by rw[typeLookup_type,builtinLookup_eq_fast];kernel_rfl) (by decide+kernel) (by decide+kernel) (by decide+kernel)
  (by first|exact .inl (by decide+kernel)|exact .inr (by decide+kernel)) (by rw[isSubtype_type];kernel_rfl)
theorem zea:entryFor table "callable_iterator.__next__"=some Builtin.«callable_iterator.__next__»:=entryFor_of_tree (by kernel_rfl)
theorem zfa(a:Value):argsOk "callable_iterator.__next__" ⟨[a],[]⟩:=by unfold argsOk;kernel_rfl
theorem zfg:Slot "callable_iterator" "__iter__" "callable_iterator.__iter__":=
 .of (owner:="callable_iterator") (n:="__iter__") (by rw[typeLookup_type,builtinLookup_eq_fast];kernel_rfl) (by decide+kernel) (by decide+kernel) (by decide+kernel)
  (by first|exact .inl (by decide+kernel)|exact .inr (by decide+kernel)) (by rw[isSubtype_type];kernel_rfl)
theorem zhf:entryFor table "callable_iterator.__iter__"=some Builtin.«dict_keyiterator.__iter__»:=
 entryFor_alias (id':="dict_keyiterator.__iter__") (by kernel_rfl) (by first|rfl|decide+kernel| (unfold String.splitOn;simp+decide [String.splitOnAux])) (by decide+kernel) (by kernel_rfl)
theorem ziq(a:Value):argsOk "callable_iterator.__iter__" ⟨[a],[]⟩:=by unfold argsOk;kernel_rfl
theorem zfk:typeLookup (.type "method") "__call__"=pure (some (.builtin "method.__call__")):=by rw[typeLookup_type,builtinLookup_eq_fast];kernel_rfl
theorem znZ:builtinKind "iter"=none:=by decide+kernel
theorem zmo:plainId "iter"=true:=by decide+kernel
theorem zlW:entryFor table "iter"=some Builtin.«iter»:=entryFor_of_tree (by kernel_rfl)
theorem zmV(a b:Value):argsOk "iter" ⟨[a,b],[]⟩:=by unfold argsOk;kernel_rfl
theorem zmY:bootBuiltins "iter"=some (.builtin "iter"):=by decide+kernel
section
variable {prog:Program}{w:World}{A:Around}{E:Value->Shared->Prop}{s:Shared}
theorem zez{M:Model}{f:Value}{pos:List Value}{Q:Value->Shared->Prop}
  (hc:codeAny M A (.call f ⟨pos,[]⟩) (λr s'=>match r with| .ok (.ret v)=>Q v s'| .ok _=>False| .error e=>E e s') s):wpAny M A (callBorrowed f pos) Q E s:=fun Γ p hΓ=>by
 have:=hc _ p rfl (hΓ.enter (.call f ⟨pos,[]⟩) none p (by intro x;exact nos x))
 refine wpCode_mono (λr s' h=>?_) this
 match r,h with
 | .ok (.ret v),h=>exact h
 | .ok .next,h=>exact h.elim
 | .ok .brk,h=>exact h.elim
 | .ok .cont,h=>exact h.elim
 | .error e,h=>exact h
theorem zey{M:Model}{b fn:Addr}{x:Value}{o:Obj}{fd:FuncData}{Q:Bool->Shared->Prop}(hb:s.heap.get? b=some (methodObj (.ref fn) x))(hf:s.heap.get? fn=some o)(hd:o.data=.func fd)(h:Q true s):wpAny M A (borrowsExactly (.ref b)) Q E s:=by refine wpAny_bind (wpAny_load hb ?_);refine wpAny_bind (wpAny_load hf ?_);refine rwl hd ?_;exact wpAny_pure h
theorem zfi{α:Type}{M:Model}{Q:α->Shared->Prop}(hh:A.handled=none)(hE:∀h' e,(∀b o,s.heap.get? b=some o->h'.get? b=some o)->(∃o,h'.get? e=some o/\o.cls=.type "StopIteration")->E (.ref e) { s with heap:=h' }):wpAny M A (Builtin.SmallTypes.stopIteration:Sem α) Q E s:=by refine wpAny_bind ?_;refine wpAny_bind (m:=firstArgMember _ _) (wpAny_of_eq (a:=Value.none) (by first|rfl| (simp only[firstArgMember];rfl)) ?_);refine wpAny_newObj_type ?_ (by size_fits);refine wpAny_bind (wpAny_handled ?_);refine rwl hh ?_;refine wpAny_bind (wpAny_pure (wpAny_throw ?_));exact hE _ _ (λb o e=>Heap.get?_push_of_some _ (Heap.get?_push_of_some _ e)) ⟨_,Heap.get?_push_size _ rfl,rfl⟩
theorem zi2{I:Addr}{b:Addr}{t:Tok}{Q:Option Value->Shared->Prop}(hh:A.handled=none)(ho:s.heap.get? I=some (citO false b t))(hQ:∀h',(∀b o,s.heap.get? b=some o->h'.get? b=some o)->Q none { s with heap:=h' }):
  wpAny (model prog w) A (pyNext (.ref I)) Q E s:=by
 have hT:s.TypeIs (.ref I) "callable_iterator":=⟨_,ho,rfl⟩
 unfold pyNext
 refine wpAny_bind (wpAny_attempt (wpAny_callSpecial?_slot (name:=Str.ofString "__next__") hT zbP (wpAny_call_entry zbP hT zea ?_ (zfa _))))
 unfold Builtin.«callable_iterator.__next__»
 refine wpAny_bind (wpAny_of_eq (a:=(Value.ref I,[])) rfl ?_)
 refine wpAny_bind (wpAny_field ho rfl (x:=.bool true) rfl ?_)
 rw[if_pos (by decide)]
 refine wpAny_bind (wpAny_rule ?_)
 refine wpAny_bind (zfi hh λh' e hk hx=>?_)
 refine xea hx λo ho' hc=>?_
 refine wpAny_bind (wpAny_isInstance (T:="StopIteration") (b:=true) ⟨o,ho',hc⟩ isSubtype_stop ?_)
 exact wpAny_pure (hQ h' hk)
theorem zkb{I b fn:Addr}{t:Tok}{x:Value}{o:Obj}{fd:FuncData}{Q:Option Value->Shared->Prop}(hh:A.handled=none)(ho:s.heap.get? I=some (citO true b t))(hb:s.heap.get? b=some (methodObj (.ref fn) x))(hf:s.heap.get? fn=some o)(hd:o.data=.func fd)
  (hc:codeAny (model prog w) A.in1 (.call (.ref fn) ⟨[x],[]⟩) (λr sA=>match r with
   | .ok (.ret v)=>∃r u b t x,v=.str r u/\sA.heap.get? I=some (citO true b t)/\sA.heap.get? b=some (methodObj (.ref fn) x)/\sA.heap.get? fn=some o/\
    (sk []≠r->Q (some (.str r u)) sA)/\(sk []=r->∀h',h'.get? I=some (citO false b t)->(∀c oc,c≠I->sA.heap.get? c=some oc->h'.get? c=some oc)->Q none { sA with heap:=h' })
   |_=>False) s):wpAny (model prog w) A (pyNext (.ref I)) Q No s:=by
 have hT:s.TypeIs (.ref I) "callable_iterator":=⟨_,ho,rfl⟩
 unfold pyNext
 refine wpAny_bind (wpAny_attempt (wpAny_callSpecial?_slot (name:=Str.ofString "__next__") hT zbP (wpAny_call_entry zbP hT zea ?_ (zfa _))))
 unfold Builtin.«callable_iterator.__next__»
 refine wpAny_bind (wpAny_of_eq (a:=(Value.ref I,[])) rfl ?_)
 refine wpAny_bind (wpAny_field ho rfl (x:=.bool false) rfl ?_)
 rw[if_neg (by decide)]
 refine wpAny_bind (wpAny_field ho rfl (x:=.ref b) rfl ?_)
 refine wpAny_bind (wpAny_attempt ?_)
 unfold callOutOfASlot
 refine wpAny_bind (zey hb hf hd ?_)
 rw[if_pos rfl]
 refine zez (method_call hb (codeAny_mono hc λr sA z=>?_))
 match r,z with
 | .ok .next,z=>exact z.elim
 | .ok .brk,z=>exact z.elim
 | .ok .cont,z=>exact z.elim
 | .error _,z=>exact z.elim
 | .ok (.ret v),z=>
  refine seeeeeqaz z λr u b t x h1 x0=>?_;refine zig x0 λh2 h3 h4 h5=>?_;dsimp only;refine wpAny_bind (wpAny_field h1 rfl (x:=.bool false) rfl ?_);rw[if_neg (by decide)];refine wpAny_bind (wpAny_field h1 rfl (x:=.str (sk []) t) rfl ?_);refine wpAny_bind (wpAny_holding (wpAny_eqBool_str ?_));by_cases hr:sk []=r
  ·have:decide (sk []=r)=true:=by simpa using hr
   rw[this];rw[if_neg (by decide)];refine wpAny_bind (wpAny_rule (wpAny_bind ?_));refine wpAny_bind (wpAny_field h1 rfl (x:=.ref b) rfl ?_);unfold slotLetsGo;refine wpAny_bind ?_;refine wpAny_bind (zey h2 h3 hd ?_);rw[if_pos rfl];refine wpAny_pure ?_;refine wpAny_bind (wpAny_setField_rec h1 (by simp) λhJ eB sA'=>?_);refine wpAny_bind (wpAny_setField_rec eB (by simp) λhO eC sB'=>?_);refine wpAny_setField_rec eC (by simp) λhX eD s3'=>?_;refine zfi hh λh' e hk hx=>?_;refine xea hx λoe ho' hcx=>?_;refine wpAny_bind (wpAny_isInstance (T:="StopIteration") (b:=true) ⟨oe,ho',hcx⟩ isSubtype_stop ?_);refine wpAny_pure (h5 hr h' (hk _ _ eD) λc oc hcI hoc=>hk _ _ ?_);exact(s3'.2 c hcI).trans ((sB'.2 c hcI).trans ((sA'.2 c hcI).trans hoc))
  ·have:decide (sk []=r)=false:=by simpa using hr
   rw[this];rw[if_pos (by decide)];exact wpAny_pure ⟨_,rfl,wpAny_pure (h4 hr)⟩
end
section
variable {C:Cx}{l:Nat}{sc:Scope}{Γ Γw:Gam}{vs vs1 vs':Vs}{A:Around}{env:Env}{g g':Gm}{as as':List Addr}{h hJ hO hX h':H}{s s':Shared}{fl:Fl}
theorem zrK{o:Obj}(ok:Ok C)(hl:lookIn ("_read_char":Str) o=some none):findObj C.K zcS (some o) ("_read_char":Str)=some (.bind (.builtin "function.__get__") (.ref rdA)):=by
 refine xea (any_some ok.kf.hd) λcd hc hd=>?_;unfold findObj;refine rwl hc ?_;simp only[OB,ok.kf.rd,ok.kf.rdg,ok.kf.rdt];unfold PySem.W.ownOf;refine rwl (if_pos hd) ?_;simp only[hl,OB];rw[if_neg];have:copiedNames.contains ("_read_char":Str)=false:=by decide+kernel
 rw[this];simp
theorem Ev.iterM{o:Expr}{ap cp p pos:Pos}{k:Nat}{sx:Str}{i:Nat}{kC:List (Nat×V)}(hf:sc.names.lookup ("iter":Str)=some .globalImplicit)(hsx:sx=sk [])(H1:Ev C l sc Γ vs o h (.inst i) hJ)(hi:hJ[i]?=some (.attrs kC))
  (he:∀env,eval (.Attribute o ("_read_char":Str) ap) env=(do
   let v <-eval o env
   standAt ap.atName
   let r <-holding [v] (getAttr v ("_read_char":Str) true)
   letTemporaryGo o v r
   pure r)):
  Ev C l sc Γ vs (.Call (.Name ("iter":Str) p) [.Attribute o ("_read_char":Str) ap,.Constant (.str sx) k cp] [] pos) h (.obj hJ.length) (hJ++[.citer i true]):=by
 intro A env g as s a
 subst hsx
 refine wpAny_Call_NameR (zhJ a hf (by decide) (by decide) (by decide) zmY ?_)
 refine PyProof.Rows.callWith_builtin1 ?_ rfl rfl
 refine wpAny_items_cons (Attribute_any_ (wpAny_mono (H1 A env g as s a) (λpv sA z=>?_) λ_ _ z=>z) (he env)) rfl
 refine zdy λX kX=>?_
 refine zaj z λgB asA xA rB vA=>?_
 obtain⟨xa,dx,od,rfl,hdx,hgx,hod,ar,I⟩:=zfZ rB hi vA
 refine zdG ar λhc es m hd hk _ _ hff=>?_
 refine zc0 (a.ok.kf.meths ("_read_char":Str) 27 (by decide+kernel)) λra qual hfi hdi=>?_
 refine kX ?_
 have hra:ra=rdA:=by have:=a.ok.kf.rd;rw[hfi]at this;have r0:=Option.some.inj this;cases r0;rfl
 subst hra
 refine get_bind (zei a.ok (a.step xA rB).bas rB) I a.ok.kf.ga (zrK a.ok (by rw[zek hd hk,(hff ("_read_char":Str))])) a.ok.kf.gt ?_
 refine wpAny_call (fn_get (s:={ sA with toks:=sA.toks+1 }) (x:=xa) (zei a.ok (a.step xA rB).bas rB) (zkv hdi) ?_)
 refine wpAny_pure ?_
 obtain⟨rC,xB⟩:=rB.push (methodObj (.ref rdA) (.ref xa)) rfl (sA.toks+1)
 refine wpAny_items_cons (wpAny_Constant_str ?_) rfl
 refine wpAny_items_nil ?_
 refine Calls.call_function_entry znZ zmo zlW (zmV _ _) ?_
 refine wpAny_bind (wpAny_of_eq (a:=[Value.ref sA.heap.objs.size,.str (sk []) (sA.toks+1)]) rfl ?_)
 refine wpAny_bind (wpAny_specialOf (T:="method") ⟨_,(Heap.get?_push_size _ rfl),rfl⟩ zfk ?_)
 refine wpAny_bind (wpAny_rule (wpAny_bind ?_))
 refine wpAny_newObj_type (wpAny_pure ⟨_,rfl,?_⟩) (by size_fits)
 obtain⟨rD,xC⟩:=rC.alloc_mut (s:={ sA with heap:=sA.heap.push (methodObj (.ref rdA) (.ref xa)),toks:=sA.toks+1 }) (ob:=.citer i true) (zas _) (Heap.get?_push_size _ rfl) (λ_ _ e=>Heap.get?_push_of_some _ e) ⟨_,_,_,(Heap.get?_push_size _ rfl),(zat ..),xB.rep vA⟩ (sA.toks+1+1)
 exact zbT _ _ ((xA.trans xB).trans xC) rD (zer (s:={ sA with heap:=sA.heap.push (methodObj (.ref rdA) (.ref xa)),toks:=sA.toks+1 }) (R:=rC))
theorem Rel.writeK{i:Nat}{a:Addr}{o o':Ob}{hp:Heap}(R:Rel prog C.w g as h s.heap)(ei:as[i]?=some a)(eh:h[i]?=some o)(ng:o≠.gone)(hs:∀c oc,c≠a->s.heap.get? c=some oc->hp.get? c=some oc)(ho:OR prog C.w g as o' a hp)(hx:∃ob,hp.get? a=some ob)(tk:Nat):
  Rel prog C.w g as (h.set i o') hp/\Ext g as s g as { s with heap:=hp,toks:=tk }:=by
 have ga:=R.off i a o ei eh ng
 have ili:i<h.length:=(List.getElem?_eq_some_iff.mp eh).1
 refine⟨⟨λb ob e=>?_,by rw[List.length_set];exact R.len,λj b ob e1 e2=>?_,λj b ob e1 e2 nq=>?_,R.nd,λb hb=>?_⟩,.refl g,⟨[],by simp⟩,λ_ hb hq=>absurd hb hq,⟨_,_,rfl⟩,λb ob hb e=>?_,λb ob e=>?_,λ_ _ e=>.inl e⟩
 ·have:b≠a:=λq=>by rw[q,ga]at e;exact nos e
  exact hs b _ this (R.frz b ob e)
 ·by_cases hij:i=j
  ·subst hij;rw[ei]at e1;have r0:=Option.some.inj e1;subst r0;rw[List.getElem?_set_self ili]at e2;have r0:=Option.some.inj e2;subst r0;exact ho
  ·rw[List.getElem?_set_ne hij]at e2;have:b≠a:=λq=>hij (R.nd i j a ei (q▸e1));exact(R.ob j b ob e1 e2).keep (.refl g) (za0 as) λo' e=>hs b _ this e
 ·by_cases hij:i=j
  ·subst hij;rw[ei]at e1;have r0:=Option.some.inj e1;subst r0;exact ga
  ·rw[List.getElem?_set_ne hij]at e2;exact R.off j b ob e1 e2 nq
 ·by_cases hb':b=a
  ·exact rwl hb' hx
  ·refine xe (R.ex b hb) λob e=>?_;exact⟨ob,hs b _ hb' e⟩
 ·have:b≠a:=λq=>hb (q▸(List.mem_of_getElem? ei));exact hs b _ this e
 ·by_cases hb':b=a
  ·exact rwl hb' hx
  ·exact⟨ob,hs b _ hb' e⟩
theorem zkL{i:Nat}{p:Nat×Bool}(e:zd7 h i=some p):h[i]?=some (.citer p.1 p.2):=
 be e λo h1 h2=>by
  induction o using Ob.casesOn with
  |citer=>exact sm h2 h1
  |_=>exact nos h2
theorem fb{α:Type}{ob:Vs×H->Option (Fl×Vs×H)}{x:Option α}{f:α->Option (Option Fl×Vs×H)}{r:Fl×Vs×H}{G:Prop}(hk:zcZ ob (x.bind f)=some r)(k:∀a,x=some a->zcZ ob (f a)=some r->G):G:=by
 induction x using Option.casesOn with
 |none=>exact nos hk
 |some a=>exact k a rfl hk
theorem zm9{nx:Nat->H->Option (V×H)}{bd ob:Vs×H->Option (Fl×Vs×H)}{it tA:Nat}{r:Fl×Vs×H}{G:Prop}{n:Nat}(hk:zcZ ob (zb8 nx bd it tA n (vs,h))=some r)(k1:∀j,h[it]?=some (.citer j false)->ob (vs,h)=some r->G)
  (k2:∀i l h' j m,n=m+1->h[it]?=some (.citer i true)->nx i h=some (.str l,h')->h'[it]?=some (.citer j true)->(l=[]->ob (vs,h'.set it (.citer j false))=some r)->(l≠[]->zcZ ob (zgz (zb8 nx bd it tA m) (bd (vs.set tA (.str l),h')))=some r)->G):G:=by
 induction n using Nat.casesAuxOn with
 |zero=>exact nos hk
 |succ n=>
  refine fb (x:=zd7 h it) hk λp e1 hk=>?_;obtain⟨i,b⟩:=p;induction b using Bool.casesOn with
  |false=>exact k1 i (zkL e1) hk
  |true=>
   refine fb (x:=nx i h) hk λu e2 hk=>fb (x:=zbm u.1) hk λl e3 hk=>fb (x:=zd7 u.2 it) hk λq e4 hk=>?_;obtain⟨j,b⟩:=q;obtain⟨y,h'⟩:=u;induction b using Bool.casesOn with
   |false=>exact nos hk
   |true=>have hk:zcZ ob (if l=[] then some (none,vs,h'.set it (.citer j false)) else zgz (zb8 nx bd it tA n) (bd (vs.set tA (.str l),h')))=some r:=hk;exact k2 i l h' j n rfl (zkL e1) (e2.trans (congrArg (λy=>some (y,h')) (zdq e3))) (zkL e4) (λe=>by rw[if_pos e]at hk;exact hk) λe=>by rw[if_neg e]at hk;exact hk
theorem znq{x:Str}{px:Pos}{body orelse:List Stmt}{i xi n:Nat}{I:Addr}{Φ:PA}{bd ob:Vs×H->Option (Fl×Vs×H)}(hx:Γw.lookup x=some xi)(hl:l+1<=60)
  (hΦ:∀us h v h',Φ 27 us h=some (v,h')->zfA C (l+1) 27 us h v h')
  (HB:∀vs h fl vs' h',bd (vs,h)=some (fl,vs',h')->Exs C l sc Γ Γw body vs h fl vs' h')
  (HO:∀vs h fl vs' h',ob (vs,h)=some (fl,vs',h')->Exs C l sc Γ Γw orelse vs h fl vs' h')
  (hI:as[i]?=some I) (a:AtS C l sc Γ Γw vs A env g as h s) (hw:zcZ ob (zb8 (λo h=>Φ 27 [.inst o] h) bd i xi n (vs,h))=some (fl,vs',h')) {E:Value->Shared->Prop}:
  codeAny (Md C) A (.forLoop (.Name x px) (.ref I) body orelse env) (λr s'=>match r with| .ok f=>zc1 C l sc Γ Γw A env g as s fl vs' h' f s'| .error e=>E e s') s:=by
 refine codeAny_forLoop_any (λk s'=>SInv C l sc Γ Γw A env g as s (λvs h=>zcZ ob (zb8 (λo h=>Φ 27 [.inst o] h) bd i xi k (vs,h))=some (fl,vs',h')) s') (λk sE q=>?_) n (.mk g as vs h (.refl ..) a hw)
 match q with
 | .mk gD asB vs₂ hO xB aB hk=>
  have R:=aB.at_.rel;have hh:=aB.at_.aok.1;have hI2:asB[i]?=some I:=zir xB.pre hI;refine zm9 hk (λjj hcit hk=>?_) λjj lA hX j3 m em hcit hΦe hcit3 hk0 hk1=>?_
  ·refine zo5 (R.ob i I _ hI2 hcit) λb t xv hbI _=>?_;refine zaZ (zi2 hh hbI λhp hkeep=>?_);refine xa (R.kept hkeep sE.toks) λrD xC=>?_;exact zaZ (wpAny_mono (HO _ _ _ _ _ hk A env gD asB _ (aB.step xC rD)) (λf s4 z=>z.after (xB.trans xC.toS)) λ_ _ z=>z)
  ·refine zdy λX kX=>?_;refine zba (R.ob i I _ hI2 hcit) λb t xv hbI hgb hxv=>?_;refine zc0 (aB.at_.ok.kf.meths ("_read_char":Str) 27 (by decide+kernel)) λra qual hfi hdi=>?_;refine kX ?_;have hra:ra=rdA:=by have:=aB.at_.ok.kf.rd;rw[hfi]at this;have r0:=Option.some.inj this;cases r0;rfl
   subst hra;have hfo:=zdw aB.at_.ok hdi;refine zih (id hfo) λd o fd e1 e2 e3 _=>?_;have call:=hΦ _ _ _ _ hΦe A.in1 gD asB sE rdA [xv] (zig aB.at_.aok λb1 b2 b3 b4=>⟨b1,by show A.depth<=_;omega,by show A.units+1<=_;omega,hl⟩) aB.at_.ok aB.at_.bas R hfo ⟨rfl,λm v e=>by
    match m,e with
    |0,e=>have r0:=Option.some.inj e;subst r0;exact⟨_,rfl,hxv⟩⟩
   refine zaZ (zkb hh hbI (R.frz _ _ hgb) (R.frz _ _ (aB.at_.bas _ _ e2)) e3 (codeAny_mono call λr sB z=>?_));match r,z with
   | .ok .next,z=>exact z.elim
   | .ok .brk,z=>exact z.elim
   | .ok .cont,z=>exact z.elim
   | .error _,z=>exact z.elim
   | .ok (.ret v),z=>
    refine zkz λX kX=>?_;refine zaj z λgE as3 xC rD vC=>xe vC.str_inv λu eu=>?_;subst eu;have hI3:as3[i]?=some I:=zir xC.pre hI2;refine zba (rD.ob i I _ hI3 hcit3) λb3 t3 xv3 hb3 hg3 hx3=>?_;have aD:=aB.step xC rD;have xF:=xB.trans (xC.toS (B:=Own env Γw));refine kX _ u b3 t3 xv3 rfl hb3 (rD.frz _ _ hg3) (rD.frz _ _ (xC.gle _ _ (aB.at_.bas _ _ e2))) (λhne=>?_) (λheq hp hpI hpk=>?_)
    ·refine zhI (zaZ (wpAny_mono (zcC aD hx vC) (λ_ s4 z=>zc0 z λgF as4 xD aE=>?_) λ_ _ z=>z));have xx:=xF.trans xD;exact zel HB aE (hk1 λq=>hne (by rw[q])) (λg' as' vs₂ hO s' x a hk=>have z:∃k',k'<k/\SInv C l sc Γ Γw A env g as s (λvs h=>zcZ ob (zb8 (λo h=>Φ 27 [.inst o] h) bd i xi k' (vs,h))=some (fl,vs',h')) s':=⟨m,em▸Nat.lt_succ_self m,.mk _ _ _ _ (xx.trans x) a hk⟩;⟨z,z⟩)
      (λs' p=>p.after xx) λs' v p=>p.after xx
    ·refine xa (rD.writeK (o':=.citer j3 false) hI3 hcit3 (by simp) hpk ⟨b3,t3,xv3,hpI,hg3,hx3⟩ ⟨_,hpI⟩ sB.toks) λrE xD=>?_;exact zaZ (wpAny_mono (HO _ _ _ _ _ (hk0 (zi9 heq).symm) A env gE as3 _ (aD.step xD rE)) (λf s4 z=>z.after (xF.trans xD.toS)) λ_ _ z=>z)
theorem Ex.forsC{x:Str}{px pos:Pos}{it:Expr}{body orelse:List Stmt}{i xi n:Nat}{Φ:PA}{bd ob:Vs×H->Option (Fl×Vs×H)}(hs:∀env x,foldedSetIterable it env x=pure x)(hx:Γw.lookup x=some xi)(hl:l+1<=60)
  (H1:Ev C l sc Γ vs it h (V.obj i) hJ)
  (hΦ:∀us h v h',Φ 27 us h=some (v,h')->zfA C (l+1) 27 us h v h')
  (HB:∀vs h fl vs' h',bd (vs,h)=some (fl,vs',h')->Exs C l sc Γ Γw body vs h fl vs' h')
  (HO:∀vs h fl vs' h',ob (vs,h)=some (fl,vs',h')->Exs C l sc Γ Γw orelse vs h fl vs' h')
  (hw:zcZ ob (zb8 (λo h=>Φ 27 [.inst o] h) bd i xi n (vs,hJ))=some (fl,vs',h')) (hc:∃j live,hJ[i]?=some (.citer j live)):Ex C l sc Γ Γw (.For (.Name x px) it body orelse pos) vs h fl vs' h':=by
 intro A env g as s a
 refine wpAny_For (wpAny_mono (H1 A env g as s a.at_) (λy sA z=>?_) λ_ _ z=>z) (hs env)
 refine zdy λX kX=>?_
 refine zaj z λgB asA xA rB vA=>xea vA λI e hI=>xee hc λj live hcj=>zo5 (rB.ob i I _ hI hcj) λb t xv hbI _=>?_
 subst e
 have hT:sA.TypeIs (.ref I) "callable_iterator":=⟨_,hbI,rfl⟩
 refine kX ?_
 refine wpAny_pyIter_slot hT zfg (wpAny_call_entry zfg hT zhf ?_ (ziq _))
 refine wpAny_pure ⟨_,rfl,"callable_iterator",_,hT,zbP.lookup,?_⟩
 refine codeAny_mono (znq (E:=λe s'=>cameBackBy (Md C) A env No e s') hx hl hΦ HB HO hI (a.step xA rB) hw) λr s' z=>?_
 induction r using Except.casesOn with
 |ok f=>exact zc1.after xA.toS z
 |error e=>exact z
end
def zin(C:Cx)(l:Nat)(sc:Scope)(Γ Γw:Gam)(A:Around)(env:Env)(g:Gm)(as:List Addr)(s:Shared)(fl:Fl)(vs':Vs)(h':H)(f:Flow)(s':Shared):Prop:=
 ∃g' as',ExtS (Own env Γw) g as s g' as' s'/\At C l sc Γ vs' A env g' as' h' s'/\FlR C g' as' fl f
def zjn(C:Cx)(l:Nat)(sc:Scope)(Γ Γw:Gam)(sts:List Stmt)(vs:Vs)(h:H)(fl:Fl)(vs':Vs)(h':H):Prop:=
 ∀A env g as s,AtS C l sc Γ Γw vs A env g as h s->wpAny (Md C) A (execs sts env) (zin C l sc Γ Γw A env g as s fl vs' h') No s
theorem zc1.toB{C:Cx}{l:Nat}{sc:Scope}{Γ Γw:Gam}{A:Around}{env:Env}{g:Gm}{as:List Addr}{s:Shared}{fl:Fl}{vs':Vs}{h':H}{f:Flow}{s':Shared}(p:zc1 C l sc Γ Γw A env g as s fl vs' h' f s'):zin C l sc Γ Γw A env g as s fl vs' h' f s':=
 let ⟨g',as',x,a,q⟩:=p;⟨g',as',x,a.at_,q⟩
theorem ExtS.wide{B B':Addr->Prop}{g g':Gm}{as as':List Addr}{s s':Shared}(hB:∀a,B a->B' a)(x:ExtS B g as s g' as' s'):ExtS B' g as s g' as' s':=
 ⟨x.gle,x.pre,x.new,x.same,λa o h n e=>x.keep a o h (λq=>n (hB a q)) e,x.there,λa o e=>(x.gnew a o e).imp id λq=>q.imp id λq=>q.imp id (hB a)⟩
section
variable {C:Cx}{l:Nat}{sc:Scope}{Γ Γw:Gam}{vs vs1 vs':Vs}{A:Around}{env:Env}{g g':Gm}{as as':List Addr}{h hJ hO hX h':H}{s s':Shared}{fl:Fl}
theorem zin.after{g':Gm}{as':List Addr}{s' s'':Shared}{f:Flow}(e:ExtS (Own env Γw) g as s g' as' s')(p:zin C l sc Γ Γw A env g' as' s' fl vs' h' f s''):zin C l sc Γ Γw A env g as s fl vs' h' f s'':=
 let ⟨g'',as'',e',r⟩:=p;⟨g'',as'',e.trans e',r⟩
theorem zjn.nil:zjn C l sc Γ Γw [] vs h .next vs h:=λ_ _ g as _ a=>wpAny_execs_nil ⟨g,as,.refl ..,a.at_,trivial⟩
theorem zjn.cons{st:Stmt}{r:List Stmt}(H1:Ex C l sc Γ Γw st vs h .next vs1 hJ)(H2:zjn C l sc Γ Γw r vs1 hJ fl vs' h'):zjn C l sc Γ Γw (st::r) vs h fl vs' h':=by intro A env g as s a;refine wpAny_execs_cons (wpAny_mono (H1 A env g as s a) (λf sA z=>?_) λ_ _ z=>z);refine zaj z λgB asA xA aA q=>?_;have r0:=q.next_inv;subst r0;exact wpAny_mono (H2 A env gB asA sA aA) (λ_ _ p=>p.after xA) λ_ _ z=>z
theorem zjn.stop{st:Stmt}{r:List Stmt}(H1:Ex C l sc Γ Γw st vs h fl vs' h')(hf:fl≠.next):zjn C l sc Γ Γw (st::r) vs h fl vs' h':=
 λA env g as s a=>wpAny_mono (Exs.stop (r:=r) H1 hf A env g as s a) (λ_ _ p=>p.toB) λ_ _ z=>z
noncomputable def zdo:Df:=(zbx 17).getD noDf
noncomputable def zrR:Pos:=match zdo.body[2]? with
 |some (Stmt.FunctionDef _ _ _ _ _ _ _ _ _ p)=>p
 |_=>⟨0,0,0,0⟩
noncomputable def zkZ:Stmt:=.FunctionDef ("give":Str) za3.params za3.body [] none [] za3.scope none ("give":Str) zrR
theorem zbn:za3.scope.names=[(("size":Str),.local),(("piece":Str),.local),(("at":Str),.free),(("text":Str),.free),(("len":Str),.globalImplicit)]:=by kernel_rfl
theorem zna{cA cT:Addr}(h1:env.cells.lookup ("at":Str)=some cA)(h2:env.cells.lookup ("text":Str)=some cT):closureFor za3.scope env=pure [(("text":Str),cT),(("at":Str),cA)]:=by unfold closureFor;refine rwl zbn ?_;simp[cellOf,h1,h2,List.forIn_cons]
noncomputable def zdX(Γw:Gam):Gam:=Γw.filter λp=>p.1 != ("text":Str)&&p.1 != ("at":Str)
theorem zbk{x:Str}:∀{Γw:Gam},(zdX Γw).lookup x=if x=("text":Str)\/x=("at":Str) then none else Γw.lookup x
 |[]=>by simp[zdX]
 | (n,i)::r=>by
  have ih:=zbk (x:=x) (Γw:=r);unfold zdX at ih ⊢;rw[List.filter_cons];by_cases hx:x=n
  ·subst hx;by_cases hq:x=("text":Str)\/x=("at":Str)
   ·rw[if_neg (by rcases hq with rfl|rfl<;>simp),ih,if_pos hq,if_pos hq]
   ·have:x≠("text":Str)/\x≠("at":Str):=⟨λq=>hq (.inl q),λq=>hq (.inr q)⟩;rw[if_pos (by simp[this.1,this.2]),if_neg hq];simp[List.lookup_cons]
  ·have hb:(x==n)=false:=by simpa using hx
   split
   ·simp only[List.lookup_cons,hb];exact ih
   ·rw[ih];simp only[List.lookup_cons,hb]
set_option tactic.hygienic true in
theorem znD{i t a j:Nat}{tx:List Nat}(hring:zeg sc=true)(ht:Γw.lookup ("text":Str)=some t)(ha:Γw.lookup ("at":Str)=some a)(kt:sc.names.lookup ("text":Str)=some .cell)(ka:sc.names.lookup ("at":Str)=some .cell)
  (hi:Γw.lookup ("give":Str)=some i) (vt:vs[t]?=some (.str tx)) (va:vs[a]?=some (.obj j)) (h0:h[0]?=some .tab) (A0:AtS C l sc Γ Γw vs A env g as h s):
  wpAny (Md C) A (exec zkZ env) (λf s'=>f=.next/\∃g' as',ExtS (Own env Γw) g as s g' as' s'/\AtS C l sc Γ (zdX Γw) (vs.set i (.give tx j)) A env g' as' (h.set 0 .tabg) s') No s:=by
 refine zaj A0.at_.frm.ns λm cm hn hc hv=>?_
 have R:=A0.at_.rel
 have ok:=A0.at_.ok
 have cell:∀(x:Str) (k:Nat) (v:V),Γw.lookup x=some k->sc.names.lookup x=some .cell->vs[k]?=some v->v≠.uA->∃c y o,env.cells.lookup x=some c/\g c=none/\s.heap.get? c=some o/\o.data=.cell (some y)/\zah prog C.w g as v y/\env.kindOf x=some .cell:=by
  intro x k v hx kx hvx nu;refine xa (A0.own.sub x k hx) λq1 q3=>?_;have kk:env.kindOf x=some .cell:=(A0.at_.eok.kd x _ kx).elim id λq=>by cases q.1
  rcases q3 with q3|⟨_,c,hcc,hg⟩
  ·rw[kk]at q3;have r0:=Option.some.inj q3;cases r0
  ·rcases hv x k v q1 hvx nu with ⟨z,_⟩|⟨_,_,y,hy,r⟩
   ·rw[kk]at z;have r0:=Option.some.inj z;cases r0
   ·refine xea (hc x c hcc) λo ho hd=>?_;rw[hy]at hd;exact⟨c,y,o,hcc,hg,ho,hd,r,kk⟩
 refine zbe (cell _ t _ ht kt vt (by simp)) λcT yT oT eT gT hT dT x0=>?_;refine xa x0 λrT kT=>?_
 refine zbe (cell _ a _ ha ka va (by simp)) λcA yA oA eA gA hA dA t0=>?_;refine xa t0 λrA kA=>?_
 refine xe rT.str_inv λtt b0=>?_;subst b0
 refine xea rA λya e0 iya=>?_;subst e0
 have hne:cA≠cT:=λq=>by have:=A0.own.ap ("at":Str) ("text":Str) cA eA (q▸eT);exact absurd this (by decide)
 have l0:0<as.length:=by rw[R.len];exact(List.getElem?_eq_some_iff.mp h0).1
 obtain⟨a0,ea0⟩:∃b,as[0]?=some b:=⟨_,List.getElem?_eq_getElem l0⟩
 refine xa (R.ob 0 a0 _ ea0 h0) λf0 hP=>?_;subst f0
 have gP:=R.off 0 _ _ ea0 h0 (by simp)
 have mP:zfn∈as:=List.mem_of_getElem? ea0
 have X:=zei ok A0.at_.bas R
 have keepG:∀b o,C.base.get? b=some o->s.heap.get? b=some o:=λb o e=>R.frz b o (A0.at_.bas b o e)
 refine nestDef_K (by kernel_rfl) (by kernel_rfl) (by kernel_rfl) ?_
 refine makeFunction_K (mg:=C.mg) (c:=zdn) (P:=zfn) (ps:=#[]) (zna eA eT) A0.at_.eok.gl (ok.ng.keeps keepG) (A0.at_.eok.cd hring) (codeHd_of_K X ok.kf.tab) hP trivial rfl (by decide) ?_ λc' ctv doc hp tk hx hge hlt hrec hP'=>?_
 ·refine zcR ok.bt λbm o b1 b2 b3 b4 b5 b6=>?_;exact⟨bm,o,b1,b2,b3,b4,keepG _ _ b5,b6⟩
 refine zdH hrec λcB oc cvs ct e2 hoc hcd hcv=>?_
 cases e2
 generalize hfo:fnMade ("give":Str) (qualnameIn env ("give":Str) ("give":Str)) za3.params za3.body za3.scope [(("text":Str),cT),(("at":Str),cA)] doc ((C.mg "__name__").getD .none) c' ctv=fo
 have ffo:fo.isFreed=false:=by rw[<-hfo];rfl
 have up:∀b o,b≠zfn->s.heap.get? b=some o->(hp.push fo).get? b=some o:=λb o hb e=>Heap.get?_push_of_some _ (hx b o hb e)
 have nt:∀b,b ∉ as->b≠zfn:=λb hb q=>hb (q▸mP)
 have nTc:cT ∉ as:=(A0.at_.frm.aC _ _ eT).1
 have nAc:cA ∉ as:=(A0.at_.frm.aC _ _ eA).1
 have fr1:s.heap.get? c'=none:=Heap.get?_none_of_le hge
 have fr2:s.heap.get? hp.objs.size=none:=Heap.get?_none_of_le (Nat.le_trans hge (Nat.le_of_lt hlt))
 have ltA:∀b o,s.heap.get? b=some o->b≠c'/\b≠hp.objs.size:=λb o e=>⟨λq=>(by rw[q,fr1]at e;exact nos e),λq=>(by rw[q,fr2]at e;exact nos e)⟩
 have gfr:∀b,s.heap.get? b=none->g b=none:=λb e=>by
  generalize q:g b=y0;induction y0 using Option.casesOn with
  |none=>rfl
  |some o=>have:=R.frz b o q;rw[e]at this;exact nos this
 let gB:Gm:=zby (zby (zby (zby g cA oA) cT oT) c' oc) hp.objs.size fo
 have le1:Gle g (zby g cA oA):=zbF gA
 have le2:Gle (zby g cA oA) (zby (zby g cA oA) cT oT):=zbF (by unfold zby;rw[if_neg (Ne.symm hne)];exact gT)
 have le3:Gle (zby (zby g cA oA) cT oT) (zby (zby (zby g cA oA) cT oT) c' oc):=zbF (by
  unfold zby
  rw[if_neg (Ne.symm (ltA _ _ hT).1),if_neg (Ne.symm (ltA _ _ hA).1)];exact gfr _ fr1)
 have le4:Gle (zby (zby (zby g cA oA) cT oT) c' oc) gB:=zbF (by
  unfold zby
  rw[if_neg (Nat.ne_of_gt hlt),if_neg (Ne.symm (ltA _ _ hT).2),if_neg (Ne.symm (ltA _ _ hA).2)];exact gfr _ fr2)
 have le:Gle g gB:=((le1.trans le2).trans le3).trans le4
 have inv:∀b o,gB b=some o->g b=some o\/(b=cA/\o=oA)\/(b=cT/\o=oT)\/(b=c'/\o=oc)\/(b=hp.objs.size/\o=fo):=λb o e=>by
  simp only[gB,zby]at e;split at e
  ·rename_i q;have r0:=Option.some.inj e;subst r0;exact .inr (.inr (.inr (.inr ⟨q,rfl⟩)))
  ·split at e
   ·rename_i q;have r0:=Option.some.inj e;subst r0;exact .inr (.inr (.inr (.inl ⟨q,rfl⟩)))
   ·split at e
    ·rename_i q;have r0:=Option.some.inj e;subst r0;exact .inr (.inr (.inl ⟨q,rfl⟩))
    ·split at e
     ·rename_i q;have r0:=Option.some.inj e;subst r0;exact .inr (.inl ⟨q,rfl⟩)
     ·exact .inl e
 have g1A:gB cA=some oA:=le4 _ _ (le3 _ _ (le2 _ _ (zat ..)))
 have g1T:gB cT=some oT:=le4 _ _ (le3 _ _ (zat ..))
 have g1c:gB c'=some oc:=le4 _ _ (zat ..)
 have g1f:gB hp.objs.size=some fo:=zat ..
 have g1none:∀b o,b≠cA->b≠cT->s.heap.get? b=some o->g b=none->gB b=none:=λb o n1 n2 e hg=>by
  generalize q:gB b=q0;induction q0 using Option.casesOn with
  |none=>rfl
  |some o'=>
   refine xa (ltA _ _ e) λm1 m2=>?_;rcases inv b o' q with z|z|z|z|z
   ·rw[hg]at z;exact nos z
   ·exact absurd z.1 n1
   ·exact absurd z.1 n2
   ·exact absurd z.1 m1
   ·exact absurd z.1 m2
 have asne:∀b∈as,b≠cA/\b≠cT:=λb hb=>⟨λq=>nAc (q▸hb),λq=>nTc (q▸hb)⟩
 have R1:Rel prog C.w gB as (h.set 0 .tabg) (hp.push fo):=by
  refine⟨λb o e=>?_,by rw[List.length_set];exact R.len,λk b o e1 e2=>?_,λk b o e1 e2 ng=>?_,R.nd,λb hb=>?_⟩
  ·rcases inv b o e with z|⟨rfl,rfl⟩|⟨rfl,rfl⟩|⟨rfl,rfl⟩|⟨rfl,rfl⟩
   ·exact up b o (λq=>by rw[q,gP]at z;exact nos z) (R.frz b o z)
   ·exact up _ _ (nt _ nAc) hA
   ·exact up _ _ (nt _ nTc) hT
   ·exact Heap.get?_push_of_some _ hoc
   ·exact Heap.get?_push_size _ ffo
  ·by_cases hk:k=0
   ·subst hk;rw[List.getElem?_set_self (by rw[<-R.len];exact l0)]at e2;have r0:=Option.some.inj e2;subst r0;rw[ea0]at e1;have r0:=Option.some.inj e1;subst r0;exact⟨rfl,_,Heap.get?_push_of_some _ hP'⟩
   ·rw[List.getElem?_set_ne (Ne.symm hk)]at e2;have:b≠zfn:=λq=>hk (R.nd k 0 b e1 (q▸ea0));exact(R.ob k b o e1 e2).keep le (za0 as) λo' e=>up b o' this e
  ·by_cases hk:k=0
   ·subst hk;rw[List.getElem?_set_self (by rw[<-R.len];exact l0)]at e2;rw[ea0]at e1;have r0:=Option.some.inj e1;subst r0;exact g1none _ _ (asne _ mP).1 (asne _ mP).2 hP gP
   ·rw[List.getElem?_set_ne (Ne.symm hk)]at e2;have mb:b∈as:=List.mem_of_getElem? e1;refine xe (R.ex b mb) λob eb=>?_;exact g1none b ob (asne b mb).1 (asne b mb).2 eb (R.off k b o e1 e2 ng)
  ·by_cases q:b=zfn
   ·subst q;exact⟨_,Heap.get?_push_of_some _ hP'⟩
   ·refine xe (R.ex b hb) λob eb=>?_;exact⟨ob,up b ob q eb⟩
 have X1:ExtS (Own env Γw) g as s gB as { s with heap:=hp.push fo,toks:=tk }:=by
  refine⟨le,⟨[],by simp⟩,λ_ hb hq=>absurd hb hq,⟨_,_,rfl⟩,λb o hb _ e=>up b o (nt b hb) e,λb o e=>?_,λb o e=>?_⟩
  ·by_cases q:b=zfn
   ·subst q;exact⟨_,Heap.get?_push_of_some _ hP'⟩
   ·exact⟨o,up b o q e⟩
  ·rcases inv b o e with z|⟨rfl,rfl⟩|⟨rfl,rfl⟩|⟨rfl,rfl⟩|⟨rfl,rfl⟩
   ·exact .inl z
   ·exact .inr (.inr (.inr (.inr ⟨_,_,ha,kA,eA⟩)))
   ·exact .inr (.inr (.inr (.inr ⟨_,_,ht,kT,eT⟩)))
   ·exact .inr (.inl fr1)
   ·exact .inr (.inl fr2)
 have vG:zah prog C.w gB as (.give tx j) (.ref hp.objs.size):=by
  refine⟨hp.objs.size,rfl,_,_,cA,cT,oA,oT,ya,tt,by rw[g1f,<-hfo],rfl,⟨c',oc,cvs,ct,rfl,g1c,hcd,hcv⟩,rfl,rfl,rfl,rfl,rfl,rfl,rfl,?_,?_,λx c e=>?_,hne,g1A,dA,iya,g1T,dT⟩
  ·rfl
  ·rfl
  ·have:=zae e;rcases List.mem_cons.mp this with z|z
   ·cases z;exact .inr ⟨rfl,rfl⟩
   ·rcases List.mem_cons.mp z with z|z
    ·cases z;exact .inl ⟨rfl,rfl⟩
    ·cases z
 have lL:∃o,s.heap.get? env.locals=some o:=by obtain⟨o,_,_,e,_⟩:=hn;exact⟨o,e⟩
 refine xe lL λoL eL=>?_
 have A1:AtS C l sc Γ (zdX Γw) vs A env gB as (h.set 0 .tabg) { s with heap:=hp.push fo,toks:=tk }:=by
  refine⟨⟨ok,A0.at_.aok,A0.at_.eok,A0.at_.bas.trans le,R1,⟨⟨m,cm,(hn.extBut hx (nt _ A0.at_.frm.aL)).push _,λx c e=>?_,λx k v e1 e2 e3=>?_⟩,?_,A0.at_.frm.aL,A0.at_.frm.aC,A0.at_.frm.nm⟩⟩,⟨λx k e=>?_,A0.own.inj,A0.own.ap⟩⟩
  ·refine xea (hc x c e) λo ho hd=>?_;exact⟨o,up c o (nt c (A0.at_.frm.aC x c e).1) ho,hd⟩
  ·rcases hv x k v e1 e2 e3 with ⟨z,y,hy,q⟩|⟨z,zc,y,hy,q⟩
   ·exact .inl ⟨z,y,hy,q.mono le (za0 as)⟩
   ·exact .inr ⟨z,zc,y,hy,q.mono le (za0 as)⟩
  ·exact g1none _ _ (Ne.symm (A0.at_.frm.aC _ _ eA).2) (Ne.symm (A0.at_.frm.aC _ _ eT).2) eL A0.at_.frm.gL
  ·rw[zbk]at e;split at e
   ·exact nos e
   ·rename_i hnx;refine xa (A0.own.sub x k e) λq1 q3=>?_;refine⟨q1,q3.imp id λ⟨z,c,hcx,hg⟩=>⟨z,c,hcx,?_⟩⟩;refine xea (hc x c hcx) λo ho _=>?_;exact g1none c o (λq=>hnx (.inr (A0.own.ap _ _ _ (q▸hcx) eA))) (λq=>hnx (.inl (A0.own.ap _ _ _ (q▸hcx) eT))) ho hg
 have hi':(zdX Γw).lookup ("give":Str)=some i:=by rw[zbk,if_neg (by decide)];exact hi
 refine zaZ (wpAny_mono (zev A1 hi' vG) (λ_ sE z=>?_) λ_ _ z=>z)
 refine zc0 z λgD asB xB aB=>?_
 refine⟨rfl,gD,asB,X1.trans (xB.wide λb ob=>?_),aB⟩
 rcases ob with ob|⟨x,k,e,z⟩
 ·exact .inl ob
 ·rw[zbk]at e;split at e
  ·exact nos e
  ·exact .inr ⟨x,k,e,z⟩
end
section
variable {C:Cx}{l:Nat}{A:Around}{env:Env}{g g':Gm}{as as':List Addr}{h hJ hO hX h':H}{s s':Shared}{fl:Fl}
theorem ziJ{f:F}{vs':Vs}{v:V}{fw:Flow}(e:zgR f h (some (fl,vs',hJ))=some (v,h'))(hlen:h.length=as.length)(X:Ext g as s g' as' s')(R:Rel prog C.w g' as' hJ s'.heap)(q:FlR C g' as' fl fw):zay C g as s v h' (flwV fw) s':=
 ite_or e (λe=>sm (P:=λr=>zay C g as s r.1 r.2 (flwV fw) s') e (zbT g' as' X R (znl q))) λe=>ite_e (P:=λr=>zay C g as s r.1 r.2 (flwV fw) s') e λhcut=>zay.cut hlen X R (znl q) hcut.1 hcut.2
def zmM(C:Cx)(l:Nat)(Φ:PA)(f:F):Prop:=∀d vs h fl vs' h',zbx f=some d->
 eF Φ (zai d).2.2 (vs,h)=some (fl,vs',h')->zjn C l d.scope (zbS d.scope) (zpI d.scope) d.body vs h fl vs' h'
theorem ziw{Φ:PA}{f:F}{d:Df}{us args:List V}{r:V×H}{G:Prop}(hd:zbx f=some d)(ha:∀a,zd5 f (zai d).2.1 us=some a->a=args)(e:zjv Φ f us h=some r)
  (k:zd5 f (zai d).2.1 us=some args->∀fl vs' hJ,eF Φ (zai d).2.2 (args++List.replicate ((zbS d.scope).length+6-args.length) .uA,h)=some (fl,vs',hJ)->zgR f h (some (fl,vs',hJ))=some r->G):G:=by
 unfold zjv at e
 rw[hd,Option.bind_some]at e
 refine xea (Option.bind_eq_some_iff.mp e) λa h1 h2=>?_
 cases ha a h1
 exact xea (Option.bind_eq_some_iff.mp h2) λr q e=>k h1 r.1 r.2.1 r.2.2 q e
theorem zgJ{f:F}{k:Nat}{us a:List V}(hf:Nat.beq f 30=false)(e:zd5 f k us=some a):a=us/\us.length=k:=by unfold zd5 at e;rw[hf]at e;exact ite_e (P:=λa=>a=us/\us.length=k) e λhl=>⟨rfl,hl⟩
theorem zpt{Φ:PA}{f:F}{us:List V}{v:V}(hl:l+1<=60)(hf:Nat.beq f 30=false)(HB:zmM C (l+1) Φ f)
  (chk:∀d,zbx f=some d->zne d=true/\∀p∈d.scope.names,p.2≠.free) (e:zjv Φ f us h=some (v,h')):zfA C l f us h v h':=by
 intro A g as s a xs ak ok bas R hfo har
 refine zdy λX kX=>?_
 refine zbe hfo λd o fd q1 q2 q3 q4 x0=>?_;refine zcQ x0 λq5 q6 q7 q8 q9 q10 q11 r0=>?_;refine xa r0 λq12 q13=>?_
 refine xa (chk d q1) λhchk nf=>?_
 have D:=zrD hchk
 refine kX ?_
 refine ziw q1 (λa ha=>(zgJ hf ha).1) e λha fl vs' hJ hex e=>?_
 have hlen:us.length=d.params.args.length:=(zgJ hf ha).2
 have hbind:bindArgs fd ⟨xs,[]⟩=pure ((d.params.args.map (·.arg)).zip xs):=by have:=zc4 (fd:=fd) (vals:=xs) (by rw[q5];exact D.p1) (by rw[q5];exact D.p2) (by rw[q5];exact D.p3) (by rw[q5];exact D.p4) q10 (by rw[q5,har.1,hlen]) (by rw[q5];exact D.pnd);rw[q5]at this;exact this
 have hkind:∀x∈(d.params.args.map (·.arg)).zip xs,fd.scope.names.lookup x.1=some .local\/(fd.scope.names.lookup x.1=some .cell/\((cellsFrom (s.heap.objs.size+1) fd.scope.names []).lookup x.1).isSome=true):=λx hx=>by
  refine xe (List.getElem?_of_mem (List.of_mem_zip (b:=x.2) hx).1) λi hi=>?_;refine rwl q7 ?_;rcases (D.par i _ hi).2 with z|z
  ·exact .inl z
  ·refine xe (zbc (n:=s.heap.objs.size+1) (acc:=[]) (zae z)) λc hc=>?_;exact .inr ⟨z,by rw[hc];rfl⟩
 refine codeAny_call_cells (fd:=fd) (body:=d.body) (binds:=(d.params.args.map (·.arg)).zip xs) (by have:=ak.2.1;have:=ak.2.2.2;show A.depth<1000;lia) (R.frz _ _ (bas _ _ q2)) q3 (ok.lim.keeps λb o e=>R.frz b o (bas b o e)) (q12.keeps λb o e=>R.frz b o (bas b o e)) q6 hbind q9 hkind
  (λsA x=>?_) (by rw[q7];exact D.cor) (by rw[q7];exact D.gen) (by rw[q7];exact D.kind)
 have ak':AOk (l+1) (A.deeper (callEnvC fd s.heap.objs.size a)):=⟨ak.1,by have:=ak.2.1;show A.depth+1<=_;lia,by have:=ak.2.2.1;show A.units+3<=_;lia,hl⟩
 have aS:=zlJ (l:=l+1) ok ak' D nf q7 q8 q11 q13 hlen har.1 har.2 bas R (env:=callEnvC fd s.heap.objs.size a) (a:=a) rfl x
 have xK:Ext g as s g as sA:=by refine xee x.toInCall.same λhp tk t0=>?_;subst t0;exact(R.kept x.toInCall.keep tk).2
 refine wpAny_mono (HB d _ h fl vs' hJ q1 hex (A.deeper (callEnvC fd s.heap.objs.size a)) _ g as sA aS) (λfw s' z=>?_) λ_ _ z=>z.elim
 refine zaj z λg' as' x' a' qf=>?_
 have hBn:∀b,Own (callEnvC fd s.heap.objs.size a) (zpI d.scope) b->s.heap.get? b=none:=λb ob=>by
  rcases ob with ob|⟨y,i,_,_,hc⟩
  ·exact rwl ob (zas _)
  ·generalize q:s.heap.get? b=b0;induction b0 using Option.casesOn with
   |none=>rfl
   |some o=>have:=Heap.lt_size q;exact absurd (Nat.lt_trans this (x.above y b (zae hc))) (Nat.lt_irrefl _)
 exact ziJ e R.len.symm (xK.thenS x' hBn) a'.rel qf
theorem zhs:zbS za3.scope=[(("size":Str),0),(("piece":Str),1),(("at":Str),2),(("text":Str),3)]:=by kernel_rfl
theorem znC:zpI za3.scope=[(("size":Str),0),(("piece":Str),1)]:=by kernel_rfl
theorem znB:zbx 30=some za3:=by
 unfold za3;generalize e:zbx 30=x0;induction x0 using Option.casesOn with
 |some d=>rfl
 |none=>
  have:(zbx 30).isSome=true:=by kernel_rfl
  rw[e]at this;exact noT this
theorem zpL{Φ:PA}{tx:List Nat}{i:Nat}{u v:V}(hl:l+1<=60)(HB:zmM C (l+1) Φ 30)(e:zjv Φ 30 [.give tx i,u] h=some (v,h')):zmP C l tx i [u] h v h':=by
 intro A g as s a xs ak ok bas R G har;refine zeA G λfd qual cA cT oA oT y x0=>?_;refine zly x0 λt e1 e2 e3 e4 e5 e6 t0=>?_;refine zcQ t0 λe7 e8 e9 e10 e11 e12 e13 b0=>?_;refine zra b0 λne f1 f2 f3 f4 f5=>?_;obtain⟨x,rfl,hx⟩:∃x,xs=[x]/\zah prog C.w g as u x:=by refine xea (har.2 0 u rfl) λx hx q=>?_;exact xe (List.length_eq_one_iff.mp har.1) λz hz=>⟨x,by rw[hz]at hx ⊢;exact congrArg (λz=>[z]) (Option.some.inj hx),q⟩
 refine ziw znB (args:=[u,.uA,.obj i,.str tx]) (λa ha=>by have r0:=Option.some.inj ha;subst r0;rfl) e λ_ fl vs' hJ hex e=>?_;have hfr:=R.frz _ _ e1;have hnm:∀y k,za3.scope.names.lookup y=some k->k≠.cell/\(k=.free->y=("at":Str)\/y=("text":Str)):=λy k hy=>by have:=zae hy;rw[zbn]at this;simp only[List.mem_cons,Prod.mk.injEq,List.not_mem_nil,or_false]at this;rcases this with ⟨rfl,rfl⟩|⟨rfl,rfl⟩|⟨rfl,rfl⟩|⟨rfl,rfl⟩|⟨rfl,rfl⟩<;>simp
 have hbind:bindArgs fd ⟨[x],[]⟩=pure [(("size":Str),x)]:=by have:=zc4 (fd:=fd) (vals:=[x]) (by rw[e4];kernel_rfl) (by rw[e4];kernel_rfl) (by rw[e4];kernel_rfl) (by rw[e4];kernel_rfl) e9 (by rw[e4];kernel_rfl) (by rw[e4];decide+kernel);rw[e4,show (za3.params.args.map (·.arg))=[("size":Str)] by kernel_rfl]at this;exact this
 have hcr:s.heap.CodeRec fd.code fd.qualname:=by refine zdH e3 λc o cvs ct z1 z2 z3 z4=>?_;exact⟨c,o,cvs,ct,z1,R.frz _ _ z2,z3,by rw[e2];exact z4⟩
 refine codeAny_call_def (fd:=fd) (body:=za3.body) (binds:=[(("size":Str),x)]) (by have:=ak.2.1;have:=ak.2.2.2;show A.depth<1000;lia) hfr rfl (ok.lim.keeps λb o e=>R.frz b o (bas b o e)) hcr e5 (BindsTo.of_eq hbind)
  (λp hp=>?_) (λp hp=>?_) (λhY hns hkA=>?_) (by rw[e6];kernel_rfl) (by rw[e6];kernel_rfl) (by rw[e6];kernel_rfl)
 ·rw[e6,zbn]at hp;simp only[List.mem_cons,List.not_mem_nil,or_false]at hp;rcases hp with rfl|rfl|rfl|rfl|rfl<;>simp
 ·rw[List.mem_singleton.mp hp,e6,zbn];rfl
 have hL:(callEnv fd s.heap.objs.size a).locals=s.heap.objs.size:=rfl
 have hK:∀y,(callEnv fd s.heap.objs.size a).kindOf y=za3.scope.names.lookup y:=λy=>by rw[<-e6];rfl
 have hcs:(callEnv fd s.heap.objs.size a).cells=fd.closure:=rfl
 generalize henv:callEnv fd s.heap.objs.size a=env at*
 have nL:s.heap.get? env.locals=none:=by rw[hL];exact zas _
 have cl:∀y c,env.cells.lookup y=some c->(y=("at":Str)/\c=cA)\/(y=("text":Str)/\c=cT):=λy c q=>e13 y c (hcs▸q)
 have hA:s.heap.get? cA=some oA:=R.frz _ _ f1
 have hT:s.heap.get? cT=some oT:=R.frz _ _ f4
 have nas:∀c o z,s.heap.get? c=some o->o.data=.cell z->c ∉ as:=λc o z q1 q2 q3=>by refine xe (List.getElem?_of_mem q3) λk hk=>?_;obtain⟨ob,hob⟩:∃ob,h[k]?=some ob:=⟨_,List.getElem?_eq_getElem (by rw[<-R.len];exact(List.getElem?_eq_some_iff.mp hk).1)⟩;refine xea ((R.ob k c ob hk hob).noCell) λo' w1 w2=>?_;rw[q1]at w1;have r0:=Option.some.inj w1;subst r0;exact w2 _ q2
 have nA:=nas _ _ _ hA f2
 have nT:=nas _ _ _ hT f5
 refine xa (R.kept hkA (s.toks+[(("size":Str),x)].length)) λR1 xK=>?_
 have gN:∀b,s.heap.get? b=none->g b=none:=λb e=>by
  generalize q:g b=e0;induction e0 using Option.casesOn with
  |none=>rfl
  |some o=>have:=R.frz b o q;rw[e]at this;exact nos this
 have ap1:∀y z c,env.cells.lookup y=some c->env.cells.lookup z=some c->y=z:=λy z c q1 q2=>by
  rcases cl _ _ q1 with ⟨rfl,rfl⟩|⟨rfl,rfl⟩<;>rcases cl _ _ q2 with ⟨rfl,w⟩|⟨rfl,w⟩
  ·rfl
  ·exact absurd w ne
  ·exact absurd w.symm ne
  ·rfl
 have aS:AtS C (l+1) za3.scope (zbS za3.scope) (zpI za3.scope) ([u,.uA,.obj i,.str tx]++List.replicate ((zbS za3.scope).length+6-4) .uA) (A.deeper env) env g as h { s with heap:=hY,toks:=s.toks+[(("size":Str),x)].length }:=by
  refine⟨⟨ok,⟨ak.1,by have:=ak.2.1;show A.depth+1<=_;lia,by have:=ak.2.2.1;show A.units+3<=_;lia,hl⟩,⟨?_,λy k hy=>.inl (by rw[hK];exact hy),λy hy=>?_,?_,?_,λy z c q1 q2=>?_,λq=>?_⟩,bas,R1,
   ⟨⟨λz=>[(("size":Str),x)].reverse.lookup z,λz=>if z=("at":Str) then some (.ref y) else if z=("text":Str) then some (.str (sk tx) t) else none,(by rw[hL];exact hns),λy c q=>?_,λy j v h1 h2 h3=>?_⟩,gN _ nL,?_,λy c q=>?_,λy j q=>?_⟩⟩,⟨λy j q=>?_,λy z j h1 h2=>zjJ h1 h2,λy z c q1 q2=>?_⟩⟩
  ·rw[<-henv];show fd.scope.kind=_;rw[e6];kernel_rfl
  ·rcases hy with hy|hy
   ·exact absurd rfl (hnm y _ hy).1
   ·rcases (hnm y _ hy).2 rfl with rfl|rfl
    ·exact⟨cA,by rw[hcs];exact e11⟩
    ·exact⟨cT,by rw[hcs];exact e12⟩
  ·rw[<-henv];exact e7
  ·rw[<-henv];exact e8
  ·exact ap1 _ _ _ q1 q2
  ·exact absurd q (by decide)
  ·rcases cl _ _ q with ⟨rfl,rfl⟩|⟨rfl,rfl⟩
   ·exact⟨oA,hkA _ _ hA,f2⟩
   ·exact⟨oT,hkA _ _ hT,f5⟩
  ·have hm:=zae h1;rw[zhs]at hm h2;simp only[List.mem_cons,Prod.mk.injEq,List.not_mem_nil,or_false]at hm;rcases hm with ⟨rfl,rfl⟩|⟨rfl,rfl⟩|⟨rfl,rfl⟩|⟨rfl,rfl⟩
   ·have r0:=Option.some.inj h2;subst r0;exact .inl ⟨by rw[hK,zbn];rfl,x,rfl,hx⟩
   ·have r0:=Option.some.inj h2;subst r0;exact absurd rfl h3
   ·have r0:=Option.some.inj h2;subst r0;exact .inr ⟨.inr (by rw[hK,zbn];rfl),⟨cA,by rw[hcs];exact e11⟩,.ref y,rfl,⟨y,rfl,f3⟩⟩
   ·have r0:=Option.some.inj h2;subst r0;exact .inr ⟨.inr (by rw[hK,zbn];rfl),⟨cT,by rw[hcs];exact e12⟩,.str (sk tx) t,rfl,⟨t,rfl⟩⟩
  ·intro q;refine xe (R.ex _ q) λo eo=>?_;rw[nL]at eo;exact nos eo
  ·rcases cl _ _ q with ⟨rfl,rfl⟩|⟨rfl,rfl⟩
   ·exact⟨nA,λz=>by rw[z,nL]at hA;exact nos hA⟩
   ·exact⟨nT,λz=>by rw[z,nL]at hT;exact nos hT⟩
  ·have hm:=zae q;rw[zhs]at hm;simp only[List.mem_cons,Prod.mk.injEq,List.not_mem_nil,or_false]at hm;rcases hm with ⟨rfl,rfl⟩|⟨rfl,rfl⟩|⟨rfl,rfl⟩|⟨rfl,rfl⟩<;>exact⟨by decide,by decide⟩
  ·have hm:=zae q;rw[znC]at hm;simp only[List.mem_cons,Prod.mk.injEq,List.not_mem_nil,or_false]at hm;rcases hm with ⟨rfl,rfl⟩|⟨rfl,rfl⟩<;>exact⟨by rw[zhs];rfl,.inl (by rw[hK,zbn];rfl)⟩
  ·exact ap1 _ _ _ q1 q2
 have body:=HB za3 _ h fl vs' hJ znB hex (A.deeper env) _ g as _ aS
 refine wpAny_mono body (λfw s' z=>?_) λ_ _ z=>z.elim
 refine zaj z λg' as' x' a' qf=>?_
 have hBn:∀b,Own env (zpI za3.scope) b->s.heap.get? b=none:=λb ob=>by
  rcases ob with ob|⟨y,i,_,hk,_⟩
  ·rw[ob];exact nL
  ·rw[hK]at hk;exact absurd rfl (hnm y _ hk).1
 exact ziJ e R.len.symm (xK.thenS x' hBn) a'.rel qf
end
section
variable {Φ:PA}{vs:Vs}{h:H}{r:V×H}{G:Prop}
theorem zbb(hv:eE Φ vs zaP h=some r):G:=nomatch hv
theorem zfj{b:Bool}{c:E}(hv:eE Φ vs (cond b c zaP) h=some r)(k:b=true->eE Φ vs c h=some r->G):G:=by
 induction b using Bool.casesOn with
 |true=>exact k rfl hv
 |false=>exact zbb hv
theorem zde{b:Bool}{c d:E}(hv:eE Φ vs (cond b c d) h=some r)(k:b=true->eE Φ vs c h=some r->G)(k2:eE Φ vs d h=some r->G):G:=by
 induction b using Bool.casesOn with
 |true=>exact k rfl hv
 |false=>exact k2 hv
theorem zkR{α:Type}{o:Option α}{f:α->E}(hv:eE Φ vs (o.elim zaP f) h=some r)(k:∀a,o=some a->eE Φ vs (f a) h=some r->G):G:=by
 induction o using Option.casesOn with
 |some a=>exact k a rfl hv
 |none=>exact zbb hv
theorem zlV{α:Type}{o:Option α}{f:α->E}{z:E}(hv:eE Φ vs (o.elim z f) h=some r)(k:∀a,o=some a->eE Φ vs (f a) h=some r->G)(k2:o=none->eE Φ vs z h=some r->G):G:=by
 induction o using Option.casesOn with
 |some a=>exact k a rfl hv
 |none=>exact k2 rfl hv
@[elab_as_elim] theorem on1_e{α:Type}(l:List α){f:α->E}{P:List α->Prop}(hv:eE Φ vs (on1 zaP l f) h=some r)(k:∀a,eE Φ vs (f a) h=some r->P [a]):P l:=zkR hv λa e hv=>zcM e▸k a hv
@[elab_as_elim] theorem on2_e{α:Type}(l:List α){f:α->α->E}{P:List α->Prop}(hv:eE Φ vs (on2 zaP l f) h=some r)(k:∀a b,eE Φ vs (f a b) h=some r->P [a,b]):P l:=zkR hv λp e hv=>zku e▸k p.1 p.2 hv
@[elab_as_elim] theorem on1_or{α:Type}(l:List α){f:α->E}{z:E}{P:List α->Prop}(hv:eE Φ vs (on1 z l f) h=some r)(k:∀a,eE Φ vs (f a) h=some r->P [a])(k2:eE Φ vs z h=some r->P l):P l:=zlV hv (λa e hv=>zcM e▸k a hv) λ_ hv=>k2 hv
end
@[elab_as_elim] theorem fin{α β:Type}{P:α->β->Prop}(c:α)(d:β){a:α}{b:β}(e:(pure (a,b):Option (α×β))=some (c,d))(k:P a b):P c d:=by cases e;exact k
@[elab_as_elim] theorem nil_of{α:Type}(l:List α){P:List α->Prop}(h:l.isEmpty=true)(k:P []):P l:=List.isEmpty_iff.mp h▸k
theorem zc3{a b:Bool}(h:(a&&b)=true):a=true/\b=true:=Bool.and_eq_true_iff.mp h
theorem bnd{α β γ:Type}{X:Option (α×β)}{K:α×β->Option γ}{r:γ}{G:Prop}(e:(X >>= K)=some r)(k:∀a b,X=some (a,b)->K (a,b)=some r->G):G:=by
 induction X using Option.casesOn with
 |some p=>exact k p.1 p.2 rfl e
 |none=>exact nos e
theorem zaG{α γ:Type}{X:Option α}{K:α->Option γ}{r:γ}{G:Prop}(e:(X >>= K)=some r)(k:∀a,X=some a->K a=some r->G):G:=by
 induction X using Option.casesOn with
 |some p=>exact k p rfl e
 |none=>exact nos e
theorem zdg{γ:Type}{p:Prop}[Decidable p]{a:Option γ}{r:γ}{G:Prop}(e:(if p then a else none)=some r)(k:p->a=some r->G):G:=by
 split at e
 ·exact k ‹_› e
 ·cases e
theorem zrw{x:V}{c:Nat}(e:zpv x=some c):x=.str [c]:=be e λl h q=>zcM q▸zdq h
theorem up_inv{x:V}{b:Int}(e:upOf x=some b):x=.rng 0 b 1:=by
 induction x using V.casesOn with
 |rng a b c=>exact ite_e e λq=>by rw[q.1,q.2]
 |_=>exact nos e
theorem zpM{x:V}{p:List Nat×Nat}(e:zgU x=some p):x=.give p.1 p.2:=by
 induction x using V.casesOn with
 |give=>exact sm e rfl
 |_=>exact nos e
theorem zj2{h:H}{i:Nat}{us:List V}(e:zdP h i=some us):h[i]?=some (.list us):=be e λ_ e q=>zld q▸e
theorem to{X:Option (V×H)}{x y:V}{h:H}(hx:X=some (x,h))(e:x=y):X=some (y,h):=e▸hx
theorem zam{F:Str->Option V}{nb n:Nat}{Γ:Gam}{sc:Scope}{e:Expr}{Φ:PA}{vs:Vs}{h:H}{r:V×H}(hv:eE Φ vs (cE F nb n Γ sc e) h=some r):
  (∀env es,starEach (e::es) env=(false,eval e env)::starEach es env)/\(∀env x,foldedSetIterable e env x=pure x)/\(∀op,behindInMarks op e=false)/\(∀lo hi st p,e≠.Slice lo hi st p):=by
 cases n with
 |zero=>exact zbb hv
 |succ n=>
  induction e using PySem.Expr.casesOn with
  |Set=>exact zbb hv
  |Starred=>exact zbb hv
  |Slice=>exact zbb hv
  |_=>exact⟨λ_ _=>rfl,λ_ _=>rfl,λ_=>rfl,λ_ _ _ _=>nofun⟩
theorem za4{p:Pos}:∀{l:List (Bool×Sem Value)},l.all (λx=> !x.1)=true->(backTo p l).all (λx=> !x.1)=true/\(backTo p l).any (·.1)=false:=by intro l h;unfold backTo;refine rwl List.all_map ?_;exact ia h (by simpa[List.any_eq_false,List.all_eq_true] using h)
theorem zgh{Γ:Gam}:∀{es:List Expr} {is:List Nat},zgg es Γ=some is->es.length=is.length:=by
 intro l9;induction l9 with
 |nil=>intro is e;cases e;rfl
 |cons e es zgh=>
  intro is q;induction e using PySem.Expr.casesOn with
  |Name x p=>exact zaG (X:=List.lookup _ Γ) q λ_ _ e=>zaG e λ_ hj e=>by cases e;exact congrArg (·+1) (zgh hj)
  |_=>exact nos q
theorem zia{Γ:Gam}{ts:List Expr}{k:Nat}{p:Pos}{tg:List Nat}(ht:zbG Γ (.Tuple ts k p)=some tg):2<=tg.length:=
 zdg ht λh2 e=>zgh e▸h2
theorem zoT{Γ:Gam}{t:Expr}{tg:List Nat}{v:V}(ht:zbG Γ t=some tg)(h:tg.length=1\/zaQ v=true):zaQ v=true\/∃x p,t=.Name x p:=by
 rcases h with h|h
 ·induction t using PySem.Expr.casesOn with
  |Name x p=>exact .inr ⟨_,_,rfl⟩
  |Tuple=>have:=zia ht;rw[h]at this;exact absurd this (by decide)
  |_=>exact nos ht
 ·exact .inl h
theorem zfJ{sc cD:Scope}{Γ Γ' Γw':Gam}{tA:List Nat}(h:zc6 sc cD Γ Γ' Γw' tA=true):CompOk sc cD Γ Γ' Γw' tA:=by
 refine zdy λX kX=>?_;unfold zc6 at h;simp only[Bool.and_eq_true,List.all_eq_true,Bool.or_eq_true,bne_iff_ne,beq_iff_eq,List.any_eq_true,Bool.not_eq_true',List.contains_iff_mem,ne_eq]at h;obtain⟨⟨⟨⟨⟨⟨⟨⟨h1,h2⟩,h3⟩,h4⟩,h5⟩,h6⟩,h7⟩,h8⟩,h9⟩:=h;refine kX ?_;refine⟨h1,h2,λp hp q=>?_,λp hp q=>?_,λx i e=>?_,λx y i e1 e2=>?_,λx i e=>?_,λx i e=>h8 _ (zae e),h9⟩
 ·rcases h3 p hp with z|z
  ·exact absurd q z
  ·exact z
 ·rcases h4 p hp with (z|z)|z
  ·exact absurd q z
  ·exact .inl z
  ·exact .inr z
 ·rcases h5 _ (zae e) with z|z
  ·exact .inl z
  ·obtain⟨⟨⟨⟨q,hq,rfl,hf⟩,z2⟩,z3⟩,z4⟩:=z;refine .inr ⟨?_,z2,z3,?_⟩
   ·obtain⟨a,b⟩:=q;cases hf;exact hq
   ·simpa using z4
 ·have:=h6 _ (zae e1) _ (zae e2);rcases this with z|z
  ·exact absurd rfl z
  ·exact z
 ·have:=h7 _ (zae e);exact this
structure Sound (C:Cx) (l:Nat) (Φ:PA) (nb n:Nat):Prop where
 e:∀{Γ:Gam} {sc:Scope} {e:Expr} {vs:Vs} {h:H} {v:V} {h':H},eE Φ vs (cE zan nb n Γ sc e) h=some (v,h')->Ev C l sc Γ vs e h v h'
 t:∀{Γ:Gam} {sc:Scope} {e:Expr} {vs:Vs} {h:H} {v:V} {h':H} {b:Bool},eE Φ vs (cT zan nb n Γ sc e) h=some (v,h')->zaT h' v=some b->Ts C l sc Γ vs e h b h'
section
variable {C:Cx}{l:Nat}{Φ:PA}{nb n:Nat}{Γ:Gam}{sc:Scope}{e:Expr}{vs:Vs}{h h':H}{v:V}
theorem zoJ(I:Sound C l Φ nb n){e:Option Expr}(hv:eE Φ vs (e.elim (.c .none) (cE zan nb n Γ sc)) h=some (v,h')):match (generalizing:=false) e with|none=>v=.none/\h'=h|some e=>Ev C l sc Γ vs e h v h':=by
 cases e with
 |none=>cases hv;exact⟨rfl,rfl⟩
 |some e=>exact I.e hv
theorem zdC(I:Sound C l Φ nb n):∀{es:List Expr} {h:H} {v:V} {us:List V} {h':H},eE Φ vs (ziD (es.map (cE zan nb n Γ sc))) h=some (v,h')->zbz v=some us->us.length=es.length/\EvL C l sc Γ vs es h us h'/\∀env,(starEach es env).all (λx=> !x.1)=true
 |[],_,_,_,_,hv,e=>by cases hv;cases e;exact⟨rfl,Ev.nil,λ_=>rfl⟩
 |_::es,_,_,_,_,hv,e=>bnd hv λx hJ hx hv=>bnd hv λr hO hr hv=>zaG hv λus hu hv=>xaa (zdC I hr hu) λhl q w=>by cases hv;cases e;exact⟨congrArg (·+1) hl,Ev.cons (λenv=>(zam hx).1 env es) (I.e hx) q,λenv=>by rw[(zam hx).1,List.all_cons,w];rfl⟩
theorem Ev.fin{a:V}{b:H}(hv:(pure (a,b):Option (V×H))=some (v,h'))(p:Ev C l sc Γ vs e h a b):Ev C l sc Γ vs e h v h':=by cases hv;exact p
theorem Ts.fin{a b:Bool}{hJ:H}(hv:(pure (.bool a,hJ):Option (V×H))=some (v,h'))(hb:zaT h' v=some b)(p:Ts C l sc Γ vs e h a hJ):Ts C l sc Γ vs e h b h':=by cases hv;cases hb;exact p
theorem Ts.stay{a b:Bool}{x:V}{hJ:H}(hv:(pure (x,hJ):Option (V×H))=some (v,h'))(ht:zaT hJ x=some a)(hb:zaT h' v=some b):b=a/\h'=hJ:=by cases hv;cases ht.symm.trans hb;exact⟨rfl,rfl⟩
theorem zsT(I:Sound C l Φ nb n){b:Bool}(hv:eE Φ vs (cT zan nb (n+1) Γ sc e) h=some (v,h'))(hb:zaT h' v=some b):Ts C l sc Γ vs e h b h':=by
 induction e using PySem.Expr.casesOn with
 |UnaryOp op x p=>
  induction op using PySem.UnaryOp.casesOn with
  |Not=>exact bnd hv λx hJ hx hv=>zaG hv λt ht hv=>Ts.fin hv hb (Ts.not (I.t hx ht))
  |_=>exact zbb hv
 |BoolOp op xs p=>
  induction op using PySem.BoolOp.casesOn with
  |And=>
   refine on2_e xs (show eE Φ vs (on2 zaP xs λx y=>.and (cT zan nb n Γ sc x) (cT zan nb n Γ sc y)) h=_ from hv) λa c hv=>bnd hv λx hJ hx hv=>zaG hv λt ht hv=>Ts.and (I.t hx ht) ?_;induction t using Bool.casesOn with
   |true=>exact I.t hv hb
   |false=>exact Ts.stay hv ht hb
  |Or=>
   refine on2_e xs (show eE Φ vs (on2 zaP xs λx y=>.or (cT zan nb n Γ sc x) (cT zan nb n Γ sc y)) h=_ from hv) λa c hv=>bnd hv λx hJ hx hv=>zaG hv λt ht hv=>Ts.or (I.t hx ht) ?_;induction t using Bool.casesOn with
   |false=>exact I.t hv hb
   |true=>exact Ts.stay hv ht hb
 |IfExp=>exact zbb hv
 |Compare a ops bs p=>
  exact on1_e ops hv λop hv=>on1_e bs hv λr hv=>bnd hv λx hJ hx hv=>bnd hv λy hO hy hv=>zaG hv λz hz hv=>
   Ts.fin hv hb (Ts.cmp ((zam hy).2.2.1 _) (I.e hx) (I.e hy) hz)
 |_=>exact Ts.val (λ_ _=>rfl) (I.e hv) hb
end
section
variable {C:Cx}{l:Nat}{Φ:PA}{nb n:Nat}{Γ Γ' Γw:Gam}{sc cD:Scope}{e:Expr}{vs:Vs}{h h':H}{v:V}
theorem zbo{tg:List Nat}{v:V}{xs:List V}(e:zak tg v=some xs):zaN v=some xs/\xs.length<=zad/\(tg.length=1\/zaQ v=true):=
 xea (Option.bind_eq_some_iff.mp e) λ_ h1 h2=>zdg h2 λhz e=>by have r0:=Option.some.inj e;subst r0;exact⟨h1,hz⟩
theorem zoQ(I:Sound C l Φ nb n){ifs:List Expr}(hl:ifs.length<=1){hJ:H}{b:V}{t:Bool}(hv:eE Φ vs (ifs.head?.elim (.c (.bool true)) (cT zan nb n Γ sc)) h=some (b,hJ))(ht:zaT hJ b=some t):TsI C l sc Γ vs ifs h t hJ:=
 match ifs,hl,hv with
 |[],_,hv=>by have r0:=Option.some.inj hv;cases r0;have r0:=Option.some.inj ht;cases r0;exact .inl ⟨rfl,rfl,rfl⟩
 |[c],_,hv=>.inr ⟨c,rfl,I.t hv ht⟩
 |_::_::_,hl,_=>absurd (Nat.le_of_succ_le_succ hl) (Nat.not_succ_le_zero _)
theorem zaM.fin{ob:Ob}{a:V}{b:H}(hv:(pure (a,b):Option (V×H))=some (v,h'))(r:zaM C l sc Γ vs e h ob b)(q:frzOf ob=some a):∃ob,zaM C l sc Γ vs e h ob h'/\frzOf ob=some v:=by have r0:=Option.some.inj hv;cases r0;exact⟨ob,r,q⟩
theorem zpx(I:Sound C l Φ nb n){t it elt:Expr}{ifs:List Expr}{tg:List Nat}{p:Pos}(ht:zbG Γw t=some tg)(hl:ifs.length<=1)(hk:zc6 sc cD Γ Γ' Γw tg=true)
  (hv:eE Φ vs (.comp tg (cE zan nb n Γ sc it) (ifs.head?.elim (.c (.bool true)) (cT zan nb n Γ' cD)) (cE zan nb n Γ' cD elt)) h=some (v,h')):
  ∃ob,zaM C l sc Γ vs (.ListComp elt [⟨t,it,ifs,0⟩] cD p) h ob h'/\frzOf ob=some v:=
 bnd hv λx hJ hx hv=>zaG hv λxs hxs hv=>bnd hv λacc hO hf hv=>xaa (zbo hxs) λz1 z2 z3=>
  zaM.fin hv (zaM.list (zam hx).2.1 ht (zoT ht z3) z1 z2 (zfJ hk) (I.e hx) (λx acc h acc' h' hf=>
   zaG hf λvs' hb hf=>bnd hf λb hJ hb' hf=>zaG hf λt ht hf=>⟨vs',t,hJ,hb,zoQ I hl hb' ht,by
    induction t using Bool.casesOn with
    |true=>exact bnd hf λy hO hy hf=>zdg hf λhfl hf=>fin acc' h' hf ⟨y,I.e hy,hfl,rfl,.inl trivial⟩
    |false=>exact fin acc' h' hf ⟨rfl,rfl⟩⟩) hf) rfl
theorem zqf{e:Expr}(hs:zr2 e=false)(env:Env)(x:Value):foldedSetIterable e env x=pure x:=by
 induction e using PySem.Expr.casesOn with
 |Set=>exact noT (Eq.symm hs)
 |_=>rfl
theorem zpz(I:Sound C l Φ nb n){it it2 elt c:Expr}{xn yn:Str}{x y:Nat}{px py p:Pos}(hx:Γw.lookup xn=some x)(hy:Γw.lookup yn=some y)(hs:zr2 it2=false)(hk:zc6 sc cD Γ Γ' Γw [x,y]=true)
  (hv:eE Φ vs (.comp2 x (cE zan nb n Γ sc it) y (cE zan nb n Γ' cD it2) (cT zan nb n Γ' cD c) (cE zan nb n Γ' cD elt)) h=some (v,h')):
  ∃ob,zaM C l sc Γ vs (.ListComp elt [⟨.Name xn px,it,[],0⟩,⟨.Name yn py,it2,[c],0⟩] cD p) h ob h'/\frzOf ob=some v:=
 bnd hv λxH hJ hx0 hv=>zaG hv λxs hxs hv=>bnd hv λacc hO hf hv=>
  zaM.fin hv (zaM.list2 (zam hx0).2.1 (zqf hs) hx hy (zbo hxs).1 (zfJ hk) (I.e hx0) (λa acc h acc' h' hf=>
   bnd hf λv2 hJ hv2 hf=>zaG hf λys hys hf=>⟨v2,hJ,ys,_,I.e hv2,(zbo hys).1,hf,λb acc h acc' h' hf=>
    bnd hf λt hJ ht hf=>zaG hf λtt htt hf=>⟨_,tt,hJ,rfl,.inr ⟨c,rfl,I.t ht htt⟩,by
     induction tt using Bool.casesOn with
     |true=>exact bnd hf λz hO hz hf=>zdg hf λhfl hf=>fin acc' h' hf ⟨z,I.e hz,hfl.1,rfl,.inr hfl.2⟩
     |false=>exact fin acc' h' hf ⟨rfl,rfl⟩⟩⟩) hf) rfl
theorem znb(I:Sound C l Φ nb n){it kx vx:Expr}{xn:Str}{x:Nat}{px p:Pos}(hx:Γw.lookup xn=some x)(hk:zc6 sc cD Γ Γ' Γw [x]=true)
  (hv:eE Φ vs (.dcomp x (cE zan nb n Γ sc it) (cE zan nb n Γ' cD kx) (cE zan nb n Γ' cD vx)) h=some (v,h')):
  ∃ob,zaM C l sc Γ vs (.DictComp kx vx [⟨.Name xn px,it,[],0⟩] cD p) h ob h'/\frzOf ob=some v:=
 bnd hv λxH hJ hx0 hv=>zaG hv λxs hxs hv=>bnd hv λacc hO hf hv=>xaa (zbo hxs) λz1 z2 _=>
  zaM.fin hv (zaM.dict (zam hx0).2.1 hx z1 z2 (zfJ hk) (I.e hx0) (λa acc h acc' h' hf=>
   bnd hf λkv hJ hkv hf=>bnd hf λvv hO hvv hf=>zaG hf λk hk hf=>zaG hf λc hc hf=>
    fin acc' h' hf ⟨k,hJ,vv,c,I.e (to hkv (zdq hk)),I.e hvv,hc,rfl⟩) hf) rfl
@[elab_as_elim] theorem nm_of(t:Expr){x:Str}{P:Expr->Prop}(e:zdQ t=some x)(k:∀p,P (.Name x p)):P t:=by
 induction t using PySem.Expr.casesOn with
 |Name y p=>have r0:=Option.some.inj e;subst r0;exact k p
 |_=>exact nos e
@[elab_as_elim] theorem gen_of(g:Comprehension){P:Comprehension->Prop}(e:(g.is_async==0)=true)(k:P ⟨g.target,g.iter,g.ifs,0⟩):P g:=by obtain⟨t,it,ifs,a⟩:=g;have r0:=((eq_of_beq e:a=0));subst r0;exact k
theorem ze2(I:Sound C l Φ nb n)(hcm:zcx e=true)(hv:eE Φ vs (cE zan nb (n+1) Γ sc e) h=some (v,h')):∃ob,zaM C l sc Γ vs e h ob h'/\frzOf ob=some v:=by
 induction e using PySem.Expr.casesOn with
 |ListComp elt gs cD p=>
  exact on1_or gs hv (λg hv=>zfj hv λhc hv=>zkR hv λtg htg hv=>zfj hv λhk hv=>gen_of g (zc3 hc).1 (zpx I htg (of_decide_eq_true (zc3 hc).2) hk hv))
   λhv=>on2_e gs hv λg g2 hv=>zfj hv λhc hv=>gen_of g (zc3 (zc3 (zc3 hc).1).1).1 (gen_of g2 (zc3 (zc3 (zc3 hc).1).1).2 (nil_of g.ifs (zc3 (zc3 hc).1).2 (on1_e g2.ifs hv λc hv=>
    zkR hv λxn hxn hv=>zkR hv λyn hyn hv=>zkR hv λx hx hv=>zkR hv λy hy hv=>zfj hv λhk hv=>nm_of g.target hxn λpx=>nm_of g2.target hyn λpy=>
     zpz I hx hy ((Bool.not_eq_true' _).mp (zc3 hc).2) hk hv)))
 |DictComp kx vx gs cD p=>
  exact on1_e gs hv λg hv=>zfj hv λhc hv=>zkR hv λxn hxn hv=>zkR hv λx hx hv=>zfj hv λhk hv=>
   gen_of g (zc3 hc).1 (nil_of g.ifs (zc3 hc).2 (nm_of g.target hxn λpx=>znb I hx hk hv))
 |_=>exact noT hcm
end
end
section
open PySem.F (slot_list_pop slot_str_join slot_str_count slot_dict_get type_list_pop type_str_join type_str_count type_dict_get)
open PySem PySem.W PyProof.Rows PySem.Calls
theorem zpp:bootBuiltins "len"=some (.builtin "len"):=by decide+kernel
theorem zlD:bootBuiltins "range"=some (.type "range"):=by decide+kernel
theorem zpq:bootBuiltins "sum"=some (.builtin "sum"):=by decide+kernel
theorem zkG:bootBuiltins "min"=some (.builtin "min"):=by decide+kernel
theorem zjr:bootBuiltins "sorted"=some (.builtin "sorted"):=by decide+kernel
theorem ziu:bootBuiltins "list"=some (.type "list"):=by decide+kernel
theorem zkB:∀f∈zci,(f==("__debug__":Str))=false/\f≠"__name__":=by decide+kernel
theorem zrM:∀p∈zhp,Nat.beq p.2 30=false:=by decide+kernel
theorem zob:∀p∈zcp,Nat.beq p.2 30=false:=by decide+kernel
section
variable {Φ:PA}{vs:Vs}{h:H}{r:V×H}
@[elab_as_elim] theorem on1_m{α:Type}(l:List α){F:α->E}{f:E->E}{P:List α->Prop}(hv:eE Φ vs (on1 zaP (l.map F) f) h=some r)(k:∀a,eE Φ vs (f (F a)) h=some r->P [a]):P l:=
 match l,hv with
 |[a],hv=>k a hv
 |[],hv=>zbb hv
 |_::_::_,hv=>zbb hv
@[elab_as_elim] theorem on2_m{α:Type}(l:List α){F:α->E}{f:E->E->E}{P:List α->Prop}(hv:eE Φ vs (on2 zaP (l.map F) f) h=some r)(k:∀a b,eE Φ vs (f (F a) (F b)) h=some r->P [a,b]):P l:=
 match l,hv with
 |[a,b],hv=>k a b hv
 |[],hv=>zbb hv
 |[_],hv=>zbb hv
 |_::_::_::_,hv=>zbb hv
@[elab_as_elim] theorem on1_mor{α:Type}(l:List α){F:α->E}{f:E->E}{z:E}{P:List α->Prop}(hv:eE Φ vs (on1 z (l.map F) f) h=some r)(k:∀a,eE Φ vs (f (F a)) h=some r->P [a])(k2:eE Φ vs z h=some r->P l):P l:=
 match l,hv,k2 with
 |[a],hv,_=>k a hv
 |[],hv,k2=>k2 hv
 |_::_::_,hv,k2=>k2 hv
@[elab_as_elim] theorem strq_of(f:Str){x:Str}{P:Str->Prop}(q:(f==x)=true)(k:P x):P f:=by have r0:=(eq_of_beq q);subst r0;exact k
end
theorem zsC{us us':List V}{x:V}(e:zsB us=some (x,us')):us=x::us':=by induction us using List.casesOn<;>cases e;rfl
theorem zr3{Φ:PA}{vs:Vs}{h:H}{c:E}(e:isZ c=true):eE Φ vs c h=some (.int 0,h):=by
 induction c using E.casesOn with
 |c v=>induction v using V.casesOn with
  |int i=>have r0:=((eq_of_beq e:i=0));subst r0;rfl
  |_=>exact noT e
 |_=>exact noT e
section
variable {C:Cx}{l:Nat}{Φ:PA}{nb n:Nat}{Γ:Gam}{sc:Scope}{vs:Vs}{h hJ hO h':H}{x y v:V}{a b:Expr}{f:Str}{id:String}{p pos:Pos}
theorem Ev.bi1(I:Sound C l Φ nb n)(hf:sc.names.lookup f=some .globalImplicit)(hm:f∈zci)(hb:bootBuiltins f=some (.builtin id))(hx:eE Φ vs (cE zan nb n Γ sc a) h=some (x,hJ))
  (H:∀A env g as s y,At C l sc Γ vs A env g as hJ s->zah prog C.w g as x y->wpAny (Md C) A (PySem.call (.builtin id) [y]) (zay C g as s v h') No s):Ev C l sc Γ vs (.Call (.Name f p) [a] [] pos) h v h':=
 Ev.bi hf (zkB f hm).1 hm (zkB f hm).2 hb (λenv=>(zam hx).1 env []) (λ_=>rfl) (Ev.cons (λenv=>(zam hx).1 env []) (I.e hx) Ev.nil) λA env g as s xs a hlx hvx=>
  xea (zio hlx hvx) λy e q=>by subst e;exact H A env g as s y a q
theorem Ev.ty1(I:Sound C l Φ nb n)(hf:sc.names.lookup f=some .globalImplicit)(hm:f∈zci)(hb:bootBuiltins f=some (.type id))(hx:eE Φ vs (cE zan nb n Γ sc a) h=some (x,hJ))
  (H:∀A env g as s y,At C l sc Γ vs A env g as hJ s->zah prog C.w g as x y->wpAny (Md C) A (PySem.call (.type id) [y]) (zay C g as s v h') No s):Ev C l sc Γ vs (.Call (.Name f p) [a] [] pos) h v h':=
 Ev.ty hf (zkB f hm).1 hm (zkB f hm).2 hb (λenv=>(zam hx).1 env []) (λ_=>rfl) (Ev.cons (λenv=>(zam hx).1 env []) (I.e hx) Ev.nil) λA env g as s xs a hlx hvx=>
  xea (zio hlx hvx) λy e q=>by subst e;exact H A env g as s y a q
@[elab_as_elim] theorem rg_inv(us:List V)(r:V){P:List V->V->Prop}(e:zsG us=some r)(k1:∀i,P [.int i] (.rng 0 i 1))(k2:∀i j,P [.int i,.int j] (.rng i j 1))(k3:∀i j,P [.int i,.int j,.int (-1)] (.rng i j (-1))):P us r:=
 match us,e with
 |[],e=>nos e
 |[a],e=>zaG e λi hi e1=>by have r0:=Option.some.inj e1;subst r0;have r0:=(zbA hi);subst r0;exact k1 i
 |[a,b],e=>zaG e λi hi e1=>zaG e1 λj hj e2=>by have r0:=Option.some.inj e2;subst r0;have r0:=(zbA hi);subst r0;have r0:=(zbA hj);subst r0;exact k2 i j
 |a::b::c::l,e=>zaG e λi hi e1=>zaG e1 λj hj e2=>zaG e2 λk hk e3=>zdg e3 λq e4=>by have r0:=Option.some.inj e4;subst r0;have r0:=q.1;subst r0;have r0:=q.2;subst r0;have r0:=(zbA hi);subst r0;have r0:=(zbA hj);subst r0;have r0:=(zbA hk);subst r0;exact k3 i j
theorem zkl(I:Sound C l Φ nb n){args:List Expr}(hf:sc.names.lookup ("range":Str)=some .globalImplicit)(hv:eE Φ vs (.rg (ziD (args.map (cE zan nb n Γ sc)))) h=some (v,h')):
  Ev C l sc Γ vs (.Call (.Name ("range":Str) p) args [] pos) h v h':=
 bnd hv λx hJ hx hv=>zaG hv λus hu hv=>xaa (zdC I hx hu) λhl q0 w=>zaG hv λr hr hv=>Ev.fin hv (by
  have key:∀A env g as s xs,At C l sc Γ vs A env g as hJ s->xs.length=us.length->(∀(i:Nat) v,us[i]?=some v->∃x,xs[i]?=some x/\zah prog C.w g as v x)->wpAny (Md C) A (call (.type "range") xs) (zay C g as s r hJ) No s:=
   rg_inv us r hr (λi A env g as s xs at' hlx hvx=>xea (zio hlx hvx) λy e q=>by subst e;exact zot at'.rel q)
    (λi j A env g as s xs at' hlx hvx=>zaj (zmU hlx hvx) λy z e q r=>by subst e;exact zou at'.rel q r)
    (λi j A env g as s xs at' hlx hvx=>zih (args3 hlx hvx) λy z u e q r t=>by subst e;exact zov at'.rel q r t)
  induction args using List.casesOn with
  |nil=>induction us using List.casesOn with
   |nil=>exact nos hr
   |cons=>cases hl
  |cons e es=>have hst:=bnd hx λx hJ hx _=>(zam hx).1;exact Ev.ty hf rfl (by decide) (by decide) zlD (λenv=>hst env es) (λenv=>(za4 (by have:=w env;rw[hst,List.all_cons]at this;exact this)).2) q0 key)
theorem zmw(hl:l+1<=60)(hΦ:PhiOk C (l+1) Φ)(I:Sound C l Φ nb n){args:List Expr}(hf:sc.names.lookup f=some .globalImplicit)(hv:eE Φ vs (callE f (args.map (cE zan nb n Γ sc))) h=some (v,h')):
  Ev C l sc Γ vs (.Call (.Name f p) args [] pos) h v h':=by
 revert hf
 exact zlV hv (λg hft hv hf=>bnd hv λx hJ hx hv=>zaG hv λus hu hv=>xaa (zdC I hx hu) λhlen q w=>
   Ev.call hf (zae hft) (λenv=>(za4 (w env)).2) hl q (hΦ.fn _ _ _ _ _ hv (zrM _ (zae hft))))
  λ_ hv=>zde hv (λq hv=>strq_of f q (on1_m args hv λa hv hf=>bnd hv λx hJ hx hv=>bnd hv λr hO hr hv=>zaG hv λ_ hu hv=>
   Ev.fin hv (Ev.mk hf (λenv=>(za4 (by rw[(zam hx).1];rfl)).2) hl (Ev.cons (λenv=>(zam hx).1 env []) (I.e hx) Ev.nil) (hΦ.fn _ _ _ _ _ (to hr (zhN hu)) rfl))))
  λhv=>zde hv (λq hv=>strq_of f q (on1_m args hv λa hv hf=>bnd hv λx hJ hx hv=>zaG hv λk hk hv=>Ev.fin hv (Ev.bi1 I hf (by decide) zpp hx λA env g as s y a q=>len_ok hk a.rel q)))
  λhv=>zde hv (λq hv=>strq_of f q λhf=>zkl I hf hv)
  λhv=>zde hv (λq hv=>strq_of f q (on1_m args hv λa hv hf=>bnd hv λx hJ hx hv=>zaG hv λus hu hv=>zaG hv λk hk hv=>
   Ev.fin hv (Ev.bi1 I hf (by decide) zpq (to hx (zg1 hu)) λA env g as s y a q=>sum_ok a.aok hk a.rel q)))
  λhv=>zde hv (λq hv=>strq_of f q (on1_mor args hv (λa hv hf=>bnd hv λx hJ hx hv=>zaG hv λus hu hv=>zaG hv λk hk hv=>
    Ev.fin hv (Ev.bi1 I hf (by decide) zkG (to hx (zg1 hu)) λA env g as s y a q=>min_ok a.aok hk a.rel q))
   λhv=>on2_m args hv λa b hv hf=>bnd hv λx hJ hx hv=>bnd hv λy hO hy hv=>zaG hv λi hi hv=>zaG hv λj hj hv=>
    Ev.fin hv (Ev.bi hf rfl (by decide) (by decide) zkG (λenv=>(zam hx).1 env _) (λenv=>(za4 (by rw[(zam hy).1];rfl)).2) (Ev.cons (λenv=>(zam hx).1 env _) (I.e (to hx (zbA hi))) (Ev.cons (λenv=>(zam hy).1 env []) (I.e (to hy (zbA hj))) Ev.nil))
     λA env g as s xs a hlx hvx=>zaj (zmU hlx hvx) λy z e q r=>by subst e;exact zsm a.aok a.rel q r)))
  λhv=>zde hv (λq hv=>strq_of f q (on1_m args hv λa hv hf=>bnd hv λx hJ hx hv=>zaG hv λus hu hv=>zaG hv λps hps hv=>zdg hv λh4 hv=>
   Ev.fin hv (Ev.bi1 I hf (by decide) zjr (to hx (zg1 hu)) λA env g as s y a q=>zoF hps h4 a.rel q)))
  λhv=>zfj hv λq hv=>strq_of f q (on1_m args hv λa hv hf=>bnd hv λx hJ hx hv=>zaG hv λus hu hv=>zdg hv λh4 hv=>
   Ev.fin hv (Ev.ty1 I hf (by decide) ziu (to hx (zg1 hu)) λA env g as s y a q=>zsi a.rel q h4))
theorem zbX{o:Expr}(ho:zdW o=false)(m:Str)(env:Env)(whole:Sem Value):attributeBase o m env whole=whole:=by
 induction o using PySem.Expr.casesOn with
 |Call=>exact noT (Eq.symm ho)
 |_=>rfl
theorem zeN{es:List Expr}{ts:List (Bool×Sem Value)}(he:es.length<20)(hp:ts.all (λx=> !x.1)=true):methodCallForm (es.length+0) (backTo pos ts) []=true:=by unfold methodCallForm;refine rwl ((za4 hp).1) ?_;simp;omega
def MethAt(C:Cx)(h:H)(x:V)(name:Str)(id:String):Prop:=
 ∀(g:Gm) (as:List Addr) (s:Shared) (p:Value) (pl:Sem Bool) (A:Around) (Q:Value×List Value->Shared->Prop),Rel prog C.w g as h s.heap->zah prog C.w g as x p->Q (.builtin id,[p]) s->wpAny (Md C) A (getMethod p name pl) Q No s
variable {o:Expr}{m:Str}{ap:Pos}
theorem Ev.bm1(I:Sound C l Φ nb n)(ho:zdW o=false)(hline:(ap.endLine==pos.line)=true)(hov:eE Φ vs (cE zan nb n Γ sc o) h=some (x,hJ))(hx:eE Φ vs (cE zan nb n Γ sc a) hJ=some (y,hO))(H3:MethAt C hJ x m id)
  (H4:∀A env g as s p q,At C l sc Γ vs A env g as hO s->zah prog C.w g as x p->zah prog C.w g as y q->wpAny (Md C) A (PySem.call (.builtin id) [p,q]) (zay C g as s v h') No s):Ev C l sc Γ vs (.Call (.Attribute o m ap) [a] [] pos) h v h':=
 have hpl:∀env,(starEach [a] env).all (λx=> !x.1)=true:=λenv=>by rw[(zam hx).1];rfl
 Ev.bmeth (zbX ho m) hline (λenv=>zeN (es:=[a]) (of_decide_eq_true rfl) (hpl env)) (λenv=>(za4 (hpl env)).2) (I.e hov) (Ev.cons (λenv=>(zam hx).1 env []) (I.e hx) Ev.nil) H3 λA env g as s p xs a hp hlx hvx=>
  xea (zio hlx hvx) λy e q=>by subst e;exact H4 A env g as s p y a hp q
theorem zmx(hl:l+1<=60)(hΦ:PhiOk C (l+1) Φ)(I:Sound C l Φ nb n){args:List Expr}(h20:args.length<20)(ho:zdW o=false)(hline:(ap.endLine==pos.line)=true)(hv:eE Φ vs (methE (cE zan nb n Γ sc o) m (args.map (cE zan nb n Γ sc))) h=some (v,h')):
  Ev C l sc Γ vs (.Call (.Attribute o m ap) args [] pos) h v h':=
 zlV hv (λf hft hv=>bnd hv λov hJ hov hv=>zaG hv λi hi hv=>zaG hv λkC hk hv=>bnd hv λx hO hx hv=>zaG hv λus hu hv=>xaa (zdC I hx hu) λhlen q w=>
   Ev.meth (zae hft) (zbX ho m) hline (λenv=>zeN h20 (w env)) (λenv=>(za4 (w env)).2) hl (I.e (to hov (zdV hi))) (zds hk) q (hΦ.fn _ _ _ _ _ hv (zob _ (zae hft))))
  λ_ hv=>zde hv (λq hv=>strq_of m q (on1_m args hv λa hv=>bnd hv λov hJ hov hv=>zaG hv λi hi hv=>zaG hv λkC hk hv=>zaG hv λgv hg hv=>bnd hv λtx j hj hv=>bnd hv λy hX hy hv=>
   have hpl:∀env,(starEach [a] env).all (λx=> !x.1)=true:=λenv=>by rw[(zam hy).1];rfl
   Ev.read (zbX ho _) hline (λenv=>zeN (es:=[a]) (of_decide_eq_true rfl) (hpl env)) (λenv=>(za4 (hpl env)).2) hl (I.e (to hov (zdV hi))) (zds hk) (zpM hj▸hg) (Ev.cons (λenv=>(zam hy).1 env []) (I.e hy) Ev.nil) (hΦ.gv _ _ _ _ _ _ hv)))
  λhv=>zde hv (λq hv=>strq_of m q (on1_m args hv λa hv=>bnd hv λov hJ hov hv=>zaG hv λi hi hv=>zaG hv λus1 huA hv=>bnd hv λx hO hx hv=>zaG hv λus hu hv=>zdg hv λhz hv=>
   Ev.fin hv (Ev.bm1 I ho hline (to hov (zf9 hi)) hx (zf5 (xs:=us1) slot_list_append type_list_append huA) λA env g as s p y a hp q=>zmT a.rel (zj2 hu) hz.1 hz.2 hp q)))
  λhv=>zde hv (λq hv=>strq_of m q (zde hv (λhn hv=>nil_of args (by simpa using hn) (bnd hv λov hJ hov hv=>zaG hv λi hi hv=>zaG hv λus hu hv=>zaG hv λx hx hv=>zdg hv λhz hv=>
    Ev.fin hv (Ev.bmeth (zbX ho _) hline (λenv=>zeN (es:=[]) (of_decide_eq_true rfl) rfl) (λenv=>rfl) (I.e (to hov (zf9 hi))) Ev.nil (zf5 (xs:=us) slot_list_pop type_list_pop hu) λA env g as s p xs a hp hlx hvx=>by
     induction xs using List.casesOn with
     |nil=>exact pop_ok a.rel (zj2 hu) hx hz hp
     |cons=>cases hlx)))
   λhv=>on1_m args hv λa hv=>zfj hv λhq hv=>bnd hv λov hJ hov hv=>zaG hv λi hi hv=>zaG hv λus hu hv=>bnd hv λx us' hx hv=>zdg hv λhz hv=>
    Ev.fin hv (Ev.bm1 (x:=.obj i) (y:=.int 0) I ho hline (to hov (zf9 hi)) (zr3 hq) (zf5 (xs:=us) slot_list_pop type_list_pop hu) λA env g as s p y a hp q=>zsA a.rel (zsC hx▸zj2 hu) hz hp q)))
  λhv=>zde hv (λq hv=>strq_of m q (on1_m args hv λa hv=>bnd hv λov hJ hov hv=>bnd hv λx hO hx hv=>zaG hv λsp hs hv=>zaG hv λxs hxs hv=>zaG hv λss hss hv=>zdg hv λhz hv=>
   Ev.fin hv (Ev.bm1 I ho hline (to hov (zdq hs)) hx (zk9 slot_str_join type_str_join) λA env g as s p y a hp q=>znU a.rel hxs hss hz hp q)))
  λhv=>zde hv (λq hv=>strq_of m q (on1_m args hv λa hv=>bnd hv λov hJ hov hv=>bnd hv λx hO hx hv=>zaG hv λsp hs hv=>zaG hv λch hc hv=>
   Ev.fin hv (Ev.bm1 I ho hline (to hov (zdq hs)) (to hx (zrw hc)) (zk9 slot_str_count type_str_count) λA env g as s p y a hp q=>zlR a.rel hp q)))
  λhv=>zfj hv λq hv=>strq_of m q (on2_m args hv λa b hv=>bnd hv λov hJ hov hv=>bnd hv λx hO hx hv=>bnd hv λy hX hy hv=>zaG hv λz hz hv=>Ev.fin hv (by
   have hpl:∀env,(starEach [a,b] env).all (λx=> !x.1)=true:=λenv=>by rw[(zam hx).1,List.all_cons,(zam hy).1];rfl
   have EL:=Ev.cons (λenv=>(zam hx).1 env [b]) (I.e hx) (Ev.cons (λenv=>(zam hy).1 env []) (I.e hy) Ev.nil);induction ov using V.casesOn with
   |dI kC=>
    refine xea (Option.map_eq_some_iff.mp hz) λk hk e=>?_;subst e;have r0:=(zbA hk);subst r0;exact Ev.bmeth (zbX ho _) hline (λenv=>zeN (es:=[a,b]) (of_decide_eq_true rfl) (hpl env)) (λenv=>(za4 (hpl env)).2) (I.e hov) EL (zsk slot_dict_get type_dict_get) λA env g as s p xs a hp hlx hvx=>
     zaj (zmU hlx hvx) λy z e q r=>by subst e;exact zny a.rel hp q r
   |dS kC=>
    refine xea (Option.map_eq_some_iff.mp hz) λk hk e=>?_;subst e;have r0:=(zdq hk);subst r0;exact Ev.bmeth (zbX ho _) hline (λenv=>zeN (es:=[a,b]) (of_decide_eq_true rfl) (hpl env)) (λenv=>(za4 (hpl env)).2) (I.e hov) EL (zsl slot_dict_get type_dict_get) λA env g as s p xs a hp hlx hvx=>
     zaj (zmU hlx hvx) λy z e q r=>by subst e;exact znz a.rel hp q r
   |_=>exact nos hz))
end
end
section
open PySem PySem.W PyProof.Rows PySem.Calls
section
variable {C:Cx}{l:Nat}{Φ:PA}{nb n:Nat}{Γ:Gam}{sc:Scope}{e:Expr}{vs:Vs}{h h':H}{v:V}
@[elab_as_elim] theorem sl_inv(i:Expr){p:Option Expr×Option Expr}{P:Expr->Prop}(e:slOf i=some p)(k:∀q,P (.Slice p.1 p.2 none q)):P i:=by
 induction i using PySem.Expr.casesOn with
 |Slice lo hi st q=>induction st using Option.casesOn<;>cases e;exact k q
 |_=>exact nos e
theorem zsZ{i:Nat}{r:V×H}{G:Prop}(hv:eE Φ vs (.v i) h=some r)(k:∀x,vs[i]?=some x->x≠.uA->(pure (x,h):Option (V×H))=some r->G):G:=by
 have hv:=(show (match vs[i]? with|some .uA=>none|some x=>some (x,h)|none=>none)=some r from hv);revert k;generalize vs[i]?=o at hv;induction o using Option.casesOn with
 |none=>exact nos hv
 |some x=>
  intro k;induction x using V.casesOn with
  |uA=>exact nos hv
  |_=>exact k _ rfl nofun hv
theorem if_not{b:Bool}{c:E}{r:V×H}{G:Prop}(hv:eE Φ vs (cond b zaP c) h=some r)(k:b=false->eE Φ vs c h=some r->G):G:=by
 induction b using Bool.casesOn with
 |false=>exact k rfl hv
 |true=>exact zbb hv
theorem zg4{es:List Expr}{c:List V->V}{K:E}(I:Sound C l Φ nb n)(hK:eE Φ vs K h=(do let (x,h) <-eE Φ vs (ziD (es.map (cE zan nb n Γ sc))) h;let xs <-zbz x;if xs.all flat=true then pure (c xs,h) else none))
  (hv:eE Φ vs (cond (decide (es.length<=1000)) K zaP) h=some (v,h')) (k:∀us hJ,EvL C l sc Γ vs es h us hJ->us.all flat=true->us.length<=1000->Ev C l sc Γ vs e h (c us) hJ):Ev C l sc Γ vs e h v h':=
 zfj hv λhz hv=>bnd (hK.symm.trans hv) λx hJ hx hv=>zaG hv λus hu hv=>xaa (zdC I hx hu) λhl q w=>zdg hv λhf hv=>Ev.fin hv (k us hJ q hf (hl▸of_decide_eq_true hz))
theorem zjb(I:Sound C l Φ nb n)(hcm:zcx e=true)(hv:eE Φ vs (cE zan nb (n+1) Γ sc e) h=some (v,h')):Ev C l sc Γ vs e h v h':=
 xea (ze2 I hcm hv) λob r q=>Ev.ofComp (m:=false) hcm r q (by unfold zd4;simp[q])
theorem zsS(hl:l+1<=60)(hΦ:PhiOk C (l+1) Φ)(I:Sound C l Φ nb n)(hv:eE Φ vs (cE zan nb (n+1) Γ sc e) h=some (v,h')):Ev C l sc Γ vs e h v h':=by
 induction e using PySem.Expr.casesOn with
 |Constant c=>exact zkR hv λu hu hv=>Ev.fin hv (Ev.con hu)
 |Name x p=>
  exact zlV hv (λi hi hv=>zsZ hv λu hu ne hv=>Ev.fin hv (Ev.nam hi hu ne)) λ_ hv=>zfj hv λhg hv=>zkR hv λu hu hv=>
   Ev.fin hv (Ev.glb (eq_of_beq (zc3 hg).1) ((Bool.not_eq_true' _).mp (zc3 hg).2) hu)
 |BinOp a op b=>exact bnd hv λx hJ hx hv=>bnd hv λy hO hy hv=>zaG hv λz hz hv=>Ev.fin hv (Ev.bin (I.e hx) (I.e hy) hz)
 |UnaryOp op x=>
  induction op using PySem.UnaryOp.casesOn with
  |USub=>exact bnd hv λx hJ hx hv=>zaG hv λi hi hv=>Ev.fin hv (Ev.neg (I.e (to hx (zbA hi))))
  |_=>exact zbb hv
 |BoolOp op xs=>
  induction op using PySem.BoolOp.casesOn with
  |And=>
   refine on2_e xs (show eE Φ vs (on2 zaP xs λx y=>.and (cE zan nb n Γ sc x) (cE zan nb n Γ sc y)) h=_ from hv) λa b hv=>bnd hv λx hJ hx hv=>zaG hv λt ht hv=>Ev.and (I.e hx) ht ?_;induction t using Bool.casesOn with
   |true=>exact I.e hv
   |false=>have r0:=Option.some.inj hv;cases r0;exact⟨rfl,rfl⟩
  |Or=>exact zbb hv
 |IfExp t=>
  refine bnd hv λx hJ hx hv=>zaG hv λt ht hv=>Ev.ite (I.t hx ht) ?_;induction t using Bool.casesOn with
  |true=>exact I.e hv
  |false=>exact I.e hv
 |Compare a ops bs=>exact on1_e ops hv λop hv=>on1_e bs hv λr hv=>bnd hv λx hJ hx hv=>bnd hv λy hO hy hv=>zaG hv λz hz hv=>Ev.fin hv (Ev.cmp ((zam hy).2.2.1 _) (I.e hx) (I.e hy) hz)
 |Tuple es=>exact zg4 I rfl hv λus hJ q hf hz=>Ev.tup q hf hz
 |List es=>exact zg4 I rfl hv λus hJ q hf hz=>Ev.lA q hf hz
 |Dict ks xs=>
  exact zde hv (λhn hv=>nil_of ks (zc3 hn).1 (nil_of xs (zc3 hn).2 (Ev.fin hv Ev.emptyD))) λhv=>zkR hv λkC hk hv=>zfj hv λhq hv=>
   Ev.fin hv (Ev.dlit hk (of_decide_eq_true hq).1 (of_decide_eq_true hq).2.1 (of_decide_eq_true hq).2.2)
 |Subscript o i=>
  exact zlV hv (λp hp hv=>bnd hv λx hJ hx hv=>bnd hv λy hO hy hv=>bnd hv λz hX hz hv=>zaG hv λw hw hv=>Ev.fin hv (sl_inv i hp λq=>Ev.slc (I.e hx) (zoJ I hy) (zoJ I hz) hw))
   λ_ hv=>bnd hv λx hJ hx hv=>bnd hv λy hO hy hv=>zaG hv λz hz hv=>Ev.fin hv (Ev.idx (zam hy).2.2.2 (I.e hx) (I.e hy) hz)
 |ListComp=>exact zjb I rfl hv
 |DictComp=>exact zjb I rfl hv
 |Attribute o nm ap=>
  refine if_not hv λhic hv=>zkR hv λk hk hv=>bnd hv λx hJ hx hv=>zaG hv λi hi hv=>zaG hv λkC hkv hv=>zaG hv λu hu hv=>?_;have key:(pure (u,hJ):Option (V×H))=some (v,h'):=by
   induction u using V.casesOn with
   |give=>exact nos hv
   |_=>exact hv
  exact Ev.fin key (Ev.attr (I.e (to hx (zdV hi))) (zds hkv) hk hu λenv=>by
   induction o using PySem.Expr.casesOn with
   |Call=>exact noT hic.symm
   |_=>rfl)
 |Call f args kws pos=>
  refine zfj hv λhk hv=>nil_of kws hk ?_;induction f using PySem.Expr.casesOn with
  |Name f p=>exact zfj hv λhq hv=>zmw hl hΦ I (eq_of_beq hq) hv
  |Attribute o m ap=>exact zfj hv λhq hv=>zmx hl hΦ I (of_decide_eq_true (zc3 (zc3 hq).1).2) ((Bool.not_eq_true' _).mp (zc3 hq).2) (zc3 (zc3 hq).1).1 hv
  |_=>exact zbb hv
 |_=>exact zbb hv
theorem zgi(hl:l+1<=60)(hΦ:PhiOk C (l+1) Φ):∀n,Sound C l Φ nb n:=by
 intro l9;induction l9 with
 |zero=>exact⟨λhv=>zbb hv,λhv=>zbb hv⟩
 |succ n zgi=>exact have I:=zgi;⟨λhv=>zsS hl hΦ I hv,λhv hb=>zsT I hv hb⟩
end
section
variable {C:Cx}{l:Nat}{Φ:PA}{nb n:Nat}{Γ Γw:Gam}{sc:Scope}{e:Expr}{vs vs':Vs}{h hJ h':H}{v w:V}
theorem zoU{ob:Ob}{u w:V}(hf:frzOf ob=some u)(ht:zjd hJ u=some (w,h')):zd4 true hJ ob=some (w,h'):=by unfold zd4;refine rwl (if_pos rfl) ?_;induction ob using Ob.casesOn<;>first|exact nos hf| (have r0:=Option.some.inj hf;cases r0;first|exact ht|exact nos ht)
theorem th{a:V}{b:H}(hv:(pure (a,b):Option (V×H))=some (v,hJ))(ht:zjd hJ v=some (w,h')):zjd b a=some (w,h'):=by have r0:=Option.some.inj hv;cases r0;exact ht
theorem zl2(I:Sound C l Φ nb n){es:List Expr}{p:Pos}(hv:eE Φ vs (cE zan nb (n+1) Γ sc (.List es p)) h=some (v,hJ))(ht:zjd hJ v=some (w,h')):Ev C l sc Γ vs (.List es p) h w h':=
 zfj hv λhz hv=>bnd hv λx hO hx hv=>zaG hv λus hu hv=>xaa (zdC I hx hu) λhl q _=>zdg hv λhf hv=>
  Ev.fin (th hv ht) (Ev.lstM q hf (hl▸of_decide_eq_true hz))
theorem zl3(I:Sound C l Φ nb n){a b:Expr}{p:Pos}(hv:eE Φ vs (.bin .Mult (cE zan nb n Γ sc a) (cE zan nb n Γ sc b)) h=some (v,hJ))(ht:zjd hJ v=some (w,h')):Ev C l sc Γ vs (.BinOp a .Mult b p) h w h':=
 bnd hv λx hO hx hv=>bnd hv λy hX hy hv=>zaG hv λz hz hv=>by
  have ht:=th hv ht;clear hv;induction x using V.casesOn with
  |int i=>
   induction y using V.casesOn with
   |int j=>exact zdg hz λ_ e=>by have r0:=Option.some.inj e;cases r0;exact nos ht
   |_=>exact nos hz
  |lA xs=>
   induction y using V.casesOn with
   |int k=>
    match xs,hz,hx with
    |[u],hz,hx=>exact zdg hz λhk e=>by have r0:=Option.some.inj e;cases r0;exact Ev.fin ht (Ev.multM hk (I.e hx) (I.e hy))
    |[],hz,_=>exact nos hz
    |_::_::_,hz,_=>exact nos hz
   |_=>exact nos hz
  |_=>exact nos hz
theorem zl0(I:Sound C l Φ nb n){f:Expr}{args:List Expr}{pos:Pos}
  (hv:eE Φ vs (cM zan nb n Γ sc (.Call f args [] pos)) h=some (v,hJ)) (ht:zjd hJ v=some (w,h')):Ev C l sc Γ vs (.Call f args [] pos) h w h':=
 zkR hv λf' hf' hv=>nm_of f hf' λp=>zfj hv λhg hv=>zde hv (λq hv=>strq_of f' q (on1_e args hv λa hv hg=>bnd hv λx hO hx hv=>zaG hv λus hu hv=>zdg hv λh4 hv=>
   Ev.fin (th hv ht) (Ev.ty1 I (eq_of_beq hg) (by decide) ziu (to hx (zg1 hu)) λA env g as s y a q=>list_M a.rel q h4)) hg)
  λhv=>zfj hv λq hv=>strq_of f' q (on2_e args hv λa b hv hg=>by
   induction a using PySem.Expr.casesOn with
   |Attribute o m ap=>
    induction b using PySem.Expr.casesOn with
    |Constant c k cp=>
     induction c using PySem.Const.casesOn with
     |str sx=>
      refine zfj hv λhq hv=>strq_of m (zc3 (zc3 hq).1).1 (bnd hv λov hO hov hv=>zaG hv λi hi hv=>zaG hv λkC hk hv=>Ev.fin (th hv ht) (Ev.iterM (eq_of_beq hg) ?_ (I.e (to hov (zdV hi))) (zds hk) λenv=>?_))
      ·have hs:=(zc3 (zc3 hq).1).2;clear hv hq;induction sx using Str.casesOn;simp[sk]at hs ⊢;exact hs
      ·have ho:zdW o=false:=(Bool.not_eq_true' _).mp (zc3 hq).2;clear hv hq;induction o using PySem.Expr.casesOn with
       |Call=>exact noT ho.symm
       |_=>rfl
     |_=>exact zbb hv
    |_=>exact zbb hv
   |_=>exact zbb hv) hg
theorem zoG(I:∀n,Sound C l Φ nb n)(hv:eE Φ vs (cM zan nb n Γ sc e) h=some (v,hJ))(ht:zjd hJ v=some (w,h')):
  (zcx e=true/\∃ob u,zaM C l sc Γ vs e h ob hJ/\frzOf ob=some u/\zd4 true hJ ob=some (w,h'))\/(zcx e=false/\Ev C l sc Γ vs e h w h'):=by
 induction e using PySem.Expr.casesOn with
 |List es p=>
  match n,hv with
  |0,hv=>exact zbb hv
  |n+1,hv=>exact .inr ⟨rfl,zl2 (I n) hv ht⟩
 |Dict ks xs p=>
  match n,hv with
  |0,hv=>exact zfj hv λ_ hv=>zbb hv
  |n+1,hv=>
   refine .inr ⟨rfl,zfj hv λhn hv=>?_⟩;exact zde hv (λ_ hv=>nil_of ks (zc3 hn).1 (nil_of xs (zc3 hn).2 (Ev.fin (th hv ht) Ev.emptyDM))) λhv=>by have k1:=List.isEmpty_iff.mp (zc3 hn).1;have k2:=List.isEmpty_iff.mp (zc3 hn).2;subst k1 k2;exact zbb hv
 |ListComp a gs s p=>
  match n,hv with
  |0,hv=>exact zbb hv
  |n+1,hv=>exact .inl ⟨rfl,xea (ze2 (I n) rfl hv) λob r q=>⟨ob,v,r,q,zoU q ht⟩⟩
 |BinOp a op b p=>
  match n,hv with
  |0,hv=>exact zfj hv λ_ hv=>zbb hv
  |n+1,hv=>
   induction op using PySem.Operator.casesOn with
   |Mult=>exact .inr ⟨rfl,zl3 (I n) hv ht⟩
   |_=>exact zbb hv
 |Call f args kws pos=>exact .inr ⟨rfl,zfj hv λhk hv=>nil_of kws hk (zl0 (I n) hv ht)⟩
 |_=>exact zbb hv
end
section
variable {Φ:PA}{st:Vs×H}{r:Fl×Vs×H}{G:Prop}
theorem zgv(hv:eF Φ zd6 st=some r):G:=by obtain⟨vs,h⟩:=st;exact nomatch hv
theorem zmK{α:Type}{o:Option α}{f:α->S}(hv:eF Φ (o.elim zd6 f) st=some r)(k:∀a,o=some a->eF Φ (f a) st=some r->G):G:=by
 induction o using Option.casesOn with
 |some a=>exact k a rfl hv
 |none=>exact zgv hv
theorem if_s{b:Bool}{c:S}(hv:eF Φ (cond b c zd6) st=some r)(k:b=true->eF Φ c st=some r->G):G:=by
 induction b using Bool.casesOn with
 |true=>exact k rfl hv
 |false=>exact zgv hv
theorem zrZ{b:Bool}{c:S}(hv:eF Φ (cond b zd6 c) st=some r)(k:b=false->eF Φ c st=some r->G):G:=by
 induction b using Bool.casesOn with
 |false=>exact k rfl hv
 |true=>exact zgv hv
@[elab_as_elim] theorem on1_s{α:Type}(l:List α){f:α->S}{P:List α->Prop}(hv:eF Φ (on1 zd6 l f) st=some r)(k:∀a,eF Φ (f a) st=some r->P [a]):P l:=zmK hv λa e hv=>zcM e▸k a hv
end
section
variable {C:Cx}{l:Nat}{Φ:PA}{nb n:Nat}{Γ Γw:Gam}{sc:Scope}{e:Expr}{vs vs':Vs}{h hJ h':H}{v w x:V}{fl:Fl}{st:Stmt}{sa sb:Internal.S}{a b:List Stmt}{pos:Pos}{tg:List Nat}{t it:Expr}
theorem Ex.fin{f:Fl}{us:Vs}{g:H}(hv:(pure (f,us,g):Option (Fl×Vs×H))=some (fl,vs',h'))(p:Ex C l sc Γ Γw st vs h f us g):Ex C l sc Γ Γw st vs h fl vs' h':=by cases hv;exact p
def zlB(C:Cx)(l:Nat)(sc:Scope)(Γ Γw:Gam)(Φ:PA)(b:List Stmt)(c:Internal.S):Prop:=∀vs h fl vs' h',eF Φ c (vs,h)=some (fl,vs',h')->Exs C l sc Γ Γw b vs h fl vs' h'
@[elab_as_elim] theorem sole_inv(tg:List Nat){x:Nat}{P:List Nat->Prop}(e:zcg tg=some x)(k:P [x]):P tg:=zcM e▸k
theorem zns(I:Sound C l Φ nb n)(ht:zbG Γw t=some tg)(HA:zlB C l sc Γ Γw Φ a sa)(HB:zlB C l sc Γ Γw Φ b sb)(hx:eE Φ vs (cE zan nb n Γ sc it) h=some (x,hJ))
  (hv:(do let xs <-zak tg x;zcZ (eF Φ sb) (zbZ (eF Φ sa) tg xs (vs,hJ)))=some (fl,vs',h')):Ex C l sc Γ Γw (.For t it a b pos) vs h fl vs' h':=
 zaG hv λ_ hxs hv=>Ex.fors (zam hx).2.1 ht (zoT ht (zbo hxs).2.2) (zbo hxs).1 (I.e hx) HA HB hv
theorem zrN(hl:l+1<=60)(hΦ:PhiOk C (l+1) Φ)(I:Sound C l Φ nb n)(ht:zbG Γw t=some tg)(HA:zlB C l sc Γ Γw Φ a sa)(HB:zlB C l sc Γ Γw Φ b sb){i:Nat}(hx:eE Φ vs (cE zan nb n Γ sc it) h=some (.obj i,hJ))
  (hv:(do let x <-zcg tg;let _ <-zd7 hJ i;zcZ (eF Φ sb) (zb8 (λo h=>Φ 27 [.inst o] h) (eF Φ sa) i x zaq (vs,hJ)))=some (fl,vs',h')):Ex C l sc Γ Γw (.For t it a b pos) vs h fl vs' h':=
 zaG hv λxi hxi hv=>zaG hv λp hc hv=>by
  have ht':zbG Γw t=some [xi]:=sole_inv tg hxi id ht;clear ht;induction t using PySem.Expr.casesOn with
  |Name y p=>refine xea (Option.map_eq_some_iff.mp ht') λi' hy e=>?_;cases e;exact Ex.forsC (n:=zaq) (zam hx).2.1 hy hl (I.e hx) (λus h v h' e=>hΦ.fn _ _ _ _ _ e rfl) HA HB hv ⟨_,_,zkL hc⟩
  |Tuple=>exact absurd (Nat.le_of_succ_le_succ (zia ht')) (Nat.not_succ_le_zero _)
  |_=>exact nos ht'
theorem zfT(hl:l+1<=60)(hΦ:PhiOk C (l+1) Φ)(I:Sound C l Φ nb n)(ht:zbG Γw t=some tg)(HA:zlB C l sc Γ Γw Φ a sa)(HB:zlB C l sc Γ Γw Φ b sb)(hx:eE Φ vs (cE zan nb n Γ sc it) h=some (x,hJ))
  (hv:eF Φ (.fors tg (.c x) sa sb) (vs,hJ)=some (fl,vs',h')):Ex C l sc Γ Γw (.For t it a b pos) vs h fl vs' h':=by
 induction x using V.casesOn with
 |obj i=>exact zrN hl hΦ I ht HA HB hx hv
 |_=>exact zns I ht HA HB hx hv
@[elab_as_elim] theorem isTup_inv(t:Expr){P:Expr->Prop}(e:zma t=true)(k:∀ts m p,P (.Tuple ts m p)):P t:=by
 induction t using PySem.Expr.casesOn with
 |Tuple=>exact k _ _ _
 |_=>exact noT e
theorem znr(I:Sound C l Φ nb n){c:Expr}{p rp:Pos}(hf:sc.names.lookup ("enumerate":Str)=some .globalImplicit)(hen:zma t=true)(ht:zbG Γw t=some tg)(HA:zlB C l sc Γ Γw Φ a sa)(HB:zlB C l sc Γ Γw Φ b sb)
  (hx:eE Φ vs (.enum (cE zan nb n Γ sc c)) h=some (x,hJ)) (hv:eF Φ (.fors tg (.c x) sa sb) (vs,hJ)=some (fl,vs',h')):Ex C l sc Γ Γw (.For t (.Call (.Name ("enumerate":Str) p) [c] [] rp) a b pos) vs h fl vs' h':=
 bnd hx λy hO hy hx=>zaG hx λus hu hx=>by have r0:=Option.some.inj hx;cases r0;refine zaG (X:=zak tg _) hv λxs hxs hv=>?_;have z:=(zbo hxs).1;have r0:=Option.some.inj z;cases r0;revert ht;exact isTup_inv t hen λts m tp ht=>Ex.forsEnum hf (λenv=>(zam hy).1 env []) ht (zia ht) (Ev.cons (λenv=>(zam hy).1 env []) (I.e (to hy (zg5 hu))) Ev.nil) HA HB hv
theorem zpG(I:Sound C l Φ nb n){c:Expr}{p rp:Pos}(hf:sc.names.lookup ("reversed":Str)=some .globalImplicit)(ht:zbG Γw t=some tg)(HA:zlB C l sc Γ Γw Φ a sa)(HB:zlB C l sc Γ Γw Φ b sb)
  (hx:eE Φ vs (.rev (cE zan nb n Γ sc c)) h=some (x,hJ)) (hv:eF Φ (.fors tg (.c x) sa sb) (vs,hJ)=some (fl,vs',h')):Ex C l sc Γ Γw (.For t (.Call (.Name ("reversed":Str) p) [c] [] rp) a b pos) vs h fl vs' h':=
 bnd hx λy hO hy hx=>zaG hx λbb hu hx=>zdg hx λhb hx=>by have r0:=Option.some.inj hx;cases r0;refine zaG (X:=zak tg _) hv λxs hxs hv=>?_;have z:=(zbo hxs).1;have r0:=Option.some.inj z;cases r0;exact Ex.forsRev hf (λenv=>(zam hy).1 env []) ht hb.1 hb.2 (Ev.cons (λenv=>(zam hy).1 env []) (I.e (to hy (up_inv hu))) Ev.nil) HA HB hv
theorem zoI(hl:l+1<=60)(hΦ:PhiOk C (l+1) Φ)(I:Sound C l Φ nb n)(hen:(znO it&& !zma t)=false)(ht:zbG Γw t=some tg)(HA:zlB C l sc Γ Γw Φ a sa)(HB:zlB C l sc Γ Γw Φ b sb)
  (hv:eF Φ (.fors tg (cI zan nb n Γ sc it) sa sb) (vs,h)=some (fl,vs',h')):Ex C l sc Γ Γw (.For t it a b pos) vs h fl vs' h':=by
 refine bnd hv λx hJ hx hv2=>?_
 clear hv
 induction it using PySem.Expr.casesOn with
 |Call f args kws p=>
  revert hen;exact zfj hx λhk hx=>zlV hx (λy hy hx=>zfj hx λhg hx=>
    zde hx (λq hx=>nil_of kws hk (nm_of f hy λfp=>strq_of y q (on1_e args hx λc hx hg hen=>znr I (eq_of_beq hg) ((Bool.not_eq_false' _).mp hen) ht HA HB hx hv2) hg))
     λhx=>zde hx (λq hx=>nil_of kws hk (nm_of f hy λfp=>strq_of y q (on1_e args hx λc hx hg _=>zpG I (eq_of_beq hg) ht HA HB hx hv2) hg)) λhx _=>zfT hl hΦ I ht HA HB hx hv2)
   λ_ hx _=>zfT hl hΦ I ht HA HB hx hv2
 |_=>exact zfT hl hΦ I ht HA HB hx hv2
theorem zmZ{F:Str->Option V}{e:Expr}{r:V×H}{t:Option Expr}{k:Nat}(hv:eE Φ vs (cE F nb n Γ sc e) h=some r)(hcm:zcx e=false)(env:Env):swapsWith e t k env=pure false:=by
 cases n with
 |zero=>exact zbb hv
 |succ n=>
  induction e using PySem.Expr.casesOn with
  |SetComp=>exact zbb hv
  |ListComp=>exact noT hcm.symm
  |DictComp=>exact noT hcm.symm
  |_=>rfl
theorem zrn{F:Str->Option V}{e:Expr}{r:V×H}{t:Option Expr}{k:Nat}(hv:eE Φ vs (cM F nb n Γ sc e) h=some r)(hcm:zcx e=false)(env:Env):swapsWith e t k env=pure false:=by
 induction e using PySem.Expr.casesOn with
 |SetComp=>exact zbb hv
 |ListComp=>exact noT hcm.symm
 |DictComp=>exact noT hcm.symm
 |_=>rfl
theorem zjc{e o:Expr}{m:Str}{p:Pos}{k:Nat}(env:Env):swapsWith e (some (.Attribute o m p)) k env=pure false:=by induction e using PySem.Expr.casesOn<;>rfl
theorem zqi{e o i:Expr}{p:Pos}{k:Nat}(env:Env):swapsWith e (some (.Subscript o i p)) k env=pure false:=by induction e using PySem.Expr.casesOn<;>rfl
theorem zqj{e:Expr}{ts:List Expr}{m:Nat}{p:Pos}{k:Nat}(env:Env):swapsWithSole [.Tuple ts m p] e k env=pure false:=by induction e using PySem.Expr.casesOn<;>rfl
theorem zmB{e:Expr}{ts:List Expr}{m:Nat}{p:Pos}(ht:zma e=false)(env:Env):swappedStores [.Tuple ts m p] e env=pure none:=by
 induction e using PySem.Expr.casesOn with
 |Tuple=>exact noT ht.symm
 |_=>rfl
theorem zmy(I:∀n,Sound C l Φ nb n){y:Str}{i:Nat}{px:Pos}(hi:Γw.lookup y=some i)(hv:eF Φ (.asg i (cE zan nb n Γ sc e)) (vs,h)=some (fl,vs',h')):Ex C l sc Γ Γw (.Assign [.Name y px] e pos) vs h fl vs' h':=
 bnd hv λx hJ hx hv=>Ex.fin hv (by
  cases hcm:zcx e with
  |false=>exact Ex.asg hi (zmZ hx hcm) ((I n).e hx)
  |true=>
   match n,hx with
   |0,hx=>exact zbb hx
   |n+1,hx=>exact xea (ze2 (I n) hcm hx) λob r q=>Ex.asgC (m:=false) hcm hi r q (by unfold zd4;simp[q]))
theorem zoK(I:∀n,Sound C l Φ nb n)(hv:eF Φ (cA zan nb n Γ Γw sc t e) (vs,h)=some (fl,vs',h')):Ex C l sc Γ Γw (.Assign [t] e pos) vs h fl vs' h':=by
 induction t using PySem.Expr.casesOn with
 |Name y p=>exact zmK hv λi hi hv=>zmy I hi hv
 |Tuple ts k p=>
  exact zrZ hv λhit hv=>zmK hv λis his hv=>bnd hv λx hJ hx hv=>zaG hv λus hu hv=>zaG hv λvs1 hs hv=>
   Ex.fin hv (Ex.asgT his (zia his) zqj (zmB hit) ((I n).e (to hx (zg5 hu))) hs)
 |Subscript o i p=>exact bnd hv λx hJ hx hv=>bnd hv λov hO hov hv=>bnd hv λiv hX hiv hv=>zaG hv λhZ hs hv=>Ex.fin hv (Ex.setI zqi ((I n).e hx) ((I n).e hov) ((I n).e hiv) hs)
 |Attribute o m p=>exact zmK hv λm hm hv=>bnd hv λx hJ hx hv=>bnd hv λov hO hov hv=>zaG hv λhX hs hv=>Ex.fin hv (Ex.setA zjc hm ((I n).e hx) ((I n).e hov) hs)
 |_=>exact zgv hv
theorem zoH(I:∀n,Sound C l Φ nb n)(hv:eF Φ (cG zan nb n Γ Γw sc t e) (vs,h)=some (fl,vs',h')):Ex C l sc Γ Γw (.AugAssign t .Add e pos) vs h fl vs' h':=by
 induction t using PySem.Expr.casesOn with
 |Name y p=>exact zmK hv λi hi hv=>zaG hv λu hu hv=>bnd hv λy hJ hy hv=>zaG hv λz hz hv=>Ex.fin hv (Ex.augV hi hu (λq=>by subst q;exact nos hz) ((I n).e hy) hz)
 |Attribute o m p=>
  exact zmK hv λm hm hv=>bnd hv λov hJ hov hv=>zaG hv λi hi hv=>zaG hv λkC hk hv=>zaG hv λu hu hv=>bnd hv λy hO hy hv=>zaG hv λz hz hv=>zaG hv λhX hs hv=>
   Ex.fin hv (Ex.augA hm ((I n).e (to hov (zdV hi))) (zds hk) hu ((I n).e hy) hz (zdV hi▸hs))
 |_=>exact zgv hv
theorem zmz(I:∀n,Sound C l Φ nb n)(hv:eF Φ (cAM zan nb n Γ Γw sc t e) (vs,h)=some (fl,vs',h')):Ex C l sc Γ Γw (.Assign [t] e pos) vs h fl vs' h':=by
 induction t using PySem.Expr.casesOn with
 |Name z p=>refine zmK hv λi hi hv=>bnd hv λx hJ hx hv=>bnd hv λy hO hy hv=>Ex.fin hv ((zoG I hx hy).elim (λq=>?_) λq=>Ex.asg hi (zrn hx q.1) q.2);exact zaj q.2 λob u r w z=>Ex.asgC q.1 hi r w z
 |Attribute o m p=>
  refine zmK hv λm hm hv=>bnd hv λx hJ hx hv=>bnd hv λy hO hy hv=>bnd hv λov hX hov hv=>zaG hv λhZ hs hv=>
   Ex.fin hv (Ex.setA zjc hm ((zoG I hx hy).elim (λq=>?_) λq=>q.2) ((I n).e hov) hs)
  exact zaj q.2 λob u r w z=>Ev.ofComp q.1 r w z
 |_=>exact zgv hv
def zgH(C:Cx)(l:Nat)(Φ:PA)(nb n:Nat):Prop:=∀(Γ Γw:Gam) (sc:Scope) (st:Stmt) (vs vs':Vs) (h h':H) (fl:Fl),eF Φ (cS zan nb zaY zaX n Γ Γw sc st) (vs,h)=some (fl,vs',h')->Ex C l sc Γ Γw st vs h fl vs' h'
theorem zcN(J:zgH C l Φ nb n):∀sts:List Stmt,zlB C l sc Γ Γw Φ sts (zsQ (sts.map (cS zan nb zaY zaX n Γ Γw sc))):=by
 intro l9;induction l9 with
 |nil=>intro vs h fl vs' h' hv;have r0:=Option.some.inj hv;cases r0;exact Exs.nil
 |cons st r zcN=>
  intro vs h fl vs' h' hv;match q:eF Φ (cS zan nb zaY zaX n Γ Γw sc st) (vs,h),(show (match eF Φ (cS zan nb zaY zaX n Γ Γw sc st) (vs,h) with|some (.next,st)=>eF Φ (zsQ (r.map (cS zan nb zaY zaX n Γ Γw sc))) st|r=>r)=some (fl,vs',h') from hv) with
  |none,hv=>exact nos hv
  |some (f,vs1,hJ),hv=>
   induction f using Fl.casesOn with
   |next=>exact Exs.cons (J _ _ _ _ _ _ _ _ _ q) (zcN _ _ _ _ _ hv)
   |_=>have r0:=Option.some.inj hv;cases r0;exact Exs.stop (J _ _ _ _ _ _ _ _ _ q) nofun
theorem zlm(hl:l+1<=60)(hΦ:PhiOk C (l+1) Φ)(I:∀n,Sound C l Φ nb n)(J:zgH C l Φ nb n)(hv:eF Φ (cSt zan nb zaY (cS zan nb zaY zaX n Γ Γw sc) n Γ Γw sc st) (vs,h)=some (fl,vs',h')):Ex C l sc Γ Γw st vs h fl vs' h':=by
 induction st using PySem.Stmt.casesOn with
 |Expr e p=>exact zrZ hv λhcm hv=>bnd hv λx hJ hx hv=>zaG hv λ_ hn hv=>Ex.fin hv (Ex.expr (zmZ hx hcm) ((I n).e (to hx (zhN hn))))
 |Return e p=>
  cases e with
  |none=>exact zgv hv
  |some e=>exact bnd hv λx hJ hx hv=>Ex.fin hv (Ex.ret ((I n).e hx))
 |Assign ts e p=>
  refine on1_s ts hv λt hv=>?_;revert hv;cases zaY.contains (Stmt.Assign ts e p).pos.line with
  |true=>exact λhv=>zmz I hv
  |false=>exact λhv=>zoK I hv
 |AugAssign t op e p=>
  induction op using PySem.Operator.casesOn with
  |Add=>exact zoH I hv
  |_=>exact zgv hv
 |If t a b p=>
  refine bnd hv λx hJ hx hv=>zaG hv λtt ht hv=>Ex.ifs ((I n).t hx ht) ?_;induction tt using Bool.casesOn with
  |true=>exact zcN J _ _ _ _ _ _ hv
  |false=>exact zcN J _ _ _ _ _ _ hv
 |For t it a b p=>exact zrZ hv λhen hv=>zmK hv λtg htg hv=>zoI hl hΦ (I n) hen htg (zcN J a) (zcN J b) hv
 |While t a b p=>exact if_s hv λhb hv=>nil_of b hb (Ex.whiles (λvs h b hJ e=>bnd e λx hO hx e=>zaG e λtt ht e=>by have r0:=Option.some.inj e;cases r0;exact(I n).t hx ht) (zcN J a) hv)
 |Break p=>have r0:=Option.some.inj hv;cases r0;exact Ex.brk
 |Continue p=>have r0:=Option.some.inj hv;cases r0;exact Ex.cont
 |_=>exact zgv hv
theorem ze1(hl:l+1<=60)(hΦ:PhiOk C (l+1) Φ):∀n,zgH C l Φ nb n
 |0=>λ_ _ _ _ _ _ _ _ _ hv=>zgv hv
 |n+1=>fun Γ Γw sc st vs vs' h h' fl hv=>by
  have I:∀n,Sound C l Φ nb n:=zgi hl hΦ;have J:zgH C l Φ nb n:=ze1 hl hΦ n;match q:zaX.lookup st.pos.line,(show eF Φ ((zaX.lookup st.pos.line).elim id (λxs=>Internal.S.frz (xs.filterMap λx=>Γ.lookup x)) _) (vs,h)=_ from hv) with
  |none,hv=>exact zlm hl hΦ I J hv
  |some xs,hv=>exact bnd hv λvs1 hJ hf hv=>Ex.frz hf (zlm hl hΦ I J hv)
end
noncomputable def isFD:Stmt->Bool
 | .FunctionDef ..=>true
 |_=>false
section
variable {C:Cx}{l:Nat}{Φ:PA}{nb n:Nat}{Γ Γw:Gam}{sc:Scope}{vs vs':Vs}{h hJ h':H}{v w:V}{fl:Fl}{S:S}
theorem zj5{env:Env}{b:Addr}(ob:Own env (zdX Γw) b):Own env Γw b:=by
 rcases ob with ob|⟨x,k,e,z⟩
 ·exact .inl ob
 ·rw[zbk]at e;split at e
  ·exact nos e
  ·exact .inr ⟨x,k,e,z⟩
theorem zki{a b:Internal.S}{r:Fl×Vs×H}{G:Prop}(hv:eF Φ (.seq a b) (vs,h)=some r)(k:∀vs1 hJ,eF Φ a (vs,h)=some (.next,vs1,hJ)->eF Φ b (vs1,hJ)=some r->G)(k2:eF Φ a (vs,h)=some r->r.1≠.next->G):G:=by
 match q:eF Φ a (vs,h),(show (match eF Φ a (vs,h) with|some (.next,st)=>eF Φ b st|r=>r)=some r from hv) with
 |none,hv=>exact nos hv
 |some (f,vs1,hJ),hv=>
  induction f using Fl.casesOn with
  |next=>exact k _ _ q hv
  |_=>have r0:=Option.some.inj hv;subst r0;exact k2 q nofun
theorem zgM{st:Stmt}{r:List Stmt}(hf:isFD st=false):ziv zan nb zaY zaX n Γ sc Γw (st::r)=.seq (cS zan nb zaY zaX n Γ Γw sc st) (ziv zan nb zaY zaX n Γ sc Γw r):=by
 induction st using PySem.Stmt.casesOn with
 |FunctionDef=>exact noT hf.symm
 |_=>rfl
theorem zdt(J:zgH C l Φ nb n):∀{sts:List Stmt} {vs vs':Vs} {h h':H} {fl:Fl},sts.all (λst=> !isFD st)=true->eF Φ (ziv zan nb zaY zaX n Γ sc Γw sts) (vs,h)=some (fl,vs',h')->zjn C l sc Γ Γw sts vs h fl vs' h':=by
 intro l9;induction l9 with
 |nil=>intro _ _ _ _ _ _ hv;cases hv;exact zjn.nil
 |cons st r zdt=>intro _ _ _ _ _ hf hv;rw[zgM ((Bool.not_eq_true' _).mp (zc3 hf).1)]at hv;exact zki hv (λ_ _ he hv=>zjn.cons (J _ _ _ _ _ _ _ _ _ he) (zdt (zc3 hf).2 hv)) λhe hne=>zjn.stop (J _ _ _ _ _ _ _ _ _ he) hne
theorem ziP{i t a:Nat}{r:Fl×Vs×H}{G:Prop}(hv:eF Φ (.defGive i t a) (vs,h)=some r)(k:∀tx j,vs[t]?=some (.str tx)->vs[a]?=some (.obj j)->h[0]?=some .tab->r=(.next,vs.set i (.give tx j),h.set 0 .tabg)->G):G:=
 zaG hv λx hx hv=>zaG hv λtx htx hv=>zaG hv λy hy hv=>zaG hv λj hj hv=>zaG hv λo ho hv=>zaG hv λ_ hu hv=>
  k tx j (zdq htx▸hx) (zf9 hj▸hy) (by induction o using Ob.casesOn with|tab=>exact ho|_=>exact nos hu) (Option.some.inj hv).symm
theorem zit(J:zgH C l Φ nb n)(hring:zeg sc=true)(kt:sc.names.lookup ("text":Str)=some .cell)(ka:sc.names.lookup ("at":Str)=some .cell)(ht:Γw.lookup ("text":Str)=Γ.lookup ("text":Str))(ha:Γw.lookup ("at":Str)=Γ.lookup ("at":Str)){rest:List Stmt}(hr:rest.all (λst=> !isFD st)=true):
  ∀{pre:List Stmt} {vs vs':Vs} {h h':H} {fl:Fl},pre.all (λst=> !isFD st)=true->eF Φ (ziv zan nb zaY zaX n Γ sc Γw (pre++zkZ::rest)) (vs,h)=some (fl,vs',h')->zjn C l sc Γ Γw (pre++zkZ::rest) vs h fl vs' h'
 |[],vs,vs',h,h',fl,_,hv=>zmK hv λi hi hv=>zmK hv λt htx hv=>zmK hv λa hat hv=>by intro A env g as s aF;refine zki hv (λvs1 hJ he hv=>ziP he λtx j e1 e2 e3 q=>?_) λhe hne=>ziP he λ_ _ _ _ _ q=>absurd (congrArg (·.1) q) hne;cases q;refine wpAny_execs_cons (wpAny_mono (znD hring (ht.trans htx) (ha.trans hat) kt ka hi e1 e2 e3 aF) (λf sA z=>?_) λ_ _ z=>z);refine xa z λe z=>zc0 z λgB asA xA aA=>?_;subst e;refine wpAny_mono (zdt J hr hv A env gB asA sA aA) (λf sE z=>?_) λ_ _ z=>z;exact zaj z λgD asB xB aB q=>⟨gD,asB,xA.trans (xB.wide λb ob=>zj5 ob),aB,q⟩
 |st::pre,vs,vs',h,h',fl,hf,hv=>by rw[List.cons_append]at hv ⊢;rw[zgM ((Bool.not_eq_true' _).mp (zc3 hf).1)]at hv;exact zki hv (λ_ _ he hv=>zjn.cons (J _ _ _ _ _ _ _ _ _ he) (zit J hring kt ka ht ha hr (zc3 hf).2 hv)) λhe hne=>zjn.stop (J _ _ _ _ _ _ _ _ _ he) hne
end
theorem znf{P:F->Df->Bool}(hc:(List.range 31).all (λf=>(zbx f).all (P f))=true)(f:F):(zbx f).all (P f)=true:=by
 by_cases hf:f<31
 ·exact List.all_eq_true.mp hc _ (List.mem_range.mpr hf)
 ·show ((dfT[f]?).bind id).all (P f)=true;rw[List.getElem?_eq_none (Nat.le_trans (by decide+kernel:dfT.length<=31) (Nat.not_lt.mp hf))];rfl
theorem noFD(f:F)(hf:Nat.beq f 17=false):((zbx f).all λd=>d.body.all λst=> !isFD st)=true:=by have:=znf (P:=λf d=>Nat.beq f 17||d.body.all λst=> !isFD st) (by kernel_rfl) f;rw[hf]at this;exact this
theorem dfs_ok(f:F)(hf:Nat.beq f 30=false):((zbx f).all λd=>zne d&&d.scope.names.all λp=>p.2 != .free)=true:=by have:=znf (P:=λf d=>Nat.beq f 30||(zne d&&d.scope.names.all λp=>p.2 != .free)) (by kernel_rfl) f;rw[hf]at this;exact this
theorem zsH:zbx 17=some zdo:=by
 unfold zdo;generalize e:zbx 17=x0;induction x0 using Option.casesOn with
 |some d=>rfl
 |none=>
  have:(zbx 17).isSome=true:=by kernel_rfl
  rw[e]at this;exact noT this
theorem zox:zdo.body=zdo.body.take 2++zkZ::zdo.body.drop 3:=by kernel_rfl
section
variable {C:Cx}{l:Nat}{Φ:PA}
theorem zqC(hl:l+1<=60)(hΦ:PhiOk C (l+1) Φ)(f:F):zmM C l Φ f:=by
 intro d vs h fl vs' h' hd hv;generalize hf:Nat.beq f 17=b;induction b using Bool.casesOn with
 |true=>have r0:f=17:=Nat.eq_of_beq_eq_true hf;subst r0;rw[zsH]at hd;have r0:=Option.some.inj hd;subst r0;have hv:eF Φ (ziv zan (zbS zdo.scope).length zaY zaX 60 (zbS zdo.scope) zdo.scope (zpI zdo.scope) zdo.body) (vs,h)=_:=hv;rw[zox]at hv ⊢;exact zit (ze1 hl hΦ 60) (by kernel_rfl) (by kernel_rfl) (by kernel_rfl) (by kernel_rfl) (by kernel_rfl) (by kernel_rfl) (by kernel_rfl) hv
 |false=>have:=noFD f hf;rw[hd]at this;exact zdt (ze1 hl hΦ 60) this hv
theorem zhZ:∀(n l:Nat),l+2*n<=60->PhiOk C l (zac n):=by
 intro l9;induction l9 with
 |zero=>intro l _;exact⟨λf us h v h' e=>(by exact nos e),λtx i x h v h' e=>(by exact nos e)⟩
 |succ n zhZ=>
  intro l hl;refine⟨λf us h v h' e hf=>?_,λtx i x h v h' e=>?_⟩
  ·refine zpt (by omega) hf (zqC (by omega) (zhZ (l+2) (by omega)) f) (λd hd=>?_) e;have:=dfs_ok f hf;rw[hd]at this;simp only[Option.all_some,Bool.and_eq_true,List.all_eq_true,bne_iff_ne]at this;exact this
  ·exact zpL (by omega) (zqC (by omega) (zhZ (l+2) (by omega)) 30) e
end
end
section
open PySem
section
variable {Φ:PA}{vs vs':Vs}{h hJ hO hX:H}{x y z w:V}{e a b t:E}{r:Option (V×H)}{st st1:Vs×H}{c:Bool}{n:Nat}
theorem r_bin(p:eE Φ vs a h=some (x,hJ))(q:eE Φ vs b hJ=some (y,hO))(k:zaU op hO x y=some z):eE Φ vs (.bin op a b) h=some (z,hO):=by refine rwl zaz ?_;refine rwl p ?_;dsimp only[OA,OB];refine rwl q ?_;dsimp only[OB];refine rwl k ?_;rfl
theorem r_cmp(p:eE Φ vs a h=some (x,hJ))(q:eE Φ vs b hJ=some (y,hO))(k:zbl op hO x y=some c):eE Φ vs (.cmp op a b) h=some (.bool c,hO):=by refine rwl zaI ?_;refine rwl p ?_;dsimp only[OA,OB];refine rwl q ?_;dsimp only[OB];refine rwl k ?_;rfl
theorem r_idx(p:eE Φ vs a h=some (x,hJ))(q:eE Φ vs b hJ=some (y,hO))(k:zb9 hO x y=some z):eE Φ vs (.idx a b) h=some (z,hO):=by refine rwl zar ?_;refine rwl p ?_;dsimp only[OA,OB];refine rwl q ?_;dsimp only[OB];refine rwl k ?_;rfl
theorem r_and(p:eE Φ vs a h=some (x,hJ))(k:zaT hJ x=some c)(q:cond c (eE Φ vs b hJ) (some (x,hJ))=r):eE Φ vs (.and a b) h=r:=by refine rwl zcT ?_;refine rwl p ?_;dsimp only[OA,OB];refine rwl k ?_;refine rwr q ?_;cases c<;>rfl
theorem r_ct{α:Type}{A B r:α}(p:A=r):cond true A B=r:=p
theorem r_cons{l:List V}(p:eE Φ vs a h=some (x,hJ))(q:eE Φ vs b hJ=some (.tup l,hO)):eE Φ vs (.cons a b) h=some (.tup (x::l),hO):=by refine rwl zag ?_;refine rwl p ?_;dsimp only[OA,OB];refine rwl q ?_;rfl
theorem r_call{l:List V}(p:eE Φ vs a h=some (.tup l,hJ))(k:Φ f l hJ=r):eE Φ vs (.call f a) h=r:=by refine rwl zav ?_;refine rwl p ?_;exact k
theorem r_len{i:Int}(p:eE Φ vs a h=some (x,hJ))(k:zdh hJ x=some i):eE Φ vs (.len a) h=some (.int i,hJ):=by refine rwl zaV ?_;refine rwl p ?_;dsimp only[OA,OB];refine rwl k ?_;rfl
theorem r_tup{l:List V}(p:eE Φ vs a h=some (.tup l,hJ))(k:l.all flat=true):eE Φ vs (.tup a) h=some (.tup l,hJ):=by refine rwl zbM ?_;refine rwl p ?_;dsimp only[OA,OB];rw[zaH];dsimp only[OB];refine rwl (if_pos k) ?_;rfl
theorem r_slc(p:eE Φ vs a h=some (x,hJ))(q:eE Φ vs e hJ=some (y,hO))(q2:eE Φ vs b hO=some (z,hX))(k:zeu x y z=some w):eE Φ vs (.slc a e b) h=some (w,hX):=by refine rwl zcs ?_;refine rwl p ?_;dsimp only[OA,OB];refine rwl q ?_;dsimp only[OB];refine rwl q2 ?_;dsimp only[OB];refine rwl k ?_;rfl
theorem r_attr{i:Nat}{kC:List (Nat×V)}(p:eE Φ vs a h=some (.inst i,hJ))(k:zbg hJ i=some kC)(q:kC.lookup n=some x)(z:zgU x=none):eE Φ vs (.attr a n) h=some (x,hJ):=by refine rwl zbE ?_;refine rwl p ?_;dsimp only[OA,OB,zbB];refine rwl k ?_;dsimp only[OB];refine rwl q ?_;cases x<;>first|rfl|exact absurd z (by simp only[p_give,reduceCtorEq,not_false_eq_true])
theorem r_meth{i:Nat}{l:List V}{kC:List (Nat×V)}(p:eE Φ vs a h=some (.inst i,hJ))(k:zbg hJ i=some kC)(q:eE Φ vs b hJ=some (.tup l,hO))(z:Φ f (.inst i::l) hO=r):eE Φ vs (.meth f a b) h=r:=by refine rwl zbq ?_;refine rwl p ?_;dsimp only[OA,OB,zbB];refine rwl k ?_;exact rwl q z
theorem r_aa{i:Nat}{l:List (Nat×V)}(k:h[i]?=some (.attrs l)):zbg h i=some l:=by rw[zi1,k];rfl
theorem r_asg(p:eE Φ vs e h=some (x,hJ))(q:vs.set n x=vs'):eF Φ (.asg n e) (vs,h)=some (.next,vs',hJ):=by refine rwl zaw ?_;refine rwl p ?_;refine rwr q ?_;rfl
theorem r_ret(p:eE Φ vs e h=some (x,hJ)):eF Φ (.ret e) (vs,h)=some (.ret x,vs,hJ):=by rw[za2,p];rfl
theorem r_expr(p:eE Φ vs e h=some (.none,hJ)):eF Φ (.expr e) (vs,h)=some (.next,vs,hJ):=by rw[za5,p];rfl
theorem r_setI(p:eE Φ vs e h=some (x,hJ))(q:eE Φ vs a hJ=some (y,hO))(q2:eE Φ vs b hO=some (z,hX))(k:setItem hX y z x=some hZ):eF Φ (.setI a b e) (vs,h)=some (.next,vs,hZ):=by refine rwl zbR ?_;refine rwl p ?_;dsimp only[OA,OB];refine rwl q ?_;dsimp only[OB];refine rwl q2 ?_;dsimp only[OB];refine rwl k ?_;rfl
theorem r_augV(p:vs[n]?=some x)(q:eE Φ vs e h=some (y,hJ))(k:zpj x y=some z)(s:vs.set n z=vs'):eF Φ (.augV n e) (vs,h)=some (.next,vs',hJ):=by refine rwl zfP ?_;refine rwl p ?_;dsimp only[OA,OB];refine rwl q ?_;dsimp only[OB];refine rwl k ?_;refine rwr s ?_;rfl
theorem r_asgT{l:List V}{is:List Nat}(p:eE Φ vs e h=some (.tup l,hJ))(q:zbu vs is l=some vs'):eF Φ (.asgT is e) (vs,h)=some (.next,vs',hJ):=by refine rwl zeK ?_;refine rwl p ?_;dsimp only[OA,OB,zaH];refine rwl q ?_;rfl
theorem r_seq{A B:S}{R:Option (Fl×Vs×H)}(p:eF Φ A st=some (.next,st1))(q:eF Φ B st1=R):eF Φ (.seq A B) st=R:=by rw[zaJ,p];exact q
end
theorem iz_tup{t:List Nat}{us:List V}(z:us.length<=zad):zak t (.tup us)=some us:=if_pos ⟨z,.inr rfl⟩
theorem bt1(vs:Vs)(i:Nat)(x:V):zbC vs [i] x=some (vs.set i x):=rfl
theorem sl_l{us:List V}{lo hi:V}{l u:Option Int}(e1:zff lo=some l)(e2:zff hi=some u)(z:us.length<=zad):zeu (.lA us) lo hi=some (.lA (zgs us l u)):=bs e1 (bs e2 (fit z))
theorem sl_s{us:List Nat}{lo hi:V}{l u:Option Int}(e1:zff lo=some l)(e2:zff hi=some u)(z:us.length<=zad):zeu (.str us) lo hi=some (.str (zgs us l u)):=bs e1 (bs e2 (fit z))
theorem zgL(h:H)(x:Int){y:Int}(hy:y≠0):zaU .Mod h (.int x) (.int y)=some (.int (x.fmod y)):=if_neg hy
theorem zgK(h:H)(x:Int){y:Int}(hy:y≠0/\y.natAbs<=1000000):zaU .FloorDiv h (.int x) (.int y)=some (.int (x.fdiv y)):=if_neg (by omega)
theorem b_pow(h:H){y:Int}(h0:0<=y)(h1:y<=100):zaU .Pow h (.int 2) (.int y)=some (.int (2 ^ y.toNat)):=if_pos ⟨rfl,h0,h1⟩
noncomputable def zm1:S:=
 (.seq (.asg 1 (.pop (.v 0)))
 (.seq (.ifs (.v 0)
  (.seq (.asg 2 (.idx (.v 0) (.c (.int 0))))
  (.seq (.setI (.v 0) (.c (.int 0)) (.v 1))
  (.seq (.expr (.call 4 (.cons (.v 0) (.cons (.c (.int 0)) .nil))))
  (.seq (.ret (.v 2))
  .skip))))
  .skip)
 (.seq (.ret (.v 1))
 .skip)))
theorem znX:(zbx 0).map zai=some (3,1,zm1):=by kernel_rfl
noncomputable def zcD:S:=
 (.seq (.asg 2 (.idx (.v 0) (.c (.int 0))))
 (.seq (.setI (.v 0) (.c (.int 0)) (.v 1))
 (.seq (.expr (.call 4 (.cons (.v 0) (.cons (.c (.int 0)) .nil))))
 (.seq (.ret (.v 2))
 .skip))))
theorem zhA:(zbx 1).map zai=some (3,2,zcD):=by kernel_rfl
noncomputable def zm0:S:=
 (.seq (.asg 1 (.len (.v 0)))
 (.seq (.fors [2] (.rev (.rg (.cons (.bin .FloorDiv (.v 1) (.c (.int 2))) .nil)))
  (.seq (.expr (.call 4 (.cons (.v 0) (.cons (.v 2) .nil))))
  .skip)
  .skip)
 .skip))
theorem znW:(zbx 2).map zai=some (3,1,zm0):=by kernel_rfl
noncomputable def zlH:S:=
 (.seq (.asg 3 (.idx (.v 0) (.v 2)))
 (.seq (.whiles (.cmp .Gt (.v 2) (.v 1))
  (.seq (.asg 4 (.bin .RShift (.bin .Sub (.v 2) (.c (.int 1))) (.c (.int 1))))
  (.seq (.asg 5 (.idx (.v 0) (.v 4)))
  (.seq (.ifs (.cmp .Lt (.v 3) (.v 5))
   (.seq (.setI (.v 0) (.v 2) (.v 5))
   (.seq (.asg 2 (.v 4))
   (.seq .cont
   .skip)))
   .skip)
  (.seq .brk
  .skip)))))
 (.seq (.setI (.v 0) (.v 2) (.v 3))
 .skip)))
theorem zme:(zbx 3).map zai=some (6,3,zlH):=by kernel_rfl
noncomputable def zps:S:=
 (.seq (.asg 2 (.len (.v 0)))
 (.seq (.asg 3 (.v 1))
 (.seq (.asg 4 (.idx (.v 0) (.v 1)))
 (.seq (.asg 5 (.bin .Add (.bin .Mult (.c (.int 2)) (.v 1)) (.c (.int 1))))
 (.seq (.whiles (.cmp .Lt (.v 5) (.v 2))
  (.seq (.asg 6 (.bin .Add (.v 5) (.c (.int 1))))
  (.seq (.ifs (.and (.cmp .Lt (.v 6) (.v 2)) (.not (.cmp .Lt (.idx (.v 0) (.v 5)) (.idx (.v 0) (.v 6)))))
   (.seq (.asg 5 (.v 6))
   .skip)
   .skip)
  (.seq (.setI (.v 0) (.v 1) (.idx (.v 0) (.v 5)))
  (.seq (.asg 1 (.v 5))
  (.seq (.asg 5 (.bin .Add (.bin .Mult (.c (.int 2)) (.v 1)) (.c (.int 1))))
  .skip))))))
 (.seq (.setI (.v 0) (.v 1) (.v 4))
 (.seq (.expr (.call 3 (.cons (.v 0) (.cons (.v 3) (.cons (.v 1) .nil)))))
 .skip)))))))
theorem zpV:(zbx 4).map zai=some (7,2,zps):=by kernel_rfl
noncomputable def zlF:S:=
 (.seq (.asg 1 (.read (.attr (.v 0) 1) (.c (.int 1))))
 (.seq (.ifs (.cmp .Eq (.v 1) (.c (.str [10])))
  (.seq (.augA (.v 0) 0 (.c (.int 1)))
  .skip)
  .skip)
 (.seq (.ret (.v 1))
 .skip)))
theorem zgX:(zbx 27).map zai=some (2,1,zlF):=by kernel_rfl
noncomputable def zlE:S:=
 (.seq (.ifs (.attr (.v 0) 3)
  (.seq (.ret (.pop0 (.attr (.v 0) 3)))
  .skip)
  .skip)
 (.seq (.asg 1 (.c (.str [])))
 (.seq (.asgM 2 (.iter (.v 0)))
 (.seq (.fors [3] (.v 2)
  (.seq (.ifs (.cmp .In (.v 3) (.attr (.v 0) 2))
   (.seq .cont
   .skip)
   .skip)
  (.seq (.ifs (.cmp .Eq (.v 3) (.c (.str [34])))
   (.seq (.fors [3] (.v 2)
    (.seq (.ifs (.cmp .Eq (.v 3) (.c (.str [34])))
     (.seq (.ret (.v 1))
     .skip)
     (.seq (.ifs (.cmp .Eq (.v 3) (.c (.str [92])))
      (.seq (.asg 3 (.meth 27 (.v 0) .nil))
      .skip)
      .skip)
     .skip))
    (.seq (.augV 1 (.v 3))
    .skip))
    .skip)
   .skip)
   (.seq (.ifs (.cmp .Eq (.v 3) (.c (.str [92])))
    (.seq (.asg 3 (.meth 27 (.v 0) .nil))
    .skip)
    .skip)
   (.seq (.augV 1 (.v 3))
   (.seq (.fors [3] (.v 2)
    (.seq (.ifs (.cmp .In (.v 3) (.attr (.v 0) 2))
     (.seq (.ret (.v 1))
     .skip)
     (.seq (.ifs (.cmp .Eq (.v 3) (.c (.str [92])))
      (.seq (.asg 3 (.meth 27 (.v 0) .nil))
      .skip)
      .skip)
     .skip))
    (.seq (.augV 1 (.v 3))
    .skip))
    .skip)
   .skip))))
  .skip))
  .skip)
 (.seq (.ret (.v 1))
 .skip)))))
theorem zeQ:(zbx 28).map zai=some (4,1,zlE):=by kernel_rfl
noncomputable def zjt:S:=
 (.seq (.expr (.append (.attr (.v 0) 3) (.v 1)))
 .skip)
theorem zjY:(zbx 29).map zai=some (2,2,zjt):=by kernel_rfl
noncomputable def zrq:S:=
 (.seq (.ret (.bin .BitAnd (.v 0) (.c (.int 4095))))
 .skip)
theorem zr7:(zbx 5).map zai=some (1,1,zrq):=by kernel_rfl
noncomputable def c_ifmt:S:=
 (.seq (.ret (.bin .BitAnd (.v 0) (.c (.int 61440))))
 .skip)
theorem k_ifmt:(zbx 6).map zai=some (1,1,c_ifmt):=by kernel_rfl
noncomputable def zm2:S:=
 (.seq (.ret (.cmp .Eq (.call 6 (.cons (.v 0) .nil)) (.c (.int 16384))))
 .skip)
theorem zr8:(zbx 7).map zai=some (1,1,zm2):=by kernel_rfl
noncomputable def zm3:S:=
 (.seq (.ret (.cmp .Eq (.call 6 (.cons (.v 0) .nil)) (.c (.int 40960))))
 .skip)
theorem zr9:(zbx 8).map zai=some (1,1,zm3):=by kernel_rfl
noncomputable def zeG:S:=
 (.seq (.asgM 1 (.lA .nil))
 (.seq (.fors [2,3] (.enum (.c (.tup [(.tup [(.tup [(.int 40960),(.str [108])]),(.tup [(.int 49152),(.str [115])]),(.tup [(.int 32768),(.str [45])]),(.tup [(.int 24576),(.str [98])]),(.tup [(.int 16384),(.str [100])]),(.tup [(.int 8192),(.str [99])]),(.tup [(.int 4096),(.str [112])])]),(.tup [(.tup [(.int 256),(.str [114])])]),(.tup [(.tup [(.int 128),(.str [119])])]),(.tup [(.tup [(.int 2112),(.str [115])]),(.tup [(.int 2048),(.str [83])]),(.tup [(.int 64),(.str [120])])]),(.tup [(.tup [(.int 32),(.str [114])])]),(.tup [(.tup [(.int 16),(.str [119])])]),(.tup [(.tup [(.int 1032),(.str [115])]),(.tup [(.int 1024),(.str [83])]),(.tup [(.int 8),(.str [120])])]),(.tup [(.tup [(.int 4),(.str [114])])]),(.tup [(.tup [(.int 2),(.str [119])])]),(.tup [(.tup [(.int 513),(.str [116])]),(.tup [(.int 512),(.str [84])]),(.tup [(.int 1),(.str [120])])])])))
  (.seq (.fors [4,5] (.v 3)
   (.seq (.ifs (.cmp .Eq (.v 2) (.c (.int 0)))
    (.seq (.ifs (.cmp .Eq (.call 6 (.cons (.v 0) .nil)) (.v 4))
     (.seq (.expr (.append (.v 1) (.v 5)))
     (.seq .brk
     .skip))
     .skip)
    .skip)
    (.seq (.ifs (.cmp .Eq (.bin .BitAnd (.v 0) (.v 4)) (.v 4))
     (.seq (.expr (.append (.v 1) (.v 5)))
     (.seq .brk
     .skip))
     .skip)
    .skip))
   .skip)
   (.seq (.ifs (.cmp .Eq (.v 2) (.c (.int 0)))
    (.seq (.expr (.append (.v 1) (.c (.str [63]))))
    .skip)
    (.seq (.expr (.append (.v 1) (.c (.str [45]))))
    .skip))
   .skip))
  .skip)
  .skip)
 (.seq (.ret (.join (.c (.str [])) (.v 1)))
 .skip)))
theorem zmc:(zbx 9).map zai=some (6,1,zeG):=by kernel_rfl
noncomputable def zrp:S:=
 (.seq (.asgM 1 (.lA (.cons (.c (.int 19992)) (.cons (.c (.int 48003)) (.cons (.c (.int 72823)) (.cons (.c (.int 49106)) .nil))))))
 (.seq (.fors [2] (.rg (.cons (.len (.v 0)) .nil))
  (.seq (.setI (.v 1) (.bin .Mod (.v 2) (.c (.int 4))) (.bin .Add (.idx (.v 1) (.bin .Mod (.v 2) (.c (.int 4)))) (.idx (.v 0) (.v 2))))
  .skip)
  .skip)
 (.seq (.frz [1] (.ret (.comp [3] (.v 1) (.c (.bool true)) (.tup (.cons (.idx (.tup (.cons (.c (.int 8)) (.cons (.c (.int 4)) (.cons (.c (.int 10)) (.cons (.c (.int 12)) (.cons (.c (.int 6)) (.cons (.c (.int 1)) .nil))))))) (.bin .Mod (.v 3) (.c (.int 6)))) (.cons (.bin .Mod (.bin .FloorDiv (.v 3) (.c (.int 6))) (.c (.int 8))) (.cons (.bin .Mod (.bin .FloorDiv (.v 3) (.c (.int 48))) (.c (.int 512))) (.cons (.bin .Mod (.bin .FloorDiv (.v 3) (.c (.int 24576))) (.c (.int 3))) .nil))))))))
 .skip)))
theorem zr5:(zbx 10).map zai=some (3,1,zrp):=by kernel_rfl
noncomputable def c_row:S:=
 (.seq (.asg 3 (.idx (.c (.str [63,112,99,63,100,63,98,63,45,63,108,63,115,63,63,63])) (.v 0)))
 (.seq (.fors [4] (.rg (.cons (.c (.int 3)) .nil))
  (.seq (.asg 5 (.bin .Mult (.c (.int 2)) (.bin .Mod (.bin .FloorDiv (.v 1) (.idx (.tup (.cons (.c (.int 4)) (.cons (.c (.int 2)) (.cons (.c (.int 1)) .nil)))) (.v 4))) (.c (.int 2)))))
  (.seq (.ifs (.cmp .In (.bin .Add (.bin .Mult (.c (.int 3)) (.v 4)) (.c (.int 2))) (.v 2))
   (.seq (.asg 5 (.bin .Add (.v 5) (.c (.int 1))))
   .skip)
   .skip)
  (.seq (.asg 3 (.bin .Add (.bin .Add (.v 3) (.ite (.cmp .In (.bin .Mult (.c (.int 3)) (.v 4)) (.v 2)) (.c (.str [114])) (.c (.str [45])))) (.ite (.cmp .In (.bin .Add (.bin .Mult (.c (.int 3)) (.v 4)) (.c (.int 1))) (.v 2)) (.c (.str [119])) (.c (.str [45])))))
  (.seq (.asg 3 (.bin .Add (.v 3) (.idx (.idx (.tup (.cons (.c (.str [45,120,83,115])) (.cons (.c (.str [45,120,83,115])) (.cons (.c (.str [45,120,84,116])) .nil)))) (.v 4)) (.v 5))))
  .skip))))
  .skip)
 (.seq (.ret (.v 3))
 .skip)))
theorem k_row:(zbx 11).map zai=some (6,3,c_row):=by kernel_rfl
noncomputable def zro:S:=
 (.seq (.asg 3 (.comp [5] (.rg (.cons (.c (.int 9)) .nil)) (.cmp .Eq (.bin .Mod (.bin .FloorDiv (.v 2) (.bin .Pow (.c (.int 2)) (.bin .Sub (.c (.int 8)) (.v 5)))) (.c (.int 2))) (.c (.int 1))) (.v 5)))
 (.seq (.asgM 4 (.lA (.cons (.call 11 (.cons (.v 0) (.cons (.v 1) (.cons (.v 3) .nil)))) .nil)))
 (.seq (.whiles (.v 3)
  (.seq (.asg 3 (.slc (.v 3) (.c .none) (.neg (.get (.dlit [(4,2),(10,3)]) (.v 0) (.c (.int 1))))))
  (.seq (.expr (.append (.v 4) (.call 11 (.cons (.v 0) (.cons (.v 1) (.cons (.v 3) .nil))))))
  .skip)))
 (.seq (.frz [4] (.ret (.v 4)))
 .skip))))
theorem zr4:(zbx 12).map zai=some (5,3,zro):=by kernel_rfl
noncomputable def zm4:S:=
 (.seq (.ifs (.cmp .Eq (.v 1) (.c (.int 2)))
  (.seq (.ret (.bin .Add (.join (.c (.str [])) (.comp [2] (.v 0) (.c (.bool true)) (.bin .Add (.c (.str [92])) (.v 2)))) (.c (.str [10]))))
  .skip)
  .skip)
 (.seq (.ret (.idx (.tup (.cons (.bin .Add (.v 0) (.c (.str [32]))) (.cons (.bin .Add (.bin .Add (.c (.str [34])) (.v 0)) (.c (.str [34]))) .nil))) (.v 1)))
 .skip))
theorem znY:(zbx 13).map zai=some (2,2,zm4):=by kernel_rfl
noncomputable def zqE:S:=
 (.seq (.ret (.ite (.call 8 (.cons (.v 0) .nil)) (.c (.int 3)) (.ite (.call 7 (.cons (.v 0) .nil)) (.c (.int 2)) (.c (.int 1)))))
 .skip)
theorem k_step:(zbx 14).map zai=some (1,1,zqE):=by kernel_rfl
noncomputable def c_turn:S:=
 (.seq (.asg 1 (.bin .Mod (.call 5 (.cons (.v 0) .nil)) (.c (.int 512))))
 (.seq (.fors [2] (.rg (.cons (.call 14 (.cons (.v 0) .nil)) .nil))
  (.seq (.asg 1 (.bin .BitAnd (.v 1) (.bin .Sub (.v 1) (.c (.int 1)))))
  .skip)
  .skip)
 (.seq (.ret (.bin .Add (.bin .Add (.call 6 (.cons (.v 0) .nil)) (.bin .Mult (.bin .FloorDiv (.call 5 (.cons (.v 0) .nil)) (.c (.int 512))) (.c (.int 512)))) (.v 1)))
 .skip)))
theorem k_turn:(zbx 15).map zai=some (3,1,c_turn):=by kernel_rfl
noncomputable def zrr:S:=
 (.seq (.asgM 1 .emptyD)
 (.seq (.asgM 2 .emptyD)
 (.seq (.fors [3] (.v 0)
  (.seq (.asg 4 (.v 3))
  (.seq (.fors [5] (.rg (.cons (.c (.int 10)) .nil))
   (.seq (.ifs (.cmp .NotIn (.v 4) (.v 1))
    (.seq (.setI (.v 1) (.v 4) (.call 9 (.cons (.v 4) .nil)))
    (.seq (.setI (.v 2) (.v 4) (.call 15 (.cons (.v 4) .nil)))
    (.seq (.asg 4 (.idx (.v 2) (.v 4)))
    .skip)))
    .skip)
   .skip)
   .skip)
  .skip))
  .skip)
 (.seq (.frz [1,2] (.ret (.tup (.cons (.v 1) (.cons (.dcomp 6 (.v 1) (.idx (.v 1) (.v 6)) (.get (.v 1) (.idx (.v 2) (.v 6)) (.c (.str [])))) .nil)))))
 .skip))))
theorem zsa:(zbx 16).map zai=some (6,1,zrr):=by kernel_rfl
noncomputable def c_ring:S:=
 (.seq (.asg 14 (.join (.c (.str [])) (.v 0)))
 (.seq (.asgM 13 (.lA (.cons (.c (.int 0)) .nil)))
 (.seq (.defGive 3 14 13)
 (.seq (.asg 4 (.mk (.c .none)))
 (.seq (.setA (.v 4) 4 (.v 3))
 (.seq (.asg 5 (.mk (.v 4)))
 (.seq (.asgM 6 (.lA .nil))
 (.seq (.fors [7] (.rg (.cons (.len (.v 0)) .nil))
  (.seq (.expr (.append (.v 6) (.meth 28 (.v 5) .nil)))
  (.seq (.asg 8 (.join (.c (.str [])) (.slc (.v 0) (.c .none) (.bin .Add (.v 7) (.c (.int 1))))))
  (.seq (.ifs (.or (.cmp .NotEq (.idx (.v 13) (.c (.int 0))) (.len (.v 8))) (.cmp .NotEq (.attr (.v 5) 0) (.bin .Add (.c (.int 1)) (.count (.v 8) (.c (.str [10]))))))
   (.seq (.ret (.c .none))
   .skip)
   .skip)
  .skip)))
  .skip)
 (.seq (.frz [6] (.fors [9] (.v 6)
  (.seq (.ifs (.cmp .Gt (.get (.v 2) (.v 9) (.c (.int 0))) (.c (.int 0)))
   (.seq (.expr (.meth 29 (.v 5) (.cons (.v 9) .nil)))
   .skip)
   .skip)
  .skip)
  .skip))
 (.seq (.asgM 10 (.lA .nil))
 (.seq (.fors [11] (.rg (.cons (.c (.int 40)) .nil))
  (.seq (.asg 12 (.meth 28 (.v 5) .nil))
  (.seq (.ifs (.cmp .Eq (.v 12) (.c (.str [])))
   (.seq (.frz [10] (.ret (.tup (.cons (.v 6) (.cons (.v 10) .nil)))))
   .skip)
   .skip)
  (.seq (.asg 12 (.idx (.v 1) (.v 12)))
  (.seq (.expr (.append (.v 10) (.v 12)))
  (.seq (.ifs (.cmp .Gt (.idx (.v 2) (.v 12)) (.c (.int 0)))
   (.seq (.expr (.meth 29 (.v 5) (.cons (.v 12) .nil)))
   .skip)
   .skip)
  .skip)))))
  .skip)
 (.seq (.ret (.c .none))
 .skip))))))))))))
theorem k_ring:(zbx 17).map zai=some (15,3,c_ring):=by kernel_rfl
noncomputable def c_had:S:=
 (.seq (.asgM 3 (.list (.v 0)))
 (.seq (.asgM 5 (.comp [10] (.rg (.cons (.len (.v 3)) .nil)) (.cmp .Gt (.idx (.v 2) (.idx (.v 3) (.v 10))) (.c (.int 0))) (.tup (.cons (.c (.int 0)) (.cons (.v 10) .nil)))))
 (.seq (.asgM 6 (.lA .nil))
 (.seq (.fors [7] (.rg (.cons (.c (.int 40)) .nil))
  (.seq (.ifs (.not (.v 5))
   (.seq (.frz [6] (.ret (.v 6)))
   .skip)
   .skip)
  (.seq (.asgT [8,4] (.idx (.v 5) (.c (.int 0))))
  (.seq (.setI (.v 3) (.v 4) (.idx (.v 1) (.idx (.v 3) (.v 4))))
  (.seq (.expr (.append (.v 6) (.idx (.v 3) (.v 4))))
  (.seq (.ifs (.cmp .Gt (.idx (.v 2) (.idx (.v 3) (.v 4))) (.c (.int 0)))
   (.seq (.asg 9 (.call 1 (.cons (.v 5) (.cons (.tup (.cons (.bin .Add (.v 8) (.c (.int 1))) (.cons (.v 4) .nil))) .nil))))
   .skip)
   (.seq (.asg 9 (.call 0 (.cons (.v 5) .nil)))
   .skip))
  (.seq (.ifs (.cmp .NotEq (.v 9) (.tup (.cons (.v 8) (.cons (.v 4) .nil))))
   (.seq (.ret (.c .none))
   .skip)
   .skip)
  .skip))))))
  .skip)
 (.seq (.ret (.c .none))
 .skip)))))
theorem k_had:(zbx 18).map zai=some (10,3,c_had):=by kernel_rfl
noncomputable def zlG:S:=
 (.seq (.asgM 4 (.lA .nil))
 (.seq (.fors [5] (.rg (.cons (.bin .Sub (.len (.v 0)) (.c (.int 1))) (.cons (.neg (.c (.int 1))) (.cons (.neg (.c (.int 1))) .nil))))
  (.seq (.expr (.append (.v 4) (.tup (.cons (.neg (.bin .FloorDiv (.neg (.idx (.v 3) (.idx (.v 0) (.v 5)))) (.call 14 (.cons (.idx (.v 1) (.v 5)) .nil)))) (.cons (.v 5) .nil)))))
  .skip)
  .skip)
 (.seq (.ifs (.cmp .IsNot (.call 2 (.cons (.v 4) .nil)) (.c .none))
  (.seq (.ret (.c .none))
  .skip)
  .skip)
 (.seq (.asgM 6 (.lA .nil))
 (.seq (.fors [5] (.rg (.cons (.len (.v 0)) .nil))
  (.seq (.asgT [7,8] (.call 0 (.cons (.v 4) .nil)))
  (.seq (.asg 9 (.idx (.v 0) (.v 8)))
  (.seq (.fors [10] (.rg (.cons (.v 7) .nil))
   (.seq (.asg 9 (.idx (.v 2) (.v 9)))
   (.seq (.expr (.append (.v 6) (.v 9)))
   .skip))
   .skip)
  .skip)))
  .skip)
 (.seq (.frz [6] (.ret (.v 6)))
 .skip))))))
theorem zmd:(zbx 19).map zai=some (11,4,zlG):=by kernel_rfl
noncomputable def zlI:S:=
 (.seq (.asgM 1 (.bin .Mult (.lA (.cons (.c (.str [])) .nil)) (.sum (.comp [5] (.v 0) (.c (.bool true)) (.bin .Sub (.len (.v 5)) (.c (.int 1)))))))
 (.seq (.fors [2] (.rg (.cons (.len (.v 0)) .nil))
  (.seq (.fors [3] (.rg (.cons (.c (.int 1)) (.cons (.len (.idx (.v 0) (.v 2))) .nil)))
   (.seq (.asg 4 (.sum (.comp [5] (.v 0) (.c (.bool true)) (.min2 (.bin .Sub (.len (.v 5)) (.c (.int 1))) (.bin .Sub (.v 3) (.c (.int 1)))))))
   (.seq (.asg 4 (.bin .Add (.v 4) (.len (.comp [5] (.slc (.v 0) (.c .none) (.v 2)) (.cmp .Gt (.len (.v 5)) (.v 3)) (.v 5)))))
   (.seq (.setI (.v 1) (.v 4) (.idx (.idx (.v 0) (.v 2)) (.v 3)))
   .skip)))
   .skip)
  .skip)
  .skip)
 (.seq (.frz [1] (.ret (.v 1)))
 .skip)))
theorem zmf:(zbx 20).map zai=some (5,1,zlI):=by kernel_rfl
noncomputable def zju:S:=
 (.seq (.asg 1 (.lA .nil))
 (.seq (.fors [3,2] (.sorted (.comp [4] (.rg (.cons (.len (.v 0)) .nil)) (.c (.bool true)) (.tup (.cons (.len (.idx (.v 0) (.v 4))) (.cons (.v 4) .nil)))))
  (.seq (.asg 1 (.bin .Add (.v 1) (.slc (.idx (.v 0) (.v 2)) (.c (.int 1)) (.c .none))))
  .skip)
  .skip)
 (.seq (.ret (.v 1))
 .skip)))
theorem zjZ:(zbx 21).map zai=some (4,1,zju):=by kernel_rfl
noncomputable def zrs:S:=
 (.seq (.ifs (.not (.v 0))
  (.seq (.ret (.c (.int 0)))
  .skip)
  .skip)
 (.seq (.ret (.min (.comp [1] (.rg (.cons (.len (.v 0)) .nil)) (.c (.bool true)) (.bin .Add (.bin .Mult (.idx (.v 0) (.v 1)) (.len (.v 0))) (.call 22 (.cons (.bin .Add (.slc (.v 0) (.c .none) (.v 1)) (.slc (.v 0) (.bin .Add (.v 1) (.c (.int 1))) (.c .none))) .nil))))))
 .skip))
theorem zsb:(zbx 22).map zai=some (1,1,zrs):=by kernel_rfl
noncomputable def c_ends:S:=
 (.seq (.ret (.sum (.comp [2] (.rg (.cons (.len (.v 0)) .nil)) (.cmp .Eq (.idx (.v 1) (.idx (.v 0) (.v 2))) (.c (.int 0))) (.bin .Add (.v 2) (.c (.int 1))))))
 .skip)
theorem k_ends:(zbx 23).map zai=some (2,2,c_ends):=by kernel_rfl
noncomputable def zjs:S:=
 (.seq (.asg 1 (.comp [15,16,17,18] (.v 0) (.c (.bool true)) (.call 12 (.cons (.v 15) (.cons (.v 16) (.cons (.v 17) .nil))))))
 (.seq (.asg 2 (.comp [15,16,17,18] (.v 0) (.c (.bool true)) (.bin .Add (.bin .Add (.bin .Mult (.v 15) (.c (.int 4096))) (.bin .Mult (.v 16) (.c (.int 512)))) (.v 17))))
 (.seq (.asgT [3,4] (.call 16 (.cons (.v 2) .nil)))
 (.seq (.asgM 5 .emptyD)
 (.seq (.fors [6] (.v 4)
  (.seq (.setI (.v 5) (.v 6) (.len (.comp [15] (.slc (.v 6) (.c (.int 1)) (.c .none)) (.cmp .In (.v 15) (.tup (.cons (.c (.str [114])) (.cons (.c (.str [119])) (.cons (.c (.str [120])) (.cons (.c (.str [115])) (.cons (.c (.str [116])) .nil))))))) (.v 15))))
  .skip)
  .skip)
 (.seq (.frz [5] (.asg 7 (.comp [15] (.rg (.cons (.len (.v 0)) .nil)) (.c (.bool true)) (.call 13 (.cons (.idx (.v 3) (.idx (.v 2) (.v 15))) (.cons (.idx (.idx (.v 0) (.v 15)) (.c (.int 3))) .nil))))))
 (.seq (.asg 8 (.comp [15] (.v 1) (.c (.bool true)) (.idx (.v 15) (.c (.int 0)))))
 (.seq (.asg 9 (.call 20 (.cons (.v 1) .nil)))
 (.seq (.asg 10 (.call 17 (.cons (.v 7) (.cons (.v 4) (.cons (.v 5) .nil)))))
 (.seq (.ifs (.cmp .NotEq (.v 10) (.tup (.cons (.v 8) (.cons (.v 9) .nil))))
  (.seq (.ret (.c (.bool false)))
  .skip)
  .skip)
 (.seq (.ifs (.cmp .NotEq (.call 18 (.cons (.v 8) (.cons (.v 4) (.cons (.v 5) .nil)))) (.v 9))
  (.seq (.ret (.c (.bool false)))
  .skip)
  .skip)
 (.seq (.asg 11 (.call 19 (.cons (.v 8) (.cons (.v 2) (.cons (.v 4) (.cons (.v 5) .nil))))))
 (.seq (.ifs (.cmp .NotEq (.v 11) (.call 21 (.cons (.v 1) .nil)))
  (.seq (.ret (.c (.bool false)))
  .skip)
  .skip)
 (.seq (.asg 12 (.comp [15] (.v 1) (.cmp .Gt (.len (.v 15)) (.c (.int 1))) (.bin .Sub (.len (.v 15)) (.c (.int 1)))))
 (.seq (.asg 13 (.comp2 15 (.rg (.cons (.len (.v 12)) .nil)) 16 (.rg (.cons (.v 15) .nil)) (.cmp .LtE (.idx (.v 12) (.v 16)) (.idx (.v 12) (.v 15))) (.v 15)))
 (.seq (.asg 14 (.call 23 (.cons (.v 11) (.cons (.v 5) .nil))))
 (.seq (.ret (.and (.cmp .Eq (.v 14) (.call 22 (.cons (.v 12) .nil))) (.cmp .Eq (.call 23 (.cons (.idx (.v 10) (.c (.int 1))) (.cons (.v 5) .nil))) (.bin .Sub (.bin .Sub (.bin .Mult (.c (.int 2)) (.v 14)) (.len (.v 9))) (.len (.v 13))))))
 .skip)))))))))))))))))
theorem zr6:(zbx 24).map zai=some (15,1,zjs):=by kernel_rfl
noncomputable def c_law:S:=
 (.seq (.ret (.call 24 (.cons (.call 10 (.cons (.v 0) .nil)) .nil)))
 .skip)
theorem k_law:(zbx 25).map zai=some (1,1,c_law):=by kernel_rfl
noncomputable def zkH:S:=
 (.seq (.asg 1 (.slc (.v 3) (.idx (.v 2) (.c (.int 0))) (.bin .Add (.idx (.v 2) (.c (.int 0))) (.v 0))))
 (.seq (.setI (.v 2) (.c (.int 0)) (.bin .Add (.idx (.v 2) (.c (.int 0))) (.len (.v 1))))
 (.seq (.ret (.v 1))
 .skip)))
theorem k_give:(zbx 30).map zai=some (4,1,zkH):=by kernel_rfl
theorem zpu{f:F}{n k:Nat}{S:S}(e:(zbx f).map zai=some (n,k,S))(Φ:PA)(us:List V)(h:H):
  zjv Φ f us h=(zd5 f k us).bind λargs=>zgR f h (eF Φ S (args++List.replicate (n+6-args.length) .uA,h)):=by
 unfold zjv
 cases q:zbx f with
 |none=>rw[q]at e;cases e
 |some d=>rw[q,Option.map_some]at e;rw[Option.bind_some,Option.some.inj e]
def WF(h:H):Prop:=h.all (obOk h.length)=true
theorem zoA{f:F}{n k:Nat}{S:S}(e:(zbx f).map zai=some (n,k,S))(m:Nat)(us:List V)(h:H):
 zac (m+1) f us h=(zd5 f k us).bind λargs=>zgR f h (eF (zac m) S (args++List.replicate (n+6-args.length) .uA,h)):=zpu e _ us h
theorem zmp{v:V}(n:Nat)(h:flat v=true):refOk n v=true:=by cases v<;>first|rfl|cases h
theorem ziI{f:F}{h h' hY:H}{fl:Fl}{vs:Vs}(hf:Nat.beq f 26=false)(ht:h'.take h.length=hY)(hv:refOk h.length (flV fl)=true)(hw:hY.all (obOk h.length)=true):zgR f h (some (fl,vs,h'))=some (flV fl,hY):=by subst ht;exact Eq.trans (if_neg (hf▸Bool.false_ne_true)) (if_pos ⟨hv,hw⟩)
noncomputable def zcd(r:Option (Fl×Vs×H)):Option (Fl×H):=r.map λr=>(r.1,r.2.2)
theorem zp7{r:Option (Fl×Vs×H)}{fl:Fl}{h:H}(e:zcd r=some (fl,h)):∃vs,r=some (fl,vs,h):=by
 cases r with
 |none=>cases e
 |some r=>obtain⟨a,b,c⟩:=r;simp[zcd]at e;obtain⟨rfl,rfl⟩:=e;exact⟨b,rfl⟩
theorem r_out{R:Option (Fl×Vs×H)}{vs:Vs}{h:H}{fl:Fl}(p:R=some (fl,vs,h)):zcd R=some (fl,h):=by rw[p];rfl
theorem zbf{f:F}{n k:Nat}{S:S}(kf:(zbx f).map zai=some (n,k,S)){m:Nat}{us:List V}{h h' hY:H}{fl:Fl}(e:zcd (eF (zac m) S (us++List.replicate (n+6-k) .uA,h))=some (fl,h'))
  (ht:h'.take h.length=hY) (hv:refOk h.length (flV fl)=true) (hw:hY.all (obOk h.length)=true) (hl:us.length=k) (hf:Nat.beq f 26=false/\Nat.beq f 30=false):zac (m+1) f us h=some (flV fl,hY):=by
 refine xe (zp7 e) λvs' e=>?_
 rw[zoA kf]
 have ha:zd5 f k us=some us:=by exact Eq.trans (if_neg (hf.2▸Bool.false_ne_true)) (if_pos hl)
 refine rwl ha ?_;rw[Option.bind_some];refine rwl hl ?_;refine rwl e ?_
 exact ziI hf.1 ht hv hw
theorem zbt{f:F}{n k:Nat}{S:S}(kf:(zbx f).map zai=some (n,k,S)){m:Nat}{us:List V}{h:H}{fl:Fl}(w:WF h)(e:zcd (eF (zac m) S (us++List.replicate (n+6-k) .uA,h))=some (fl,h))
  (hv:flat (flV fl)=true) (hl:us.length=k) (hf:Nat.beq f 26=false/\Nat.beq f 30=false):zac (m+1) f us h=some (flV fl,h):=
 zbf kf e (List.take_length) (zmp _ hv) w hl hf
noncomputable abbrev P2:=Int×Int
noncomputable def tp(p:P2):V:=.tup [.int p.1,.int p.2]
theorem zkM(h:H)(p q:P2):zbl .Lt h (tp p) (tp q)=some (zal p q):=rfl
theorem zsW(p:P2):flat (tp p)=true:=rfl
theorem znM(m:Nat)(x:Int){h:H}(w:WF h):zac (m+1) 5 [.int x] h=some (.int (Builtin.bitAnd x 4095),h):=
 zbt zr7 (fl:=.ret _) w rfl rfl rfl ⟨rfl,rfl⟩
theorem zfq(m:Nat)(x:Int){h:H}(w:WF h):zac (m+1) 6 [.int x] h=some (.int (Builtin.bitAnd x 61440),h):=
 zbt k_ifmt (fl:=.ret _) w rfl rfl rfl ⟨rfl,rfl⟩
theorem znR(m:Nat)(x:Int){h:H}(w:WF h):zac (m+2) 7 [.int x] h=some (.bool (Builtin.bitAnd x 61440==16384),h):=
 zbt zr8 (fl:=.ret _) w (by simp[zcd,zm2,zaW,zaJ,za5,za2,zaw,zb5,zeK,zbR,zhj,zfp,zfP,zhh,zdN,zcJ,zda,ziG,zhi,zdu,zcW,zbL,zaF,zaz,zc9,zcc,zcT,zgx,zc8,zaI,zav,zbq,zco,zhg,zaV,zcI,zcV,zdL,zcm,zbj,zcl,zcH,zcG,zeb,zar,zcs,zbM,zcU,zcF,zbi,zc7,zb4,zbJ,zaA,zdM,zcn,zbE,zck,zbI,zbK,zap,zag,zfl,zeX,zgB,zaH,zdY,zce,zp9,zbO,zbB,p_give,zhQ,zjj,zpb,zp8,zhP,zi1,zon,zoo,zjk,zpc,zpd,zo9,zpa,zgC,zfq m x w,zmI]) rfl rfl ⟨rfl,rfl⟩
theorem znS(m:Nat)(x:Int){h:H}(w:WF h):zac (m+2) 8 [.int x] h=some (.bool (Builtin.bitAnd x 61440==40960),h):=
 zbt zr9 (fl:=.ret _) w (by simp[zcd,zm3,zaW,zaJ,za5,za2,zaw,zb5,zeK,zbR,zhj,zfp,zfP,zhh,zdN,zcJ,zda,ziG,zhi,zdu,zcW,zbL,zaF,zaz,zc9,zcc,zcT,zgx,zc8,zaI,zav,zbq,zco,zhg,zaV,zcI,zcV,zdL,zcm,zbj,zcl,zcH,zcG,zeb,zar,zcs,zbM,zcU,zcF,zbi,zc7,zb4,zbJ,zaA,zdM,zcn,zbE,zck,zbI,zbK,zap,zag,zfl,zeX,zgB,zaH,zdY,zce,zp9,zbO,zbB,p_give,zhQ,zjj,zpb,zp8,zhP,zi1,zon,zoo,zjk,zpc,zpd,zo9,zpa,zgC,zfq m x w,zmI]) rfl rfl ⟨rfl,rfl⟩
noncomputable def zkm(x:Int):Int:=if Builtin.bitAnd x 61440==40960 then 3 else if Builtin.bitAnd x 61440==16384 then 2 else 1
theorem zlo(m:Nat)(x:Int){h:H}(w:WF h):zac (m+3) 14 [.int x] h=some (.int (zkm x),h):=by refine zbt k_step (fl:=.ret (.int (zkm x))) w ?_ rfl rfl ⟨rfl,rfl⟩;simp only[zqE,zaW,zaJ,za2,zbL,zaF,zc8,zav,zap,zag,zaH,List.cons_append,List.nil_append,GB,OA,OB,OC,znS (m) x w,znR m x w,zaL,zh8];unfold zkm;cases (Builtin.bitAnd x 61440==40960)<;>cases (Builtin.bitAnd x 61440==16384)<;>rfl
section
variable {Φ:PA}{vs:Vs}{h hJ hO:H}{x y z:V}{a b:E}{st st1:Vs×H}{l:List V}
theorem r_rg(p:eE Φ vs a h=some (.tup l,hJ))(k:zsG l=some z):eE Φ vs (.rg a) h=some (z,hJ):=by rw[zcI,p];dsimp only[OA,OB,zaH];rw[k];rfl
theorem r_frz{is:List Nat}{s:S}{R:Option (Fl×Vs×H)}(p:za9 is st=some st1)(q:eF Φ s st1=R):eF Φ (.frz is s) st=R:=by rw[zcW,p];exact q
end
end
local macro_rules
 | `(tactic|nomatch $ts,*)=>do
   let xs:=(("r_seq r_asg r_bin r_cmp r_idx r_ct r_cons r_tup r_call r_slc r_setI r_expr r_ret r_attr r_len r_and r_meth r_augV r_asgT r_aa r_rg r_frz".splitOn " ").map λs=>(⟨Lean.mkIdent (.mkSimple s)⟩:Lean.Term)).toArray
   `(tactic| (repeat' (first|with_reducible (first $[|apply $ts]* |assumption $[|apply $xs]*)|exact rfl|with_reducible (first|apply r_out|apply And.intro)|decide| (simp only[$[$ts:term],*];done))))
section
open PySem
theorem zbr{h:H}{i j:Nat}{ps:List P2}{p:P2}{k:Int}(hi:h[i]?=some (.list (ps.map tp)))(hk:k=(j:Int))(hp:ps[j]?=some p)(hz:ps.length<=zad):zb9 h (.obj i) (.int k)=some (tp p):=
 hk▸i_obj hi (by rw[List.getElem?_map,hp];rfl) (by rw[List.length_map];exact hz)
theorem zb0{h:H}{i j:Nat}{ps:List P2}{p:P2}{k:Int}(hi:h[i]?=some (.list (ps.map tp)))(hk:k=(j:Int))(hl:j<ps.length)(hz:ps.length<=zad):setItem h (.obj i) (.int k) (tp p)=some (h.set i (.list ((ps.set j p).map tp))):=by rw[hk,s_obj hi (by rw[List.length_map];exact hl) (by rw[List.length_map];exact hz) (zsW p),List.map_set]
noncomputable def sdL:Nat->List P2->Nat->Nat->P2->Nat×List P2
 |0,ps,_,pos,_=>(pos,ps)
 |n+1,ps,st,pos,x=>if st<pos then(if zal x (ps.getD ((pos-1)/2) (0,0))=true then sdL n (ps.set pos (ps.getD ((pos-1)/2) (0,0))) st ((pos-1)/2) x else(pos,ps)) else(pos,ps)
theorem zq1:sdL (n+1) ps st pos x=if st<pos then(if zal x (ps.getD ((pos-1)/2) (0,0))=true then sdL n (ps.set pos (ps.getD ((pos-1)/2) (0,0))) st ((pos-1)/2) x else(pos,ps)) else(pos,ps):=rfl
noncomputable def sdTest:E:=.cmp .Gt (.v 2) (.v 1)
noncomputable def zge:S:=(.seq (.asg 4 (.bin .RShift (.bin .Sub (.v 2) (.c (.int 1))) (.c (.int 1))))
 (.seq (.asg 5 (.idx (.v 0) (.v 4)))
 (.seq (.ifs (.cmp .Lt (.v 3) (.v 5))
  (.seq (.setI (.v 0) (.v 2) (.v 5))
  (.seq (.asg 2 (.v 4))
  (.seq .cont
  .skip)))
  .skip)
 (.seq .brk
 .skip))))
noncomputable def zch(Φ:PA)(e:E):Vs×H->Option (Bool×H):=λst=>do
 let (x,h) <-eE Φ st.1 e st.2
 let b <-zaT h x
 pure (b,h)
theorem zkh(Φ:PA){i st:Nat}{x:P2}{U:Vs}:∀(n pos:Nat) (ps:List P2) (h:H) (a b:V),pos<n->h[i]?=some (.list (ps.map tp))->pos<ps.length->ps.length<=zad->
  ∃a' b',zdr (zch Φ sdTest) (eF Φ zge) n (.obj i::.int st::.int pos::tp x::a::b::U,h)=some (.next,.obj i::.int st::.int (sdL n ps st pos x).1::tp x::a'::b'::U,h.set i (.list ((sdL n ps st pos x).2.map tp)))
   /\(sdL n ps st pos x).1<ps.length/\(sdL n ps st pos x).2.length=ps.length:=by
 intro l9;induction l9 with
 |zero=>intro pos ps h a b hn _ _ _;lia
 |succ n zkh=>
  intro pos ps h a b hn hi hp hz;have hset:h.set i (.list (ps.map tp))=h:=by rw[List.getElem?_eq_some_iff]at hi;obtain⟨_,e⟩:=hi;rw[<-e,List.set_getElem_self]
  by_cases hs:st<pos
  ·obtain⟨j,hj⟩:∃j,(pos-1)/2=j:=⟨_,rfl⟩;have hpar:j<ps.length:=by lia
   refine xe (⟨_,List.getElem?_eq_getElem hpar⟩:∃q,ps[j]?=some q) λq hq=>?_;have hgd:ps.getD j (0,0)=q:=by rw[List.getD_eq_getElem?_getD,hq];rfl
   have e1:((pos:Int)-1).fdiv 2=(j:Int):=by rw[Int.fdiv_eq_ediv_of_nonneg _ (by lia)];lia
   have hidx:=zbr hi (rfl:(j:Int)=_) hq hz;have ht:zch Φ sdTest (.obj i::.int st::.int pos::tp x::a::b::U,h)=some (true,h):=by simp[zch,sdTest,zbL,zaF,zaz,zc9,zcc,zcT,zgx,zc8,zaI,zav,zbq,zco,zhg,zaV,zcI,zcV,zdL,zcm,zbj,zcl,zcH,zcG,zeb,zar,zcs,zbM,zcU,zcF,zbi,zc7,zb4,zbJ,zaA,zdM,zcn,zbE,zck,zbI,zbK,zap,zag,zfl,zeX,zgB,zaH,zdY,zce,zp9,zbO,zbB,p_give,zhQ,zjj,zpb,zp8,zhP,zi1,zon,zoo,zjk,zpc,zpd,zo9,zpa,zgC,zrt,zqD,zmI,zaL,zh8,hs]
   generalize hc:zal x q=x0;induction x0 using Bool.casesOn with
   |false=>
    have hb:eF Φ zge (.obj i::.int st::.int pos::tp x::a::b::U,h)=some (.brk,.obj i::.int st::.int pos::tp x::.int (j:Int)::tp q::U,h):=by
     have hx:zbl .Lt h (tp x) (tp q)=some false:=by rw[zkM,hc]
     simp only[tp]at hx hidx ⊢;simp[zge,zaW,zaJ,za5,za2,zaw,zb5,zeK,zbR,zhj,zfp,zfP,zhh,zdN,zcJ,zda,ziG,zhi,zdu,zcW,zbL,zaF,zaz,zc9,zcc,zcT,zgx,zc8,zaI,zav,zbq,zco,zhg,zaV,zcI,zcV,zdL,zcm,zbj,zcl,zcH,zcG,zeb,zar,zcs,zbM,zcU,zcF,zbi,zc7,zb4,zbJ,zaA,zdM,zcn,zbE,zck,zbI,zbK,zap,zag,zfl,zeX,zgB,zaH,zdY,zce,zp9,zbO,zbB,p_give,zhQ,zjj,zpb,zp8,zhP,zi1,zon,zoo,zjk,zpc,zpd,zo9,zpa,zgC,zc2,zha,b_shr,e1,hidx,hx,zaL,zh8]
    refine ieea (.int (j:Int)) (tp q) ?_ ?_
    ·refine rwl (wl_b ht hb) ?_;simp only[zq1,if_pos hs,hj,hgd,hc,Bool.false_eq_true,if_false,hset]
    ·simp only[zq1,if_pos hs,hj,hgd,hc,Bool.false_eq_true,if_false];exact⟨hp,trivial⟩
   |true=>
    have hb:eF Φ zge (.obj i::.int st::.int pos::tp x::a::b::U,h)=some (.cont,.obj i::.int st::.int (j:Int)::tp x::.int (j:Int)::tp q::U,h.set i (.list ((ps.set pos q).map tp))):=by
     have hx:zbl .Lt h (tp x) (tp q)=some true:=by rw[zkM,hc]
     have hset:=zb0 (p:=q) hi (rfl:((pos:Nat):Int)=_) hp hz;simp only[tp]at hx hidx hset ⊢;simp[zge,zaW,zaJ,za5,za2,zaw,zb5,zeK,zbR,zhj,zfp,zfP,zhh,zdN,zcJ,zda,ziG,zhi,zdu,zcW,zbL,zaF,zaz,zc9,zcc,zcT,zgx,zc8,zaI,zav,zbq,zco,zhg,zaV,zcI,zcV,zdL,zcm,zbj,zcl,zcH,zcG,zeb,zar,zcs,zbM,zcU,zcF,zbi,zc7,zb4,zbJ,zaA,zdM,zcn,zbE,zck,zbI,zbK,zap,zag,zfl,zeX,zgB,zaH,zdY,zce,zp9,zbO,zbB,p_give,zhQ,zjj,zpb,zp8,zhP,zi1,zon,zoo,zjk,zpc,zpd,zo9,zpa,zgC,zc2,zha,b_shr,e1,hidx,hx,zaL,zh8,hset]
    refine zdy λX kX=>?_;have hi':(h.set i (.list ((ps.set pos q).map tp)))[i]?=some (.list ((ps.set pos q).map tp)):=List.getElem?_set_self ((List.getElem?_eq_some_iff.mp hi).1);obtain⟨a',b',r1,r2,r3⟩:=zkh j (ps.set pos q) _ (.int (j:Int)) (tp q) (by lia) hi' (by rw[List.length_set];exact hpar) (by rw[List.length_set];exact hz);refine kX ?_;refine ieea a' b' ?_ ?_
    ·rw[wl_c ht hb,r1];simp only[zq1,if_pos hs,hj,hgd,hc,if_true,List.set_set]
    ·simp only[zq1,if_pos hs,hj,hgd,hc,if_true];rw[List.length_set]at r2 r3;exact ia r2 r3
  ·have ht:zch Φ sdTest (.obj i::.int st::.int pos::tp x::a::b::U,h)=some (false,h):=by simp[zch,sdTest,zbL,zaF,zaz,zc9,zcc,zcT,zgx,zc8,zaI,zav,zbq,zco,zhg,zaV,zcI,zcV,zdL,zcm,zbj,zcl,zcH,zcG,zeb,zar,zcs,zbM,zcU,zcF,zbi,zc7,zb4,zbJ,zaA,zdM,zcn,zbE,zck,zbI,zbK,zap,zag,zfl,zeX,zgB,zaH,zdY,zce,zp9,zbO,zbB,p_give,zhQ,zjj,zpb,zp8,zhP,zi1,zon,zoo,zjk,zpc,zpd,zo9,zpa,zgC,zrt,zqD,zmI,zaL,zh8,hs]
   refine ieea a b ?_ ?_
   ·refine rwl (wl_0 ht) ?_;simp only[zq1,if_neg hs,hset]
   ·simp[zq1,hs,hp]
noncomputable def sdM(ps:List P2)(st pos:Nat):List P2:=let x:=ps.getD pos (0,0);let r:=sdL 200 ps st pos x;r.2.set r.1 x
theorem zgp{h:H}{i:Nat}{o:Ob}(w:WF h)(ho:∀n,obOk n o=true):(h.set i o).all (obOk h.length)=true:=by
 unfold WF at w;rw[List.all_eq_true]at w ⊢;intro x hx;rcases List.mem_or_eq_of_mem_set hx with q|q
 ·exact w x q
 ·rw[q];exact ho _
theorem zi8(m:Nat){h:H}{i st pos:Nat}{ps:List P2}(w:WF h)(hi:h[i]?=some (.list (ps.map tp)))(hp:pos<ps.length)(hz:ps.length<=200):
  zac (m+1) 3 [.obj i,.int st,.int pos] h=some (.none,h.set i (.list ((sdM ps st pos).map tp))):=by
 have hz':ps.length<=zad:=Nat.le_trans hz (by decide)
 refine xe (⟨_,List.getElem?_eq_getElem hp⟩:∃q,ps[pos]?=some q) λq hq=>?_
 have hgd:ps.getD pos (0,0)=q:=by rw[List.getD_eq_getElem?_getD,hq];rfl
 refine zdy λX kX=>?_
 obtain⟨a',b',r1,r2,r3⟩:=zkh (zac m) (st:=st) (x:=q) (U:=R6) zaq pos ps h .uA .uA (by show pos<200;exact Nat.le_trans hp hz) hi hp hz'
 have hi':(h.set i (.list ((sdL zaq ps st pos q).2.map tp)))[i]?=some (.list ((sdL zaq ps st pos q).2.map tp)):=List.getElem?_set_self ((List.getElem?_eq_some_iff.mp hi).1)
 have hset:=zb0 (p:=q) hi' (rfl:(((sdL zaq ps st pos q).1:Nat):Int)=_) (by rw[r3];exact r2) (by rw[r3];exact hz')
 refine kX ?_
 refine zbf zme (fl:=.next) (h':=h.set i (.list ((sdM ps st pos).map tp))) ?_ (by rw[List.take_of_length_le (by rw[List.length_set];exact Nat.le_refl _)]) rfl (zgp w λ_=>rfl) rfl ⟨rfl,rfl⟩
 show zcd (eF (zac m) (.seq (.asg 3 (.idx (.v 0) (.v 2))) (.seq (.whiles sdTest zge) (.seq (.setI (.v 0) (.v 2) (.v 3)) .skip))) (.obj i::.int st::.int pos::.uA::.uA::.uA::R6,h))=_
 have hm:sdM ps st pos=(sdL zaq ps st pos q).2.set (sdL zaq ps st pos q).1 q:=by unfold sdM;refine rwl hgd ?_;rfl
 refine rwl hm ?_
 rw[List.set_set]at hset
 have e1:eF (zac m) (.asg 3 (.idx (.v 0) (.v 2))) (.obj i::.int st::.int pos::.uA::.uA::.uA::R6,h)=some (.next,.obj i::.int st::.int pos::tp q::.uA::.uA::R6,h):=by nomatch (zbr hi (rfl:((pos:Nat):Int)=_) hq hz')
 have e2:eF (zac m) (.whiles sdTest zge) (.obj i::.int st::.int pos::tp q::.uA::.uA::R6,h)=_:=r1
 nomatch hset,zcd
noncomputable def suC(ps:List P2)(e c:Nat):Nat:=if c+1<e/\zal (ps.getD c (0,0)) (ps.getD (c+1) (0,0))=false then c+1 else c
noncomputable def suL:Nat->List P2->Nat->Nat->Nat×List P2
 |0,ps,_,pos=>(pos,ps)
 |n+1,ps,e,pos=>if 2*pos+1<e then suL n (ps.set pos (ps.getD (suC ps e (2*pos+1)) (0,0))) e (suC ps e (2*pos+1)) else(pos,ps)
theorem su_s:suL (n+1) ps e pos=if 2*pos+1<e then suL n (ps.set pos (ps.getD (suC ps e (2*pos+1)) (0,0))) e (suC ps e (2*pos+1)) else(pos,ps):=rfl
noncomputable def suM(ps:List P2)(pos:Nat):List P2:=let x:=ps.getD pos (0,0);let r:=suL 200 ps ps.length pos;sdM (r.2.set r.1 x) pos r.1
noncomputable def suTest:E:=.cmp .Lt (.v 5) (.v 2)
noncomputable def suIf:S:=(.ifs (.and (.cmp .Lt (.v 6) (.v 2)) (.not (.cmp .Lt (.idx (.v 0) (.v 5)) (.idx (.v 0) (.v 6)))))
 (.seq (.asg 5 (.v 6))
 .skip)
 .skip)
noncomputable def zoN:S:=(.seq (.setI (.v 0) (.v 1) (.idx (.v 0) (.v 5)))
 (.seq (.asg 1 (.v 5))
 (.seq (.asg 5 (.bin .Add (.bin .Mult (.c (.int 2)) (.v 1)) (.c (.int 1))))
 .skip)))
noncomputable def zlp:S:=(.seq (.asg 6 (.bin .Add (.v 5) (.c (.int 1)))) (.seq suIf zoN))
theorem suC_lt{ps:List P2}{e c:Nat}(h:c<e):suC ps e c<e:=by unfold suC;split<;>omega
theorem suC_ge{ps:List P2}{e c:Nat}:c<=suC ps e c:=by unfold suC;split<;>lia
theorem zdd{ps:List P2}{j:Nat}(h:j<ps.length):ps[j]?=some (ps.getD j (0,0)):=by rw[List.getD_eq_getElem?_getD,List.getElem?_eq_getElem h];rfl
theorem zqh(Φ:PA){h:H}{i c e:Nat}{ps:List P2}{p s x:V}{U:Vs}(hi:h[i]?=some (.list (ps.map tp)))(he:e=ps.length)(hc:c<e)(hz:ps.length<=zad):
  eF Φ suIf (.obj i::p::.int e::s::x::.int c::.int (c+1:Nat)::U,h)=some (.next,.obj i::p::.int e::s::x::.int (suC ps e c)::.int (c+1:Nat)::U,h):=by
 subst he
 generalize hc1:c+1=c1
 by_cases h1:c1<ps.length
 ·generalize hb:zal (ps.getD c (0,0)) (ps.getD c1 (0,0))=x0;induction x0 using Bool.casesOn with
  |true=>
   have hs:suC ps ps.length c=c:=by unfold suC;refine rwl hc1 ?_;refine rwl hb ?_;simp
   have hx:zbl .Lt h (tp (ps.getD c (0,0))) (tp (ps.getD c1 (0,0)))=some true:=by rw[zkM,hb]
   refine rwl hs ?_;have ha:eE Φ (.obj i::p::.int ps.length::s::x::.int c::.int c1::U) (.and (.cmp .Lt (.v 6) (.v 2)) (.not (.cmp .Lt (.idx (.v 0) (.v 5)) (.idx (.v 0) (.v 6))))) h=some (.bool false,h):=by simp only[zaF,zcc,zcT,zaI,zar,GA,GB,OA,OB,OC,zrt,zaL,Int.ofNat_lt,h1,decide_true,if_true,(zbr hi (rfl:((c:Nat):Int)=_) (zdd hc) hz),(zbr hi (rfl:((c1:Nat):Int)=_) (zdd h1) hz),hx];rfl
   simp only[suIf,zaW,zaJ,zaw,zdN,ha,OA,OB,zaL,zh8,Bool.false_eq_true,if_false]
  |false=>
   have hs:suC ps ps.length c=c1:=by unfold suC;refine rwl hc1 ?_;refine rwl hb ?_;simp[h1]
   have hx:zbl .Lt h (tp (ps.getD c (0,0))) (tp (ps.getD c1 (0,0)))=some false:=by rw[zkM,hb]
   refine rwl hs ?_;have ha:eE Φ (.obj i::p::.int ps.length::s::x::.int c::.int c1::U) (.and (.cmp .Lt (.v 6) (.v 2)) (.not (.cmp .Lt (.idx (.v 0) (.v 5)) (.idx (.v 0) (.v 6))))) h=some (.bool true,h):=by simp only[zaF,zcc,zcT,zaI,zar,GA,GB,OA,OB,OC,zrt,zaL,Int.ofNat_lt,h1,decide_true,if_true,(zbr hi (rfl:((c:Nat):Int)=_) (zdd hc) hz),(zbr hi (rfl:((c1:Nat):Int)=_) (zdd h1) hz),hx];rfl
   simp only[suIf,zaW,zaJ,zaw,zdN,ha,OA,OB,zaL,zh8,if_true];exact rfl
 ·have hs:suC ps ps.length c=c:=by unfold suC;refine rwl hc1 ?_;simp[h1]
  refine rwl hs ?_;have ha:eE Φ (.obj i::p::.int ps.length::s::x::.int c::.int c1::U) (.and (.cmp .Lt (.v 6) (.v 2)) (.not (.cmp .Lt (.idx (.v 0) (.v 5)) (.idx (.v 0) (.v 6))))) h=some (.bool false,h):=by simp[zbL,zaF,zaz,zc9,zcc,zcT,zgx,zc8,zaI,zav,zbq,zco,zhg,zaV,zcI,zcV,zdL,zcm,zbj,zcl,zcH,zcG,zeb,zar,zcs,zbM,zcU,zcF,zbi,zc7,zb4,zbJ,zaA,zdM,zcn,zbE,zck,zbI,zbK,zap,zag,zfl,zeX,zgB,zaH,zdY,zce,zp9,zbO,zbB,p_give,zhQ,zjj,zpb,zp8,zhP,zi1,zon,zoo,zjk,zpc,zpd,zo9,zpa,zgC,zrt,zaL,zh8,h1]
  simp only[suIf,zaW,zaJ,zaw,zdN,ha,OA,OB,zaL,zh8,Bool.false_eq_true,if_false]
theorem zmC(Φ:PA){h:H}{i c pos:Nat}{ps:List P2}{e s x r:V}{U:Vs}(hi:h[i]?=some (.list (ps.map tp)))(hp:pos<ps.length)(hc:c<ps.length)(hz:ps.length<=200):
  eF Φ zoN (.obj i::.int pos::e::s::x::.int c::r::U,h)=some (.next,.obj i::.int c::e::s::x::.int (2*c+1:Nat)::r::U,h.set i (.list ((ps.set pos (ps.getD c (0,0))).map tp))):=by
 have hz':ps.length<=zad:=Nat.le_trans hz (by decide)
 have s1:=zb0 (p:=ps.getD c (0,0)) hi (rfl:((pos:Nat):Int)=_) hp hz'
 have m1:zaU .Mult (h.set i (.list ((ps.set pos (ps.getD c (0,0))).map tp))) (.int 2) (.int c)=some (.int (2*c)):=by exact if_pos ⟨by decide,by lia⟩
 have e2:(2*(c:Int)+1)=((2*c+1:Nat):Int):=by exact rfl
 simp only[zoN,zaW,zaJ,zaw,zbR,zbL,zaF,zaz,zar,GA,GB,OA,OB,OC,(zbr hi (rfl:((c:Nat):Int)=_) (zdd hc) hz'),s1,m1,zc2,SA,SB,e2]
theorem zkq(Φ:PA){i:Nat}{s x:V}{U:Vs}:∀(n pos:Nat) (ps:List P2) (h:H) (r:V),ps.length<n+pos+1->h[i]?=some (.list (ps.map tp))->pos<ps.length->ps.length<=200->
  ∃c' r',zdr (zch Φ suTest) (eF Φ zlp) n (.obj i::.int pos::.int ps.length::s::x::.int (2*pos+1:Nat)::r::U,h)=some (.next,.obj i::.int (suL n ps ps.length pos).1::.int ps.length::s::x::c'::r'::U,h.set i (.list ((suL n ps ps.length pos).2.map tp)))
   /\(suL n ps ps.length pos).1<ps.length/\(suL n ps ps.length pos).2.length=ps.length:=by
 intro l9;induction l9 with
 |zero=>intro pos ps h r hn _ hp _;omega
 |succ n zkq=>
  intro pos ps h r hn hi hp hz;have hset:h.set i (.list (ps.map tp))=h:=by rw[List.getElem?_eq_some_iff]at hi;obtain⟨_,e⟩:=hi;refine rwr e ?_;rw[List.set_getElem_self]
  by_cases hs:2*pos+1<ps.length
  ·have hcl:=suC_lt (ps:=ps) hs;have hcg:=suC_ge (ps:=ps) (e:=ps.length) (c:=2*pos+1);have ht:zch Φ suTest (.obj i::.int pos::.int ps.length::s::x::.int (2*pos+1:Nat)::r::U,h)=some (true,h):=by generalize 2*pos+1=c at*;simp[zch,suTest,zbL,zaF,zaz,zc9,zcc,zcT,zgx,zc8,zaI,zav,zbq,zco,zhg,zaV,zcI,zcV,zdL,zcm,zbj,zcl,zcH,zcG,zeb,zar,zcs,zbM,zcU,zcF,zbi,zc7,zb4,zbJ,zaA,zdM,zcn,zbE,zck,zbI,zbK,zap,zag,zfl,zeX,zgB,zaH,zdY,zce,zp9,zbO,zbB,p_give,zhQ,zjj,zpb,zp8,zhP,zi1,zon,zoo,zjk,zpc,zpd,zo9,zpa,zgC,zrt,zaL,hs]
   have b1:eF Φ (.asg 6 (.bin .Add (.v 5) (.c (.int 1)))) (.obj i::.int pos::.int ps.length::s::x::.int (2*pos+1:Nat)::r::U,h)=some (.next,.obj i::.int pos::.int ps.length::s::x::.int (2*pos+1:Nat)::.int (2*pos+1+1:Nat)::U,h):=by exact rfl
   have hb:eF Φ zlp (.obj i::.int pos::.int ps.length::s::x::.int (2*pos+1:Nat)::r::U,h)=some (.next,.obj i::.int (suC ps ps.length (2*pos+1))::.int ps.length::s::x::.int (2*suC ps ps.length (2*pos+1)+1:Nat)::.int (2*pos+1+1:Nat)::U,h.set i (.list ((ps.set pos (ps.getD (suC ps ps.length (2*pos+1)) (0,0))).map tp))):=by refine rwl zaJ ?_;refine rwl b1 ?_;dsimp only;refine rwl zaJ ?_;refine rwl (zqh Φ hi rfl hs (Nat.le_trans hz (by decide))) ?_;exact zmC Φ hi hp hcl hz
   have hi':(h.set i (.list ((ps.set pos (ps.getD (suC ps ps.length (2*pos+1)) (0,0))).map tp)))[i]?=some (.list ((ps.set pos (ps.getD (suC ps ps.length (2*pos+1)) (0,0))).map tp)):=List.getElem?_set_self ((List.getElem?_eq_some_iff.mp hi).1);have ih:=zkq (suC ps ps.length (2*pos+1)) (ps.set pos (ps.getD (suC ps ps.length (2*pos+1)) (0,0))) _ (.int (2*pos+1+1:Nat)) (by rw[List.length_set];omega) hi' (by rw[List.length_set];exact hcl) (by rw[List.length_set];exact hz);rw[List.length_set]at ih;refine zaj ih λc' r' r1 r2 r3=>?_;refine ieea c' r' ?_ ?_
   ·refine rwl (wl_n ht hb) ?_;refine rwl r1 ?_;simp only[su_s,if_pos hs,List.set_set]
   ·simp only[su_s,if_pos hs];exact⟨r2,r3⟩
  ·have ht:zch Φ suTest (.obj i::.int pos::.int ps.length::s::x::.int (2*pos+1:Nat)::r::U,h)=some (false,h):=by refine zdy λX kX=>?_;generalize 2*pos+1=c at*;refine kX ?_;simp[zch,suTest,zbL,zaF,zaz,zc9,zcc,zcT,zgx,zc8,zaI,zav,zbq,zco,zhg,zaV,zcI,zcV,zdL,zcm,zbj,zcl,zcH,zcG,zeb,zar,zcs,zbM,zcU,zcF,zbi,zc7,zb4,zbJ,zaA,zdM,zcn,zbE,zck,zbI,zbK,zap,zag,zfl,zeX,zgB,zaH,zdY,zce,zp9,zbO,zbB,p_give,zhQ,zjj,zpb,zp8,zhP,zi1,zon,zoo,zjk,zpc,zpd,zo9,zpa,zgC,zrt,zaL,hs]
   refine ieea (.int (2*pos+1:Nat)) r ?_ ?_
   ·refine rwl (wl_0 ht) ?_;simp only[su_s,if_neg hs,hset]
   ·simp[su_s,hs,hp]
theorem zkg:∀(n:Nat) (ps:List P2) (st pos:Nat) (x:P2),(sdL n ps st pos x).2.length=ps.length:=by
 intro l9;induction l9 with
 |zero=>intro _ _ _ _;exact rfl
 |succ n zkg=>
  intro ps st pos x;rw[zq1];split
  ·split
   ·rw[zkg,List.length_set]
   ·rfl
  ·rfl
theorem zsP(ps:List P2)(st pos:Nat):(sdM ps st pos).length=ps.length:=by unfold sdM;rw[List.length_set,zkg]
theorem zdB(m:Nat){h:H}{i pos:Nat}{ps:List P2}(w:WF h)(hi:h[i]?=some (.list (ps.map tp)))(hp:pos<ps.length)(hz:ps.length<=200):
  zac (m+2) 4 [.obj i,.int pos] h=some (.none,h.set i (.list ((suM ps pos).map tp))):=by
 refine zdy λX kX=>?_
 have il:i<h.length:=(List.getElem?_eq_some_iff.mp hi).1
 have hz':ps.length<=zad:=Nat.le_trans hz (by decide)
 obtain⟨c',r',r1,r2,r3⟩:=zkq (zac (m+1)) (s:=.int pos) (x:=tp (ps.getD pos (0,0))) (U:=R6) zaq pos ps h .uA (by show _<200+pos+1;lia) hi hp hz
 have hi':(h.set i (.list ((suL zaq ps ps.length pos).2.map tp)))[i]?=some (.list ((suL zaq ps ps.length pos).2.map tp)):=List.getElem?_set_self il
 have hset:=zb0 (p:=ps.getD pos (0,0)) hi' (rfl:(((suL zaq ps ps.length pos).1:Nat):Int)=_) (by rw[r3];exact r2) (by rw[r3];exact hz')
 rw[List.set_set]at hset
 have w':WF (h.set i (.list (((suL zaq ps ps.length pos).2.set (suL zaq ps ps.length pos).1 (ps.getD pos (0,0))).map tp))):=by unfold WF;exact rwl List.length_set (zgp w λ_=>rfl)
 have hd:=zi8 m (st:=pos) (pos:=(suL zaq ps ps.length pos).1) w' (List.getElem?_set_self il) (by rw[List.length_set,r3];exact r2) (by rw[List.length_set,r3];exact hz)
 rw[List.set_set]at hd
 refine kX ?_
 refine zbf zpV (fl:=.next) (h':=h.set i (.list ((suM ps pos).map tp))) ?_ (by rw[List.take_of_length_le (by rw[List.length_set];exact Nat.le_refl _)]) rfl (zgp w λ_=>rfl) rfl ⟨rfl,rfl⟩
 show zcd (eF (zac (m+1)) (.seq (.asg 2 (.len (.v 0))) (.seq (.asg 3 (.v 1)) (.seq (.asg 4 (.idx (.v 0) (.v 1))) (.seq (.asg 5 (.bin .Add (.bin .Mult (.c (.int 2)) (.v 1)) (.c (.int 1)))) (.seq (.whiles suTest zlp)
  (.seq (.setI (.v 0) (.v 1) (.v 4)) (.seq (.expr (.call 3 (.cons (.v 0) (.cons (.v 3) (.cons (.v 1) .nil))))) .skip))))))) (.obj i::.int pos::.uA::.uA::.uA::.uA::.uA::R6,h))=_
 have m1:zaU .Mult h (.int 2) (.int pos)=some (.int (2*pos)):=by exact if_pos ⟨by decide,by lia⟩
 have e1:∀(S:S),eF (zac (m+1)) (.seq (.asg 2 (.len (.v 0))) (.seq (.asg 3 (.v 1)) (.seq (.asg 4 (.idx (.v 0) (.v 1))) (.seq (.asg 5 (.bin .Add (.bin .Mult (.c (.int 2)) (.v 1)) (.c (.int 1)))) S)))) (.obj i::.int pos::.uA::.uA::.uA::.uA::.uA::R6,h)=
   eF (zac (m+1)) S (.obj i::.int pos::.int ps.length::.int pos::tp (ps.getD pos (0,0))::.int (2*pos+1:Nat)::.uA::R6,h):=by
  intro S
  nomatch (by rw[zsp hi (by rw[List.length_map];exact hz'),List.length_map]:zdh h (.obj i)=some (ps.length:Int)),(zbr hi (rfl:((pos:Nat):Int)=_) (zdd hp) hz'),m1,zc2,e2
 have e3:eF (zac (m+1)) (.whiles suTest zlp) (.obj i::.int pos::.int ps.length::.int pos::tp (ps.getD pos (0,0))::.int (2*pos+1:Nat)::.uA::R6,h)=_:=r1
 rw[e1];refine rwl e3 ?_;refine rwl (rfl:suM ps pos=sdM ((suL zaq ps ps.length pos).2.set (suL zaq ps ps.length pos).1 (ps.getD pos (0,0))) pos (suL zaq ps ps.length pos).1) ?_
 nomatch hset,hd,zcd
noncomputable def zim(ps:List P2):P2×List P2:=
 let l:=ps.getLastD (0,0)
 let r:=ps.dropLast
 if r.isEmpty then(l,[]) else(r.getD 0 (0,0),suM (r.set 0 l) 0)
noncomputable def zgc(ps:List P2)(x:P2):P2×List P2:=(ps.getD 0 (0,0),suM (ps.set 0 x) 0)
theorem zb6{h:H}{i:Nat}{vs:List V}(w:WF h):WF (h.set i (.list vs)):=by unfold WF;rw[List.length_set];exact zgp w λ_=>rfl
theorem zh9{h:H}{i:Nat}{o:Ob}:(h.set i o).take h.length=h.set i o:=List.take_of_length_le (by rw[List.length_set];exact Nat.le_refl _)
theorem zfY(m:Nat){h:H}{i:Nat}{ps:List P2}{x:P2}(w:WF h)(hi:h[i]?=some (.list (ps.map tp)))(hp:0<ps.length)(hz:ps.length<=200):
  zac (m+3) 1 [.obj i,tp x] h=some (tp (zgc ps x).1,h.set i (.list ((zgc ps x).2.map tp))):=by
 have hz':ps.length<=zad:=Nat.le_trans hz (by decide)
 have hidx:=zbr hi (rfl:(0:Int)=((0:Nat):Int)) (zdd hp) hz'
 have hset:=zb0 (p:=x) hi (rfl:(0:Int)=((0:Nat):Int)) hp hz'
 have hs:=zdB m (i:=i) (pos:=0) (ps:=ps.set 0 x) (zb6 (i:=i) (vs:=(ps.set 0 x).map tp) w) (List.getElem?_set_self ((List.getElem?_eq_some_iff.mp hi).1)) (by rw[List.length_set];exact hp) (by rw[List.length_set];exact hz)
 rw[List.set_set]at hs
 refine zbf zhA (fl:=.ret (tp (zgc ps x).1)) (h':=h.set i (.list ((zgc ps x).2.map tp))) ?_ zh9 rfl (zgp w λ_=>rfl) rfl ⟨rfl,rfl⟩
 have hs':zac (m+2) 4 [.obj i,.int 0] (h.set i (.list ((ps.set 0 x).map tp)))=some (.none,h.set i (.list ((zgc ps x).2.map tp))):=hs
 show zcd (eF (zac (m+2)) zcD (.obj i::tp x::.uA::R6,h))=_
 have hr:(zgc ps x).1=ps.getD 0 (0,0):=rfl
 refine rwl hr ?_
 simp only[tp]at hset hidx ⊢
 simp only[zcD,zaJ,za5,za2,zaw,zbR,zbL,zaF,zav,zar,zap,zag,zaH,zce,GA,GB,OA,OB,OC,SA,SB,hidx,hset,hs',zcd,Option.map_some]
theorem zfX(m:Nat){h:H}{i:Nat}{ps:List P2}(w:WF h)(hi:h[i]?=some (.list (ps.map tp)))(hp:0<ps.length)(hz:ps.length<=200):
  zac (m+3) 0 [.obj i] h=some (tp (zim ps).1,h.set i (.list ((zim ps).2.map tp))):=by
 have il:i<h.length:=(List.getElem?_eq_some_iff.mp hi).1
 have hz':ps.length<=zad:=Nat.le_trans hz (by decide)
 have hne:ps≠[]:=λq=>by rw[q]at hp;simp at hp
 have hlast:(ps.map tp).getLast?=some (tp (ps.getLastD (0,0))):=by
  refine rwl List.getLast?_map ?_;refine rwl List.getLastD_eq_getLast? ?_;generalize q:ps.getLast?=x0;induction x0 using Option.casesOn with
  |none=>exact absurd (List.getLast?_eq_none_iff.mp q) hne
  |some l=>rfl
 have hi1:(h.set i (.list (ps.dropLast.map tp)))[i]?=some (.list (ps.dropLast.map tp)):=List.getElem?_set_self il
 have hzd:ps.dropLast.length<=200:=by rw[List.length_dropLast];exact Nat.le_trans (Nat.sub_le _ _) hz
 have hzd':ps.dropLast.length<=zad:=Nat.le_trans hzd (by decide)
 refine zbf znX (fl:=.ret (tp (zim ps).1)) (h':=h.set i (.list ((zim ps).2.map tp))) ?_ zh9 rfl (zgp w λ_=>rfl) rfl ⟨rfl,rfl⟩
 have hpop:eE (zac (m+2)) (.obj i::.uA::.uA::R6) (.pop (.v 0)) h=some (tp (ps.getLastD (0,0)),h.set i (.list (ps.dropLast.map tp))):=by simp only[zaF,zdM,zbO,zhQ,zhP,GB,OA,OB,hi,hlast,List.length_map,hz',if_true,OC,(by rw[List.map_dropLast]:(ps.map tp).dropLast=ps.dropLast.map tp)]
 have e1:eF (zac (m+2)) (.asg 1 (.pop (.v 0))) (.obj i::.uA::.uA::R6,h)=some (.next,.obj i::tp (ps.getLastD (0,0))::.uA::R6,h.set i (.list (ps.dropLast.map tp))):=by refine rwl zaw ?_;refine rwl hpop ?_;rfl
 have ht:zaT (h.set i (.list (ps.dropLast.map tp))) (.obj i)=some (!(ps.dropLast.map tp).isEmpty):=by exact zqk hi1 (by rw[List.length_map];exact hzd')
 generalize hl:ps.getLastD (0,0)=l at*
 generalize hd:ps.dropLast=d at*
 have hpm:zim ps=if d.isEmpty then(l,[]) else(d.getD 0 (0,0),suM (d.set 0 l) 0):=by unfold zim;refine rwl hl ?_;exact rwl hd rfl
 refine rwl hpm ?_
 induction d using List.casesOn with
 |nil=>simp only[List.map_nil,List.isEmpty_nil,Bool.not_true]at ht ⊢;refine rwl zaJ ?_;refine rwl e1 ?_;simp only[tp];simp only[zaW,zaJ,za2,zaw,zdN,zbL,zaF,zar,GA,GB,OA,OB,OC,SA,SB,List.map_nil,ht,Bool.false_eq_true,if_false,if_true,zcd,Option.map_some]
 |cons a r=>have hs:=zdB m (i:=i) (pos:=0) (ps:=(a::r).set 0 l) (zb6 (i:=i) (vs:=((a::r).set 0 l).map tp) w) (List.getElem?_set_self il) (by simp) (by rw[List.length_set];exact hzd);rw[List.set_set]at hs;have hidx:=zbr hi1 (rfl:(0:Int)=((0:Nat):Int)) (zdd (by simp)) hzd';have hset:=zb0 (p:=l) hi1 (rfl:(0:Int)=((0:Nat):Int)) (by simp) hzd';rw[List.set_set]at hset;have hs':zac (m+2) 4 [.obj i,.int 0] (h.set i (.list (((a::r).set 0 l).map tp)))=some (.none,h.set i (.list ((suM ((a::r).set 0 l) 0).map tp))):=hs;refine rwl (if_neg (by simp)) ?_;have ht':zaT (h.set i (.list ((a::r).map tp))) (.obj i)=some true:=ht;refine rwl zaJ ?_;refine rwl e1 ?_;simp only[SB]at hset hs' ⊢;simp only[tp]at hidx hset ⊢;simp only[zaW,zaJ,za5,za2,zaw,zbR,zdN,zbL,zaF,zav,zar,zap,zag,zaH,zce,GA,GB,OA,OB,OC,SA,SB,ht',if_true,hidx,hset,hs',zcd,Option.map_some]
theorem zkp:∀(n:Nat) (ps:List P2) (e pos:Nat),(suL n ps e pos).2.length=ps.length:=by
 intro l9;induction l9 with
 |zero=>intro _ _ _;exact rfl
 |succ n zkp=>
  intro ps e pos;rw[su_s];split
  ·rw[zkp,List.length_set]
  ·rfl
theorem zgj(ps:List P2)(pos:Nat):(suM ps pos).length=ps.length:=by unfold suM;rw[zsP,List.length_set,zkp]
theorem zjN(m:Nat){h:H}{i:Nat}{ps:List P2}(w:WF h)(hi:h[i]?=some (.list (ps.map tp)))(h4:ps.length=4):
  zac (m+3) 2 [.obj i] h=some (.none,h.set i (.list ((suM (suM ps 1) 0).map tp))):=by
 have s1:zac (m+2) 4 [.obj i,.int 1] h=some (.none,h.set i (.list ((suM ps 1).map tp))):=zdB m (pos:=1) w hi (by lia) (by lia)
 have s2:=zdB m (i:=i) (pos:=0) (ps:=suM ps 1) (zb6 (i:=i) (vs:=(suM ps 1).map tp) w) (List.getElem?_set_self ((List.getElem?_eq_some_iff.mp hi).1)) (by rw[zgj];lia) (by rw[zgj];lia)
 rw[List.set_set]at s2
 have s2':zac (m+2) 4 [.obj i,.int 0] (h.set i (.list ((suM ps 1).map tp)))=some (.none,h.set i (.list ((suM (suM ps 1) 0).map tp))):=s2
 have hln:zdh h (.obj i)=some (4:Int):=by rw[zsp hi (by simp[h4,zad])];simp[h4]
 refine zbf znW (fl:=.next) (h':=h.set i (.list ((suM (suM ps 1) 0).map tp))) ?_ zh9 rfl (zgp w λ_=>rfl) rfl ⟨rfl,rfl⟩
 have e1:eF (zac (m+2)) (.asg 1 (.len (.v 0))) (.obj i::.uA::.uA::R6,h)=some (.next,.obj i::.int 4::.uA::R6,h):=by simp only[zaw,zaF,zaV,GB,OA,OB,hln,OC,SA,SB]
 have e2:eE (zac (m+2)) (.obj i::.int 4::.uA::R6) (.rev (.rg (.cons (.bin .FloorDiv (.v 1) (.c (.int 2))) .nil))) h=some (.lA [.int 1,.int 0],h):=rfl
 refine rwl zaJ ?_;refine rwl e1 ?_
 dsimp only
 refine rwl zaJ ?_;refine rwl zcJ ?_;refine rwl e2 ?_
 simp only[OA,OB,show zak [2] (.lA [.int 1,.int 0])=some [.int 1,.int 0] from rfl,lo_s,lk_n,lo_0,bt1,SA,SB,zaW,zaJ,za5,zaF,zav,zap,zag,zaH,zce,zon,zoo,GA,GB,OC,s1,s2',fl_N,zcd,Option.map_some]
theorem zao(Φ:PA)(a b:S)(st:Vs×H):eF Φ (.seq a b) st=(match eF Φ a st with|some (.next,st)=>eF Φ b st|r=>r):=by
 refine rwl zaJ ?_;all_goals (generalize eF Φ a st=x0;induction x0 using Option.casesOn with
  |none=>rfl
  |some r=>obtain⟨f,x⟩:=r;induction f using Fl.casesOn<;>rfl)
theorem x_skip(Φ:PA)(st:Vs×H):eF Φ .skip st=some (.next,st):=by rw[zaW]
theorem x_brk(Φ:PA)(st:Vs×H):eF Φ .brk st=some (.brk,st):=by rw[ziG]
theorem zky(Φ:PA){t:E}{a b:S}{vs:Vs}{h hJ:H}{v:V}{c:Bool}(e:eE Φ vs t h=some (v,hJ))(ht:zaT hJ v=some c):eF Φ (.ifs t a b) (vs,h)=if c=true then eF Φ a (vs,hJ) else eF Φ b (vs,hJ):=by rw[zdN];simp only[e,OA,OB,ht]
noncomputable def zgS(p:Int->Bool):List (Int×Nat)->Option Nat
 |[]=>none
 |q::r=>if p q.1=true then some q.2 else zgS p r
theorem fm_s:zgS p (q::r)=if p q.1=true then some q.2 else zgS p r:=rfl
noncomputable def zkd(q:Int×Nat):V:=.tup [.int q.1,.str [q.2]]
noncomputable def fmP(m:Int)(k:Int)(b:Int):Bool:=if k==0 then Builtin.bitAnd m 61440==b else Builtin.bitAnd m b==b
noncomputable def zkW:S:=(.seq (.ifs (.cmp .Eq (.v 2) (.c (.int 0)))
  (.seq (.ifs (.cmp .Eq (.call 6 (.cons (.v 0) .nil)) (.v 4))
   (.seq (.expr (.append (.v 1) (.v 5)))
   (.seq .brk
   .skip))
   .skip)
  .skip)
  (.seq (.ifs (.cmp .Eq (.bin .BitAnd (.v 0) (.v 4)) (.v 4))
   (.seq (.expr (.append (.v 1) (.v 5)))
   (.seq .brk
   .skip))
   .skip)
  .skip))
 .skip)
theorem zeF{Φ:PA}{h:H}{i:Nat}{us:List V}{s:List Nat}{vs:Vs}{a:E}(h1:vs[1]?=some (.obj i))(ha:eE Φ vs a h=some (.str s,h))(hi:h[i]?=some (.list us))(hz:us.length<=zad):
  eF Φ (.expr (.append (.v 1) a)) (vs,h)=some (.next,vs,h.set i (.list (us++[.str s]))):=by
 have e:eE Φ vs (.append (.v 1) a) h=some (.none,h.set i (.list (us++[.str s]))):=by simp only[zaF,zaA,zbO,zhQ,zhP,h1,OA,OB,hi,ha,OC];exact rwl (if_pos ⟨rfl,hz⟩) rfl
 rw[za5,e];rfl
theorem zlY(m:Nat){h:H}{i:Nat}{us:List V}{mo k:Int}{tb:V}{q:Int×Nat}{U:Vs}(w:WF h)(hi:h[i]?=some (.list us))(hz:us.length<=zad):
  eF (zac (m+1)) zkW (.int mo::.obj i::.int k::tb::.int q.1::.str [q.2]::U,h)=
   if fmP mo k q.1=true then some (.brk,.int mo::.obj i::.int k::tb::.int q.1::.str [q.2]::U,h.set i (.list (us++[.str [q.2]]))) else some (.next,.int mo::.obj i::.int k::tb::.int q.1::.str [q.2]::U,h):=by
 have ap:=zeF (Φ:=zac (m+1)) (vs:=.int mo::.obj i::.int k::tb::.int q.1::.str [q.2]::U) (a:=.v 5) (s:=[q.2]) rfl rfl hi hz
 have t1:eE (zac (m+1)) (.int mo::.obj i::.int k::tb::.int q.1::.str [q.2]::U) (.cmp .Eq (.call 6 (.cons (.v 0) .nil)) (.v 4)) h=some (.bool (Builtin.bitAnd mo 61440==q.1),h):=by simp only[zaF,zaI,zav,zap,zag,zaH,GA,GB,OA,OB,OC,(zfq m mo w),zmI]
 have t2:eE (zac (m+1)) (.int mo::.obj i::.int k::tb::.int q.1::.str [q.2]::U) (.cmp .Eq (.bin .BitAnd (.v 0) (.v 4)) (.v 4)) h=some (.bool (Builtin.bitAnd mo q.1==q.1),h):=by dsimp only[zaF,zaz,zaI,GA,GB,OA,OB,OC,b_and,zmI]
 have t0:eE (zac (m+1)) (.int mo::.obj i::.int k::tb::.int q.1::.str [q.2]::U) (.cmp .Eq (.v 2) (.c (.int 0))) h=some (.bool (k==0),h):=by dsimp only[zbL,zaF,zaI,GA,GB,OA,OB,OC,zmI]
 unfold fmP
 rw[zkW,zao];refine rwl (zky _ t0 (zaL _ _)) ?_
 generalize hk:(k==0)=x0;induction x0 using Bool.casesOn
 ·refine rwl (if_neg (by decide)) ?_;rw[zao];refine rwl (zky _ t2 (zaL _ _)) ?_;generalize hb:(Builtin.bitAnd mo q.1==q.1)=r0;induction r0 using Bool.casesOn
  ·exact rfl
  ·simp only[if_true,zao,ap,x_brk,Bool.false_eq_true,if_false]
 ·refine rwl (if_pos rfl) ?_;rw[zao];refine rwl (zky _ t1 (zaL _ _)) ?_;generalize hb:(Builtin.bitAnd mo 61440==q.1)=b0;induction b0 using Bool.casesOn
  ·exact rfl
  ·simp only[if_true,zao,ap,x_brk]
theorem zhn(m:Nat){h:H}{i:Nat}{us:List V}{mo k:Int}{tb:V}{U:Vs}(w:WF h)(hi:h[i]?=some (.list us))(hz:us.length<=zad):∀(t:List (Int×Nat)) (x4 x5:V),∃y4 y5,
  zbZ (eF (zac (m+1)) zkW) [4,5] (t.map zkd) (.int mo::.obj i::.int k::tb::x4::x5::U,h)=
   (match zgS (fmP mo k) t with
    |some c=>some (some .next,.int mo::.obj i::.int k::tb::y4::y5::U,h.set i (.list (us++[.str [c]])))
    |none=>some (none,.int mo::.obj i::.int k::tb::y4::y5::U,h)):=by
 intro l9;induction l9 with
 |nil=>intro x4 x5;exact⟨x4,x5,rfl⟩
 |cons q r zhn=>
  intro x4 x5;have hb:zbC (.int mo::.obj i::.int k::tb::x4::x5::U) [4,5] (zkd q)=some (.int mo::.obj i::.int k::tb::.int q.1::.str [q.2]::U):=rfl;have hr:=zlY m (mo:=mo) (k:=k) (tb:=tb) (q:=q) (U:=U) w hi hz;generalize hp:fmP mo k q.1=x0;induction x0 using Bool.casesOn with
  |true=>refine iee (.int q.1) (.str [q.2]) ?_;rw[hp,if_pos rfl]at hr;refine rwl List.map_cons ?_;refine rwl (lo_b hb hr) ?_;simp only[fm_s,hp,if_true]
  |false=>rw[hp,if_neg (by decide)]at hr;refine xee (zhn (.int q.1) (.str [q.2])) λy4 y5 e=>?_;refine iee y4 y5 ?_;refine rwl List.map_cons ?_;refine rwl (zf3 hb hr) ?_;refine rwl e ?_;simp only[fm_s,hp,Bool.false_eq_true,if_false]
noncomputable def zqJ:S:=(.seq (.ifs (.cmp .Eq (.v 2) (.c (.int 0)))
  (.seq (.expr (.append (.v 1) (.c (.str [63]))))
  .skip)
  (.seq (.expr (.append (.v 1) (.c (.str [45]))))
  .skip))
 .skip)
noncomputable def zpE:S:=(.seq (.fors [4,5] (.v 3) zkW zqJ) .skip)
noncomputable def fmC(mo k:Int)(t:List (Int×Nat)):Nat:=(zgS (fmP mo k) t).getD (if k==0 then 63 else 45)
theorem znm(m:Nat){h:H}{i:Nat}{us:List V}{mo k:Int}{t:List (Int×Nat)}{x4 x5:V}{U:Vs}(w:WF h)(hi:h[i]?=some (.list us))(hz:us.length<=zad)(ht:t.length<=100):∃y4 y5,
  eF (zac (m+1)) zpE (.int mo::.obj i::.int k::.tup (t.map zkd)::x4::x5::U,h)=some (.next,.int mo::.obj i::.int k::.tup (t.map zkd)::y4::y5::U,h.set i (.list (us++[.str [fmC mo k t]]))):=by
 refine xee (zhn m w hi hz (mo:=mo) (k:=k) (tb:=.tup (t.map zkd)) (U:=U) t x4 x5) λy4 y5 e=>?_
 refine iee y4 y5 ?_
 have hit:zak [4,5] (.tup (t.map zkd))=some (t.map zkd):=by exact iz_tup (by rw[List.length_map];exact Nat.le_trans ht (by decide))
 have hv:eE (zac (m+1)) (.int mo::.obj i::.int k::.tup (t.map zkd)::x4::x5::U) (.v 3) h=some (.tup (t.map zkd),h):=rfl
 have t0:eE (zac (m+1)) (.int mo::.obj i::.int k::.tup (t.map zkd)::y4::y5::U) (.cmp .Eq (.v 2) (.c (.int 0))) h=some (.bool (k==0),h):=by dsimp only[zbL,zaF,zaI,GA,GB,OA,OB,OC,zmI]
 rw[zpE,zao];refine rwl zcJ ?_;refine rwl hv ?_
 simp only[OA,OB,hit,e]
 unfold fmC
 generalize zgS (fmP mo k) t=x0;induction x0 using Option.casesOn with
 |some c=>simp only[fl_S,x_skip,Option.getD_some]
 |none=>
  simp only[fl_N,zqJ,Option.getD_none];rw[zao];refine rwl (zky _ t0 (zaL _ _)) ?_;have a1:=zeF (Φ:=zac (m+1)) (vs:=.int mo::.obj i::.int k::.tup (t.map zkd)::y4::y5::U) (a:=.c (.str [63])) (s:=[63]) rfl rfl hi hz;have a2:=zeF (Φ:=zac (m+1)) (vs:=.int mo::.obj i::.int k::.tup (t.map zkd)::y4::y5::U) (a:=.c (.str [45])) (s:=[45]) rfl rfl hi hz;generalize (k==0)=r0;induction r0 using Bool.casesOn
  ·simp only[Bool.false_eq_true,if_false,zao,a2,x_skip]
  ·simp only[if_true,zao,a1,x_skip]
noncomputable def ktV(p:Int×List (Int×Nat)):V:=.tup [.int p.1,.tup (p.2.map zkd)]
theorem zho(m:Nat){i:Nat}{mo:Int}{U:Vs}:∀(ts:List (Int×List (Int×Nat))) (us:List V) (h:H) (x2 x3 x4 x5:V),(∀p∈ts,p.2.length<=100)->WF h->h[i]?=some (.list us)->us.length+ts.length<=zad->∃y2 y3 y4 y5,
  zbZ (eF (zac (m+1)) zpE) [2,3] (ts.map ktV) (.int mo::.obj i::x2::x3::x4::x5::U,h)=
   some (none,.int mo::.obj i::y2::y3::y4::y5::U,h.set i (.list (us++ts.map λp=>.str [fmC mo p.1 p.2]))):=by
 intro l9;induction l9 with
 |nil=>
  intro us h x2 x3 x4 x5 _ _ hi _;refine ieeee x2 x3 x4 x5 ?_;have hset:h.set i (.list us)=h:=by rw[List.getElem?_eq_some_iff]at hi;obtain⟨_,e⟩:=hi;refine rwr e ?_;rw[List.set_getElem_self]
  simp only[List.map_nil,lo_0,List.append_nil,hset]
 |cons p r zho=>intro us h x2 x3 x4 x5 ht w hi hz;refine zdy λX kX=>?_;have hb:zbC (.int mo::.obj i::x2::x3::x4::x5::U) [2,3] (ktV p)=some (.int mo::.obj i::.int p.1::.tup (p.2.map zkd)::x4::x5::U):=rfl;rw[List.length_cons]at hz;refine xee (znm m (mo:=mo) (k:=p.1) (t:=p.2) (x4:=x4) (x5:=x5) (U:=U) w hi (by omega) (ht p (.head _))) λy4 y5 e=>?_;have w':=zb6 (i:=i) (vs:=us++[.str [fmC mo p.1 p.2]]) w;obtain⟨z2,z3,z4,z5,e2⟩:=zho (us++[.str [fmC mo p.1 p.2]]) _ (.int p.1) (.tup (p.2.map zkd)) y4 y5 (λq hq=>ht q (.tail _ hq)) w' (List.getElem?_set_self ((List.getElem?_eq_some_iff.mp hi).1)) (by rw[List.length_append];simp;omega);refine kX ?_;refine ieeee z2 z3 z4 z5 ?_;refine rwl List.map_cons ?_;refine rwl (zf3 hb e) ?_;refine rwl e2 ?_;rw[List.set_set,List.append_assoc];rfl
noncomputable def zfS:List (Int×List (Int×Nat)):=[(0,[(40960,108),(49152,115),(32768,45),(24576,98),(16384,100),(8192,99),(4096,112)]),(1,[(256,114)]),(2,[(128,119)]),(3,[(2112,115),(2048,83),(64,120)]),(4,[(32,114)]),(5,[(16,119)]),
 (6,[(1032,115),(1024,83),(8,120)]),(7,[(4,114)]),(8,[(2,119)]),(9,[(513,116),(512,84),(1,120)])]
noncomputable def zaC(mo:Int):List Nat:=zfS.map λp=>fmC mo p.1 p.2
theorem zrL(Φ:PA)(vs:Vs)(h:H):∃e:E,zeG=.seq (.asgM 1 (.lA .nil)) (.seq (.fors [2,3] (.enum e) zpE .skip) (.seq (.ret (.join (.c (.str [])) (.v 1))) .skip))/\eE Φ vs (.enum e) h=some (.lA (zfS.map ktV),h):=⟨_,rfl,rfl⟩
theorem zgW:∀l:List Nat,zgy [] (l.map λc=>[c])=l
 |[]=>rfl
 |[x]=>rfl
 |x::y::r=>by have:=zgW (y::r);simp only[List.map_cons]at this ⊢;rw[jo_s,this];rfl
theorem ze3:∀l:List Nat,zfh (l.map λc=>V.str [c])=some (l.map λc=>[c]):=by
 intro l9;induction l9 with
 |nil=>exact rfl
 |cons x r ze3=>exact bs rfl (by rw[ze3];rfl)
theorem zmq{n k:Nat}{v:V}(hk:n<=k)(h:refOk n v=true):refOk k v=true:=by induction v using V.casesOn<;>simp only[refOk,decide_eq_true_eq]at h ⊢<;>omega
theorem ziZ{n k:Nat}{o:Ob}(hk:n<=k)(h:obOk n o=true):obOk k o=true:=by
 induction o using Ob.casesOn<;>simp only[obOk,decide_eq_true_eq,List.all_eq_true]at h ⊢
 ·exact λp hp=>zmq hk (h p hp)
 ·omega
theorem zd3{h:H}{o:Ob}(w:WF h)(ho:obOk (h.length+1) o=true):WF (h++[o]):=by unfold WF at w ⊢;refine rwl List.length_append ?_;refine rwl List.all_append ?_;rw[Bool.and_eq_true];refine ia ?_ (by simpa using ho);rw[List.all_eq_true]at w ⊢;exact λx hx=>ziZ (by omega) (w x hx)
theorem ziH(m:Nat)(mo:Int){h:H}(w:WF h):zac (m+2) 9 [.int mo] h=some (.str (zaC mo),h):=by
 refine xea (zrL (zac (m+1)) (.int mo::.obj h.length::.uA::.uA::.uA::.uA::R6) (h++[.list []])) λe hc he=>?_;have w1:WF (h++[.list []]):=by exact zd3 w rfl
 refine xeeee (zho m (i:=h.length) (mo:=mo) (U:=R6) zfS [] (h++[.list []]) .uA .uA .uA .uA (by decide) w1 (by simp:(h++[Ob.list []])[h.length]?=some (.list [])) (by decide)) λy2 y3 y4 y5 lp=>?_;refine zbf zmc (fl:=.ret (.str (zaC mo))) (h':=h++[.list ((zaC mo).map λc=>.str [c])]) ?_ (by simp) rfl w rfl ⟨rfl,rfl⟩;show zcd (eF (zac (m+1)) zeG (.int mo::.uA::.uA::.uA::.uA::.uA::R6,h))=_;have e1:eF (zac (m+1)) (.asgM 1 (.lA .nil)) (.int mo::.uA::.uA::.uA::.uA::.uA::R6,h)=some (.next,.int mo::.obj h.length::.uA::.uA::.uA::.uA::R6,h++[.list []]):=rfl;have hiz:zak [2,3] (.lA (zfS.map ktV))=some (zfS.map ktV):=rfl;refine rwl hc ?_;rw[zao];refine rwl e1 ?_;dsimp only;rw[zao];refine rwl zcJ ?_;refine rwl he ?_;simp only[OA,OB,hiz,lp,fl_N,x_skip];rw[zao];have hl:(h++[Ob.list []]).set h.length (.list (([]:List V)++zfS.map λp=>.str [fmC mo p.1 p.2]))=h++[.list ((zaC mo).map λc=>.str [c])]:=by simp[zaC];rfl
 refine rwl hl ?_;have hs:zgE (h++[Ob.list ((zaC mo).map λc=>V.str [c])]) (.obj h.length)=some ((zaC mo).map λc=>.str [c]):=bs (by simp:(h++[Ob.list ((zaC mo).map λc=>V.str [c])])[h.length]?=some (.list ((zaC mo).map λc=>.str [c]))) rfl;simp only[zaW,za2,zbL,zaF,zb4,zeX,GA,GB,OA,OB,OC,hs,ze3,zgW];rfl
theorem zbY(a b:Nat):Builtin.bitAnd (a:Int) (b:Int)=((a&&& b:Nat):Int):=by unfold Builtin.bitAnd;refine rwl (by simp:decide ((0:Int)<=(b:Int))=true) ?_;simp
theorem zgq(Φ:PA){tA:List Nat}{it:E}{body orelse:S}{vs:Vs}{h hJ:H}{v:V}{xs:List V}(e:eE Φ vs it h=some (v,hJ))(hz:zak tA v=some xs):
  eF Φ (.fors tA it body orelse) (vs,h)=zcZ (eF Φ orelse) (zbZ (eF Φ body) tA xs (vs,hJ)):=by
 refine rwl zcJ ?_;refine rwl e ?_
 induction v using V.casesOn<;>first| (cases hz;done)| (simp only[OA,OB,hz];done)
theorem zdb(o:Vs×H->Option (Fl×Vs×H))(vs:Vs)(h:H):zcZ o (some (none,vs,h))=o (vs,h):=rfl
theorem zeM(o:Vs×H->Option (Fl×Vs×H))(f:Fl)(vs:Vs)(h:H):zcZ o (some (some f,vs,h))=some (f,vs,h):=rfl
noncomputable def md(k a r:Nat):Nat:=k*4096+a*512+r
noncomputable def stp(k:Nat):Nat:=if k=10 then 3 else if k=4 then 2 else 1
noncomputable def tn:Nat->Nat->Nat
 |0,r=>r
 |n+1,r=>tn n (r&&& (r-1))
theorem tn_s:tn (n+1) r=tn n (r&&& (r-1)):=rfl
noncomputable def zbd:List Nat:=[8,4,10,12,6,1]
theorem fmt_at{k y:Nat}(hk:k<16)(hy:y<4096):(k*4096+y)&&& 61440=k*4096:=by
 have h3:61440=2 ^ 12*15:=rfl;refine rwl (by lia:k*4096=2 ^ 12*k) ?_;refine rwl h3 ?_;refine Nat.eq_of_testBit_eq λj=>?_;rw[Nat.testBit_and,Nat.testBit_two_pow_mul_add _ (by show y<4096;exact hy)];refine rwl Nat.testBit_two_pow_mul ?_;refine rwl Nat.testBit_two_pow_mul ?_;by_cases q:j<12
 ·refine rwl (decide_eq_false (by lia)) ?_;simp
 ·refine rwl (if_neg q) ?_;refine rwl (decide_eq_true (by exact Nat.le_of_not_lt q)) ?_;rw[Bool.true_and,<-Nat.testBit_and];have:k&&& 15=k:=by refine rwl (show 15=2 ^ 4-1 from rfl) ?_;rw[Nat.and_two_pow_sub_one_eq_mod];lia
  exact rwl this rfl
theorem zfr{k:Nat}(hk:k∈zbd):k<16:=by simp only[zbd,List.mem_cons,List.not_mem_nil,or_false]at hk;lia
theorem zn9{k a r:Nat}(hk:k∈zbd)(ha:a<8)(hr:r<512):md k a r&&& 61440=k*4096:=by unfold md;rw[Nat.add_assoc];exact fmt_at (zfr hk) (by lia)
theorem zoa{k a r:Nat}(ha:a<8)(hr:r<512):md k a r&&& 4095=a*512+r:=by rw[show (4095:Nat)=2 ^ 12-1 from rfl,Nat.and_two_pow_sub_one_eq_mod];unfold md;lia
theorem zln{k a r:Nat}(hk:k∈zbd)(ha:a<8)(hr:r<512):zkm (md k a r:Nat)=(stp k:Nat):=by unfold zkm;refine rwl (show (61440:Int)=((61440:Nat):Int) from rfl) ?_;rw[zbY];refine rwl (zn9 hk ha hr) ?_;simp only[zbd,List.mem_cons,List.not_mem_nil,or_false]at hk;rcases hk with rfl|rfl|rfl|rfl|rfl|rfl<;>rfl
theorem tn_chk:((List.range 512).all λr=>(r&&& (r-1))<512)=true:=by decide+kernel
theorem zkr:∀(n:Nat) {r:Nat},r<512->tn n r<512:=by
 intro l9;induction l9 with
 |zero=>intro _ h;exact h
 |succ n zkr=>intro r h;exact zkr (by simpa using List.all_eq_true.mp tn_chk r (List.mem_range.mpr h))
theorem zpk(r:Nat):Builtin.bitAnd (r:Int) ((r:Int)-1)=((r&&& (r-1):Nat):Int):=by
 induction r using Nat.casesAuxOn with
 |zero=>rfl
 |succ n=>rw[show (((n+1:Nat):Int)-1)=((n:Nat):Int) by lia,zbY];rfl
noncomputable def zjf:S:=(.seq (.asg 1 (.bin .BitAnd (.v 1) (.bin .Sub (.v 1) (.c (.int 1)))))
 .skip)
theorem zkt(Φ:PA)(x:V)(U:Vs)(h:H):∀(xs:List V) (r:Nat) (y:V),∃y',
  zbZ (eF Φ zjf) [2] xs (x::.int r::y::U,h)=some (none,x::.int (tn xs.length r:Nat)::y'::U,h):=by
 intro l9;induction l9 with
 |nil=>intro r y;exact⟨y,rfl⟩
 |cons z xs zkt=>
  intro r y;obtain⟨y',e⟩:=zkt (r&&& (r-1)) z;refine⟨y',?_⟩;have hb:eF Φ zjf (x::.int r::z::U,h)=some (.next,x::.int ((r&&& (r-1):Nat):Int)::z::U,h):=by simp only[zjf,zaW,zaJ,zaw,zbL,zaF,zaz,GA,GB,OA,OB,OC,SA,SB,zha,b_and,zpk]
  exact(zf3 rfl hb).trans e
theorem tu_m1{h:H}{a r:Nat}(hr:r<512):zaU .Mod h (.int (a*512+r:Nat)) (.int 512)=some (.int r):=by refine rwl (zgL _ _ (by decide)) ?_;refine rwl (Int.fmod_eq_emod_of_nonneg _ (by lia)) ?_;exact rwl (show ((a*512+r:Nat):Int)%512=(r:Int) by lia) rfl
theorem tu_d1{h:H}{a r:Nat}(hr:r<512):zaU .FloorDiv h (.int (a*512+r:Nat)) (.int 512)=some (.int a):=by refine rwl (zgK _ _ (by decide)) ?_;refine rwl (Int.fdiv_eq_ediv_of_nonneg _ (by lia)) ?_;exact rwl (show ((a*512+r:Nat):Int)/512=(a:Int) by lia) rfl
theorem tu_m2{h:H}{a:Nat}(ha:a<8):zaU .Mult h (.int a) (.int 512)=some (.int (a*512)):=by exact if_pos ⟨by omega,by decide⟩
theorem tu_hiz{s:Nat}(h3:s=1\/s=2\/s=3):zak [2] (.rng 0 (s:Nat) 1)=some (zbs 0 (s:Nat) 1)/\(zbs 0 (s:Nat) 1).length=s:=by rcases h3 with q|q|q<;>rw[q]<;>exact⟨rfl,rfl⟩
theorem tu_fin(k a r:Nat):((k*4096:Nat):Int)+(a:Int)*512+((r:Nat):Int)=((md k a r:Nat):Int):=by unfold md;exact rfl
theorem zqs(m:Nat){X Y s:Nat}{I F J:Int}{r:Nat}{h:H}(w:WF h)(him:Builtin.bitAnd (X:Int) 4095=I)(hif:Builtin.bitAnd (X:Int) 61440=F)(hs:zkm (X:Int)=(s:Nat))(h3:s=1\/s=2\/s=3)
  (m1:zaU .Mod h (.int I) (.int 512)=some (.int r)) (d1:zaU .FloorDiv h (.int I) (.int 512)=some (.int J)) (m2:zaU .Mult h (.int J) (.int 512)=some (.int (J*512))) (hfin:F+J*512+((tn s r:Nat):Int)=(Y:Int)):
  zac (m+4) 15 [.int (X:Int)] h=some (.int (Y:Int),h):=by
 have im:=znM (m+2) (X:Int) w
 have it:=zfq (m+2) (X:Int) w
 have st:=zlo m (X:Int) w
 rw[him]at im
 rw[hif]at it
 rw[hs]at st
 refine xe (zkt (zac (m+3)) (.int (X:Int)) (R6) h (zbs 0 (s:Nat) 1) r .uA) λy' lp=>?_
 refine xa (tu_hiz h3) λhiz hl=>?_
 rw[hl]at lp
 generalize tn s r=R at*
 refine zbt k_turn (fl:=.ret (.int (Y:Int))) w ?_ rfl rfl ⟨rfl,rfl⟩
 show zcd (eF (zac (m+3)) (.seq (.asg 1 (.bin .Mod (.call 5 (.cons (.v 0) .nil)) (.c (.int 512))))
 (.seq (.fors [2] (.rg (.cons (.call 14 (.cons (.v 0) .nil)) .nil)) zjf .skip)
 (.seq (.ret (.bin .Add (.bin .Add (.call 6 (.cons (.v 0) .nil)) (.bin .Mult (.bin .FloorDiv (.call 5 (.cons (.v 0) .nil)) (.c (.int 512))) (.c (.int 512)))) (.v 1))) .skip))) (.int (X:Int)::.uA::.uA::R6,h))=_
 have e1:eF (zac (m+3)) (.asg 1 (.bin .Mod (.call 5 (.cons (.v 0) .nil)) (.c (.int 512)))) (.int (X:Int)::.uA::.uA::R6,h)=some (.next,.int (X:Int)::.int r::.uA::R6,h):=by simp only[zaw,zbL,zaF,zaz,zav,zap,zag,zaH,GA,GB,OA,OB,OC,SA,SB,im,m1]
 have e2:eF (zac (m+3)) (.fors [2] (.rg (.cons (.call 14 (.cons (.v 0) .nil)) .nil)) zjf .skip) (.int (X:Int)::.int r::.uA::R6,h)=some (.next,.int (X:Int)::.int (R:Int)::y'::R6,h):=by
  have ev:eE (zac (m+3)) (.int (X:Int)::.int r::.uA::R6) (.rg (.cons (.call 14 (.cons (.v 0) .nil)) .nil)) h=some (.rng 0 (s:Nat) 1,h):=by simp only[zaF,zav,zcI,zap,zag,zaH,zjk,GA,GB,OA,OB,OC,st]
  refine rwl (zgq _ ev hiz) ?_;refine rwl lp ?_;rw[zdb,x_skip]
 rw[zao];refine rwl e1 ?_
 dsimp only
 rw[zao];refine rwl e2 ?_
 simp only[zaJ,za2,zbL,zaF,zaz,zav,zap,zag,zaH,GA,GB,OA,OB,OC,im,it,d1,m2,zc2,zcd,Option.map_some,hfin]
theorem zqt(m:Nat){k a r:Nat}{h:H}(w:WF h)(hk:k∈zbd)(ha:a<8)(hr:r<512):
  zac (m+4) 15 [.int (md k a r:Nat)] h=some (.int (md k a (tn (stp k) r):Nat),h):=by
 have h3:stp k=1\/stp k=2\/stp k=3:=by unfold stp;split<;>(try split)<;>simp
 have him:Builtin.bitAnd ((md k a r:Nat):Int) 4095=((a*512+r:Nat):Int):=by rw[show (4095:Int)=((4095:Nat):Int) from rfl,zbY,zoa ha hr]
 have hif:Builtin.bitAnd ((md k a r:Nat):Int) 61440=((k*4096:Nat):Int):=by rw[show (61440:Int)=((61440:Nat):Int) from rfl,zbY,zn9 hk ha hr]
 exact zqs m w him hif (zln hk ha hr) h3 (tu_m1 (h:=h) (a:=a) hr) (tu_d1 (h:=h) (a:=a) hr) (tu_m2 (h:=h) ha) (tu_fin k a (tn (stp k) r))
theorem zs3(Φ:PA)(t:E)(b:S)(st:Vs×H):eF Φ (.whiles t b) st=zdr (zch Φ t) (eF Φ b) zaq st:=by rw[zda];rfl
theorem zjH{α:Type}(Φ:PA){tA:List Nat}{cond elt:E}{vs:Vs}{h:H}(ι:α->V)(g:α->Option V):∀(xs:List α) (acc:List V),
  (∀x∈xs,∃vs' b t,zbC vs tA (ι x)=some vs'/\eE Φ vs' cond h=some (b,h)/\zaT h b=some t/\(t=true->∃y,eE Φ vs' elt h=some (y,h)/\flat y=true/\g x=some y)/\(t=false->g x=none))->
  zaB (λx (st:List V×H)=>do
   let vs' <-zbC vs tA x
   let (b,h) <-eE Φ vs' cond st.2
   let t <-zaT h b
   if t then do
    let (y,h) <-eE Φ vs' elt h
    if flat y then pure (st.1++[y],h) else none
   else pure (st.1,h)) (xs.map ι) (acc,h)=some (acc++xs.filterMap g,h):=by
 intro l9;induction l9 with
 |nil=>intro acc _;simp[fe_0]
 |cons x xs zjH=>
  intro acc hx;refine zbe (hx x (.head _)) λvs' b t h1 h2 h3 h4 h5=>?_;have ih:=λacc=>zjH acc λy hy=>hx y (.tail _ hy);refine rwl List.map_cons ?_;rw[fe_s];simp only[h1,h2,h3,OA,OB];induction t using Bool.casesOn with
  |true=>refine zgt (h4 rfl) λy e1 e2 e3=>?_;simp only[e1,e2,if_true,OB,OC];have:=ih (acc++[y]);refine rwl this ?_;refine rwl (List.filterMap_cons_some e3) ?_;rw[List.append_assoc];rfl
  |false=>simp only[Bool.false_eq_true,if_false,OC,OB];have:=ih acc;refine rwl this ?_;exact rwl (List.filterMap_cons_none (h5 rfl)) rfl
theorem zfM{α:Type}(Φ:PA){tA:List Nat}{it cond elt:E}{vs:Vs}{h:H}{v:V}{xs:List α}(ι:α->V)(g:α->Option V)(e:eE Φ vs it h=some (v,h))(hz:zak tA v=some (xs.map ι))
  (hx:∀x∈xs,∃vs' b t,zbC vs tA (ι x)=some vs'/\eE Φ vs' cond h=some (b,h)/\zaT h b=some t/\(t=true->∃y,eE Φ vs' elt h=some (y,h)/\flat y=true/\g x=some y)/\(t=false->g x=none)):
  eE Φ vs (.comp tA it cond elt) h=some (.lA (xs.filterMap g),h):=by
 have:=zjH Φ (cond:=cond) (elt:=elt) ι g xs [] hx
 dsimp only[OA,OC,List.nil_append]at this
 refine rwl zck ?_
 simp only[e,hz,OA,OB,this,OC]
theorem zgw{α:Type}(Φ:PA){tA:List Nat}{it elt:E}{vs:Vs}{h:H}{v:V}{xs:List α}(ι:α->V)(g:α->V)(e:eE Φ vs it h=some (v,h))(hz:zak tA v=some (xs.map ι))
  (hx:∀x∈xs,∃vs',zbC vs tA (ι x)=some vs'/\eE Φ vs' elt h=some (g x,h)/\flat (g x)=true):
  eE Φ vs (.comp tA it (.c (.bool true)) elt) h=some (.lA (xs.map g),h):=by
 rw[zfM Φ ι (λx=>some (g x)) e hz λx hm=>?_];refine rwr List.filterMap_eq_map ?_
 ·rfl
 ·refine zeB λX kX=>?_;refine zgt (hx x hm) λvs' h1 h2 h3=>?_;exact kX vs' (.bool true) true h1 (by rw[zbL]) rfl (λ_=>⟨g x,h2,h3,rfl⟩) (λq=>nomatch q)
theorem zef:∀l:List Int,zf0 (l.map V.int)=some l:=by
 intro l9;induction l9 with
 |nil=>exact rfl
 |cons x r zef=>exact bs rfl (by rw[zef];rfl)
theorem c_in(h:H)(x:Int)(ys:List Int):zbl .In h (.int x) (.lA (ys.map .int))=some (ys.contains x):=by show (zf0 (ys.map .int)).map _=_;rw[zef];rfl
theorem zfD(h:H){x y:List Nat}(hz:x.length+y.length<=zad):zaU .Add h (.str x) (.str y)=some (.str (x++y)):=fit hz
theorem znK(h:H){l:List Nat}{j:Nat}{c:Nat}{k:Int}(hk:k=(j:Int))(hj:l[j]?=some c)(hz:l.length<=zad):zb9 h (.str l) (.int k)=some (.str [c]):=hk▸i_str hj hz
theorem zlC(h:H){x y:Int}(hx:x.natAbs<=1000000)(hy:y.natAbs<=1000000):zaU .Mult h (.int x) (.int y)=some (.int (x*y)):=if_pos ⟨hx,hy⟩
theorem b_div(h:H){x y:Nat}(hy:y≠0/\y<=1000000):zaU .FloorDiv h (.int (x:Int)) (.int (y:Int))=some (.int ((x/y:Nat):Int)):=by refine rwl (zgK _ _ (by lia)) ?_;refine rwl (Int.fdiv_eq_ediv_of_nonneg _ (by lia)) ?_;rfl
theorem zrm(h:H){x y:Nat}(hy:y≠0):zaU .Mod h (.int (x:Int)) (.int (y:Int))=some (.int ((x%y:Nat):Int)):=by refine rwl (zgL _ _ (by lia)) ?_;refine rwl (Int.fmod_eq_emod_of_nonneg _ (by lia)) ?_;rfl
noncomputable def rch(c:Nat):List Nat:=if c=2 then [45,120,84,116] else [45,120,83,115]
noncomputable def rdv(c:Nat):Nat:=if c=0 then 4 else if c=1 then 2 else 1
noncomputable def b01(b:Bool):Nat:=if b=true then 1 else 0
noncomputable def zqX(a:Nat)(hs:List Int)(c:Nat):List Nat:=
 [if hs.contains ((3*c:Nat):Int)=true then 114 else 45,if hs.contains ((3*c+1:Nat):Int)=true then 119 else 45,(rch c).getD (2*(a/rdv c%2)+b01 (hs.contains ((3*c+2:Nat):Int))) 0]
noncomputable def zj0:List Nat:=[63,112,99,63,100,63,98,63,45,63,108,63,115,63,63,63]
noncomputable def zjl(k a:Nat)(hs:List Int):List Nat:=zj0.getD k 0::(zqX a hs 0++(zqX a hs 1++zqX a hs 2))
noncomputable def zqY:E:=(.idx (.tup (.cons (.c (.int 4)) (.cons (.c (.int 2)) (.cons (.c (.int 1)) .nil)))) (.v 4))
noncomputable def zqZ:E:=(.idx (.tup (.cons (.c (.str [45,120,83,115])) (.cons (.c (.str [45,120,83,115])) (.cons (.c (.str [45,120,84,116])) .nil)))) (.v 4))
noncomputable def zsL:S:=(.asg 5 (.bin .Mult (.c (.int 2)) (.bin .Mod (.bin .FloorDiv (.v 1) zqY) (.c (.int 2)))))
noncomputable def zsM:S:=(.ifs (.cmp .In (.bin .Add (.bin .Mult (.c (.int 3)) (.v 4)) (.c (.int 2))) (.v 2))
 (.seq (.asg 5 (.bin .Add (.v 5) (.c (.int 1))))
 .skip)
 .skip)
noncomputable def zsN:S:=(.asg 3 (.bin .Add (.bin .Add (.v 3) (.ite (.cmp .In (.bin .Mult (.c (.int 3)) (.v 4)) (.v 2)) (.c (.str [114])) (.c (.str [45])))) (.ite (.cmp .In (.bin .Add (.bin .Mult (.c (.int 3)) (.v 4)) (.c (.int 1))) (.v 2)) (.c (.str [119])) (.c (.str [45])))))
noncomputable def zsO:S:=(.asg 3 (.bin .Add (.v 3) (.idx zqZ (.v 5))))
noncomputable def zhY:S:=(.seq zsL (.seq zsM (.seq zsN (.seq zsO .skip))))
theorem zmr(Φ:PA){c:Nat}(hc:c<3){x0 x1 x2 x3:V}{U:Vs}{h:H}:eE Φ (x0::x1::x2::x3::.int (c:Nat)::U) zqY h=some (.int (rdv c:Nat),h):=by
 match c,hc with
 |0,_=>rfl
 |1,_=>rfl
 |2,_=>rfl
theorem zms(Φ:PA){c:Nat}(hc:c<3){x0 x1 x2 x3:V}{U:Vs}{h:H}:eE Φ (x0::x1::x2::x3::.int (c:Nat)::U) zqZ h=some (.str (rch c),h):=by
 match c,hc with
 |0,_=>rfl
 |1,_=>rfl
 |2,_=>rfl
theorem rch_at(c:Nat){j:Nat}(hj:j<4):(rch c)[j]?=some ((rch c).getD j 0)/\(rch c).length<=zad:=by
 have hl:(rch c).length=4:=by unfold rch;split<;>rfl
 refine ia ?_ (by rw[hl];decide);rw[List.getD_eq_getElem?_getD,List.getElem?_eq_getElem (by lia)];rfl
theorem zd1(Φ:PA){c a:Nat}{hs:List Int}(hc:c<3){x0 x5:V}{row:List Nat}{U:Vs}{h:H}(hz:row.length<=100):
  eF Φ zhY (x0::.int (a:Nat)::.lA (hs.map .int)::.str row::.int (c:Nat)::x5::U,h)=some (.next,x0::.int (a:Nat)::.lA (hs.map .int)::.str (row++zqX a hs c)::.int (c:Nat)::.int ((2*(a/rdv c%2)+b01 (hs.contains ((3*c+2:Nat):Int)):Nat):Int)::U,h):=by
 have hrd:rdv c≠0/\rdv c<=1000000:=by
  unfold rdv;split
  ·exact⟨by decide,by decide⟩
  ·split<;>exact⟨by decide,by decide⟩
 have hz1:100+100<=zad:=by decide
 have hrow:zqX a hs c=[if hs.contains ((3*c:Nat):Int)=true then 114 else 45,if hs.contains ((3*c+1:Nat):Int)=true then 119 else 45,(rch c).getD (2*(a/rdv c%2)+b01 (hs.contains ((3*c+2:Nat):Int))) 0]:=rfl
 refine rwl hrow ?_
 have q4:((3*c:Nat):Int)+1=((3*c+1:Nat):Int):=by exact rfl
 have q5:((3*c:Nat):Int)+2=((3*c+2:Nat):Int):=by exact rfl
 have bm:zaU .Mult h (.int 3) (.int (c:Int))=some (.int ((3*c:Nat):Int)):=by rw[zlC h (by decide) (by lia),(by exact rfl:(3:Int)*(c:Int)=((3*c:Nat):Int))]
 have bd:=b_div h (x:=a) hrd
 have bo:=zrm h (x:=a/rdv c) (y:=2) (by decide)
 have be:zaU .Mult h (.int 2) (.int ((a/rdv c%2:Nat):Int))=some (.int ((2*(a/rdv c%2):Nat):Int)):=by rw[zlC h (by decide) (by lia)];rfl
 have hdv:=λx0 x1 x2 x3 U=>zmr Φ hc (x0:=x0) (x1:=x1) (x2:=x2) (x3:=x3) (U:=U) (h:=h)
 have htb:=λx0 x1 x2 x3 U=>zms Φ hc (x0:=x0) (x1:=x1) (x2:=x2) (x3:=x3) (U:=U) (h:=h)
 have hq:a/rdv c%2<2:=Nat.mod_lt _ (by decide)
 generalize 3*c+1=c1 at*
 generalize 3*c+2=c2 at*
 generalize 3*c=c0 at*
 generalize a/rdv c%2=q at*
 have e1:eF Φ zsL (x0::.int (a:Nat)::.lA (hs.map .int)::.str row::.int (c:Nat)::x5::U,h)=some (.next,x0::.int (a:Nat)::.lA (hs.map .int)::.str row::.int (c:Nat)::.int (2*q:Nat)::U,h):=by have bo':zaU .Mod h (.int ((a/rdv c:Nat):Int)) (.int 2)=some (.int (q:Nat)):=bo;simp only[zsL,zaw,zbL,zaF,zaz,GA,GB,OA,OB,OC,SA,SB,hdv,bd,bo',be]
 have e2:eF Φ zsM (x0::.int (a:Nat)::.lA (hs.map .int)::.str row::.int (c:Nat)::.int (2*q:Nat)::U,h)=some (.next,x0::.int (a:Nat)::.lA (hs.map .int)::.str row::.int (c:Nat)::.int (2*q+b01 (hs.contains (c2:Int)):Nat)::U,h):=by
  have t:eE Φ (x0::.int (a:Nat)::.lA (hs.map .int)::.str row::.int (c:Nat)::.int (2*q:Nat)::U) (.cmp .In (.bin .Add (.bin .Mult (.c (.int 3)) (.v 4)) (.c (.int 2))) (.v 2)) h=some (.bool (hs.contains (c2:Int)),h):=by simp only[zbL,zaF,zaz,zaI,GA,GB,OA,OB,OC,bm,zc2,q5,c_in]
  rw[zsM];refine rwl (zky _ t (zaL _ _)) ?_;cases hs.contains (c2:Int) with
  |true=>
   have q6:((2*q:Nat):Int)+1=((2*q+1:Nat):Int):=by exact rfl
   exact rfl
  |false=>rfl
 obtain⟨ra,rz⟩:=rch_at c ((λb=>by cases b<;>simp only[b01,if_true,Bool.false_eq_true,if_false]<;>lia:∀b:Bool,2*q+b01 b<4) (hs.contains (c2:Int)))
 generalize hx:2*q+b01 (hs.contains (c2:Int))=last at*
 have e3:eF Φ zsN (x0::.int (a:Nat)::.lA (hs.map .int)::.str row::.int (c:Nat)::.int (last:Nat)::U,h)=some (.next,x0::.int (a:Nat)::.lA (hs.map .int)::.str (row++[if hs.contains (c0:Int)=true then 114 else 45]++[if hs.contains (c1:Int)=true then 119 else 45])::.int (c:Nat)::.int (last:Nat)::U,h):=by cases k0:hs.contains (c0:Int)<;>cases k1:hs.contains (c1:Int)<;>simp only[zsN,if_true,Bool.false_eq_true,if_false,zaw,zbL,zaF,zaz,zc8,zaI,GA,GB,OA,OB,OC,SA,SB,(λx=>zfD h (by simp only[List.length_cons,List.length_nil];exact lnB 0 100 200 0 1 0 hz hz1 rfl):∀x:Nat,zaU .Add h (.str row) (.str [x])=some (.str (row++[x]))),(λx y=>zfD h (by simp only[List.length_append,List.length_cons,List.length_nil];exact lnB 0 100 200 0 2 0 hz hz1 rfl):∀x y:Nat,zaU .Add h (.str (row++[x])) (.str [y])=some (.str (row++[x]++[y]))),bm,c_in,zaL,zc2,q4,k0,k1]
 have e4:∀r:List Nat,r.length<=150->eF Φ zsO (x0::.int (a:Nat)::.lA (hs.map .int)::.str r::.int (c:Nat)::.int (last:Nat)::U,h)=some (.next,x0::.int (a:Nat)::.lA (hs.map .int)::.str (r++[(rch c).getD last 0])::.int (c:Nat)::.int (last:Nat)::U,h):=λr hr=>by simp only[zsO,zaw,zaF,zaz,zar,GA,GB,OA,OB,OC,SA,SB,htb,(znK h (rfl:((last:Nat):Int)=_) ra rz),(λx=>zfD h (by simp only[List.length_cons,List.length_nil];exact lnB 0 150 200 0 1 0 hr hz1 rfl):∀x:Nat,zaU .Add h (.str r) (.str [x])=some (.str (r++[x])))]
 rw[zhY,zao,e1]
 dsimp only
 rw[zao,e2]
 dsimp only
 rw[zao,e3]
 dsimp only
 rw[zao,e4 _ (by simp only[List.length_append,List.length_cons,List.length_nil];exact lnA 0 100 2 150 hz rfl)]
 dsimp only
 rw[x_skip]
 simp only[List.append_assoc,List.cons_append,List.nil_append]
theorem zlh(a:Nat)(hs:List Int)(c:Nat):(zqX a hs c).length=3:=rfl
theorem zoz(m:Nat){k a:Nat}{hs:List Int}{h:H}(w:WF h)(hk:k<16):zac (m+1) 11 [.int (k:Nat),.int (a:Nat),.lA (hs.map .int)] h=some (.str (zjl k a hs),h):=by
 have hk':zj0[k]?=some (zj0.getD k 0):=by have hl:zj0.length=16:=rfl;refine rwl List.getD_eq_getElem?_getD ?_;refine rwl (List.getElem?_eq_getElem (by lia)) ?_;rfl
 refine zbt k_row (fl:=.ret (.str (zjl k a hs))) w ?_ rfl rfl ⟨rfl,rfl⟩;show zcd (eF (zac m) (.seq (.asg 3 (.idx (.c (.str zj0)) (.v 0))) (.seq (.fors [4] (.rg (.cons (.c (.int 3)) .nil)) zhY .skip) (.seq (.ret (.v 3)) .skip))) (.int (k:Nat)::.int (a:Nat)::.lA (hs.map .int)::.uA::.uA::.uA::R6,h))=_;have e1:eF (zac m) (.asg 3 (.idx (.c (.str zj0)) (.v 0))) (.int (k:Nat)::.int (a:Nat)::.lA (hs.map .int)::.uA::.uA::.uA::R6,h)=some (.next,.int (k:Nat)::.int (a:Nat)::.lA (hs.map .int)::.str [zj0.getD k 0]::.uA::.uA::R6,h):=by nomatch (znK h (rfl:((k:Nat):Int)=_) hk' (by decide))
 rw[zao];refine rwl e1 ?_;dsimp only;have lp:zbZ (eF (zac m) zhY) [4] [.int (0:Nat),.int (1:Nat),.int (2:Nat)] (.int (k:Nat)::.int (a:Nat)::.lA (hs.map .int)::.str [zj0.getD k 0]::.uA::.uA::R6,h)=some (none,.int (k:Nat)::.int (a:Nat)::.lA (hs.map .int)::.str (zjl k a hs)::.int (2:Nat)::.int ((2*(a/rdv 2%2)+b01 (hs.contains ((3*2+2:Nat):Int)):Nat):Int)::R6,h):=by refine (zf3 rfl (zd1 (zac m) (c:=0) (by decide) (by simp))).trans ?_;refine (zf3 rfl (zd1 (zac m) (c:=1) (by decide) (by simp[zlh]))).trans ?_;exact zf3 rfl (zd1 (zac m) (c:=2) (by decide) (by simp[zlh]))
 rw[zao];refine rwl (zgq _ rfl (show zak [4] (.rng 0 3 1)=some [.int (0:Nat),.int (1:Nat),.int (2:Nat)] from rfl)) ?_;refine rwl lp ?_;nomatch zcd
noncomputable def zbQ(r p:Nat):Bool:=Nat.beq (r/2 ^ (8-p)%2) 1
noncomputable def hbN(r:Nat):List Nat:=(List.range 9).filter (zbQ r)
noncomputable def hb(r:Nat):List Int:=(hbN r).map λ(p:Nat)=>(p:Int)
theorem znF(r:Nat){p:Nat}(hp:p<9):(hb r).contains ((p:Nat):Int)=zbQ r p:=by
 rw[Bool.eq_iff_iff,List.contains_iff_mem];unfold hb hbN;simp only[List.mem_map,List.mem_filter,List.mem_range];constructor
 ·rintro⟨q,⟨_,h⟩,e⟩;have:q=p:=by lia
  exact rwr this h
 ·intro h;exact iea p ⟨hp,h⟩ rfl
noncomputable def zct(y:Nat):List (Nat×Nat)->Nat
 |[]=>45
 |q::r=>cond (Nat.beq (y&&& q.1) q.1) q.2 (zct y r)
theorem fn_0:zct y []=45:=rfl
theorem fn_s:zct y (q::r)=cond (Nat.beq (y&&& q.1) q.1) q.2 (zct y r):=rfl
noncomputable def zql:List (List (Nat×Nat)):=[[(256,114)],[(128,119)],[(2112,115),(2048,83),(64,120)],[(32,114)],[(16,119)],[(1032,115),(1024,83),(8,120)],[(4,114)],[(2,119)],[(513,116),(512,84),(1,120)]]
noncomputable def zgT(y:Nat):List Nat:=zql.map (zct y)
noncomputable def zes(a r c:Nat):List Nat:=[cond (zbQ r (3*c)) 114 45,cond (zbQ r (3*c+1)) 119 45,(rch c).getD (2*(a/rdv c%2)+b01 (zbQ r (3*c+2))) 0]
theorem zk8(y M:Nat):y&&& M=M↔∀k,M.testBit k=true->y.testBit k=true:=by
 constructor
 ·intro h k hk;have:=congrArg (Nat.testBit · k) h;rw[Nat.testBit_and,hk,Bool.and_true]at this;exact this
 ·intro h;refine Nat.eq_of_testBit_eq λk=>?_;rw[Nat.testBit_and];cases q:M.testBit k with
  |true=>rw[h k q];rfl
  |false=>exact Bool.and_false _
theorem tb(y i:Nat):y.testBit i=Nat.beq (y/2 ^ i%2) 1:=by refine rwl Nat.testBit_eq_decide_div_mod_eq ?_;rw[Bool.eq_iff_iff,decide_eq_true_eq,Nat.beq_eq]
theorem zfv(y i:Nat):Nat.beq (y&&& 2 ^ i) (2 ^ i)=y.testBit i:=by
 rw[Bool.eq_iff_iff,Nat.beq_eq,zk8];constructor
 ·intro h;exact h i (by rw[Nat.testBit_two_pow];exact decide_eq_true rfl)
 ·intro h k hk;rw[Nat.testBit_two_pow,decide_eq_true_eq]at hk;exact rwr hk h
theorem zp1(y i j:Nat):Nat.beq (y&&& (2 ^ i||| 2 ^ j)) (2 ^ i||| 2 ^ j)=(y.testBit i&&y.testBit j):=by
 rw[Bool.eq_iff_iff,Nat.beq_eq,zk8,Bool.and_eq_true];constructor
 ·intro h;exact⟨h i (by rw[Nat.testBit_or,Nat.testBit_two_pow,decide_eq_true rfl];rfl),h j (by rw[Nat.testBit_or,Nat.testBit_two_pow,Nat.testBit_two_pow,decide_eq_true (rfl:j=j)];exact Bool.or_true _)⟩
 ·intro h k hk;rw[Nat.testBit_or,Nat.testBit_two_pow,Nat.testBit_two_pow,Bool.or_eq_true,decide_eq_true_eq,decide_eq_true_eq]at hk;rcases hk with hk|hk
  ·exact rwr hk h.1
  ·exact rwr hk h.2
theorem zoY(y a r c:Nat){m1 m2 m3 m4 m5 s1 s2:Nat}{i1 i2 i3 i4:Nat}(e1:m1=2 ^ i1)(e2:m2=2 ^ i2)(e3:m3=2 ^ i4||| 2 ^ i3)(e4:m4=2 ^ i4)(e5:m5=2 ^ i3)
  (b1:y.testBit i1=zbQ r (3*c)) (b2:y.testBit i2=zbQ r (3*c+1)) (b3:y.testBit i3=zbQ r (3*c+2)) (b4:y.testBit i4=Nat.beq (a/rdv c%2) 1) (hr:rch c=[45,120,s2,s1]):
  [zct y [(m1,114)],zct y [(m2,119)],zct y [(m3,s1),(m4,s2),(m5,120)]]=zes a r c:=by
 unfold zes
 simp only[fn_s,fn_0]
 refine rwl e1 ?_;refine rwl e2 ?_;refine rwl e3 ?_;refine rwl e4 ?_;refine rwl e5 ?_;rw[zfv,zfv,zp1,zfv,zfv];refine rwl b1 ?_;refine rwl b2 ?_;refine rwl b3 ?_;refine rwl b4 ?_;refine rwl hr ?_
 have q:=Nat.mod_two_eq_zero_or_one (a/rdv c)
 rcases q with q|q<;>rw[q]<;>cases zbQ r (3*c+2)<;>rfl
theorem zcL{a r i:Nat}(hr:r<512)(hi:i<9):(a*512+r).testBit i=Nat.beq (r/2 ^ i%2) 1:=by rw[Nat.mul_comm,<-tb];exact(Nat.testBit_two_pow_mul_add (i:=9) a hr i).trans (if_pos hi)
theorem zht{a r i:Nat}(hr:r<512):(a*512+r).testBit (i+9)=Nat.beq (a/2 ^ i%2) 1:=by rw[Nat.mul_comm,<-tb];refine (Nat.testBit_two_pow_mul_add (i:=9) a hr (i+9)).trans ((if_neg (Nat.not_lt_of_le (Nat.le_add_left 9 i))).trans ?_);rw[Nat.add_sub_cancel]
theorem zcu{a r:Nat}(ha:a<8)(hr:r<512):zgT (a*512+r)=zes a r 0++(zes a r 1++zes a r 2):=by have t0:=zoY (a*512+r) a r 0 (m1:=256) (m2:=128) (m3:=2112) (m4:=2048) (m5:=64) (s1:=115) (s2:=83) (i1:=8) (i2:=7) (i3:=6) (i4:=11) rfl rfl rfl rfl rfl (zcL hr (by decide)) (zcL hr (by decide)) (zcL hr (by decide)) (zht (i:=2) hr) rfl;have t1:=zoY (a*512+r) a r 1 (m1:=32) (m2:=16) (m3:=1032) (m4:=1024) (m5:=8) (s1:=115) (s2:=83) (i1:=5) (i2:=4) (i3:=3) (i4:=10) rfl rfl rfl rfl rfl (zcL hr (by decide)) (zcL hr (by decide)) (zcL hr (by decide)) (zht (i:=1) hr) rfl;have t2:=zoY (a*512+r) a r 2 (m1:=4) (m2:=2) (m3:=513) (m4:=512) (m5:=1) (s1:=116) (s2:=84) (i1:=2) (i2:=1) (i3:=0) (i4:=9) rfl rfl rfl rfl rfl (zcL hr (by decide)) (zcL hr (by decide)) (zcL hr (by decide)) (zht (i:=0) hr) rfl;refine rwr t0 ?_;refine rwr t1 ?_;refine rwr t2 ?_;rfl
theorem zkc(a r:Nat){c:Nat}(hc:c<3):zqX a (hb r) c=zes a r c:=by unfold zqX zes;refine rwl (znF r (by lia)) ?_;refine rwl (znF r (by lia)) ?_;refine rwl (znF r (by lia)) ?_;cases zbQ r (3*c)<;>cases zbQ r (3*c+1)<;>rfl
noncomputable def zjw(t:List (Nat×Nat)):List (Int×Nat):=t.map λq=>((q.1:Int),q.2)
theorem zhm(M:Nat){k:Int}(hk:(k==0)=false):∀t:List (Nat×Nat),fmC (M:Int) k (zjw t)=zct M t:=by
 intro l9;induction l9 with
 |nil=>unfold fmC;simp only[zjw,List.map_nil,fm_s,Option.getD_none,hk];rfl
 |cons q r zhm=>
  have hp:fmP (M:Int) k ((q.1:Nat):Int)=Nat.beq (M&&& q.1) q.1:=by unfold fmP;refine rwl hk ?_;rw[zbY,Bool.eq_iff_iff];refine rwl Nat.beq_eq ?_;lia
  unfold fmC at zhm ⊢;have hct:zjw (q::r)=((q.1:Int),q.2)::zjw r:=rfl;refine rwl hct ?_;rw[fm_s];simp only[hp,fn_s];cases Nat.beq (M&&& q.1) q.1 with
  |true=>simp
  |false=>simp only[Bool.false_eq_true,if_false,cond_false];exact zhm
theorem znn:zfS=(0,zjw [(40960,108),(49152,115),(32768,45),(24576,98),(16384,100),(8192,99),(4096,112)])::(([1,2,3,4,5,6,7,8,9]:List Int).zip (zql.map zjw)):=rfl
theorem zeL{M y:Nat}(h:M&&& 4095=y):∀t:List (Nat×Nat),(∀q∈t,4095&&& q.1=q.1)->zct M t=zct y t:=by
 intro l9;induction l9 with
 |nil=>intro _;exact rfl
 |cons q r zeL=>
  intro hq;have e:M&&& q.1=y&&& q.1:=by refine rwr h ?_;rw[Nat.and_assoc,hq q (.head _)]
  simp only[fn_s,e,zeL λp hp=>hq p (.tail _ hp)]
theorem zqm:∀t∈zql,∀q∈t,4095&&& q.1=q.1:=by decide
theorem zno(M:Nat):∀(is:List Int) (ts:List (List (Nat×Nat))),(∀i∈is,(i==0)=false)->is.length=ts.length->(is.zip (ts.map zjw)).map (λp=>fmC (M:Int) p.1 p.2)=ts.map (zct M):=by
 intro l9;induction l9 with
 |nil=>
  intro l8;induction l8 using List.casesOn with
  |nil=>intro _ _;exact rfl
  |cons _ _=>intro _ hl;simp at hl
 |cons i is zno=>
  intro l8;induction l8 using List.casesOn with
  |cons t ts=>intro hi hl;simp only[List.map_cons,List.zip_cons_cons];refine rwl (zhm M (hi i (.head _)) t) ?_;exact rwl (zno ts (λj hj=>hi j (.tail _ hj)) (by simpa using hl)) rfl
  |nil=>intro _ hl;simp at hl
theorem znp(M:Nat){k y:Nat}(hk:k∈zbd)(h1:M&&& 61440=k*4096)(h2:M&&& 4095=y):zaC (M:Int)=zj0.getD k 0::zgT y:=by
 unfold zaC;refine rwl znn ?_;refine rwl List.map_cons ?_;refine rwl (zno M _ _ (by decide) rfl) ?_;have e1:zql.map (zct M)=zgT y:=by exact List.map_congr_left λt ht=>zeL h2 t (zqm t ht)
 congr 1;unfold fmC;have hp:fmP (M:Int) 0=λb=>((k*4096:Nat):Int)==b:=by unfold fmP;refine rwl (show (61440:Int)=((61440:Nat):Int) from rfl) ?_;rw[zbY];refine rwl h1 ?_;rfl
 refine rwl hp ?_;simp only[zbd,List.mem_cons,List.not_mem_nil,or_false]at hk;rcases hk with rfl|rfl|rfl|rfl|rfl|rfl<;>decide
noncomputable def nm(k a r:Nat):List Nat:=zaC ((md k a r:Nat):Int)
theorem zog{k a r:Nat}(hk:k∈zbd)(ha:a<8)(hr:r<512):nm k a r=zj0.getD k 0::zgT (a*512+r):=znp _ hk (zn9 hk ha hr) (zoa ha hr)
theorem zq0{k a r:Nat}(hk:k∈zbd)(ha:a<8)(hr:r<512):zjl k a (hb r)=nm k a r:=by refine rwl (zog hk ha hr) ?_;unfold zjl;refine rwl (zkc a r (by decide)) ?_;refine rwl (zkc a r (by decide)) ?_;refine rwl (zkc a r (by decide)) ?_;exact rwl (zcu ha hr) rfl
noncomputable def cut(s:Nat)(l:List Int):List Int:=l.take (l.length-s)
noncomputable def hsL:Nat->Nat->List Int->List (List Int)
 |0,_,_=>[]
 |n+1,s,l=>if l.isEmpty=true then [] else cut s l::hsL n s (cut s l)
theorem hs_s:hsL (n+1) s l=if l.isEmpty=true then [] else cut s l::hsL n s (cut s l):=rfl
noncomputable def rsL:Nat->Nat->Nat->List Nat
 |0,_,_=>[]
 |n+1,s,r=>if r=0 then [] else tn s r::rsL n s (tn s r)
theorem rs_s:rsL (n+1) s r=if r=0 then [] else tn s r::rsL n s (tn s r):=rfl
theorem zpA{α:Type}(l:List α){s:Nat}(hs:0<s):zgs l none (some (-(s:Int)))=l.take (l.length-s):=by unfold zgs;dsimp only[Option.elim_none,Option.elim_some,List.drop_zero,Nat.sub_zero];congr 1;unfold PySem.clipAt;refine rwl (if_pos (by lia)) ?_;lia
theorem zkn(k:Nat):0<stp k:=by unfold stp;split<;>(try split)<;>decide
theorem zgF(k:Nat):stp k=1\/stp k=2\/stp k=3:=by unfold stp;split<;>(try split)<;>simp
noncomputable def chGet:E:=(.neg (.get (.dlit [(4,2),(10,3)]) (.v 0) (.c (.int 1))))
noncomputable def chB1:S:=(.asg 3 (.slc (.v 3) (.c .none) chGet))
noncomputable def chB2:S:=(.expr (.append (.v 4) (.call 11 (.cons (.v 0) (.cons (.v 1) (.cons (.v 3) .nil))))))
noncomputable def zkI:S:=(.seq chB1 (.seq chB2 .skip))
theorem zm5(Φ:PA){k:Nat}(hk:k∈zbd){U:Vs}{h:H}:eE Φ (.int (k:Nat)::U) chGet h=some (.int (-((stp k:Nat):Int)),h):=by simp only[zbd,List.mem_cons,List.not_mem_nil,or_false]at hk;rcases hk with rfl|rfl|rfl|rfl|rfl|rfl<;>rfl
theorem zlK(m:Nat){k a i:Nat}(hk:k∈zbd){x2:V}{U:Vs}{l:List Int}{us:List V}{h:H}(w:WF h)(hi:h[i]?=some (.list us))(hz:us.length<=zad)(hl:l.length<=zad):
  eF (zac (m+1)) zkI (.int (k:Nat)::.int (a:Nat)::x2::.lA (l.map .int)::.obj i::U,h)=some (.next,.int (k:Nat)::.int (a:Nat)::x2::.lA ((cut (stp k) l).map .int)::.obj i::U,h.set i (.list (us++[.str (zjl k a (cut (stp k) l))]))):=by
 have g:=zm5 (zac (m+1)) hk (U:=.int (a:Nat)::x2::.lA (l.map .int)::.obj i::U) (h:=h)
 have sl:zeu (.lA (l.map .int)) .none (.int (-((stp k:Nat):Int)))=some (.lA ((cut (stp k) l).map .int)):=by refine rwl (sl_l rfl rfl (by rw[List.length_map];exact hl)) ?_;refine rwl (zpA _ (zkn k)) ?_;rw[List.length_map];exact rwl List.map_take rfl
 have e1:eF (zac (m+1)) chB1 (.int (k:Nat)::.int (a:Nat)::x2::.lA (l.map .int)::.obj i::U,h)=some (.next,.int (k:Nat)::.int (a:Nat)::x2::.lA ((cut (stp k) l).map .int)::.obj i::U,h):=by delta chB1;nomatch g,sl
 have rr:=zoz m (a:=a) (hs:=cut (stp k) l) w (zfr hk)
 have e2:eF (zac (m+1)) chB2 (.int (k:Nat)::.int (a:Nat)::x2::.lA ((cut (stp k) l).map .int)::.obj i::U,h)=some (.next,.int (k:Nat)::.int (a:Nat)::x2::.lA ((cut (stp k) l).map .int)::.obj i::U,h.set i (.list (us++[.str (zjl k a (cut (stp k) l))]))):=by simp only[chB2,za5,zaF,zav,zaA,zap,zag,zaH,zbO,zhQ,zhP,GA,GB,OA,OB,OC,hi,rr];refine rwl (if_pos ⟨rfl,hz⟩) ?_;rfl
 rw[zkI,zao];refine rwl e1 ?_
 dsimp only
 rw[zao];refine rwl e2 ?_
 dsimp only
 rw[x_skip]
theorem zfy{h:H}{i:Nat}{o:Ob}(hi:h[i]?=some o):h.set i o=h:=by rw[List.getElem?_eq_some_iff]at hi;obtain⟨_,e⟩:=hi;refine rwr e ?_;rw[List.set_getElem_self]
theorem zjy(m:Nat){k a i:Nat}(hk:k∈zbd){x2:V}{U:Vs}:∀(n:Nat) (l:List Int) (us:List V) (h:H),WF h->h[i]?=some (.list us)->us.length+n<=zad->l.length<n->
  ∃l':List Int,zdr (zch (zac (m+1)) (.v 3)) (eF (zac (m+1)) zkI) n (.int (k:Nat)::.int (a:Nat)::x2::.lA (l.map .int)::.obj i::U,h)=
   some (.next,.int (k:Nat)::.int (a:Nat)::x2::.lA (l'.map .int)::.obj i::U,h.set i (.list (us++(hsL n (stp k) l).map λx=>.str (zjl k a x)))):=by
 intro l9;induction l9 with
 |zero=>intro l us h _ _ _ hn;lia
 |succ n zjy=>
  intro l us h w hi hz hn;have ht:zch (zac (m+1)) (.v 3) (.int (k:Nat)::.int (a:Nat)::x2::.lA (l.map .int)::.obj i::U,h)=some (!l.isEmpty,h):=by simp only[zch,zaF,GA,GB,OA,OB,OC];refine rwl (t_lst (by rw[List.length_map];exact lnB 1 1 1 0 0 0 hn (lnB 0 0 1 0 1 0 (Nat.le_add_left _ _) hz rfl) rfl)) ?_;refine rwl List.isEmpty_map ?_;rfl
  generalize hl:l.isEmpty=x0;induction x0 using Bool.casesOn with
  |true=>refine⟨l,?_⟩;rw[hl]at ht;refine rwl (wl_0 ht) ?_;simp only[hs_s,hl,if_true,List.map_nil,List.append_nil,zfy hi]
  |false=>
   have hb:=zlK m (a:=a) hk (x2:=x2) (U:=U) (l:=l) w hi (by exact Nat.le_trans (Nat.le_add_right _ _) hz) (by exact lnB 1 1 1 0 0 0 hn (lnB 0 0 1 0 1 0 (Nat.le_add_left _ _) hz rfl) rfl);rw[hl]at ht;have w':=zb6 (i:=i) (vs:=us++[.str (zjl k a (cut (stp k) l))]) w;have hc:(cut (stp k) l).length<n:=by
    have:=zkn k;have:l.length≠0:=λq=>by rw[List.length_eq_zero_iff.mp q]at hl;exact noT (Eq.symm hl)
    refine rwl List.length_take ?_;lia
   obtain⟨l',e⟩:=zjy (cut (stp k) l) _ _ w' (List.getElem?_set_self ((List.getElem?_eq_some_iff.mp hi).1)) (by rw[List.length_append];simp only[List.length_cons,List.length_nil];lia) hc;refine⟨l',?_⟩;refine rwl (wl_n ht hb) ?_;refine rwl e ?_;simp only[hs_s,hl,Bool.false_eq_true,if_false,List.set_set,List.append_assoc,List.map_cons,List.cons_append,List.nil_append]
noncomputable def zhL(s:Nat):Bool:=(List.range 512).all λr=>(hbN r).isEmpty==(r==0)&&((hbN r).take ((hbN r).length-s)==hbN (tn s r)&&(rsL 9 s r==rsL 200 s r&&(hbN r).length<=9))
theorem zp4:(zhL 1&&(zhL 2&&zhL 3))=true:=by decide+kernel
theorem zdk{s r:Nat}(h3:s=1\/s=2\/s=3)(hr:r<512):(hb r).isEmpty=(r==0)/\cut s (hb r)=hb (tn s r)/\rsL 9 s r=rsL 200 s r/\(hb r).length<=9:=by
 have h:zhL s=true:=by
  have:=zp4;simp only[Bool.and_eq_true]at this;rcases h3 with rfl|rfl|rfl
  ·exact this.1
  ·exact this.2.1
  ·exact this.2.2
 have h:=List.all_eq_true.mp h r (List.mem_range.mpr hr);simp only[Bool.and_eq_true,beq_iff_eq,decide_eq_true_eq]at h;unfold hb cut;refine rwl List.isEmpty_map ?_;rw[List.length_map];refine rwr List.map_take ?_;exact iaaa h.1 (by rw[h.2.1]) h.2.2.1 h.2.2.2
theorem znJ{s:Nat}(h3:s=1\/s=2\/s=3):∀(n:Nat) {r:Nat},r<512->hsL n s (hb r)=(rsL n s r).map hb:=by
 intro l9;induction l9 with
 |zero=>intro _ _;exact rfl
 |succ n znJ=>
  intro r hr;refine xaa (zdk h3 hr) λa b _=>?_;rw[hs_s,rs_s];refine rwl a ?_;refine rwl b ?_;refine rwl (znJ (zkr s hr)) ?_;by_cases q:r=0
  ·refine rwl (if_pos (by simpa using q)) ?_;refine rwl (if_pos q) ?_;rfl
  ·refine rwl (if_neg (by simpa using q)) ?_;refine rwl (if_neg q) ?_;rfl
theorem zli{s:Nat}:∀(n:Nat) {r:Nat},r<512->∀x∈rsL n s r,x<512:=by
 intro l9;induction l9 with
 |zero=>intro _ _ x hx;exact nomatch hx
 |succ n zli=>
  intro r hr x hx;rw[rs_s]at hx;split at hx
  ·cases hx
  ·rcases List.mem_cons.mp hx with rfl|hx
   ·exact zkr s hr
   ·exact zli (zkr s hr) x hx
noncomputable def zdK(k a r:Nat):List (List Nat):=nm k a r::(rsL 9 (stp k) r).map (nm k a)
theorem zm6(m:Nat){k a r:Nat}{h:H}(w:WF h)(hk:k∈zbd)(ha:a<8)(hr:r<512):
  zac (m+2) 12 [.int (k:Nat),.int (a:Nat),.int (r:Nat)] h=some (.lA ((zdK k a r).map .str),h):=by
 have hcomp:eE (zac (m+1)) (.int (k:Nat)::.int (a:Nat)::.int (r:Nat)::.uA::.uA::R6) (.comp [5] (.rg (.cons (.c (.int 9)) .nil)) (.cmp .Eq (.bin .Mod (.bin .FloorDiv (.v 2) (.bin .Pow (.c (.int 2)) (.bin .Sub (.c (.int 8)) (.v 5)))) (.c (.int 2))) (.c (.int 1))) (.v 5)) h=some (.lA ((hb r).map .int),h):=by
  have hz:zak [5] (.rng 0 9 1)=some ((List.range 9).map λp=>.int (p:Nat)):=rfl;have e:=zfM (zac (m+1)) (tA:=[5]) (it:=.rg (.cons (.c (.int 9)) .nil)) (cond:=.cmp .Eq (.bin .Mod (.bin .FloorDiv (.v 2) (.bin .Pow (.c (.int 2)) (.bin .Sub (.c (.int 8)) (.v 5)))) (.c (.int 2))) (.c (.int 1))) (elt:=.v 5)
   (vs:=.int (k:Nat)::.int (a:Nat)::.int (r:Nat)::.uA::.uA::R6) (h:=h) (v:=.rng 0 9 1) (xs:=List.range 9) (λp=>.int (p:Nat)) (λp=>if zbQ r p=true then some (.int (p:Nat)) else none) rfl hz λp hp=>by
    have hp9:=List.mem_range.mp hp;have q8:(8:Int)-(p:Int)=((8-p:Nat):Int):=by lia
    have pw:zaU .Pow h (.int 2) (.int ((8-p:Nat):Int))=some (.int ((2 ^ (8-p):Nat):Int)):=by rw[b_pow _ (by lia) (by lia),Int.toNat_natCast];simp only[Int.natCast_pow];rfl
    have hp2:2 ^ (8-p)≠0/\2 ^ (8-p)<=1000000:=by have:2 ^ (8-p)<=2 ^ 8:=Nat.pow_le_pow_right (by decide) (by lia);have:0<2 ^ (8-p):=Nat.pow_pos (by decide);lia
    have d1:=b_div h (x:=r) hp2;have m1:zaU .Mod h (.int ((r/2 ^ (8-p):Nat):Int)) (.int 2)=some (.int ((r/2 ^ (8-p)%2:Nat):Int)):=zrm h (by decide);have hbit:(((r/2 ^ (8-p)%2:Nat):Int)==1)=zbQ r p:=by unfold zbQ;rw[Bool.eq_iff_iff,Nat.beq_eq,beq_iff_eq];lia
    refine⟨.int (k:Nat)::.int (a:Nat)::.int (r:Nat)::.uA::.uA::.int (p:Nat)::List.replicate 5 .uA,.bool (zbQ r p),zbQ r p,rfl,?_,rfl,?_,?_⟩
    ·simp only[zbL,zaF,zaz,zaI,GA,GB,OA,OB,OC,zha,q8,pw,d1,m1,zmI,hbit]
    ·intro q;exact⟨.int (p:Nat),rfl,rfl,by rw[if_pos q]⟩
    ·intro q;rw[if_neg (by rw[q];decide)]
  rw[e];have hf:∀l:List Nat,(l.filterMap λp=>if zbQ r p=true then some (V.int (p:Nat)) else none)=((l.filter (zbQ r)).map λ(p:Nat)=>(p:Int)).map V.int:=by
   intro l;induction l with
   |nil=>rfl
   |cons x t ih=>
    generalize q:zbQ r x=x0;induction x0 using Bool.casesOn with
    |true=>rw[List.filterMap_cons_some (b:=V.int (x:Nat)) (by rw[if_pos q]),List.filter_cons_of_pos q,ih];rfl
    |false=>rw[List.filterMap_cons_none (by rw[if_neg (by rw[q];decide)]),List.filter_cons_of_neg (by rw[q];decide),ih]
  rw[hf];rfl
 have h3:=zgF k
 refine zig (zdk h3 hr) λ_ _ h9 hlen=>?_
 have w1:WF (h++[.list [.str (zjl k a (hb r))]]):=zd3 w rfl
 obtain⟨l',lp⟩:=zjy m (a:=a) (i:=h.length) hk (x2:=.int (r:Nat)) (U:=R6) zaq (hb r) [.str (zjl k a (hb r))] _ w1 (by simp) (by show 1+200<=100000;decide) (by show _<200;exact lnA 0 9 1 200 hlen rfl)
 have rr:=zoz m (a:=a) (hs:=hb r) w (zfr hk)
 have hfin:[V.str (zjl k a (hb r))]++(hsL zaq (stp k) (hb r)).map (λx=>V.str (zjl k a x))=(zdK k a r).map .str:=by rw[znJ h3 _ hr,show rsL zaq (stp k) r=rsL 9 (stp k) r from h9.symm,zq0 hk ha hr,List.map_map];unfold zdK;rw[List.map_cons,List.map_map,List.cons_append,List.nil_append];congr 1;refine List.map_congr_left λx hx=>?_;show V.str (zjl k a (hb x))=V.str (nm k a x);rw[zq0 hk ha (zli _ hr x hx)]
 rw[hfin]at lp
 refine zbf zr4 (fl:=.ret (.lA ((zdK k a r).map .str))) (h':=h++[.gone]) ?_ (by simp) rfl w rfl ⟨rfl,rfl⟩
 show zcd (eF (zac (m+1)) (.seq (.asg 3 (.comp [5] (.rg (.cons (.c (.int 9)) .nil)) (.cmp .Eq (.bin .Mod (.bin .FloorDiv (.v 2) (.bin .Pow (.c (.int 2)) (.bin .Sub (.c (.int 8)) (.v 5)))) (.c (.int 2))) (.c (.int 1))) (.v 5)))
 (.seq (.asgM 4 (.lA (.cons (.call 11 (.cons (.v 0) (.cons (.v 1) (.cons (.v 3) .nil)))) .nil)))
 (.seq (.whiles (.v 3) zkI) (.seq (.frz [4] (.ret (.v 4))) .skip)))) (.int (k:Nat)::.int (a:Nat)::.int (r:Nat)::.uA::.uA::R6,h))=_
 have e1:eF (zac (m+1)) (.asg 3 (.comp [5] (.rg (.cons (.c (.int 9)) .nil)) (.cmp .Eq (.bin .Mod (.bin .FloorDiv (.v 2) (.bin .Pow (.c (.int 2)) (.bin .Sub (.c (.int 8)) (.v 5)))) (.c (.int 2))) (.c (.int 1))) (.v 5))) (.int (k:Nat)::.int (a:Nat)::.int (r:Nat)::.uA::.uA::R6,h)=
   some (.next,.int (k:Nat)::.int (a:Nat)::.int (r:Nat)::.lA ((hb r).map .int)::.uA::R6,h):=by
  rw[zaw,hcomp];rfl
 have e2:eF (zac (m+1)) (.asgM 4 (.lA (.cons (.call 11 (.cons (.v 0) (.cons (.v 1) (.cons (.v 3) .nil)))) .nil))) (.int (k:Nat)::.int (a:Nat)::.int (r:Nat)::.lA ((hb r).map .int)::.uA::R6,h)=
   some (.next,.int (k:Nat)::.int (a:Nat)::.int (r:Nat)::.lA ((hb r).map .int)::.obj h.length::R6,h++[.list [.str (zjl k a (hb r))]]):=by
  simp only[zb5,zaF,zav,zcU,zap,zag,zaH,GA,GB,OA,OB,OC,SA,SB,rr,List.all_cons,List.all_nil,flat.eq_def,Bool.and_self,if_true,zjd.eq_def]
 rw[zao,e1]
 dsimp only
 rw[zao,e2]
 dsimp only
 rw[zao,zs3,lp]
 dsimp only
 have hset:(h++[Ob.list [.str (zjl k a (hb r))]]).set h.length (.list ((zdK k a r).map .str))=h++[.list ((zdK k a r).map .str)]:=by rw[List.set_append_right _ _ (Nat.le_refl _)];simp
 rw[hset]
 have hg:(h++[Ob.list ((zdK k a r).map V.str)])[h.length]?=some (.list ((zdK k a r).map .str)):=by simp
 have hset2:(h++[Ob.list ((zdK k a r).map V.str)]).set h.length .gone=h++[.gone]:=by rw[List.set_append_right _ _ (Nat.le_refl _)];simp
 simp only[zaJ,za2,zcW,zaF,GA,GB,OA,OB,OC,SA,SB,zrI,zrH,zdO,zbO,frzOf,Option.map_some,hg,hset2,zcd,Option.map_some]
theorem zbh(h:H){vs:List V}{j:Nat}{v:V}{k:Int}(hk:k=(j:Int))(hj:vs[j]?=some v)(hz:vs.length<=zad):zb9 h (.lA vs) (.int k)=some v:=hk▸zoi hj hz
theorem zrY(h:H){vs:List V}{j:Nat}{v:V}{k:Int}(hk:k=(j:Int))(hj:vs[j]?=some v)(hz:vs.length<=zad):zb9 h (.tup vs) (.int k)=some v:=hk▸zoi hj hz
theorem zeP{h:H}{o:Nat}{vs:List V}{j:Nat}{v:V}{k:Int}(ho:h[o]?=some (.list vs))(hk:k=(j:Int))(hj:vs[j]?=some v)(hz:vs.length<=zad):zb9 h (.obj o) (.int k)=some v:=hk▸i_obj ho hj hz
theorem zh1{h:H}{o:Nat}{vs:List V}{j:Nat}{x:V}{k:Int}(ho:h[o]?=some (.list vs))(hk:k=(j:Int))(hj:j<vs.length)(hz:vs.length<=zad)(hx:flat x=true):setItem h (.obj o) (.int k) x=some (h.set o (.list (vs.set j x))):=hk▸s_obj ho hj hz hx
theorem rl_nat(a b:Nat):zbs (a:Nat) (b:Nat) 1=(List.range (b-a)).map λi=>.int ((a+i:Nat):Int):=by
 unfold zbs;have:(Builtin.Range.rangeSize (a:Int) (b:Int) 1).toNat=b-a:=by rw[rangeSize_one];split<;>lia
 refine rwl this ?_;refine List.map_congr_left λi _=>?_;rw[Int.mul_one];rfl
theorem zgV(tA:Nat){a b:Nat}(ha:a<=1000)(hb:b<=1000):zak [tA] (.rng (a:Nat) (b:Nat) 1)=some ((List.range (b-a)).map λi=>.int ((a+i:Nat):Int)):=by
 have h1:Builtin.Range.small (a:Int) (b:Int) 1=true/\0<=Builtin.Range.rangeSize (a:Int) (b:Int) 1:=by refine⟨small_one (by lia) (by lia) (by lia) (by lia),?_⟩;rw[rangeSize_one];split<;>lia
 have h2:zaN (.rng (a:Nat) (b:Nat) 1)=some ((List.range (b-a)).map λi=>.int ((a+i:Nat):Int)):=by dsimp only[zaN];refine rwl (if_pos h1) ?_;rw[rl_nat]
 unfold zak;refine rwl h2 ?_;rw[Option.bind_some,if_pos ⟨by rw[List.length_map,List.length_range];exact Nat.le_trans (Nat.sub_le _ _) (Nat.le_trans hb (by decide:1000<=zad)),.inl rfl⟩]
theorem zaK(tA:Nat){n:Nat}(hn:n<=1000):zak [tA] (.rng 0 (n:Nat) 1)=some ((List.range n).map λi=>.int (i:Nat)):=by have:=zgV tA (a:=0) (b:=n) (by exact Nat.zero_le _) hn;simp only[Nat.zero_add]at this;exact this
noncomputable abbrev F4:=Nat×Nat×Nat×Nat
def F4.ok(f:F4):Prop:=f.1∈zbd/\f.2.1<8/\f.2.2.1<512/\f.2.2.2<3
noncomputable def zkS(f:F4):V:=.tup [.int (f.1:Nat),.int (f.2.1:Nat),.int (f.2.2.1:Nat),.int (f.2.2.2:Nat)]
noncomputable def zpB(v:Int):F4:=(zbd.getD (v.fmod 6).toNat 0,((v.fdiv 6).fmod 8).toNat,((v.fdiv 48).fmod 512).toNat,((v.fdiv 24576).fmod 3).toNat)
theorem zfc(v:Int){n:Nat}(hn:0<n):v.fmod (n:Int)=((v.fmod (n:Int)).toNat:Int)/\(v.fmod (n:Int)).toNat<n:=by have h1:=Int.fmod_nonneg_of_pos v (b:=(n:Int)) (by omega);have h2:=Int.fmod_lt_of_pos v (b:=(n:Int)) (by omega);omega
theorem zrC(v:Int):(zpB v).ok:=by
 refine xa (zfc v (n:=6) (by decide)) λ_ h=>?_;refine iaaa ?_ ((zfc _ (n:=8) (by decide)).2) ((zfc _ (n:=512) (by decide)).2) ((zfc _ (n:=3) (by decide)).2);show zbd.getD (v.fmod 6).toNat 0∈zbd;have h':(v.fmod 6).toNat<6:=h;generalize (v.fmod 6).toNat=j at h';match j,h' with
 |0,_=>decide
 |1,_=>decide
 |2,_=>decide
 |3,_=>decide
 |4,_=>decide
 |5,_=>decide
noncomputable def zrE:E:=(.tup (.cons (.idx (.tup (.cons (.c (.int 8)) (.cons (.c (.int 4)) (.cons (.c (.int 10)) (.cons (.c (.int 12)) (.cons (.c (.int 6)) (.cons (.c (.int 1)) .nil))))))) (.bin .Mod (.v 3) (.c (.int 6)))) (.cons (.bin .Mod (.bin .FloorDiv (.v 3) (.c (.int 6))) (.c (.int 8))) (.cons (.bin .Mod (.bin .FloorDiv (.v 3) (.c (.int 48))) (.c (.int 512))) (.cons (.bin .Mod (.bin .FloorDiv (.v 3) (.c (.int 24576))) (.c (.int 3))) .nil)))))
theorem znh(Φ:PA){x0 x1 x2:V}{v:Int}{U:Vs}{h:H}:eE Φ (x0::x1::x2::.int v::U) zrE h=some (zkS (zpB v),h):=by
 refine zdy λX kX=>?_;have tupE:eE Φ (x0::x1::x2::.int v::U) (.tup (.cons (.c (.int 8)) (.cons (.c (.int 4)) (.cons (.c (.int 10)) (.cons (.c (.int 12)) (.cons (.c (.int 6)) (.cons (.c (.int 1)) .nil))))))) h=some (.tup (zbd.map λ(k:Nat)=>V.int (k:Int)),h):=rfl;refine xa (zfc v (n:=6) (by decide)) λq6 l6=>?_;refine xa (zfc (v.fdiv 6) (n:=8) (by decide)) λq8 _=>?_;refine xa (zfc (v.fdiv 48) (n:=512) (by decide)) λq5 _=>?_;refine xa (zfc (v.fdiv 24576) (n:=3) (by decide)) λq3 _=>?_;have ix:=zrY h (vs:=zbd.map λ(k:Nat)=>V.int (k:Int)) (j:=(v.fmod 6).toNat) (v:=.int ((zbd.getD (v.fmod 6).toNat 0:Nat):Int)) (k:=v.fmod 6) q6 (by
  have h':(v.fmod 6).toNat<6:=l6;generalize (v.fmod 6).toNat=j at h';match j,h' with
  |0,_=>rfl
  |1,_=>rfl
  |2,_=>rfl
  |3,_=>rfl
  |4,_=>rfl
  |5,_=>rfl) (by decide)
 have f6:=zgL h v (y:=6) (by decide);have f8:=zgL h (v.fdiv 6) (y:=8) (by decide);have f5:=zgL h (v.fdiv 48) (y:=512) (by decide);have f3:=zgL h (v.fdiv 24576) (y:=3) (by decide);have d6:=zgK h v (y:=6) ⟨by decide,by decide⟩;have d48:=zgK h v (y:=48) ⟨by decide,by decide⟩;have dq:=zgK h v (y:=24576) ⟨by decide,by decide⟩;have hd:zkS (zpB v)=.tup [.int ((zbd.getD (v.fmod 6).toNat 0:Nat):Int),.int ((v.fdiv 6).fmod 8),.int ((v.fdiv 48).fmod 512),.int ((v.fdiv 24576).fmod 3)]:=by refine rwl q8 ?_;refine rwl q5 ?_;refine rwl q3 ?_;rfl
 refine kX ?_;refine rwl hd ?_;refine rwl zbM ?_;refine rwl zag ?_;refine rwl zar ?_;refine rwl tupE ?_;simp only[zbL,zaF,zaz,zap,zag,zaH,GA,GB,OA,OB,OC,f6,ix,d6,f8,d48,f5,dq,f3,List.all_cons,List.all_nil,flat,Bool.and_self,if_true]
noncomputable def zkQ:S:=(.seq (.setI (.v 1) (.bin .Mod (.v 2) (.c (.int 4))) (.bin .Add (.idx (.v 1) (.bin .Mod (.v 2) (.c (.int 4)))) (.idx (.v 0) (.v 2)))) .skip)
theorem zjG(Φ:PA){is:List Int}{i:Nat}{U:Vs}(hlen:is.length<=63):∀(xs:List Nat) (us:List Int) (h:H) (y:V),(∀x∈xs,x<is.length)->us.length=4->h[i]?=some (.list (us.map .int))->
  ∃(y':V) (us':List Int),us'.length=4/\zbZ (eF Φ zkQ) [2] (xs.map λx=>.int (x:Nat)) (.lA (is.map .int)::.obj i::y::U,h)=some (none,.lA (is.map .int)::.obj i::y'::U,h.set i (.list (us'.map .int))):=by
 intro l9;induction l9 with
 |nil=>intro us h y _ hu hi;exact⟨y,us,hu,by rw[zfy hi];rfl⟩
 |cons x xs zjG=>
  intro us h y hx hu hi;refine zdy λX kX=>?_;have il:i<h.length:=(List.getElem?_eq_some_iff.mp hi).1;have hxl:=hx x (.head _);have hm4:x%4<4:=Nat.mod_lt _ (by decide);obtain⟨u,hu1⟩:∃u,us[x%4]?=some u:=⟨_,List.getElem?_eq_getElem (by lia)⟩;obtain⟨z,hz1⟩:∃z,is[x]?=some z:=⟨_,List.getElem?_eq_getElem hxl⟩;have hs:63<=zad:=by decide
  have ml:(us.map V.int).length=4:=by rw[List.length_map,hu]
  have bm:zaU .Mod h (.int (x:Int)) (.int 4)=some (.int ((x%4:Nat):Int)):=zrm h (y:=4) (by decide);generalize x%4=x4 at*;have i1:=zeP hi (rfl:((x4:Nat):Int)=_) (v:=.int u) (by rw[List.getElem?_map,hu1];rfl) (by rw[ml];exact lnA 63 0 4 0 hs rfl);have i2:=zbh h (vs:=is.map V.int) (rfl:((x:Nat):Int)=_) (v:=.int z) (by rw[List.getElem?_map,hz1];rfl) (by rw[List.length_map];exact Nat.le_trans hlen hs);have s1:=zh1 hi (x:=.int (u+z)) (rfl:((x4:Nat):Int)=_) (by rw[ml];exact hm4) (by rw[ml];exact lnA 63 0 4 0 hs rfl) rfl;have hb:eF Φ zkQ (.lA (is.map .int)::.obj i::.int (x:Nat)::U,h)=some (.next,.lA (is.map .int)::.obj i::.int (x:Nat)::U,h.set i (.list ((us.set x4 (u+z)).map .int))):=by rw[<-List.map_set]at s1;delta zkQ;nomatch bm,i1,i2,zc2,s1
  obtain⟨y',us',h1,h2⟩:=zjG (us.set x4 (u+z)) _ (.int (x:Nat)) (λw hw=>hx w (.tail _ hw)) (by rw[List.length_set];exact hu) (List.getElem?_set_self il);refine kX ?_;refine ieea y' us' h1 ?_;rw[List.map_cons,zf3 rfl hb,h2,List.set_set]
theorem zni(m:Nat){is:List Int}{h:H}(w:WF h)(hlen:is.length<=63):∃us:List Int,us.length=4/\zac (m+1) 10 [.lA (is.map .int)] h=some (.lA (us.map λv=>zkS (zpB v)),h):=by
 have hi:(h++[Ob.list (([19992,48003,72823,49106]:List Int).map V.int)])[h.length]?=some (.list (([19992,48003,72823,49106]:List Int).map V.int)):=by simp
 refine zc0 (zjG (zac m) hlen (i:=h.length) (U:=R6) (List.range is.length) [19992,48003,72823,49106] (h++[.list (([19992,48003,72823,49106]:List Int).map V.int)]) .uA (λx hx=>List.mem_range.mp hx) rfl hi) λy' us hu lp=>?_;refine⟨us,hu,zbf zr5 (fl:=.ret (.lA (us.map λv=>zkS (zpB v)))) (h':=h++[.gone]) ?_ (by simp) rfl w rfl ⟨rfl,rfl⟩⟩;show zcd (eF (zac m) (.seq (.asgM 1 (.lA (.cons (.c (.int 19992)) (.cons (.c (.int 48003)) (.cons (.c (.int 72823)) (.cons (.c (.int 49106)) .nil))))))
 (.seq (.fors [2] (.rg (.cons (.len (.v 0)) .nil)) zkQ .skip) (.seq (.frz [1] (.ret (.comp [3] (.v 1) (.c (.bool true)) zrE))) .skip))) (.lA (is.map .int)::.uA::.uA::R6,h))=_
 have e1:eF (zac m) (.asgM 1 (.lA (.cons (.c (.int 19992)) (.cons (.c (.int 48003)) (.cons (.c (.int 72823)) (.cons (.c (.int 49106)) .nil)))))) (.lA (is.map .int)::.uA::.uA::R6,h)=some (.next,.lA (is.map .int)::.obj h.length::.uA::R6,h++[.list (([19992,48003,72823,49106]:List Int).map V.int)]):=rfl;have hs:63<=zad:=by decide
 have ev:eE (zac m) (.lA (is.map .int)::.obj h.length::.uA::R6) (.rg (.cons (.len (.v 0)) .nil)) (h++[.list (([19992,48003,72823,49106]:List Int).map V.int)])=some (.rng 0 (is.length:Nat) 1,h++[.list (([19992,48003,72823,49106]:List Int).map V.int)]):=by
  have hln:zdh (h++[.list (([19992,48003,72823,49106]:List Int).map V.int)]) (.lA (is.map .int))=some (is.length:Int):=by rw[n_lst (by rw[List.length_map];exact Nat.le_trans hlen hs),List.length_map]
  nomatch hln
 rw[zao,e1];dsimp only;rw[zao,zgq _ ev (zaK 2 (by exact Nat.le_trans hlen (by decide))),lp,zdb,x_skip];dsimp only;have hset:(h++[Ob.list (([19992,48003,72823,49106]:List Int).map V.int)]).set h.length (.list (us.map .int))=h++[.list (us.map .int)]:=by rw[List.set_append_right _ _ (Nat.le_refl _)];simp
 rw[hset];have hg:(h++[Ob.list (us.map V.int)])[h.length]?=some (.list (us.map .int)):=by simp
 have hset2:(h++[Ob.list (us.map V.int)]).set h.length .gone=h++[.gone]:=by rw[List.set_append_right _ _ (Nat.le_refl _)];simp
 have hm:=zgw (zac m) (tA:=[3]) (it:=.v 1) (elt:=zrE) (vs:=.lA (is.map .int)::.lA (us.map .int)::y'::R6) (h:=h++[.gone]) (xs:=us) V.int (λv=>zkS (zpB v)) (v:=.lA (us.map .int)) rfl
  (by unfold zak;simp only[zaN,OB];rw[if_pos ⟨by rw[List.length_map];lia,.inl rfl⟩])
  λx _=>⟨_,rfl,znh (zac m) (x0:=.lA (is.map .int)) (x1:=.lA (us.map .int)) (x2:=y') (v:=x) (U:=List.replicate 5 .uA),rfl⟩
 rw[zao,zcW];simp only[zrI,zrH,zdO,zbO,frzOf,Option.map_some,hg,hset2,OA,OB,GA,GB,SA,SB];rw[za2,hm];rfl
noncomputable def wrM(wB:List Nat)(mn:Nat):List Nat:=if mn=2 then(wB.flatMap λc=>[92,c])++[10] else if mn=0 then wB++[32] else 34::(wB++[34])
theorem ziT:∀l:List (List Nat),zgy [] l=l.flatten
 |[]=>rfl
 |[x]=>by simp[jo_1]
 |x::y::r=>by rw[jo_s,ziT (y::r)];simp
theorem zh5:∀l:List (List Nat),zfh (l.map V.str)=some l:=by
 intro l9;induction l9 with
 |nil=>exact rfl
 |cons x r zh5=>exact bs rfl (by rw[zh5];rfl)
theorem znj{Φ:PA}{vs:Vs}{h:H}{a:E}{v:V}{l:List (List Nat)}(ha:eE Φ vs a h=some (v,h))(hv:zgE h v=some (l.map .str))(hz:l.flatten.length<=zad):
  eE Φ vs (.join (.c (.str [])) a) h=some (.str l.flatten,h):=by
 simp only[zbL,zb4,zeX,GA,GB,OA,OB,OC,ha,hv,zh5,ziT,(by simp[List.length_flatten]:(l.map List.length).sum+l.length*([]:List Nat).length=l.flatten.length)]
 exact rwl (if_pos hz) rfl
theorem zh7(wB:List Nat):(wB.map λc=>[92,c]).flatten.length=2*wB.length:=by
 induction wB with
 |nil=>rfl
 |cons c r ih=>simp only[List.map_cons,List.flatten_cons,List.length_append,ih,List.length_cons,List.length_nil];lia
theorem zkx(m:Nat){wB:List Nat}{mn:Nat}{h:H}(w:WF h)(hm:mn<3)(hw:wB.all (·<128)=true)(hz:wB.length<=100):
  zac (m+1) 13 [.str wB,.int (mn:Nat)] h=some (.str (wrM wB mn),h):=by
 have hs:1000<=zad:=by decide
 refine zbt znY (fl:=.ret (.str (wrM wB mn))) w ?_ rfl rfl ⟨rfl,rfl⟩
 show zcd (eF (zac m) (.seq (.ifs (.cmp .Eq (.v 1) (.c (.int 2))) (.seq (.ret (.bin .Add (.join (.c (.str [])) (.comp [2] (.v 0) (.c (.bool true)) (.bin .Add (.c (.str [92])) (.v 2)))) (.c (.str [10])))) .skip) .skip)
  (.seq (.ret (.idx (.tup (.cons (.bin .Add (.v 0) (.c (.str [32]))) (.cons (.bin .Add (.bin .Add (.c (.str [34])) (.v 0)) (.c (.str [34]))) .nil))) (.v 1))) .skip)) (.str wB::.int (mn:Nat)::R6,h))=_
 have t:eE (zac m) (.str wB::.int (mn:Nat)::R6) (.cmp .Eq (.v 1) (.c (.int 2))) h=some (.bool (((mn:Nat):Int)==2),h):=by dsimp only[zbL,zaF,zaI,GA,GB,OA,OB,OC,zmI]
 rw[zao];refine rwl (zky _ t (zaL _ _)) ?_
 by_cases h2:mn=2
 ·subst h2;refine rwl (if_pos (show (((2:Nat):Int)==2)=true from rfl)) ?_;have hc:=zgw (zac m) (tA:=[2]) (it:=.v 0) (elt:=.bin .Add (.c (.str [92])) (.v 2)) (vs:=.str wB::.int (2:Nat)::R6) (h:=h) (xs:=wB) (λc=>V.str [c]) (λc=>.str [92,c]) (v:=.str wB) rfl
   (by unfold zak;simp only[zaN];rw[if_pos hw];simp only[OB];rw[if_pos ⟨by rw[List.length_map];exact lnB 0 100 1000 0 0 0 hz hs rfl,.inl rfl⟩])
   λx _=>⟨.str wB::.int (2:Nat)::.str [x]::List.replicate 5 .uA,rfl,rfl,rfl⟩
  have hj:=znj (l:=wB.map λc=>[92,c]) hc (by show some _=_;rw[List.map_map];rfl) (by rw[zh7];lia);have hwr:wrM wB 2=(wB.map λc=>[92,c]).flatten++[10]:=by unfold wrM;exact rwl List.flatMap_def rfl
  refine rwl hwr ?_;rw[zao];refine rwl za2 ?_;refine rwl zaz ?_;refine rwl hj ?_;simp only[zbL,GA,GB,OA,OB,OC,(zfD h (by rw[zh7];simp only[List.length_cons,List.length_nil];lia):zaU .Add h (.str (wB.map λc=>[92,c]).flatten) (.str [10])=some (.str ((wB.map λc=>[92,c]).flatten++[10]))),zcd,Option.map_some]
 ·refine rwl (if_neg (by intro q;rw[beq_iff_eq]at q;lia)) ?_;rw[x_skip];have ht:eE (zac m) (.str wB::.int (mn:Nat)::R6) (.tup (.cons (.bin .Add (.v 0) (.c (.str [32]))) (.cons (.bin .Add (.bin .Add (.c (.str [34])) (.v 0)) (.c (.str [34]))) .nil))) h=some (.tup [.str (wB++[32]),.str ([34]++wB++[34])],h):=by simp only[zbL,zaF,zaz,zbM,zap,zag,zaH,GA,GB,OA,OB,OC,(zfD h (by simp only[List.length_cons,List.length_nil];exact lnB 0 100 1000 0 1 0 hz hs rfl):zaU .Add h (.str wB) (.str [32])=some (.str (wB++[32]))),(zfD h (by simp only[List.length_cons,List.length_nil];lia):zaU .Add h (.str [34]) (.str wB)=some (.str ([34]++wB))),(zfD h (by simp only[List.length_append,List.length_cons,List.length_nil];lia):zaU .Add h (.str ([34]++wB)) (.str [34])=some (.str ([34]++wB++[34]))),List.all_cons,List.all_nil,flat,Bool.and_self,if_true]
  have ix:zb9 h (.tup [.str (wB++[32]),.str ([34]++wB++[34])]) (.int (mn:Nat))=some (.str (wrM wB mn)):=by
   match mn,hm,h2 with
   |0,_,_=>rfl
   |1,_,_=>rfl
   |2,_,q=>exact absurd rfl q
  dsimp only;rw[zao];refine rwl za2 ?_;refine rwl zar ?_;refine rwl ht ?_;simp only[zaF,GA,GB,OA,OB,OC,ix,zcd,Option.map_some]
theorem sumL(l:List Int):sumV (l.map .int)=some l.sum:=by unfold sumV;rw[zef];rfl
noncomputable def zhe(fs:List Bool):Int:=((List.range fs.length).filterMap λt=>if fs.getD t false=true then some ((t:Int)+1) else none).sum
theorem ziW(h:H){kC:List (List Nat×Sc)}{k:List Nat}{v:Sc}(e:kC.lookup k=some v):zb9 h (.dS kC) (.str k)=some v.v:=i_dS e
theorem zax(h:H){vs:List V}(hz:vs.length<=zad):zdh h (.lA vs)=some (vs.length:Int):=n_lst hz
theorem zkT(m:Nat){run:List (List Nat)}{sh:List (List Nat×Sc)}{fs:List Bool}{h:H}(w:WF h)(hl:run.length=fs.length)(hz:run.length<=1000)
  (hs:∀t r,run[t]?=some r->∃c:Nat,sh.lookup r=some (.int (c:Nat))/\fs.getD t false=(c==0)):
  zac (m+1) 23 [.lA (run.map .str),.dS sh] h=some (.int (zhe fs),h):=by
 refine zbt k_ends (fl:=.ret (.int (zhe fs))) w ?_ rfl rfl ⟨rfl,rfl⟩
 have hit:eE (zac m) (.lA (run.map .str)::.dS sh::R6) (.rg (.cons (.len (.v 0)) .nil)) h=some (.rng 0 (run.length:Nat) 1,h):=by have:=zax h (vs:=run.map .str) (by rw[List.length_map];exact Nat.le_trans hz (by decide:1000<=zad));rw[List.length_map]at this;nomatch this
 have hc:=zfM (zac m) (tA:=[2]) (it:=.rg (.cons (.len (.v 0)) .nil)) (cond:=.cmp .Eq (.idx (.v 1) (.idx (.v 0) (.v 2))) (.c (.int 0))) (elt:=.bin .Add (.v 2) (.c (.int 1))) (vs:=.lA (run.map .str)::.dS sh::R6) (h:=h)
  (xs:=List.range run.length) (λt=>V.int (t:Nat)) (λt=>if fs.getD t false=true then some (V.int ((t:Int)+1)) else none) hit (zaK 2 (by exact hz)) λt ht=>by
   refine zeB λX kX=>?_;refine xe (⟨_,List.getElem?_eq_getElem (List.mem_range.mp ht)⟩:∃r,run[t]?=some r) λr hr=>?_;refine xea (hs t r hr) λc hc hf=>?_;have i1:=zbh h (vs:=run.map V.str) (rfl:((t:Nat):Int)=_) (v:=.str r) (by rw[List.getElem?_map,hr];rfl) (by rw[List.length_map];exact Nat.le_trans hz (by decide:1000<=zad));have hcb:(((c:Nat):Int)==0)=(c==0):=by rw[Bool.eq_iff_iff];lia
   refine kX (.lA (run.map .str)::.dS sh::.int (t:Nat)::List.replicate 5 .uA) (.bool (c==0)) (c==0) rfl ?_ rfl (λq=>?_) (λq=>?_)
   ·simp only[zbL,zaF,zaI,zar,GA,GB,OA,OB,OC,i1,(ziW h hc),Sc.v,zmI,hcb]
   ·exact zk2 (.int ((t:Int)+1)) (by simp only[zbL,zaF,zaz,GA,GB,OA,OB,OC,zc2]) rfl (by rw[if_pos (hf.trans q)])
   ·rw[if_neg (by rw[hf,q];decide)]
 have hfm:∀l:List Nat,(l.filterMap λt=>if fs.getD t false=true then some (V.int ((t:Int)+1)) else none)=(l.filterMap λt=>if fs.getD t false=true then some ((t:Int)+1) else none).map .int:=by
  intro l;induction l with
  |nil=>rfl
  |cons x t ih=>
   generalize q:fs.getD x false=x0;induction x0 using Bool.casesOn with
   |true=>rw[List.filterMap_cons_some (b:=V.int ((x:Int)+1)) (by rw[if_pos q]),List.filterMap_cons_some (b:=(x:Int)+1) (by rw[if_pos q]),ih];rfl
   |false=>rw[List.filterMap_cons_none (by rw[if_neg (by rw[q];decide)]),List.filterMap_cons_none (by rw[if_neg (by rw[q];decide)]),ih]
 rw[hfm]at hc
 show zcd (eF (zac m) (.seq (.ret (.sum (.comp [2] (.rg (.cons (.len (.v 0)) .nil)) (.cmp .Eq (.idx (.v 1) (.idx (.v 0) (.v 2))) (.c (.int 0))) (.bin .Add (.v 2) (.c (.int 1)))))) .skip) (.lA (run.map .str)::.dS sh::R6,h))=_
 have he:zhe fs=((List.range run.length).filterMap λt=>if fs.getD t false=true then some ((t:Int)+1) else none).sum:=by unfold zhe;exact rwl hl rfl
 rw[zao];refine rwl za2 ?_;refine rwl zcV ?_;refine rwl hc ?_
 simp only[OA,OB,sumL,OC,zcd,Option.map_some,he,zdY]
theorem zjE{α:Type}(l:List α)(k:Nat):zgs l none (some (k:Int))=l.take k:=by
 unfold zgs;simp only[Option.elim_none,Option.elim_some,List.drop_zero,Nat.sub_zero];unfold PySem.clipAt;refine rwl (if_neg (by omega)) ?_;by_cases q:k<=l.length
 ·congr 1;omega
 ·refine rwl (List.take_of_length_le (by omega)) ?_;exact rwl (List.take_of_length_le (by omega)) rfl
theorem zfK{α:Type}(l:List α)(k:Nat):zgs l (some (k:Int)) none=l.drop k:=by
 unfold zgs;simp only[Option.elim_none,Option.elim_some];unfold PySem.clipAt;by_cases q:k<=l.length
 ·have:(max 0 (min (k:Int) (l.length:Int))).toNat=k:=by omega
  refine rwl this ?_;exact rwl (List.take_of_length_le (by rw[List.length_drop];omega)) rfl
 ·have:(max 0 (min (k:Int) (l.length:Int))).toNat=l.length:=by omega
  refine rwl this ?_;refine rwl (List.drop_of_length_le (by omega)) ?_;refine rwl (List.drop_of_length_le (by omega)) ?_;exact rwl List.take_nil rfl
noncomputable def zcX:Nat->List Int->Int
 |0,_=>0
 |n+1,ns=>if ns=[] then 0 else(zji ((List.range ns.length).map λk=>ns.getD k 0*(ns.length:Int)+zcX n (ns.take k++ns.drop (k+1)))).getD 0
theorem le_s:zcX (n+1) ns=if ns=[] then 0 else(zji ((List.range ns.length).map λk=>ns.getD k 0*(ns.length:Int)+zcX n (ns.take k++ns.drop (k+1)))).getD 0:=rfl
theorem zf6:∀{l:List Int},l≠[]->∃x,zji l=some x
 |[x],_=>⟨x,rfl⟩
 |x::y::r,_=>by obtain⟨z,hz⟩:=zf6 (l:=y::r) (by simp);exact⟨_,by rw[mi_s,hz];rfl⟩
 |[],h=>absurd rfl h
theorem ziV:∀(n:Nat) {ns:List Int} {h:H},WF h->ns.length<=n->n<=100->(∀x∈ns,x.natAbs<=1000)->zac (n+1) 22 [.lA (ns.map .int)] h=some (.int (zcX (n+1) ns),h)
 |n,ns,h,w,hn,hn1,hb=>by
  have hs9:1000<=zad:=by decide
  refine zbt zsb (fl:=.ret (.int (zcX (n+1) ns))) w ?_ rfl rfl ⟨rfl,rfl⟩;show zcd (eF (zac n) (.seq (.ifs (.not (.v 0)) (.seq (.ret (.c (.int 0))) .skip) .skip)
   (.seq (.ret (.min (.comp [1] (.rg (.cons (.len (.v 0)) .nil)) (.c (.bool true)) (.bin .Add (.bin .Mult (.idx (.v 0) (.v 1)) (.len (.v 0))) (.call 22 (.cons (.bin .Add (.slc (.v 0) (.c .none) (.v 1)) (.slc (.v 0) (.bin .Add (.v 1) (.c (.int 1))) (.c .none))) .nil)))))) .skip)) (.lA (ns.map .int)::.uA::.uA::.uA::.uA::.uA::.uA::[],h))=_
  have t:eE (zac n) (.lA (ns.map .int)::.uA::.uA::.uA::.uA::.uA::.uA::[]) (.not (.v 0)) h=some (.bool ns.isEmpty,h):=by simp only[zaF,zcc,GA,GB,OA,OB,OC];rw[t_lst (by rw[List.length_map];exact lnB 0 0 1000 100 0 0 hn (lnB 0 100 1000 0 1000 100 hn1 hs9 rfl) rfl),List.isEmpty_map];simp
  rw[zao,zky _ t (zaL _ _)];by_cases hne:ns=[]
  ·subst hne;rfl
  ·have he:ns.isEmpty=false:=List.isEmpty_eq_false_iff.mpr hne;rw[he,if_neg (by decide),x_skip];dsimp only;obtain⟨n',rfl⟩:∃n',n=n'+1:=⟨n-1,by have:ns.length≠0:=λq=>hne (List.length_eq_zero_iff.mp q);lia⟩
   have hln:=zax h (vs:=ns.map .int) (by rw[List.length_map];exact lnB 0 1 1001 100 0 0 hn (lnB 1 100 1000 0 1001 100 hn1 hs9 rfl) rfl);rw[List.length_map]at hln;have hit:eE (zac (n'+1)) (.lA (ns.map .int)::.uA::.uA::.uA::.uA::.uA::.uA::[]) (.rg (.cons (.len (.v 0)) .nil)) h=some (.rng 0 (ns.length:Nat) 1,h):=by simp only[zaF,zaV,zcI,zap,zag,zaH,zjk,GA,GB,OA,OB,OC,hln]
   have hc:=zgw (zac (n'+1)) (tA:=[1]) (it:=.rg (.cons (.len (.v 0)) .nil)) (elt:=.bin .Add (.bin .Mult (.idx (.v 0) (.v 1)) (.len (.v 0))) (.call 22 (.cons (.bin .Add (.slc (.v 0) (.c .none) (.v 1)) (.slc (.v 0) (.bin .Add (.v 1) (.c (.int 1))) (.c .none))) .nil)))
    (vs:=.lA (ns.map .int)::.uA::.uA::.uA::.uA::.uA::.uA::[]) (h:=h) (xs:=List.range ns.length) (λk=>V.int (k:Nat)) (λk=>.int (ns.getD k 0*(ns.length:Int)+zcX (n'+1) (ns.take k++ns.drop (k+1)))) hit (zaK 1 (by exact lnB 0 1 1 100 0 1000 hn hn1 rfl)) λk hk=>by
     have hkl:=List.mem_range.mp hk;have hg:ns[k]?=some (ns.getD k 0):=by rw[List.getD_eq_getElem?_getD,List.getElem?_eq_getElem hkl];rfl
     have i1:=zbh h (vs:=ns.map V.int) (rfl:((k:Nat):Int)=_) (v:=.int (ns.getD k 0)) (by rw[List.getElem?_map,hg];rfl) (by rw[List.length_map];exact lnB 0 1 1001 100 0 0 hn (lnB 1 100 1000 0 1001 100 hn1 hs9 rfl) rfl);have hx:=hb _ (List.mem_of_getElem? hg);have ml:=zlC h (x:=ns.getD k 0) (y:=(ns.length:Int)) (by exact Nat.le_trans hx (by decide)) (by lia);have q1:((k:Nat):Int)+1=((k+1:Nat):Int):=rfl;have s1:zeu (.lA (ns.map .int)) .none (.int (k:Nat))=some (.lA ((ns.take k).map .int)):=by rw[sl_l rfl rfl (by rw[List.length_map];exact lnB 0 1 1001 100 0 0 hn (lnB 1 100 1000 0 1001 100 hn1 hs9 rfl) rfl),zjE,List.map_take]
     have s2:zeu (.lA (ns.map .int)) (.int (k+1:Nat)) .none=some (.lA ((ns.drop (k+1)).map .int)):=by rw[sl_l rfl rfl (by rw[List.length_map];exact lnB 0 1 1001 100 0 0 hn (lnB 1 100 1000 0 1001 100 hn1 hs9 rfl) rfl),zfK,List.map_drop]
     have a1:zaU .Add h (.lA ((ns.take k).map .int)) (.lA ((ns.drop (k+1)).map .int))=some (.lA ((ns.take k++ns.drop (k+1)).map .int)):=by exact(fit (by rw[List.length_map,List.length_map,List.length_take,List.length_drop];lia):zil _ _=_).trans (by rw[List.map_append])
     have ih:=ziV n' (ns:=ns.take k++ns.drop (k+1)) w (by rw[List.length_append,List.length_take,List.length_drop];lia) (by exact Nat.le_of_lt hn1) λx hx=>hb x (by
      rcases List.mem_append.mp hx with q|q
      ·exact List.mem_of_mem_take q
      ·exact List.mem_of_mem_drop q)
     refine⟨.lA (ns.map .int)::.int (k:Nat)::.uA::.uA::.uA::.uA::.uA::[],rfl,?_,rfl⟩;generalize k+1=k1 at*;simp only[zbL,zaF,zaz,zav,zaV,zar,zcs,zap,zag,zaH,GA,GB,OA,OB,OC,i1,hln,ml,s1,zc2,q1,s2,a1,ih]
   have hmv:∀l:List Int,minV (l.map .int)=zji l:=λl=>by unfold minV;rw[zef];rfl
   have hmm:(List.range ns.length).map (λk=>V.int (ns.getD k 0*(ns.length:Int)+zcX (n'+1) (ns.take k++ns.drop (k+1))))=((List.range ns.length).map λk=>ns.getD k 0*(ns.length:Int)+zcX (n'+1) (ns.take k++ns.drop (k+1))).map .int:=by rw[List.map_map];rfl
   rw[hmm]at hc;have hl0:ns.length≠0:=λq=>hne (List.length_eq_zero_iff.mp q);obtain⟨z,hz⟩:=zf6 (l:=(List.range ns.length).map λk=>ns.getD k 0*(ns.length:Int)+zcX (n'+1) (ns.take k++ns.drop (k+1))) (λq=>by have:=congrArg List.length q;rw[List.length_map,List.length_range]at this;exact hl0 this)
   have hlm:zcX (n'+1+1) ns=z:=by rw[le_s,if_neg hne,hz];rfl
   rw[hlm,zao,za2,zdL,hc];simp only[OA,OB,hmv,hz,OC,zcd,Option.map_some,zdY]
def Mo(M:Nat):Prop:=M/4096∈zbd
theorem Mo.split{M:Nat}(h:Mo M):M=md (M/4096) (M/512%8) (M%512)/\M/512%8<8/\M%512<512:=by unfold md;lia
theorem zhK{k a r:Nat}(hk:k∈zbd)(ha:a<8)(hr:r<512):Mo (md k a r)/\md k a r/4096=k/\md k a r/512%8=a/\md k a r%512=r:=by
 have h1:md k a r/4096=k:=by unfold md;lia
 refine⟨by unfold Mo;rw[h1];exact hk,h1,?_,?_⟩<;>unfold md<;>omega
noncomputable def tnM(M:Nat):Nat:=md (M/4096) (M/512%8) (tn (stp (M/4096)) (M%512))
theorem zoV{M:Nat}(h:Mo M):Mo (tnM M)/\tnM M%512=tn (stp (M/4096)) (M%512):=by refine zig (zhK h h.split.2.1 (zkr (stp (M/4096)) h.split.2.2)) λa _ _ d=>?_;exact ia a d
theorem zq7{k a r:Nat}(hk:k∈zbd)(ha:a<8)(hr:r<512):tnM (md k a r)=md k a (tn (stp k) r):=by refine zig (zhK hk ha hr) λ_ b c d=>?_;unfold tnM;refine rwl b ?_;refine rwl c ?_;exact rwl d rfl
theorem zoZ(m:Nat){M:Nat}{h:H}(w:WF h)(hM:Mo M):zac (m+4) 15 [.int (M:Nat)] h=some (.int (tnM M:Nat),h):=by have:=zqt m w hM hM.split.2.1 hM.split.2.2;rw[<-hM.split.1]at this;exact this
noncomputable def rk(M:Nat):Nat:=(hb (M%512)).length
theorem rk_le{M:Nat}(h:Mo M):rk M<=9:=(zdk (zgF 1) h.split.2.2).2.2.2
theorem zsJ{M:Nat}(h:Mo M)(h0:rk M=0):tnM M=M:=by
 have e:=(zdk (zgF 1) h.split.2.2).1;rw[(List.length_eq_zero_iff.mp h0)]at e;have h2:M%512=0:=by simpa using e.symm
 have h3:∀n,tn n 0=0:=λn=>by induction n with|zero=>rfl|succ n ih=>rw[tn_s];exact ih
 unfold tnM;refine rwl h2 ?_;rw[h3];have:=h.split.1;rw[h2]at this;exact this.symm
theorem zsI{M:Nat}(h:Mo M)(h0:rk M≠0):rk (tnM M)<rk M:=by unfold rk at h0 ⊢;refine rwl ((zoV h).2) ?_;refine rwr ((zdk (zgF (M/4096)) h.split.2.2).2.1) ?_;have:=zkn (M/4096);refine rwl List.length_take ?_;omega
noncomputable def knW:Nat->List Nat->Nat->List Nat×Nat
 |0,L,M=>(L,M)
 |n+1,L,M=>if L.contains M=true then knW n L M else knW n (L++[M]) (tnM M)
theorem kn_0:knW 0 L M=(L,M):=rfl
theorem zmL:knW (n+1) L M=if L.contains M=true then knW n L M else knW n (L++[M]) (tnM M):=rfl
noncomputable def zf1(ss:List Nat)(L:List Nat):List Nat:=ss.foldl (λL s=>(knW 10 L s).1) L
theorem zhD:∀(n:Nat) {L:List Nat} {M:Nat},M∈L->knW n L M=(L,M):=by
 intro l9;induction l9 with
 |zero=>intro _ _ _;exact rfl
 |succ n zhD=>intro L M h;rw[zmL,if_pos (List.contains_iff_mem.mpr h)];exact zhD h
theorem zeR:∀(n:Nat) (L:List Nat) (M:Nat),(knW n L M).1.length<=L.length+n:=by
 intro l9;induction l9 with
 |zero=>intro _ _;exact Nat.le_refl _
 |succ n zeR=>
  intro L M;rw[zmL];split
  ·have:=zeR L M;exact Nat.le_succ_of_le this
  ·have:=zeR (L++[M]) (tnM M);rw[List.length_append,List.length_cons,List.length_nil]at this;lia
theorem zeS:∀(n:Nat) (L:List Nat) (M x:Nat),x∈L->x∈(knW n L M).1:=by
 intro l9;induction l9 with
 |zero=>intro _ _ _ h;exact h
 |succ n zeS=>
  intro L M x h;rw[zmL];split
  ·exact zeS L M x h
  ·exact zeS _ _ x (List.mem_append_left _ h)
theorem ziU:∀(n:Nat) {L:List Nat} {M:Nat},(∀x∈L,Mo x)->Mo M->(∀x∈(knW n L M).1,Mo x)/\Mo (knW n L M).2:=by
 intro l9;induction l9 with
 |zero=>intro _ _ h hM;exact⟨h,hM⟩
 |succ n ziU=>
  intro L M h hM;rw[zmL];split
  ·exact ziU h hM
  ·exact ziU (λx hx=>by
    rcases List.mem_append.mp hx with q|q
    ·exact h x q
    ·refine rwl (List.mem_singleton.mp q) ?_;exact hM) (zoV hM).1
set_option tactic.hygienic true in
theorem zej:∀(n:Nat) {L:List Nat} {M:Nat},L.Nodup->(knW n L M).1.Nodup:=by
 intro l9;induction l9 with
 |zero=>intro _ _ h;exact h
 |succ n zej=>
  intro L M h;rw[zmL];split
  ·exact zej h
  ·rename_i q;refine zej (List.nodup_append.mpr ⟨h,by simp,?_⟩);intro x hx y hy e;rw[List.mem_singleton.mp hy]at e;subst e;exact q (List.contains_iff_mem.mpr hx)
theorem zhC:∀(n:Nat) {L:List Nat} {M:Nat},(∀x∈L,tnM x∈L\/tnM x=M)->(∀x∈(knW n L M).1,tnM x∈(knW n L M).1\/tnM x=(knW n L M).2):=by
 intro l9;induction l9 with
 |zero=>intro _ _ h;exact h
 |succ n zhC=>
  intro L M h;rw[zmL];split
  ·exact zhC h
  ·refine zhC λx hx=>?_;rcases List.mem_append.mp hx with q|q
   ·rcases h x q with p|p
    ·exact .inl (List.mem_append_left _ p)
    ·exact .inl (by rw[p];simp)
   ·exact rwl (List.mem_singleton.mp q) (.inr rfl)
theorem zhB:∀(n:Nat) {L:List Nat} {M:Nat},Mo M->(rk M<n\/M∈L)->(knW n L M).2∈(knW n L M).1:=by
 intro l9;induction l9 with
 |zero=>intro L M _ h;exact h.elim (λq=>absurd q (Nat.not_lt_zero _)) id
 |succ n zhB=>
  intro L M hM h;by_cases q:M∈L
  ·exact rwl (zhD _ q) q
  ·rw[zmL];refine rwl (if_neg λp=>q (List.contains_iff_mem.mp p)) ?_;refine zhB (zoV hM).1 ?_;by_cases z:rk M=0
   ·exact .inr (by rw[zsJ hM z];simp)
   ·have:=zsI hM z;exact .inl (by have:=h.resolve_right q;lia)
set_option tactic.hygienic true in
theorem zn0{n:Nat}{L:List Nat}{M:Nat}:M∈(knW (n+1) L M).1:=by
 rw[zmL];split
 ·rename_i q;exact zeS n L M M (List.contains_iff_mem.mp q)
 ·exact zeS n _ _ M (by simp)
structure Kn (L:List Nat):Prop where
 md:∀x∈L,Mo x
 nd:L.Nodup
 cl:∀x∈L,tnM x∈L
theorem zqN{L:List Nat}{M:Nat}(h:Kn L)(hM:Mo M):Kn (knW 10 L M).1:=
 ⟨(ziU 10 h.md hM).1,zej 10 h.nd,λx hx=>(zhC 10 (λx hx=>.inl (h.cl x hx)) x hx).elim id λq=>by
   rw[q];exact zhB 10 hM (.inl (by have:=rk_le hM;exact Nat.lt_succ_of_le this))⟩
theorem zfs:∀(ss:List Nat) {L:List Nat},Kn L->(∀s∈ss,Mo s)->Kn (zf1 ss L)/\(∀x∈L,x∈zf1 ss L)/\(∀s∈ss,s∈zf1 ss L)/\(zf1 ss L).length<=L.length+10*ss.length:=by
 intro l9;induction l9 with
 |nil=>intro L h _;exact⟨h,λ_ hx=>hx,λ_ hs=>(nomatch hs),Nat.le_refl _⟩
 |cons s ss zfs=>
  intro L h hs;refine zig (zfs (zqN h (hs s (.head _))) λx hx=>hs x (.tail _ hx)) λa b c d=>?_;refine iaaa a (λx hx=>b x (zeS 10 L s x hx)) (λx hx=>?_) ?_
  ·rcases List.mem_cons.mp hx with rfl|q
   ·exact b _ zn0
   ·exact c x q
  ·have:=zeR 10 L s;refine rwl List.length_cons ?_;show (zf1 ss (knW 10 L s).1).length<=_;lia
theorem zgd{a r b s c:Nat}(h:zes a r c=zes b s c):zbQ r (3*c)=zbQ s (3*c)/\zbQ r (3*c+1)=zbQ s (3*c+1)/\zbQ r (3*c+2)=zbQ s (3*c+2)/\a/rdv c%2=b/rdv c%2:=by
 unfold zes at h;simp only[List.cons.injEq,and_true]at h;obtain⟨h1,h2,h3⟩:=h;have q1:a/rdv c%2<2:=Nat.mod_lt _ (by decide);have q2:b/rdv c%2<2:=Nat.mod_lt _ (by decide);generalize a/rdv c%2=x at*;generalize b/rdv c%2=y at*;refine iaa ?_ ?_ ?_
 ·revert h1;cases zbQ r (3*c)<;>cases zbQ s (3*c)<;>decide
 ·revert h2;cases zbQ r (3*c+1)<;>cases zbQ s (3*c+1)<;>decide
 ·revert h3;have hc:rch c=rch 2\/rch c=rch 0:=by unfold rch;split<;>simp
  rcases hc with hc|hc<;>rw[hc]<;>rcases (by lia:x=0\/x=1) with rfl|rfl<;>rcases (by lia:y=0\/y=1) with rfl|rfl<;>cases zbQ r (3*c+2)<;>cases zbQ s (3*c+2)<;>decide
theorem zmX{r s n:Nat}(hr:r<2 ^ n)(hs:s<2 ^ n)(h:∀i<n,Nat.beq (r/2 ^ i%2) 1=Nat.beq (s/2 ^ i%2) 1):r=s:=by
 refine Nat.eq_of_testBit_eq λi=>?_;by_cases q:i<n
 ·rw[tb,tb];exact h i q
 ·rw[Nat.testBit_lt_two_pow (Nat.lt_of_lt_of_le hr (Nat.pow_le_pow_right (by decide) (Nat.le_of_not_lt q))),Nat.testBit_lt_two_pow (Nat.lt_of_lt_of_le hs (Nat.pow_le_pow_right (by decide) (Nat.le_of_not_lt q)))]
theorem zlZ{a r b s:Nat}(ha:a<8)(hr:r<512)(hb:b<8)(hs:s<512)(h:zgT (a*512+r)=zgT (b*512+s)):a=b/\r=s:=by
 rw[zcu ha hr,zcu hb hs]at h;refine xa (List.append_inj h rfl) λh0 h=>?_;refine xa (List.append_inj h rfl) λh1 h2=>?_;refine zig (zgd h0) λa0 a1 a2 a3=>?_;refine zig (zgd h1) λb0 b1 b2 b3=>?_;refine zig (zgd h2) λc0 c1 c2 c3=>?_;constructor
 ·refine zmX (n:=3) ha hb λi hi=>?_;match i,hi with
  |0,_=>exact congrArg (Nat.beq · 1) c3
  |1,_=>exact congrArg (Nat.beq · 1) b3
  |2,_=>exact congrArg (Nat.beq · 1) a3
 ·refine zmX (n:=9) hr hs λi hi=>?_;match i,hi with
  |0,_=>exact c2
  |1,_=>exact c1
  |2,_=>exact c0
  |3,_=>exact b2
  |4,_=>exact b1
  |5,_=>exact b0
  |6,_=>exact a2
  |7,_=>exact a1
  |8,_=>exact a0
theorem zsc{k j:Nat}(hk:k∈zbd)(hj:j∈zbd)(h:zj0.getD k 0=zj0.getD j 0):k=j:=by
 revert h;have:∀k∈zbd,∀j∈zbd,zj0.getD k 0=zj0.getD j 0->k=j:=by decide
 exact this k hk j hj
theorem zcv{M N:Nat}(hM:Mo M)(hN:Mo N)(h:zaC (M:Int)=zaC (N:Int)):M=N:=by have e1:=zog hM hM.split.2.1 hM.split.2.2;have e2:=zog hN hN.split.2.1 hN.split.2.2;unfold nm at e1 e2;rw[<-hM.split.1]at e1;rw[<-hN.split.1]at e2;rw[e1,e2,List.cons.injEq]at h;obtain⟨q1,q2⟩:=zlZ hM.split.2.1 hM.split.2.2 hN.split.2.1 hN.split.2.2 h.2;rw[hM.split.1,hN.split.1,zsc hM hN h.1,q1,q2]
noncomputable def zmJ(row:List Nat):Nat:=((row.drop 1).filter λc=>[114,119,120,115,116].contains c).length
theorem zjB(a r c:Nat):((zes a r c).filter λc=>[114,119,120,115,116].contains c).length=b01 (zbQ r (3*c))+b01 (zbQ r (3*c+1))+b01 (zbQ r (3*c+2)):=by
 unfold zes;have q1:a/rdv c%2<2:=Nat.mod_lt _ (by decide);generalize a/rdv c%2=x at*;have hc:rch c=rch 2\/rch c=rch 0:=by unfold rch;split<;>simp
 rcases hc with hc|hc<;>rw[hc]<;>rcases (by lia:x=0\/x=1) with rfl|rfl<;>cases zbQ r (3*c)<;>cases zbQ r (3*c+1)<;>cases zbQ r (3*c+2)<;>decide
noncomputable def pc(r:Nat):Nat:=(hbN r).length
theorem pc_sum(r:Nat):pc r=(b01 (zbQ r 0)+b01 (zbQ r 1)+b01 (zbQ r 2))+((b01 (zbQ r 3)+b01 (zbQ r 4)+b01 (zbQ r 5))+(b01 (zbQ r 6)+b01 (zbQ r 7)+b01 (zbQ r 8))):=by
 unfold pc hbN;have h:∀l:List Nat,(l.filter (zbQ r)).length=(l.map λp=>b01 (zbQ r p)).sum:=by
  intro l;induction l with
  |nil=>rfl
  |cons p t ih=>
   cases q:zbQ r p with
   |true=>rw[List.filter_cons_of_pos q,List.length_cons,ih,List.map_cons,List.sum_cons,q];simp only[b01,if_true];lia
   |false=>rw[List.filter_cons_of_neg (by rw[q];decide),ih,List.map_cons,List.sum_cons,q];simp only[b01,Bool.false_eq_true,if_false];lia
 rw[h];simp only[show List.range 9=[0,1,2,3,4,5,6,7,8] from rfl,List.map_cons,List.map_nil,List.sum_cons,List.sum_nil];lia
theorem zqG{k a r:Nat}(hk:k∈zbd)(ha:a<8)(hr:r<512):zmJ (nm k a r)=pc r:=by unfold zmJ;refine rwl (zog hk ha hr) ?_;refine rwl (zcu ha hr) ?_;refine rwl List.drop_succ_cons ?_;refine rwl List.drop_zero ?_;rw[List.filter_append,List.filter_append,List.length_append,List.length_append,zjB,zjB,zjB,pc_sum]
noncomputable def nmD(L:List Nat):List (Int×Sc):=L.map λ(M:Nat)=>((M:Int),Sc.str (zaC (M:Int)))
noncomputable def tuD(L:List Nat):List (Int×Sc):=L.map λ(M:Nat)=>((M:Int),Sc.int (tnM M:Nat))
noncomputable def afD(L:List Nat):List (List Nat×Sc):=L.map λ(M:Nat)=>(zaC (M:Int),Sc.str (zaC (tnM M:Nat)))
theorem zpl(L:List Nat)(f:Nat->Sc)(M:Nat):(L.map λ(M:Nat)=>((M:Int),f M)).any (λp=>p.1==(M:Int))=L.contains M:=by
 rw[Bool.eq_iff_iff,List.any_eq_true,List.contains_iff_mem];constructor
 ·rintro⟨p,hp,e⟩;refine xea (List.mem_map.mp hp) λN hN x0=>?_;have:N=M:=by have:=eq_of_beq e;lia
  exact rwr this hN
 ·intro h;exact iea _ (List.mem_map_of_mem h) (by simp)
theorem zdz{α:Type}[BEq α][LawfulBEq α](k:α)(v:Sc):∀(l:List (α×Sc)),(∀p∈l,p.1≠k)->zeD k v l=l++[(k,v)]:=by
 intro l9;induction l9 with
 |nil=>intro _;exact rfl
 |cons p r zdz=>intro h;rw[pd_s];refine rwl (if_neg λq=>h p (.head _) (eq_of_beq q)) ?_;refine rwl (zdz λx hx=>h x (.tail _ hx)) ?_;rfl
theorem zgY{α β:Type}[BEq β][LawfulBEq β]{γ:Type}(key:α->β)(f:α->γ):∀(L:List α) (x:α),(∀y∈L,key y=key x->y=x)->x∈L->(L.map λy=>(key y,f y)).lookup (key x)=some (f x):=by
 intro l9;induction l9 with
 |nil=>intro _ _ h;exact nomatch h
 |cons y L zgY=>
  intro x hi h;refine rwl List.lookup_cons ?_;by_cases q:key y=key x
  ·refine rwl (hi y (.head _) q) ?_;simp
  ·have hne:(key x==key y)=false:=by rw[beq_eq_false_iff_ne];exact λe=>q e.symm
   refine rwl hne ?_;refine zgY x (λz hz=>hi z (.tail _ hz)) ?_;rcases List.mem_cons.mp h with rfl|h
   ·exact absurd rfl q
   ·exact h
theorem zof{L:List Nat}{M:Nat}(h:M∈L):(nmD L).lookup (M:Int)=some (.str (zaC (M:Int))):=zgY (λ(M:Nat)=>(M:Int)) (λM=>Sc.str (zaC (M:Int))) L M (λy _ e=>by have:(y:Int)=(M:Int):=e;lia) h
theorem zq8{L:List Nat}{M:Nat}(h:M∈L):(tuD L).lookup (M:Int)=some (.int (tnM M:Nat)):=zgY (λ(M:Nat)=>(M:Int)) (λM=>Sc.int (tnM M:Nat)) L M (λy _ e=>by have:(y:Int)=(M:Int):=e;lia) h
theorem zp5{L:List Nat}{M:Nat}(h:M ∉ L):zeD (M:Int) (.str (zaC (M:Int))) (nmD L)=nmD (L++[M]):=by
 unfold nmD;rw[zdz];refine rwl List.map_append ?_;rfl;rintro p hp e;refine xea (List.mem_map.mp hp) λN hN x0=>?_;subst x0;have:N=M:=by have:(N:Int)=(M:Int):=e;lia
 exact h (this▸hN)
theorem zqr{L:List Nat}{M:Nat}(h:M ∉ L):zeD (M:Int) (.int (tnM M:Nat)) (tuD L)=tuD (L++[M]):=by
 unfold tuD;rw[zdz];refine rwl List.map_append ?_;rfl;rintro p hp e;refine xea (List.mem_map.mp hp) λN hN x0=>?_;subst x0;have:N=M:=by have:(N:Int)=(M:Int):=e;lia
 exact h (this▸hN)
theorem at_0(h:H)(a b:Ob):(h++[a,b])[h.length]?=some a:=by simp
theorem at_1(h:H)(a b:Ob):(h++[a,b])[h.length+1]?=some b:=by simp
theorem st_0(h:H)(a b c:Ob):(h++[a,b]).set h.length c=h++[c,b]:=by rw[List.set_append_right _ _ (Nat.le_refl _)];simp
theorem st_1(h:H)(a b c:Ob):(h++[a,b]).set (h.length+1) c=h++[a,c]:=by rw[List.set_append_right _ _ (by exact Nat.le_add_right _ _)];simp
theorem zlx{h:H}{a b:Ob}(w:WF h)(ha:∀n,obOk n a=true)(hb:∀n,obOk n b=true):WF (h++[a,b]):=by have:=zd3 (zd3 w (ha _)) (hb (List.length (h++[a])+1));rwa [List.append_assoc]at this
noncomputable def knIf:S:=(.ifs (.cmp .NotIn (.v 4) (.v 1))
 (.seq (.setI (.v 1) (.v 4) (.call 9 (.cons (.v 4) .nil)))
 (.seq (.setI (.v 2) (.v 4) (.call 15 (.cons (.v 4) .nil)))
 (.seq (.asg 4 (.idx (.v 2) (.v 4)))
 .skip)))
 .skip)
noncomputable def knIn:S:=(.seq knIf .skip)
theorem c_nin{h:H}{x:Int}{i:Nat}{kC:List (Int×Sc)}(e:h[i]?=some (.dI kC)):zbl .NotIn h (.int x) (.obj i)=some (!(kC.any (·.1==x))):=by show (h[i]?).bind _=_;refine rwl e ?_;rfl
theorem zoC{h:H}{o:Nat}{kC:List (Int×Sc)}{k:Int}{x:V}{s:Sc}(ho:h[o]?=some (.dI kC))(hs:zlj x=some s)(hz:kC.length<=zad):setItem h (.obj o) (.int k) x=some (h.set o (.dI (zeD k s kC))):=by exact s_oI ho hs hz
theorem idx_dI{h:H}{o:Nat}{kC:List (Int×Sc)}{k:Int}{s:Sc}(ho:h[o]?=some (.dI kC))(hs:kC.lookup k=some s):zb9 h (.obj o) (.int k)=some s.v:=by exact i_oI ho hs
theorem zpW(m:Nat){L:List Nat}{M:Nat}{x0 x3 x5:V}{U:Vs}{h:H}(w:WF h)(hM:Mo M)(hz:L.length<=1000):
  eF (zac (m+4)) knIn (x0::.obj h.length::.obj (h.length+1)::x3::.int (M:Nat)::x5::U,h++[.dI (nmD L),.dI (tuD L)])=
   some (.next,x0::.obj h.length::.obj (h.length+1)::x3::.int ((knW 1 L M).2:Nat)::x5::U,h++[.dI (nmD (knW 1 L M).1),.dI (tuD (knW 1 L M).1)]):=by
 have hs9:1000<=zad:=by decide
 have t:eE (zac (m+4)) (x0::.obj h.length::.obj (h.length+1)::x3::.int (M:Nat)::x5::U) (.cmp .NotIn (.v 4) (.v 1)) (h++[.dI (nmD L),.dI (tuD L)])=some (.bool (!L.contains M),h++[.dI (nmD L),.dI (tuD L)]):=by
  have:zbl .NotIn (h++[.dI (nmD L),.dI (tuD L)]) (.int (M:Nat)) (.obj h.length)=some (!L.contains M):=by rw[c_nin (at_0 ..)];unfold nmD;rw[zpl]
  nomatch this
 rw[knIn,zao,knIf,zky _ t (zaL _ _)]
 generalize q:L.contains M=r0;induction r0 using Bool.casesOn with
 |true=>rw[if_neg (by decide),x_skip];dsimp only;rw[x_skip,zmL,if_pos q,kn_0]
 |false=>
  have hn:M ∉ L:=λp=>by rw[List.contains_iff_mem.mpr p]at q;exact noT (Eq.symm q)
  have ek:knW 1 L M=(L++[M],tnM M):=by rw[zmL,if_neg (by rw[q];decide)];rfl
  rw[ek];have w0:WF (h++[.dI (nmD L),.dI (tuD L)]):=zlx w (λ_=>rfl) λ_=>rfl;have w1:WF (h++[.dI (nmD (L++[M])),.dI (tuD L)]):=zlx w (λ_=>rfl) λ_=>rfl;have f1:=ziH (m+2) (M:Int) w0;have f2:=zoZ m w1 hM;have s1:setItem (h++[.dI (nmD L),.dI (tuD L)]) (.obj h.length) (.int (M:Nat)) (.str (zaC (M:Int)))=some (h++[.dI (nmD (L++[M])),.dI (tuD L)]):=by rw[zoC (at_0 h _ _) rfl (by unfold nmD;rw[List.length_map];exact Nat.le_trans hz hs9),st_0,zp5 hn]
  have s2:setItem (h++[.dI (nmD (L++[M])),.dI (tuD L)]) (.obj (h.length+1)) (.int (M:Nat)) (.int (tnM M:Nat))=some (h++[.dI (nmD (L++[M])),.dI (tuD (L++[M]))]):=by rw[zoC (at_1 h _ _) rfl (by unfold tuD;rw[List.length_map];exact Nat.le_trans hz hs9),st_1,zqr hn]
  have i1:=idx_dI (at_1 h (.dI (nmD (L++[M]))) (.dI (tuD (L++[M])))) (zq8 (M:=M) (L:=L++[M]) (by simp));generalize tnM M=N at*;have b1:eF (zac (m+4)) (.setI (.v 1) (.v 4) (.call 9 (.cons (.v 4) .nil))) (x0::.obj h.length::.obj (h.length+1)::x3::.int (M:Nat)::x5::U,h++[.dI (nmD L),.dI (tuD L)])=some (.next,x0::.obj h.length::.obj (h.length+1)::x3::.int (M:Nat)::x5::U,h++[.dI (nmD (L++[M])),.dI (tuD L)]):=by nomatch f1,s1
  have b2:eF (zac (m+4)) (.setI (.v 2) (.v 4) (.call 15 (.cons (.v 4) .nil))) (x0::.obj h.length::.obj (h.length+1)::x3::.int (M:Nat)::x5::U,h++[.dI (nmD (L++[M])),.dI (tuD L)])=some (.next,x0::.obj h.length::.obj (h.length+1)::x3::.int (M:Nat)::x5::U,h++[.dI (nmD (L++[M])),.dI (tuD (L++[M]))]):=by nomatch f2,s2
  have b3:eF (zac (m+4)) (.asg 4 (.idx (.v 2) (.v 4))) (x0::.obj h.length::.obj (h.length+1)::x3::.int (M:Nat)::x5::U,h++[.dI (nmD (L++[M])),.dI (tuD (L++[M]))])=some (.next,x0::.obj h.length::.obj (h.length+1)::x3::.int (N:Nat)::x5::U,h++[.dI (nmD (L++[M])),.dI (tuD (L++[M]))]):=by nomatch i1
  rw[if_pos (by decide),zao,b1];dsimp only;rw[zao,b2];dsimp only;rw[zao,b3];dsimp only;rw[x_skip];dsimp only;rw[x_skip]
theorem zsd:∀(n:Nat) (L:List Nat) (M:Nat),knW (n+1) L M=knW n (knW 1 L M).1 (knW 1 L M).2:=by intro n L M;rw[zmL,zmL];split<;>rfl
theorem zhE(m:Nat){x0 x3:V}{U:Vs}{h:H}(w:WF h):∀(xs:List Nat) (L:List Nat) (M:Nat) (x5:V),(∀x∈L,Mo x)->Mo M->L.length+xs.length<=1000->∃y5,
  zbZ (eF (zac (m+4)) knIn) [5] (xs.map λi=>.int (i:Nat)) (x0::.obj h.length::.obj (h.length+1)::x3::.int (M:Nat)::x5::U,h++[.dI (nmD L),.dI (tuD L)])=
   some (none,x0::.obj h.length::.obj (h.length+1)::x3::.int ((knW xs.length L M).2:Nat)::y5::U,h++[.dI (nmD (knW xs.length L M).1),.dI (tuD (knW xs.length L M).1)]):=by
 intro l9;induction l9 with
 |nil=>intro L M x5 _ _ _;exact⟨x5,rfl⟩
 |cons x xs zhE=>intro L M x5 hL hM hz;rw[List.length_cons]at hz;have hb:=zpW m (L:=L) (x0:=x0) (x3:=x3) (x5:=.int (x:Nat)) (U:=U) w hM (by exact Nat.le_trans (Nat.le_add_right _ _) hz);obtain⟨q1,q2⟩:=ziU 1 hL hM;have ql:=zeR 1 L M;obtain⟨y5,e⟩:=zhE (knW 1 L M).1 (knW 1 L M).2 (.int (x:Nat)) q1 q2 (by omega);refine⟨y5,?_⟩;refine rwl List.map_cons ?_;refine rwl (zf3 rfl hb) ?_;rw[e,List.length_cons,zsd xs.length L M]
noncomputable def zpX:S:=(.seq (.asg 4 (.v 3)) (.seq (.fors [5] (.rg (.cons (.c (.int 10)) .nil)) knIn .skip) .skip))
theorem zhF(m:Nat){x0:V}{U:Vs}{h:H}(w:WF h):∀(ss:List Nat) (L:List Nat) (x3 x4 x5:V),Kn L->(∀s∈ss,Mo s)->L.length+10*ss.length<=1000->∃y3 y4 y5,
  zbZ (eF (zac (m+4)) zpX) [3] (ss.map λi=>.int (i:Nat)) (x0::.obj h.length::.obj (h.length+1)::x3::x4::x5::U,h++[.dI (nmD L),.dI (tuD L)])=
   some (none,x0::.obj h.length::.obj (h.length+1)::y3::y4::y5::U,h++[.dI (nmD (zf1 ss L)),.dI (tuD (zf1 ss L))]):=by
 intro l9;induction l9 with
 |nil=>intro L x3 x4 x5 _ _ _;exact⟨x3,x4,x5,rfl⟩
 |cons s ss zhF=>
  intro L x3 x4 x5 hL hs hz;refine yeee λX kX=>?_;rw[List.length_cons]at hz;have hss:=hs s (.head _);obtain⟨y5,e⟩:=zhE m (x0:=x0) (x3:=.int (s:Nat)) (U:=U) w (List.range 10) L s x5 hL.md hss (by rw[List.length_range];lia);rw[List.length_range]at e;have ql:=zeR 10 L s;refine xeee (zhF (knW 10 L s).1 (.int (s:Nat)) (.int ((knW 10 L s).2:Nat)) y5 (zqN hL hss) (λx hx=>hs x (.tail _ hx)) (by omega)) λz3 z4 z5 e2=>?_;refine kX z3 z4 z5 ?_;have b1:eF (zac (m+4)) (.asg 4 (.v 3)) (x0::.obj h.length::.obj (h.length+1)::.int (s:Nat)::x4::x5::U,h++[.dI (nmD L),.dI (tuD L)])=some (.next,x0::.obj h.length::.obj (h.length+1)::.int (s:Nat)::.int (s:Nat)::x5::U,h++[.dI (nmD L),.dI (tuD L)]):=by nomatch rfl
  have hb:eF (zac (m+4)) zpX (x0::.obj h.length::.obj (h.length+1)::.int (s:Nat)::x4::x5::U,h++[.dI (nmD L),.dI (tuD L)])=some (.next,x0::.obj h.length::.obj (h.length+1)::.int (s:Nat)::.int ((knW 10 L s).2:Nat)::y5::U,h++[.dI (nmD (knW 10 L s).1),.dI (tuD (knW 10 L s).1)]):=by rw[zpX,zao,b1];dsimp only;rw[zao,zgq _ rfl (zaK 5 (by decide)),e,zdb,x_skip];dsimp only;rw[x_skip]
  exact(zf3 rfl hb).trans e2
theorem zhd{α:Type}(Φ:PA){t:Nat}{k v:E}{vs:Vs}{h:H}(ι:α->V)(K:α->List Nat)(W:α->Sc):∀(xs:List α) (acc:List (List Nat×Sc)),
  (∀x∈xs,eE Φ (vs.set t (ι x)) k h=some (.str (K x),h)/\∃y,eE Φ (vs.set t (ι x)) v h=some (y,h)/\zlj y=some (W x))->
  zaB (λa (st:List (List Nat×Sc)×H)=>do
   let (k,h) <-eE Φ (vs.set t a) k st.2
   let (v,h) <-eE Φ (vs.set t a) v h
   let k <-zbm k
   let v <-zlj v
   pure (zeD k v st.1,h)) (xs.map ι) (acc,h)=some (xs.foldl (λacc x=>zeD (K x) (W x) acc) acc,h):=by
 intro l9;induction l9 with
 |nil=>intro acc _;exact rfl
 |cons x xs zhd=>intro acc hx;refine xaea (hx x (.head _)) λh1 y h2 h3=>?_;have ih:=zhd (zeD (K x) (W x) acc) λy hy=>hx y (.tail _ hy);refine rwl List.map_cons ?_;rw[fe_s];simp only[h1,h2,h3,OA,OB,OC,zeX]at ih ⊢;exact ih
theorem zrG{α:Type}(Φ:PA){t:Nat}{it k v:E}{vs:Vs}{h:H}{d:V}{xs:List α}(ι:α->V)(K:α->List Nat)(W:α->Sc)(e:eE Φ vs it h=some (d,h))(hz:zak [t] d=some (xs.map ι))
  (hx:∀x∈xs,eE Φ (vs.set t (ι x)) k h=some (.str (K x),h)/\∃y,eE Φ (vs.set t (ι x)) v h=some (y,h)/\zlj y=some (W x)):
  eE Φ vs (.dcomp t it k v) h=some (.dS (xs.foldl (λacc x=>zeD (K x) (W x) acc) []),h):=by
 have:=zhd Φ (k:=k) (v:=v) ι K W xs [] hx
 refine rwl zbK ?_
 simp only[e,hz,OA,OB]
 exact congrArg (λr:Option (List (List Nat×Sc)×H)=>r.bind λx=>some (V.dS x.1,x.2)) this
theorem zhq{α:Type}(K:α->List Nat)(W:α->Sc):∀(xs D:List α),((D++xs).map K).Nodup->xs.foldl (λacc x=>zeD (K x) (W x) acc) (D.map λx=>(K x,W x))=(D++xs).map λx=>(K x,W x):=by
 intro l9;induction l9 with
 |nil=>intro D _;rw[List.append_nil];rfl
 |cons x xs zhq=>
  intro D h;refine rwl List.foldl_cons ?_;rw[zdz]
  ·have:=zhq (D++[x]) (by rw[List.append_assoc];exact h);rw[List.append_assoc,List.map_append]at this;exact this
  ·rintro p hp e;refine xea (List.mem_map.mp hp) λy hy x0=>?_;subst x0;rw[List.map_append,List.nodup_append]at h;exact h.2.2 _ (List.mem_map_of_mem hy) _ (by rw[List.map_cons];exact .head _) e
theorem zf7{α β:Type}(f:α->β):∀{L:List α},L.Nodup->(∀x∈L,∀y∈L,f x=f y->x=y)->(L.map f).Nodup:=by
 intro l9;induction l9 with
 |nil=>intro _ _;exact List.nodup_nil
 |cons x L zf7=>intro h hi;rw[List.nodup_cons]at h;refine rwl List.map_cons ?_;rw[List.nodup_cons];refine⟨λq=>?_,zf7 h.2 λa ha b hb=>hi a (.tail _ ha) b (.tail _ hb)⟩;refine xea (List.mem_map.mp q) λy hy e=>?_;have:=hi y (.tail _ hy) x (.head _) e;exact h.1 (this▸hy)
theorem zpZ{L:List Nat}(hL:Kn L):(L.map λ(M:Nat)=>zaC (M:Int)).Nodup:=zf7 _ hL.nd λx hx y hy e=>zcv (hL.md x hx) (hL.md y hy) e
theorem zpY(Φ:PA){L:List Nat}(hL:Kn L){x0 x3 x4 x5:V}{h:H}(hz:L.length<=1000):
  eE Φ (x0::.dI (nmD L)::.dI (tuD L)::x3::x4::x5::R6) (.dcomp 6 (.v 1) (.idx (.v 1) (.v 6)) (.get (.v 1) (.idx (.v 2) (.v 6)) (.c (.str [])))) h=some (.dS (afD L),h):=by
 have hit:zak [6] (.dI (nmD L))=some (L.map λ(M:Nat)=>.int (M:Int)):=by unfold zak;simp only[zaN,OB];unfold nmD;refine rwl (if_pos ⟨by rw[List.length_map,List.length_map];exact Nat.le_trans hz (by decide:1000<=zad),.inl rfl⟩) ?_;refine rwl List.map_map ?_;rfl
 have e:=zrG Φ (t:=6) (it:=.v 1) (k:=.idx (.v 1) (.v 6)) (v:=.get (.v 1) (.idx (.v 2) (.v 6)) (.c (.str []))) (vs:=x0::.dI (nmD L)::.dI (tuD L)::x3::x4::x5::R6) (h:=h) (d:=.dI (nmD L)) (xs:=L)
  (λ(M:Nat)=>.int (M:Int)) (λ(M:Nat)=>zaC (M:Int)) (λM=>Sc.str (zaC (tnM M:Nat))) rfl hit λM hM=>by have i1:zb9 h (.dI (nmD L)) (.int (M:Nat))=some (.str (zaC (M:Int))):=i_dI (zof hM);have i2:zb9 h (.dI (tuD L)) (.int (M:Nat))=some (.int (tnM M:Nat)):=i_dI (zq8 hM);have i3:=zof (hL.cl M hM);generalize tnM M=N at*;have hv:(x0::.dI (nmD L)::.dI (tuD L)::x3::x4::x5::R6).set 6 (.int (M:Int))=x0::.dI (nmD L)::.dI (tuD L)::x3::x4::x5::.int (M:Int)::List.replicate 5 .uA:=rfl;refine rwl hv ?_;refine⟨by simp only[zaF,zar,GA,GB,OA,OB,OC,i1],.str (zaC (N:Int)),?_,rfl⟩;simp only[zbL,zaF,zar,zc7,zo9,GA,GB,OA,OB,OC,i2,i3,Option.map_some,Option.getD_some,Sc.v]
 refine rwl e ?_
 have:=zhq (λ(M:Nat)=>zaC (M:Int)) (λM=>Sc.str (zaC (tnM M:Nat))) L [] (zpZ hL)
 refine rwl this ?_
 rfl
theorem zn1(m:Nat){ss:List Nat}{h:H}(w:WF h)(hs:∀s∈ss,Mo s)(hz:ss.length<=50):
  zac (m+5) 16 [.lA (ss.map λi=>.int (i:Nat))] h=some (.tup [.dI (nmD (zf1 ss [])),.dS (afD (zf1 ss []))],h):=by
 have hs9:1000<=zad:=by decide
 have k0:Kn []:=⟨λ_ h=>(nomatch h),List.nodup_nil,λ_ h=>(nomatch h)⟩
 refine zig (zfs ss k0 hs) λkn _ _ kl=>?_
 rw[List.length_nil]at kl
 obtain⟨y3,y4,y5,lp⟩:=zhF m (x0:=.lA (ss.map λi=>.int (i:Nat))) (U:=R6) w ss [] .uA .uA .uA k0 hs (by rw[List.length_nil];lia)
 generalize zf1 ss []=L at*
 refine zbf zsa (fl:=.ret (.tup [.dI (nmD L),.dS (afD L)])) (h':=h++[.gone,.gone]) ?_ (by simp) rfl w rfl ⟨rfl,rfl⟩
 show zcd (eF (zac (m+4)) (.seq (.asgM 1 .emptyD) (.seq (.asgM 2 .emptyD) (.seq (.fors [3] (.v 0) zpX .skip) (.seq (.frz [1,2] (.ret (.tup (.cons (.v 1) (.cons (.dcomp 6 (.v 1) (.idx (.v 1) (.v 6)) (.get (.v 1) (.idx (.v 2) (.v 6)) (.c (.str [])))) .nil))))) .skip))))
  (.lA (ss.map λi=>.int (i:Nat))::.uA::.uA::.uA::.uA::.uA::R6,h))=_
 have e1:eF (zac (m+4)) (.asgM 1 .emptyD) (.lA (ss.map λi=>.int (i:Nat))::.uA::.uA::.uA::.uA::.uA::R6,h)=some (.next,.lA (ss.map λi=>.int (i:Nat))::.obj h.length::.uA::.uA::.uA::.uA::R6,h++[.dI []]):=rfl
 have e2:eF (zac (m+4)) (.asgM 2 .emptyD) (.lA (ss.map λi=>.int (i:Nat))::.obj h.length::.uA::.uA::.uA::.uA::R6,h++[.dI []])=some (.next,.lA (ss.map λi=>.int (i:Nat))::.obj h.length::.obj (h.length+1)::.uA::.uA::.uA::R6,h++[.dI (nmD []),.dI (tuD [])]):=by simp only[zb5,zbi,GA,GB,OA,OB,OC,SA,SB,zjd,List.length_append,List.length_cons,List.length_nil,Nat.zero_add,List.append_assoc,List.cons_append,List.nil_append];rfl
 have hit:zak [3] (.lA (ss.map λ(i:Nat)=>V.int (i:Nat)))=some (ss.map λ(i:Nat)=>V.int (i:Nat)):=by unfold zak;simp only[zaN,OB];rw[if_pos ⟨by rw[List.length_map];exact lnB 0 50 1000 0 0 0 hz hs9 rfl,.inl rfl⟩]
 have hd:=zpY (zac (m+4)) kn (x0:=.lA (ss.map λi=>.int (i:Nat))) (x3:=y3) (x4:=y4) (x5:=y5) (h:=h++[.gone,.gone]) (by lia)
 rw[zao,e1]
 dsimp only
 rw[zao,e2]
 dsimp only
 rw[zao,zgq _ (show eE _ _ (.v 0) _=some (.lA (ss.map λ(i:Nat)=>V.int (i:Nat)),_) from rfl) hit,lp,zdb,x_skip]
 dsimp only
 have hf:za9 [1,2] (.lA (ss.map λ(i:Nat)=>V.int (i:Nat))::.obj h.length::.obj (h.length+1)::y3::y4::y5::R6,h++[.dI (nmD L),.dI (tuD L)])=some (.lA (ss.map λ(i:Nat)=>V.int (i:Nat))::.dI (nmD L)::.dI (tuD L)::y3::y4::y5::R6,h++[.gone,.gone]):=by simp only[zrI,zrH,zdO,zbO,frzOf,Option.map_some,GA,GB,SA,SB,OA,OB,at_0,at_1,st_0,st_1]
 rw[zao,zcW,hf]
 simp only[OA,OB]
 have hc2:eE (zac (m+4)) (.lA (ss.map λ(i:Nat)=>V.int (i:Nat))::.dI (nmD L)::.dI (tuD L)::y3::y4::y5::R6) (.cons (.dcomp 6 (.v 1) (.idx (.v 1) (.v 6)) (.get (.v 1) (.idx (.v 2) (.v 6)) (.c (.str [])))) .nil) (h++[.gone,.gone])=some (.tup [.dS (afD L)],h++[.gone,.gone]):=by rw[zag,hd];rfl
 rw[za2,zbM,zag]
 simp only[GA,GB,OA]
 rw[zaF]
 simp only[GA,GB,OB,hc2,zaH]
 simp only[zaH,GA,GB,OB,OC,List.all_cons,List.all_nil,flat,Bool.and_self,if_true,zcd,Option.map_some]
noncomputable abbrev Ch:=List (List Nat)
noncomputable def cl(cs:List Ch)(k:Nat):Nat:=(cs.getD k []).length
noncomputable def ck(cs:List Ch)(k j:Nat):List Nat:=(cs.getD k []).getD j []
noncomputable def al(cs:List Ch)(j:Nat):List Nat:=(List.range cs.length).filter λk=>decide (j+1<cl cs k)
noncomputable def lv(cs:List Ch):Nat->Nat->List (List Nat)
 |0,_=>[]
 |n+1,j=>(al cs j).map (λk=>ck cs k (j+1))++lv cs n (j+1)
theorem lv_0:lv cs 0 j=[]:=rfl
theorem lv_s:lv cs (n+1) j=(al cs j).map (λk=>ck cs k (j+1))++lv cs n (j+1):=rfl
noncomputable def zfm(f:Nat->Nat)(n:Nat):Nat:=((List.range n).map f).sum
noncomputable def zdT(p:Nat->Bool)(n:Nat):Nat:=((List.range n).filter p).length
theorem sumF_succ(f:Nat->Nat)(n:Nat):zfm f (n+1)=zfm f n+f n:=by unfold zfm;rw[List.range_succ];simp
theorem za1(p:Nat->Bool)(n:Nat):zdT p (n+1)=zdT p n+b01 (p n):=by unfold zdT;refine rwl List.range_succ ?_;rw[List.filter_append];refine rwl List.length_append ?_;generalize q:p n=x0;induction x0 using Bool.casesOn<;>simp[q,b01]
theorem ze5{f g:Nat->Nat}{n:Nat}(h:∀k<n,f k=g k):zfm f n=zfm g n:=by
 induction n with
 |zero=>rfl
 |succ n ih=>rw[sumF_succ,sumF_succ,ih λk hk=>h k (by exact Nat.le_succ_of_le hk),h n (by exact Nat.le_refl _)]
theorem zlN{f g:Nat->Bool}{n:Nat}(h:∀k<n,f k=g k):zdT f n=zdT g n:=by
 induction n with
 |zero=>rfl
 |succ n ih=>rw[za1,za1,ih λk hk=>h k (by exact Nat.le_succ_of_le hk),h n (by exact Nat.le_refl _)]
theorem zlq(f g:Nat->Nat)(p:Nat->Bool)(n:Nat)(h:∀k<n,f k=b01 (p k)+g k):zfm f n=zdT p n+zfm g n:=by
 induction n with
 |zero=>rfl
 |succ n ih=>rw[sumF_succ,sumF_succ,za1,ih λk hk=>h k (by exact Nat.le_succ_of_le hk),h n (by exact Nat.le_refl _)];lia
theorem zrJ(p:Nat->Bool){k:Nat}(hp:p k=true):∀{m:Nat},k<m->((List.range m).filter p)[zdT p k]?=some k:=by
 intro m;induction m with
 |zero=>intro h;lia
 |succ m ih=>
  intro h;refine rwl List.range_succ ?_;rw[List.filter_append];by_cases q:k=m
  ·subst q;refine rwl (List.getElem?_append_right (Nat.le_refl _)) ?_;simp[hp]
  ·have:=ih (by lia);refine rwl (List.getElem?_append_left (List.getElem?_eq_some_iff.mp this).1) ?_;exact this
theorem zpD(p:Nat->Bool):∀{m i:Nat},i<((List.range m).filter p).length->∃k,k<m/\p k=true/\zdT p k=i:=by
 intro m;induction m with
 |zero=>intro i h;exact absurd h (Nat.not_lt_zero _)
 |succ m ih=>
  intro i h;by_cases q:i<((List.range m).filter p).length
  ·refine zgt (ih q) λk h1 h2 h3=>?_;exact zk2 k (by exact Nat.le_succ_of_le h1) h2 h3
  ·rw[List.range_succ,List.filter_append,List.length_append]at h;generalize hp:p m=x0;induction x0 using Bool.casesOn with
   |true=>rw[List.filter_cons_of_pos hp]at h;simp only[List.filter_nil,List.length_cons,List.length_nil]at h;exact zk2 m (by exact Nat.le_refl _) hp (by unfold zdT;lia)
   |false=>rw[List.filter_cons_of_neg (by rw[hp];decide)]at h;simp only[List.filter_nil,List.length_nil]at h;lia
noncomputable def plI(cs:List Ch)(i k j:Nat):Nat:=zfm (λl=>min (cl cs l-1-i) (j-1-i)) cs.length+zdT (λl=>decide (j<cl cs l)) k
theorem zk7(cs:List Ch):∀(n i:Nat),(∀k<cs.length,cl cs k<=n+i+1)->(lv cs n i).length=zfm (λl=>cl cs l-1-i) cs.length:=by
 intro l9;induction l9 with
 |zero=>
  intro i h;refine rwl (ze5 (g:=λ_=>0) λk hk=>by have:=h k hk;lia) ?_;have:∀n,zfm (λ_=>0) n=0:=λn=>by induction n with|zero=>rfl|succ n ih=>rw[sumF_succ,ih]
  rw[this];rfl
 |succ n zk7=>
  intro i h;rw[lv_s,List.length_append,List.length_map];refine rwl (zk7 (i+1) λk hk=>by have:=h k hk;lia) ?_;refine (zlq _ _ _ _ λk hk=>?_).symm;by_cases q:i+1<cl cs k
  ·rw[decide_eq_true q];dsimp only[b01,if_true];lia
  ·rw[decide_eq_false q];dsimp only[b01,Bool.false_eq_true,if_false];lia
theorem zhT(cs:List Ch)(i k:Nat):plI cs i k (i+1)=zdT (λl=>decide (i+1<cl cs l)) k:=by
 unfold plI;refine rwl (ze5 (g:=λ_=>0) λk hk=>by lia) ?_;have:∀n,zfm (λ_=>0) n=0:=λn=>by induction n with|zero=>rfl|succ n ih=>rw[sumF_succ,ih]
 rw[this,Nat.zero_add]
theorem zp2{x y i:Nat}(hx:i<x)(hy:i<y):min (x-i) (y-i)=1+min (x-(i+1)) (y-(i+1)):=by refine rwl (by lia:x-i=1+(x-(i+1))) ?_;refine rwl (by lia:y-i=1+(y-(i+1))) ?_;rw[Nat.add_min_add_left]
theorem zhS(cs:List Ch){i k j:Nat}(h:i+1<j):plI cs i k j=(al cs i).length+plI cs (i+1) k j:=by
 unfold plI;rw[zlq (λl=>min (cl cs l-1-i) (j-1-i)) (λl=>min (cl cs l-1-(i+1)) (j-1-(i+1))) (λk=>decide (i+1<cl cs k)) cs.length λk hk=>?_]
 ·exact Nat.add_assoc _ _ _
 ·by_cases q:i+1<cl cs k
  ·refine rwl (decide_eq_true q) ?_;exact zp2 (Nat.lt_sub_of_add_lt q) (Nat.lt_sub_of_add_lt h)
  ·refine rwl (decide_eq_false q) ?_;refine rwl (by lia:cl cs k-1-i=0) ?_;refine rwl (by lia:cl cs k-1-(i+1)=0) ?_;rfl
theorem zsj(cs:List Ch):∀(n i k j:Nat),k<cs.length->i<j->j<cl cs k->j<=n+i->(lv cs n i)[plI cs i k j]?=some (ck cs k j):=by
 intro l9;induction l9 with
 |zero=>intro i k j hk h1 h2 h3;lia
 |succ n zsj=>
  intro i k j hk h1 h2 h3;by_cases q:j=i+1
  ·subst q;rw[zhT];have:=zrJ (λl=>decide (i+1<cl cs l)) (decide_eq_true h2) hk;refine rwl (List.getElem?_append_left (by rw[List.length_map];exact(List.getElem?_eq_some_iff.mp this).1)) ?_;refine rwl List.getElem?_map ?_;refine rwl this ?_;rfl
  ·refine rwl (zhS cs (by lia)) ?_;refine rwl (List.getElem?_append_right (by rw[List.length_map];exact Nat.le_add_right _ _)) ?_;rw[List.length_map,Nat.add_sub_cancel_left];exact zsj (i+1) k j hk (by lia) h2 (by lia)
theorem zn7(cs:List Ch):∀(n i p:Nat),p<(lv cs n i).length->∃k j,k<cs.length/\i<j/\j<cl cs k/\plI cs i k j=p:=by
 intro l9;induction l9 with
 |zero=>intro i p h;exact absurd h (Nat.not_lt_zero _)
 |succ n zn7=>
  intro i p h;rw[lv_s,List.length_append,List.length_map]at h;by_cases q:p<(al cs i).length
  ·refine zrc λX kX=>?_;refine zgt (zpD (λl=>decide (i+1<cl cs l)) (m:=cs.length) (i:=p) q) λk h1 h2 h3=>?_;exact kX k (i+1) h1 (by exact Nat.le_refl _) (of_decide_eq_true h2) (by rw[zhT];exact h3)
  ·refine zrc λX kX=>?_;refine zbp (zn7 (i+1) (p-(al cs i).length) (by omega)) λk j h1 h2 h3 h4=>?_;exact kX k j h1 (by exact Nat.le_of_lt h2) h3 (by rw[zhS cs h2,h4];lia)
noncomputable def zd0(cs:List Ch)(k j:Nat):Nat:=plI cs 0 k j
noncomputable def zqp(cs:List Ch)(k:Nat)(js:List Nat)(U:List (List Nat)):List (List Nat):=js.foldl (λU j=>U.set (zd0 cs k j) (ck cs k j)) U
noncomputable def zoX(cs:List Ch)(ks:List Nat)(U:List (List Nat)):List (List Nat):=ks.foldl (λU k=>zqp cs k ((List.range (cl cs k-1)).map (1+·)) U) U
theorem zex(cs:List Ch)(k:Nat):∀(js:List Nat) (U:List (List Nat)),(zqp cs k js U).length=U.length:=by
 intro l9;induction l9 with
 |nil=>intro _;exact rfl
 |cons j js zex=>intro U;have:=zex (U.set (zd0 cs k j) (ck cs k j));rw[List.length_set]at this;exact this
theorem zgo(cs:List Ch):∀(ks:List Nat) (U:List (List Nat)),(zoX cs ks U).length=U.length:=by
 intro l9;induction l9 with
 |nil=>intro _;exact rfl
 |cons k ks zgo=>intro U;have:=zgo (zqp cs k ((List.range (cl cs k-1)).map (1+·)) U);rw[zex]at this;exact this
def Told(cs:List Ch)(T:List (List Nat)):Prop:=∀k j,k<cs.length->0<j->j<cl cs k->T[zd0 cs k j]?=some (ck cs k j)
theorem zew{cs:List Ch}{T:List (List Nat)}(hT:Told cs T){k:Nat}(hk:k<cs.length):∀(js:List Nat) (U:List (List Nat)) (p:Nat),(∀j∈js,0<j/\j<cl cs k)->U.length=T.length->(U[p]?=T[p]? \/∃j∈js,zd0 cs k j=p)->(zqp cs k js U)[p]?=T[p]? :=by
 intro l9;induction l9 with
 |nil=>intro U p _ _ h;exact h.elim id λ⟨_,hj,_⟩=>nomatch hj
 |cons j js zew=>
  intro U p hj hl h;have hlt:=(List.getElem?_eq_some_iff.mp (hT k j hk (hj j (.head _)).1 (hj j (.head _)).2)).1;refine zew (U.set (zd0 cs k j) (ck cs k j)) p (λx hx=>hj x (.tail _ hx)) (by rw[List.length_set];exact hl) ?_;by_cases q:zd0 cs k j=p
  ·left;refine rwr q ?_;refine rwl (List.getElem?_set_self (by lia)) ?_;exact rwl (hT k j hk (hj j (.head _)).1 (hj j (.head _)).2) rfl
  ·refine rwl (List.getElem?_set_ne q) ?_;rcases h with h|⟨x,hx,e⟩
   ·exact .inl h
   ·rcases List.mem_cons.mp hx with rfl|hx
    ·exact absurd e q
    ·exact .inr ⟨x,hx,e⟩
theorem ze7{cs:List Ch}{T:List (List Nat)}(hT:Told cs T):∀(ks:List Nat) (U:List (List Nat)) (p:Nat),(∀k∈ks,k<cs.length)->U.length=T.length->(U[p]?=T[p]? \/∃k∈ks,∃j,0<j/\j<cl cs k/\zd0 cs k j=p)->(zoX cs ks U)[p]?=T[p]? :=by
 intro l9;induction l9 with
 |nil=>intro U p _ _ h;exact h.elim id λ⟨_,hk,_⟩=>nomatch hk
 |cons k ks ze7=>
  intro U p hk hl h;have hkk:=hk k (.head _);have hjs:∀j∈(List.range (cl cs k-1)).map (1+·),0<j/\j<cl cs k:=λj hj=>by refine xea (List.mem_map.mp hj) λi hi x0=>?_;subst x0;have:=List.mem_range.mp hi;omega
  refine ze7 (zqp cs k ((List.range (cl cs k-1)).map (1+·)) U) p (λx hx=>hk x (.tail _ hx)) (by rw[zex];exact hl) ?_;rcases h with h|⟨x,hx,j,h1,h2,e⟩
  ·exact .inl (zew hT hkk _ U p hjs hl (.inl h))
  ·rcases List.mem_cons.mp hx with rfl|hx
   ·exact .inl (zew hT hkk _ U p hjs hl (.inr ⟨j,List.mem_map.mpr ⟨j-1,List.mem_range.mpr (by omega),by omega⟩,e⟩))
   ·exact .inr ⟨x,hx,j,h1,h2,e⟩
theorem zn8(cs:List Ch)(h10:∀k<cs.length,cl cs k<=10):Told cs (lv cs 9 0):=λk j hk h0 h1=>zsj cs 9 0 k j hk h0 h1 (by have:=h10 k hk;exact lnB 1 0 0 10 0 9 h1 this rfl)
theorem zqq(cs:List Ch)(h10:∀k<cs.length,cl cs k<=10){U:List (List Nat)}(hU:U.length=(lv cs 9 0).length):zoX cs (List.range cs.length) U=lv cs 9 0:=by
 refine List.ext_getElem? λp=>?_;by_cases q:p<(lv cs 9 0).length
 ·refine zbp (zn7 cs 9 0 p q) λk j h1 h2 h3 h4=>?_;exact ze7 (zn8 cs h10) _ U p (λk hk=>List.mem_range.mp hk) hU (.inr ⟨k,List.mem_range.mpr h1,j,h2,h3,h4⟩)
 ·refine rwl (List.getElem?_eq_none (by rw[zgo];lia)) ?_;exact rwl (List.getElem?_eq_none (by exact Nat.le_of_not_lt q)) rfl
noncomputable def chV(cs:List Ch):List V:=cs.map λc=>V.lA (c.map .str)
structure Chs (cs:List Ch):Prop where
 n:cs.length<=4
 l:∀c∈cs,0<c.length/\c.length<=10
theorem take_range(cs:List Ch){k:Nat}(hk:k<=cs.length):cs.take k=(List.range k).map λl=>cs.getD l []:=by
 refine List.ext_getElem? λi=>?_;refine rwl List.getElem?_map ?_;refine rwl List.getElem?_take ?_;by_cases q:i<k
 ·refine rwl (if_pos q) ?_;refine rwl (List.getElem?_range q) ?_;rw[Option.map_some];refine rwl List.getD_eq_getElem?_getD ?_;refine rwl (List.getElem?_eq_getElem (by exact Nat.le_trans q hk)) ?_;rfl
 ·refine rwl (if_neg q) ?_;refine rwl (List.getElem?_eq_none (by rw[List.length_range];exact Nat.le_of_not_lt q)) ?_;rfl
theorem zdi(cs:List Ch){β:Type}(f:Ch->β):cs.map f=(List.range cs.length).map λl=>f (cs.getD l []):=by have:=take_range cs (Nat.le_refl _);rw[List.take_length]at this;refine rwl this ?_;refine rwl List.map_map ?_;refine rwr this ?_;rfl
theorem zfz:∀l:List Nat,(l.map λ(n:Nat)=>(n:Int)).sum=((l.sum:Nat):Int):=by
 intro l9;induction l9 with
 |nil=>exact rfl
 |cons x r zfz=>exact by rw[List.map_cons,List.sum_cons,zfz,List.sum_cons];exact rfl
theorem Chs.at{cs:List Ch}(h:Chs cs){k:Nat}(hk:k<cs.length):0<cl cs k/\cl cs k<=10:=by
 have:cs.getD k []∈cs:=by rw[List.getD_eq_getElem?_getD,List.getElem?_eq_getElem hk];exact List.getElem_mem hk
 exact h.l _ this
theorem zkJ{cs:List Ch}{k:Nat}(hk:k<cs.length):(chV cs)[k]?=some (.lA ((cs.getD k []).map .str)):=by refine rwl List.getElem?_map ?_;refine rwl List.getD_eq_getElem?_getD ?_;refine rwl (List.getElem?_eq_getElem hk) ?_;rfl
theorem ck_at{cs:List Ch}{k j:Nat}(hj:j<cl cs k):(cs.getD k [])[j]?=some (ck cs k j):=by have hj':j<(cs.getD k []).length:=hj;unfold ck;generalize cs.getD k []=c at*;refine rwl List.getD_eq_getElem?_getD ?_;refine rwl (List.getElem?_eq_getElem hj') ?_;rfl
theorem zeh{cs:List Ch}(hc:Chs cs)(t:Nat):zak [t] (.lA (chV cs))=some (cs.map λc=>V.lA (c.map .str)):=by unfold zak;simp only[zaN,OB];refine rwl (if_pos ⟨by unfold chV;rw[List.length_map];have:=hc.n;exact lnB 0 4 1000 0 0 0 this (by decide:1000<=zad) rfl,.inl rfl⟩) ?_;rfl
noncomputable def trE1:E:=(.sum (.comp [5] (.v 0) (.c (.bool true)) (.min2 (.bin .Sub (.len (.v 5)) (.c (.int 1))) (.bin .Sub (.v 3) (.c (.int 1))))))
noncomputable def trE2:E:=(.len (.comp [5] (.slc (.v 0) (.c .none) (.v 2)) (.cmp .Gt (.len (.v 5)) (.v 3)) (.v 5)))
noncomputable def trB1:S:=(.asg 4 trE1)
noncomputable def trB2:S:=(.asg 4 (.bin .Add (.v 4) trE2))
noncomputable def trB3:S:=(.setI (.v 1) (.v 4) (.idx (.idx (.v 0) (.v 2)) (.v 3)))
noncomputable def trB:S:=(.seq trB1 (.seq trB2 (.seq trB3 .skip)))
theorem zqn(Φ:PA){cs:List Ch}(hc:Chs cs){j:Nat}(hj:0<j){x1 x2 x4:V}{h:H}:
  eE Φ (.lA (chV cs)::x1::x2::.int (j:Nat)::x4::R6) trE1 h=some (.int ((zfm (λl=>min (cl cs l-1-0) (j-1-0)) cs.length:Nat):Int),h):=by
 have e:=zgw Φ (tA:=[5]) (it:=.v 0) (elt:=.min2 (.bin .Sub (.len (.v 5)) (.c (.int 1))) (.bin .Sub (.v 3) (.c (.int 1)))) (vs:=.lA (chV cs)::x1::x2::.int (j:Nat)::x4::R6) (h:=h) (xs:=cs)
  (λc=>V.lA (c.map .str)) (λc=>.int ((min (c.length-1) (j-1):Nat):Int)) (v:=.lA (chV cs)) rfl (zeh hc 5) λc hcm=>by have hl:=hc.l c hcm;have hln:=zax h (vs:=c.map .str) (by rw[List.length_map];exact lnB 0 10 1000 0 0 0 hl.2 (by decide:1000<=zad) rfl);rw[List.length_map]at hln;refine zk2 (.lA (chV cs)::x1::x2::.int (j:Nat)::x4::.lA (c.map .str)::List.replicate 5 .uA) rfl ?_ rfl;simp only[zbL,zaF,zaz,zaV,zcm,zfl,GA,GB,OA,OB,OC,hln,zha,(by split<;>lia:(if((j:Nat):Int)-1<((c.length:Nat):Int)-1 then((j:Nat):Int)-1 else((c.length:Nat):Int)-1)=((min (c.length-1) (j-1):Nat):Int))]
 have hm:cs.map (λc=>V.int ((min (c.length-1) (j-1):Nat):Int))=((cs.map λc=>min (c.length-1) (j-1)).map λ(n:Nat)=>(n:Int)).map .int:=by rw[List.map_map,List.map_map];rfl
 have hsum:(cs.map λc=>min (c.length-1) (j-1)).sum=zfm (λl=>min (cl cs l-1-0) (j-1-0)) cs.length:=by rw[zdi cs];rfl
 rw[hm]at e
 refine rwl zcV ?_;refine rwl e ?_
 simp only[OA,OB,sumL,zfz,OC,hsum,zdY]
theorem zqo(Φ:PA){cs:List Ch}(hc:Chs cs){j k:Nat}(hk:k<=cs.length){x1 x4:V}{h:H}:
  eE Φ (.lA (chV cs)::x1::.int (k:Nat)::.int (j:Nat)::x4::R6) trE2 h=some (.int ((zdT (λl=>decide (j<cl cs l)) k:Nat):Int),h):=by
 have hs:1000<=zad:=by decide
 have hn:=hc.n
 have hsl:eE Φ (.lA (chV cs)::x1::.int (k:Nat)::.int (j:Nat)::x4::R6) (.slc (.v 0) (.c .none) (.v 2)) h=some (.lA ((cs.take k).map λc=>V.lA (c.map .str)),h):=by
  have:zeu (.lA (chV cs)) .none (.int (k:Nat))=some (.lA ((cs.take k).map λc=>V.lA (c.map .str))):=by unfold chV;refine rwl (sl_l rfl rfl (by rw[List.length_map];exact lnB 0 4 1000 0 0 0 hn hs rfl)) ?_;rw[zjE,List.map_take]
  nomatch this
 have e:=zfM Φ (tA:=[5]) (it:=.slc (.v 0) (.c .none) (.v 2)) (cond:=.cmp .Gt (.len (.v 5)) (.v 3)) (elt:=.v 5) (vs:=.lA (chV cs)::x1::.int (k:Nat)::.int (j:Nat)::x4::R6) (h:=h) (xs:=cs.take k)
  (λc=>V.lA (c.map .str)) (λc=>if decide (j<c.length)=true then some (V.lA (c.map .str)) else none) hsl (by unfold zak;simp only[zaN,OB];rw[if_pos ⟨by rw[List.length_map,List.length_take];exact lnB 0 0 1000 4 0 0 (Nat.min_le_right _ _) (lnB 0 4 1000 0 1000 4 hn hs rfl) rfl,.inl rfl⟩]) λc hcm=>by
   refine zeB λX kX=>?_;have hln:=zax h (vs:=c.map .str) (by rw[List.length_map];exact lnB 0 10 1000 0 0 0 (hc.l c (List.mem_of_mem_take hcm)).2 hs rfl);rw[List.length_map]at hln;have hd:decide (((j:Nat):Int)<((c.length:Nat):Int))=decide (j<c.length):=by rw[decide_eq_decide];lia
   refine kX (.lA (chV cs)::x1::.int (k:Nat)::.int (j:Nat)::x4::.lA (c.map .str)::List.replicate 5 .uA) (.bool (decide (j<c.length))) (decide (j<c.length)) rfl ?_ rfl (λq=>⟨.lA (c.map .str),rfl,rfl,by rw[if_pos q]⟩) (λq=>by rw[if_neg (by rw[q];decide)]);nomatch hln,zqD,hd
 have hcnt:((cs.take k).filterMap λc=>if decide (j<c.length)=true then some (V.lA (c.map .str)) else none).length=zdT (λl=>decide (j<cl cs l)) k:=by
  have h1:∀l:List Ch,(l.filterMap λc=>if decide (j<c.length)=true then some (V.lA (c.map .str)) else none).length=(l.filter λc=>decide (j<c.length)).length:=by
   intro l;induction l with
   |nil=>rfl
   |cons c r ih=>
    generalize q:decide (j<c.length)=x0;induction x0 using Bool.casesOn with
    |true=>rw[List.filterMap_cons_some (b:=V.lA (c.map .str)) (by rw[if_pos q]),List.filter_cons,if_pos q,List.length_cons,List.length_cons,ih]
    |false=>rw[List.filterMap_cons_none (by rw[if_neg (by rw[q];decide)]),List.filter_cons,if_neg (by rw[q];decide),ih]
  rw[h1,take_range cs hk,List.filter_map,List.length_map];rfl
 have hlen:=zax h (vs:=(cs.take k).filterMap λc=>if decide (j<c.length)=true then some (V.lA (c.map .str)) else none) (by have h1:=List.length_filterMap_le (λc=>if decide (j<c.length)=true then some (V.lA (c.map V.str)) else none) (cs.take k);rw[List.length_take]at h1;lia)
 rw[hcnt]at hlen
 refine rwl zaV ?_;refine rwl e ?_
 simp only[OA,OB,hlen,OC]
theorem zsX(Φ:PA){cs:List Ch}(hc:Chs cs){T:List (List Nat)}(hT:Told cs T){k j i:Nat}{U:List (List Nat)}(hk:k<cs.length)(hj:0<j/\j<cl cs k)(hU:U.length=T.length)(hz:T.length<=1000){x4:V}{h:H}(hi:h[i]?=some (.list (U.map .str))):
  eF Φ trB (.lA (chV cs)::.obj i::.int (k:Nat)::.int (j:Nat)::x4::R6,h)=some (.next,.lA (chV cs)::.obj i::.int (k:Nat)::.int (j:Nat)::.int (zd0 cs k j:Nat)::R6,h.set i (.list ((U.set (zd0 cs k j) (ck cs k j)).map .str))):=by
 have hs:1000<=zad:=by decide
 have e1:=zqn Φ hc hj.1 (x1:=.obj i) (x2:=.int (k:Nat)) (x4:=x4) (h:=h)
 have e2:=zqo Φ hc (j:=j) (k:=k) (by exact Nat.le_of_lt hk) (x1:=.obj i) (x4:=.int ((zfm (λl=>min (cl cs l-1-0) (j-1-0)) cs.length:Nat):Int)) (h:=h)
 have hp:((zfm (λl=>min (cl cs l-1-0) (j-1-0)) cs.length:Nat):Int)+((zdT (λl=>decide (j<cl cs l)) k:Nat):Int)=((zd0 cs k j:Nat):Int):=by unfold zd0 plI;exact rfl
 have hpl:zd0 cs k j<U.length:=by rw[hU];exact(List.getElem?_eq_some_iff.mp (hT k j hk hj.1 hj.2)).1
 generalize ((zfm (λl=>min (cl cs l-1-0) (j-1-0)) cs.length:Nat):Int)=s1 at*
 generalize zd0 cs k j=p at*
 have i1:=zbh h (vs:=chV cs) (rfl:((k:Nat):Int)=_) (zkJ hk) (by unfold chV;rw[List.length_map];exact lnB 0 4 1000 0 0 0 hc.n hs rfl)
 have i2:=zbh h (vs:=(cs.getD k []).map .str) (rfl:((j:Nat):Int)=_) (v:=.str (ck cs k j)) (by rw[List.getElem?_map,ck_at hj.2];rfl) (by rw[List.length_map];show cl cs k<=zad;exact lnB 0 10 1000 0 0 0 (hc.at hk).2 hs rfl)
 have st:=zh1 hi (x:=.str (ck cs k j)) (rfl:((p:Nat):Int)=_) (by rw[List.length_map];exact hpl) (by rw[List.length_map];lia) rfl
 rw[<-List.map_set]at st
 have b1:eF Φ trB1 (.lA (chV cs)::.obj i::.int (k:Nat)::.int (j:Nat)::x4::R6,h)=some (.next,.lA (chV cs)::.obj i::.int (k:Nat)::.int (j:Nat)::.int s1::R6,h):=by refine rwl zaw ?_;refine rwl e1 ?_;rfl
 have b2:eF Φ trB2 (.lA (chV cs)::.obj i::.int (k:Nat)::.int (j:Nat)::.int s1::R6,h)=some (.next,.lA (chV cs)::.obj i::.int (k:Nat)::.int (j:Nat)::.int (p:Nat)::R6,h):=by simp only[trB2,zaw,zaF,zaz,GA,GB,OA,OB,OC,SA,SB,e2,zc2,hp]
 have b3:eF Φ trB3 (.lA (chV cs)::.obj i::.int (k:Nat)::.int (j:Nat)::.int (p:Nat)::R6,h)=some (.next,.lA (chV cs)::.obj i::.int (k:Nat)::.int (j:Nat)::.int (p:Nat)::R6,h.set i (.list ((U.set p (ck cs k j)).map .str))):=by simp only[trB3,zbR,zaF,zar,GA,GB,OA,OB,OC,i1,i2,st]
 rw[trB,zao];refine rwl b1 ?_
 dsimp only
 rw[zao];refine rwl b2 ?_
 dsimp only
 rw[zao];refine rwl b3 ?_
 dsimp only
 rw[x_skip]
theorem zic(Φ:PA){cs:List Ch}(hc:Chs cs){T:List (List Nat)}(hT:Told cs T){k i:Nat}(hk:k<cs.length)(hz:T.length<=1000):∀(js:List Nat) (U:List (List Nat)) (x3 x4:V) (h:H),(∀j∈js,0<j/\j<cl cs k)->U.length=T.length->h[i]?=some (.list (U.map .str))->∃y3 y4,
  zbZ (eF Φ trB) [3] (js.map λj=>.int (j:Nat)) (.lA (chV cs)::.obj i::.int (k:Nat)::x3::x4::R6,h)=some (none,.lA (chV cs)::.obj i::.int (k:Nat)::y3::y4::R6,h.set i (.list ((zqp cs k js U).map .str))):=by
 intro l9;induction l9 with
 |nil=>intro U x3 x4 h _ _ hi;exact⟨x3,x4,by rw[show zqp cs k [] U=U from rfl,zfy hi];rfl⟩
 |cons j js zic=>intro U x3 x4 h hj hU hi;have hb:=zsX Φ hc hT hk (hj j (.head _)) hU hz (x4:=x4) hi;obtain⟨y3,y4,e⟩:=zic (U.set (zd0 cs k j) (ck cs k j)) (.int (j:Nat)) (.int (zd0 cs k j:Nat)) _ (λx hx=>hj x (.tail _ hx)) (by rw[List.length_set];exact hU) (List.getElem?_set_self ((List.getElem?_eq_some_iff.mp hi).1));refine iee y3 y4 ?_;refine rwl List.map_cons ?_;refine rwl (zf3 rfl hb) ?_;refine rwl e ?_;rw[List.set_set];rfl
noncomputable def zlt:S:=(.seq (.fors [3] (.rg (.cons (.c (.int 1)) (.cons (.len (.idx (.v 0) (.v 2))) .nil))) trB .skip) .skip)
theorem zid(Φ:PA){cs:List Ch}(hc:Chs cs){T:List (List Nat)}(hT:Told cs T){i:Nat}(hz:T.length<=1000):∀(ks:List Nat) (U:List (List Nat)) (x2 x3 x4:V) (h:H),(∀k∈ks,k<cs.length)->U.length=T.length->h[i]?=some (.list (U.map .str))->∃y2 y3 y4,
  zbZ (eF Φ zlt) [2] (ks.map λj=>.int (j:Nat)) (.lA (chV cs)::.obj i::x2::x3::x4::R6,h)=some (none,.lA (chV cs)::.obj i::y2::y3::y4::R6,h.set i (.list ((zoX cs ks U).map .str))):=by
 intro l9;induction l9 with
 |nil=>intro U x2 x3 x4 h _ _ hi;exact⟨x2,x3,x4,by rw[show zoX cs [] U=U from rfl,zfy hi];rfl⟩
 |cons k ks zid=>
  intro U x2 x3 x4 h hk hU hi;refine zdy λX kX=>?_;have hs:1000<=zad:=by decide
  have hkk:=hk k (.head _);have hkl:=hc.at hkk;have hjs:∀j∈(List.range (cl cs k-1)).map (1+·),0<j/\j<cl cs k:=λj hj=>by refine xea (List.mem_map.mp hj) λi hi x0=>?_;subst x0;have:=List.mem_range.mp hi;lia
  refine xee (zic Φ hc hT hkk hz ((List.range (cl cs k-1)).map (1+·)) U x3 x4 h hjs hU hi) λy3 y4 e=>?_;obtain⟨z2,z3,z4,e2⟩:=zid (zqp cs k ((List.range (cl cs k-1)).map (1+·)) U) (.int (k:Nat)) y3 y4 _ (λx hx=>hk x (.tail _ hx)) (by rw[zex];exact hU) (List.getElem?_set_self ((List.getElem?_eq_some_iff.mp hi).1));refine kX ?_;refine ieee z2 z3 z4 ?_;have i1:=zbh h (vs:=chV cs) (rfl:((k:Nat):Int)=_) (zkJ hkk) (by unfold chV;rw[List.length_map];exact lnB 0 4 1000 0 0 0 hc.n hs rfl);have hln:=zax h (vs:=(cs.getD k []).map .str) (by rw[List.length_map];show cl cs k<=zad;exact lnB 0 10 1000 0 0 0 hkl.2 hs rfl);rw[List.length_map]at hln;have ev:eE Φ (.lA (chV cs)::.obj i::.int (k:Nat)::x3::x4::R6) (.rg (.cons (.c (.int 1)) (.cons (.len (.idx (.v 0) (.v 2))) .nil))) h=some (.rng (1:Nat) (cl cs k:Nat) 1,h):=by simp only[zbL,zaF,zaV,zcI,zar,zap,zag,zaH,zpc,GA,GB,OA,OB,OC,i1,hln];rfl
  have hit:=zgV 3 (a:=1) (b:=cl cs k) (by decide) (by exact Nat.le_trans hkl.2 (by decide));have hmm:((List.range (cl cs k-1)).map λi=>V.int ((1+i:Nat):Int))=((List.range (cl cs k-1)).map (1+·)).map λj=>.int (j:Nat):=by rw[List.map_map];rfl
  rw[hmm]at hit;have hb:eF Φ zlt (.lA (chV cs)::.obj i::.int (k:Nat)::x3::x4::R6,h)=some (.next,.lA (chV cs)::.obj i::.int (k:Nat)::y3::y4::R6,h.set i (.list ((zqp cs k ((List.range (cl cs k-1)).map (1+·)) U).map .str))):=by rw[zlt,zao,zgq _ ev hit,e,zdb,x_skip];dsimp only;rw[x_skip]
  refine rwl List.map_cons ?_;refine rwl (zf3 rfl hb) ?_;refine rwl e2 ?_;rw[List.set_set];rfl
noncomputable def za7(cs:List Ch):List (List Nat):=lv cs 9 0
theorem zls(cs:List Ch)(hc:Chs cs):(za7 cs).length=(cs.map λc=>c.length-1).sum:=by refine rwl (zk7 cs 9 0 λk hk=>by have:=hc.at hk;exact this.2) ?_;rw[zdi cs];rfl
theorem zgm(cs:List Ch)(hc:Chs cs):(za7 cs).length<=36:=by
 refine rwl (zk7 cs 9 0 λk hk=>by have:=hc.at hk;exact this.2) ?_;have h:∀n,n<=cs.length->zfm (λl=>cl cs l-1-0) n<=9*n:=by
  intro n;induction n with
  |zero=>intro _;exact Nat.le_refl _
  |succ n ih=>intro hn;rw[sumF_succ];have:=ih (by exact Nat.le_of_lt hn);have:=hc.at (k:=n) (by exact hn);lia
 have:=h cs.length (Nat.le_refl _);have:=hc.n;lia
theorem zje(m:Nat){cs:List Ch}(hc:Chs cs){h:H}(w:WF h):zac (m+1) 20 [.lA (chV cs)] h=some (.lA ((za7 cs).map .str),h):=by
 have hs:1000<=zad:=by decide
 have hn:=hc.n;have h10:∀k<cs.length,cl cs k<=10:=λk hk=>(hc.at hk).2;have htl:=zgm cs hc;have hN:(cs.map λc=>c.length-1).sum=(za7 cs).length:=(zls cs hc).symm;have hi:(h++[Ob.list ((List.replicate (za7 cs).length ([]:List Nat)).map V.str)])[h.length]?=some (.list ((List.replicate (za7 cs).length ([]:List Nat)).map V.str)):=by simp
 refine xeee (zid (zac m) hc (T:=za7 cs) (zn8 cs h10) (i:=h.length) (by omega) (List.range cs.length) (List.replicate (za7 cs).length []) .uA .uA .uA _ (λk hk=>List.mem_range.mp hk) (by rw[List.length_replicate]) hi) λy2 y3 y4 lp=>?_;rw[zqq cs h10 (by rw[List.length_replicate];rfl),show lv cs 9 0=za7 cs from rfl]at lp;refine zbf zmf (fl:=.ret (.lA ((za7 cs).map .str))) (h':=h++[.gone]) ?_ (by simp) rfl w rfl ⟨rfl,rfl⟩;show zcd (eF (zac m) (.seq (.asgM 1 (.bin .Mult (.lA (.cons (.c (.str [])) .nil)) (.sum (.comp [5] (.v 0) (.c (.bool true)) (.bin .Sub (.len (.v 5)) (.c (.int 1))))))) (.seq (.fors [2] (.rg (.cons (.len (.v 0)) .nil)) zlt .skip) (.seq (.frz [1] (.ret (.v 1))) .skip)))
  (.lA (chV cs)::.uA::.uA::.uA::.uA::R6,h))=_
 have hsum:eE (zac m) (.lA (chV cs)::.uA::.uA::.uA::.uA::R6) (.sum (.comp [5] (.v 0) (.c (.bool true)) (.bin .Sub (.len (.v 5)) (.c (.int 1))))) h=some (.int ((za7 cs).length:Nat),h):=by
  have e:=zgw (zac m) (tA:=[5]) (it:=.v 0) (elt:=.bin .Sub (.len (.v 5)) (.c (.int 1))) (vs:=.lA (chV cs)::.uA::.uA::.uA::.uA::R6) (h:=h) (xs:=cs)
   (λc=>V.lA (c.map .str)) (λc=>.int ((c.length-1:Nat):Int)) (v:=.lA (chV cs)) rfl (zeh hc 5) λc hcm=>by
    have hl:=hc.l c hcm;have hln:=zax h (vs:=c.map .str) (by rw[List.length_map];exact lnB 0 10 1000 0 0 0 hl.2 hs rfl);rw[List.length_map]at hln;refine⟨.lA (chV cs)::.uA::.uA::.uA::.uA::.lA (c.map .str)::List.replicate 5 .uA,rfl,?_,rfl⟩;have q:((c.length:Nat):Int)-1=((c.length-1:Nat):Int):=by lia
    simp only[zbL,zaF,zaz,zaV,GA,GB,OA,OB,OC,hln,zha,q]
  have hm:cs.map (λc=>V.int ((c.length-1:Nat):Int))=((cs.map λc=>c.length-1).map λ(n:Nat)=>(n:Int)).map .int:=by rw[List.map_map,List.map_map];rfl
  rw[hm]at e;rw[zcV,e];simp only[OA,OB,sumL,zfz,OC,hN,zdY]
 have hmul:zaU .Mult h (.lA [.str []]) (.int ((za7 cs).length:Nat))=some (.lA ((List.replicate (za7 cs).length ([]:List Nat)).map V.str)):=by refine (fit (by lia):zil _ _=_).trans ?_;rw[Int.toNat_natCast,List.map_replicate]
 have e1:eF (zac m) (.asgM 1 (.bin .Mult (.lA (.cons (.c (.str [])) .nil)) (.sum (.comp [5] (.v 0) (.c (.bool true)) (.bin .Sub (.len (.v 5)) (.c (.int 1))))))) (.lA (chV cs)::.uA::.uA::.uA::.uA::R6,h)=
   some (.next,.lA (chV cs)::.obj h.length::.uA::.uA::.uA::R6,h++[Ob.list ((List.replicate (za7 cs).length ([]:List Nat)).map V.str)]):=by
  have hl1:eE (zac m) (.lA (chV cs)::.uA::.uA::.uA::.uA::R6) (.lA (.cons (.c (.str [])) .nil)) h=some (.lA [.str []],h):=rfl
  rw[zb5,zaz,hl1]
  simp only[OA,OB,hsum,hmul,OC,zjd,SA,SB]
 have ev:eE (zac m) (.lA (chV cs)::.obj h.length::.uA::.uA::.uA::R6) (.rg (.cons (.len (.v 0)) .nil)) (h++[Ob.list ((List.replicate (za7 cs).length ([]:List Nat)).map V.str)])=some (.rng 0 (cs.length:Nat) 1,h++[Ob.list ((List.replicate (za7 cs).length ([]:List Nat)).map V.str)]):=by have hln:=zax (h++[Ob.list ((List.replicate (za7 cs).length ([]:List Nat)).map V.str)]) (vs:=chV cs) (by unfold chV;rw[List.length_map];exact lnB 0 4 1000 0 0 0 hn hs rfl);rw[show (chV cs).length=cs.length by unfold chV;rw[List.length_map]]at hln;simp only[zaF,zaV,zcI,zap,zag,zaH,zjk,GA,GB,OA,OB,OC,hln]
 rw[zao,e1];dsimp only;rw[zao,zgq _ ev (zaK 2 (by exact Nat.le_trans hn (by decide))),lp,zdb,x_skip];dsimp only;have hset:(h++[Ob.list ((List.replicate (za7 cs).length ([]:List Nat)).map V.str)]).set h.length (.list ((za7 cs).map .str))=h++[.list ((za7 cs).map .str)]:=by rw[List.set_append_right _ _ (Nat.le_refl _)];simp
 have hg:(h++[Ob.list ((za7 cs).map V.str)])[h.length]?=some (.list ((za7 cs).map .str)):=by simp
 have hset2:(h++[Ob.list ((za7 cs).map V.str)]).set h.length .gone=h++[.gone]:=by rw[List.set_append_right _ _ (Nat.le_refl _)];simp
 rw[hset];simp only[zaJ,za2,zcW,zaF,GA,GB,OA,OB,OC,SA,SB,zrI,zrH,zdO,zbO,frzOf,Option.map_some,hg,hset2,zcd,Option.map_some]
noncomputable def zrT(lt:Nat->Nat->Bool):Nat->List Nat->Nat->Nat->Nat->Nat×List Nat
 |0,ps,_,pos,_=>(pos,ps)
 |n+1,ps,st,pos,x=>if st<pos then(if lt x (ps.getD ((pos-1)/2) 9)=true then zrT lt n (ps.set pos (ps.getD ((pos-1)/2) 9)) st ((pos-1)/2) x else(pos,ps)) else(pos,ps)
theorem gsd_s:zrT lt (n+1) ps st pos x=if st<pos then(if lt x (ps.getD ((pos-1)/2) 9)=true then zrT lt n (ps.set pos (ps.getD ((pos-1)/2) 9)) st ((pos-1)/2) x else(pos,ps)) else(pos,ps):=rfl
noncomputable def gsdM(lt:Nat->Nat->Bool)(ps:List Nat)(st pos:Nat):List Nat:=(zrT lt 200 ps st pos (ps.getD pos 9)).2.set (zrT lt 200 ps st pos (ps.getD pos 9)).1 (ps.getD pos 9)
noncomputable def gsuC(lt:Nat->Nat->Bool)(ps:List Nat)(e c:Nat):Nat:=if c+1<e/\lt (ps.getD c 9) (ps.getD (c+1) 9)=false then c+1 else c
noncomputable def zqL(lt:Nat->Nat->Bool):Nat->List Nat->Nat->Nat->Nat×List Nat
 |0,ps,_,pos=>(pos,ps)
 |n+1,ps,e,pos=>if 2*pos+1<e then zqL lt n (ps.set pos (ps.getD (gsuC lt ps e (2*pos+1)) 9)) e (gsuC lt ps e (2*pos+1)) else(pos,ps)
theorem gsu_s:zqL lt (n+1) ps e pos=if 2*pos+1<e then zqL lt n (ps.set pos (ps.getD (gsuC lt ps e (2*pos+1)) 9)) e (gsuC lt ps e (2*pos+1)) else(pos,ps):=rfl
noncomputable def gsuM(lt:Nat->Nat->Bool)(ps:List Nat)(pos:Nat):List Nat:=gsdM lt ((zqL lt 200 ps ps.length pos).2.set (zqL lt 200 ps ps.length pos).1 (ps.getD pos 9)) pos (zqL lt 200 ps ps.length pos).1
noncomputable def zfV(lt:Nat->Nat->Bool)(ps:List Nat):Nat×List Nat:=if ps.dropLast.isEmpty=true then(ps.getLastD 9,[]) else(ps.dropLast.getD 0 9,gsuM lt (ps.dropLast.set 0 (ps.getLastD 9)) 0)
noncomputable def zk0(lt:Nat->Nat->Bool)(ps:List Nat)(x:Nat):Nat×List Nat:=(ps.getD 0 9,gsuM lt (ps.set 0 x) 0)
section
variable {f:Nat->P2}(f9:f 9=(0,0))
include f9
theorem zfU(ps:List Nat)(j:Nat):(ps.map f).getD j (0,0)=f (ps.getD j 9):=by
 refine rwl List.getD_eq_getElem?_getD ?_;refine rwl List.getD_eq_getElem?_getD ?_;refine rwl List.getElem?_map ?_;generalize ps[j]?=x0;induction x0 using Option.casesOn with
 |none=>exact f9.symm
 |some x=>rfl
theorem zsr(st x:Nat):∀(n:Nat) (ps:List Nat) (pos:Nat),sdL n (ps.map f) st pos (f x)=((zrT (λi j=>zal (f i) (f j)) n ps st pos x).1,(zrT (λi j=>zal (f i) (f j)) n ps st pos x).2.map f):=by
 intro l9;induction l9 with
 |zero=>intro ps pos;exact rfl
 |succ n zsr=>
  intro ps pos;rw[zq1,gsd_s,zfU f9];split
  ·split
   ·exact rwr List.map_set (zsr _ _)
   ·rfl
  ·rfl
theorem n_sdM(ps:List Nat)(st pos:Nat):sdM (ps.map f) st pos=(gsdM (λi j=>zal (f i) (f j)) ps st pos).map f:=by unfold sdM gsdM;simp only[zfU f9,zsr f9,List.map_set]
theorem n_suC(ps:List Nat)(e c:Nat):suC (ps.map f) e c=gsuC (λi j=>zal (f i) (f j)) ps e c:=by unfold suC gsuC;simp only[zfU f9]
theorem zss(e:Nat):∀(n:Nat) (ps:List Nat) (pos:Nat),suL n (ps.map f) e pos=((zqL (λi j=>zal (f i) (f j)) n ps e pos).1,(zqL (λi j=>zal (f i) (f j)) n ps e pos).2.map f):=by
 intro l9;induction l9 with
 |zero=>intro ps pos;exact rfl
 |succ n zss=>
  intro ps pos;rw[su_s,gsu_s,n_suC f9,zfU f9];split
  ·exact rwr List.map_set (zss _ _)
  ·rfl
theorem zst(ps:List Nat)(pos:Nat):suM (ps.map f) pos=(gsuM (λi j=>zal (f i) (f j)) ps pos).map f:=by unfold suM gsuM;simp only[zfU f9,zss f9,List.length_map,<-List.map_set,n_sdM f9]
theorem zqR(ps:List Nat):zim (ps.map f)=(f (zfV (λi j=>zal (f i) (f j)) ps).1,(zfV (λi j=>zal (f i) (f j)) ps).2.map f):=by
 have hl:(ps.map f).getLastD (0,0)=f (ps.getLastD 9):=by
  refine rwl List.getLastD_eq_getLast? ?_;refine rwl List.getLastD_eq_getLast? ?_;refine rwl List.getLast?_map ?_;generalize ps.getLast?=x0;induction x0 using Option.casesOn with
  |none=>exact f9.symm
  |some x=>rfl
 unfold zim zfV;simp only[hl,<-List.map_dropLast,List.isEmpty_map,zfU f9,<-List.map_set,zst f9];split<;>rfl
theorem zsq(ps:List Nat)(x:Nat):zgc (ps.map f) (f x)=(f (zk0 (λi j=>zal (f i) (f j)) ps x).1,(zk0 (λi j=>zal (f i) (f j)) ps x).2.map f):=by unfold zgc zk0;simp only[zfU f9,<-List.map_set,zst f9]
end
noncomputable def VS:Nat->List (List Nat)
 |0=>[[]]
 |1=>[[0]]
 |2=>[[0,1]]
 |3=>[[0,1,2],[0,2,1]]
 |4=>[[0,1,2,3],[0,1,3,2],[0,2,1,3]]
 |_=>[]
noncomputable def ltQ(N:Nat)(u:Nat->Nat->Bool)(i j:Nat):Bool:=cond (Nat.blt i N&&Nat.blt j N) (Nat.blt i j) (u i j)
theorem zs1(u:Nat->Nat->Bool):∀(n:Nat) (s:List Nat),0<n->n<=4->s∈VS n->∃t∈VS n,zk0 (ltQ (n+1) u) s n=(0,t.map (·+1))
 |1,s,_,_,h=>by simp only[VS.eq_def,List.mem_cons,List.not_mem_nil,or_false]at h;subst h;exact⟨[0],by decide,by kernel_rfl⟩
 |2,s,_,_,h=>by simp only[VS.eq_def,List.mem_cons,List.not_mem_nil,or_false]at h;subst h;exact⟨[0,1],by decide,by kernel_rfl⟩
 |3,s,_,_,h=>by
  simp only[VS.eq_def,List.mem_cons,List.not_mem_nil,or_false]at h;rcases h with rfl|rfl
  ·exact⟨[0,2,1],by decide,by kernel_rfl⟩
  ·exact⟨[0,1,2],by decide,by kernel_rfl⟩
 |4,s,_,_,h=>by
  simp only[VS.eq_def,List.mem_cons,List.not_mem_nil,or_false]at h;rcases h with rfl|rfl|rfl
  ·exact⟨[0,2,1,3],by decide,by kernel_rfl⟩
  ·exact⟨[0,1,2,3],by decide,by kernel_rfl⟩
  ·exact⟨[0,1,3,2],by decide,by kernel_rfl⟩
theorem vs_pop(u:Nat->Nat->Bool):∀(n:Nat) (s:List Nat),0<n->n<=4->s∈VS n->∃t∈VS (n-1),zfV (ltQ n u) s=(0,t.map (·+1))
 |1,s,_,_,h=>by simp only[VS.eq_def,List.mem_cons,List.not_mem_nil,or_false]at h;subst h;exact⟨[],by decide,by kernel_rfl⟩
 |2,s,_,_,h=>by simp only[VS.eq_def,List.mem_cons,List.not_mem_nil,or_false]at h;subst h;exact⟨[0],by decide,by kernel_rfl⟩
 |3,s,_,_,h=>by
  simp only[VS.eq_def,List.mem_cons,List.not_mem_nil,or_false]at h;rcases h with rfl|rfl
  ·exact⟨[0,1],by decide,by kernel_rfl⟩
  ·exact⟨[0,1],by decide,by kernel_rfl⟩
 |4,s,_,_,h=>by
  simp only[VS.eq_def,List.mem_cons,List.not_mem_nil,or_false]at h;rcases h with rfl|rfl|rfl
  ·exact⟨[0,2,1],by decide,by kernel_rfl⟩
  ·exact⟨[0,1,2],by decide,by kernel_rfl⟩
  ·exact⟨[0,1,2],by decide,by kernel_rfl⟩
theorem zo3{n:Nat}(h0:0<n)(h4:n<=4){s:List Nat}(hs:s∈VS n):s.getD 0 9=0/\s.length=n/\∀x∈s,x<n:=by
 rcases (by lia:n=1\/n=2\/n=3\/n=4) with rfl|rfl|rfl|rfl
 ·exact(by decide:∀s∈VS 1,s.getD 0 9=0/\s.length=1/\∀x∈s,x<1) s hs
 ·exact(by decide:∀s∈VS 2,s.getD 0 9=0/\s.length=2/\∀x∈s,x<2) s hs
 ·exact(by decide:∀s∈VS 3,s.getD 0 9=0/\s.length=3/\∀x∈s,x<3) s hs
 ·exact(by decide:∀s∈VS 4,s.getD 0 9=0/\s.length=4/\∀x∈s,x<4) s hs
def Srt(Q:List P2):Prop:=Q.Pairwise λp q=>zal p q=true
def ze9(Q hp:List P2):Prop:=∃s∈VS Q.length,hp=s.map (λi=>Q.getD i (0,0))
theorem zj6{p q:P2}(h:zal p q=true):zal q p=false:=by
 unfold zal at*;by_cases e:p.1=q.1
 ·rw[if_pos e]at h;rw[if_pos e.symm];exact decide_eq_false (by lia)
 ·rw[if_neg e]at h;rw[if_neg (Ne.symm e)];exact decide_eq_false (by lia)
theorem zcz(p:P2):zal p p=false:=by unfold zal;exact rwl (if_pos rfl) (decide_eq_false (by lia))
theorem ziX{Q:List P2}(h:Srt Q):(λi j=>zal (Q.getD i (0,0)) (Q.getD j (0,0)))=ltQ Q.length (λi j=>zal (Q.getD i (0,0)) (Q.getD j (0,0))):=by
 funext i j;unfold ltQ;generalize hb:(Nat.blt i Q.length&&Nat.blt j Q.length)=x0;induction x0 using Bool.casesOn with
 |false=>rfl
 |true=>
  rw[cond_true];rw[Bool.and_eq_true,Nat.blt_eq,Nat.blt_eq]at hb;obtain⟨hi,hj⟩:=hb;have gi:Q.getD i (0,0)=Q[i]:=by rw[List.getD_eq_getElem?_getD,List.getElem?_eq_getElem hi];rfl
  have gj:Q.getD j (0,0)=Q[j]:=by rw[List.getD_eq_getElem?_getD,List.getElem?_eq_getElem hj];rfl
  refine rwl gi ?_;refine rwl gj ?_;rcases Nat.lt_trichotomy i j with q|q|q
  ·refine rwl ((List.pairwise_iff_getElem.mp h) i j hi hj q) ?_;exact((Nat.blt_eq).mpr q).symm
  ·subst q;rw[zcz];generalize hb:Nat.blt i i=r0;induction r0 using Bool.casesOn with
   |false=>rfl
   |true=>rw[Nat.blt_eq]at hb;lia
  ·refine rwl (zj6 ((List.pairwise_iff_getElem.mp h) j i hj hi q)) ?_;generalize hb:Nat.blt i j=t0;induction t0 using Bool.casesOn with
   |false=>rfl
   |true=>rw[Nat.blt_eq]at hb;lia
theorem f9_of{Q:List P2}(h:Q.length<=9):Q.getD 9 (0,0)=(0,0):=by rw[List.getD_eq_getElem?_getD,List.getElem?_eq_none h];rfl
theorem ziN(q:P2)(Q:List P2)(i:Nat):(q::Q).getD (i+1) (0,0)=Q.getD i (0,0):=by rw[List.getD_eq_getElem?_getD,List.getD_eq_getElem?_getD];rfl
theorem znG{q x:P2}{Q hp:List P2}(hs:Srt (q::Q++[x]))(h4:Q.length+1<=4)(hh:ze9 (q::Q) hp):∃hp',zgc hp x=(q,hp')/\ze9 (Q++[x]) hp':=by
 refine seaq hh λs hsv=>?_;refine xea (zs1 (λi j=>zal ((q::Q++[x]).getD i (0,0)) ((q::Q++[x]).getD j (0,0))) (Q.length+1) s (by omega) h4 hsv) λt ht e=>?_;have hlt:=ziX hs;rw[(by simp:(q::Q++[x]).length=Q.length+1+1)]at hlt;have hx:(q::Q++[x]).getD (Q.length+1) (0,0)=x:=by refine rwl List.getD_eq_getElem?_getD ?_;refine rwl (List.getElem?_append_right (by simp)) ?_;simp
 have hm:s.map (λi=>(q::Q).getD i (0,0))=s.map (λi=>(q::Q++[x]).getD i (0,0)):=by refine List.map_congr_left λi hi=>?_;have:=(zo3 (n:=Q.length+1) (by omega) h4 hsv).2.2 i hi;refine rwl List.getD_eq_getElem?_getD ?_;refine rwl List.getD_eq_getElem?_getD ?_;exact rwl (List.getElem?_append_left (by simp;omega)) rfl
 have nr:=zsq (f:=λi=>(q::Q++[x]).getD i (0,0)) (f9_of (by rw[(by simp:(q::Q++[x]).length=Q.length+1+1)];omega)) s (Q.length+1);rw[hx,hlt,e]at nr;refine⟨t.map λi=>(Q++[x]).getD i (0,0),?_,t,by rw[List.length_append];exact ht,rfl⟩;refine rwl hm ?_;refine rwl nr ?_;refine rwl List.map_map ?_;refine Prod.ext rfl ?_;exact List.map_congr_left λi _=>ziN q (Q++[x]) i
theorem zpR{q:P2}{Q hp:List P2}(hs:Srt (q::Q))(h4:Q.length+1<=4)(hh:ze9 (q::Q) hp):∃hp',zim hp=(q,hp')/\ze9 Q hp':=by refine seaq hh λs hsv=>?_;have hlen:(q::Q).length=Q.length+1:=rfl;refine xea (vs_pop (λi j=>zal ((q::Q).getD i (0,0)) ((q::Q).getD j (0,0))) (Q.length+1) s (by omega) h4 hsv) λt ht e=>?_;have hlt:=ziX hs;rw[hlen]at hlt;have nr:=zqR (f:=λi=>(q::Q).getD i (0,0)) (f9_of (by rw[hlen];omega)) s;rw[hlt,e]at nr;refine⟨t.map λi=>Q.getD i (0,0),?_,t,ht,rfl⟩;refine rwl nr ?_;refine rwl List.map_map ?_;refine Prod.ext rfl ?_;exact List.map_congr_left λi _=>ziN q Q i
theorem zpS{q:P2}{Q hp:List P2}(h4:Q.length+1<=4)(hh:ze9 (q::Q) hp):hp[0]?=some q/\hp.length=Q.length+1:=by
 refine seaq hh λs hsv=>?_;refine xaa (zo3 (n:=Q.length+1) (by omega) h4 hsv) λa b _=>?_;refine ia ?_ (by rw[List.length_map,b]);induction s using List.casesOn with
 |nil=>simp at b
 |cons y t=>have:y=0:=a;subst this;rfl
theorem zpQ{hp:List P2}(hh:ze9 [] hp):hp=[]:=by
 refine seaq hh λs hsv=>?_;have:s=[]:=by simpa[VS.eq_def] using hsv
 refine rwl this ?_;rfl
theorem znH{Q:List P2}(h4:Q.length<=4):ze9 Q Q:=by
 have h:Q.length=0\/Q.length=1\/Q.length=2\/Q.length=3\/Q.length=4:=by lia
 refine iea (List.range Q.length) ?_ ?_
 ·rcases h with h|h|h|h|h<;>rw[h]<;>decide
 ·refine List.ext_getElem? λi=>?_;refine rwl List.getElem?_map ?_;by_cases q:i<Q.length
  ·refine rwl (List.getElem?_range q) ?_;rw[Option.map_some];refine rwl List.getD_eq_getElem?_getD ?_;refine rwl (List.getElem?_eq_getElem q) ?_;rfl
  ·refine rwl (List.getElem?_eq_none (by exact Nat.le_of_not_lt q)) ?_;refine rwl (List.getElem?_eq_none (by rw[List.length_range];exact Nat.le_of_not_lt q)) ?_;rfl
theorem zko:∀l:List (List Nat),zor (l.map .str)=some (l.map λs=>.str (sk s)):=by
 intro l9;induction l9 with
 |nil=>exact rfl
 |cons x r ih=>show (some (PyData.str (sk x))).bind (λd=>(zor (r.map .str)).bind λds=>some (d::ds))=_;rw[ih];rfl
theorem zsu(h:H){v:V}{p:PyData}(hi:za6 v=none)(hp:zqb v=some p)(hs:SeqAt.shaped p=true)(hc:p.canLay0=true):zbl .NotEq h v v=some false:=by show onI v _ _=_;unfold onI;refine rwl hi ?_;refine rwl hp ?_;refine (if_pos (⟨hs,hs⟩:SeqAt.shaped p=true/\SeqAt.shaped p=true)).trans ?_;refine rwl (SeqAt.eqv_refl _ hc) ?_;rfl
theorem sk_ok{s:List Nat}(h:s.all (·<128)=true):PyData.strOk (sk s)=true:=by unfold PyData.strOk sk;simp only[List.all_toArray,List.all_eq_true,decide_eq_true_eq]at*;exact λx hx=>Nat.lt_trans (h x hx) (by decide)
def zis(l:List (List Nat)):Prop:=∀s∈l,s.all (·<128)=true
theorem zft:∀{l:List (List Nat)},zis l->PyData.canLayAll0 (l.map λs=>.str (sk s))=true/\PyData.depthAll (l.map λs=>.str (sk s))=0
 |[],_=>⟨rfl,rfl⟩
 |x::r,h=>by obtain⟨a,b⟩:=zft (l:=r) λs hs=>h s (.tail _ hs);rw[List.map_cons,PyData.canLayAll0,PyData.depthAll,a,b];refine⟨?_,rfl⟩;have:=sk_ok (h x (.head _));simp only[PyData.canLay0,this,Bool.and_self]
theorem zqS(h:H){l:List (List Nat)}(ha:zis l):zbl .NotEq h (.lA (l.map .str)) (.lA (l.map .str))=some false:=by
 refine xa (zft ha) λa b=>?_;have hp:zqb (.lA (l.map .str))=some (.list (l.map λs=>.str (sk s))):=congrArg (Option.map PyData.list) (zko l);have hc:(PyData.list (l.map λs=>.str (sk s))).canLay0=true:=a;have hs:SeqAt.shaped (.list (l.map λs=>.str (sk s)))=true:=by unfold SeqAt.shaped;refine rwl hc ?_;rw[PyData.depth];refine rwl b ?_;rfl
 exact zsu h rfl hp hs hc
theorem ne_two(h:H){l k:List (List Nat)}(ha:zis l)(hk:zis k):zbl .NotEq h (.tup [.lA (l.map .str),.lA (k.map .str)]) (.tup [.lA (l.map .str),.lA (k.map .str)])=some false:=by
 refine xa (zft ha) λa b=>?_;refine xa (zft hk) λa' b'=>?_;have hp:zqb (.tup [.lA (l.map .str),.lA (k.map .str)])=some (.tuple [.list (l.map λs=>.str (sk s)),.list (k.map λs=>.str (sk s))]):=by show Option.map PyData.tuple (((zor (l.map .str)).map PyData.list).bind λd=>(((zor (k.map .str)).map PyData.list).bind λd=>some [d]).bind λds=>some (d::ds))=_;rw[zko,zko];rfl
 have hc:(PyData.tuple [.list (l.map λs=>.str (sk s)),.list (k.map λs=>.str (sk s))]).canLay0=true:=by simp only[PyData.canLay0,PyData.canLayAll0,a,a',Bool.and_self]
 have hs:SeqAt.shaped (.tuple [.list (l.map λs=>.str (sk s)),.list (k.map λs=>.str (sk s))])=true:=by unfold SeqAt.shaped;refine rwl hc ?_;simp only[PyData.depth,PyData.depthAll,b,b'];rfl
 exact zsu h rfl hp hs hc
theorem ne_tp(h:H)(p:P2):zbl .NotEq h (tp p) (tp p)=some false:=by have hp:zqb (tp p)=some (.tuple [.int p.1,.int p.2]):=rfl;have hc:(PyData.tuple [.int p.1,.int p.2]).canLay0=true:=rfl;have hs:SeqAt.shaped (.tuple [.int p.1,.int p.2])=true:=rfl;exact zsu h rfl hp hs hc
theorem zrl(h:H)(a b c:Ob):(h++[a,b,c])[h.length]?=some a:=by simp
theorem zmW(h:H)(a b c:Ob):(h++[a,b,c])[h.length+1]?=some b:=by simp
theorem at3_2(h:H)(a b c:Ob):(h++[a,b,c])[h.length+2]?=some c:=by simp
theorem st3_0(h:H)(a b c x:Ob):(h++[a,b,c]).set h.length x=h++[x,b,c]:=by rw[List.set_append_right _ _ (Nat.le_refl _)];simp
theorem st3_1(h:H)(a b c x:Ob):(h++[a,b,c]).set (h.length+1) x=h++[a,x,c]:=by rw[List.set_append_right _ _ (by exact Nat.le_add_right _ _)];simp
theorem st3_2(h:H)(a b c x:Ob):(h++[a,b,c]).set (h.length+2) x=h++[a,b,x]:=by rw[List.set_append_right _ _ (by exact Nat.le_add_right _ _)];simp
theorem zqw{h:H}{a b c:Ob}(w:WF h)(ha:∀n,obOk n a=true)(hb:∀n,obOk n b=true)(hc:∀n,obOk n c=true):WF (h++[a,b,c]):=by have:=zd3 (zlx w ha hb) (hc (List.length (h++[a,b])+1));rwa [List.append_assoc]at this
noncomputable def hq(h:H)(R:List (List Nat))(P:List P2)(E:List (List Nat)):H:=h++[.list (R.map .str),.list (P.map tp),.list (E.map .str)]
theorem hq_wf{h:H}(w:WF h)(R:List (List Nat))(P:List P2)(E:List (List Nat)):WF (hq h R P E):=zqw w (λ_=>rfl) (λ_=>rfl) λ_=>rfl
structure DOK (af sh:List (List Nat×Sc)) (cs:List Ch):Prop where
 af:∀k,k<cs.length->∀j,j+1<cl cs k->af.lookup (ck cs k j)=some (.str (ck cs k (j+1)))
 sh:∀k,k<cs.length->∀j,j<cl cs k->∃c:Nat,sh.lookup (ck cs k j)=some (.int (c:Nat))/\(0<c↔j+1<cl cs k)
noncomputable def hdB0:S:=(.ifs (.not (.v 5)) (.seq (.frz [6] (.ret (.v 6))) .skip) .skip)
noncomputable def hdB1:S:=(.asgT [8,4] (.idx (.v 5) (.c (.int 0))))
noncomputable def hdB2:S:=(.setI (.v 3) (.v 4) (.idx (.v 1) (.idx (.v 3) (.v 4))))
noncomputable def hdB3:S:=(.expr (.append (.v 6) (.idx (.v 3) (.v 4))))
noncomputable def hdB4:S:=(.ifs (.cmp .Gt (.idx (.v 2) (.idx (.v 3) (.v 4))) (.c (.int 0)))
 (.seq (.asg 9 (.call 1 (.cons (.v 5) (.cons (.tup (.cons (.bin .Add (.v 8) (.c (.int 1))) (.cons (.v 4) .nil))) .nil)))) .skip)
 (.seq (.asg 9 (.call 0 (.cons (.v 5) .nil))) .skip))
noncomputable def hdB5:S:=(.ifs (.cmp .NotEq (.v 9) (.tup (.cons (.v 8) (.cons (.v 4) .nil)))) (.seq (.ret (.c .none)) .skip) .skip)
noncomputable def hdB:S:=(.seq hdB0 (.seq hdB1 (.seq hdB2 (.seq hdB3 (.seq hdB4 (.seq hdB5 .skip))))))
theorem zrW(Φ:PA){h:H}{x0 x1 x2 x4 x7 x8 x9:V}{U:Vs}{R E:List (List Nat)}:eF Φ hdB (x0::x1::x2::.obj h.length::x4::.obj (h.length+1)::.obj (h.length+2)::x7::x8::x9::U,hq h R [] E)=
  some (.ret (.lA (E.map .str)),x0::x1::x2::.obj h.length::x4::.obj (h.length+1)::.lA (E.map .str)::x7::x8::x9::U,h++[.list (R.map .str),.list [],.gone]):=by
 have t:eE Φ (x0::x1::x2::.obj h.length::x4::.obj (h.length+1)::.obj (h.length+2)::x7::x8::x9::U) (.not (.v 5)) (hq h R [] E)=some (.bool true,hq h R [] E):=by
  have hd:(0:Nat)<=zad:=by decide
  have tt:zaT (hq h R [] E) (.obj (h.length+1))=some false:=zqk (zmW ..) hd;simp only[zaF,zcc,GA,GB,OA,OB,OC,tt];rfl
 rw[hdB,zao,hdB0,zky _ t (zaL _ _),if_pos rfl]
 simp only[zaJ,za2,zcW,zaF,GA,GB,OA,OB,OC,SA,SB,zrI,zrH,zdO,zbO,frzOf,Option.map_some,hq,at3_2,st3_2,List.map_nil]
theorem zpP(m:Nat){h:H}(w:WF h){af sh:List (List Nat×Sc)}{x0 x4 x7 x8 x9:V}{U:Vs}{R E:List (List Nat)}{P P':List P2}{j:Int}{k c:Nat}{r r':List Nat}
  (hP:P[0]?=some (j,(k:Int))) (hPl:P.length<=4) (hR:R[k]?=some r) (hRl:R.length<=1000) (hEl:E.length<=1000) (ha:af.lookup r=some (.str r')) (hs:sh.lookup r'=some (.int (c:Nat)))
  (hrep:(0<c/\zgc P (j+1,(k:Int))=((j,(k:Int)),P'))\/(c=0/\zim P=((j,(k:Int)),P'))):
  eF (zac (m+3)) hdB (x0::.dS af::.dS sh::.obj h.length::x4::.obj (h.length+1)::.obj (h.length+2)::x7::x8::x9::U,hq h R P E)=
   some (.next,x0::.dS af::.dS sh::.obj h.length::.int (k:Nat)::.obj (h.length+1)::.obj (h.length+2)::x7::.int j::tp (j,(k:Int))::U,hq h (R.set k r') P' (E++[r'])):=by
 have hz:1000<=zad:=by decide
 have hP0:0<P.length:=(List.getElem?_eq_some_iff.mp hP).1
 have hk:k<R.length:=(List.getElem?_eq_some_iff.mp hR).1
 have t0:eE (zac (m+3)) (x0::.dS af::.dS sh::.obj h.length::x4::.obj (h.length+1)::.obj (h.length+2)::x7::x8::x9::U) (.not (.v 5)) (hq h R P E)=some (.bool false,hq h R P E):=by
  have ht:zaT (hq h R P E) (.obj (h.length+1))=some true:=by
   unfold hq;rw[zqk (zmW ..) (by rw[List.length_map];exact lnB 0 4 1000 0 0 0 hPl hz rfl)];induction P using List.casesOn with
   |nil=>simp at hP0
   |cons p q=>rfl
  simp only[zaF,zcc,GA,GB,OA,OB,OC,ht];rfl
 have i0:=zbr (h:=hq h R P E) (i:=h.length+1) (zmW h _ _ _) (rfl:(0:Int)=((0:Nat):Int)) hP (by exact lnB 0 4 1000 0 0 0 hPl hz rfl)
 have b1:eF (zac (m+3)) hdB1 (x0::.dS af::.dS sh::.obj h.length::x4::.obj (h.length+1)::.obj (h.length+2)::x7::x8::x9::U,hq h R P E)=some (.next,x0::.dS af::.dS sh::.obj h.length::.int (k:Nat)::.obj (h.length+1)::.obj (h.length+2)::x7::.int j::x9::U,hq h R P E):=by simp only[hdB1,zeK,zbL,zaF,zar,zaH,GA,GB,OA,OB,OC,SA,SB,i0,tp,sa_s,sa_0]
 have i1:=zeP (h:=hq h R P E) (zrl h _ _ _) (rfl:((k:Nat):Int)=_) (v:=.str r) (by rw[List.getElem?_map,hR];rfl) (by rw[List.length_map];exact Nat.le_trans hRl hz)
 have i2:=ziW (hq h R P E) ha
 have s1:=zh1 (h:=hq h R P E) (x:=.str r') (zrl h _ _ _) (rfl:((k:Nat):Int)=_) (by rw[List.length_map];exact hk) (by rw[List.length_map];exact Nat.le_trans hRl hz) rfl
 have s1':setItem (hq h R P E) (.obj h.length) (.int (k:Nat)) (.str r')=some (hq h (R.set k r') P E):=by rw[s1,<-List.map_set];unfold hq;rw[st3_0]
 have b2:eF (zac (m+3)) hdB2 (x0::.dS af::.dS sh::.obj h.length::.int (k:Nat)::.obj (h.length+1)::.obj (h.length+2)::x7::.int j::x9::U,hq h R P E)=some (.next,x0::.dS af::.dS sh::.obj h.length::.int (k:Nat)::.obj (h.length+1)::.obj (h.length+2)::x7::.int j::x9::U,hq h (R.set k r') P E):=by simp only[hdB2,zbR,zaF,zar,GA,GB,OA,OB,OC,i1,i2,Sc.v,s1']
 have hR':(R.set k r')[k]?=some r':=List.getElem?_set_self hk
 have i3:=λP E=>zeP (h:=hq h (R.set k r') P E) (zrl h _ _ _) (rfl:((k:Nat):Int)=_) (v:=.str r') (by rw[List.getElem?_map,hR'];rfl) (by rw[List.length_map,List.length_set];exact Nat.le_trans hRl hz)
 have b3:eF (zac (m+3)) hdB3 (x0::.dS af::.dS sh::.obj h.length::.int (k:Nat)::.obj (h.length+1)::.obj (h.length+2)::x7::.int j::x9::U,hq h (R.set k r') P E)=some (.next,x0::.dS af::.dS sh::.obj h.length::.int (k:Nat)::.obj (h.length+1)::.obj (h.length+2)::x7::.int j::x9::U,hq h (R.set k r') P (E++[r'])):=by
  have g2:(hq h (R.set k r') P E)[h.length+2]?=some (.list (E.map .str)):=at3_2 h _ _ _;have st:(hq h (R.set k r') P E).set (h.length+2) (.list (E.map V.str++[.str r']))=hq h (R.set k r') P (E++[r']):=by unfold hq;rw[st3_2,List.map_append];rfl
  simp only[hdB3,za5,zaF,zar,zaA,zbO,zhQ,zhP,GA,GB,OA,OB,OC,g2,i3,st,flat,List.length_map];rw[if_pos ⟨trivial,by exact Nat.le_trans hEl hz⟩];rfl
 have i4:=λP E=>ziW (hq h (R.set k r') P E) hs
 have hg:∀(H:H),zbl .Gt H (.int (c:Nat)) (.int 0)=some (decide (0<c)):=λH=>by rw[zqD];congr 1;rw[decide_eq_decide];lia
 have t4:eE (zac (m+3)) (x0::.dS af::.dS sh::.obj h.length::.int (k:Nat)::.obj (h.length+1)::.obj (h.length+2)::x7::.int j::x9::U) (.cmp .Gt (.idx (.v 2) (.idx (.v 3) (.v 4))) (.c (.int 0))) (hq h (R.set k r') P (E++[r']))=some (.bool (decide (0<c)),hq h (R.set k r') P (E++[r'])):=by simp only[zbL,zaF,zaI,zar,GA,GB,OA,OB,OC,i3,i4,Sc.v,hg]
 have wq:=hq_wf w (R.set k r') P (E++[r'])
 have b4:eF (zac (m+3)) hdB4 (x0::.dS af::.dS sh::.obj h.length::.int (k:Nat)::.obj (h.length+1)::.obj (h.length+2)::x7::.int j::x9::U,hq h (R.set k r') P (E++[r']))=some (.next,x0::.dS af::.dS sh::.obj h.length::.int (k:Nat)::.obj (h.length+1)::.obj (h.length+2)::x7::.int j::tp (j,(k:Int))::U,hq h (R.set k r') P' (E++[r'])):=by
  rw[hdB4,zky _ t4 (zaL _ _)];rcases hrep with ⟨hc,e⟩|⟨hc,e⟩
  ·rw[if_pos (decide_eq_true hc)];have hr:=zfY m (x:=(j+1,(k:Int))) wq (zmW h _ _ _) hP0 (by exact Nat.le_trans hPl (by decide));rw[e]at hr;have hr':zac (m+3) 1 [.obj (h.length+1),.tup [.int (j+1),.int (k:Int)]] (hq h (R.set k r') P (E++[r']))=some (tp (j,(k:Int)),hq h (R.set k r') P' (E++[r'])):=by refine hr.trans ?_;dsimp only;unfold hq;rw[st3_1]
   simp only[zaW,zaJ,zaw,zbL,zaF,zaz,zav,zbM,zap,zag,zaH,GA,GB,OA,OB,OC,SA,SB,zc2,List.all_cons,List.all_nil,flat,Bool.and_self,if_true,hr']
  ·rw[if_neg (by rw[decide_eq_true_eq];lia)];have hr:=zfX m wq (zmW h _ _ _) hP0 (by exact Nat.le_trans hPl (by decide));rw[e]at hr;have hr':zac (m+3) 0 [.obj (h.length+1)] (hq h (R.set k r') P (E++[r']))=some (tp (j,(k:Int)),hq h (R.set k r') P' (E++[r'])):=by refine hr.trans ?_;dsimp only;unfold hq;rw[st3_1]
   simp only[zaW,zaJ,zaw,zaF,zav,zap,zag,zaH,GA,GB,OA,OB,OC,SA,SB,hr']
 have t5:eE (zac (m+3)) (x0::.dS af::.dS sh::.obj h.length::.int (k:Nat)::.obj (h.length+1)::.obj (h.length+2)::x7::.int j::tp (j,(k:Int))::U) (.cmp .NotEq (.v 9) (.tup (.cons (.v 8) (.cons (.v 4) .nil)))) (hq h (R.set k r') P' (E++[r']))=some (.bool false,hq h (R.set k r') P' (E++[r'])):=by have hn:=ne_tp (hq h (R.set k r') P' (E++[r'])) (j,(k:Int));unfold tp at hn ⊢;simp only[zaF,zaI,zbM,zap,zag,zaH,GA,GB,OA,OB,OC,List.all_cons,List.all_nil,flat,Bool.and_self,if_true,hn]
 rw[hdB,zao,hdB0,zky _ t0 (zaL _ _),if_neg (by decide),x_skip]
 dsimp only
 rw[zao,b1]
 dsimp only
 rw[zao,b2]
 dsimp only
 rw[zao,b3]
 dsimp only
 rw[zao,b4]
 dsimp only
 rw[zao,hdB5,zky _ t5 (zaL _ _),if_neg (by decide),x_skip]
 dsimp only
 rw[x_skip]
noncomputable def pj(j:Nat)(A:List Nat):List P2:=A.map λ(k:Nat)=>((j:Int),(k:Int))
theorem zq4(j:Nat):∀{A B:List Nat},A.Pairwise (·<·)->B.Pairwise (·<·)->Srt (pj j A++pj (j+1) B):=by
 intro A B hA hB;unfold Srt pj;rw[List.pairwise_append];refine iaa ?_ ?_ ?_
 ·rw[List.pairwise_map];refine hA.imp λ{a b} h=>?_;unfold zal;refine rwl (if_pos rfl) ?_;exact decide_eq_true (by lia)
 ·rw[List.pairwise_map];refine hB.imp λ{a b} h=>?_;unfold zal;refine rwl (if_pos rfl) ?_;exact decide_eq_true (by lia)
 ·intro p hp q hq;refine xea (List.mem_map.mp hp) λa _ x0=>?_;subst x0;refine xea (List.mem_map.mp hq) λb _ r0=>?_;subst r0;unfold zal;refine rwl (if_neg (by lia)) ?_;exact decide_eq_true (by lia)
structure LvInv (cs:List Ch) (j:Nat) (A B:List Nat) (R:List (List Nat)) (P:List P2):Prop where
 hp:ze9 (pj j A++pj (j+1) B) P
 pw:(B++A).Pairwise (·<·)
 l4:A.length+B.length<=4
 a:∀k∈A,k<cs.length/\j+1<cl cs k/\R[k]?=some (ck cs k j)
 b:∀k∈B,k<cs.length/\j+2<cl cs k/\R[k]?=some (ck cs k (j+1))
 r:R.length=cs.length
theorem zfW(m:Nat){h:H}(w:WF h){cs:List Ch}(hcs:Chs cs){af sh:List (List Nat×Sc)}(hD:DOK af sh cs){x0:V}{U:Vs}{xs:List V}{j:Nat}:∀(A:List Nat) (as:List V) (B:List Nat) (R:List (List Nat)) (P:List P2) (E:List (List Nat)) (x4 x7 x8 x9:V),
  as.length=A.length->LvInv cs j A B R P->E.length+A.length<=1000->
  ∃R' P' y4 y7 y8 y9,LvInv cs j [] (B++A.filter λk=>decide (j+2<cl cs k)) R' P'/\
   zbZ (eF (zac (m+3)) hdB) [7] (as++xs) (x0::.dS af::.dS sh::.obj h.length::x4::.obj (h.length+1)::.obj (h.length+2)::x7::x8::x9::U,hq h R P E)=
   zbZ (eF (zac (m+3)) hdB) [7] xs (x0::.dS af::.dS sh::.obj h.length::y4::.obj (h.length+1)::.obj (h.length+2)::y7::y8::y9::U,hq h R' P' (E++A.map λk=>ck cs k (j+1))):=by
 intro l9;induction l9 with
 |nil=>
  intro as B R P E x4 x7 x8 x9 hl hv _;refine zdy λX kX=>?_;have:as=[]:=List.length_eq_zero_iff.mp hl;subst this;refine kX ?_;refine⟨R,P,x4,x7,x8,x9,?_,?_⟩
  ·rw[List.filter_nil,List.append_nil];exact hv
  ·rw[List.map_nil,List.append_nil,List.nil_append]
 |cons k A zfW=>
  intro as B R P E x4 x7 x8 x9 hl hv hz;induction as using List.casesOn with
  |nil=>simp at hl
  |cons a as=>
  refine zdy λX kX=>?_
  rw[List.length_cons]at hz
  refine xaa (hv.a k (.head _)) λhk hjk hRk=>?_
  have hpw:=hv.pw
  rw[List.pairwise_append]at hpw
  refine xaa hpw λpB pA pBA=>?_
  rw[List.pairwise_cons]at pA
  refine xa pA λpkA pA=>?_
  have l4:=hv.l4
  rw[List.length_cons]at l4
  have hhp:=hv.hp
  refine kX ?_
  have hlen:(pj j A++pj (j+1) B).length+1<=4:=by unfold pj;rw[List.length_append,List.length_map,List.length_map];lia
  refine zdy λX kX=>?_
  refine xa (zpS hlen hhp) λhtop hPl=>?_
  have ha:=hD.af k hk j hjk
  refine xea (hD.sh k hk (j+1) hjk) λc hs hc=>?_
  have hsr:Srt (pj j (k::A)++pj (j+1) B):=zq4 j (List.pairwise_cons.mpr ⟨pkA,pA⟩) pB
  have keep:∀k'∈A,(R.set k (ck cs k (j+1)))[k']?=R[k']? :=λk' hk'=>List.getElem?_set_ne (by have:=pkA k' hk';lia)
  have keepB:∀k'∈B,(R.set k (ck cs k (j+1)))[k']?=R[k']? :=λk' hk'=>List.getElem?_set_ne (by have:=pBA k' hk' k (.head _);lia)
  have key:∃P' B',((0<c/\zgc P ((j:Int)+1,(k:Int))=(((j:Int),(k:Int)),P'))\/(c=0/\zim P=(((j:Int),(k:Int)),P')))/\LvInv cs j A B' (R.set k (ck cs k (j+1))) P'/\B'++(A.filter λk=>decide (j+2<cl cs k))=B++((k::A).filter λk=>decide (j+2<cl cs k)):=by
   by_cases hc0:0<c
   ·have hal:=hc.mp hc0;have hsrx:Srt (((j:Int),(k:Int))::(pj j A++pj (j+1) B)++[(((j+1:Nat):Int),(k:Int))]):=by
     have:=zq4 j (A:=k::A) (B:=B++[k]) (List.pairwise_cons.mpr ⟨pkA,pA⟩) (by rw[List.pairwise_append];exact⟨pB,List.pairwise_singleton _ _,λb hb y hy=>by rw[List.mem_singleton.mp hy];exact pBA b hb k (.head _)⟩)
     unfold pj at this ⊢;simpa using this
    refine xea (znG hsrx hlen hhp) λP' e hH=>?_;refine⟨P',B++[k],.inl ⟨hc0,e⟩,⟨?_,?_,?_,λk' hk'=>?_,λk' hk'=>?_,by rw[List.length_set];exact hv.r⟩,?_⟩
    ·unfold pj at hH ⊢;rw[List.map_append,<-List.append_assoc];exact hH
    ·have:=hv.pw;rw[List.append_assoc];exact this
    ·rw[List.length_append];simp only[List.length_cons,List.length_nil];lia
    ·refine xaa (hv.a k' (.tail _ hk')) λq1 q2 q3=>?_;exact⟨q1,q2,by rw[keep k' hk'];exact q3⟩
    ·rcases List.mem_append.mp hk' with q|q
     ·refine xaa (hv.b k' q) λq1 q2 q3=>?_;exact⟨q1,q2,by rw[keepB k' q];exact q3⟩
     ·rw[List.mem_singleton.mp q];exact⟨hk,hal,List.getElem?_set_self (by rw[hv.r];exact hk)⟩
    ·rw[List.filter_cons,if_pos (decide_eq_true hal),List.append_assoc];rfl
   ·have hal:¬ (j+2<cl cs k):=λq=>hc0 (hc.mpr q);refine xea (zpR hsr hlen hhp) λP' e hH=>?_;refine⟨P',B,.inr ⟨by lia,e⟩,⟨hH,?_,by lia,λk' hk'=>?_,λk' hk'=>?_,by rw[List.length_set];exact hv.r⟩,?_⟩
    ·rw[List.pairwise_append];exact⟨pB,pA,λb hb a ha=>pBA b hb a (.tail _ ha)⟩
    ·refine xaa (hv.a k' (.tail _ hk')) λq1 q2 q3=>?_;exact⟨q1,q2,by rw[keep k' hk'];exact q3⟩
    ·refine xaa (hv.b k' hk') λq1 q2 q3=>?_;exact⟨q1,q2,by rw[keepB k' hk'];exact q3⟩
    ·rw[List.filter_cons,if_neg (by rw[decide_eq_true_eq];exact hal)]
  refine zaj key λP' B' hrep hv' hB'=>?_
  have hn:=hcs.n
  have hb:=zpP m w (x0:=x0) (x4:=x4) (x7:=a) (x8:=x8) (x9:=x9) (U:=U) (R:=R) (E:=E) (P:=P) htop (by lia) hRk (by rw[hv.r];exact Nat.le_trans hn (by decide)) (by exact Nat.le_trans (Nat.le_add_right _ _) hz) ha hs hrep
  obtain⟨R'',P'',y4,y7,y8,y9,i1,i2⟩:=zfW as B' (R.set k (ck cs k (j+1))) P' (E++[ck cs k (j+1)]) (.int (k:Nat)) a (.int (j:Int)) (tp ((j:Int),(k:Int))) (by simpa using hl) hv' (by rw[List.length_append];simp only[List.length_cons,List.length_nil];lia)
  refine kX ?_
  refine⟨R'',P'',y4,y7,y8,y9,by rw[<-hB'];exact i1,?_⟩
  rw[List.cons_append,zf3 rfl hb,i2,List.append_assoc]
  rfl
theorem zmR(cs:List Ch)(j:Nat):((al cs j).filter λk=>decide (j+2<cl cs k))=al cs (j+1):=by refine rwl List.filter_filter ?_;refine List.filter_congr λk _=>?_;rw[Bool.eq_iff_iff,Bool.and_eq_true];simp only[decide_eq_true_eq];lia
theorem al_pw(cs:List Ch)(j:Nat):(al cs j).Pairwise (·<·):=(List.pairwise_lt_range).filter _
theorem zg9{cs:List Ch}(hc:Chs cs)(j:Nat):(al cs j).length<=4:=by have:=List.length_filter_le (λk=>decide (j+1<cl cs k)) (List.range cs.length);rw[List.length_range]at this;have:=hc.n;unfold al;omega
theorem zgI{cs:List Ch}{j k:Nat}:k∈al cs j↔k<cs.length/\j+1<cl cs k:=by unfold al;rw[List.mem_filter,List.mem_range,decide_eq_true_eq]
theorem zjM(m:Nat){h:H}(w:WF h){cs:List Ch}(hcs:Chs cs){af sh:List (List Nat×Sc)}(hD:DOK af sh cs){x0:V}{U:Vs}:∀(n j:Nat) (xs:List V) (R:List (List Nat)) (P:List P2) (E:List (List Nat)) (x4 x7 x8 x9:V),
  (∀k<cs.length,cl cs k<=n+j+1)->LvInv cs j (al cs j) [] R P->E.length+(lv cs n j).length<=900->(lv cs n j).length<xs.length->
  ∃vs' R',zbZ (eF (zac (m+3)) hdB) [7] xs (x0::.dS af::.dS sh::.obj h.length::x4::.obj (h.length+1)::.obj (h.length+2)::x7::x8::x9::U,hq h R P E)=
   some (some (.ret (.lA ((E++lv cs n j).map .str))),vs',h++[.list R',.list [],.gone]):=by
 intro l9;induction l9 with
 |zero=>
  intro j xs R P E x4 x7 x8 x9 hn hv _ hx;have ha:al cs j=[]:=by rw[List.eq_nil_iff_forall_not_mem];intro k hk;refine xa (zgI.mp hk) λa b=>?_;have:=hn k a;lia
  have hP:P=[]:=by have:=hv.hp;rw[ha]at this;exact zpQ this
  subst hP;induction xs using List.casesOn with
  |nil=>simp at hx
  |cons x xs=>rw[lo_r rfl (zrW ..)];rw[lv_0,List.append_nil];exact iee _ _ rfl
 |succ n zjM=>
  intro j xs R P E x4 x7 x8 x9 hn hv hz hx;refine zdy λX kX=>?_;rw[lv_s,List.length_append,List.length_map]at hz hx;obtain⟨R',P',y4,y7,y8,y9,i1,i2⟩:=zfW m w hcs hD (x0:=x0) (U:=U) (xs:=xs.drop (al cs j).length) (al cs j) (xs.take (al cs j).length) [] R P E x4 x7 x8 x9 (by rw[List.length_take];lia) hv (by lia);rw[List.nil_append,zmR]at i1;have i1':LvInv cs (j+1) (al cs (j+1)) [] R' P':=by
   refine⟨?_,al_pw cs (j+1),zg9 hcs (j+1),λk hk=>?_,λ_ h=>(nomatch h),i1.r⟩
   ·have:=i1.hp;refine rwl (show pj (j+1+1) []=[] from rfl) ?_;rw[List.append_nil];exact this
   ·refine xaa (i1.b k hk) λa b c=>?_;exact iaa a b c
  obtain⟨vs',R'',e⟩:=zjM (j+1) (xs.drop (al cs j).length) R' P' (E++(al cs j).map λk=>ck cs k (j+1)) y4 y7 y8 y9 (λk hk=>by have:=hn k hk;lia) i1' (by rw[List.length_append,List.length_map];lia) (by rw[List.length_drop];lia);refine kX ?_;refine iee vs' R'' ?_;rw[((List.take_append_drop _ _).symm:xs=xs.take (al cs j).length++xs.drop (al cs j).length),i2,e,lv_s,List.append_assoc]
noncomputable def zaa(cs:List Ch):List (List Nat):=(List.range cs.length).map λk=>ck cs k 0
theorem zdF{cs:List Ch}{k:Nat}(hk:k<cs.length):(zaa cs)[k]?=some (ck cs k 0):=by unfold zaa;rw[List.getElem?_map,List.getElem?_range hk];rfl
theorem zcO(cs:List Ch):(zaa cs).length=cs.length:=by unfold zaa;rw[List.length_map,List.length_range]
set_option maxHeartbeats 1000000 in
theorem zrV(m:Nat){h:H}(w:WF h){cs:List Ch}(hcs:Chs cs){af sh:List (List Nat×Sc)}(hD:DOK af sh cs):
  zac (m+4) 18 [.lA ((zaa cs).map .str),.dS af,.dS sh] h=some (.lA ((za7 cs).map .str),h):=by
 have hz:1000<=zad:=by decide
 have hn:=hcs.n
 have hwl:=zcO cs
 have e1:eF (zac (m+3)) (.asgM 3 (.list (.v 0))) (.lA ((zaa cs).map .str)::.dS af::.dS sh::.uA::.uA::.uA::.uA::.uA::.uA::.uA::R6,h)=some (.next,.lA ((zaa cs).map .str)::.dS af::.dS sh::.obj h.length::.uA::.uA::.uA::.uA::.uA::.uA::R6,h++[.list ((zaa cs).map .str)]):=by simp only[zb5,zaF,zcl,zdY,GA,GB,OA,OB,OC,SA,SB,List.length_map,hwl];rw[if_pos (by exact lnB 0 4 1000 0 0 0 hn hz rfl)];rfl
 have hg:(h++[Ob.list ((zaa cs).map V.str)])[h.length]?=some (.list ((zaa cs).map .str)):=by simp
 have hit:eE (zac (m+3)) (.lA ((zaa cs).map .str)::.dS af::.dS sh::.obj h.length::.uA::.uA::.uA::.uA::.uA::.uA::R6) (.rg (.cons (.len (.v 3)) .nil)) (h++[.list ((zaa cs).map .str)])=some (.rng 0 (cs.length:Nat) 1,h++[.list ((zaa cs).map .str)]):=by
  have hln:zdh (h++[.list ((zaa cs).map .str)]) (.obj h.length)=some (cs.length:Int):=by rw[zsp hg (by rw[List.length_map,hwl];exact lnB 0 4 1000 0 0 0 hn hz rfl),List.length_map,hwl]
  simp only[zaF,zaV,zcI,zap,zag,zaH,zjk,GA,GB,OA,OB,OC,hln]
 have hc:=zfM (zac (m+3)) (tA:=[10]) (it:=.rg (.cons (.len (.v 3)) .nil)) (cond:=.cmp .Gt (.idx (.v 2) (.idx (.v 3) (.v 10))) (.c (.int 0))) (elt:=.tup (.cons (.c (.int 0)) (.cons (.v 10) .nil)))
  (vs:=.lA ((zaa cs).map .str)::.dS af::.dS sh::.obj h.length::.uA::.uA::.uA::.uA::.uA::.uA::R6) (h:=h++[.list ((zaa cs).map .str)])
  (xs:=List.range cs.length) (λk=>V.int (k:Nat)) (λk=>if decide (0+1<cl cs k)=true then some (tp ((0:Nat),(k:Int))) else none) hit (zaK 10 (by exact Nat.le_trans hn (by decide))) λk hk=>by
   have hkl:=List.mem_range.mp hk;have hk0:=hcs.at hkl;refine xea (hD.sh k hkl 0 hk0.1) λc hsc hcc=>?_;have i1:=zeP (h:=h++[.list ((zaa cs).map .str)]) hg (rfl:((k:Nat):Int)=_) (v:=.str (ck cs k 0)) (by rw[List.getElem?_map,zdF hkl];rfl) (by rw[List.length_map];lia);have i2:=ziW (h++[.list ((zaa cs).map .str)]) hsc;have hgt:zbl .Gt (h++[.list ((zaa cs).map .str)]) (.int (c:Nat)) (.int 0)=some (decide (0+1<cl cs k)):=by rw[zqD];congr 1;rw[decide_eq_decide];rw[<-hcc];lia
   refine⟨.lA ((zaa cs).map .str)::.dS af::.dS sh::.obj h.length::.uA::.uA::.uA::.uA::.uA::.uA::.int (k:Nat)::List.replicate 5 .uA,.bool (decide (0+1<cl cs k)),decide (0+1<cl cs k),rfl,?_,rfl,λq=>⟨tp ((0:Nat),(k:Int)),rfl,rfl,by rw[if_pos q]⟩,λq=>by rw[if_neg (by rw[q];decide)]⟩;simp only[zbL,zaF,zaI,zar,GA,GB,OA,OB,OC,i1,i2,Sc.v,hgt]
 have hP:(List.range cs.length).filterMap (λk=>if decide (0+1<cl cs k)=true then some (tp ((0:Nat),(k:Int))) else none)=(pj 0 (al cs 0)).map tp:=by
  unfold pj al;generalize List.range cs.length=l;induction l with
  |nil=>rfl
  |cons k r ih=>
   generalize q:decide (0+1<cl cs k)=r0;induction r0 using Bool.casesOn with
   |true=>rw[List.filterMap_cons_some (b:=tp ((0:Nat),(k:Int))) (by rw[if_pos q]),List.filter_cons,if_pos q,ih];rfl
   |false=>rw[List.filterMap_cons_none (by rw[if_neg (by rw[q];decide)]),List.filter_cons,if_neg (by rw[q];decide),ih]
 rw[hP]at hc
 have e2:eF (zac (m+3)) (.asgM 5 (.comp [10] (.rg (.cons (.len (.v 3)) .nil)) (.cmp .Gt (.idx (.v 2) (.idx (.v 3) (.v 10))) (.c (.int 0))) (.tup (.cons (.c (.int 0)) (.cons (.v 10) .nil))))) (.lA ((zaa cs).map .str)::.dS af::.dS sh::.obj h.length::.uA::.uA::.uA::.uA::.uA::.uA::R6,h++[.list ((zaa cs).map .str)])=
   some (.next,.lA ((zaa cs).map .str)::.dS af::.dS sh::.obj h.length::.uA::.obj (h.length+1)::.uA::.uA::.uA::.uA::R6,h++[.list ((zaa cs).map .str),.list ((pj 0 (al cs 0)).map tp)]):=by
  rw[zb5,hc]
  simp only[OA,OB,zjd,List.length_append,List.length_cons,List.length_nil,Nat.zero_add,List.append_assoc,List.cons_append,List.nil_append,OC,SA,SB]
 have e3:eF (zac (m+3)) (.asgM 6 (.lA .nil)) (.lA ((zaa cs).map .str)::.dS af::.dS sh::.obj h.length::.uA::.obj (h.length+1)::.uA::.uA::.uA::.uA::R6,h++[.list ((zaa cs).map .str),.list ((pj 0 (al cs 0)).map tp)])=
   some (.next,.lA ((zaa cs).map .str)::.dS af::.dS sh::.obj h.length::.uA::.obj (h.length+1)::.obj (h.length+2)::.uA::.uA::.uA::R6,hq h (zaa cs) (pj 0 (al cs 0)) []):=by
  simp only[zb5,zcU,zap,zaH,GA,GB,OA,OB,OC,SA,SB,List.all_nil,if_true,zjd,List.length_append,List.length_cons,List.length_nil,Nat.zero_add,Nat.reduceAdd,List.append_assoc,List.cons_append,List.nil_append]
  rfl
 have hinv:LvInv cs 0 (al cs 0) [] (zaa cs) (pj 0 (al cs 0)):=by
  refine⟨?_,al_pw cs 0,zg9 hcs 0,λk hk=>?_,λ_ h=>(nomatch h),hwl⟩
  ·rw[show pj (0+1) []=[] from rfl,List.append_nil];exact znH (by unfold pj;rw[List.length_map];exact zg9 hcs 0)
  ·refine xa (zgI.mp hk) λa b=>?_;exact⟨a,b,zdF a⟩
 have htl:(lv cs 9 0).length<=36:=zgm cs hcs
 obtain⟨vs',R',lp⟩:=zjM m w hcs hD (x0:=.lA ((zaa cs).map .str)) (U:=R6) 9 0 ((List.range 40).map λi=>.int (i:Nat)) (zaa cs) (pj 0 (al cs 0)) [] .uA .uA .uA .uA (λk hk=>by have:=hcs.at hk;exact this.2) hinv (by rw[List.length_nil];lia) (by rw[List.length_map,List.length_range];exact lnA 0 36 1 40 htl rfl)
 rw[List.nil_append]at lp
 refine zbf k_had (fl:=.ret (.lA ((za7 cs).map .str))) (h':=h++[.list R',.list [],.gone]) ?_ (by simp) rfl w rfl ⟨rfl,rfl⟩
 show zcd (eF (zac (m+3)) (.seq (.asgM 3 (.list (.v 0))) (.seq (.asgM 5 (.comp [10] (.rg (.cons (.len (.v 3)) .nil)) (.cmp .Gt (.idx (.v 2) (.idx (.v 3) (.v 10))) (.c (.int 0))) (.tup (.cons (.c (.int 0)) (.cons (.v 10) .nil)))))
  (.seq (.asgM 6 (.lA .nil)) (.seq (.fors [7] (.rg (.cons (.c (.int 40)) .nil)) hdB .skip) (.seq (.ret (.c .none)) .skip))))) (.lA ((zaa cs).map .str)::.dS af::.dS sh::.uA::.uA::.uA::.uA::.uA::.uA::.uA::R6,h))=_
 have ev:eE (zac (m+3)) (.lA ((zaa cs).map .str)::.dS af::.dS sh::.obj h.length::.uA::.obj (h.length+1)::.obj (h.length+2)::.uA::.uA::.uA::R6) (.rg (.cons (.c (.int 40)) .nil)) (hq h (zaa cs) (pj 0 (al cs 0)) [])=some (.rng 0 (40:Nat) 1,hq h (zaa cs) (pj 0 (al cs 0)) []):=rfl
 rw[zao,e1]
 dsimp only
 rw[zao,e2]
 dsimp only
 rw[zao,e3]
 dsimp only
 rw[zao,zgq _ ev (zaK 7 (by decide)),lp,zeM]
 rfl
noncomputable def gh0(lt:Nat->Nat->Bool):List Nat:=gsuM lt (gsuM lt [3,2,1,0] 1) 0
noncomputable def gh1(lt:Nat->Nat->Bool):List Nat:=(zfV lt (gh0 lt)).2
noncomputable def gh2(lt:Nat->Nat->Bool):List Nat:=(zfV lt (gh1 lt)).2
noncomputable def gh3(lt:Nat->Nat->Bool):List Nat:=(zfV lt (gh2 lt)).2
noncomputable def gord(lt:Nat->Nat->Bool):List Nat:=[(zfV lt (gh0 lt)).1,(zfV lt (gh1 lt)).1,(zfV lt (gh2 lt)).1,(zfV lt (gh3 lt)).1]
noncomputable def zrU(lt:Nat->Nat->Bool):List Nat:=(zse lt (PySem.W.kas_sort 4)).toList
noncomputable def ltB(a b c d e f:Bool)(u:Nat->Nat->Bool):Nat->Nat->Bool
 |0,0=>false
 |0,1=>a
 |0,2=>b
 |0,3=>c
 |1,0=> !a
 |1,1=>false
 |1,2=>d
 |1,3=>e
 |2,0=> !b
 |2,1=> !d
 |2,2=>false
 |2,3=>f
 |3,0=> !c
 |3,1=> !e
 |3,2=> !f
 |3,3=>false
 |i,j=>u i j
noncomputable def rks(a b c d e f:Bool):List Nat:=[b01 (!a)+b01 (!b)+b01 (!c),b01 a+b01 (!d)+b01 (!e),b01 b+b01 d+b01 (!f),b01 c+b01 e+b01 f]
noncomputable def ordB(a b c d e f:Bool):List Nat:=[0,1,2,3].map λp=>if(rks a b c d e f).getD 0 0=p then 0 else if(rks a b c d e f).getD 1 0=p then 1 else if(rks a b c d e f).getD 2 0=p then 2 else 3
noncomputable def consB(a b c d e f:Bool):Bool:=decide (rks a b c d e f).Nodup
theorem zol(a b c d e f:Bool)(u:Nat->Nat->Bool)(h:consB a b c d e f=true):gord (ltB a b c d e f u)=ordB a b c d e f/\zrU (ltB a b c d e f u)=ordB a b c d e f:=by induction a using Bool.casesOn<;>induction b using Bool.casesOn<;>induction c using Bool.casesOn<;>induction d using Bool.casesOn<;>induction e using Bool.casesOn<;>induction f using Bool.casesOn<;>first| (exact absurd h (by decide))|exact⟨by kernel_rfl,by kernel_rfl⟩
def Ord4(n:Nat->Nat)(o:List Nat):Prop:=∃a b c d,o=[a,b,c,d]/\[a,b,c,d]∈[[0,1,2,3],[0,1,3,2],[0,2,1,3],[0,2,3,1],[0,3,1,2],[0,3,2,1],[1,0,2,3],[1,0,3,2],[1,2,0,3],[1,2,3,0],[1,3,0,2],[1,3,2,0],[2,0,1,3],[2,0,3,1],[2,1,0,3],[2,1,3,0],[2,3,0,1],[2,3,1,0],[3,0,1,2],[3,0,2,1],[3,1,0,2],[3,1,2,0],[3,2,0,1],[3,2,1,0]]/\n a<=n b/\n b<=n c/\n c<=n d
theorem zsx(n:Nat->Nat):consB (decide (n 0<=n 1)) (decide (n 0<=n 2)) (decide (n 0<=n 3)) (decide (n 1<=n 2)) (decide (n 1<=n 3)) (decide (n 2<=n 3))=true/\
  Ord4 n (ordB (decide (n 0<=n 1)) (decide (n 0<=n 2)) (decide (n 0<=n 3)) (decide (n 1<=n 2)) (decide (n 1<=n 3)) (decide (n 2<=n 3))):=by
 generalize ha:decide (n 0<=n 1)=a
 generalize hb:decide (n 0<=n 2)=b
 generalize hc:decide (n 0<=n 3)=c
 generalize hd:decide (n 1<=n 2)=d
 generalize he:decide (n 1<=n 3)=e
 generalize hf:decide (n 2<=n 3)=f
 induction a using Bool.casesOn<;>induction b using Bool.casesOn<;>induction c using Bool.casesOn<;>induction d using Bool.casesOn<;>induction e using Bool.casesOn<;>induction f using Bool.casesOn<;>simp only[decide_eq_true_eq,decide_eq_false_iff_not]at ha hb hc hd he hf<;>first| (exfalso;lia)|exact⟨rfl,0,1,2,3,rfl,by decide,by exact ha,by exact hd,by exact hf⟩|exact⟨rfl,0,1,3,2,rfl,by decide,by exact ha,by exact he,by exact Nat.le_of_lt (Nat.lt_of_not_le hf)⟩|exact⟨rfl,0,2,1,3,rfl,by decide,by exact hb,by exact Nat.le_of_lt (Nat.lt_of_not_le hd),by exact he⟩|exact⟨rfl,0,2,3,1,rfl,by decide,by exact hb,by exact hf,by exact Nat.le_of_lt (Nat.lt_of_not_le he)⟩|exact⟨rfl,0,3,1,2,rfl,by decide,by exact hc,by exact Nat.le_of_lt (Nat.lt_of_not_le he),by exact hd⟩|exact⟨rfl,0,3,2,1,rfl,by decide,by exact hc,by exact Nat.le_of_lt (Nat.lt_of_not_le hf),by exact Nat.le_of_lt (Nat.lt_of_not_le hd)⟩|exact⟨rfl,1,0,2,3,rfl,by decide,by exact Nat.le_of_lt (Nat.lt_of_not_le ha),by exact hb,by exact hf⟩|exact⟨rfl,1,0,3,2,rfl,by decide,by exact Nat.le_of_lt (Nat.lt_of_not_le ha),by exact hc,by exact Nat.le_of_lt (Nat.lt_of_not_le hf)⟩|exact⟨rfl,1,2,0,3,rfl,by decide,by exact hd,by exact Nat.le_of_lt (Nat.lt_of_not_le hb),by exact hc⟩|exact⟨rfl,1,2,3,0,rfl,by decide,by exact hd,by exact hf,by exact Nat.le_of_lt (Nat.lt_of_not_le hc)⟩|exact⟨rfl,1,3,0,2,rfl,by decide,by exact he,by exact Nat.le_of_lt (Nat.lt_of_not_le hc),by exact hb⟩|exact⟨rfl,1,3,2,0,rfl,by decide,by exact he,by exact Nat.le_of_lt (Nat.lt_of_not_le hf),by exact Nat.le_of_lt (Nat.lt_of_not_le hb)⟩|exact⟨rfl,2,0,1,3,rfl,by decide,by exact Nat.le_of_lt (Nat.lt_of_not_le hb),by exact ha,by exact he⟩|exact⟨rfl,2,0,3,1,rfl,by decide,by exact Nat.le_of_lt (Nat.lt_of_not_le hb),by exact hc,by exact Nat.le_of_lt (Nat.lt_of_not_le he)⟩|exact⟨rfl,2,1,0,3,rfl,by decide,by exact Nat.le_of_lt (Nat.lt_of_not_le hd),by exact Nat.le_of_lt (Nat.lt_of_not_le ha),by exact hc⟩|exact⟨rfl,2,1,3,0,rfl,by decide,by exact Nat.le_of_lt (Nat.lt_of_not_le hd),by exact he,by exact Nat.le_of_lt (Nat.lt_of_not_le hc)⟩|exact⟨rfl,2,3,0,1,rfl,by decide,by exact hf,by exact Nat.le_of_lt (Nat.lt_of_not_le hc),by exact ha⟩|exact⟨rfl,2,3,1,0,rfl,by decide,by exact hf,by exact Nat.le_of_lt (Nat.lt_of_not_le he),by exact Nat.le_of_lt (Nat.lt_of_not_le ha)⟩|exact⟨rfl,3,0,1,2,rfl,by decide,by exact Nat.le_of_lt (Nat.lt_of_not_le hc),by exact ha,by exact hd⟩|exact⟨rfl,3,0,2,1,rfl,by decide,by exact Nat.le_of_lt (Nat.lt_of_not_le hc),by exact hb,by exact Nat.le_of_lt (Nat.lt_of_not_le hd)⟩|exact⟨rfl,3,1,0,2,rfl,by decide,by exact Nat.le_of_lt (Nat.lt_of_not_le he),by exact Nat.le_of_lt (Nat.lt_of_not_le ha),by exact hb⟩|exact⟨rfl,3,1,2,0,rfl,by decide,by exact Nat.le_of_lt (Nat.lt_of_not_le he),by exact hd,by exact Nat.le_of_lt (Nat.lt_of_not_le hb)⟩|exact⟨rfl,3,2,0,1,rfl,by decide,by exact Nat.le_of_lt (Nat.lt_of_not_le hf),by exact Nat.le_of_lt (Nat.lt_of_not_le hb),by exact ha⟩|exact⟨rfl,3,2,1,0,rfl,by decide,by exact Nat.le_of_lt (Nat.lt_of_not_le hf),by exact Nat.le_of_lt (Nat.lt_of_not_le hd),by exact Nat.le_of_lt (Nat.lt_of_not_le ha)⟩
noncomputable def p4(x:Nat->Int):List P2:=[(x 0,0),(x 1,1),(x 2,2),(x 3,3)]
theorem zmn(a b i j:Int)(h:i<j):zal (a,i) (b,j)=decide (a<=b):=by
 unfold zal;dsimp only;by_cases q:a=b
 ·rw[if_pos q,decide_eq_decide];lia
 ·rw[if_neg q,decide_eq_decide];lia
theorem zmm(a b i j:Int)(h:j<i):zal (a,i) (b,j)= !decide (b<=a):=by
 unfold zal;dsimp only;by_cases q:a=b
 ·rw[if_pos q,decide_eq_false (by lia),decide_eq_true (by lia)];rfl
 ·rw[if_neg q];by_cases z:a<b
  ·rw[decide_eq_true z,decide_eq_false (by lia)];rfl
  ·rw[decide_eq_false z,decide_eq_true (by lia)];rfl
noncomputable def u4(x:Nat->Int)(i j:Nat):Bool:=zal ((p4 x).getD i (0,0)) ((p4 x).getD j (0,0))
theorem u4_B(x:Nat->Int):u4 x=ltB (decide (x 0<=x 1)) (decide (x 0<=x 2)) (decide (x 0<=x 3)) (decide (x 1<=x 2)) (decide (x 1<=x 3)) (decide (x 2<=x 3)) (u4 x):=by
 funext i j;match i,j with
 |0,0=>exact zcz _
 |0,1=>exact zmn _ _ _ _ (by decide)
 |0,2=>exact zmn _ _ _ _ (by decide)
 |0,3=>exact zmn _ _ _ _ (by decide)
 |1,0=>exact zmm _ _ _ _ (by decide)
 |1,1=>exact zcz _
 |1,2=>exact zmn _ _ _ _ (by decide)
 |1,3=>exact zmn _ _ _ _ (by decide)
 |2,0=>exact zmm _ _ _ _ (by decide)
 |2,1=>exact zmm _ _ _ _ (by decide)
 |2,2=>exact zcz _
 |2,3=>exact zmn _ _ _ _ (by decide)
 |3,0=>exact zmm _ _ _ _ (by decide)
 |3,1=>exact zmm _ _ _ _ (by decide)
 |3,2=>exact zmm _ _ _ _ (by decide)
 |3,3=>exact zcz _
 |0,k+4=>rfl
 |1,k+4=>rfl
 |2,k+4=>rfl
 |3,k+4=>rfl
 |k+4,_=>rfl
noncomputable def zo8(n:Nat->Nat):List Nat:=ordB (decide (n 0<=n 1)) (decide (n 0<=n 2)) (decide (n 0<=n 3)) (decide (n 1<=n 2)) (decide (n 1<=n 3)) (decide (n 2<=n 3))
theorem zga(n:Nat->Nat):Ord4 n (zo8 n):=(zsx n).2
theorem Ord4.lt{n:Nat->Nat}{o:List Nat}(h:Ord4 n o):o.length=4/\∀k∈o,k<4:=by refine zdy λX kX=>?_;obtain⟨a,b,c,d,rfl,h,_⟩:=h;refine kX ?_;refine ia rfl ?_;revert h;generalize [a,b,c,d]=l;intro h;exact(show ∀l∈[[0,1,2,3],[0,1,3,2],[0,2,1,3],[0,2,3,1],[0,3,1,2],[0,3,2,1],[1,0,2,3],[1,0,3,2],[1,2,0,3],[1,2,3,0],[1,3,0,2],[1,3,2,0],[2,0,1,3],[2,0,3,1],[2,1,0,3],[2,1,3,0],[2,3,0,1],[2,3,1,0],[3,0,1,2],[3,0,2,1],[3,1,0,2],[3,1,2,0],[3,2,0,1],[3,2,1,0]],∀k∈l,k<4 by decide) l h
theorem p4_at(x:Nat->Int){k:Nat}(hk:k<4):(p4 x).getD k (0,0)=(x k,(k:Int)):=by
 match k,hk with
 |0,_=>rfl
 |1,_=>rfl
 |2,_=>rfl
 |3,_=>rfl
noncomputable def tl(cs:List Ch)(k:Nat):List (List Nat):=(cs.getD k []).drop 1
noncomputable def nn(cs:List Ch)(k:Nat):Nat:=cl cs k-1
noncomputable def zaR(cs:List Ch):List (List Nat):=(zo8 (nn cs)).flatMap (tl cs)
theorem zmE(cs:List Ch)(k:Nat):tl cs k=(List.range (nn cs k)).map λi=>ck cs k (1+i):=by
 unfold tl nn;refine List.ext_getElem? λi=>?_;refine rwl List.getElem?_drop ?_;refine rwl List.getElem?_map ?_;by_cases q:i<cl cs k-1
 ·refine rwl (List.getElem?_range q) ?_;refine rwl (ck_at (by omega)) ?_;rfl
 ·rw[List.getElem?_eq_none (by show cl cs k<=_;omega),List.getElem?_eq_none (by rw[List.length_range];omega)];rfl
noncomputable def tsB:S:=(.seq (.asg 1 (.bin .Add (.v 1) (.slc (.idx (.v 0) (.v 2)) (.c (.int 1)) (.c .none)))) .skip)
theorem zks(Φ:PA){cs:List Ch}(hc:Chs cs)(x:Nat->Int){U:Vs}{h:H}:∀(o:List Nat) (E:List (List Nat)) (x2 x3:V),(∀k∈o,k<cs.length)->E.length+10*o.length<=1000->∃y2 y3,
  zbZ (eF Φ tsB) [3,2] (o.map λk=>tp (x k,(k:Int))) (.lA (chV cs)::.lA (E.map .str)::x2::x3::U,h)=some (none,.lA (chV cs)::.lA ((E++o.flatMap (tl cs)).map .str)::y2::y3::U,h):=by
 intro l9;induction l9 with
 |nil=>intro E x2 x3 _ _;exact⟨x2,x3,by rw[List.flatMap_nil,List.append_nil];rfl⟩
 |cons k o zks=>
  intro E x2 x3 hk hz;have hs:1000<=zad:=by decide
  rw[List.length_cons]at hz;have hkl:=hc.at (hk k (.head _));have htl:(tl cs k).length<=9:=by rw[zmE,List.length_map,List.length_range];unfold nn;lia
  have i1:=zbh h (vs:=chV cs) (rfl:((k:Nat):Int)=_) (zkJ (hk k (.head _))) (by unfold chV;rw[List.length_map];exact lnB 0 4 1000 0 0 0 hc.n hs rfl);have sl:zeu (.lA ((cs.getD k []).map .str)) (.int 1) .none=some (.lA ((tl cs k).map .str)):=by refine rwl (sl_l rfl rfl (by rw[List.length_map];show cl cs k<=_;exact lnB 0 10 1000 0 0 0 hkl.2 hs rfl)) ?_;refine rwl List.map_drop ?_;exact congrArg (λl=>some (V.lA l)) (zfK ((cs.getD k []).map V.str) 1)
  have ad:zaU .Add h (.lA (E.map .str)) (.lA ((tl cs k).map .str))=some (.lA ((E++tl cs k).map .str)):=by exact(fit (by rw[List.length_map,List.length_map];lia):zil _ _=_).trans (by rw[List.map_append])
  have hb:eF Φ tsB (.lA (chV cs)::.lA (E.map .str)::.int (k:Int)::.int (x k)::U,h)=some (.next,.lA (chV cs)::.lA ((E++tl cs k).map .str)::.int (k:Int)::.int (x k)::U,h):=by delta tsB;nomatch i1,sl,ad
  obtain⟨y2,y3,e⟩:=zks (E++tl cs k) (.int (k:Int)) (.int (x k)) (λz hz=>hk z (.tail _ hz)) (by rw[List.length_append];lia);refine iee y2 y3 ?_;have hbt:zbC (.lA (chV cs)::.lA (E.map .str)::x2::x3::U) [3,2] (tp (x k,(k:Int)))=some (.lA (chV cs)::.lA (E.map .str)::.int (k:Int)::.int (x k)::U):=rfl;refine rwl List.map_cons ?_;refine rwl (zf3 hbt hb) ?_;refine rwl e ?_;refine rwl List.flatMap_cons ?_;rw[List.append_assoc]
theorem zgb:∀ps:List P2,pairsOf (ps.map tp)=some ps:=by
 intro l9;induction l9 with
 |nil=>exact rfl
 |cons p r zgb=>refine rwl List.map_cons ?_;rw[po_s];refine rwl zgb ?_;rfl
theorem zib(m:Nat){cs:List Ch}(hc:Chs cs)(h4:cs.length=4){h:H}(w:WF h):zac (m+1) 21 [.lA (chV cs)] h=some (.lA ((zaR cs).map .str),h):=by
 have hs:1000<=zad:=by decide
 have hord:=zga (nn cs);have hmono:∀i j,i<4->j<4->(((cl cs i:Nat):Int)<=((cl cs j:Nat):Int)↔nn cs i<=nn cs j):=λi j hi hj=>by have:=hc.at (k:=i) (by lia);have:=hc.at (k:=j) (by lia);unfold nn;lia
 refine zbt zjZ (fl:=.ret (.lA ((zaR cs).map .str))) w ?_ rfl rfl ⟨rfl,rfl⟩;show zcd (eF (zac m) (.seq (.asg 1 (.lA .nil)) (.seq (.fors [3,2] (.sorted (.comp [4] (.rg (.cons (.len (.v 0)) .nil)) (.c (.bool true)) (.tup (.cons (.len (.idx (.v 0) (.v 4))) (.cons (.v 4) .nil))))) tsB .skip) (.seq (.ret (.v 1)) .skip)))
  (.lA (chV cs)::.uA::.uA::.uA::R6,h))=_
 have e1:eF (zac m) (.asg 1 (.lA .nil)) (.lA (chV cs)::.uA::.uA::.uA::R6,h)=some (.next,.lA (chV cs)::.lA (([]:List (List Nat)).map .str)::.uA::.uA::R6,h):=rfl;have hit:eE (zac m) (.lA (chV cs)::.lA (([]:List (List Nat)).map .str)::.uA::.uA::R6) (.rg (.cons (.len (.v 0)) .nil)) h=some (.rng 0 (4:Nat) 1,h):=by have hln:=zax h (vs:=chV cs) (by unfold chV;rw[List.length_map];exact lnB 0 4 1000 0 0 0 hc.n hs rfl);rw[show (chV cs).length=4 by unfold chV;rw[List.length_map,h4]]at hln;nomatch hln
 have hcm:=zgw (zac m) (tA:=[4]) (it:=.rg (.cons (.len (.v 0)) .nil)) (elt:=.tup (.cons (.len (.idx (.v 0) (.v 4))) (.cons (.v 4) .nil))) (vs:=.lA (chV cs)::.lA (([]:List (List Nat)).map .str)::.uA::.uA::R6) (h:=h)
  (xs:=List.range 4) (λk=>V.int (k:Nat)) (λk=>tp ((cl cs k:Nat),(k:Int))) hit (zaK 4 (by decide)) λk hk=>by have hkl:=List.mem_range.mp hk;have hk':=hc.at (k:=k) (by lia);have i1:=zbh h (vs:=chV cs) (rfl:((k:Nat):Int)=_) (zkJ (by lia)) (by unfold chV;rw[List.length_map];exact lnB 0 4 1000 0 0 0 hc.n hs rfl);have hln:=zax h (vs:=(cs.getD k []).map .str) (by rw[List.length_map];show cl cs k<=_;exact lnB 0 10 1000 0 0 0 hk'.2 hs rfl);rw[List.length_map]at hln;refine zk2 (.lA (chV cs)::.lA (([]:List (List Nat)).map .str)::.uA::.uA::.int (k:Nat)::List.replicate 5 .uA) rfl ?_ rfl;simp only[zaF,zaV,zar,zbM,zap,zag,zaH,GA,GB,OA,OB,OC,i1,hln,List.all_cons,List.all_nil,flat,Bool.and_self,if_true];rfl
 have hps:(List.range 4).map (λk=>tp ((cl cs k:Nat),(k:Int)))=(p4 λk=>((cl cs k:Nat):Int)).map tp:=rfl;rw[hps]at hcm;have hsort:zmv (p4 λk=>((cl cs k:Nat):Int))=(zo8 (nn cs)).map λk=>(((cl cs k:Nat):Int),(k:Int)):=by
  have h1:zmv (p4 λk=>((cl cs k:Nat):Int))=(zrU (u4 λk=>((cl cs k:Nat):Int))).map λk=>(p4 λk=>((cl cs k:Nat):Int)).getD k (0,0):=rfl;have h2:zrU (u4 λk=>((cl cs k:Nat):Int))=zo8 (nn cs):=by rw[u4_B];simp only[hmono 0 1 (by decide) (by decide),hmono 0 2 (by decide) (by decide),hmono 0 3 (by decide) (by decide),hmono 1 2 (by decide) (by decide),hmono 1 3 (by decide) (by decide),hmono 2 3 (by decide) (by decide)];exact(zol _ _ _ _ _ _ _ (zsx (nn cs)).1).2
  refine rwl h1 ?_;refine rwl h2 ?_;exact List.map_congr_left λk hk=>p4_at _ (hord.lt.2 k hk)
 have hso:eE (zac m) (.lA (chV cs)::.lA (([]:List (List Nat)).map .str)::.uA::.uA::R6) (.sorted (.comp [4] (.rg (.cons (.len (.v 0)) .nil)) (.c (.bool true)) (.tup (.cons (.len (.idx (.v 0) (.v 4))) (.cons (.v 4) .nil))))) h=some (.lA ((zo8 (nn cs)).map λk=>tp (((cl cs k:Nat):Int),(k:Int))),h):=by refine rwl zbj ?_;refine rwl hcm ?_;simp only[OA,OB,zgb,zdY];refine rwl hsort ?_;refine rwl List.map_map ?_;rfl
 have hiz:zak [3,2] (.lA ((zo8 (nn cs)).map λk=>tp (((cl cs k:Nat):Int),(k:Int))))=some ((zo8 (nn cs)).map λk=>tp (((cl cs k:Nat):Int),(k:Int))):=by unfold zak;simp only[zaN,OB];exact rwl (if_pos ⟨by rw[List.length_map,hord.lt.1];exact lnA 1000 0 4 0 hs rfl,.inr rfl⟩) rfl
 obtain⟨y2,y3,lp⟩:=zks (zac m) hc (λk=>((cl cs k:Nat):Int)) (U:=R6) (h:=h) (zo8 (nn cs)) [] .uA .uA (λk hk=>by have:=hord.lt.2 k hk;lia) (by rw[hord.lt.1];decide);rw[zao];refine rwl e1 ?_;dsimp only;rw[zao];refine rwl (zgq _ hso hiz) ?_;refine rwl lp ?_;nomatch zcd
theorem zbw{Φ:PA}{a b:S}{st st':Vs×H}(e:eF Φ a st=some (.next,st')):eF Φ (.seq a b) st=eF Φ b st':=by rw[zao,e]
theorem zpf{Φ:PA}{a b:S}{st st':Vs×H}{v:V}(e:eF Φ a st=some (.ret v,st')):eF Φ (.seq a b) st=some (.ret v,st'):=by rw[zao,e]
theorem x_fn{Φ:PA}{tA:List Nat}{it:E}{body:S}{vs vs':Vs}{h hJ h':H}{v:V}{xs:List V}(e:eE Φ vs it h=some (v,hJ))(hz:zak tA v=some xs)(l:zbZ (eF Φ body) tA xs (vs,hJ)=some (none,vs',h')):
 eF Φ (.fors tA it body .skip) (vs,h)=some (.next,vs',h'):=by rw[zgq Φ e hz,l,zdb,x_skip]
theorem x_fr{Φ:PA}{tA:List Nat}{it:E}{body o:S}{vs vs':Vs}{h hJ h':H}{v:V}{xs:List V}{f:Fl}(e:eE Φ vs it h=some (v,hJ))(hz:zak tA v=some xs)(l:zbZ (eF Φ body) tA xs (vs,hJ)=some (some f,vs',h')):
 eF Φ (.fors tA it body o) (vs,h)=some (f,vs',h'):=by rw[zgq Φ e hz,l,zeM]
theorem zjh{Φ:PA}{t:E}{a b:S}{vs:Vs}{h hJ:H}(e:eE Φ vs t h=some (.bool true,hJ)):eF Φ (.ifs t a b) (vs,h)=eF Φ a (vs,hJ):=by rw[zky Φ e (zaL _ _),if_pos rfl]
theorem zcr{Φ:PA}{t:E}{a b:S}{vs:Vs}{h hJ:H}(e:eE Φ vs t h=some (.bool false,hJ)):eF Φ (.ifs t a b) (vs,h)=eF Φ b (vs,hJ):=by rw[zky Φ e (zaL _ _),if_neg (by decide)]
theorem zbv(Φ:PA)(a:S)(st:Vs×H):eF Φ (.seq a .skip) st=eF Φ a st:=by
 rw[zao];generalize eF Φ a st=x0;induction x0 using Option.casesOn with
 |none=>rfl
 |some r=>obtain⟨f,x⟩:=r;induction f using Fl.casesOn<;>first|rfl|exact x_skip _ _
structure SOK (ss:List Nat) (sh:List (List Nat×Sc)) (cs:List Ch):Prop where
 n:ss.length=4
 at_:∀k,k<4->∃c s M:Nat,ss[k]?=some M/\zkm (M:Int)=(s:Nat)/\s≠0/\s<=3/\sh.lookup (ck cs k 0)=some (.int (c:Nat))/\ -((-(c:Int)).fdiv (s:Int))=((nn cs k:Nat):Int)
theorem zeU{body:Vs×H->Option (Fl×Vs×H)}{t:Nat}{x:V}{xs:List V}{vs:Vs}{h:H}{st:Vs×H}(e:body (vs.set t x,h)=some (.next,st)):zbZ body [t] (x::xs) (vs,h)=zbZ body [t] xs st:=by exact zf3 rfl e
theorem lp_ret{body:Vs×H->Option (Fl×Vs×H)}{t:Nat}{x:V}{xs:List V}{vs:Vs}{h:H}{st:Vs×H}{v:V}(e:body (vs.set t x,h)=some (.ret v,st)):zbZ body [t] (x::xs) (vs,h)=some (some (.ret v),st):=by exact lo_r rfl e
noncomputable def sgB:S:=(.seq (.expr (.append (.v 4) (.tup (.cons (.neg (.bin .FloorDiv (.neg (.idx (.v 3) (.idx (.v 0) (.v 5)))) (.call 14 (.cons (.idx (.v 1) (.v 5)) .nil)))) (.cons (.v 5) .nil))))) .skip)
noncomputable abbrev wV(cs:List Ch):V:=.lA ((zaa cs).map .str)
noncomputable abbrev sV(ss:List Nat):V:=.lA (ss.map λi=>.int (i:Nat))
theorem zh2(m:Nat){h:H}(w:WF h){cs:List Ch}(hc:Chs cs)(h4:cs.length=4){ss:List Nat}{af sh:List (List Nat×Sc)}(hS:SOK ss sh cs){k:Nat}(hk:k<4){P:List P2}(hP:P.length<=100){U:Vs}:
  eF (zac (m+3)) sgB (wV cs::sV ss::.dS af::.dS sh::.obj h.length::.int (k:Nat)::U,h++[.list (P.map tp)])=some (.next,wV cs::sV ss::.dS af::.dS sh::.obj h.length::.int (k:Nat)::U,h++[.list ((P++[(((nn cs k:Nat):Int),(k:Int))]).map tp)]):=by
 refine zdy λX kX=>?_
 have hz:1000<=zad:=by decide
 have hwl:=zcO cs
 refine zbe (hS.at_ k hk) λc s M q1 q2 q3 q4 x0=>?_;refine xa x0 λq5 q6=>?_
 have i0:=zbh (h++[.list (P.map tp)]) (vs:=(zaa cs).map .str) (rfl:((k:Nat):Int)=_) (v:=.str (ck cs k 0)) (by rw[List.getElem?_map,zdF (by lia)];rfl) (by rw[List.length_map];lia)
 have i1:=zbh (h++[.list (P.map tp)]) (vs:=ss.map λi=>.int (i:Nat)) (rfl:((k:Nat):Int)=_) (v:=.int (M:Nat)) (by rw[List.getElem?_map,q1];rfl) (by rw[List.length_map,hS.n];exact lnA 1000 0 4 0 hz rfl)
 have st:=zlo m (M:Int) (zd3 w rfl:WF (h++[.list (P.map tp)]))
 rw[q2]at st
 have dv:=zgK (h++[.list (P.map tp)]) (-(c:Int)) (y:=(s:Int)) ⟨by lia,by lia⟩
 have hg:(h++[Ob.list (P.map tp)])[h.length]?=some (.list (P.map tp)):=by simp
 have hset:(h++[Ob.list (P.map tp)]).set h.length (.list (P.map tp++[.tup [.int ((nn cs k:Nat):Int),.int (k:Int)]]))=h++[.list ((P++[(((nn cs k:Nat):Int),(k:Int))]).map tp)]:=by simp[tp]
 refine kX ?_
 simp only[sgB,zaW,zaJ,za5,zaF,zaz,zc9,zav,zar,zbM,zaA,zap,zag,zfl,zaH,zbO,zhQ,zhP,GA,GB,OA,OB,OC,hg,i0,i1,(ziW (h++[.list (P.map tp)]) q5),Sc.v,st,dv,q6,List.all_cons,List.all_nil,flat,Bool.and_self,if_true,List.length_map,hset]
 refine rwl (if_pos ⟨trivial,by exact lnB 0 100 1000 0 0 0 hP hz rfl⟩) ?_
 rfl
set_option tactic.hygienic true in
theorem zhU(P:List P2):(zim P).2.length=P.length-1:=by
 unfold zim;dsimp only;split
 ·rename_i q;have:P.dropLast=[]:=List.isEmpty_iff.mp q;have:=congrArg List.length this;rw[List.length_dropLast]at this;lia
 ·rw[zgj,List.length_set,List.length_dropLast]
noncomputable def soB2:S:=(.seq (.asg 9 (.idx (.v 2) (.v 9))) (.seq (.expr (.append (.v 6) (.v 9))) .skip))
theorem zh4(Φ:PA){h:H}{cs:List Ch}{af sh:List (List Nat×Sc)}(hD:DOK af sh cs){k:Nat}(hk:k<cs.length){x0 x1 x3 x4 x5 x7 x8:V}{a:Ob}{U:Vs}:∀(xs:List V) (j:Nat) (E:List (List Nat)) (x10:V),xs.length+j<cl cs k->E.length+xs.length<=1000->∃y9 y10,
  zbZ (eF Φ soB2) [10] xs (x0::x1::.dS af::x3::x4::x5::.obj (h.length+1)::x7::x8::.str (ck cs k j)::x10::U,h++[a,.list (E.map .str)])=
   some (none,x0::x1::.dS af::x3::x4::x5::.obj (h.length+1)::x7::x8::y9::y10::U,h++[a,.list ((E++(List.range xs.length).map λi=>ck cs k (j+1+i)).map .str)]):=by
 intro l9;induction l9 with
 |nil=>intro j E x10 _ _;exact⟨.str (ck cs k j),x10,by rw[List.length_nil,List.range_zero,List.map_nil,List.append_nil];rfl⟩
 |cons x xs zh4=>
  intro j E x10 hj hz;rw[List.length_cons]at hj hz;have hset:(h++[a,Ob.list (E.map V.str)]).set (h.length+1) (.list (E.map V.str++[.str (ck cs k (j+1))]))=h++[a,.list ((E++[ck cs k (j+1)]).map .str)]:=by rw[st_1];refine rwl List.map_append ?_;rfl
  have hb:eF Φ soB2 (x0::x1::.dS af::x3::x4::x5::.obj (h.length+1)::x7::x8::.str (ck cs k j)::x::U,h++[a,.list (E.map .str)])=some (.next,x0::x1::.dS af::x3::x4::x5::.obj (h.length+1)::x7::x8::.str (ck cs k (j+1))::x::U,h++[a,.list ((E++[ck cs k (j+1)]).map .str)]):=by simp only[soB2,zaW,zaJ,za5,zaw,zaF,zar,zaA,zbO,zhQ,zhP,GA,GB,OA,OB,OC,SA,SB,(λH=>ziW H (hD.af k hk j (by lia))),Sc.v,(at_1 h _ _),List.length_map,flat,hset];refine rwl (if_pos ⟨trivial,by exact Nat.le_trans (Nat.le_add_right _ _) (Nat.le_trans hz (by decide:1000<=zad))⟩) ?_;rfl
  obtain⟨y9,y10,e⟩:=zh4 (j+1) (E++[ck cs k (j+1)]) x (by lia) (by rw[List.length_append];simp only[List.length_cons,List.length_nil];lia);refine iee y9 y10 ?_;refine rwl (zf3 rfl hb) ?_;refine rwl e ?_;refine rwl List.range_succ_eq_map ?_;refine rwl List.map_cons ?_;refine rwl List.map_map ?_;rw[List.append_assoc];have:(List.range xs.length).map (λi=>ck cs k (j+1+1+i))=(List.range xs.length).map ((λi=>ck cs k (j+1+i))∘Nat.succ):=List.map_congr_left λi _=>by show _=ck cs k (j+1+(i+1));lia
  refine rwl this ?_;rfl
noncomputable def soB:S:=(.seq (.asgT [7,8] (.call 0 (.cons (.v 4) .nil))) (.seq (.asg 9 (.idx (.v 0) (.v 8))) (.seq (.fors [10] (.rg (.cons (.v 7) .nil)) soB2 .skip) .skip)))
theorem zh3(m:Nat){h:H}(w:WF h){cs:List Ch}(hc:Chs cs){af sh:List (List Nat×Sc)}(hD:DOK af sh cs){k:Nat}(hk:k<cs.length){P P':List P2}(hP:0<P.length)(hP4:P.length<=4)(e:zim P=((((nn cs k:Nat):Int),(k:Int)),P')){E:List (List Nat)}(hE:E.length<=500){x1 x3 x5 x7 x8 x9 x10:V}{U:Vs}:∃y7 y8 y9 y10,
  eF (zac (m+3)) soB (wV cs::x1::.dS af::x3::.obj h.length::x5::.obj (h.length+1)::x7::x8::x9::x10::U,h++[.list (P.map tp),.list (E.map .str)])=
   some (.next,wV cs::x1::.dS af::x3::.obj h.length::x5::.obj (h.length+1)::y7::y8::y9::y10::U,h++[.list (P'.map tp),.list ((E++tl cs k).map .str)]):=by
 have hz:1000<=zad:=by decide
 have hwl:=zcO cs
 have hn:=hc.n
 have hkl:=hc.at hk
 have w1:WF (h++[.list (P.map tp),.list (E.map .str)]):=zlx w (λ_=>rfl) λ_=>rfl
 have hr:=zfX m w1 (at_0 h _ _) hP (by exact Nat.le_trans hP4 (by decide))
 rw[e,st_0]at hr
 have hr':zac (m+3) 0 [.obj h.length] (h++[.list (P.map tp),.list (E.map .str)])=some (.tup [.int ((nn cs k:Nat):Int),.int (k:Int)],h++[.list (P'.map tp),.list (E.map .str)]):=hr
 have i0:=zbh (h++[.list (P'.map tp),.list (E.map .str)]) (vs:=(zaa cs).map .str) (rfl:((k:Nat):Int)=_) (v:=.str (ck cs k 0)) (by rw[List.getElem?_map,zdF hk];rfl) (by rw[List.length_map];lia)
 have hnk:nn cs k<=9:=by unfold nn;lia
 obtain⟨y9,y10,lp⟩:=zh4 (zac (m+3)) (h:=h) hD hk (x0:=wV cs) (x1:=x1) (x3:=x3) (x4:=.obj h.length) (x5:=x5) (x7:=.int (nn cs k:Nat)) (x8:=.int (k:Nat)) (a:=.list (P'.map tp)) (U:=U) ((List.range (nn cs k)).map λi=>.int (i:Nat)) 0 E x10 (by rw[List.length_map,List.length_range];unfold nn;lia) (by rw[List.length_map,List.length_range];lia)
 rw[List.length_map,List.length_range]at lp
 have htl:(List.range (nn cs k)).map (λi=>ck cs k (0+1+i))=tl cs k:=by rw[zmE]
 rw[htl]at lp
 refine⟨.int (nn cs k:Nat),.int (k:Nat),y9,y10,?_⟩
 have b1:eF (zac (m+3)) (.asgT [7,8] (.call 0 (.cons (.v 4) .nil))) (wV cs::x1::.dS af::x3::.obj h.length::x5::.obj (h.length+1)::x7::x8::x9::x10::U,h++[.list (P.map tp),.list (E.map .str)])=some (.next,wV cs::x1::.dS af::x3::.obj h.length::x5::.obj (h.length+1)::.int (nn cs k:Nat)::.int (k:Nat)::x9::x10::U,h++[.list (P'.map tp),.list (E.map .str)]):=by nomatch hr',zbu
 have b2:eF (zac (m+3)) (.asg 9 (.idx (.v 0) (.v 8))) (wV cs::x1::.dS af::x3::.obj h.length::x5::.obj (h.length+1)::.int (nn cs k:Nat)::.int (k:Nat)::x9::x10::U,h++[.list (P'.map tp),.list (E.map .str)])=some (.next,wV cs::x1::.dS af::x3::.obj h.length::x5::.obj (h.length+1)::.int (nn cs k:Nat)::.int (k:Nat)::.str (ck cs k 0)::x10::U,h++[.list (P'.map tp),.list (E.map .str)]):=by nomatch i0
 have ev:eE (zac (m+3)) (wV cs::x1::.dS af::x3::.obj h.length::x5::.obj (h.length+1)::.int (nn cs k:Nat)::.int (k:Nat)::.str (ck cs k 0)::x10::U) (.rg (.cons (.v 7) .nil)) (h++[.list (P'.map tp),.list (E.map .str)])=some (.rng 0 (nn cs k:Nat) 1,h++[.list (P'.map tp),.list (E.map .str)]):=by nomatch rfl
 rw[soB,zbw b1,zbw b2,zbw (x_fn ev (zaK 10 (by exact Nat.le_trans hnk (by decide))) lp),x_skip]
theorem zi7(m:Nat){h:H}(w:WF h){cs:List Ch}(hc:Chs cs)(h4:cs.length=4){ss:List Nat}{af sh:List (List Nat×Sc)}(hD:DOK af sh cs)(hS:SOK ss sh cs):
  zac (m+4) 19 [wV cs,sV ss,.dS af,.dS sh] h=some (.lA ((zaR cs).map .str),h):=by
 have hz:1000<=zad:=by decide
 have hwl:=zcO cs
 have hord:=zga (nn cs)
 have hgo:gord (u4 λk=>((nn cs k:Nat):Int))=zo8 (nn cs):=by rw[u4_B];simp only[Int.ofNat_le];exact(zol _ _ _ _ _ _ _ (zsx (nn cs)).1).1
 have hlt:=hord.lt.2
 refine zs4 hord λa b c d ho _ _=>?_
 rw[ho]at hgo hlt
 have ha:=hlt a (by simp)
 have hb:=hlt b (by simp)
 have hcc:=hlt c (by simp)
 have hd:=hlt d (by simp)
 have f9:(λk=>(p4 λk=>((nn cs k:Nat):Int)).getD k (0,0)) 9=(0,0):=rfl
 have hltE:(λi j=>zal ((p4 λk=>((nn cs k:Nat):Int)).getD i (0,0)) ((p4 λk=>((nn cs k:Nat):Int)).getD j (0,0)))=u4 λk=>((nn cs k:Nat):Int):=rfl
 have nS:=λ(l:List Nat) (p:Nat)=>zst (f:=λk=>(p4 λk=>((nn cs k:Nat):Int)).getD k (0,0)) f9 l p
 have nP:=λ(l:List Nat)=>zqR (f:=λk=>(p4 λk=>((nn cs k:Nat):Int)).getD k (0,0)) f9 l
 rw[hltE]at nS nP
 have hx:∀k,k<4->(p4 λk=>((nn cs k:Nat):Int)).getD k (0,0)=(((nn cs k:Nat):Int),(k:Int)):=λk hk=>p4_at _ hk
 obtain⟨H0,hH0⟩:∃H0,H0=(gh0 (u4 λk=>((nn cs k:Nat):Int))).map λk=>(p4 λk=>((nn cs k:Nat):Int)).getD k (0,0):=⟨_,rfl⟩
 obtain⟨H1,hH1⟩:∃H1,H1=(gh1 (u4 λk=>((nn cs k:Nat):Int))).map λk=>(p4 λk=>((nn cs k:Nat):Int)).getD k (0,0):=⟨_,rfl⟩
 obtain⟨H2,hH2⟩:∃H2,H2=(gh2 (u4 λk=>((nn cs k:Nat):Int))).map λk=>(p4 λk=>((nn cs k:Nat):Int)).getD k (0,0):=⟨_,rfl⟩
 obtain⟨H3,hH3⟩:∃H3,H3=(gh3 (u4 λk=>((nn cs k:Nat):Int))).map λk=>(p4 λk=>((nn cs k:Nat):Int)).getD k (0,0):=⟨_,rfl⟩
 unfold gord at hgo
 simp only[List.cons.injEq,and_true]at hgo
 refine zig hgo λg1 g2 g3 g4=>?_
 have p1:zim H0=((((nn cs a:Nat):Int),(a:Int)),H1):=by rw[hH0,nP,g1,hx a ha,hH1];rfl
 have p2:zim H1=((((nn cs b:Nat):Int),(b:Int)),H2):=by rw[hH1,nP,g2,hx b hb,hH2];rfl
 have p3:zim H2=((((nn cs c:Nat):Int),(c:Int)),H3):=by rw[hH2,nP,g3,hx c hcc,hH3];rfl
 obtain⟨H4,p4'⟩:∃H4,zim H3=((((nn cs d:Nat):Int),(d:Int)),H4):=⟨_,by rw[hH3,nP,g4,hx d hd]⟩
 have hI:suM (suM [(((nn cs 3:Nat):Int),(3:Int)),(((nn cs 2:Nat):Int),(2:Int)),(((nn cs 1:Nat):Int),(1:Int)),(((nn cs 0:Nat):Int),(0:Int))] 1) 0=H0:=by have:[(((nn cs 3:Nat):Int),(3:Int)),(((nn cs 2:Nat):Int),(2:Int)),(((nn cs 1:Nat):Int),(1:Int)),(((nn cs 0:Nat):Int),(0:Int))]=[3,2,1,0].map λk=>(p4 λk=>((nn cs k:Nat):Int)).getD k (0,0):=rfl;rw[this,nS,nS,hH0];rfl
 have l0:H0.length=4:=by rw[<-hI,zgj,zgj];rfl
 have l1:H1.length=3:=by have:=zhU H0;rw[p1,l0]at this;exact this
 have l2:H2.length=2:=by have:=zhU H1;rw[p2,l1]at this;exact this
 have l3:H3.length=1:=by have:=zhU H2;rw[p3,l2]at this;exact this
 have tll:∀k,k<4->(tl cs k).length<=9:=λk hk=>by have:=hc.at (k:=k) (by lia);rw[zmE,List.length_map,List.length_range];unfold nn;lia
 have ta:=tll a ha
 have tb:=tll b hb
 have tc:=tll c hcc
 refine zbf zmd (fl:=.ret (.lA ((zaR cs).map .str))) (h':=h++[.list (H4.map tp),.gone]) ?_ (by simp) rfl w rfl ⟨rfl,rfl⟩
 show zcd (eF (zac (m+3)) (.seq (.asgM 4 (.lA .nil)) (.seq (.fors [5] (.rg (.cons (.bin .Sub (.len (.v 0)) (.c (.int 1))) (.cons (.neg (.c (.int 1))) (.cons (.neg (.c (.int 1))) .nil)))) sgB .skip)
  (.seq (.ifs (.cmp .IsNot (.call 2 (.cons (.v 4) .nil)) (.c .none)) (.seq (.ret (.c .none)) .skip) .skip) (.seq (.asgM 6 (.lA .nil)) (.seq (.fors [5] (.rg (.cons (.len (.v 0)) .nil)) soB .skip) (.seq (.frz [6] (.ret (.v 6))) .skip))))))
  (wV cs::sV ss::.dS af::.dS sh::.uA::.uA::.uA::.uA::.uA::.uA::.uA::R6,h))=_
 have e1:eF (zac (m+3)) (.asgM 4 (.lA .nil)) (wV cs::sV ss::.dS af::.dS sh::.uA::.uA::.uA::.uA::.uA::.uA::.uA::R6,h)=some (.next,wV cs::sV ss::.dS af::.dS sh::.obj h.length::.uA::.uA::.uA::.uA::.uA::.uA::R6,h++[.list (([]:List P2).map tp)]):=rfl
 have hln:∀H,zdh H (wV cs)=some (4:Int):=λH=>by have:=zax H (vs:=(zaa cs).map .str) (by rw[List.length_map];lia);rw[List.length_map,hwl,h4]at this;exact this
 have ev1:eE (zac (m+3)) (wV cs::sV ss::.dS af::.dS sh::.obj h.length::.uA::.uA::.uA::.uA::.uA::.uA::R6) (.rg (.cons (.bin .Sub (.len (.v 0)) (.c (.int 1))) (.cons (.neg (.c (.int 1))) (.cons (.neg (.c (.int 1))) .nil)))) (h++[.list (([]:List P2).map tp)])=some (.rng 3 (-1) (-1),h++[.list (([]:List P2).map tp)]):=by simp only[zbL,zaF,zaz,zc9,zaV,zcI,zap,zag,zfl,zaH,zpd,GA,GB,OA,OB,OC,hln,zha];rfl
 have hiz:zak [5] (.rng 3 (-1) (-1))=some [.int (3:Nat),.int (2:Nat),.int (1:Nat),.int (0:Nat)]:=by kernel_rfl
 have lp1:zbZ (eF (zac (m+3)) sgB) [5] [.int (3:Nat),.int (2:Nat),.int (1:Nat),.int (0:Nat)] (wV cs::sV ss::.dS af::.dS sh::.obj h.length::.uA::.uA::.uA::.uA::.uA::.uA::R6,h++[.list (([]:List P2).map tp)])=
   some (none,wV cs::sV ss::.dS af::.dS sh::.obj h.length::.int (0:Nat)::.uA::.uA::.uA::.uA::.uA::R6,h++[.list ([(((nn cs 3:Nat):Int),(3:Int)),(((nn cs 2:Nat):Int),(2:Int)),(((nn cs 1:Nat):Int),(1:Int)),(((nn cs 0:Nat):Int),(0:Int))].map tp)]):=by
  refine (zf3 rfl (zh2 m w hc h4 hS (by decide) (by decide))).trans ?_
  refine (zf3 rfl (zh2 m w hc h4 hS (by decide) (by simp))).trans ?_
  refine (zf3 rfl (zh2 m w hc h4 hS (by decide) (by simp))).trans ?_
  exact zf3 rfl (zh2 m w hc h4 hS (by decide) (by simp))
 have w1:WF (h++[.list ([(((nn cs 3:Nat):Int),(3:Int)),(((nn cs 2:Nat):Int),(2:Int)),(((nn cs 1:Nat):Int),(1:Int)),(((nn cs 0:Nat):Int),(0:Int))].map tp)]):=zd3 w rfl
 have hfy:=zjN m w1 (i:=h.length) (ps:=[(((nn cs 3:Nat):Int),(3:Int)),(((nn cs 2:Nat):Int),(2:Int)),(((nn cs 1:Nat):Int),(1:Int)),(((nn cs 0:Nat):Int),(0:Int))]) (by simp) rfl
 rw[hI]at hfy
 have hst:(h++[Ob.list ([(((nn cs 3:Nat):Int),(3:Int)),(((nn cs 2:Nat):Int),(2:Int)),(((nn cs 1:Nat):Int),(1:Int)),(((nn cs 0:Nat):Int),(0:Int))].map tp)]).set h.length (.list (H0.map tp))=h++[.list (H0.map tp)]:=by rw[List.set_append_right _ _ (Nat.le_refl _)];simp
 rw[hst]at hfy
 have t2:eE (zac (m+3)) (wV cs::sV ss::.dS af::.dS sh::.obj h.length::.int (0:Nat)::.uA::.uA::.uA::.uA::.uA::R6) (.cmp .IsNot (.call 2 (.cons (.v 4) .nil)) (.c .none)) (h++[.list ([(((nn cs 3:Nat):Int),(3:Int)),(((nn cs 2:Nat):Int),(2:Int)),(((nn cs 1:Nat):Int),(1:Int)),(((nn cs 0:Nat):Int),(0:Int))].map tp)])=some (.bool false,h++[.list (H0.map tp)]):=by simp only[zbL,zaF,zaI,zav,zap,zag,zaH,GA,GB,OA,OB,OC,hfy];rfl
 have e3:eF (zac (m+3)) (.asgM 6 (.lA .nil)) (wV cs::sV ss::.dS af::.dS sh::.obj h.length::.int (0:Nat)::.uA::.uA::.uA::.uA::.uA::R6,h++[.list (H0.map tp)])=some (.next,wV cs::sV ss::.dS af::.dS sh::.obj h.length::.int (0:Nat)::.obj (h.length+1)::.uA::.uA::.uA::.uA::R6,h++[.list (H0.map tp),.list (([]:List (List Nat)).map .str)]):=by simp only[zb5,zcU,zap,zaH,GA,GB,OA,OB,OC,SA,SB,List.all_nil,if_true,zjd,List.length_append,List.length_cons,List.length_nil,Nat.zero_add,List.append_assoc,List.cons_append,List.nil_append];rfl
 have ev4:eE (zac (m+3)) (wV cs::sV ss::.dS af::.dS sh::.obj h.length::.int (0:Nat)::.obj (h.length+1)::.uA::.uA::.uA::.uA::R6) (.rg (.cons (.len (.v 0)) .nil)) (h++[.list (H0.map tp),.list (([]:List (List Nat)).map .str)])=some (.rng 0 (4:Nat) 1,h++[.list (H0.map tp),.list (([]:List (List Nat)).map .str)]):=by simp only[zaF,zaV,zcI,zap,zag,zaH,zjk,GA,GB,OA,OB,OC,hln];rfl
 have hit4:zak [5] (.rng 0 (4:Nat) 1)=some [.int (0:Nat),.int (1:Nat),.int (2:Nat),.int (3:Nat)]:=zaK 5 (by decide)
 have lp2:∃y5 y7 y8 y9 y10,zbZ (eF (zac (m+3)) soB) [5] [.int (0:Nat),.int (1:Nat),.int (2:Nat),.int (3:Nat)] (wV cs::sV ss::.dS af::.dS sh::.obj h.length::.int (0:Nat)::.obj (h.length+1)::.uA::.uA::.uA::.uA::R6,h++[.list (H0.map tp),.list (([]:List (List Nat)).map .str)])=
   some (none,wV cs::sV ss::.dS af::.dS sh::.obj h.length::y5::.obj (h.length+1)::y7::y8::y9::y10::R6,h++[.list (H4.map tp),.list ((zaR cs).map .str)]):=by
  refine xeeee (zh3 m w hc hD (k:=a) (by omega) (by omega) (by omega) p1 (E:=[]) (by simp) (x1:=sV ss) (x3:=.dS sh) (x5:=.int (0:Nat)) (x7:=.uA) (x8:=.uA) (x9:=.uA) (x10:=.uA) (U:=R6)) λq7 q8 q9 q10 r1=>?_
  obtain⟨r7,r8,r9,x0,r2⟩:=zh3 m w hc hD (k:=b) (by lia) (by lia) (by lia) p2 (E:=[]++tl cs a) (by rw[List.nil_append];exact Nat.le_trans ta (by decide)) (x1:=sV ss) (x3:=.dS sh) (x5:=.int (1:Nat)) (x7:=q7) (x8:=q8) (x9:=q9) (x10:=q10) (U:=R6)
  obtain⟨s7,s8,s9,s10,r3⟩:=zh3 m w hc hD (k:=c) (by lia) (by lia) (by lia) p3 (E:=[]++tl cs a++tl cs b) (by rw[List.nil_append,List.length_append];lia) (x1:=sV ss) (x3:=.dS sh) (x5:=.int (2:Nat)) (x7:=r7) (x8:=r8) (x9:=r9) (x10:=x0) (U:=R6)
  obtain⟨t7,t8,t9,r0,r4⟩:=zh3 m w hc hD (k:=d) (by lia) (by lia) (by lia) p4' (E:=[]++tl cs a++tl cs b++tl cs c) (by rw[List.nil_append,List.length_append,List.length_append];lia) (x1:=sV ss) (x3:=.dS sh) (x5:=.int (3:Nat)) (x7:=s7) (x8:=s8) (x9:=s9) (x10:=s10) (U:=R6)
  refine⟨.int (3:Nat),t7,t8,t9,r0,?_⟩
  rw[zf3 rfl r1,zf3 rfl r2,zf3 rfl r3,zf3 rfl r4,lo_0]
  have:[]++tl cs a++tl cs b++tl cs c++tl cs d=zaR cs:=by unfold zaR;rw[ho];simp only[List.flatMap_cons,List.flatMap_nil,List.append_nil,List.nil_append,List.append_assoc]
  rw[this]
 refine xeeeee lp2 λy5 y7 y8 y9 y10 lp2=>?_
 rw[zbw e1,zbw (x_fn ev1 hiz lp1),zbw ((zcr t2).trans (x_skip _ _)),zbw e3,zbw (x_fn ev4 hit4 lp2)]
 simp only[zaJ,za2,zcW,zaF,GA,GB,OA,OB,OC,SA,SB,zrI,zrH,zdO,zbO,frzOf,Option.map_some,at_1,st_1,zcd,Option.map_some]
noncomputable def wsL:List Nat:=[10,9,13,32]
noncomputable def zsU(T:List Nat):List (Nat×V):=[(0,.int 1),(1,.none),(2,.str wsL),(3,.obj 4),(4,.give T 2)]
noncomputable def rdK(ln:Nat):List (Nat×V):=[(0,.int (ln:Nat)),(1,.inst 3),(2,.str wsL),(3,.obj 6)]
noncomputable def hR(T:List Nat)(a ln:Nat)(pb:List V)(rest:H):H:=.tabg::.gone::.list [.int (a:Nat)]::.attrs (zsU T)::.list []::.attrs (rdK ln)::.list pb::rest
def RO(rest:H):Prop:=rest.all (obOk (rest.length+7))=true
theorem zed(T:List Nat)(a ln:Nat)(pb:List V)(rest:H):(hR T a ln pb rest).length=rest.length+7:=rfl
theorem zjL{T:List Nat}{a ln:Nat}{pb:List V}{rest:H}(r:RO rest):WF (hR T a ln pb rest):=by unfold WF;rw[zed];unfold RO at r;unfold hR zsU rdK;dsimp only[List.all_cons,obOk,refOk,r,Bool.and_true,Bool.true_and,List.all_nil,Bool.and_eq_true,decide_eq_true_eq];lia
section
variable (T:List Nat)(a ln:Nat)(pb:List V)(rest:H)
theorem hR_2:(hR T a ln pb rest)[2]?=some (.list [.int (a:Nat)]):=rfl
theorem hR_3:(hR T a ln pb rest)[3]?=some (.attrs (zsU T)):=rfl
theorem zpO:(hR T a ln pb rest)[5]?=some (.attrs (rdK ln)):=rfl
theorem hR_6:(hR T a ln pb rest)[6]?=some (.list pb):=rfl
end
theorem zrB(T:List Nat){a:Nat}(h:a<=T.length):zgs T (some (a:Int)) (some ((a+1:Nat):Int))=(T.drop a).take 1:=by
 unfold zgs;simp only[Option.elim_some];unfold PySem.clipAt;refine rwl (by omega:(max 0 (min (a:Int) (T.length:Int))).toNat=a) ?_;by_cases q:a<T.length
 ·have:(max 0 (min ((a+1:Nat):Int) (T.length:Int))).toNat-a=1:=by omega
  exact rwl this rfl
 ·rw[List.drop_of_length_le (by omega),List.take_nil,List.take_nil]
theorem zpN(m:Nat){T:List Nat}{a ln:Nat}{pb:List V}{rest:H}(r:RO rest)(ha:a<=T.length)(hT:T.length<=10000):
  zac (m+1) 30 [.give T 2,.int 1] (hR T a ln pb rest)=some (.str ((T.drop a).take 1),hR T (a+((T.drop a).take 1).length) ln pb rest):=by
 have hz:10000<=zad:=by decide
 have w:=zjL (T:=T) (a:=a+((T.drop a).take 1).length) (ln:=ln) (pb:=pb) r
 rw[zoA k_give]
 have ha1:zd5 30 1 [.give T 2,.int 1]=some [.int 1,.uA,.obj 2,.str T]:=rfl
 rw[ha1,Option.bind_some]
 have i0:=zeP (hR_2 T a ln pb rest) (rfl:(0:Int)=((0:Nat):Int)) (v:=.int (a:Nat)) rfl (show 1<=zad by decide)
 have q1:((a:Nat):Int)+1=((a+1:Nat):Int):=rfl
 have sl:zeu (.str T) (.int (a:Nat)) (.int (a+1:Nat))=some (.str ((T.drop a).take 1)):=by rw[sl_s rfl rfl (by exact Nat.le_trans hT hz),zrB T ha]
 have hl:((T.drop a).take 1).length<=1:=by rw[List.length_take];lia
 generalize (T.drop a).take 1=c at*
 have q2:((a:Nat):Int)+(c.length:Int)=((a+c.length:Nat):Int):=rfl
 have st:=zh1 (hR_2 T a ln pb rest) (x:=.int ((a+c.length:Nat):Int)) (rfl:(0:Int)=((0:Nat):Int)) (by simp) (show 1<=zad by decide) rfl
 have st':setItem (hR T a ln pb rest) (.obj 2) (.int 0) (.int ((a+c.length:Nat):Int))=some (hR T (a+c.length) ln pb rest):=st
 generalize a+c.length=a2 at*
 have e:eF (zac m) zkH ([.int 1,.uA,.obj 2,.str T]++List.replicate (4+6 - [V.int 1,.uA,.obj 2,.str T].length) .uA,hR T a ln pb rest)=some (.ret (.str c),[.int 1,.str c,.obj 2,.str T]++R6,hR T a2 ln pb rest):=by
  show eF (zac m) zkH (.int 1::.uA::.obj 2::.str T::R6,hR T a ln pb rest)=_;have e1:eF (zac m) (.asg 1 (.slc (.v 3) (.idx (.v 2) (.c (.int 0))) (.bin .Add (.idx (.v 2) (.c (.int 0))) (.v 0)))) (.int 1::.uA::.obj 2::.str T::R6,hR T a ln pb rest)=some (.next,.int 1::.str c::.obj 2::.str T::R6,hR T a ln pb rest):=by simp only[zaw,zbL,zaF,zaz,zar,zcs,GA,GB,OA,OB,OC,SA,SB,i0,zc2,q1,sl]
  have e2:eF (zac m) (.setI (.v 2) (.c (.int 0)) (.bin .Add (.idx (.v 2) (.c (.int 0))) (.len (.v 1)))) (.int 1::.str c::.obj 2::.str T::R6,hR T a ln pb rest)=some (.next,.int 1::.str c::.obj 2::.str T::R6,hR T a2 ln pb rest):=by simp only[zbR,zbL,zaF,zaz,zaV,zar,GA,GB,OA,OB,OC,i0,(n_str (lnB 0 1 10000 0 0 0 hl hz rfl):zdh (hR T a ln pb rest) (.str c)=some (c.length:Int)),zc2,q2,st']
  have e3:eF (zac m) (.ret (.v 1)) (.int 1::.str c::.obj 2::.str T::R6,hR T a2 ln pb rest)=some (.ret (.str c),.int 1::.str c::.obj 2::.str T::R6,hR T a2 ln pb rest):=by simp only[za2,zaF,GA,GB,OA,OB,OC]
  rw[zkH,zbw e1,zbw e2,zpf e3];rfl
 rw[e]
 refine ziI (by decide) ?_ rfl w
 exact List.take_of_length_le (by rw[zed,zed];exact Nat.le_refl _)
noncomputable def nl(c:Nat):Nat:=if c=10 then 1 else 0
noncomputable def zlf:S:=(.asg 1 (.read (.attr (.v 0) 1) (.c (.int 1))))
theorem zow(m:Nat){T:List Nat}{a ln:Nat}{pb:List V}{rest:H}(r:RO rest)(ha:a<=T.length)(hT:T.length<=10000){U:Vs}{x:V}:
  eF (zac (m+1)) zlf (.inst 5::x::U,hR T a ln pb rest)=some (.next,.inst 5::.str ((T.drop a).take 1)::U,hR T (a+((T.drop a).take 1).length) ln pb rest):=by
 have g:=zpN m (ln:=ln) (pb:=pb) r ha hT
 have hk:(rdK ln).lookup 1=some (.inst 3):=rfl
 have hs:(zsU T).lookup ziY=some (.give T 2):=rfl
 simp only[zlf,zaw,zbL,zaF,zco,zbE,zbB,p_give,zjj,zi1,GA,GB,OA,OB,OC,SA,SB,zpO,hk,hR_3,hs,g]
theorem zdl(m:Nat){T:List Nat}{a ln c:Nat}{pb:List V}{rest:H}(r:RO rest)(hT:T.length<=10000)(hc:T[a]?=some c):
  zac (m+2) 27 [.inst 5] (hR T a ln pb rest)=some (.str [c],hR T (a+1) (ln+nl c) pb rest):=by
 have hal:a<T.length:=(List.getElem?_eq_some_iff.mp hc).1
 have e1:=zow m (ln:=ln) (pb:=pb) r (Nat.le_of_lt hal) hT (U:=R6) (x:=.uA)
 have hd:(T.drop a).take 1=[c]:=by rw[List.getElem?_eq_some_iff]at hc;obtain⟨_,hc⟩:=hc;refine rwl (List.drop_eq_getElem_cons hal) ?_;refine rwl hc ?_;rfl
 rw[hd]at e1
 have w:=zjL (T:=T) (a:=a+[c].length) (ln:=ln+nl c) (pb:=pb) r
 refine zbf zgX (fl:=.ret (.str [c])) (h':=hR T (a+1) (ln+nl c) pb rest) ?_ (List.take_of_length_le (by rw[zed,zed];exact Nat.le_refl _)) rfl w rfl ⟨rfl,rfl⟩
 have t:eE (zac (m+1)) (.inst 5::.str [c]::R6) (.cmp .Eq (.v 1) (.c (.str [10]))) (hR T (a+1) ln pb rest)=some (.bool ([c]==[10]),hR T (a+1) ln pb rest):=by nomatch zpr
 have e1':eF (zac (m+1)) zlf (.inst 5::.uA::R6,hR T a ln pb rest)=some (.next,.inst 5::.str [c]::R6,hR T (a+1) ln pb rest):=e1
 refine rwl (zbw e1') ?_
 by_cases q:c=10
 ·subst q;rfl
 ·have hb:([c]==[10])=false:=by rw[beq_eq_false_iff_ne];intro e;exact q (List.cons.inj e).1
  rw[hb]at t;have hn:nl c=0:=by unfold nl;exact rwl (if_neg q) rfl
  refine rwl (zbw ((zcr t).trans (x_skip _ _))) ?_;refine rwl hn ?_;rfl
theorem zi4(m:Nat){T:List Nat}{ln:Nat}{pb:List V}{rest:H}(r:RO rest)(hT:T.length<=10000):
  zac (m+2) 27 [.inst 5] (hR T T.length ln pb rest)=some (.str [],hR T T.length ln pb rest):=by
 have e1:=zow m (ln:=ln) (pb:=pb) r (Nat.le_refl T.length) hT (U:=R6) (x:=.uA)
 have hd:(T.drop T.length).take 1=[]:=by rw[List.drop_of_length_le (Nat.le_refl _)];rfl
 rw[hd]at e1
 have w:=zjL (T:=T) (a:=T.length) (ln:=ln) (pb:=pb) r
 refine zbf zgX (fl:=.ret (.str [])) (h':=hR T T.length ln pb rest) ?_ (List.take_of_length_le (Nat.le_refl _)) rfl w rfl ⟨rfl,rfl⟩
 have e1':eF (zac (m+1)) zlf (.inst 5::.uA::R6,hR T T.length ln pb rest)=some (.next,.inst 5::.str []::R6,hR T T.length ln pb rest):=e1
 have t:eE (zac (m+1)) (.inst 5::.str []::R6) (.cmp .Eq (.v 1) (.c (.str [10]))) (hR T T.length ln pb rest)=some (.bool false,hR T T.length ln pb rest):=by rfl
 refine rwl (zbw e1') ?_;refine rwl (zbw ((zcr t).trans (x_skip _ _))) ?_
 rfl
theorem zeq(m:Nat){T:List Nat}{a ln:Nat}{s:List Nat}{pb:List V}{rest:H}(r:RO rest)(hp:pb.length<=1000):
  zac (m+1) 29 [.inst 5,.str s] (hR T a ln pb rest)=some (.none,hR T a ln (pb++[.str s]) rest):=by
 have w:=zjL (T:=T) (a:=a) (ln:=ln) (pb:=pb++[.str s]) r
 refine zbf zjY (fl:=.next) (h':=hR T a ln (pb++[.str s]) rest) ?_ (List.take_of_length_le (by rw[zed,zed];exact Nat.le_refl _)) rfl w rfl ⟨rfl,rfl⟩
 have hk:(rdK ln).lookup 3=some (.obj 6):=rfl
 have e1:eF (zac m) (.expr (.append (.attr (.v 0) 3) (.v 1))) (.inst 5::.str s::R6,hR T a ln pb rest)=some (.next,.inst 5::.str s::R6,hR T a ln (pb++[.str s]) rest):=by simp only[za5,zaF,zaA,zbE,zbO,zbB,zhQ,zjj,zhP,zi1,GA,GB,OA,OB,OC,zpO,hk,hR_6,flat];refine rwl (if_pos ⟨trivial,by exact Nat.le_trans hp (by decide:1000<=zad)⟩) ?_;rfl
 refine rwl (zbw e1) ?_
 rfl
noncomputable def hC(T:List Nat)(a ln:Nat)(rest:H):H:=hR T a ln [] (rest++[.citer 5 true])
theorem zg7{rest:H}(r:RO rest):RO (rest++[.citer 5 true]):=by
 unfold RO at*;refine rwl List.all_append ?_;refine rwl List.length_append ?_;rw[Bool.and_eq_true];refine ia ?_ ?_
 ·rw[List.all_eq_true]at*;exact λx hx=>ziZ (by simp only[List.length_cons,List.length_nil];lia) (r x hx)
 ·simp only[List.all_cons,List.all_nil,obOk,Bool.and_true,decide_eq_true_eq,List.length_cons,List.length_nil];exact Nat.le_add_left _ _
theorem zl5(T:List Nat)(a ln:Nat)(rest:H):(hC T a ln rest)[rest.length+7]?=some (.citer 5 true):=by show (rest++[Ob.citer 5 true])[rest.length]?=_;simp
theorem znE(T:List Nat)(a ln:Nat)(rest:H):(hC T a ln rest).take (rest.length+7)=hR T a ln [] rest:=by
 show Ob.tabg::.gone::.list [.int (a:Nat)]::.attrs (zsU T)::.list []::.attrs (rdK ln)::.list []::(rest++[Ob.citer 5 true]).take rest.length=_;rw[List.take_left']
 ·rfl
 ·rfl
section
variable (m:Nat){T:List Nat}{rest:H}(r:RO rest)(hT:T.length<=10000){body:Vs×H->Option (Fl×Vs×H)}
include r hT
theorem zlL{a ln:Nat}:zd7 (hC T a ln rest) (rest.length+7)=some (5,true):=bs (zl5 T a ln rest) rfl
theorem zjz{a ln c n:Nat}(hc:T[a]?=some c){vs:Vs}{st:Vs×H}(e:body (vs.set 3 (.str [c]),hC T (a+1) (ln+nl c) rest)=some (.next,st)):
  zb8 (λo h=>zac (m+2) 27 [.inst o] h) body (rest.length+7) 3 (n+1) (vs,hC T a ln rest)=zb8 (λo h=>zac (m+2) 27 [.inst o] h) body (rest.length+7) 3 n st:=
 cl_k (zlL r hT) (zdl m (zg7 r) hT hc) (zlL r hT) (List.cons_ne_nil _ _) (bs e rfl)
theorem zgN{a ln c n:Nat}(hc:T[a]?=some c){vs:Vs}{st:Vs×H}{v:V}(e:body (vs.set 3 (.str [c]),hC T (a+1) (ln+nl c) rest)=some (.ret v,st)):
  zb8 (λo h=>zac (m+2) 27 [.inst o] h) body (rest.length+7) 3 (n+1) (vs,hC T a ln rest)=some (some (.ret v),st):=
 cl_k (zlL r hT) (zdl m (zg7 r) hT hc) (zlL r hT) (List.cons_ne_nil _ _) (bs e rfl)
theorem cl_end{ln n:Nat}{vs:Vs}:
  zb8 (λo h=>zac (m+2) 27 [.inst o] h) body (rest.length+7) 3 (n+1) (vs,hC T T.length ln rest)=some (none,vs,(hC T T.length ln rest).set (rest.length+7) (.citer 5 false)):=
 cl_e (zlL r hT) (zi4 m (zg7 r) hT) (zlL r hT)
end
noncomputable def gEsc:S:=(.seq (.asg 3 (.meth 27 (.v 0) .nil)) .skip)
noncomputable def gIn:S:=(.seq (.ifs (.cmp .In (.v 3) (.attr (.v 0) 2)) (.seq (.ret (.v 1)) .skip) (.seq (.ifs (.cmp .Eq (.v 3) (.c (.str [92]))) gEsc .skip) .skip)) (.seq (.augV 1 (.v 3)) .skip))
noncomputable def gQ:S:=(.seq (.ifs (.cmp .Eq (.v 3) (.c (.str [34]))) (.seq (.ret (.v 1)) .skip) (.seq (.ifs (.cmp .Eq (.v 3) (.c (.str [92]))) gEsc .skip) .skip)) (.seq (.augV 1 (.v 3)) .skip))
noncomputable def isws(c:Nat):Bool:=wsL.contains c
section
variable {Φ:PA}{T:List Nat}{a ln:Nat}{rest:H}{it:V}{U:Vs}{tok:List Nat}{c:Nat}
theorem t_in:eE Φ (.inst 5::.str tok::it::.str [c]::U) (.cmp .In (.v 3) (.attr (.v 0) 2)) (hC T a ln rest)=some (.bool (isws c),hC T a ln rest):=by nomatch h5,hk,hin
theorem zpe(d:Nat):eE Φ (.inst 5::.str tok::it::.str [c]::U) (.cmp .Eq (.v 3) (.c (.str [d]))) (hC T a ln rest)=some (.bool (c==d),hC T a ln rest):=by
 have:([c]==[d])=(c==d):=by rw[Bool.eq_iff_iff,beq_iff_eq,beq_iff_eq];simp
 nomatch zpr,this
theorem s_ret:eF Φ (.seq (.ret (.v 1)) .skip) (.inst 5::.str tok::it::.str [c]::U,hC T a ln rest)=some (.ret (.str tok),.inst 5::.str tok::it::.str [c]::U,hC T a ln rest):=by rw[zbv];nomatch rfl
theorem zoB(ht:tok.length<=1000):eF Φ (.seq (.augV 1 (.v 3)) .skip) (.inst 5::.str tok::it::.str [c]::U,hC T a ln rest)=some (.next,.inst 5::.str (tok++[c])::it::.str [c]::U,hC T a ln rest):=by
 have:zpj (.str tok) (.str [c])=some (.str (tok++[c])):=by exact fit (by simp only[List.length_cons,List.length_nil];exact Nat.lt_of_le_of_lt ht (by decide:1001<=zad))
 nomatch this
end
theorem s_esc(m:Nat){T:List Nat}{a ln d:Nat}{rest:H}{it x:V}{U:Vs}{tok:List Nat}(r:RO rest)(hT:T.length<=10000)(hd:T[a]?=some d):
  eF (zac (m+2)) gEsc (.inst 5::.str tok::it::x::U,hC T a ln rest)=some (.next,.inst 5::.str tok::it::.str [d]::U,hC T (a+1) (ln+nl d) rest):=by
 have rc:zac (m+2) 27 [.inst 5] (hC T a ln rest)=some (.str [d],hC T (a+1) (ln+nl d) rest):=zdl m (zg7 r) hT hd
 rw[gEsc]
 nomatch h5,rc
section
variable (m:Nat){T:List Nat}{rest:H}(r:RO rest)(hT:T.length<=10000){it:V}{U:Vs}
theorem zqK{Φ:PA}{a ln c:Nat}{tok:List Nat}(hc:isws c=true):eF Φ gIn (.inst 5::.str tok::it::.str [c]::U,hC T a ln rest)=some (.ret (.str tok),.inst 5::.str tok::it::.str [c]::U,hC T a ln rest):=by have t:=t_in (Φ:=Φ) (T:=T) (a:=a) (ln:=ln) (rest:=rest) (it:=it) (U:=U) (tok:=tok) (c:=c);rw[hc]at t;rw[gIn,zpf ((zjh t).trans s_ret)]
theorem znw{Φ:PA}{a ln c:Nat}{tok:List Nat}(hc:isws c=false)(h92:c≠92)(ht:tok.length<=1000):eF Φ gIn (.inst 5::.str tok::it::.str [c]::U,hC T a ln rest)=some (.next,.inst 5::.str (tok++[c])::it::.str [c]::U,hC T a ln rest):=by have t:=t_in (Φ:=Φ) (T:=T) (a:=a) (ln:=ln) (rest:=rest) (it:=it) (U:=U) (tok:=tok) (c:=c);rw[hc]at t;have t2:=zpe (Φ:=Φ) (T:=T) (a:=a) (ln:=ln) (rest:=rest) (it:=it) (U:=U) (tok:=tok) (c:=c) 92;rw[beq_eq_false_iff_ne.mpr h92]at t2;rw[gIn,zbw ((zcr t).trans ((zbv _ _ _).trans ((zcr t2).trans (x_skip _ _)))),zoB ht]
include r hT in
theorem zrQ{a ln d:Nat}{tok:List Nat}(hd:T[a]?=some d)(ht:tok.length<=1000):eF (zac (m+2)) gIn (.inst 5::.str tok::it::.str [92]::U,hC T a ln rest)=some (.next,.inst 5::.str (tok++[d])::it::.str [d]::U,hC T (a+1) (ln+nl d) rest):=by have t:=t_in (Φ:=zac (m+2)) (T:=T) (a:=a) (ln:=ln) (rest:=rest) (it:=it) (U:=U) (tok:=tok) (c:=92);have t2:=zpe (Φ:=zac (m+2)) (T:=T) (a:=a) (ln:=ln) (rest:=rest) (it:=it) (U:=U) (tok:=tok) (c:=92) 92;have t':eE (zac (m+2)) (.inst 5::.str tok::it::.str [92]::U) (.cmp .In (.v 3) (.attr (.v 0) 2)) (hC T a ln rest)=some (.bool false,hC T a ln rest):=t;have t2':eE (zac (m+2)) (.inst 5::.str tok::it::.str [92]::U) (.cmp .Eq (.v 3) (.c (.str [92]))) (hC T a ln rest)=some (.bool true,hC T a ln rest):=t2;rw[gIn,zbw ((zcr t').trans ((zbv _ _ _).trans ((zjh t2').trans (s_esc m r hT hd)))),zoB ht]
theorem gQ_end{Φ:PA}{a ln:Nat}{tok:List Nat}:eF Φ gQ (.inst 5::.str tok::it::.str [34]::U,hC T a ln rest)=some (.ret (.str tok),.inst 5::.str tok::it::.str [34]::U,hC T a ln rest):=by rw[gQ,zpf ((zjh (zpe 34)).trans s_ret)]
theorem zpH{Φ:PA}{a ln c:Nat}{tok:List Nat}(hc:c≠34)(h92:c≠92)(ht:tok.length<=1000):eF Φ gQ (.inst 5::.str tok::it::.str [c]::U,hC T a ln rest)=some (.next,.inst 5::.str (tok++[c])::it::.str [c]::U,hC T a ln rest):=by have t:=zpe (Φ:=Φ) (T:=T) (a:=a) (ln:=ln) (rest:=rest) (it:=it) (U:=U) (tok:=tok) (c:=c) 34;rw[beq_eq_false_iff_ne.mpr hc]at t;have t2:=zpe (Φ:=Φ) (T:=T) (a:=a) (ln:=ln) (rest:=rest) (it:=it) (U:=U) (tok:=tok) (c:=c) 92;rw[beq_eq_false_iff_ne.mpr h92]at t2;rw[gQ,zbw ((zcr t).trans ((zbv _ _ _).trans ((zcr t2).trans (x_skip _ _)))),zoB ht]
end
def okC(c:Nat):Prop:=isws c=false/\c≠34/\c≠92
theorem okC.nl{c:Nat}(h:okC c):nl c=0:=by unfold Internal.nl;rw[if_neg];intro q;subst q;have:=h.1;revert this;decide
theorem zb3{T:List Nat}{a c:Nat}{t:List Nat}(h:T.drop a=c::t):T[a]?=some c/\T.drop (a+1)=t:=by
 have h1:(T.drop a)[0]?=some c:=by rw[h];rfl
 rw[List.getElem?_drop]at h1;refine ia h1 ?_;refine rwr List.drop_drop ?_;refine rwl h ?_;rfl
section
variable (m:Nat){T:List Nat}{rest:H}(r:RO rest)(hT:T.length<=10000){it:V}{U:Vs}
include r hT
theorem zhw:∀(wB:List Nat) (a ln n:Nat) (tok:List Nat) (x w:Nat) (tail:List Nat) (x3:V),(∀c∈wB,okC c)->isws w=true->T.drop a=wB++w::tail->wB.length<n->tok.length+wB.length<=1000->∃st,
  zb8 (λo h=>zac (m+2) 27 [.inst o] h) (eF (zac (m+2)) gIn) (rest.length+7) 3 n (.inst 5::.str tok::it::x3::U,hC T a ln rest)=some (some (.ret (.str (tok++wB))),st,hC T (a+wB.length+1) (ln+nl w) rest):=by
 intro l9;induction l9 with
 |nil=>intro a ln n tok x w tail x3 _ hw hd hn _;obtain⟨n,rfl⟩:∃n',n=n'+1:=⟨n-1,by simp at hn;lia⟩;obtain⟨h1,_⟩:=zb3 hd;refine rwl (zgN m r hT h1 (zqK (Φ:=zac (m+2)) hw)) ?_;rw[List.append_nil];exact⟨_,rfl⟩
 |cons c wB zhw=>intro a ln n tok x w tail x3 hc hw hd hn hz;rw[List.length_cons]at hn hz;obtain⟨n,rfl⟩:∃n',n=n'+1:=⟨n-1,by lia⟩;obtain⟨h1,h2⟩:=zb3 hd;have hcc:=hc c (.head _);refine rwl (zjz m r hT h1 (znw (Φ:=zac (m+2)) hcc.1 hcc.2.2 (by exact Nat.le_trans (Nat.le_add_right _ _) hz))) ?_;refine rwl hcc.nl ?_;obtain⟨st,e⟩:=zhw (a+1) ln n (tok++[c]) x w tail (.str [c]) (λy hy=>hc y (.tail _ hy)) hw h2 (by exact Nat.le_of_lt_succ hn) (by rw[List.length_append];simp only[List.length_cons,List.length_nil];lia);refine rwl e ?_;rw[List.append_assoc];refine rwl (show a+1+wB.length+1=a+(wB.length+1)+1 by lia) ?_;exact⟨_,rfl⟩
theorem in_q:∀(wB:List Nat) (a ln n:Nat) (tok:List Nat) (tail:List Nat) (x3:V),(∀c∈wB,okC c)->T.drop a=wB++34::tail->wB.length<n->tok.length+wB.length<=1000->∃st,
  zb8 (λo h=>zac (m+2) 27 [.inst o] h) (eF (zac (m+2)) gQ) (rest.length+7) 3 n (.inst 5::.str tok::it::x3::U,hC T a ln rest)=some (some (.ret (.str (tok++wB))),st,hC T (a+wB.length+1) ln rest):=by
 intro l9;induction l9 with
 |nil=>intro a ln n tok tail x3 _ hd hn _;obtain⟨n,rfl⟩:∃n',n=n'+1:=⟨n-1,by simp at hn;lia⟩;obtain⟨h1,_⟩:=zb3 hd;refine rwl (zgN m r hT h1 (gQ_end (Φ:=zac (m+2)))) ?_;rw[List.append_nil];exact⟨_,rfl⟩
 |cons c wB in_q=>intro a ln n tok tail x3 hc hd hn hz;rw[List.length_cons]at hn hz;obtain⟨n,rfl⟩:∃n',n=n'+1:=⟨n-1,by lia⟩;obtain⟨h1,h2⟩:=zb3 hd;have hcc:=hc c (.head _);refine rwl (zjz m r hT h1 (zpH (Φ:=zac (m+2)) hcc.2.1 hcc.2.2 (by exact Nat.le_trans (Nat.le_add_right _ _) hz))) ?_;refine rwl hcc.nl ?_;obtain⟨st,e⟩:=in_q (a+1) ln n (tok++[c]) tail (.str [c]) (λy hy=>hc y (.tail _ hy)) h2 (by exact Nat.le_of_lt_succ hn) (by rw[List.length_append];simp only[List.length_cons,List.length_nil];lia);refine rwl e ?_;rw[List.append_assoc];refine rwl (show a+1+wB.length+1=a+(wB.length+1)+1 by lia) ?_;exact⟨_,rfl⟩
theorem znN:∀(wB:List Nat) (a ln n:Nat) (tok:List Nat) (tail:List Nat) (x3:V),(∀c∈wB,okC c)->T.drop a=(wB.flatMap λc=>[92,c])++10::tail->wB.length<n->tok.length+wB.length<=1000->∃st,
  zb8 (λo h=>zac (m+2) 27 [.inst o] h) (eF (zac (m+2)) gIn) (rest.length+7) 3 n (.inst 5::.str tok::it::x3::U,hC T a ln rest)=some (some (.ret (.str (tok++wB))),st,hC T (a+2*wB.length+1) (ln+1) rest):=by
 intro l9;induction l9 with
 |nil=>intro a ln n tok tail x3 _ hd hn _;obtain⟨n,rfl⟩:∃n',n=n'+1:=⟨n-1,by simp at hn;lia⟩;obtain⟨h1,_⟩:=zb3 hd;refine rwl (zgN m r hT h1 (zqK (Φ:=zac (m+2)) (c:=10) (by decide))) ?_;rw[List.append_nil];exact⟨_,rfl⟩
 |cons c wB znN=>intro a ln n tok tail x3 hc hd hn hz;rw[List.length_cons]at hn hz;obtain⟨n,rfl⟩:∃n',n=n'+1:=⟨n-1,by lia⟩;obtain⟨h1,h2⟩:=zb3 hd;obtain⟨h3,h4⟩:=zb3 h2;have hb:=zrQ m r hT (it:=it) (U:=U) (ln:=ln+nl 92) (tok:=tok) h3 (by exact Nat.le_trans (Nat.le_add_right _ _) hz);rw[(hc c (.head _)).nl,show ln+nl 92+0=ln from rfl,show ln+nl 92=ln from rfl]at hb;refine rwl (zjz m r hT h1 hb) ?_;obtain⟨st,e⟩:=znN (a+1+1) ln n (tok++[c]) tail (.str [c]) (λy hy=>hc y (.tail _ hy)) h4 (by exact Nat.le_of_lt_succ hn) (by rw[List.length_append];simp only[List.length_cons,List.length_nil];lia);refine rwl e ?_;rw[List.append_assoc];refine rwl (show a+1+1+2*wB.length+1=a+2*(wB.length+1)+1 by lia) ?_;exact⟨_,rfl⟩
end
theorem zjg{Φ:PA}{t i j:Nat}{b:Bool}{it:E}{body o:S}{vs:Vs}{h:H}(e:eE Φ vs it h=some (.obj i,h))(hi:h[i]?=some (.citer j b)):
  eF Φ (.fors [t] it body o) (vs,h)=zcZ (eF Φ o) (zb8 (λo h=>Φ 27 [.inst o] h) (eF Φ body) i t zaq (vs,h)):=by
 refine rwl zcJ ?_;refine rwl e ?_
 simp only[OA,OB,zoo,zon,hi,zpb]
noncomputable def zrP:S:=(.seq (.ifs (.cmp .Eq (.v 3) (.c (.str [92]))) gEsc .skip) (.seq (.augV 1 (.v 3)) (.seq (.fors [3] (.v 2) gIn .skip) .skip)))
noncomputable def zeO:S:=(.seq (.ifs (.cmp .In (.v 3) (.attr (.v 0) 2)) (.seq .cont .skip) .skip) (.seq (.ifs (.cmp .Eq (.v 3) (.c (.str [34]))) (.seq (.fors [3] (.v 2) gQ .skip) .skip) zrP) .skip))
section
variable (m:Nat){T:List Nat}{rest:H}(r:RO rest)(hT:T.length<=10000){U:Vs}
include r hT
theorem zl4{wB:List Nat}{mn a ln:Nat}{tail:List Nat}{x3:V}(hw:∀c∈wB,okC c)(h0:wB≠[])(h9:wB.length<=100)(hm:mn<3)(hd:T.drop a=wrM wB mn++tail):∃st,
  zb8 (λo h=>zac (m+2) 27 [.inst o] h) (eF (zac (m+2)) zeO) (rest.length+7) 3 zaq (.inst 5::.str []::.obj (rest.length+7)::x3::U,hC T a ln rest)=
   some (some (.ret (.str wB)),st,hC T (a+(wrM wB mn).length) (ln+if mn=2 then 1 else 0) rest):=by
 have hlm:zaq=199+1:=rfl
 rw[hlm]
 unfold wrM at hd ⊢
 have ev:∀(tok:List Nat) (x:V) (a ln:Nat),eE (zac (m+2)) (.inst 5::.str tok::.obj (rest.length+7)::x::U) (.v 2) (hC T a ln rest)=some (.obj (rest.length+7),hC T a ln rest):=λtok x a ln=>by nomatch rfl
 by_cases h2:mn=2
 ·rw[if_pos h2]at hd ⊢;induction wB using List.casesOn with
  |nil=>exact absurd rfl h0
  |cons c wB=>
  rw[List.length_cons]at h9
  have hcc:=hw c (.head _)
  have hd':T.drop a=92::c::((wB.flatMap λc=>[92,c])++10::tail):=by rw[hd];simp
  refine xa (zb3 hd') λh1 hd1=>?_
  refine xa (zb3 hd1) λh3 hd2=>?_
  obtain⟨st,e⟩:=znN m r hT (it:=.obj (rest.length+7)) (U:=U) wB (a+1+1) ln zaq ([]++[c]) tail (.str [c]) (λy hy=>hw y (.tail _ hy)) hd2 (by show _<200;exact Nat.le_trans h9 (by decide)) (by simp only[List.length_append,List.length_cons,List.length_nil];lia)
  have hf:eF (zac (m+2)) (.fors [3] (.v 2) gIn .skip) (.inst 5::.str ([]++[c])::.obj (rest.length+7)::.str [c]::U,hC T (a+1+1) ln rest)=some (.ret (.str ([]++[c]++wB)),st,hC T (a+1+1+2*wB.length+1) (ln+1) rest):=by rw[zjg (ev _ _ _ _) (zl5 _ _ _ _),e,zeM]
  have es:=s_esc m (U:=U) (it:=.obj (rest.length+7)) (x:=.str [92]) (tok:=[]) (ln:=ln) r hT h3
  rw[hcc.nl,show ln+0=ln from rfl]at es
  have ea:eF (zac (m+2)) (.augV 1 (.v 3)) (.inst 5::.str []::.obj (rest.length+7)::.str [c]::U,hC T (a+1+1) ln rest)=some (.next,.inst 5::.str ([]++[c])::.obj (rest.length+7)::.str [c]::U,hC T (a+1+1) ln rest):=by have:=zoB (Φ:=zac (m+2)) (T:=T) (a:=a+1+1) (ln:=ln) (rest:=rest) (it:=.obj (rest.length+7)) (U:=U) (tok:=[]) (c:=c) (by simp);exact this
  have hb:eF (zac (m+2)) zeO ((.inst 5::.str []::.obj (rest.length+7)::x3::U:Vs).set 3 (.str [92]),hC T (a+1) (ln+nl 92) rest)=some (.ret (.str ([]++[c]++wB)),st,hC T (a+1+1+2*wB.length+1) (ln+1) rest):=by show eF (zac (m+2)) zeO (.inst 5::.str []::.obj (rest.length+7)::.str [92]::U,hC T (a+1) ln rest)=_;rw[zeO,zbw ((zcr t_in).trans (x_skip _ _)),zbv,zcr (zpe 34),zrP,zbw ((zjh (zpe 92)).trans es),zbw ea,zbv,hf]
  rw[zgN m r hT h1 hb]
  refine⟨st,?_⟩
  rw[if_pos h2]
  have hlen:((c::wB).flatMap (λc=>[92,c])++[10]).length=2*wB.length+3:=by
   have:∀w:List Nat,(w.flatMap λc=>[92,c]).length=2*w.length:=λw=>by exact zh7 w
   rw[List.length_append,this,List.length_cons,List.length_cons,List.length_nil];exact rfl
  rw[hlen,show a+1+1+2*wB.length+1=a+(2*wB.length+3) by lia]
  rfl
 ·rw[if_neg h2]at hd ⊢;rw[if_neg h2];by_cases h00:mn=0
  ·rw[if_pos h00]at hd ⊢;induction wB using List.casesOn with
   |nil=>exact absurd rfl h0
   |cons c wB=>
   rw[List.length_cons]at h9
   have hcc:=hw c (.head _)
   have hd':T.drop a=c::(wB++32::tail):=by rw[hd];simp
   refine zdy λX kX=>?_
   refine xa (zb3 hd') λh1 hd1=>?_
   obtain⟨st,e⟩:=zhw m r hT (it:=.obj (rest.length+7)) (U:=U) wB (a+1) ln zaq ([]++[c]) 0 32 tail (.str [c]) (λy hy=>hw y (.tail _ hy)) (by decide) hd1 (by show _<200;exact Nat.le_trans h9 (by decide)) (by simp only[List.length_append,List.length_cons,List.length_nil];lia)
   have hf:eF (zac (m+2)) (.fors [3] (.v 2) gIn .skip) (.inst 5::.str ([]++[c])::.obj (rest.length+7)::.str [c]::U,hC T (a+1) ln rest)=some (.ret (.str ([]++[c]++wB)),st,hC T (a+1+wB.length+1) ln rest):=by rw[zjg (ev _ _ _ _) (zl5 _ _ _ _),e,zeM];rfl
   have t1:eE (zac (m+2)) (.inst 5::.str []::.obj (rest.length+7)::.str [c]::U) (.cmp .In (.v 3) (.attr (.v 0) 2)) (hC T (a+1) ln rest)=some (.bool false,hC T (a+1) ln rest):=by rw[<-hcc.1];exact t_in
   have t2:eE (zac (m+2)) (.inst 5::.str []::.obj (rest.length+7)::.str [c]::U) (.cmp .Eq (.v 3) (.c (.str [34]))) (hC T (a+1) ln rest)=some (.bool false,hC T (a+1) ln rest):=by rw[<-beq_eq_false_iff_ne.mpr hcc.2.1];exact zpe 34
   have t3:eE (zac (m+2)) (.inst 5::.str []::.obj (rest.length+7)::.str [c]::U) (.cmp .Eq (.v 3) (.c (.str [92]))) (hC T (a+1) ln rest)=some (.bool false,hC T (a+1) ln rest):=by rw[<-beq_eq_false_iff_ne.mpr hcc.2.2];exact zpe 92
   have ea:eF (zac (m+2)) (.augV 1 (.v 3)) (.inst 5::.str []::.obj (rest.length+7)::.str [c]::U,hC T (a+1) ln rest)=some (.next,.inst 5::.str ([]++[c])::.obj (rest.length+7)::.str [c]::U,hC T (a+1) ln rest):=by have:=zoB (Φ:=zac (m+2)) (T:=T) (a:=a+1) (ln:=ln) (rest:=rest) (it:=.obj (rest.length+7)) (U:=U) (tok:=[]) (c:=c) (by simp);exact this
   have hb:eF (zac (m+2)) zeO ((.inst 5::.str []::.obj (rest.length+7)::x3::U:Vs).set 3 (.str [c]),hC T (a+1) (ln+nl c) rest)=some (.ret (.str ([]++[c]++wB)),st,hC T (a+1+wB.length+1) ln rest):=by rw[hcc.nl];show eF (zac (m+2)) zeO (.inst 5::.str []::.obj (rest.length+7)::.str [c]::U,hC T (a+1) ln rest)=_;rw[zeO,zbw ((zcr t1).trans (x_skip _ _)),zbv,zcr t2,zrP,zbw ((zcr t3).trans (x_skip _ _)),zbw ea,zbv,hf]
   refine kX ?_
   rw[zgN m r hT h1 hb]
   refine⟨st,?_⟩
   rw[List.length_append,List.length_cons,List.length_cons,List.length_nil,show a+1+wB.length+1=a+(wB.length+1+(0+1)) by lia]
   rfl
  ·rw[if_neg h00]at hd ⊢;have hd':T.drop a=34::(wB++34::tail):=by rw[hd];simp
   refine xa (zb3 hd') λh1 hd1=>?_;obtain⟨st,e⟩:=in_q m r hT (it:=.obj (rest.length+7)) (U:=U) wB (a+1) ln zaq [] tail (.str [34]) hw hd1 (by show _<200;exact lnA 0 100 1 200 h9 rfl) (by simp only[List.length_nil];lia);have hf:eF (zac (m+2)) (.fors [3] (.v 2) gQ .skip) (.inst 5::.str []::.obj (rest.length+7)::.str [34]::U,hC T (a+1) ln rest)=some (.ret (.str ([]++wB)),st,hC T (a+1+wB.length+1) ln rest):=by rw[zjg (ev _ _ _ _) (zl5 _ _ _ _),e,zeM]
   have hb:eF (zac (m+2)) zeO ((.inst 5::.str []::.obj (rest.length+7)::x3::U:Vs).set 3 (.str [34]),hC T (a+1) (ln+nl 34) rest)=some (.ret (.str ([]++wB)),st,hC T (a+1+wB.length+1) ln rest):=by show eF (zac (m+2)) zeO (.inst 5::.str []::.obj (rest.length+7)::.str [34]::U,hC T (a+1) ln rest)=_;rw[zeO,zbw ((zcr t_in).trans (x_skip _ _)),zbv,zjh (zpe 34),zbv,hf]
   refine rwl (zgN m r hT h1 hb) ?_;refine⟨st,?_⟩;refine rwl List.length_cons ?_;refine rwl List.length_append ?_;refine rwl List.length_cons ?_;refine rwl List.length_nil ?_;refine rwl (show a+1+wB.length+1=a+(wB.length+(0+1)+1) by lia) ?_;rfl
noncomputable def zqM:S:=(.ifs (.attr (.v 0) 3) (.seq (.ret (.pop0 (.attr (.v 0) 3))) .skip) .skip)
theorem zhr{wB:List Nat}{mn a ln:Nat}{tail:List Nat}(hw:∀c∈wB,okC c)(h0:wB≠[])(h9:wB.length<=100)(hm:mn<3)(hd:T.drop a=wrM wB mn++tail):
  zac (m+3) 28 [.inst 5] (hR T a ln [] rest)=some (.str wB,hR T (a+(wrM wB mn).length) (ln+if mn=2 then 1 else 0) [] rest):=by
 refine xe (zl4 m r hT (U:=R6) (x3:=.uA) (ln:=ln) hw h0 h9 hm hd) λst e=>?_
 have w:=zjL (T:=T) (a:=a+(wrM wB mn).length) (ln:=ln+if mn=2 then 1 else 0) (pb:=[]) r
 refine zbf zeQ (fl:=.ret (.str wB)) (h':=hC T (a+(wrM wB mn).length) (ln+if mn=2 then 1 else 0) rest) ?_ (znE _ _ _ _) rfl w rfl ⟨rfl,rfl⟩
 have hf:eF (zac (m+2)) (.fors [3] (.v 2) zeO .skip) (.inst 5::.str []::.obj (rest.length+7)::.uA::R6,hC T a ln rest)=some (.ret (.str wB),st,hC T (a+(wrM wB mn).length) (ln+if mn=2 then 1 else 0) rest):=by refine rwl (zjg (by nomatch rfl:eE (zac (m+2)) (.inst 5::.str []::.obj (rest.length+7)::.uA::R6) (.v 2) (hC T a ln rest)=some (.obj (rest.length+7),hC T a ln rest)) (zl5 _ _ _ _)) ?_;refine rwl e ?_;rw[zeM]
 refine rwl (zpf hf) ?_
 rfl
theorem ziO{ln:Nat}:zac (m+3) 28 [.inst 5] (hR T T.length ln [] rest)=some (.str [],hR T T.length ln [] rest):=by
 have w:=zjL (T:=T) (a:=T.length) (ln:=ln) (pb:=[]) r;have e:=cl_end (n:=199) m r hT (body:=eF (zac (m+2)) zeO) (ln:=ln) (vs:=.inst 5::.str []::.obj (rest.length+7)::.uA::R6);have htk:((hC T T.length ln rest).set (rest.length+7) (.citer 5 false)).take (rest.length+7)=hR T T.length ln [] rest:=by refine rwl (List.take_set_of_le (Nat.le_refl _)) ?_;exact znE _ _ _ _
 refine zbf zeQ (fl:=.ret (.str [])) (h':=(hC T T.length ln rest).set (rest.length+7) (.citer 5 false)) ?_ htk rfl w rfl ⟨rfl,rfl⟩;have hf:eF (zac (m+2)) (.fors [3] (.v 2) zeO .skip) (.inst 5::.str []::.obj (rest.length+7)::.uA::R6,hC T T.length ln rest)=some (.next,.inst 5::.str []::.obj (rest.length+7)::.uA::R6,(hC T T.length ln rest).set (rest.length+7) (.citer 5 false)):=by refine rwl (zjg (by nomatch rfl:eE (zac (m+2)) (.inst 5::.str []::.obj (rest.length+7)::.uA::R6) (.v 2) (hC T T.length ln rest)=some (.obj (rest.length+7),hC T T.length ln rest)) (zl5 _ _ _ _)) ?_;refine rwl e ?_;rw[zdb,x_skip]
 refine rwl (zbw hf) ?_;refine rwl (zpf ((λh=>by nomatch rfl:∀h,eF (zac (m+2)) (.ret (.v 1)) (.inst 5::.str []::.obj (rest.length+7)::.uA::R6,h)=some (.ret (.str []),.inst 5::.str []::.obj (rest.length+7)::.uA::R6,h)) _)) ?_;rfl
omit hT in
theorem zjK{a ln:Nat}{s:List Nat}{pb:List V}(hp:pb.length<=1000):zac (m+1) 28 [.inst 5] (hR T a ln (.str s::pb) rest)=some (.str s,hR T a ln pb rest):=by
 have w:=zjL (T:=T) (a:=a) (ln:=ln) (pb:=pb) r;refine zbf zeQ (fl:=.ret (.str s)) (h':=hR T a ln pb rest) ?_ (List.take_of_length_le (by rw[zed,zed];exact Nat.le_refl _)) rfl w rfl ⟨rfl,rfl⟩;have t:eE (zac m) (.inst 5::.uA::.uA::.uA::R6) (.attr (.v 0) 3) (hR T a ln (.str s::pb) rest)=some (.obj 6,hR T a ln (.str s::pb) rest):=by nomatch zpO,hk
 have ht:zaT (hR T a ln (.str s::pb) rest) (.obj 6)=some true:=by refine rwl (zqk (hR_6 ..) (by rw[List.length_cons];exact Nat.lt_of_le_of_lt hp (by decide:1001<=zad))) ?_;rfl
 have e0:eF (zac m) zqM (.inst 5::.uA::.uA::.uA::R6,hR T a ln (.str s::pb) rest)=some (.ret (.str s),.inst 5::.uA::.uA::.uA::R6,hR T a ln pb rest):=by rw[zqM,zky _ t ht,if_pos rfl,zbv];refine rwl za2 ?_;refine rwl zcn ?_;refine rwl t ?_;dsimp only[OA,OB,zbO,zhP,hR_6,zhQ,zgC];refine rwl (if_pos (by exact Nat.le_of_lt (Nat.lt_of_le_of_lt hp (by decide:1001<=zad)))) ?_;rfl
 refine rwl (zpf e0) ?_;rfl
end
structure WOK (cs:List Ch) (mn:Nat->Nat):Prop where
 ok:∀k,k<cs.length->∀c∈ck cs k 0,okC c
 ten:∀k,k<cs.length->(ck cs k 0).length=10
 ne:∀k,k<cs.length->∀j,j<cl cs k->ck cs k j≠[]
 mn3:∀k,mn k<3
noncomputable def zab(cs:List Ch)(mn:Nat->Nat):List (List Nat):=(List.range cs.length).map λk=>wrM (ck cs k 0) (mn k)
noncomputable def zau(cs:List Ch)(mn:Nat->Nat)(k:Nat):List Nat:=((List.range k).map λk=>wrM (ck cs k 0) (mn k)).flatten
theorem zb7(cs:List Ch)(mn:Nat->Nat)(k:Nat):zau cs mn (k+1)=zau cs mn k++wrM (ck cs k 0) (mn k):=by unfold zau;refine rwl List.range_succ ?_;refine rwl List.map_append ?_;simp
theorem zj9(cs:List Ch)(mn:Nat->Nat){k:Nat}(hk:k<=cs.length):(zab cs mn).take k=(List.range k).map λk=>wrM (ck cs k 0) (mn k):=by refine rwr List.map_take ?_;refine rwl List.take_range ?_;exact rwl (Nat.min_eq_left hk) rfl
theorem zoR(cs:List Ch)(mn:Nat->Nat){k:Nat}(hk:k<cs.length):∃t,(zau cs mn cs.length).drop (zau cs mn k).length=wrM (ck cs k 0) (mn k)++t:=by
 have h:∀d,∃t,zau cs mn (k+1+d)=zau cs mn k++(wrM (ck cs k 0) (mn k)++t):=by
  intro d;induction d with
  |zero=>exact⟨[],by rw[Nat.add_zero,zb7,List.append_nil]⟩
  |succ d ih=>obtain⟨t,e⟩:=ih;exact⟨t++wrM (ck cs (k+1+d) 0) (mn (k+1+d)),by rw[show k+1+(d+1)=(k+1+d)+1 by omega,zb7,e];simp only[List.append_assoc]⟩
 obtain⟨t,e⟩:=h (cs.length-(k+1));rw[show k+1+(cs.length-(k+1))=cs.length by omega]at e;exact⟨t,by rw[e,List.drop_left]⟩
theorem wr_len{wB:List Nat}{mn:Nat}(h:wB.length=10):(wrM wB mn).length<=30:=by
 unfold wrM;split
 ·refine rwl List.length_append ?_;refine rwl List.flatMap_def ?_;rw[zh7];simp only[List.length_cons,List.length_nil];lia
 ·split
  ·refine rwl List.length_append ?_;simp only[List.length_cons,List.length_nil];lia
  ·simp only[List.length_cons,List.length_append,List.length_nil];lia
theorem ze6{cs:List Ch}{mn:Nat->Nat}(hW:WOK cs mn):∀{k:Nat},k<=cs.length->(zau cs mn k).length<=30*k:=by
 intro k;induction k with
 |zero=>intro _;exact Nat.le_refl _
 |succ k ih=>intro hk;rw[zb7];refine rwl List.length_append ?_;have:=ih (by exact Nat.le_of_lt hk);have:=wr_len (mn:=mn k) (hW.ten k (by exact hk));lia
theorem zqx{wB:List Nat}{mn:Nat}(h:∀c∈wB,okC c):(wrM wB mn).count 10=if mn=2 then 1 else 0:=by
 have h10:∀w:List Nat,(∀c∈w,okC c)->w.count 10=0/\(w.flatMap λc=>[92,c]).count 10=0:=by
  intro w;induction w with
  |nil=>intro _;exact⟨rfl,rfl⟩
  |cons c r ih=>
   intro hw;refine xa (ih λy hy=>hw y (.tail _ hy)) λa b=>?_;have hc:c≠10:=by intro q;have:=(hw c (.head _)).1;rw[q]at this;revert this;decide
   refine ia ?_ ?_
   ·refine rwl List.count_cons ?_;refine rwl a ?_;simp[hc]
   ·refine rwl List.count_append ?_;refine rwl b ?_;refine rwl List.count_cons ?_;refine rwl List.count_cons ?_;simp[hc]
 refine xa (h10 wB h) λa b=>?_;unfold wrM;by_cases q:mn=2
 ·refine rwl (if_pos q) ?_;refine rwl (if_pos q) ?_;refine rwl List.count_append ?_;refine rwl b ?_;rfl
 ·refine rwl (if_neg q) ?_;split
  ·refine rwl List.count_append ?_;refine rwl a ?_;rfl
  ·rw[List.count_cons,List.count_append,a];rfl
section
variable {T:List Nat}{a ln:Nat}{pb:List V}{rest:H}
theorem hT7(x:Ob):(hR T a ln pb (x::rest))[7]?=some x:=rfl
theorem hT8(x y:Ob):(hR T a ln pb (x::y::rest))[8]?=some y:=rfl
theorem hU7(x y:Ob):(hR T a ln pb (x::rest)).set 7 y=hR T a ln pb (y::rest):=rfl
theorem hU8(x y z:Ob):(hR T a ln pb (x::y::rest)).set 8 z=hR T a ln pb (x::z::rest):=rfl
theorem ln_at:(rdK ln).lookup 0=some (.int (ln:Nat)):=rfl
end
noncomputable def zaf(l:List (List Nat)):V:=.lA (l.map .str)
noncomputable def rg1a:S:=(.expr (.append (.v 6) (.meth 28 (.v 5) .nil)))
noncomputable def rg1b:S:=(.asg 8 (.join (.c (.str [])) (.slc (.v 0) (.c .none) (.bin .Add (.v 7) (.c (.int 1))))))
noncomputable def rg1c:S:=(.ifs (.or (.cmp .NotEq (.idx (.v 13) (.c (.int 0))) (.len (.v 8))) (.cmp .NotEq (.attr (.v 5) 0) (.bin .Add (.c (.int 1)) (.count (.v 8) (.c (.str [10])))))) (.seq (.ret (.c .none)) .skip) .skip)
noncomputable def rg1:S:=(.seq rg1a (.seq rg1b (.seq rg1c .skip)))
theorem zsE(m:Nat){cs:List Ch}{mn:Nat->Nat}(hc:Chs cs)(hW:WOK cs mn){k:Nat}(hk:k<cs.length){W:List (List Nat)}(hWl:W.length<=100){x1 x2 x3 x4 x8 x9 x10 x11 x12 x14:V}{U:Vs}:∃y8,
  eF (zac (m+3)) rg1 (zaf (zab cs mn)::x1::x2::x3::x4::.inst 5::.obj 7::.int (k:Nat)::x8::x9::x10::x11::x12::.obj 2::x14::U,hR (zau cs mn cs.length) (zau cs mn k).length (1+(zau cs mn k).count 10) [] [.list (W.map .str)])=
   some (.next,zaf (zab cs mn)::x1::x2::x3::x4::.inst 5::.obj 7::.int (k:Nat)::y8::x9::x10::x11::x12::.obj 2::x14::U,hR (zau cs mn cs.length) (zau cs mn (k+1)).length (1+(zau cs mn (k+1)).count 10) [] [.list ((W++[ck cs k 0]).map .str)]):=by
 have hz:1000<=zad:=by decide
 have hn:=hc.n
 have hTl:=ze6 hW (Nat.le_refl cs.length)
 have hfl:=ze6 hW (k:=k+1) (by exact hk)
 refine xe (zoR cs mn hk) λt hd=>?_
 have hne:ck cs k 0≠[]:=λq=>by have:=hW.ten k hk;rw[q]at this;simp at this
 have g:=zhr m (rfl:RO [.list (W.map .str)]) (T:=zau cs mn cs.length) (by lia) (ln:=1+(zau cs mn k).count 10) (hW.ok k hk) hne (by rw[hW.ten k hk];decide) (hW.mn3 k) hd
 have hl:(1+(zau cs mn k).count 10+if mn k=2 then 1 else 0)=1+(zau cs mn (k+1)).count 10:=by rw[zb7];refine rwl List.count_append ?_;refine rwl (zqx (hW.ok k hk)) ?_;lia
 rw[(by rw[zb7,List.length_append]:(zau cs mn k).length+(wrM (ck cs k 0) (mn k)).length=(zau cs mn (k+1)).length),hl]at g
 have hsl:∀H,zeu (zaf (zab cs mn)) .none (.int ((k+1:Nat):Int))=some (zaf ((List.range (k+1)).map λk=>wrM (ck cs k 0) (mn k)))/\H=H:=λ(H:Nat)=>by refine ia ?_ rfl;unfold zaf;refine rwl (sl_l rfl rfl (by unfold zab;simp only[List.length_map,List.length_range];exact lnB 0 4 1000 0 0 0 hn hz rfl)) ?_;rw[zjE,<-List.map_take,zj9 cs mn (by exact hk)]
 have hfr:((List.range (k+1)).map λk=>wrM (ck cs k 0) (mn k)).flatten=zau cs mn (k+1):=rfl
 have q1:((k:Nat):Int)+1=((k+1:Nat):Int):=rfl
 generalize hF:zau cs mn (k+1)=F at*
 generalize zau cs mn cs.length=T at*
 generalize (zau cs mn k).length=a0 at*
 generalize 1+(zau cs mn k).count 10=l0 at*
 generalize hP:zaf (zab cs mn)=P at*
 generalize ck cs k 0=wd at*
 refine ie (.str F) ?_
 have e1:eF (zac (m+3)) rg1a (P::x1::x2::x3::x4::.inst 5::.obj 7::.int (k:Nat)::x8::x9::x10::x11::x12::.obj 2::x14::U,hR T a0 l0 [] [.list (W.map .str)])=some (.next,P::x1::x2::x3::x4::.inst 5::.obj 7::.int (k:Nat)::x8::x9::x10::x11::x12::.obj 2::x14::U,hR T F.length (1+F.count 10) [] [.list ((W++[wd]).map .str)]):=by simp only[rg1a,za5,zaF,zbq,zaA,zap,zaH,zbO,zbB,zhQ,zjj,zhP,zi1,GA,GB,OA,OB,OC,hT7,zpO,g,flat,List.length_map,hU7];refine rwl (if_pos ⟨trivial,by exact lnB 0 100 1000 0 0 0 hWl hz rfl⟩) ?_;refine rwl List.map_append ?_;rfl
 have e2:eF (zac (m+3)) rg1b (P::x1::x2::x3::x4::.inst 5::.obj 7::.int (k:Nat)::x8::x9::x10::x11::x12::.obj 2::x14::U,hR T F.length (1+F.count 10) [] [.list ((W++[wd]).map .str)])=some (.next,P::x1::x2::x3::x4::.inst 5::.obj 7::.int (k:Nat)::.str F::x9::x10::x11::x12::.obj 2::x14::U,hR T F.length (1+F.count 10) [] [.list ((W++[wd]).map .str)]):=by
  have hs:eE (zac (m+3)) (P::x1::x2::x3::x4::.inst 5::.obj 7::.int (k:Nat)::x8::x9::x10::x11::x12::.obj 2::x14::U) (.slc (.v 0) (.c .none) (.bin .Add (.v 7) (.c (.int 1)))) (hR T F.length (1+F.count 10) [] [.list ((W++[wd]).map .str)])=some (zaf ((List.range (k+1)).map λk=>wrM (ck cs k 0) (mn k)),hR T F.length (1+F.count 10) [] [.list ((W++[wd]).map .str)]):=by
   have hPv:eE (zac (m+3)) (P::x1::x2::x3::x4::.inst 5::.obj 7::.int (k:Nat)::x8::x9::x10::x11::x12::.obj 2::x14::U) (.v 0) (hR T F.length (1+F.count 10) [] [.list ((W++[wd]).map .str)])=some (P,hR T F.length (1+F.count 10) [] [.list ((W++[wd]).map .str)]):=by refine rwr hP ?_;rfl
   refine rwl zcs ?_;refine rwl hPv ?_;simp only[zbL,zaF,zaz,GA,GB,OA,OB,OC,zc2,q1,((hsl 0).1)]
  have hj:=znj (l:=(List.range (k+1)).map λk=>wrM (ck cs k 0) (mn k)) hs rfl (by rw[hfr];lia);rw[hfr]at hj;rw[rg1b];refine rwl zaw ?_;refine rwl hj ?_;rfl
 have t3:eE (zac (m+3)) (P::x1::x2::x3::x4::.inst 5::.obj 7::.int (k:Nat)::.str F::x9::x10::x11::x12::.obj 2::x14::U) (.or (.cmp .NotEq (.idx (.v 13) (.c (.int 0))) (.len (.v 8))) (.cmp .NotEq (.attr (.v 5) 0) (.bin .Add (.c (.int 1)) (.count (.v 8) (.c (.str [10])))))) (hR T F.length (1+F.count 10) [] [.list ((W++[wd]).map .str)])=some (.bool false,hR T F.length (1+F.count 10) [] [.list ((W++[wd]).map .str)]):=by
  have i0:=zeP (hR_2 T F.length (1+F.count 10) [] [.list ((W++[wd]).map .str)]) (rfl:(0:Int)=((0:Nat):Int)) (v:=.int (F.length:Nat)) rfl (show 1<=zad by decide);have cne:∀(H:H) (x:Int),zbl .NotEq H (.int x) (.int x)=some false:=λH x=>by show some (x != x)=some false;rw[bne_self_eq_false]
  have q2:(1:Int)+((F.count 10:Nat):Int)=((1+F.count 10:Nat):Int):=rfl;simp only[zbL,zaF,zaz,zgx,zaI,zaV,zar,zbJ,zbE,zeX,zgB,zbB,zjj,zi1,GA,GB,OA,OB,OC,i0,(n_str (by lia):zdh (hR T F.length (1+F.count 10) [] [.list ((W++[wd]).map .str)]) (.str F)=some (F.length:Int)),cne,zaL,Bool.false_eq_true,if_false,zpO,ln_at,zc2,q2]
 rw[rg1,zbw e1,zbw e2,zbv,rg1c,zcr t3,x_skip]
theorem zhW(m:Nat){cs:List Ch}{mn:Nat->Nat}(hc:Chs cs)(hW:WOK cs mn){x1 x2 x3 x4 x9 x10 x11 x12 x14:V}{U:Vs}:∀(n k:Nat) (x7 x8:V),k+n=cs.length->∃y7 y8,
  zbZ (eF (zac (m+3)) rg1) [7] ((List.range n).map λi=>.int ((k+i:Nat):Int)) (zaf (zab cs mn)::x1::x2::x3::x4::.inst 5::.obj 7::x7::x8::x9::x10::x11::x12::.obj 2::x14::U,hR (zau cs mn cs.length) (zau cs mn k).length (1+(zau cs mn k).count 10) [] [.list (((List.range k).map λk=>ck cs k 0).map .str)])=
   some (none,zaf (zab cs mn)::x1::x2::x3::x4::.inst 5::.obj 7::y7::y8::x9::x10::x11::x12::.obj 2::x14::U,hR (zau cs mn cs.length) (zau cs mn cs.length).length (1+(zau cs mn cs.length).count 10) [] [.list ((zaa cs).map .str)]):=by
 intro l9;induction l9 with
 |zero=>intro k x7 x8 hk;subst hk;exact iee x7 x8 rfl
 |succ n zhW=>
  intro k x7 x8 hk;have hn:=hc.n;obtain⟨y8,e⟩:=zsE m hc hW (k:=k) (by lia) (W:=(List.range k).map λk=>ck cs k 0) (by rw[List.length_map,List.length_range];lia) (x1:=x1) (x2:=x2) (x3:=x3) (x4:=x4) (x8:=x8) (x9:=x9) (x10:=x10) (x11:=x11) (x12:=x12) (x14:=x14) (U:=U);have hw:((List.range k).map λk=>ck cs k 0)++[ck cs k 0]=(List.range (k+1)).map λk=>ck cs k 0:=by rw[List.range_succ,List.map_append];rfl
  rw[hw]at e;refine xee (zhW (k+1) (.int (k:Nat)) y8 (by omega)) λz7 z8 e2=>?_;refine iee z7 z8 ?_;have hr:(List.range (n+1)).map (λi=>V.int ((k+i:Nat):Int))=.int (k:Nat)::(List.range n).map λi=>.int ((k+1+i:Nat):Int):=by refine rwl List.range_succ_eq_map ?_;refine rwl List.map_cons ?_;refine rwl List.map_map ?_;congr 1;refine List.map_congr_left λi _=>?_;show V.int ((k+(i+1):Nat):Int)=_;exact rwl (show k+(i+1)=k+1+i by lia) rfl
  rw[hr,zeU (st:=_) e,e2]
noncomputable def rg2:S:=(.seq (.ifs (.cmp .Gt (.get (.v 2) (.v 9) (.c (.int 0))) (.c (.int 0))) (.seq (.expr (.meth 29 (.v 5) (.cons (.v 9) .nil))) .skip) .skip) .skip)
theorem zfx(m:Nat){cs:List Ch}(hc:Chs cs){af sh:List (List Nat×Sc)}(hD:DOK af sh cs){T:List Nat}{a ln:Nat}{rest:H}(r:RO rest){x0 x1 x3 x4 x6 x7 x8:V}{U:Vs}:∀(ks:List Nat) (pb:List V) (x9:V),(∀k∈ks,k<cs.length)->pb.length+ks.length<=1000->∃y9,
  zbZ (eF (zac (m+1)) rg2) [9] (ks.map λk=>.str (ck cs k 0)) (x0::x1::.dS sh::x3::x4::.inst 5::x6::x7::x8::x9::U,hR T a ln pb rest)=
   some (none,x0::x1::.dS sh::x3::x4::.inst 5::x6::x7::x8::y9::U,hR T a ln (pb++(ks.filter λk=>decide (0+1<cl cs k)).map λk=>.str (ck cs k 0)) rest):=by
 intro l9;induction l9 with
 |nil=>intro pb x9 _ _;exact⟨x9,by rw[List.filter_nil,List.map_nil,List.append_nil];rfl⟩
 |cons k ks zfx=>
  intro pb x9 hk hz;rw[List.length_cons]at hz;refine xea (hD.sh k (hk k (.head _)) 0 (hc.at (hk k (.head _))).1) λc hsc hcc=>?_;have p:=zeq m (T:=T) (a:=a) (ln:=ln) (s:=ck cs k 0) (pb:=pb) r (by omega);have hg:zbl .Gt (hR T a ln pb rest) (.int (c:Nat)) (.int 0)=some (decide (0+1<cl cs k)):=by rw[zqD];congr 1;rw[decide_eq_decide,<-hcc];omega
  have t:eE (zac (m+1)) (x0::x1::.dS sh::x3::x4::.inst 5::x6::x7::x8::.str (ck cs k 0)::U) (.cmp .Gt (.get (.v 2) (.v 9) (.c (.int 0))) (.c (.int 0))) (hR T a ln pb rest)=some (.bool (decide (0+1<cl cs k)),hR T a ln pb rest):=by simp only[zbL,zaF,zaI,zc7,zpa,GA,GB,OA,OB,OC,hsc,Option.map_some,Option.getD_some,Sc.v,hg]
  generalize q:decide (0+1<cl cs k)=r0;induction r0 using Bool.casesOn with
  |true=>
   rw[q]at t;have hb:eF (zac (m+1)) rg2 ((x0::x1::.dS sh::x3::x4::.inst 5::x6::x7::x8::x9::U).set 9 (.str (ck cs k 0)),hR T a ln pb rest)=some (.next,x0::x1::.dS sh::x3::x4::.inst 5::x6::x7::x8::.str (ck cs k 0)::U,hR T a ln (pb++[.str (ck cs k 0)]) rest):=by show eF (zac (m+1)) rg2 (x0::x1::.dS sh::x3::x4::.inst 5::x6::x7::x8::.str (ck cs k 0)::U,hR T a ln pb rest)=_;rw[rg2,zbv,zjh t,zbv];simp only[za5,zaF,zbq,zap,zag,zaH,zce,zbB,zjj,zi1,GA,GB,OA,OB,OC,zpO,p]
   obtain⟨y9,e⟩:=zfx (pb++[.str (ck cs k 0)]) (.str (ck cs k 0)) (λy hy=>hk y (.tail _ hy)) (by rw[List.length_append];simp only[List.length_cons,List.length_nil];omega);refine⟨y9,?_⟩;rw[List.map_cons,zeU hb,e,List.filter_cons,if_pos q,List.append_assoc];rfl
  |false=>
   rw[q]at t;have hb:eF (zac (m+1)) rg2 ((x0::x1::.dS sh::x3::x4::.inst 5::x6::x7::x8::x9::U).set 9 (.str (ck cs k 0)),hR T a ln pb rest)=some (.next,x0::x1::.dS sh::x3::x4::.inst 5::x6::x7::x8::.str (ck cs k 0)::U,hR T a ln pb rest):=by show eF (zac (m+1)) rg2 (x0::x1::.dS sh::x3::x4::.inst 5::x6::x7::x8::.str (ck cs k 0)::U,hR T a ln pb rest)=_;rw[rg2,zbv,zcr t,x_skip]
   refine xe (zfx pb (.str (ck cs k 0)) (λy hy=>hk y (.tail _ hy)) (by omega)) λy9 e=>?_;refine⟨y9,?_⟩;rw[List.map_cons,zeU hb,e,List.filter_cons,if_neg (by rw[q];decide)]
noncomputable def rg3a:S:=(.asg 12 (.meth 28 (.v 5) .nil))
noncomputable def rg3b:S:=(.ifs (.cmp .Eq (.v 12) (.c (.str []))) (.seq (.frz [10] (.ret (.tup (.cons (.v 6) (.cons (.v 10) .nil))))) .skip) .skip)
noncomputable def rg3c:S:=(.asg 12 (.idx (.v 1) (.v 12)))
noncomputable def rg3d:S:=(.expr (.append (.v 10) (.v 12)))
noncomputable def rg3e:S:=(.ifs (.cmp .Gt (.idx (.v 2) (.v 12)) (.c (.int 0))) (.seq (.expr (.meth 29 (.v 5) (.cons (.v 12) .nil))) .skip) .skip)
noncomputable def rg3:S:=(.seq rg3a (.seq rg3b (.seq rg3c (.seq rg3d (.seq rg3e .skip)))))
theorem RO2(E:List V):RO [.gone,.list E]:=rfl
theorem zsF(m:Nat){T:List Nat}{ln:Nat}(hT:T.length<=10000){W E:List (List Nat)}{x0 x1 x2 x3 x4 x7 x8 x9 x11 x12 x13 x14:V}{U:Vs}:∃st,
  eF (zac (m+3)) rg3 (x0::x1::x2::x3::x4::.inst 5::zaf W::x7::x8::x9::.obj 8::x11::x12::x13::x14::U,hR T T.length ln [] [.gone,.list (E.map .str)])=some (.ret (.tup [zaf W,zaf E]),st,hR T T.length ln [] [.gone,.gone]):=by
 have g:=ziO m (RO2 (E.map .str)) hT (ln:=ln)
 have e1:eF (zac (m+3)) rg3a (x0::x1::x2::x3::x4::.inst 5::zaf W::x7::x8::x9::.obj 8::x11::x12::x13::x14::U,hR T T.length ln [] [.gone,.list (E.map .str)])=some (.next,x0::x1::x2::x3::x4::.inst 5::zaf W::x7::x8::x9::.obj 8::x11::.str []::x13::x14::U,hR T T.length ln [] [.gone,.list (E.map .str)]):=by delta rg3a;nomatch zpO,g
 have t:eE (zac (m+3)) (x0::x1::x2::x3::x4::.inst 5::zaf W::x7::x8::x9::.obj 8::x11::.str []::x13::x14::U) (.cmp .Eq (.v 12) (.c (.str []))) (hR T T.length ln [] [.gone,.list (E.map .str)])=some (.bool true,hR T T.length ln [] [.gone,.list (E.map .str)]):=by simp only[zbL,zaF,zaI,GA,GB,OA,OB,OC,zpr];rfl
 have e2:eF (zac (m+3)) (.frz [10] (.ret (.tup (.cons (.v 6) (.cons (.v 10) .nil))))) (x0::x1::x2::x3::x4::.inst 5::zaf W::x7::x8::x9::.obj 8::x11::.str []::x13::x14::U,hR T T.length ln [] [.gone,.list (E.map .str)])=some (.ret (.tup [zaf W,zaf E]),x0::x1::x2::x3::x4::.inst 5::zaf W::x7::x8::x9::zaf E::x11::.str []::x13::x14::U,hR T T.length ln [] [.gone,.gone]):=by unfold zaf;nomatch zrI,zrH,zdO,zbO,frzOf,Option.map_some,hT8,hU8
 have e3:=(zbw (b:=.seq rg3b (.seq rg3c (.seq rg3d (.seq rg3e .skip)))) e1).trans (zpf ((zjh t).trans ((zbv _ _ _).trans e2)))
 exact⟨_,e3⟩
theorem zqc(m:Nat){T:List Nat}{ln:Nat}{W E:List (List Nat)}{af sh:List (List Nat×Sc)}{r r':List Nat}{c:Nat}{pb:List V}(hr:r≠[])(ha:af.lookup r=some (.str r'))(hs:sh.lookup r'=some (.int (c:Nat)))(hp:pb.length<=900)(hE:E.length<=900){x0 x3 x4 x7 x8 x9 x11 x12 x13 x14:V}{U:Vs}:
  eF (zac (m+3)) rg3 (x0::.dS af::.dS sh::x3::x4::.inst 5::zaf W::x7::x8::x9::.obj 8::x11::x12::x13::x14::U,hR T T.length ln (.str r::pb) [.gone,.list (E.map .str)])=
   some (.next,x0::.dS af::.dS sh::x3::x4::.inst 5::zaf W::x7::x8::x9::.obj 8::x11::.str r'::x13::x14::U,hR T T.length ln (if 0<c then pb++[.str r'] else pb) [.gone,.list ((E++[r']).map .str)]):=by
 have g:=zjK (m+2) (RO2 (E.map .str)) (T:=T) (a:=T.length) (ln:=ln) (s:=r) (pb:=pb) (by exact Nat.le_trans hp (by decide))
 have e1:eF (zac (m+3)) rg3a (x0::.dS af::.dS sh::x3::x4::.inst 5::zaf W::x7::x8::x9::.obj 8::x11::x12::x13::x14::U,hR T T.length ln (.str r::pb) [.gone,.list (E.map .str)])=some (.next,x0::.dS af::.dS sh::x3::x4::.inst 5::zaf W::x7::x8::x9::.obj 8::x11::.str r::x13::x14::U,hR T T.length ln pb [.gone,.list (E.map .str)]):=by simp only[rg3a,zaw,zaF,zbq,zap,zaH,zbB,zjj,zi1,GA,GB,OA,OB,OC,SA,SB,zpO,g]
 have t:eE (zac (m+3)) (x0::.dS af::.dS sh::x3::x4::.inst 5::zaf W::x7::x8::x9::.obj 8::x11::.str r::x13::x14::U) (.cmp .Eq (.v 12) (.c (.str []))) (hR T T.length ln pb [.gone,.list (E.map .str)])=some (.bool false,hR T T.length ln pb [.gone,.list (E.map .str)]):=by have:(r==[])=false:=beq_eq_false_iff_ne.mpr hr;simp only[zbL,zaF,zaI,GA,GB,OA,OB,OC,zpr,this]
 have e3:eF (zac (m+3)) rg3c (x0::.dS af::.dS sh::x3::x4::.inst 5::zaf W::x7::x8::x9::.obj 8::x11::.str r::x13::x14::U,hR T T.length ln pb [.gone,.list (E.map .str)])=some (.next,x0::.dS af::.dS sh::x3::x4::.inst 5::zaf W::x7::x8::x9::.obj 8::x11::.str r'::x13::x14::U,hR T T.length ln pb [.gone,.list (E.map .str)]):=by simp only[rg3c,zaw,zaF,zar,GA,GB,OA,OB,OC,SA,SB,(ziW (hR T T.length ln pb [.gone,.list (E.map .str)]) ha),Sc.v]
 have e4:eF (zac (m+3)) rg3d (x0::.dS af::.dS sh::x3::x4::.inst 5::zaf W::x7::x8::x9::.obj 8::x11::.str r'::x13::x14::U,hR T T.length ln pb [.gone,.list (E.map .str)])=some (.next,x0::.dS af::.dS sh::x3::x4::.inst 5::zaf W::x7::x8::x9::.obj 8::x11::.str r'::x13::x14::U,hR T T.length ln pb [.gone,.list ((E++[r']).map .str)]):=by simp only[rg3d,za5,zaF,zaA,zbO,zhQ,zhP,GA,GB,OA,OB,OC,hT8,flat,List.length_map,hU8];refine rwl (if_pos ⟨trivial,by exact lnB 0 900 1000 0 0 0 hE (by decide:1000<=zad) rfl⟩) ?_;refine rwl List.map_append ?_;rfl
 have hg:zbl .Gt (hR T T.length ln pb [.gone,.list ((E++[r']).map .str)]) (.int (c:Nat)) (.int 0)=some (decide (0<c)):=by rw[zqD];congr 1;rw[decide_eq_decide];omega
 have t5:eE (zac (m+3)) (x0::.dS af::.dS sh::x3::x4::.inst 5::zaf W::x7::x8::x9::.obj 8::x11::.str r'::x13::x14::U) (.cmp .Gt (.idx (.v 2) (.v 12)) (.c (.int 0))) (hR T T.length ln pb [.gone,.list ((E++[r']).map .str)])=some (.bool (decide (0<c)),hR T T.length ln pb [.gone,.list ((E++[r']).map .str)]):=by simp only[zbL,zaF,zaI,zar,GA,GB,OA,OB,OC,(ziW (hR T T.length ln pb [.gone,.list ((E++[r']).map .str)]) hs),Sc.v,hg]
 have e5:eF (zac (m+3)) rg3e (x0::.dS af::.dS sh::x3::x4::.inst 5::zaf W::x7::x8::x9::.obj 8::x11::.str r'::x13::x14::U,hR T T.length ln pb [.gone,.list ((E++[r']).map .str)])=some (.next,x0::.dS af::.dS sh::x3::x4::.inst 5::zaf W::x7::x8::x9::.obj 8::x11::.str r'::x13::x14::U,hR T T.length ln (if 0<c then pb++[.str r'] else pb) [.gone,.list ((E++[r']).map .str)]):=by
  by_cases q:0<c
  ·rw[decide_eq_true q]at t5;have p:=zeq (m+2) (T:=T) (a:=T.length) (ln:=ln) (s:=r') (pb:=pb) (RO2 ((E++[r']).map .str)) (by exact Nat.le_trans hp (by decide));rw[rg3e,zjh t5,zbv,if_pos q];simp only[za5,zaF,zbq,zap,zag,zaH,zce,zbB,zjj,zi1,GA,GB,OA,OB,OC,zpO,p]
  ·rw[decide_eq_false q]at t5;rw[rg3e,zcr t5,x_skip,if_neg q]
 rw[rg3,zbw e1,rg3b,zbw ((zcr t).trans (x_skip _ _)),zbw e3,zbw e4,zbv,e5]
noncomputable def qv(cs:List Ch)(j:Nat)(A:List Nat):List V:=A.map λk=>.str (ck cs k j)
theorem zdA(m:Nat){cs:List Ch}{mn:Nat->Nat}(hW:WOK cs mn){af sh:List (List Nat×Sc)}(hD:DOK af sh cs){T:List Nat}{ln:Nat}{W:List (List Nat)}{x0 x3 x4 x7 x8 x9 x13 x14:V}{U:Vs}{xs:List V}{j:Nat}:∀(A:List Nat) (as:List V) (B:List Nat) (E:List (List Nat)) (x11 x12:V),
  as.length=A.length->(∀k∈A,k<cs.length/\j+1<cl cs k)->A.length+B.length<=100->E.length+A.length<=800->
  ∃y11 y12,zbZ (eF (zac (m+3)) rg3) [11] (as++xs) (x0::.dS af::.dS sh::x3::x4::.inst 5::zaf W::x7::x8::x9::.obj 8::x11::x12::x13::x14::U,hR T T.length ln (qv cs j A++qv cs (j+1) B) [.gone,.list (E.map .str)])=
   zbZ (eF (zac (m+3)) rg3) [11] xs (x0::.dS af::.dS sh::x3::x4::.inst 5::zaf W::x7::x8::x9::.obj 8::y11::y12::x13::x14::U,hR T T.length ln (qv cs (j+1) (B++A.filter λk=>decide (j+2<cl cs k))) [.gone,.list ((E++A.map λk=>ck cs k (j+1)).map .str)]):=by
 intro l9;induction l9 with
 |nil=>intro as B E x11 x12 hl _ _ _;have:as=[]:=List.length_eq_zero_iff.mp hl;subst this;refine iee x11 x12 ?_;rw[List.filter_nil,List.append_nil,List.map_nil,List.append_nil,List.nil_append];rfl
 |cons k A zdA=>
  intro as B E x11 x12 hl hA hz hz2;induction as using List.casesOn with
  |nil=>simp at hl
  |cons a as=>
  rw[List.length_cons]at hz hz2
  refine xa (hA k (.head _)) λhk hj=>?_
  refine xea (hD.sh k hk (j+1) hj) λc hs hc=>?_
  have hb:=zqc m (T:=T) (ln:=ln) (W:=W) (E:=E) (pb:=qv cs j A++qv cs (j+1) B) (hW.ne k hk j (by exact Nat.le_of_lt hj)) (hD.af k hk j hj) hs (by unfold qv;rw[List.length_append,List.length_map,List.length_map];lia) (by lia) (x0:=x0) (x3:=x3) (x4:=x4) (x7:=x7) (x8:=x8) (x9:=x9) (x11:=a) (x12:=x12) (x13:=x13) (x14:=x14) (U:=U)
  refine rwl (rfl:qv cs j (k::A)++qv cs (j+1) B=.str (ck cs k j)::(qv cs j A++qv cs (j+1) B)) ?_;refine rwl List.cons_append ?_
  by_cases q:0<c
  ·refine yee λX kX=>?_;rw[if_pos q]at hb;have hp2:qv cs j A++qv cs (j+1) B++[.str (ck cs k (j+1))]=qv cs j A++qv cs (j+1) (B++[k]):=by unfold qv;refine rwl List.map_append ?_;rw[List.append_assoc];rfl
   rw[hp2]at hb;obtain⟨y11,y12,e⟩:=zdA as (B++[k]) (E++[ck cs k (j+1)]) a (.str (ck cs k (j+1))) (by simpa using hl) (λy hy=>hA y (.tail _ hy)) (by rw[List.length_append];simp only[List.length_cons,List.length_nil];lia) (by rw[List.length_append];simp only[List.length_cons,List.length_nil];lia);refine kX y11 y12 ?_;refine rwl (zeU hb) ?_;refine rwl e ?_;refine rwl List.filter_cons ?_;refine rwl (if_pos (decide_eq_true (hc.mp q))) ?_;rw[List.append_assoc,List.append_assoc];rfl
  ·refine yee λX kX=>?_;rw[if_neg q]at hb;obtain⟨y11,y12,e⟩:=zdA as B (E++[ck cs k (j+1)]) a (.str (ck cs k (j+1))) (by simpa using hl) (λy hy=>hA y (.tail _ hy)) (by lia) (by rw[List.length_append];simp only[List.length_cons,List.length_nil];lia);refine kX y11 y12 ?_;refine rwl (zeU hb) ?_;refine rwl e ?_;refine rwl List.filter_cons ?_;refine rwl (if_neg (by rw[decide_eq_true_eq];exact λz=>q (hc.mpr z))) ?_;rw[List.append_assoc];rfl
theorem zhX(m:Nat){cs:List Ch}{mn:Nat->Nat}(hcs:Chs cs)(hW:WOK cs mn){af sh:List (List Nat×Sc)}(hD:DOK af sh cs){T:List Nat}{ln:Nat}(hT:T.length<=10000){W:List (List Nat)}{x0 x3 x4 x7 x8 x9 x13 x14:V}{U:Vs}:∀(n j:Nat) (xs:List V) (E:List (List Nat)) (x11 x12:V),
  (∀k<cs.length,cl cs k<=n+j+1)->E.length+(lv cs n j).length<=700->(lv cs n j).length<xs.length->
  ∃st,zbZ (eF (zac (m+3)) rg3) [11] xs (x0::.dS af::.dS sh::x3::x4::.inst 5::zaf W::x7::x8::x9::.obj 8::x11::x12::x13::x14::U,hR T T.length ln (qv cs j (al cs j)) [.gone,.list (E.map .str)])=
   some (some (.ret (.tup [zaf W,zaf (E++lv cs n j)])),st,hR T T.length ln [] [.gone,.gone]):=by
 intro l9;induction l9 with
 |zero=>
  intro j xs E x11 x12 hn _ hx;have ha:al cs j=[]:=by rw[List.eq_nil_iff_forall_not_mem];intro k hk;obtain⟨a,b⟩:=zgI.mp hk;have:=hn k a;lia
  refine rwl ha ?_;induction xs using List.casesOn with
  |nil=>simp at hx
  |cons x xs=>obtain⟨st,e⟩:=zsF m (ln:=ln) hT (W:=W) (E:=E) (x0:=x0) (x1:=.dS af) (x2:=.dS sh) (x3:=x3) (x4:=x4) (x7:=x7) (x8:=x8) (x9:=x9) (x11:=x) (x12:=x12) (x13:=x13) (x14:=x14) (U:=U);rw[lv_0,List.append_nil];exact ie st (lp_ret e)
 |succ n zhX=>intro j xs E x11 x12 hn hz hx;refine ye λX kX=>?_;rw[lv_s,List.length_append,List.length_map]at hz hx;obtain⟨y11,y12,i2⟩:=zdA m hW hD (T:=T) (ln:=ln) (W:=W) (x0:=x0) (x3:=x3) (x4:=x4) (x7:=x7) (x8:=x8) (x9:=x9) (x13:=x13) (x14:=x14) (U:=U) (xs:=xs.drop (al cs j).length) (j:=j) (al cs j) (xs.take (al cs j).length) [] E x11 x12 (by rw[List.length_take];lia) (λk hk=>zgI.mp hk) (by rw[List.length_nil];exact Nat.le_trans (zg9 hcs j) (by decide)) (by lia);rw[List.nil_append,zmR]at i2;obtain⟨st,e⟩:=zhX (j+1) (xs.drop (al cs j).length) (E++(al cs j).map λk=>ck cs k (j+1)) y11 y12 (λk hk=>by have:=hn k hk;lia) (by rw[List.length_append,List.length_map];lia) (by rw[List.length_drop];lia);refine kX st ?_;have hnil:qv cs (j+1) []=[]:=rfl;rw[hnil,List.append_nil]at i2;rw[((List.take_append_drop _ _).symm:xs=xs.take (al cs j).length++xs.drop (al cs j).length),i2,e,lv_s,List.append_assoc]
theorem zqd(m:Nat){cs:List Ch}{mn:Nat->Nat}(hcs:Chs cs)(hW:WOK cs mn){af sh:List (List Nat×Sc)}(hD:DOK af sh cs):
  zac (m+4) 17 [zaf (zab cs mn),.dS af,.dS sh] [.tab,.gone]=some (.tup [zaf (zaa cs),zaf (za7 cs)],[.tabg,.gone]):=by
 have hz:1000<=zad:=by decide
 have hn:=hcs.n
 have hTl:=ze6 hW (Nat.le_refl cs.length)
 have htl:(lv cs 9 0).length<=36:=zgm cs hcs
 refine zbf k_ring (fl:=.ret (.tup [zaf (zaa cs),zaf (za7 cs)])) (h':=hR (zau cs mn cs.length) (zau cs mn cs.length).length (1+(zau cs mn cs.length).count 10) [] [.gone,.gone]) ?_ rfl rfl rfl rfl ⟨rfl,rfl⟩
 have hTx:(zab cs mn).flatten=zau cs mn cs.length:=rfl
 have e1:eF (zac (m+3)) (.asg 14 (.join (.c (.str [])) (.v 0))) (zaf (zab cs mn)::.dS af::.dS sh::.uA::.uA::.uA::.uA::.uA::.uA::.uA::.uA::.uA::.uA::.uA::.uA::R6,[.tab,.gone])=some (.next,zaf (zab cs mn)::.dS af::.dS sh::.uA::.uA::.uA::.uA::.uA::.uA::.uA::.uA::.uA::.uA::.uA::.str (zau cs mn cs.length)::R6,[.tab,.gone]):=by have hj:=znj (Φ:=zac (m+3)) (vs:=zaf (zab cs mn)::.dS af::.dS sh::.uA::.uA::.uA::.uA::.uA::.uA::.uA::.uA::.uA::.uA::.uA::.uA::R6) (h:=[.tab,.gone]) (a:=.v 0) (v:=zaf (zab cs mn)) (l:=zab cs mn) rfl rfl (by rw[hTx];lia);rw[zaw,hj];rfl
 refine xee (zhW m hcs hW (x1:=.dS af) (x2:=.dS sh) (x3:=.give (zau cs mn cs.length) 2) (x4:=.inst 3) (x9:=.uA) (x10:=.uA) (x11:=.uA) (x12:=.uA) (x14:=.str (zau cs mn cs.length)) (U:=R6) cs.length 0 .uA .uA (by omega)) λy7 y8 lp1=>?_
 simp only[Nat.zero_add]at lp1
 generalize hT:zau cs mn cs.length=T at*
 have e2:eF (zac (m+3)) (.asgM 13 (.lA (.cons (.c (.int 0)) .nil))) (zaf (zab cs mn)::.dS af::.dS sh::.uA::.uA::.uA::.uA::.uA::.uA::.uA::.uA::.uA::.uA::.uA::.str T::R6,[.tab,.gone])=some (.next,zaf (zab cs mn)::.dS af::.dS sh::.uA::.uA::.uA::.uA::.uA::.uA::.uA::.uA::.uA::.uA::.obj 2::.str T::R6,[.tab,.gone,.list [.int 0]]):=rfl
 have e3:eF (zac (m+3)) (.defGive 3 14 13) (zaf (zab cs mn)::.dS af::.dS sh::.uA::.uA::.uA::.uA::.uA::.uA::.uA::.uA::.uA::.uA::.obj 2::.str T::R6,[.tab,.gone,.list [.int 0]])=some (.next,zaf (zab cs mn)::.dS af::.dS sh::.give T 2::.uA::.uA::.uA::.uA::.uA::.uA::.uA::.uA::.uA::.obj 2::.str T::R6,[.tabg,.gone,.list [.int 0]]):=rfl
 have e4:eF (zac (m+3)) (.asg 4 (.mk (.c .none))) (zaf (zab cs mn)::.dS af::.dS sh::.give T 2::.uA::.uA::.uA::.uA::.uA::.uA::.uA::.uA::.uA::.obj 2::.str T::R6,[.tabg,.gone,.list [.int 0]])=some (.next,zaf (zab cs mn)::.dS af::.dS sh::.give T 2::.inst 3::.uA::.uA::.uA::.uA::.uA::.uA::.uA::.uA::.obj 2::.str T::R6,[.tabg,.gone,.list [.int 0],.attrs [(0,.int 1),(1,.none),(2,.str wsL),(3,.obj 4)],.list []]):=by nomatch in1'
 have e5:eF (zac (m+3)) (.setA (.v 4) 4 (.v 3)) (zaf (zab cs mn)::.dS af::.dS sh::.give T 2::.inst 3::.uA::.uA::.uA::.uA::.uA::.uA::.uA::.uA::.obj 2::.str T::R6,[.tabg,.gone,.list [.int 0],.attrs [(0,.int 1),(1,.none),(2,.str wsL),(3,.obj 4)],.list []])=some (.next,zaf (zab cs mn)::.dS af::.dS sh::.give T 2::.inst 3::.uA::.uA::.uA::.uA::.uA::.uA::.uA::.uA::.obj 2::.str T::R6,[.tabg,.gone,.list [.int 0],.attrs (zsU T),.list []]):=rfl
 have e6:eF (zac (m+3)) (.asg 5 (.mk (.v 4))) (zaf (zab cs mn)::.dS af::.dS sh::.give T 2::.inst 3::.uA::.uA::.uA::.uA::.uA::.uA::.uA::.uA::.obj 2::.str T::R6,[.tabg,.gone,.list [.int 0],.attrs (zsU T),.list []])=some (.next,zaf (zab cs mn)::.dS af::.dS sh::.give T 2::.inst 3::.inst 5::.uA::.uA::.uA::.uA::.uA::.uA::.uA::.obj 2::.str T::R6,hR T 0 1 [] []):=by nomatch in2'
 have e7:eF (zac (m+3)) (.asgM 6 (.lA .nil)) (zaf (zab cs mn)::.dS af::.dS sh::.give T 2::.inst 3::.inst 5::.uA::.uA::.uA::.uA::.uA::.uA::.uA::.obj 2::.str T::R6,hR T 0 1 [] [])=some (.next,zaf (zab cs mn)::.dS af::.dS sh::.give T 2::.inst 3::.inst 5::.obj 7::.uA::.uA::.uA::.uA::.uA::.uA::.obj 2::.str T::R6,hR T 0 1 [] [.list []]):=rfl
 have ev8:eE (zac (m+3)) (zaf (zab cs mn)::.dS af::.dS sh::.give T 2::.inst 3::.inst 5::.obj 7::.uA::.uA::.uA::.uA::.uA::.uA::.obj 2::.str T::R6) (.rg (.cons (.len (.v 0)) .nil)) (hR T 0 1 [] [.list []])=some (.rng 0 (cs.length:Nat) 1,hR T 0 1 [] [.list []]):=by have hln:=zax (hR T 0 1 [] [.list []]) (vs:=(zab cs mn).map .str) (by unfold zab;simp only[List.length_map,List.length_range];exact lnB 0 4 1000 0 0 0 hn hz rfl);rw[show ((zab cs mn).map V.str).length=cs.length by unfold zab;simp only[List.length_map,List.length_range]]at hln;unfold zaf;nomatch hln
 have lp1':zbZ (eF (zac (m+3)) rg1) [7] ((List.range cs.length).map λi=>.int (i:Nat)) (zaf (zab cs mn)::.dS af::.dS sh::.give T 2::.inst 3::.inst 5::.obj 7::.uA::.uA::.uA::.uA::.uA::.uA::.obj 2::.str T::R6,hR T 0 1 [] [.list []])=_:=lp1
 generalize 1+T.count 10=ln at*
 obtain⟨y9,lp2⟩:=zfx (m+2) hcs hD (rfl:RO [.gone]) (T:=T) (a:=T.length) (ln:=ln) (x0:=zaf (zab cs mn)) (x1:=.dS af) (x3:=.give T 2) (x4:=.inst 3) (x6:=zaf (zaa cs)) (x7:=y7) (x8:=y8) (U:=.uA::.uA::.uA::.obj 2::.str T::R6) (List.range cs.length) [] .uA (λk hk=>List.mem_range.mp hk) (by rw[List.length_range,List.length_nil];lia)
 have hit9:zak [9] (zaf (zaa cs))=some ((List.range cs.length).map λk=>.str (ck cs k 0)):=by unfold zak zaf zaa;simp only[zaN,OB];rw[if_pos ⟨by simp only[List.length_map,List.length_range];exact lnB 0 4 1000 0 0 0 hn hz rfl,.inl rfl⟩,List.map_map];rfl
 have e9:eF (zac (m+3)) (.frz [6] (.fors [9] (.v 6) rg2 .skip)) (zaf (zab cs mn)::.dS af::.dS sh::.give T 2::.inst 3::.inst 5::.obj 7::y7::y8::.uA::.uA::.uA::.uA::.obj 2::.str T::R6,hR T T.length ln [] [.list ((zaa cs).map .str)])=some (.next,zaf (zab cs mn)::.dS af::.dS sh::.give T 2::.inst 3::.inst 5::zaf (zaa cs)::y7::y8::y9::.uA::.uA::.uA::.obj 2::.str T::R6,hR T T.length ln (qv cs 0 (al cs 0)) [.gone]):=by exact x_fn (rfl:eE (zac (m+3)) (zaf (zab cs mn)::.dS af::.dS sh::.give T 2::.inst 3::.inst 5::zaf (zaa cs)::y7::y8::.uA::.uA::.uA::.uA::.obj 2::.str T::R6) (.v 6) (hR T T.length ln [] [.gone])=some (zaf (zaa cs),hR T T.length ln [] [.gone])) hit9 lp2
 have e10:eF (zac (m+3)) (.asgM 10 (.lA .nil)) (zaf (zab cs mn)::.dS af::.dS sh::.give T 2::.inst 3::.inst 5::zaf (zaa cs)::y7::y8::y9::.uA::.uA::.uA::.obj 2::.str T::R6,hR T T.length ln (qv cs 0 (al cs 0)) [.gone])=some (.next,zaf (zab cs mn)::.dS af::.dS sh::.give T 2::.inst 3::.inst 5::zaf (zaa cs)::y7::y8::y9::.obj 8::.uA::.uA::.obj 2::.str T::R6,hR T T.length ln (qv cs 0 (al cs 0)) [.gone,.list (([]:List (List Nat)).map .str)]):=rfl
 obtain⟨st,lp3⟩:=zhX m hcs hW hD (T:=T) (ln:=ln) (by lia) (W:=zaa cs) (x0:=zaf (zab cs mn)) (x3:=.give T 2) (x4:=.inst 3) (x7:=y7) (x8:=y8) (x9:=y9) (x13:=.obj 2) (x14:=.str T) (U:=R6) 9 0 ((List.range 40).map λi=>.int (i:Nat)) [] .uA .uA (λk hk=>by have:=hcs.at hk;exact this.2) (by rw[List.length_nil];lia) (by rw[List.length_map,List.length_range];exact lnA 0 36 1 40 htl rfl)
 show zcd (eF (zac (m+3)) (.seq (.asg 14 (.join (.c (.str [])) (.v 0))) (.seq (.asgM 13 (.lA (.cons (.c (.int 0)) .nil))) (.seq (.defGive 3 14 13) (.seq (.asg 4 (.mk (.c .none))) (.seq (.setA (.v 4) 4 (.v 3)) (.seq (.asg 5 (.mk (.v 4))) (.seq (.asgM 6 (.lA .nil))
  (.seq (.fors [7] (.rg (.cons (.len (.v 0)) .nil)) rg1 .skip) (.seq (.frz [6] (.fors [9] (.v 6) rg2 .skip)) (.seq (.asgM 10 (.lA .nil)) (.seq (.fors [11] (.rg (.cons (.c (.int 40)) .nil)) rg3 .skip) (.seq (.ret (.c .none)) .skip))))))))))))
  (zaf (zab cs mn)::.dS af::.dS sh::.uA::.uA::.uA::.uA::.uA::.uA::.uA::.uA::.uA::.uA::.uA::.uA::R6,[.tab,.gone]))=_
 rw[zbw e1,zbw e2,zbw e3,zbw e4,zbw e5,zbw e6,zbw e7,zbw (x_fn ev8 (zaK 7 (by exact Nat.le_trans hn (by decide))) lp1'),zbw e9,zbw e10,zpf (x_fr rfl (zaK 11 (by decide)) lp3)]
 rfl
noncomputable def ms(x:Int):List Int->Int
 |[]=>0
 |y::r=>min x y+ms x r
theorem ms_0:ms x []=0:=rfl
theorem zlb:ms x (y::r)=min x y+ms x r:=rfl
noncomputable def GL:List Int->Int
 |[]=>0
 |x::r=>x+ms x r+GL r
theorem GL_0:GL []=0:=rfl
theorem GL_s:GL (x::r)=x+ms x r+GL r:=rfl
theorem zen(x:Int):∀a b:List Int,ms x (a++b)=ms x a+ms x b:=by
 intro l9;induction l9 with
 |nil=>exact λb=>by simp[ms_0]
 |cons y a zen=>exact λb=>by simp only[List.cons_append,zlb,zen b];lia
theorem zeE(x:Int):∀(a b:List Int),GL (a++x::b)=x+ms x (a++b)+GL (a++b):=by
 intro l9;induction l9 with
 |nil=>intro b;exact rfl
 |cons y a zeE=>
  intro b;have h1:ms y (a++x::b)=ms y (a++b)+min y x:=by rw[zen,zen,zlb];lia
  simp only[List.cons_append,GL_s,zlb,zeE b,h1];lia
theorem ms_le(x:Int):∀l:List Int,ms x l<=x*(l.length:Int):=by
 intro l9;induction l9 with
 |nil=>simp[ms_0]
 |cons y r ms_le=>
  rw[zlb];have e:x*((r.length+1:Nat):Int)=x*(r.length:Int)+x:=by rw[Int.natCast_add,Int.mul_add];simp
  refine rwl e ?_;lia
theorem zsn(x:Int):∀l:List Int,(∀y∈l,x<=y)->ms x l=x*(l.length:Int):=by
 intro l9;induction l9 with
 |nil=>intro _;simp[ms_0]
 |cons y r zsn=>
  intro h;have:=zsn λz hz=>h z (.tail _ hz);have hy:=h y (.head _);rw[zlb];have e:x*((r.length+1:Nat):Int)=x*(r.length:Int)+x:=by rw[Int.natCast_add,Int.mul_add];simp
  refine rwl e ?_;lia
theorem zod:∀{l:List Int} {z:Int},z∈l->(∀y∈l,z<=y)->zji l=some z
 |[],z,h,_=>nomatch h
 |[x],z,h,_=>by rw[List.mem_singleton.mp h];rfl
 |x::y::r,z,h,hl=>by
  have e:zji (x::y::r)=(zji (y::r)).map (Min.min x ·):=mi_s;rw[e];by_cases q:z∈y::r
  ·rw[zod q λw hw=>hl w (.tail _ hw),Option.map_some];have:=hl x (.head _);congr 1;lia
  ·have hx:z=x:=by rcases List.mem_cons.mp h with h|h;exact h;exact absurd h q
   subst hx;refine xe (zf6 (l:=y::r) (by simp)) λw hw=>?_;rw[hw,Option.map_some];have hwm:∀{l:List Int} {w:Int},zji l=some w->w∈l:=by
    intro l;induction l with
    |nil=>intro w h;exact nos h
    |cons a t ih=>
     intro w h;induction t using List.casesOn with
     |nil=>have r0:=Option.some.inj h;subst r0;exact .head _
     |cons b t=>
      have e:zji (a::b::t)=(zji (b::t)).map (Min.min a ·):=mi_s;rw[e]at h;refine xea (Option.map_eq_some_iff.mp h) λv hv x0=>?_;subst x0;have:=ih hv;by_cases q:a<=v
      ·rw[show min a v=a by lia];exact .head _
      ·rw[show min a v=v by lia];exact .tail _ this
   have:=hl w (.tail _ (hwm hw));congr 1;lia
theorem zqQ:∀{l:List Int},l≠[]->∃k,k<l.length/\∀y∈l,l.getD k 0<=y
 |[x],_=>⟨0,by simp,λy hy=>by rw[List.mem_singleton.mp hy];exact Int.le_refl _⟩
 |x::y::r,_=>by
  refine xea (zqQ (l:=y::r) (by simp)) λk hk h=>?_;by_cases q:x<=(y::r).getD k 0
  ·refine⟨0,by simp,λz hz=>?_⟩;rcases List.mem_cons.mp hz with rfl|hz
   ·exact Int.le_refl _
   ·exact Int.le_trans q (h z hz)
  ·refine⟨k+1,by simp at hk ⊢;exact hk,λz hz=>?_⟩;have e:(x::y::r).getD (k+1) 0=(y::r).getD k 0:=by rw[List.getD_eq_getElem?_getD,List.getD_eq_getElem?_getD];rfl
   rw[e];rcases List.mem_cons.mp hz with rfl|hz
   ·lia
   ·exact h z hz
theorem zhH:∀(n:Nat) (ns:List Int),ns.length<n->zcX n ns=GL ns:=by
 intro l9;induction l9 with
 |zero=>intro ns h;lia
 |succ n zhH=>
  intro ns h;rw[le_s];by_cases q:ns=[]
  ·refine rwl (if_pos q) ?_;refine rwl q ?_;rfl
  ·refine rwl (if_neg q) ?_;have key:∀k,k<ns.length->ns.getD k 0*(ns.length:Int)+zcX n (ns.take k++ns.drop (k+1))=GL ns+(ns.getD k 0*((ns.take k++ns.drop (k+1)).length:Int)-ms (ns.getD k 0) (ns.take k++ns.drop (k+1))):=by
    intro k hk;have hlen:(ns.take k++ns.drop (k+1)).length+1=ns.length:=by rw[List.length_append,List.length_take,List.length_drop];lia
    have hx:ns=ns.take k++ns.getD k 0::ns.drop (k+1):=by
     have hg:ns.getD k 0=ns[k]:=by rw[List.getD_eq_getElem?_getD,List.getElem?_eq_getElem hk];rfl
     refine rwl hg ?_;refine rwl (List.getElem_cons_drop hk) ?_;rw[List.take_append_drop]
    refine rwl (zhH _ (by lia)) ?_;have hG:=zeE (ns.getD k 0) (ns.take k) (ns.drop (k+1));rw[<-hx]at hG;refine rwl hG ?_;generalize (ns.take k++ns.drop (k+1))=l at*;have e:ns.getD k 0*(ns.length:Int)=ns.getD k 0*(l.length:Int)+ns.getD k 0:=by refine rwr hlen ?_;rw[Int.natCast_add,Int.mul_add];simp
    refine rwl e ?_;lia
   refine xea (zqQ q) λk hk hmin=>?_;rw[zod (z:=GL ns)]
   ·rfl
   ·refine List.mem_map.mpr ⟨k,List.mem_range.mpr hk,?_⟩;refine rwl (key k hk) ?_;rw[zsn]
    ·lia
    ·intro y hy;refine hmin y ?_;rcases List.mem_append.mp hy with hy|hy
     ·exact List.mem_of_mem_take hy
     ·exact List.mem_of_mem_drop hy
   ·intro y hy;refine xea (List.mem_map.mp hy) λj hj x0=>?_;subst x0;refine rwl (key j (List.mem_range.mp hj)) ?_;have:=ms_le (ns.getD j 0) (ns.take j++ns.drop (j+1));lia
noncomputable def endsA:Nat->List Bool->Int
 |_,[]=>0
 |o,b::r=>(if b=true then(o:Int)+1 else 0)+endsA (o+1) r
theorem en_0:endsA o []=0:=rfl
theorem en_s:endsA o (b::r)=(if b=true then(o:Int)+1 else 0)+endsA (o+1) r:=rfl
theorem zaO:∀(a b:List Bool) (o:Nat),endsA o (a++b)=endsA o a+endsA (o+a.length) b:=by
 intro l9;induction l9 with
 |nil=>intro b o;simp[en_0]
 |cons x a zaO=>intro b o;simp only[List.cons_append,en_s,List.length_cons];refine rwl (zaO b (o+1)) ?_;lia
theorem znk(fs:List Bool):zhe fs=endsA 0 fs:=by
 have h:∀(n:Nat),n<=fs.length->((List.range n).filterMap λt=>if fs.getD t false=true then some ((t:Int)+1) else none).sum=endsA 0 (fs.take n):=by
  intro n;induction n with
  |zero=>intro _;rfl
  |succ n ih=>
   intro hn;have hg:fs.getD n false=fs[n]:=by rw[List.getD_eq_getElem?_getD,List.getElem?_eq_getElem (by exact hn)];rfl
   refine rwl List.range_succ ?_;refine rwl List.filterMap_append ?_;refine rwl List.sum_append ?_;refine rwl (ih (by exact Nat.le_of_lt hn)) ?_;refine rwl (List.take_succ_eq_append_getElem (by exact hn)) ?_;rw[zaO];refine rwl List.length_take ?_;refine rwl (Nat.min_eq_left (by exact Nat.le_of_lt hn)) ?_;refine rwr hg ?_;generalize q:fs.getD n false=x0;induction x0 using Bool.casesOn with
   |true=>rw[List.filterMap_cons_some (b:=(n:Int)+1) (by rw[if_pos q])];simp[en_0,en_s]
   |false=>rw[List.filterMap_cons_none (by rw[if_neg (by rw[q];decide)])];simp[en_0,en_s]
 unfold zhe;refine rwl (h fs.length (Nat.le_refl _)) ?_;exact rwl List.take_length rfl
noncomputable def tf(n:Nat):List Bool:=(List.range n).map λi=>decide (i+1=n)
theorem zoS(n:Nat):(tf n).length=n:=by unfold tf;rw[List.length_map,List.length_range]
theorem zpC(o n:Nat):endsA o (tf n)=if n=0 then 0 else(o:Int)+n:=by
 induction n using Nat.casesAuxOn with
 |zero=>rfl
 |succ n=>
  unfold tf;refine rwl List.range_succ ?_;refine rwl List.map_append ?_;rw[zaO,List.length_map];refine rwl List.length_range ?_;have h:∀(l:List Nat) (o:Nat),(∀i∈l,i<n)->endsA o (l.map λi=>decide (i+1=n+1))=0:=by
   intro l;induction l with
   |nil=>intro _ _;rfl
   |cons x r ih=>intro o hl;have hx:=hl x (.head _);refine rwl List.map_cons ?_;rw[en_s];refine rwl (ih (o+1) λi hi=>hl i (.tail _ hi)) ?_;refine rwl (decide_eq_false (by lia)) ?_;rfl
  refine rwl (h _ _ λi hi=>List.mem_range.mp hi) ?_;simp only[List.map_cons,List.map_nil,en_0,en_s];lia
noncomputable def G4(n:Nat->Nat):Nat:=n 0+n 1+n 2+n 3+(min (n 0) (n 1)+min (n 0) (n 2)+min (n 0) (n 3)+min (n 1) (n 2)+min (n 1) (n 3)+min (n 2) (n 3))
theorem zso(x:Int){a b:List Int}(h:a.Perm b):ms x a=ms x b:=by
 induction h with
 |nil=>rfl
 |cons y _ ih=>rw[zlb,zlb,ih]
 |swap y z l=>rw[zlb,zlb,zlb,zlb,<-Int.add_assoc,<-Int.add_assoc,Int.add_comm (min x z)]
 |trans _ _ h1 h2=>exact h1.trans h2
theorem zrd{a b:List Int}(h:a.Perm b):GL a=GL b:=by
 induction h with
 |nil=>rfl
 |cons y p ih=>rw[GL_s,GL_s,ih,zso y p]
 |swap y z l=>simp only[GL_s,zlb];refine rwl (Int.min_comm y z) ?_;lia
 |trans _ _ h1 h2=>exact h1.trans h2
noncomputable def c4(n:Nat->Nat):List Int:=[(n 0:Int),(n 1:Int),(n 2:Int),(n 3:Int)]
theorem GL_4(n:Nat->Nat):GL (c4 n)=(G4 n:Int):=by unfold c4 G4;simp only[GL_s,GL_0,zlb,ms_0,(λa b=>by lia:∀a b:Nat,min (a:Int) (b:Int)=((min a b:Nat):Int))];lia
theorem zmu(n:Nat->Nat){o:List Nat}(h:Ord4 n o):zhe (o.flatMap λk=>tf (n k))=(G4 n:Int):=by
 refine seeeeqaaz h λa b c d hp h1 x0=>?_;refine xa x0 λh2 h3=>?_;have hperm:[a,b,c,d].Perm [0,1,2,3]:=by revert hp;generalize [a,b,c,d]=l;intro hp;exact(show ∀l∈[[0,1,2,3],[0,1,3,2],[0,2,1,3],[0,2,3,1],[0,3,1,2],[0,3,2,1],[1,0,2,3],[1,0,3,2],[1,2,0,3],[1,2,3,0],[1,3,0,2],[1,3,2,0],[2,0,1,3],[2,0,3,1],[2,1,0,3],[2,1,3,0],[2,3,0,1],[2,3,1,0],[3,0,1,2],[3,0,2,1],[3,1,0,2],[3,1,2,0],[3,2,0,1],[3,2,1,0]],l.Perm [0,1,2,3] by decide+kernel) l hp
 have hG:GL ([a,b,c,d].map λk=>(n k:Int))=(G4 n:Int):=by exact rwl (zrd (hperm.map _)) (GL_4 n)
 refine rwr hG ?_;have e:∀x y z w:Nat,x<=y->y<=z->z<=w->zhe (tf x++(tf y++(tf z++tf w)))=GL [(x:Int),(y:Int),(z:Int),(w:Int)]:=λx y z w h1 h2 h3=>by
  have e0:∀o n:Nat,(n=0->o=0)->endsA o (tf n)=(o:Int)+n:=λo n h=>by rw[zpC];split<;>lia
  rw[znk,zaO,zaO,zaO,zoS,zoS,zoS];refine rwl (e0 0 x λ_=>rfl) ?_;refine rwl (e0 _ y (by lia)) ?_;refine rwl (e0 _ z (by lia)) ?_;refine rwl (e0 _ w (by lia)) ?_;simp only[GL_s,GL_0,zlb,ms_0,(by lia:min (x:Int) y=x),(by lia:min (x:Int) z=x),(by lia:min (x:Int) w=x),(by lia:min (y:Int) z=y),(by lia:min (y:Int) w=y),(by lia:min (z:Int) w=z)];lia
 have hf:[a,b,c,d].flatMap (λk=>tf (n k))=tf (n a)++(tf (n b)++(tf (n c)++tf (n d))):=by simp only[List.flatMap_cons,List.flatMap_nil,List.append_nil]
 refine rwl hf ?_;exact e _ _ _ _ h1 h2 h3
noncomputable def rF(cs:List Ch):Nat->Nat->List Bool
 |0,_=>[]
 |n+1,j=>(al cs j).map (λk=>decide (cl cs k=j+2))++rF cs n (j+1)
theorem rF_s:rF cs (n+1) j=(al cs j).map (λk=>decide (cl cs k=j+2))++rF cs n (j+1):=rfl
noncomputable def zoP(f:Nat->Int):Nat->Int
 |0=>0
 |n+1=>zoP f n+f n
theorem zoO:zoP f (n+1)=zoP f n+f n:=rfl
theorem zdE{f g:Nat->Int}:∀{n:Nat},(∀k<n,f k=g k)->zoP f n=zoP g n:=by
 intro l9;induction l9 with
 |zero=>exact λ_=>rfl
 |succ n zdE=>exact λh=>by rw[zoO,zoO,zdE λk hk=>h k (by omega),h n (by omega)]
theorem zh6(f g:Nat->Int):∀n:Nat,zoP (λk=>f k+g k) n=zoP f n+zoP g n:=by
 intro l9;induction l9 with
 |zero=>exact rfl
 |succ n zh6=>exact by rw[zoO,zoO,zoO,zh6];lia
theorem zgP(p q:Nat->Bool)(o:Nat):∀m:Nat,endsA o (((List.range m).filter p).map q)=zoP (λk=>if p k=true/\q k=true then(o:Int)+zdT p k+1 else 0) m:=by
 intro l9;induction l9 with
 |zero=>exact rfl
 |succ m zgP=>
  refine rwl List.range_succ ?_;rw[List.filter_append,List.map_append,zaO,zoO,List.length_map];congr 1;generalize hp:p m=x0;induction x0 using Bool.casesOn with
  |true=>
   refine rwl List.filter_cons ?_;refine rwl (if_pos hp) ?_;generalize hq:q m=r0;induction r0 using Bool.casesOn with
   |true=>simp only[List.filter_nil,List.map_cons,List.map_nil,endsA,hq,if_true,and_self];exact rfl
   |false=>simp only[List.filter_nil,List.map_cons,List.map_nil,endsA,hq,Bool.false_eq_true,if_false,and_false];rfl
  |false=>refine rwl List.filter_cons ?_;refine rwl (if_neg (by rw[hp];decide)) ?_;exact rfl
theorem zjA{f g:Nat->Bool}{n:Nat}(h:∀k<n,f k=g k):zdT f n=zdT g n:=zlN h
theorem zeY(cs:List Ch):∀(n j o:Nat),(∀k<cs.length,cl cs k<=n+j+1)->endsA o (rF cs n j)=zoP (λk=>if j+1<cl cs k then(o:Int)+plI cs j k (cl cs k-1)+1 else 0) cs.length:=by
 intro l9;induction l9 with
 |zero=>
  intro j o h;refine rwl (zdE (g:=λ_=>0) λk hk=>by have:=h k hk;rw[if_neg (by lia)]) ?_;have:∀n,zoP (λ_=>0) n=0:=λn=>by induction n with|zero=>rfl|succ n ih=>rw[zoO,ih];rfl
  rw[this];rfl
 |succ n zeY=>
  intro j o h;rw[rF_s,zaO,List.length_map];refine rwl (zeY (j+1) _ λk hk=>by have:=h k hk;lia) ?_;have h1':endsA o ((al cs j).map λk=>decide (cl cs k=j+2))=_:=(zgP (λk=>decide (j+1<cl cs k)) (λk=>decide (cl cs k=j+2)) o cs.length);refine rwl h1' ?_;rw[<-zh6];refine zdE λk hk=>?_;simp only[decide_eq_true_eq];by_cases q:j+1<cl cs k
  ·by_cases z:cl cs k=j+2
   ·refine rwl (if_pos ⟨q,z⟩) ?_;refine rwl (if_neg (by lia)) ?_;refine rwl (if_pos q) ?_;refine rwl z ?_;refine rwl (show j+2-1=j+1 from rfl) ?_;rw[zhT];exact rfl
   ·refine rwl (if_neg λa=>z a.2) ?_;refine rwl (if_pos (by lia)) ?_;refine rwl (if_pos q) ?_;refine rwl (zhS cs (i:=j) (k:=k) (j:=cl cs k-1) (by lia)) ?_;lia
  ·refine rwl (if_neg λa=>q a.1) ?_;refine rwl (if_neg (by lia)) ?_;refine rwl (if_neg q) ?_;rfl
noncomputable def pr(n:Nat->Nat)(i j:Nat):Nat:=if 0<n i/\n i<=n j then 1 else 0
noncomputable def P4(n:Nat->Nat):Nat:=pr n 0 1+pr n 0 2+pr n 0 3+pr n 1 2+pr n 1 3+pr n 2 3
noncomputable def ifz(x A:Nat):Nat:=if 0<x then A else 0
theorem zdf(x A B:Nat):ifz x (A+B)=ifz x A+ifz x B:=by unfold ifz;split<;>rfl
theorem zr0(x A:Nat):(if 0<x then((0:Nat):Int)+(A:Int)+1 else 0)=((ifz x (A+1):Nat):Int):=by
 unfold ifz;split
 ·rw[Int.natCast_zero,Int.zero_add];rfl
 ·rfl
theorem zmk(x y:Nat):ifz x (min y (x-1))+(ifz y (min x (y-1))+ifz y (b01 (decide (y<=x))))+(if 0<x/\x<=y then 1 else 0)=2*min x y:=by unfold ifz;by_cases h1:0<x<;>by_cases h2:0<y<;>by_cases h3:y<=x<;>by_cases h4:x<=y<;>simp only[h1,h2,h3,h4,decide_true,decide_false,b01,if_true,if_false,and_self,and_true,and_false,Bool.false_eq_true]<;>lia
theorem zqe(x:Nat):ifz x (min x (x-1))+ifz x 1=x:=by unfold ifz;split<;>lia
theorem sumQ{f00 f10 f20 f30 f01 f11 f21 f31 f02 f12 f22 f32 f03 f13 f23 f33 v01 v02 v03 v12 v13 v23 o0 o1 o2 o3 p01 p02 p03 p12 p13 p23 g01 g02 g03 g12 g13 g23 a b c d:Nat}
  (q01:f10+(f01+v01)+p01=2*g01) (q02:f20+(f02+v02)+p02=2*g02) (q03:f30+(f03+v03)+p03=2*g03) (q12:f21+(f12+v12)+p12=2*g12) (q13:f31+(f13+v13)+p13=2*g13) (q23:f32+(f23+v23)+p23=2*g23)
  (s0:f00+o0=a) (s1:f11+o1=b) (s2:f22+o2=c) (s3:f33+o3=d):
  (f00+f10+f20+f30+o0)+(f01+f11+f21+f31+v01+o1)+(f02+f12+f22+f32+(v02+v12)+o2)+(f03+f13+f23+f33+(v03+v13+v23)+o3)+(a+b+c+d)+(p01+p02+p03+p12+p13+p23)=2*(a+b+c+d+(g01+g02+g03+g12+g13+g23)):=by
 subst s0 s1 s2 s3
 have h:=congr (congrArg (·+·) (congr (congrArg (·+·) (congr (congrArg (·+·) q01) q02)) (congr (congrArg (·+·) q03) q12))) (congr (congrArg (·+·) q13) q23)
 lia
theorem zoy{cs:List Ch}(hc:Chs cs)(h4:cs.length=4):zhe (rF cs 9 0)=2*(G4 (nn cs):Int)-((nn cs 0+nn cs 1+nn cs 2+nn cs 3:Nat):Int)-(P4 (nn cs):Int):=by
 rw[znk];refine rwl (zeY cs 9 0 0 λk hk=>by have:=hc.at hk;exact this.2) ?_;refine rwl h4 ?_;have hx:∀k,k<4->cl cs k=nn cs k+1:=λk hk=>by have:=hc.at (k:=k) (by lia);unfold nn;lia
 have key:∀k,k<4->(if 0+1<cl cs k then((0:Nat):Int)+((plI cs 0 k (cl cs k-1):Nat):Int)+1 else 0)=((ifz (nn cs k) (min (nn cs 0) (nn cs k-1))+ifz (nn cs k) (min (nn cs 1) (nn cs k-1))+ifz (nn cs k) (min (nn cs 2) (nn cs k-1))+ifz (nn cs k) (min (nn cs 3) (nn cs k-1))+ifz (nn cs k) (zdT (λl=>decide (nn cs k<=nn cs l)) k)+ifz (nn cs k) 1:Nat):Int):=λk hk=>by
  have e1:plI cs 0 k (cl cs k-1)=min (nn cs 0) (nn cs k-1)+min (nn cs 1) (nn cs k-1)+min (nn cs 2) (nn cs k-1)+min (nn cs 3) (nn cs k-1)+zdT (λl=>decide (nn cs k<=nn cs l)) k:=by
   unfold plI;refine rwl h4 ?_;refine rwl (hx k hk) ?_;rw[sumF_succ,sumF_succ,sumF_succ,sumF_succ];refine rwl (hx 0 (by decide)) ?_;refine rwl (hx 1 (by decide)) ?_;refine rwl (hx 2 (by decide)) ?_;refine rwl (hx 3 (by decide)) ?_;have e2:zdT (λl=>decide (nn cs k+1-1<cl cs l)) k=zdT (λl=>decide (nn cs k<=nn cs l)) k:=zjA λl hl=>by refine rwl (hx l (by exact Nat.le_of_lt (Nat.lt_of_le_of_lt hl hk))) ?_;rw[decide_eq_decide];exact Nat.lt_succ_iff
   refine rwl e2 ?_;show 0+_+_+_+_+_=_;rw[Nat.zero_add];rfl
  have e3:(if 0+1<cl cs k then((0:Nat):Int)+((plI cs 0 k (cl cs k-1):Nat):Int)+1 else 0)=(if 0<nn cs k then((0:Nat):Int)+((plI cs 0 k (cl cs k-1):Nat):Int)+1 else 0):=by
   refine rwl (hx k hk) ?_;by_cases q:0<nn cs k
   ·rw[if_pos q,if_pos (Nat.succ_lt_succ q)]
   ·rw[if_neg q,if_neg λz=>q (Nat.lt_of_succ_lt_succ z)]
  refine rwl e3 ?_;rw[zr0,e1,zdf,zdf,zdf,zdf,zdf]
 have z:=sumQ (zmk (nn cs 0) (nn cs 1)) (zmk (nn cs 0) (nn cs 2)) (zmk (nn cs 0) (nn cs 3)) (zmk (nn cs 1) (nn cs 2)) (zmk (nn cs 1) (nn cs 3)) (zmk (nn cs 2) (nn cs 3)) (zqe (nn cs 0)) (zqe (nn cs 1)) (zqe (nn cs 2)) (zqe (nn cs 3));have c1:zdT (λl=>decide (nn cs 1<=nn cs l)) 1=b01 (decide (nn cs 1<=nn cs 0)):=by rw[za1];exact Nat.zero_add _
 have c2:zdT (λl=>decide (nn cs 2<=nn cs l)) 2=b01 (decide (nn cs 2<=nn cs 0))+b01 (decide (nn cs 2<=nn cs 1)):=by rw[za1,za1];exact congrArg (·+_) (Nat.zero_add _)
 have c3:zdT (λl=>decide (nn cs 3<=nn cs l)) 3=b01 (decide (nn cs 3<=nn cs 0))+b01 (decide (nn cs 3<=nn cs 1))+b01 (decide (nn cs 3<=nn cs 2)):=by rw[za1,za1,za1];exact congrArg (·+_+_) (Nat.zero_add _)
 have c0:ifz (nn cs 0) (zdT (λl=>decide (nn cs 0<=nn cs l)) 0)=0:=by unfold ifz;split<;>rfl
 rw[zoO,zoO,zoO,zoO,key 0 (by decide),key 1 (by decide),key 2 (by decide),key 3 (by decide),c0,c1,c2,c3,zdf,zdf,zdf];refine (λA B C D S P g h=>by lia:∀A B C D S P g:Nat,A+B+C+D+S+P=2*g->(0:Int)+(A:Int)+(B:Int)+(C:Int)+(D:Int)=2*(g:Int)-(S:Int)-(P:Int)) _ _ _ _ _ _ _ ?_;exact z
noncomputable def chF(f:F4):Ch:=zdK f.1 f.2.1 f.2.2.1
noncomputable def mdF(f:F4):Nat:=md f.1 f.2.1 f.2.2.1
set_option tactic.hygienic true in
theorem zkf{s:Nat}:∀(n r j:Nat),j<(rsL n s r).length->∃x,(r::rsL n s r)[j]?=some x/\x≠0/\(r::rsL n s r)[j+1]?=some (tn s x):=by
 intro l9;induction l9 with
 |zero=>intro r j h;exact absurd h (Nat.not_lt_zero _)
 |succ n zkf=>
  intro r j h;rw[rs_s]at h ⊢;split at h
  ·exact absurd h (Nat.not_lt_zero _)
  ·rename_i hr;refine rwl (if_neg hr) ?_;induction j using Nat.casesAuxOn with
   |zero=>exact⟨r,rfl,hr,rfl⟩
   |succ j=>rw[List.length_cons]at h;refine zgt (zkf (tn s r) j (by omega)) λx h1 h2 h3=>?_;exact zk2 x h1 h2 h3
theorem zke{s:Nat}:∀(n r:Nat),(rsL n s r).length<n->(r::rsL n s r)[(rsL n s r).length]?=some 0:=by
 intro l9;induction l9 with
 |zero=>intro r h;exact absurd h (Nat.not_lt_zero _)
 |succ n zke=>
  intro r h;rw[rs_s]at h ⊢;by_cases hr:r=0
  ·refine rwl (if_pos hr) ?_;refine rwl hr ?_;rfl
  ·rw[if_neg hr]at h ⊢;exact zke (tn s r) (by exact Nat.le_of_lt_succ h)
noncomputable def zk6(s:Nat):Bool:=(List.range 512).all λr=>Nat.ble (rsL 9 s r).length 9&&Nat.beq ((pc r+s-1)/s) (rsL 9 s r).length
theorem zsh:(zk6 1&&(zk6 2&&zk6 3))=true:=by decide+kernel
theorem zn5{s r:Nat}(h3:s=1\/s=2\/s=3)(hr:r<512):(rsL 9 s r).length<=9/\(pc r+s-1)/s=(rsL 9 s r).length:=by
 have h:zk6 s=true:=by
  have:=zsh;simp only[Bool.and_eq_true]at this;rcases h3 with rfl|rfl|rfl
  ·exact this.1
  ·exact this.2.1
  ·exact this.2.2
 have h:=List.all_eq_true.mp h r (List.mem_range.mpr hr);rw[Bool.and_eq_true]at h;exact⟨Nat.le_of_ble_eq_true h.1,Nat.eq_of_beq_eq_true h.2⟩
theorem zru{s c:Nat}(h3:s=1\/s=2\/s=3): -((-(c:Int)).fdiv (s:Int))=(((c+s-1)/s:Nat):Int):=by refine rwl (Int.fdiv_eq_ediv_of_nonneg _ (by lia)) ?_;rcases h3 with rfl|rfl|rfl<;>lia
theorem zsz{r:Nat}(hr:r<512):0<pc r↔r≠0:=by
 have h:=(zdk (zgF 1) hr).1;have hl:pc r=(hb r).length:=by unfold pc hb;rw[List.length_map]
 refine rwl hl ?_;generalize q:hb r=x0;induction x0 using List.casesOn with
 |nil=>
  rw[q]at h;have:r=0:=by simpa using h.symm
  simp[this]
 |cons x t=>
  rw[q]at h;have:r≠0:=by simpa using h.symm
  simp[this]
section
variable {f:F4}(hf:f.ok)
include hf
theorem zjx:0<(chF f).length/\(chF f).length<=10/\(chF f).length=(rsL 9 (stp f.1) f.2.2.1).length+1:=by have:=(zn5 (zgF f.1) hf.2.2.1).1;refine rwl List.length_cons ?_;rw[List.length_map];lia
theorem chF_at{j:Nat}(hj:j<(chF f).length):∃x,x<512/\(chF f).getD j []=nm f.1 f.2.1 x/\(x≠0↔j+1<(chF f).length)/\(j=0->x=f.2.2.1)/\(j+1<(chF f).length->(chF f).getD (j+1) []=nm f.1 f.2.1 (tn (stp f.1) x)):=by
 refine xaa (zjx hf) λ_ _ hl=>?_;have hc:chF f=(f.2.2.1::rsL 9 (stp f.1) f.2.2.1).map (nm f.1 f.2.1):=rfl;have hlt:∀x∈f.2.2.1::rsL 9 (stp f.1) f.2.2.1,x<512:=λx hx=>by
  rcases List.mem_cons.mp hx with rfl|hx
  ·exact hf.2.2.1
  ·exact zli 9 hf.2.2.1 x hx
 have hget:∀j x,(f.2.2.1::rsL 9 (stp f.1) f.2.2.1)[j]?=some x->(chF f).getD j []=nm f.1 f.2.1 x:=λj x e=>by refine rwl hc ?_;refine rwl List.getD_eq_getElem?_getD ?_;refine rwl List.getElem?_map ?_;refine rwl e ?_;rfl
 by_cases q:j<(rsL 9 (stp f.1) f.2.2.1).length
 ·refine zgt (zkf 9 f.2.2.1 j q) λx h1 h2 h3=>?_;refine zk3 x (hlt x (List.mem_of_getElem? h1)) (hget j x h1) ⟨λ_=>by lia,λ_=>h2⟩ (λh0=>?_) (λ_=>hget _ _ h3);subst h0;exact(Option.some.inj h1).symm
 ·have hj':j=(rsL 9 (stp f.1) f.2.2.1).length:=by lia
  have h1:(f.2.2.1::rsL 9 (stp f.1) f.2.2.1)[(rsL 9 (stp f.1) f.2.2.1).length]?=some 0:=by refine rwl ((zdk (zgF f.1) hf.2.2.1).2.2.1) ?_;exact zke 200 f.2.2.1 (by rw[<-((zdk (zgF f.1) hf.2.2.1).2.2.1)];exact lnA 0 9 1 200 ((zn5 (zgF f.1) hf.2.2.1).1) rfl)
  rw[<-hj']at h1;refine zk3 0 (by decide) (hget j 0 h1) ⟨λh=>absurd rfl h,λh=>by lia⟩ (λh0=>?_) (λh=>by lia);subst h0;exact(Option.some.inj h1).symm
end
theorem zmi{k a r:Nat}(hk:k∈zbd)(ha:a<8)(hr:r<512):(nm k a r).length=10/\∀c∈nm k a r,c∈[45,100,108,115,98,112,114,119,120,83,116,84]:=by
 refine rwl (zog hk ha hr) ?_;refine rwl (zcu ha hr) ?_;refine ia rfl (λc hc=>?_);rcases List.mem_cons.mp hc with rfl|hc
 ·have:∀k∈zbd,zj0.getD k 0∈[45,100,108,115,98,112,114,119,120,83,116,84]:=by decide
  exact this k hk
 ·have row:∀i,c∈zes a r i->c∈[45,100,108,115,98,112,114,119,120,83,116,84]:=by
   intro i hc;unfold zes at hc;have q1:a/rdv i%2<2:=Nat.mod_lt _ (by decide);generalize a/rdv i%2=x at*;have hcc:rch i=rch 2\/rch i=rch 0:=by unfold rch;split<;>simp
   revert hc;intro hc;simp only[List.mem_cons,List.not_mem_nil,or_false]at hc;rcases hc with hc|hc|hc
   ·refine rwl hc ?_;cases zbQ r (3*i)<;>decide
   ·refine rwl hc ?_;cases zbQ r (3*i+1)<;>decide
   ·refine rwl hc ?_;rcases hcc with hcc|hcc<;>rw[hcc]<;>rcases (by lia:x=0\/x=1) with rfl|rfl<;>cases zbQ r (3*i+2)<;>decide
  rcases List.mem_append.mp hc with h|h
  ·exact row 0 h
  ·rcases List.mem_append.mp h with h|h
   ·exact row 1 h
   ·exact row 2 h
theorem zoE:∀c∈[45,100,108,115,98,112,114,119,120,83,116,84],isws c=false/\c≠34/\c≠92/\c<128:=by decide
theorem zhM{k a r:Nat}(hk:k∈zbd)(ha:a<8)(hr:r<512):(∀c∈nm k a r,okC c)/\(nm k a r).all (·<128)=true:=by
 refine ia (λc hc=>?_) ?_
 ·refine zig (zoE c (((zmi hk ha hr).2) c hc)) λa b c _=>?_;exact iaa a b c
 ·rw[List.all_eq_true];exact λc hc=>decide_eq_true (zoE c (((zmi hk ha hr).2) c hc)).2.2.2
structure FOK (fs:List F4):Prop where
 n:fs.length=4
 ok:∀f∈fs,f.ok
noncomputable def csF(fs:List F4):List Ch:=fs.map chF
noncomputable def stF(fs:List F4):List Nat:=fs.map mdF
noncomputable def mnF(fs:List F4)(k:Nat):Nat:=(fs.getD k (0,0,0,0)).2.2.2
section
variable {fs:List F4}(hF:FOK fs)
include hF
theorem zbD:(csF fs).length=4:=by unfold csF;rw[List.length_map,hF.n]
theorem zkO{k:Nat}(hk:k<4):∃f,fs[k]?=some f/\f.ok/\(csF fs).getD k []=chF f/\mnF fs k=f.2.2.2:=by
 have hk':k<fs.length:=by rw[hF.n];exact hk
 refine ieaaa (fs[k]) (List.getElem?_eq_getElem hk') (hF.ok _ (List.getElem_mem hk')) ?_ ?_
 ·refine rwl List.getD_eq_getElem?_getD ?_;refine rwl List.getElem?_map ?_;refine rwl (List.getElem?_eq_getElem hk') ?_;rfl
 ·unfold mnF;refine rwl List.getD_eq_getElem?_getD ?_;refine rwl (List.getElem?_eq_getElem hk') ?_;rfl
theorem zb2:Chs (csF fs):=by refine⟨by rw[zbD hF];decide,λc hc=>?_⟩;refine xea (List.mem_map.mp hc) λf hf x0=>?_;subst x0;have:=zjx (hF.ok f hf);exact ia this.1 this.2.1
theorem zix{k j:Nat}(hk:k<4)(hj:j<cl (csF fs) k):∃f x,fs[k]?=some f/\f.ok/\x<512/\ck (csF fs) k j=nm f.1 f.2.1 x/\(x≠0↔j+1<cl (csF fs) k)/\(j=0->x=f.2.2.1)/\(j+1<cl (csF fs) k->ck (csF fs) k (j+1)=nm f.1 f.2.1 (tn (stp f.1) x)):=by refine zqy (zkO hF hk) λf h1 h2 h3 _=>?_;unfold cl ck at*;rw[h3]at hj ⊢;refine zrb (chF_at h2 hj) λx a b c d e=>?_;exact ziS f x h1 h2 a b c d e
set_option tactic.hygienic true in
theorem zrA:WOK (csF fs) (λk=>if k<4 then mnF fs k else 0):=by
 have h4:=zbD hF;refine⟨λk hk=>?_,λk hk=>?_,λk hk j hj=>?_,λk=>?_⟩
 ·rw[h4]at hk;refine ze8 (zix hF hk ((zb2 hF).at (k:=k) (by omega)).1) λf x _ a b c _=>?_;refine rwl c ?_;exact(zhM a.1 a.2.1 b).1
 ·rw[h4]at hk;refine ze8 (zix hF hk ((zb2 hF).at (k:=k) (by omega)).1) λf x _ a b c _=>?_;refine rwl c ?_;exact(zmi a.1 a.2.1 b).1
 ·rw[h4]at hk;refine ze8 (zix hF hk hj) λf x _ a b c _=>?_;refine rwl c ?_;intro q;have:=(zmi a.1 a.2.1 b).1;rw[q]at this;cases this
 ·split
  ·rename_i hk;refine zqy (zkO hF hk) λf _ a _ e=>?_;exact rwl e a.2.2.2
  ·decide
theorem zhb{k j:Nat}(hk:k<4)(hj:j<cl (csF fs) k):(ck (csF fs) k j).all (·<128)=true:=by refine ze8 (zix hF hk hj) λf x _ a b c _=>?_;exact rwl c ((zhM a.1 a.2.1 b).2)
theorem zkw:zis (zaa (csF fs)):=by intro s hs;refine xea (List.mem_map.mp hs) λk hk x0=>?_;subst x0;have hk':=List.mem_range.mp hk;rw[zbD hF]at hk';exact zhb hF hk' ((zb2 hF).at (k:=k) (by rw[zbD hF];exact hk')).1
theorem zmF:zis (za7 (csF fs)):=by
 have:∀n j,zis (lv (csF fs) n j):=by
  intro n;induction n with
  |zero=>intro j s hs;cases hs
  |succ n ih=>
   intro j s hs;rcases List.mem_append.mp hs with hs|hs
   ·refine xea (List.mem_map.mp hs) λk hk x0=>?_;subst x0;refine xa (zgI.mp hk) λa b=>?_;rw[zbD hF]at a;exact zhb hF a b
   ·exact ih _ s hs
 exact this 9 0
theorem zkk:zis (zaR (csF fs)):=by intro s hs;refine xea (List.mem_flatMap.mp hs) λk hk hs=>?_;rw[zmE]at hs;refine xea (List.mem_map.mp hs) λi hi x0=>?_;subst x0;have:=List.mem_range.mp hi;unfold nn at this;exact zhb hF ((zga (nn (csF fs))).lt.2 k hk) (by omega)
theorem zq5:∀s∈stF fs,Mo s:=by intro s hs;refine xea (List.mem_map.mp hs) λf hf x0=>?_;subst x0;have h:=hF.ok f hf;exact(zhK h.1 h.2.1 h.2.2.1).1
end
noncomputable def shD(L:List Nat):List (List Nat×Sc):=L.map λ(M:Nat)=>(zaC (M:Int),Sc.int (zmJ (zaC (M:Int)):Nat))
theorem afD_at{L:List Nat}(hL:Kn L){M:Nat}(hM:M∈L):(afD L).lookup (zaC (M:Int))=some (.str (zaC (tnM M:Nat))):=
 zgY (λ(M:Nat)=>zaC (M:Int)) (λM=>Sc.str (zaC (tnM M:Nat))) L M (λy hy e=>zcv (hL.md y hy) (hL.md M hM) e) hM
theorem zq2{L:List Nat}(hL:Kn L){M:Nat}(hM:M∈L):(shD L).lookup (zaC (M:Int))=some (.int (zmJ (zaC (M:Int)):Nat)):=
 zgY (λ(M:Nat)=>zaC (M:Int)) (λ(M:Nat)=>Sc.int (zmJ (zaC (M:Int)):Nat)) L M (λy hy e=>zcv (hL.md y hy) (hL.md M hM) e) hM
section
variable {fs:List F4}(hF:FOK fs){L:List Nat}(hL:Kn L)(hS:∀s∈stF fs,s∈L)
include hF hL hS
theorem zdj:∀(j k:Nat),k<4->j<cl (csF fs) k->∃f x,fs[k]?=some f/\f.ok/\x<512/\ck (csF fs) k j=nm f.1 f.2.1 x/\md f.1 f.2.1 x∈L/\(x≠0↔j+1<cl (csF fs) k)/\(j+1<cl (csF fs) k->ck (csF fs) k (j+1)=nm f.1 f.2.1 (tn (stp f.1) x)):=by
 intro l9;induction l9 with
 |zero=>intro k hk hj;refine zo6 λX kX=>?_;refine zcR (zix hF hk hj) λf x a b c d e x0=>?_;refine xa x0 λg i=>?_;refine kX f x a b c d ?_ e i;refine rwl (g rfl) ?_;exact hS _ (List.mem_map.mpr ⟨f,List.mem_of_getElem? a,rfl⟩)
 |succ j zdj=>intro k hk hj;refine zdy λX kX=>?_;refine zcR (zdj k hk (by omega)) λf x a b c d e t0=>?_;refine xa t0 λg i=>?_;refine zcR (zix hF hk hj) λf' x' a' b' c' d' e' b0=>?_;refine xa b0 λ_ i'=>?_;rw[a]at a';have r0:=Option.some.inj a';subst r0;refine kX ?_;refine ziS f x' a b c' d' ?_ e' i';have h1:=hL.cl _ e;rw[zq7 b.1 b.2.1 c]at h1;have h2:=i hj;rw[d']at h2;exact rwl (zcv (zhK b.1 b.2.1 c').1 (zhK b.1 b.2.1 (zkr (stp f.1) c)).1 h2) h1
theorem zry:DOK (afD L) (shD L) (csF fs):=by
 refine⟨λk hk j hj=>?_,λk hk j hj=>?_⟩
 ·rw[(zbD hF)]at hk;refine zcR (zdj hF hL hS j k hk (by omega)) λf x a b c d e x0=>?_;refine xa x0 λg i=>?_;refine rwl (i hj) ?_;refine rwl d ?_;have:=afD_at hL e;rw[zq7 b.1 b.2.1 c]at this;exact this
 ·rw[(zbD hF)]at hk;refine zcR (zdj hF hL hS j k hk hj) λf x a b c d e r0=>?_;refine xa r0 λg i=>?_;have h1:=zq2 hL e;have h2:zmJ (zaC ((md f.1 f.2.1 x:Nat):Int))=pc x:=zqG b.1 b.2.1 c;rw[h2]at h1;exact iea (pc x) (by rw[d];exact h1) ((zsz c).trans g)
theorem zrz:SOK (stF fs) (shD L) (csF fs):=by
 refine⟨by unfold stF;rw[List.length_map,hF.n],λk hk=>?_⟩;refine zdy λX kX=>?_;obtain⟨f,x,a,b,c,d,e,g,i⟩:=zdj hF hL hS 0 k hk ((zb2 hF).at (k:=k) (by rw[zbD hF];exact hk)).1;obtain⟨f',a',_,q3,_⟩:=zkO hF hk;rw[a]at a';have r0:=Option.some.inj a';subst r0;obtain⟨f',x',a',b',c',d',_,g',_⟩:=zix hF hk ((zb2 hF).at (k:=k) (by rw[zbD hF];exact hk)).1;rw[a]at a';have r0:=Option.some.inj a';subst r0;have hxx:x=x':=by rw[d]at d';have:=zcv (zhK b.1 b.2.1 c).1 (zhK b.1 b.2.1 c').1 d';have h1:=(zhK b.1 b.2.1 c).2.2.2;have h2:=(zhK b.1 b.2.1 c').2.2.2;lia
 refine kX ?_;have hx:x=f.2.2.1:=by rw[hxx];exact g' rfl
 subst hx;have h1:=zq2 hL e;have h2:zmJ (zaC ((md f.1 f.2.1 f.2.2.1:Nat):Int))=pc f.2.2.1:=zqG b.1 b.2.1 c;rw[h2]at h1;have h3:=zgF f.1;refine znL (pc f.2.2.1) (stp f.1) (mdF f) ?_ (zln b.1 b.2.1 c) (by lia) (by lia) (by rw[d];exact h1) ?_
 ·refine rwl List.getElem?_map ?_;refine rwl a ?_;rfl
 ·refine rwl (zru h3) ?_;refine rwl ((zn5 h3 c).2) ?_;unfold nn cl;refine rwl q3 ?_;refine rwl ((zjx b).2.2) ?_;rfl
end
noncomputable def zgA(cs:List Ch):List Nat:=(cs.map λc=>c.length-1).filter λn=>decide (0<n)
noncomputable def zep(ns:List Nat):Nat:=zfm (λk=>zdT (λj=>decide (ns.getD j 0<=ns.getD k 0)) k) ns.length
theorem zqT{cs:List Ch}(h4:cs.length=4):zgA cs=[nn cs 0,nn cs 1,nn cs 2,nn cs 3].filter λn=>decide (0<n):=by unfold zgA;rw[zdi cs];refine rwl h4 ?_;rfl
noncomputable def cZ(l:List Nat):List Int:=l.map λ(n:Nat)=>(n:Int)
noncomputable def fP(l:List Nat):List Nat:=l.filter λn=>decide (0<n)
theorem zhk(x:Nat)(l:List Nat):fP (x::l)=if 0<x then x::fP l else fP l:=by
 unfold fP;refine rwl List.filter_cons ?_;by_cases h:0<x
 ·rw[if_pos (decide_eq_true h),if_pos h]
 ·rw[if_neg (by rw[decide_eq_true_eq];exact h),if_neg h]
theorem zj4:∀l:List Nat,ms 0 (cZ l)=0:=by
 intro l9;induction l9 with
 |nil=>exact rfl
 |cons y r zj4=>skip;show min 0 (y:Int)+ms 0 (cZ r)=0;rw[zj4,Int.min_eq_left (Int.natCast_nonneg y)];rfl
set_option tactic.hygienic true in
theorem zp3(x:Nat):∀l:List Nat,ms (x:Int) (cZ (fP l))=ms (x:Int) (cZ l):=by
 intro l9;induction l9 with
 |nil=>exact rfl
 |cons y r zp3=>
  rw[zhk];split
  ·show min (x:Int) y+ms (x:Int) (cZ (fP r))=min (x:Int) y+ms (x:Int) (cZ r);exact rwl zp3 rfl
  ·rename_i h;have:y=0:=Nat.eq_zero_of_not_pos h;subst this;show _=min (x:Int) 0+ms (x:Int) (cZ r);refine rwl zp3 ?_;refine rwl (Int.min_eq_right (Int.natCast_nonneg x)) ?_;rw[Int.zero_add]
set_option tactic.hygienic true in
theorem zph:∀l:List Nat,GL (cZ (fP l))=GL (cZ l):=by
 intro l9;induction l9 with
 |nil=>exact rfl
 |cons x r zph=>
  rw[zhk];split
  ·show (x:Int)+ms (x:Int) (cZ (fP r))+GL (cZ (fP r))=(x:Int)+ms (x:Int) (cZ r)+GL (cZ r);rw[zp3,zph]
  ·rename_i h;have:x=0:=Nat.eq_zero_of_not_pos h;subst this;show _=(0:Int)+ms 0 (cZ r)+GL (cZ r);refine rwl zph ?_;rw[zj4];exact(Int.zero_add _).symm
noncomputable def PL:List Nat->Nat
 |[]=>0
 |x::r=>(if 0<x then(r.filter λy=>decide (x<=y)).length else 0)+PL r
theorem PL_0:PL []=0:=rfl
theorem PL_s:PL (x::r)=(if 0<x then(r.filter λy=>decide (x<=y)).length else 0)+PL r:=rfl
theorem zdD(f:Nat->Nat):∀n,zfm f (n+1)=f 0+zfm (λk=>f (k+1)) n:=by
 intro l9;induction l9 with
 |zero=>exact rfl
 |succ n zdD=>exact by rw[sumF_succ,zdD,sumF_succ,Nat.add_assoc]
theorem zeH(p:Nat->Bool):∀n,zdT p (n+1)=b01 (p 0)+zdT (λk=>p (k+1)) n:=by
 intro l9;induction l9 with
 |zero=>exact by rw[za1];exact Nat.add_comm _ _
 |succ n zeH=>exact by rw[za1,zeH,za1,Nat.add_assoc]
theorem zgl(f g:Nat->Nat):∀n,zfm (λk=>f k+g k) n=zfm f n+zfm g n:=by
 intro l9;induction l9 with
 |zero=>exact rfl
 |succ n zgl=>exact by rw[sumF_succ,sumF_succ,sumF_succ,zgl];lia
theorem zhc(x:Nat):∀r:List Nat,zfm (λk=>b01 (decide (x<=r.getD k 0))) r.length=(r.filter λy=>decide (x<=y)).length:=by
 intro l9;induction l9 with
 |nil=>exact rfl
 |cons y r zhc=>
  refine rwl List.length_cons ?_;rw[zdD];refine rwl List.filter_cons ?_;show b01 (decide (x<=y))+zfm (λk=>b01 (decide (x<=r.getD k 0))) r.length=_;refine rwl zhc ?_;generalize decide (x<=y)=x0;induction x0 using Bool.casesOn with
  |true=>rw[if_pos rfl,List.length_cons];exact Nat.add_comm _ _
  |false=>rw[if_neg (by decide)];exact Nat.zero_add _
theorem zj8(x:Nat)(r:List Nat):zep (x::r)=(r.filter λy=>decide (x<=y)).length+zep r:=by unfold zep;refine rwl List.length_cons ?_;rw[zdD];have e:∀k,zdT (λj=>decide ((x::r).getD j 0<=(x::r).getD (k+1) 0)) (k+1)=b01 (decide (x<=r.getD k 0))+zdT (λj=>decide (r.getD j 0<=r.getD k 0)) k:=λk=>zeH _ k;have e0:zdT (λj=>decide ((x::r).getD j 0<=(x::r).getD 0 0)) 0=0:=rfl;refine rwl e0 ?_;rw[Nat.zero_add,ze5 λk _=>e k,zgl,zhc]
set_option tactic.hygienic true in
theorem zfQ(x:Nat)(hx:0<x):∀r:List Nat,((fP r).filter λy=>decide (x<=y)).length=(r.filter λy=>decide (x<=y)).length:=by
 intro l9;induction l9 with
 |nil=>exact rfl
 |cons y r zfQ=>
  rw[zhk];split
  ·refine rwl List.filter_cons ?_;refine rwl List.filter_cons ?_;generalize decide (x<=y)=x0;induction x0 using Bool.casesOn with
   |true=>rw[if_pos rfl,if_pos rfl,List.length_cons,List.length_cons,zfQ]
   |false=>rw[if_neg (by decide),if_neg (by decide),zfQ]
  ·refine rwl zfQ ?_;refine rwl List.filter_cons ?_;exact rwl (if_neg (by rw[decide_eq_true_eq];lia)) rfl
set_option tactic.hygienic true in
theorem zfw:∀l:List Nat,zep (fP l)=PL l:=by
 intro l9;induction l9 with
 |nil=>exact rfl
 |cons x r zfw=>
  rw[zhk,PL_s];split
  ·rename_i h;rw[zj8,zfw,zfQ x h]
  ·rw[zfw,Nat.zero_add]
theorem zka(x:Nat):∀r:List Nat,(if 0<x then(r.filter λy=>decide (x<=y)).length else 0)=(r.map λy=>if 0<x/\x<=y then 1 else 0).sum:=by
 intro l9;induction l9 with
 |nil=>split<;>rfl
 |cons y r zka=>
  refine rwl List.map_cons ?_;refine rwl List.sum_cons ?_;refine rwr zka ?_;refine rwl List.filter_cons ?_;by_cases h:0<x
  ·refine rwl (if_pos h) ?_;refine rwl (if_pos h) ?_;by_cases q:x<=y
   ·refine rwl (if_pos (decide_eq_true q)) ?_;refine rwl (if_pos ⟨h,q⟩) ?_;exact Nat.add_comm _ _
   ·refine rwl (if_neg (by rw[decide_eq_true_eq];exact q)) ?_;refine rwl (if_neg λz=>q z.2) ?_;rw[Nat.zero_add]
  ·refine rwl (if_neg h) ?_;refine rwl (if_neg h) ?_;exact rwl (if_neg λz=>h z.1) rfl
theorem zqU(n:Nat->Nat):GL (cZ ([n 0,n 1,n 2,n 3].filter λn=>decide (0<n)))=(G4 n:Int)/\zep ([n 0,n 1,n 2,n 3].filter λn=>decide (0<n))=P4 n:=by refine⟨(zph [n 0,n 1,n 2,n 3]).trans (GL_4 n),(zfw [n 0,n 1,n 2,n 3]).trans ?_⟩;simp only[PL_s,PL_0,zka,List.map_cons,List.map_nil,List.sum_cons,List.sum_nil];unfold P4 pr;lia
noncomputable def obD(D:List (List Nat×Sc)):Ob:=match D with|[]=>.dI []|p::r=>.dS (p::r)
noncomputable def shE:E:=(.comp [15] (.slc (.v 6) (.c (.int 1)) (.c .none)) (.cmp .In (.v 15) (.tup (.cons (.c (.str [114])) (.cons (.c (.str [119])) (.cons (.c (.str [120])) (.cons (.c (.str [115])) (.cons (.c (.str [116])) .nil))))))) (.v 15))
noncomputable def shB:S:=(.seq (.setI (.v 5) (.v 6) (.len shE)) .skip)
theorem zsR(Φ:PA){s:List Nat}{h:H}(ha:s.all (·<128)=true)(hl:s.length<=100){x0 x1 x2 x3 x4 x5 x7 x8 x9 x10 x11 x12 x13 x14:V}:
  eE Φ (x0::x1::x2::x3::x4::x5::.str s::x7::x8::x9::x10::x11::x12::x13::x14::R6) (.len shE) h=some (.int (zmJ s:Nat),h):=by
 have hz:1000<=zad:=by decide
 have sl:eE Φ (x0::x1::x2::x3::x4::x5::.str s::x7::x8::x9::x10::x11::x12::x13::x14::R6) (.slc (.v 6) (.c (.int 1)) (.c .none)) h=some (.str (s.drop 1),h):=by
  have hs:zeu (.str s) (.int 1) .none=some (.str (s.drop 1)):=by have:=zfK s 1;refine rwl (sl_s rfl rfl (by omega)) ?_;exact congrArg (λl=>some (V.str l)) this
  nomatch hs
 have hall:(s.drop 1).all (·<128)=true:=by rw[List.all_eq_true]at ha ⊢;exact λx hx=>ha x (List.mem_of_mem_drop hx)
 have hit:zak [15] (.str (s.drop 1))=some ((s.drop 1).map λc=>.str [c]):=by unfold zak;simp only[zaN];refine rwl (if_pos hall) ?_;rw[Option.bind_some,if_pos ⟨by rw[List.length_map,List.length_drop];omega,.inl rfl⟩]
 have e:=zfM Φ (tA:=[15]) (it:=.slc (.v 6) (.c (.int 1)) (.c .none)) (cond:=.cmp .In (.v 15) (.tup (.cons (.c (.str [114])) (.cons (.c (.str [119])) (.cons (.c (.str [120])) (.cons (.c (.str [115])) (.cons (.c (.str [116])) .nil))))))) (elt:=.v 15)
  (vs:=x0::x1::x2::x3::x4::x5::.str s::x7::x8::x9::x10::x11::x12::x13::x14::R6) (h:=h) (xs:=s.drop 1) (λc=>V.str [c]) (λc=>if [114,119,120,115,116].contains c=true then some (V.str [c]) else none) sl hit λc _=>by
   refine zeB λX kX=>?_;have hin:zbl .In h (.str [c]) (.tup [.str [114],.str [119],.str [120],.str [115],.str [116]])=some ([114,119,120,115,116].contains c):=by show some _=some _;congr 1;rw[Bool.eq_iff_iff,List.contains_iff_mem,List.contains_iff_mem];simp
   refine kX (x0::x1::x2::x3::x4::x5::.str s::x7::x8::x9::x10::x11::x12::x13::x14::.str [c]::List.replicate 5 .uA) (.bool ([114,119,120,115,116].contains c)) ([114,119,120,115,116].contains c) rfl ?_ rfl (λq=>⟨.str [c],rfl,rfl,by rw[if_pos q]⟩) (λq=>by rw[if_neg (by rw[q];decide)]);nomatch hin
 have hcnt:((s.drop 1).filterMap λc=>if [114,119,120,115,116].contains c=true then some (V.str [c]) else none).length=zmJ s:=by
  unfold zmJ;generalize s.drop 1=l;induction l with
  |nil=>rfl
  |cons c r ih=>
   generalize q:[114,119,120,115,116].contains c=r0;induction r0 using Bool.casesOn with
   |true=>rw[List.filterMap_cons_some (b:=V.str [c]) (by rw[if_pos q]),List.filter_cons,if_pos q,List.length_cons,List.length_cons,ih]
   |false=>rw[List.filterMap_cons_none (by rw[if_neg (by rw[q];decide)]),List.filter_cons,if_neg (by rw[q];decide),ih]
 have hln:=zax h (vs:=(s.drop 1).filterMap λc=>if [114,119,120,115,116].contains c=true then some (V.str [c]) else none) (by have h1:=List.length_filterMap_le (λc=>if [114,119,120,115,116].contains c=true then some (V.str [c]) else none) (s.drop 1);rw[List.length_drop]at h1;omega)
 rw[hcnt]at hln
 refine rwl zaV ?_;refine rwl e ?_
 simp only[OA,OB,hln,OC]
theorem shSet{D:List (List Nat×Sc)}{k:List Nat}{c:Nat}(hn:∀p∈D,p.1≠k)(hz:D.length<=1000):setItem [.tab,obD D] (.obj 1) (.str k) (.int (c:Nat))=some [.tab,obD (D++[(k,.int (c:Nat))])]:=by
 induction D using List.casesOn with
 |nil=>rfl
 |cons p r=>have e:setItem [.tab,.dS (p::r)] (.obj 1) (.str k) (.int (c:Nat))=if(p::r).length<=zad then some [.tab,.dS (zeD k (.int (c:Nat)) (p::r))] else none:=rfl;refine rwl e ?_;refine rwl (if_pos (by exact Nat.le_trans hz (by decide:1000<=zad))) ?_;refine rwl (zdz k _ (p::r) hn) ?_;rfl
theorem zkj(Φ:PA){L:List Nat}(hL:Kn L)(hz:L.length<=100){x0 x1 x2 x3 x4 x7 x8 x9 x10 x11 x12 x13 x14:V}:∀(T D:List Nat) (x6:V),D++T=L->∃y6,
  zbZ (eF Φ shB) [6] (T.map λ(M:Nat)=>.str (zaC (M:Int))) (x0::x1::x2::x3::x4::.obj 1::x6::x7::x8::x9::x10::x11::x12::x13::x14::R6,[.tab,obD (shD D)])=
   some (none,x0::x1::x2::x3::x4::.obj 1::y6::x7::x8::x9::x10::x11::x12::x13::x14::R6,[.tab,obD (shD L)]):=by
 intro l9;induction l9 with
 |nil=>intro D x6 e;rw[List.append_nil]at e;subst e;exact⟨x6,rfl⟩
 |cons M T zkj=>
  intro D x6 e;have hM:M∈L:=by rw[<-e];simp
  have hMo:=hL.md M hM;have hnm:zaC (M:Int)=nm (M/4096) (M/512%8) (M%512):=by unfold nm;exact rwr hMo.split.1 rfl
  have hok:=zmi hMo hMo.split.2.1 hMo.split.2.2;have hsg:=zhM hMo hMo.split.2.1 hMo.split.2.2;rw[<-hnm]at hok hsg;have hlen:D.length<=100:=by rw[<-e]at hz;rw[List.length_append]at hz;exact Nat.le_trans (Nat.le_add_right _ _) hz
  have hset:=shSet (D:=shD D) (k:=zaC (M:Int)) (c:=zmJ (zaC (M:Int))) (by
   rintro p hp e2;refine xea (List.mem_map.mp hp) λN hN r0=>?_;subst r0;have hNL:N∈L:=by rw[<-e];exact List.mem_append_left _ hN
   have h1:=zcv (hL.md N hNL) hMo e2;subst h1;have:=hL.nd;rw[<-e,List.nodup_append]at this;exact this.2.2 N hN N (.head _) rfl) (by unfold shD;rw[List.length_map];exact Nat.le_trans hlen (by decide))
  have hsn:shD D++[(zaC (M:Int),Sc.int (zmJ (zaC (M:Int)):Nat))]=shD (D++[M]):=by unfold shD;refine rwl List.map_append ?_;rfl
  rw[hsn]at hset;have es:=zsR Φ (h:=[.tab,obD (shD D)]) (x0:=x0) (x1:=x1) (x2:=x2) (x3:=x3) (x4:=x4) (x5:=.obj 1) (x7:=x7) (x8:=x8) (x9:=x9) (x10:=x10) (x11:=x11) (x12:=x12) (x13:=x13) (x14:=x14) hsg.2 (by lia);obtain⟨y6,ih⟩:=zkj (D++[M]) (.str (zaC (M:Int))) (by rw[List.append_assoc];exact e);refine⟨y6,?_⟩;have hb:eF Φ shB ((x0::x1::x2::x3::x4::.obj 1::x6::x7::x8::x9::x10::x11::x12::x13::x14::R6:Vs).set 6 (.str (zaC (M:Int))),[.tab,obD (shD D)])=
    some (.next,x0::x1::x2::x3::x4::.obj 1::.str (zaC (M:Int))::x7::x8::x9::x10::x11::x12::x13::x14::R6,[.tab,obD (shD (D++[M]))]):=by
   show eF Φ shB (x0::x1::x2::x3::x4::.obj 1::.str (zaC (M:Int))::x7::x8::x9::x10::x11::x12::x13::x14::R6,[.tab,obD (shD D)])=_
   rw[shB,zbv];refine rwl zbR ?_;refine rwl es ?_
   simp only[zaF,GA,GB,OA,OB,OC,hset]
  rw[List.map_cons,zeU hb,ih]
theorem zcK{α:Type}{step:V->List V×H->Option (List V×H)}{h:H}(ι:α->V)(g:α->List V)(b B:Nat):∀(xs:List α) (acc:List V),(∀x∈xs,(g x).length<=b)->
  (∀x∈xs,∀acc:List V,acc.length<=B->step (ι x) (acc,h)=some (acc++g x,h))->acc.length+b*xs.length<=B->zaB step (xs.map ι) (acc,h)=some (acc++xs.flatMap g,h):=by
 intro l9;induction l9 with
 |nil=>intro acc _ _ _;rw[List.flatMap_nil,List.append_nil];rfl
 |cons x xs zcK=>intro acc hg hs hz;rw[List.length_cons,Nat.mul_add,Nat.mul_one]at hz;have h1:=hg x (.head _);refine rwl List.map_cons ?_;rw[fe_s,hs x (.head _) acc (by exact Nat.le_trans (Nat.le_add_right _ _) hz),Option.bind_some,zcK (acc++g x) (λy hy=>hg y (.tail _ hy)) (λy hy=>hs y (.tail _ hy)) (by rw[List.length_append];lia),List.flatMap_cons,List.append_assoc]
theorem zec(p:Nat->Bool)(z:V):∀l:List Nat,(l.flatMap λj=>if p j=true then [z] else []).length=(l.filter p).length:=by
 intro l9;induction l9 with
 |nil=>exact rfl
 |cons j r zec=>
  refine rwl List.flatMap_cons ?_;refine rwl List.length_append ?_;refine rwl zec ?_;refine rwl List.filter_cons ?_;split
  ·simp only[List.length_cons,List.length_nil];lia
  ·simp only[List.length_nil];lia
theorem zrF(Φ:PA){x y:Nat}{it it2 cond elt:E}{vs:Vs}{h:H}{v:V}{n:Nat}(hn:n<=4)(v2:Nat->V)(p:Nat->Nat->Bool)(e:eE Φ vs it h=some (v,h))(hz:zak [x] v=some ((List.range n).map λk=>.int (k:Nat)))
  (h2:∀k,k<n->eE Φ ((vs.set x (.int (k:Nat))).set y .uA) it2 h=some (v2 k,h)/\zak [y] (v2 k)=some ((List.range k).map λj=>.int (j:Nat)))
  (h3:∀k,k<n->∀j,j<k->eE Φ ((vs.set x (.int (k:Nat))).set y (.int (j:Nat))) cond h=some (.bool (p k j),h)/\eE Φ ((vs.set x (.int (k:Nat))).set y (.int (j:Nat))) elt h=some (.int (k:Nat),h)):
  eE Φ vs (.comp2 x it y it2 cond elt) h=some (.lA ((List.range n).flatMap λk=>(List.range k).flatMap λj=>if p k j=true then [V.int (k:Nat)] else []),h):=by
 refine rwl zbI ?_;refine rwl e ?_
 simp only[OA,OB,hz]
 rw[zcK (h:=h) (λk:Nat=>V.int (k:Nat)) (λk=>(List.range k).flatMap λj=>if p k j=true then [V.int (k:Nat)] else []) 4 900 (List.range n) []]
 ·rfl
 ·intro k hk;rw[zec (p k) (.int (k:Nat))];have:=List.length_filter_le (p k) (List.range k);rw[List.length_range]at this;exact lnB 0 0 1 4 0 4 this (lnB 1 0 0 4 1 4 (List.mem_range.mp hk) hn rfl) rfl
 ·intro k hk acc hacc;have hk:=List.mem_range.mp hk;refine xa (h2 k hk) λq1 q2=>?_;simp only[q1,OB,q2];refine zcK (h:=h) (λj:Nat=>V.int (j:Nat)) (λj=>if p k j=true then [V.int (k:Nat)] else []) 1 1000 (List.range k) acc (λj _=>by split<;>simp) ?_ (by rw[List.length_range];lia);intro j hj acc hacc;refine xa (h3 k hk j (List.mem_range.mp hj)) λt1 t2=>?_;simp only[t1,OB,zaL];generalize p k j=x0;induction x0 using Bool.casesOn with
  |true=>simp only[if_true,t2,OB,flat];refine rwl (if_pos ⟨trivial,by exact Nat.le_trans hacc (by decide:1000<=zad)⟩) ?_;rfl
  |false=>simp
 ·simp only[List.length_nil,List.length_range];lia
noncomputable def prE:E:=(.comp2 15 (.rg (.cons (.len (.v 12)) .nil)) 16 (.rg (.cons (.v 15) .nil)) (.cmp .LtE (.idx (.v 12) (.v 16)) (.idx (.v 12) (.v 15))) (.v 15))
theorem zsD(Φ:PA){ns:List Nat}{h:H}(hl:ns.length<=4){x0 x1 x2 x3 x4 x5 x6 x7 x8 x9 x10 x11 x13 x14:V}:∃l:List V,l.length=zep ns/\l.length<=100/\
  eE Φ (x0::x1::x2::x3::x4::x5::x6::x7::x8::x9::x10::x11::.lA (ns.map λ(n:Nat)=>.int (n:Int))::x13::x14::R6) prE h=some (.lA l,h):=by
 have hz:1000<=zad:=by decide
 have hln:∀H,zdh H (.lA (ns.map λ(n:Nat)=>V.int (n:Int)))=some (ns.length:Int):=λH=>by have:=zax H (vs:=ns.map λ(n:Nat)=>V.int (n:Int)) (by rw[List.length_map];exact lnB 0 4 1000 0 0 0 hl hz rfl);rw[List.length_map]at this;exact this
 have e1:eE Φ (x0::x1::x2::x3::x4::x5::x6::x7::x8::x9::x10::x11::.lA (ns.map λ(n:Nat)=>.int (n:Int))::x13::x14::R6) (.rg (.cons (.len (.v 12)) .nil)) h=some (.rng 0 (ns.length:Nat) 1,h):=by nomatch hln
 have e:=zrF Φ (x:=15) (y:=16) (it:=.rg (.cons (.len (.v 12)) .nil)) (it2:=.rg (.cons (.v 15) .nil)) (cond:=.cmp .LtE (.idx (.v 12) (.v 16)) (.idx (.v 12) (.v 15))) (elt:=.v 15)
  (vs:=x0::x1::x2::x3::x4::x5::x6::x7::x8::x9::x10::x11::.lA (ns.map λ(n:Nat)=>.int (n:Int))::x13::x14::R6) (h:=h) hl (λk=>.rng 0 (k:Nat) 1) (λk j=>decide (ns.getD j 0<=ns.getD k 0)) e1 (zaK 15 (by exact Nat.le_trans hl (by decide)))
  (λk hk=>⟨by show eE Φ (x0::x1::x2::x3::x4::x5::x6::x7::x8::x9::x10::x11::.lA (ns.map λ(n:Nat)=>.int (n:Int))::x13::x14::.int (k:Nat)::.uA::List.replicate 4 .uA) (.rg (.cons (.v 15) .nil)) h=_;simp only[zaF,zcI,zap,zag,zaH,zjk,GA,GB,OA,OB,OC],zaK 16 (by exact lnB 1 0 0 4 0 1000 hk hl rfl)⟩)
  (λk hk j hj=>by
   have hgk:ns[k]?=some (ns.getD k 0):=by rw[List.getD_eq_getElem?_getD,List.getElem?_eq_getElem hk];rfl
   have hgj:ns[j]?=some (ns.getD j 0):=by rw[List.getD_eq_getElem?_getD,List.getElem?_eq_getElem (by exact Nat.le_of_lt (Nat.lt_of_le_of_lt hj hk))];rfl
   have i1:=zbh h (vs:=ns.map λ(n:Nat)=>V.int (n:Int)) (rfl:((k:Nat):Int)=_) (v:=.int (ns.getD k 0:Nat)) (by rw[List.getElem?_map,hgk];rfl) (by rw[List.length_map];exact lnB 0 4 1000 0 0 0 hl hz rfl);have i2:=zbh h (vs:=ns.map λ(n:Nat)=>V.int (n:Int)) (rfl:((j:Nat):Int)=_) (v:=.int (ns.getD j 0:Nat)) (by rw[List.getElem?_map,hgj];rfl) (by rw[List.length_map];exact lnB 0 4 1000 0 0 0 hl hz rfl);have hd:decide (((ns.getD j 0:Nat):Int)<=((ns.getD k 0:Nat):Int))=decide (ns.getD j 0<=ns.getD k 0):=by rw[decide_eq_decide];lia
   have hvs:(((x0::x1::x2::x3::x4::x5::x6::x7::x8::x9::x10::x11::.lA (ns.map λ(n:Nat)=>.int (n:Int))::x13::x14::R6:Vs).set 15 (.int (k:Nat))).set 16 (.int (j:Nat)))=x0::x1::x2::x3::x4::x5::x6::x7::x8::x9::x10::x11::.lA (ns.map λ(n:Nat)=>.int (n:Int))::x13::x14::.int (k:Nat)::.int (j:Nat)::List.replicate 4 .uA:=rfl;refine rwl hvs ?_;exact⟨by simp only[zaF,zaI,zar,GA,GB,OA,OB,OC,i1,i2,c_le,hd],by simp only[zaF,GA,GB]⟩)
 refine zk2 _ ?_ ?_ e
 ·refine rwl List.length_flatMap ?_;congr 1;refine List.map_congr_left λk _=>?_;rw[zec (λj=>decide (ns.getD j 0<=ns.getD k 0)) (.int (k:Nat))];rfl
 ·have h2:∀n,n<=4->((List.range n).flatMap λk=>(List.range k).flatMap λj=>if decide (ns.getD j 0<=ns.getD k 0)=true then [V.int (k:Nat)] else []).length<=4*n:=by
   intro n;induction n with
   |zero=>intro _;exact Nat.le_refl _
   |succ n ih=>intro hn;refine rwl List.range_succ ?_;refine rwl List.flatMap_append ?_;refine rwl List.length_append ?_;refine rwl List.flatMap_cons ?_;refine rwl List.flatMap_nil ?_;rw[List.append_nil];have:=ih (by exact Nat.le_of_lt hn);rw[zec (λj=>decide (ns.getD j 0<=ns.getD n 0)) (.int (n:Nat))];have:=List.length_filter_le (λj=>decide (ns.getD j 0<=ns.getD n 0)) (List.range n);rw[List.length_range]at this;lia
  have:=h2 ns.length hl;lia
noncomputable def mnO(fs:List F4)(k:Nat):Nat:=if k<4 then mnF fs k else 0
structure PhiH (Φ:PA) (fs:List F4) (L:List Nat):Prop where
 ch:∀f∈fs,Φ 12 [.int (f.1:Nat),.int (f.2.1:Nat),.int (f.2.2.1:Nat)] [.tab]=some (.lA ((chF f).map .str),[.tab])
 kn:Φ 16 [.lA ((stF fs).map λi=>.int (i:Nat))] [.tab]=some (.tup [.dI (nmD L),.dS (afD L)],[.tab])
 wr:∀(wB:List Nat) (mn:Nat),mn<3->wB.all (·<128)=true->wB.length<=100->Φ 13 [.str wB,.int (mn:Nat)] [.tab,.gone]=some (.str (wrM wB mn),[.tab,.gone])
 tr:Φ 20 [.lA (chV (csF fs))] [.tab,.gone]=some (zaf (za7 (csF fs)),[.tab,.gone])
 ri:Φ 17 [zaf (zab (csF fs) (mnO fs)),.dS (afD L),.dS (shD L)] [.tab,.gone]=some (.tup [zaf (zaa (csF fs)),zaf (za7 (csF fs))],[.tabg,.gone])
 ha:Φ 18 [zaf (zaa (csF fs)),.dS (afD L),.dS (shD L)] [.tabg,.gone]=some (zaf (za7 (csF fs)),[.tabg,.gone])
 so:Φ 19 [zaf (zaa (csF fs)),.lA ((stF fs).map λi=>.int (i:Nat)),.dS (afD L),.dS (shD L)] [.tabg,.gone]=some (zaf (zaR (csF fs)),[.tabg,.gone])
 ts:Φ 21 [.lA (chV (csF fs))] [.tabg,.gone]=some (zaf (zaR (csF fs)),[.tabg,.gone])
 le:Φ 22 [.lA ((zgA (csF fs)).map λ(n:Nat)=>.int (n:Int))] [.tabg,.gone]=some (.int (G4 (nn (csF fs)):Nat),[.tabg,.gone])
 e1:Φ 23 [zaf (zaR (csF fs)),.dS (shD L)] [.tabg,.gone]=some (.int (G4 (nn (csF fs)):Nat),[.tabg,.gone])
 e2:∃e:Int,Φ 23 [zaf (za7 (csF fs)),.dS (shD L)] [.tabg,.gone]=some (.int e,[.tabg,.gone])/\e=2*(G4 (nn (csF fs)):Int)-((za7 (csF fs)).length:Int)-(zep (zgA (csF fs)):Int)
 g:G4 (nn (csF fs))<=1000
noncomputable def zhu:E:=(.comp [15,16,17,18] (.v 0) (.c (.bool true)) (.call 12 (.cons (.v 15) (.cons (.v 16) (.cons (.v 17) .nil)))))
noncomputable def zjR:E:=(.comp [15,16,17,18] (.v 0) (.c (.bool true)) (.bin .Add (.bin .Add (.bin .Mult (.v 15) (.c (.int 4096))) (.bin .Mult (.v 16) (.c (.int 512)))) (.v 17)))
noncomputable def zhv:E:=(.comp [15] (.rg (.cons (.len (.v 0)) .nil)) (.c (.bool true)) (.call 13 (.cons (.idx (.v 3) (.idx (.v 2) (.v 15))) (.cons (.idx (.idx (.v 0) (.v 15)) (.c (.int 3))) .nil))))
noncomputable def zjT:E:=(.comp [15] (.v 1) (.c (.bool true)) (.idx (.v 15) (.c (.int 0))))
noncomputable def zjP:E:=(.comp [15] (.v 1) (.cmp .Gt (.len (.v 15)) (.c (.int 1))) (.bin .Sub (.len (.v 15)) (.c (.int 1))))
noncomputable def zk1:E:=(.and (.cmp .Eq (.v 14) (.call 22 (.cons (.v 12) .nil))) (.cmp .Eq (.call 23 (.cons (.idx (.v 10) (.c (.int 1))) (.cons (.v 5) .nil))) (.bin .Sub (.bin .Sub (.bin .Mult (.c (.int 2)) (.v 14)) (.len (.v 9))) (.len (.v 13)))))
section
variable {Φ:PA}{fs:List F4}(hF:FOK fs){L:List Nat}(hL:Kn L)(hS:∀s∈stF fs,s∈L)(hP:PhiH Φ fs L)
noncomputable abbrev fV(fs:List F4):V:=.lA (fs.map zkS)
theorem znT(hF:FOK fs)(tA:List Nat):zak tA (fV fs)=some (fs.map zkS):=by
 have hz:1000<=zad:=by decide
 have hn:=hF.n;unfold zak;simp only[zaN,OB];exact rwl (if_pos ⟨by rw[List.length_map];lia,.inr rfl⟩) rfl
theorem zrv(fs:List F4):chV (csF fs)=fs.map λf=>.lA ((chF f).map .str):=by unfold chV csF;rw[List.map_map];rfl
include hF hP in
theorem zjO{x1 x2 x3 x4 x5 x6 x7 x8 x9 x10 x11 x12 x13 x14:V}:eE Φ (fV fs::x1::x2::x3::x4::x5::x6::x7::x8::x9::x10::x11::x12::x13::x14::R6) zhu [.tab]=some (.lA (chV (csF fs)),[.tab]):=by
 have e:=zgw Φ (tA:=[15,16,17,18]) (it:=.v 0) (elt:=.call 12 (.cons (.v 15) (.cons (.v 16) (.cons (.v 17) .nil)))) (vs:=fV fs::x1::x2::x3::x4::x5::x6::x7::x8::x9::x10::x11::x12::x13::x14::R6) (h:=[.tab]) (xs:=fs)
  zkS (λf=>.lA ((chF f).map .str)) (v:=fV fs) rfl (znT hF _) λf hf=>by refine zk2 (fV fs::x1::x2::x3::x4::x5::x6::x7::x8::x9::x10::x11::x12::x13::x14::.int (f.1:Nat)::.int (f.2.1:Nat)::.int (f.2.2.1:Nat)::.int (f.2.2.2:Nat)::List.replicate 2 .uA) rfl ?_ rfl;nomatch (hP.ch f hf)
 rw[zhu,e,zrv]
include hF in
theorem zjS{x1 x2 x3 x4 x5 x6 x7 x8 x9 x10 x11 x12 x13 x14:V}{h:H}:eE Φ (fV fs::x1::x2::x3::x4::x5::x6::x7::x8::x9::x10::x11::x12::x13::x14::R6) zjR h=some (.lA ((stF fs).map λi=>.int (i:Nat)),h):=by
 have e:=zgw Φ (tA:=[15,16,17,18]) (it:=.v 0) (elt:=.bin .Add (.bin .Add (.bin .Mult (.v 15) (.c (.int 4096))) (.bin .Mult (.v 16) (.c (.int 512)))) (.v 17)) (vs:=fV fs::x1::x2::x3::x4::x5::x6::x7::x8::x9::x10::x11::x12::x13::x14::R6) (h:=h) (xs:=fs)
  zkS (λf=>.int (mdF f:Nat)) (v:=fV fs) rfl (znT hF _) λf hf=>by have hk:=zfr (hF.ok f hf).1;have ha:=(hF.ok f hf).2.1;have b1:=zlC h (x:=(f.1:Int)) (y:=4096) (by lia) (by decide);have b2:=zlC h (x:=(f.2.1:Int)) (y:=512) (by lia) (by decide);refine zk2 (fV fs::x1::x2::x3::x4::x5::x6::x7::x8::x9::x10::x11::x12::x13::x14::.int (f.1:Nat)::.int (f.2.1:Nat)::.int (f.2.2.1:Nat)::.int (f.2.2.2:Nat)::List.replicate 2 .uA) rfl ?_ rfl;nomatch b1,b2,zc2,q
 refine rwl e ?_;refine rwl List.map_map ?_;rfl
include hF hS hP in
theorem ziQ{x1 x4 x5 x6 x7 x8 x9 x10 x11 x12 x13 x14:V}:eE Φ (fV fs::x1::.lA ((stF fs).map λi=>.int (i:Nat))::.dI (nmD L)::x4::x5::x6::x7::x8::x9::x10::x11::x12::x13::x14::R6) zhv [.tab,.gone]=some (zaf (zab (csF fs) (mnO fs)),[.tab,.gone]):=by
 have hz:1000<=zad:=by decide
 have hn:=hF.n;have hln:=zax [.tab,.gone] (vs:=fs.map zkS) (by rw[List.length_map];lia);rw[List.length_map,hn]at hln;have hit:eE Φ (fV fs::x1::.lA ((stF fs).map λi=>.int (i:Nat))::.dI (nmD L)::x4::x5::x6::x7::x8::x9::x10::x11::x12::x13::x14::R6) (.rg (.cons (.len (.v 0)) .nil)) [.tab,.gone]=some (.rng 0 (4:Nat) 1,[.tab,.gone]):=by simp only[zaF,zaV,zcI,zap,zag,zaH,zjk,GA,GB,OA,OB,OC,hln]
 have e:=zgw Φ (tA:=[15]) (it:=.rg (.cons (.len (.v 0)) .nil)) (elt:=.call 13 (.cons (.idx (.v 3) (.idx (.v 2) (.v 15))) (.cons (.idx (.idx (.v 0) (.v 15)) (.c (.int 3))) .nil))) (vs:=fV fs::x1::.lA ((stF fs).map λi=>.int (i:Nat))::.dI (nmD L)::x4::x5::x6::x7::x8::x9::x10::x11::x12::x13::x14::R6) (h:=[.tab,.gone]) (xs:=List.range 4)
  (λk=>V.int (k:Nat)) (λk=>.str (wrM (ck (csF fs) k 0) (mnO fs k))) hit (zaK 15 (by decide)) λk hk=>by
   refine zdy λX kX=>?_;have hk:=List.mem_range.mp hk;refine zqy (zkO hF hk) λf a b q3 q4=>?_;obtain⟨f',x,a',_,c,d,_,g,_⟩:=zix hF hk ((zb2 hF).at (k:=k) (by rw[zbD hF];exact hk)).1;rw[a]at a';have r0:=Option.some.inj a';subst r0;have hx:=g rfl;subst hx;have hfm:zaC ((mdF f:Nat):Int)=ck (csF fs) k 0:=d.symm;have hsg:=zhM b.1 b.2.1 c;have hlen:=(zmi b.1 b.2.1 c).1;rw[<-d]at hsg hlen;refine kX ?_;have hmn:mnO fs k=f.2.2.2:=by unfold mnO;refine rwl (if_pos hk) ?_;exact rwl q4 rfl
   have wr:=hP.wr (ck (csF fs) k 0) f.2.2.2 b.2.2.2 hsg.2 (by lia);have i1:=zbh [.tab,.gone] (vs:=(stF fs).map λi=>.int (i:Nat)) (rfl:((k:Nat):Int)=_) (v:=.int (mdF f:Nat)) (by rw[List.getElem?_map];unfold stF;rw[List.getElem?_map,a];rfl) (by unfold stF;rw[List.length_map,List.length_map];lia);have i2:zb9 [.tab,.gone] (.dI (nmD L)) (.int (mdF f:Nat))=some (.str (ck (csF fs) k 0)):=by refine rwl (i_dI (zof (hS _ (List.mem_map.mpr ⟨f,List.mem_of_getElem? a,rfl⟩)))) ?_;refine rwl hfm ?_;rfl
   have i3:=zbh [.tab,.gone] (vs:=fs.map zkS) (rfl:((k:Nat):Int)=_) (v:=zkS f) (by rw[List.getElem?_map,a];rfl) (by rw[List.length_map];lia);have i4:zb9 [.tab,.gone] (zkS f) (.int 3)=some (.int (f.2.2.2:Nat)):=rfl;refine rwl hmn ?_;refine zk2 (fV fs::x1::.lA ((stF fs).map λi=>.int (i:Nat))::.dI (nmD L)::x4::x5::x6::x7::x8::x9::x10::x11::x12::x13::x14::.int (k:Nat)::List.replicate 5 .uA) rfl ?_ rfl;generalize hw:ck (csF fs) k 0=wB at*;have e1:eE Φ (fV fs::x1::.lA ((stF fs).map λi=>.int (i:Nat))::.dI (nmD L)::x4::x5::x6::x7::x8::x9::x10::x11::x12::x13::x14::.int (k:Nat)::List.replicate 5 .uA) (.idx (.idx (.v 0) (.v 15)) (.c (.int 3))) [.tab,.gone]=some (.int (f.2.2.2:Nat),[.tab,.gone]):=by simp only[zbL,zaF,zar,GA,GB,OA,OB,OC,i3,i4]
   have e2:eE Φ (fV fs::x1::.lA ((stF fs).map λi=>.int (i:Nat))::.dI (nmD L)::x4::x5::x6::x7::x8::x9::x10::x11::x12::x13::x14::.int (k:Nat)::List.replicate 5 .uA) (.idx (.v 3) (.idx (.v 2) (.v 15))) [.tab,.gone]=some (.str wB,[.tab,.gone]):=by simp only[zaF,zar,GA,GB,OA,OB,OC,i1,i2]
   refine rwl zav ?_;refine rwl zag ?_;refine rwl e2 ?_;simp only[OA,OB];refine rwl zag ?_;refine rwl e1 ?_;simp only[zap,zaH,GA,GB,OA,OB,OC,wr]
 refine rwl e ?_;unfold zaf zab;refine rwl (zbD hF) ?_;rfl
include hF in
theorem zjU{x0 x2 x3 x4 x5 x6 x7 x8 x9 x10 x11 x12 x13 x14:V}{h:H}:eE Φ (x0::.lA (chV (csF fs))::x2::x3::x4::x5::x6::x7::x8::x9::x10::x11::x12::x13::x14::R6) zjT h=some (zaf (zaa (csF fs)),h):=by
 have hcs:=zb2 hF;have e:=zgw Φ (tA:=[15]) (it:=.v 1) (elt:=.idx (.v 15) (.c (.int 0))) (vs:=x0::.lA (chV (csF fs))::x2::x3::x4::x5::x6::x7::x8::x9::x10::x11::x12::x13::x14::R6) (h:=h) (xs:=csF fs)
  (λc=>V.lA (c.map .str)) (λc=>.str (c.getD 0 [])) (v:=.lA (chV (csF fs))) rfl (zeh hcs 15) λc hc=>by have i1:=zbh h (vs:=c.map .str) (rfl:(0:Int)=((0:Nat):Int)) (v:=.str (c.getD 0 [])) (by rw[List.getElem?_map,List.getD_eq_getElem?_getD,List.getElem?_eq_getElem (hcs.l c hc).1];rfl) (by rw[List.length_map];exact lnB 0 10 1000 0 0 0 (hcs.l c hc).2 (by decide:1000<=zad) rfl);refine zk2 (x0::.lA (chV (csF fs))::x2::x3::x4::x5::x6::x7::x8::x9::x10::x11::x12::x13::x14::.lA (c.map .str)::List.replicate 5 .uA) rfl ?_ rfl;nomatch i1
 refine rwl e ?_;unfold zaf zaa;rw[zdi (csF fs)];refine rwl List.map_map ?_;rfl
include hF in
theorem zjQ{x0 x2 x3 x4 x5 x6 x7 x8 x9 x10 x11 x12 x13 x14:V}{h:H}:eE Φ (x0::.lA (chV (csF fs))::x2::x3::x4::x5::x6::x7::x8::x9::x10::x11::x12::x13::x14::R6) zjP h=some (.lA ((zgA (csF fs)).map λ(n:Nat)=>.int (n:Int)),h):=by
 have hz:1000<=zad:=by decide
 have e:=zfM Φ (tA:=[15]) (it:=.v 1) (cond:=.cmp .Gt (.len (.v 15)) (.c (.int 1))) (elt:=.bin .Sub (.len (.v 15)) (.c (.int 1))) (vs:=x0::.lA (chV (csF fs))::x2::x3::x4::x5::x6::x7::x8::x9::x10::x11::x12::x13::x14::R6) (h:=h) (xs:=csF fs)
  (λc=>V.lA (c.map .str)) (λc=>if decide (0<c.length-1)=true then some (V.int ((c.length-1:Nat):Int)) else none) (v:=.lA (chV (csF fs))) rfl (zeh (zb2 hF) 15) λc hc=>by
   refine zeB λX kX=>?_;have hl:=(zb2 hF).l c hc;have hln:=zax h (vs:=c.map .str) (by rw[List.length_map];omega);rw[List.length_map]at hln;have hg:zbl .Gt h (.int (c.length:Int)) (.int 1)=some (decide (0<c.length-1)):=by rw[zqD];congr 1;rw[decide_eq_decide];omega
   refine kX (x0::.lA (chV (csF fs))::x2::x3::x4::x5::x6::x7::x8::x9::x10::x11::x12::x13::x14::.lA (c.map .str)::List.replicate 5 .uA) (.bool (decide (0<c.length-1))) (decide (0<c.length-1)) rfl ?_ rfl (λz=>⟨.int ((c.length-1:Nat):Int),?_,rfl,by rw[if_pos z]⟩) (λz=>by rw[if_neg (by rw[z];decide)])
   ·nomatch hln,hg
   ·nomatch hln,zha,(by omega:(c.length:Int)-1=((c.length-1:Nat):Int))
 refine rwl e ?_;have hl:∀l:List Ch,(l.filterMap λc=>if decide (0<c.length-1)=true then some (V.int ((c.length-1:Nat):Int)) else none)=((l.map λc=>c.length-1).filter λn=>decide (0<n)).map λ(n:Nat)=>V.int (n:Int):=by
  intro l;induction l with
  |nil=>rfl
  |cons c r ih=>
   refine rwl List.filter_cons ?_;generalize q:decide (0<c.length-1)=r0;induction r0 using Bool.casesOn with
   |true=>rw[List.filterMap_cons_some (b:=V.int ((c.length-1:Nat):Int)) (by rw[if_pos q]),if_pos rfl,List.map_cons,ih]
   |false=>rw[List.filterMap_cons_none (by rw[if_neg (by rw[q];decide)]),if_neg (by decide),ih]
 rw[hl];rfl
include hF hP in
theorem zl7{x0 x1 x2 x3 x4 x6 x7 x8 x11:V}{pl:List V}(hpl:pl.length=zep (zgA (csF fs)))(hpz:pl.length<=100):
  eE Φ (x0::x1::x2::x3::x4::.dS (shD L)::x6::x7::x8::zaf (za7 (csF fs))::.tup [zaf (zaa (csF fs)),zaf (za7 (csF fs))]::x11::.lA ((zgA (csF fs)).map λ(n:Nat)=>.int (n:Int))::.lA pl::.int (G4 (nn (csF fs)):Nat)::R6) zk1 [.tabg,.gone]=some (.bool true,[.tabg,.gone]):=by
 refine xea hP.e2 λe he hv=>?_
 have hg:=hP.g
 have l1:=zax [.tabg,.gone] (vs:=(za7 (csF fs)).map .str) (by rw[List.length_map];exact lnB 0 36 1000 0 0 0 (zgm (csF fs) (zb2 hF)) (by decide:1000<=zad) rfl)
 rw[List.length_map]at l1
 have l2:=zax [.tabg,.gone] (vs:=pl) (by exact lnB 0 100 1000 0 0 0 hpz (by decide:1000<=zad) rfl)
 rw[hpl]at l2
 have m1:=zlC [.tabg,.gone] (x:=2) (y:=((G4 (nn (csF fs)):Nat):Int)) (by decide) (by lia)
 have l1':zdh [.tabg,.gone] (zaf (za7 (csF fs)))=some ((za7 (csF fs)).length:Int):=l1
 rw[hv]at he
 generalize hto:zaf (za7 (csF fs))=to at*
 induction to using V.casesOn with
 |lA tv=>delta zk1;nomatch hP.le,(λH x=>by rw[zmI,beq_self_eq_true]:∀(H:H) (x:Int),zbl .Eq H (.int x) (.int x)=some true),i1,he,m1,l1',l2,zha
 |_=>cases hto
noncomputable def hoB1:S:=(.ifs (.cmp .NotEq (.v 10) (.tup (.cons (.v 8) (.cons (.v 9) .nil)))) (.seq (.ret (.c (.bool false))) .skip) .skip)
noncomputable def hoB2:S:=(.ifs (.cmp .NotEq (.call 18 (.cons (.v 8) (.cons (.v 4) (.cons (.v 5) .nil)))) (.v 9)) (.seq (.ret (.c (.bool false))) .skip) .skip)
noncomputable def hoB3:S:=(.ifs (.cmp .NotEq (.v 11) (.call 21 (.cons (.v 1) .nil))) (.seq (.ret (.c (.bool false))) .skip) .skip)
include hF hL hS hP in
theorem zl8(hLz:L.length<=100):zcd (eF Φ zjs (fV fs::List.replicate 14 .uA++R6,[.tab]))=some (.ret (.bool true),[.tabg,.gone]):=by
 have hz:1000<=zad:=by decide
 have hn:=hF.n;have hwa:=zkw hF;have hta:=zmF hF;have hsa:=zkk hF;have h4:=zbD hF;have e1:eF Φ (.asg 1 zhu) (fV fs::.uA::.uA::.uA::.uA::.uA::.uA::.uA::.uA::.uA::.uA::.uA::.uA::.uA::.uA::R6,[.tab])=some (.next,fV fs::.lA (chV (csF fs))::.uA::.uA::.uA::.uA::.uA::.uA::.uA::.uA::.uA::.uA::.uA::.uA::.uA::R6,[.tab]):=by rw[zaw,zjO hF hP];rfl
 have e2:eF Φ (.asg 2 zjR) (fV fs::.lA (chV (csF fs))::.uA::.uA::.uA::.uA::.uA::.uA::.uA::.uA::.uA::.uA::.uA::.uA::.uA::R6,[.tab])=some (.next,fV fs::.lA (chV (csF fs))::.lA ((stF fs).map λi=>.int (i:Nat))::.uA::.uA::.uA::.uA::.uA::.uA::.uA::.uA::.uA::.uA::.uA::.uA::R6,[.tab]):=by rw[zaw,zjS hF];rfl
 have kn:=hP.kn;have e3:eF Φ (.asgT [3,4] (.call 16 (.cons (.v 2) .nil))) (fV fs::.lA (chV (csF fs))::.lA ((stF fs).map λi=>.int (i:Nat))::.uA::.uA::.uA::.uA::.uA::.uA::.uA::.uA::.uA::.uA::.uA::.uA::R6,[.tab])=some (.next,fV fs::.lA (chV (csF fs))::.lA ((stF fs).map λi=>.int (i:Nat))::.dI (nmD L)::.dS (afD L)::.uA::.uA::.uA::.uA::.uA::.uA::.uA::.uA::.uA::.uA::R6,[.tab]):=by nomatch kn,zbu
 have e4:eF Φ (.asgM 5 .emptyD) (fV fs::.lA (chV (csF fs))::.lA ((stF fs).map λi=>.int (i:Nat))::.dI (nmD L)::.dS (afD L)::.uA::.uA::.uA::.uA::.uA::.uA::.uA::.uA::.uA::.uA::R6,[.tab])=some (.next,fV fs::.lA (chV (csF fs))::.lA ((stF fs).map λi=>.int (i:Nat))::.dI (nmD L)::.dS (afD L)::.obj 1::.uA::.uA::.uA::.uA::.uA::.uA::.uA::.uA::.uA::R6,[.tab,obD (shD [])]):=rfl;refine xe (zkj Φ hL hLz (x0:=fV fs) (x1:=.lA (chV (csF fs))) (x2:=.lA ((stF fs).map λi=>.int (i:Nat))) (x3:=.dI (nmD L)) (x4:=.dS (afD L)) (x7:=.uA) (x8:=.uA) (x9:=.uA) (x10:=.uA) (x11:=.uA) (x12:=.uA) (x13:=.uA) (x14:=.uA) L [] .uA rfl) λy6 lp5=>?_;have hit5:zak [6] (.dS (afD L))=some (L.map λ(M:Nat)=>.str (zaC (M:Int))):=by unfold zak;simp only[zaN,OB];unfold afD;rw[if_pos ⟨by rw[List.length_map,List.length_map];exact lnB 0 100 1000 0 0 0 hLz hz rfl,.inl rfl⟩,List.map_map];rfl
 have ev5:eE Φ (fV fs::.lA (chV (csF fs))::.lA ((stF fs).map λi=>.int (i:Nat))::.dI (nmD L)::.dS (afD L)::.obj 1::.uA::.uA::.uA::.uA::.uA::.uA::.uA::.uA::.uA::R6) (.v 4) [.tab,obD (shD [])]=some (.dS (afD L),[.tab,obD (shD [])]):=rfl;have hob:obD (shD L)=.dS (shD L):=by
  induction L using List.casesOn with
  |nil=>
   induction fs using List.casesOn with
   |nil=>cases hn
   |cons f r=>exact absurd (hS (mdF f) (.head _)) (List.not_mem_nil)
  |cons M r=>rfl
 rw[hob]at lp5;have hfr:za9 [5] (fV fs::.lA (chV (csF fs))::.lA ((stF fs).map λi=>.int (i:Nat))::.dI (nmD L)::.dS (afD L)::.obj 1::y6::.uA::.uA::.uA::.uA::.uA::.uA::.uA::.uA::R6,[.tab,.dS (shD L)])=
   some (fV fs::.lA (chV (csF fs))::.lA ((stF fs).map λi=>.int (i:Nat))::.dI (nmD L)::.dS (afD L)::.dS (shD L)::y6::.uA::.uA::.uA::.uA::.uA::.uA::.uA::.uA::R6,[.tab,.gone]):=rfl
 have e6:eF Φ (.frz [5] (.asg 7 zhv)) (fV fs::.lA (chV (csF fs))::.lA ((stF fs).map λi=>.int (i:Nat))::.dI (nmD L)::.dS (afD L)::.obj 1::y6::.uA::.uA::.uA::.uA::.uA::.uA::.uA::.uA::R6,[.tab,.dS (shD L)])=
   some (.next,fV fs::.lA (chV (csF fs))::.lA ((stF fs).map λi=>.int (i:Nat))::.dI (nmD L)::.dS (afD L)::.dS (shD L)::y6::zaf (zab (csF fs) (mnO fs))::.uA::.uA::.uA::.uA::.uA::.uA::.uA::R6,[.tab,.gone]):=by
  rw[zcW,hfr]
  simp only[OA,OB]
  rw[zaw,ziQ hF hS hP];rfl
 have e7:eF Φ (.asg 8 zjT) (fV fs::.lA (chV (csF fs))::.lA ((stF fs).map λi=>.int (i:Nat))::.dI (nmD L)::.dS (afD L)::.dS (shD L)::y6::zaf (zab (csF fs) (mnO fs))::.uA::.uA::.uA::.uA::.uA::.uA::.uA::R6,[.tab,.gone])=
   some (.next,fV fs::.lA (chV (csF fs))::.lA ((stF fs).map λi=>.int (i:Nat))::.dI (nmD L)::.dS (afD L)::.dS (shD L)::y6::zaf (zab (csF fs) (mnO fs))::zaf (zaa (csF fs))::.uA::.uA::.uA::.uA::.uA::.uA::R6,[.tab,.gone]):=by
  rw[zaw,zjU hF];rfl
 have tr:=hP.tr;have ri:=hP.ri;have e8:eF Φ (.asg 9 (.call 20 (.cons (.v 1) .nil))) (fV fs::.lA (chV (csF fs))::.lA ((stF fs).map λi=>.int (i:Nat))::.dI (nmD L)::.dS (afD L)::.dS (shD L)::y6::zaf (zab (csF fs) (mnO fs))::zaf (zaa (csF fs))::.uA::.uA::.uA::.uA::.uA::.uA::R6,[.tab,.gone])=
   some (.next,fV fs::.lA (chV (csF fs))::.lA ((stF fs).map λi=>.int (i:Nat))::.dI (nmD L)::.dS (afD L)::.dS (shD L)::y6::zaf (zab (csF fs) (mnO fs))::zaf (zaa (csF fs))::zaf (za7 (csF fs))::.uA::.uA::.uA::.uA::.uA::R6,[.tab,.gone]):=by
  nomatch tr
 have e9:eF Φ (.asg 10 (.call 17 (.cons (.v 7) (.cons (.v 4) (.cons (.v 5) .nil))))) (fV fs::.lA (chV (csF fs))::.lA ((stF fs).map λi=>.int (i:Nat))::.dI (nmD L)::.dS (afD L)::.dS (shD L)::y6::zaf (zab (csF fs) (mnO fs))::zaf (zaa (csF fs))::zaf (za7 (csF fs))::.uA::.uA::.uA::.uA::.uA::R6,[.tab,.gone])=
   some (.next,fV fs::.lA (chV (csF fs))::.lA ((stF fs).map λi=>.int (i:Nat))::.dI (nmD L)::.dS (afD L)::.dS (shD L)::y6::zaf (zab (csF fs) (mnO fs))::zaf (zaa (csF fs))::zaf (za7 (csF fs))::.tup [zaf (zaa (csF fs)),zaf (za7 (csF fs))]::.uA::.uA::.uA::.uA::R6,[.tabg,.gone]):=by
  nomatch ri
 have n10:=ne_two [.tabg,.gone] hwa hta;have r0:eE Φ (fV fs::.lA (chV (csF fs))::.lA ((stF fs).map λi=>.int (i:Nat))::.dI (nmD L)::.dS (afD L)::.dS (shD L)::y6::zaf (zab (csF fs) (mnO fs))::zaf (zaa (csF fs))::zaf (za7 (csF fs))::.tup [zaf (zaa (csF fs)),zaf (za7 (csF fs))]::.uA::.uA::.uA::.uA::R6) (.cmp .NotEq (.v 10) (.tup (.cons (.v 8) (.cons (.v 9) .nil)))) [.tabg,.gone]=some (.bool false,[.tabg,.gone]):=by unfold zaf at*;nomatch n10
 have ha:=hP.ha;have n11:=zqS [.tabg,.gone] hta;have t0:eE Φ (fV fs::.lA (chV (csF fs))::.lA ((stF fs).map λi=>.int (i:Nat))::.dI (nmD L)::.dS (afD L)::.dS (shD L)::y6::zaf (zab (csF fs) (mnO fs))::zaf (zaa (csF fs))::zaf (za7 (csF fs))::.tup [zaf (zaa (csF fs)),zaf (za7 (csF fs))]::.uA::.uA::.uA::.uA::R6) (.cmp .NotEq (.call 18 (.cons (.v 8) (.cons (.v 4) (.cons (.v 5) .nil)))) (.v 9)) [.tabg,.gone]=some (.bool false,[.tabg,.gone]):=by unfold zaf at*;nomatch ha,n11
 have so:=hP.so;have e12:eF Φ (.asg 11 (.call 19 (.cons (.v 8) (.cons (.v 2) (.cons (.v 4) (.cons (.v 5) .nil)))))) (fV fs::.lA (chV (csF fs))::.lA ((stF fs).map λi=>.int (i:Nat))::.dI (nmD L)::.dS (afD L)::.dS (shD L)::y6::zaf (zab (csF fs) (mnO fs))::zaf (zaa (csF fs))::zaf (za7 (csF fs))::.tup [zaf (zaa (csF fs)),zaf (za7 (csF fs))]::.uA::.uA::.uA::.uA::R6,[.tabg,.gone])=
   some (.next,fV fs::.lA (chV (csF fs))::.lA ((stF fs).map λi=>.int (i:Nat))::.dI (nmD L)::.dS (afD L)::.dS (shD L)::y6::zaf (zab (csF fs) (mnO fs))::zaf (zaa (csF fs))::zaf (za7 (csF fs))::.tup [zaf (zaa (csF fs)),zaf (za7 (csF fs))]::zaf (zaR (csF fs))::.uA::.uA::.uA::R6,[.tabg,.gone]):=by
  nomatch so
 have ts:=hP.ts;have n13:=zqS [.tabg,.gone] hsa;have b0:eE Φ (fV fs::.lA (chV (csF fs))::.lA ((stF fs).map λi=>.int (i:Nat))::.dI (nmD L)::.dS (afD L)::.dS (shD L)::y6::zaf (zab (csF fs) (mnO fs))::zaf (zaa (csF fs))::zaf (za7 (csF fs))::.tup [zaf (zaa (csF fs)),zaf (za7 (csF fs))]::zaf (zaR (csF fs))::.uA::.uA::.uA::R6) (.cmp .NotEq (.v 11) (.call 21 (.cons (.v 1) .nil))) [.tabg,.gone]=some (.bool false,[.tabg,.gone]):=by unfold zaf at*;nomatch ts,n13
 have e14:eF Φ (.asg 12 zjP) (fV fs::.lA (chV (csF fs))::.lA ((stF fs).map λi=>.int (i:Nat))::.dI (nmD L)::.dS (afD L)::.dS (shD L)::y6::zaf (zab (csF fs) (mnO fs))::zaf (zaa (csF fs))::zaf (za7 (csF fs))::.tup [zaf (zaa (csF fs)),zaf (za7 (csF fs))]::zaf (zaR (csF fs))::.uA::.uA::.uA::R6,[.tabg,.gone])=
   some (.next,fV fs::.lA (chV (csF fs))::.lA ((stF fs).map λi=>.int (i:Nat))::.dI (nmD L)::.dS (afD L)::.dS (shD L)::y6::zaf (zab (csF fs) (mnO fs))::zaf (zaa (csF fs))::zaf (za7 (csF fs))::.tup [zaf (zaa (csF fs)),zaf (za7 (csF fs))]::zaf (zaR (csF fs))::.lA ((zgA (csF fs)).map λ(n:Nat)=>.int (n:Int))::.uA::.uA::R6,[.tabg,.gone]):=by
  rw[zaw,zjQ hF];rfl
 obtain⟨pl,hpl,hpz,hpr⟩:=zsD Φ (ns:=zgA (csF fs)) (h:=[.tabg,.gone]) (by refine Nat.le_trans (List.length_filter_le _ _) ?_;rw[List.length_map,h4];exact Nat.le_refl _) (x0:=fV fs) (x1:=.lA (chV (csF fs))) (x2:=.lA ((stF fs).map λi=>.int (i:Nat))) (x3:=.dI (nmD L)) (x4:=.dS (afD L)) (x5:=.dS (shD L)) (x6:=y6) (x7:=zaf (zab (csF fs) (mnO fs))) (x8:=zaf (zaa (csF fs))) (x9:=zaf (za7 (csF fs))) (x10:=.tup [zaf (zaa (csF fs)),zaf (za7 (csF fs))]) (x11:=zaf (zaR (csF fs))) (x13:=.uA) (x14:=.uA)
 have e15:eF Φ (.asg 13 prE) (fV fs::.lA (chV (csF fs))::.lA ((stF fs).map λi=>.int (i:Nat))::.dI (nmD L)::.dS (afD L)::.dS (shD L)::y6::zaf (zab (csF fs) (mnO fs))::zaf (zaa (csF fs))::zaf (za7 (csF fs))::.tup [zaf (zaa (csF fs)),zaf (za7 (csF fs))]::zaf (zaR (csF fs))::.lA ((zgA (csF fs)).map λ(n:Nat)=>.int (n:Int))::.uA::.uA::R6,[.tabg,.gone])=
   some (.next,fV fs::.lA (chV (csF fs))::.lA ((stF fs).map λi=>.int (i:Nat))::.dI (nmD L)::.dS (afD L)::.dS (shD L)::y6::zaf (zab (csF fs) (mnO fs))::zaf (zaa (csF fs))::zaf (za7 (csF fs))::.tup [zaf (zaa (csF fs)),zaf (za7 (csF fs))]::zaf (zaR (csF fs))::.lA ((zgA (csF fs)).map λ(n:Nat)=>.int (n:Int))::.lA pl::.uA::R6,[.tabg,.gone]):=by
  rw[zaw,hpr];rfl
 have en1:=hP.e1;have e16:eF Φ (.asg 14 (.call 23 (.cons (.v 11) (.cons (.v 5) .nil)))) (fV fs::.lA (chV (csF fs))::.lA ((stF fs).map λi=>.int (i:Nat))::.dI (nmD L)::.dS (afD L)::.dS (shD L)::y6::zaf (zab (csF fs) (mnO fs))::zaf (zaa (csF fs))::zaf (za7 (csF fs))::.tup [zaf (zaa (csF fs)),zaf (za7 (csF fs))]::zaf (zaR (csF fs))::.lA ((zgA (csF fs)).map λ(n:Nat)=>.int (n:Int))::.lA pl::.uA::R6,[.tabg,.gone])=
   some (.next,fV fs::.lA (chV (csF fs))::.lA ((stF fs).map λi=>.int (i:Nat))::.dI (nmD L)::.dS (afD L)::.dS (shD L)::y6::zaf (zab (csF fs) (mnO fs))::zaf (zaa (csF fs))::zaf (za7 (csF fs))::.tup [zaf (zaa (csF fs)),zaf (za7 (csF fs))]::zaf (zaR (csF fs))::.lA ((zgA (csF fs)).map λ(n:Nat)=>.int (n:Int))::.lA pl::.int (G4 (nn (csF fs)):Nat)::R6,[.tabg,.gone]):=by
  nomatch en1
 have hl:=zl7 hF hP (x0:=fV fs) (x1:=.lA (chV (csF fs))) (x2:=.lA ((stF fs).map λi=>.int (i:Nat))) (x3:=.dI (nmD L)) (x4:=.dS (afD L)) (x6:=y6) (x7:=zaf (zab (csF fs) (mnO fs))) (x8:=zaf (zaa (csF fs))) (x11:=zaf (zaR (csF fs))) hpl hpz;have e17:eF Φ (.ret zk1) (fV fs::.lA (chV (csF fs))::.lA ((stF fs).map λi=>.int (i:Nat))::.dI (nmD L)::.dS (afD L)::.dS (shD L)::y6::zaf (zab (csF fs) (mnO fs))::zaf (zaa (csF fs))::zaf (za7 (csF fs))::.tup [zaf (zaa (csF fs)),zaf (za7 (csF fs))]::zaf (zaR (csF fs))::.lA ((zgA (csF fs)).map λ(n:Nat)=>.int (n:Int))::.lA pl::.int (G4 (nn (csF fs)):Nat)::R6,[.tabg,.gone])=
   some (.ret (.bool true),fV fs::.lA (chV (csF fs))::.lA ((stF fs).map λi=>.int (i:Nat))::.dI (nmD L)::.dS (afD L)::.dS (shD L)::y6::zaf (zab (csF fs) (mnO fs))::zaf (zaa (csF fs))::zaf (za7 (csF fs))::.tup [zaf (zaa (csF fs)),zaf (za7 (csF fs))]::zaf (zaR (csF fs))::.lA ((zgA (csF fs)).map λ(n:Nat)=>.int (n:Int))::.lA pl::.int (G4 (nn (csF fs)):Nat)::R6,[.tabg,.gone]):=by
  rw[za2,hl];rfl
 have hcode:zjs=.seq (.asg 1 zhu) (.seq (.asg 2 zjR) (.seq (.asgT [3,4] (.call 16 (.cons (.v 2) .nil))) (.seq (.asgM 5 .emptyD) (.seq (.fors [6] (.v 4) shB .skip) (.seq (.frz [5] (.asg 7 zhv)) (.seq (.asg 8 zjT) (.seq (.asg 9 (.call 20 (.cons (.v 1) .nil)))
  (.seq (.asg 10 (.call 17 (.cons (.v 7) (.cons (.v 4) (.cons (.v 5) .nil))))) (.seq hoB1 (.seq hoB2 (.seq (.asg 11 (.call 19 (.cons (.v 8) (.cons (.v 2) (.cons (.v 4) (.cons (.v 5) .nil)))))) (.seq hoB3 (.seq (.asg 12 zjP) (.seq (.asg 13 prE) (.seq (.asg 14 (.call 23 (.cons (.v 11) (.cons (.v 5) .nil)))) (.seq (.ret zk1) .skip)))))))))))))))):=rfl
 rw[hcode];show zcd (eF Φ _ (fV fs::.uA::.uA::.uA::.uA::.uA::.uA::.uA::.uA::.uA::.uA::.uA::.uA::.uA::.uA::R6,[.tab]))=_;rw[zbw e1,zbw e2,zbw e3,zbw e4,zbw (x_fn ev5 hit5 lp5),zbw e6,zbw e7,zbw e8,zbw e9];rw[hoB1,zbw ((zcr r0).trans (x_skip _ _)),hoB2,zbw ((zcr t0).trans (x_skip _ _)),zbw e12,hoB3,zbw ((zcr b0).trans (x_skip _ _)),zbw e14,zbw e15,zbw e16,zpf e17];rfl
end
noncomputable def Rl(sh:List (List Nat×Sc)):List (List Nat)->List Bool->Prop
 |[],[]=>True
 |r::rs,b::bs=>(∃c:Nat,sh.lookup r=some (.int (c:Nat))/\b=(c==0))/\Rl sh rs bs
 |_,_=>False
theorem zfB{sh:List (List Nat×Sc)}:∀{a c:List (List Nat)} {b d:List Bool},Rl sh a b->Rl sh c d->Rl sh (a++c) (b++d)
 |[],c,[],d,_,h=>h
 |r::a,c,x::b,d,h,h'=>⟨h.1,zfB h.2 h'⟩
 |[],_,_::_,_,h,_=>h.elim
 |_::_,_,[],_,h,_=>h.elim
theorem zkA{sh:List (List Nat×Sc)}{α:Type}(f:α->List Nat)(g:α->Bool):∀(l:List α),(∀x∈l,∃c:Nat,sh.lookup (f x)=some (.int (c:Nat))/\g x=(c==0))->Rl sh (l.map f) (l.map g):=by
 intro l9;induction l9 with
 |nil=>exact λ_=>trivial
 |cons x l zkA=>exact λh=>⟨h x (.head _),zkA λy hy=>h y (.tail _ hy)⟩
theorem zpi{sh:List (List Nat×Sc)}:∀{a:List (List Nat)} {b:List Bool},Rl sh a b->a.length=b.length/\∀t r,a[t]?=some r->∃c:Nat,sh.lookup r=some (.int (c:Nat))/\b.getD t false=(c==0):=by
 intro l9;induction l9 with
 |nil=>
  intro l8;induction l8 using List.casesOn with
  |nil=>intro _;exact⟨rfl,λt r h=>by exact nos h⟩
  |cons _ _=>intro h;exact h.elim
 |cons x a zpi=>
  intro l8;induction l8 using List.casesOn with
  |cons y b=>
   intro h;refine xa (zpi h.2) λh1 h2=>?_;refine⟨by rw[List.length_cons,List.length_cons,h1],λt r e=>?_⟩;induction t using Nat.casesAuxOn with
   |zero=>have r0:=Option.some.inj e;subst r0;obtain⟨c,q1,q2⟩:=h.1;exact⟨c,q1,by rw[<-q2];rfl⟩
   |succ t=>refine xea (h2 t r e) λc q1 q2=>?_;exact iea c q1 (by rw[<-q2,List.getD_eq_getElem?_getD,List.getD_eq_getElem?_getD];rfl)
  |nil=>intro h;exact h.elim
section
variable {af sh:List (List Nat×Sc)}{cs:List Ch}(hc:Chs cs)(h4:cs.length=4)(hD:DOK af sh cs)
include hc h4 hD
theorem zqg:Rl sh (zaR cs) ((zo8 (nn cs)).flatMap λk=>tf (nn cs k)):=by
 have h:∀o:List Nat,(∀k∈o,k<4)->Rl sh (o.flatMap (tl cs)) (o.flatMap λk=>tf (nn cs k)):=by
  intro o;induction o with
  |nil=>intro _;trivial
  |cons k o ih=>
   intro hk;refine zfB ?_ (ih λx hx=>hk x (.tail _ hx));have hkk:k<cs.length:=by have:=hk k (.head _);lia
   rw[zmE];refine zkA _ _ _ λi hi=>?_;have hi:=List.mem_range.mp hi;unfold nn at hi;refine xea (hD.sh k hkk (1+i) (by omega)) λc q1 q2=>?_;refine iea c q1 ?_;rw[Bool.eq_iff_iff,decide_eq_true_eq,beq_iff_eq];unfold nn;omega
 exact h _ (zga (nn cs)).lt.2
theorem zsV:Rl sh (za7 cs) (rF cs 9 0):=by
 have h:∀n j,Rl sh (lv cs n j) (rF cs n j):=by
  intro n;induction n with
  |zero=>intro j;trivial
  |succ n ih=>intro j;refine zfB (zkA _ _ _ λk hk=>?_) (ih _);refine yea λX kX=>?_;refine xa (zgI.mp hk) λa b=>?_;refine xea (hD.sh k a (j+1) b) λc q1 q2=>?_;refine kX c q1 ?_;lia
 exact h 9 0
end
theorem zp6{cs:List Ch}(hc:Chs cs)(h4:cs.length=4){k:Nat}(hk:k<4):nn cs k<=9:=by have:=hc.at (k:=k) (by lia);unfold nn;lia
theorem G4_le{cs:List Ch}(hc:Chs cs)(h4:cs.length=4):G4 (nn cs)<=1000:=by have h0:=zp6 hc h4 (k:=0) (by decide);have h1:=zp6 hc h4 (k:=1) (by decide);have h2:=zp6 hc h4 (k:=2) (by decide);have h3:=zp6 hc h4 (k:=3) (by decide);have m:∀{a b:Nat},a<=9->min a b<=9:=λh=>Nat.le_trans (Nat.min_le_left _ _) h;exact Nat.le_trans (Nat.add_le_add (Nat.add_le_add (Nat.add_le_add (Nat.add_le_add h0 h1) h2) h3) (Nat.add_le_add (Nat.add_le_add (Nat.add_le_add (Nat.add_le_add (Nat.add_le_add (m h0) (m h0)) (m h0)) (m h1)) (m h1)) (m h2))) (by decide)
theorem zoW{cs:List Ch}(hc:Chs cs)(h4:cs.length=4):(za7 cs).length=nn cs 0+nn cs 1+nn cs 2+nn cs 3:=by rw[zls cs hc,zdi cs,h4];show (([0,1,2,3]:List Nat).map λl=>(cs.getD l []).length-1).sum=_;simp only[List.map_cons,List.map_nil,List.sum_cons,List.sum_nil];unfold nn cl;lia
theorem ns_len{cs:List Ch}(h4:cs.length=4):(zgA cs).length<=4:=by unfold zgA;refine Nat.le_trans (List.length_filter_le _ _) ?_;rw[List.length_map,h4];exact Nat.le_refl _
section
variable {fs:List F4}(hF:FOK fs)
theorem wf_t:WF [.tab]:=rfl
theorem wf_tg:WF [.tab,.gone]:=rfl
theorem zmG:WF [.tabg,.gone]:=rfl
include hF
theorem zre(m:Nat)(hm:m<=90){L:List Nat}(hLe:L=zf1 (stF fs) [])(hL:Kn L)(hS:∀s∈stF fs,s∈L):PhiH (zac (m+6)) fs L:=by
 have hc:=zb2 hF;have h4:=zbD hF;have hD:=zry hF hL hS;refine⟨λf hf=>?_,?_,λwB mn h1 h2 h3=>?_,?_,?_,?_,?_,?_,?_,?_,?_,G4_le hc h4⟩
 ·have h:=hF.ok f hf;exact zm6 (m+4) wf_t h.1 h.2.1 h.2.2.1
 ·refine rwl hLe ?_;exact zn1 (m+1) wf_t (zq5 hF) (by unfold stF;rw[List.length_map,hF.n];decide)
 ·exact zkx (m+5) wf_tg h1 h2 h3
 ·exact zje (m+5) hc wf_tg
 ·exact zqd (m+2) hc (zrA hF) hD
 ·exact zrV (m+2) zmG hc hD
 ·exact zi7 (m+2) zmG hc h4 hD (zrz hF hL hS)
 ·exact zib (m+5) hc h4 zmG
 ·have hnl:=ns_len h4;have hn:=zqT h4;have h9:∀x∈zgA (csF fs),x<=9:=λx hx=>by
   rw[hn]at hx;have hx:=(List.mem_filter.mp hx).1;simp only[List.mem_cons,List.not_mem_nil,or_false]at hx;rcases hx with rfl|rfl|rfl|rfl
   ·exact zp6 hc h4 (by decide)
   ·exact zp6 hc h4 (by decide)
   ·exact zp6 hc h4 (by decide)
   ·exact zp6 hc h4 (by decide)
  have l:=ziV (m+5) (ns:=(zgA (csF fs)).map λ(n:Nat)=>(n:Int)) zmG (by rw[List.length_map];lia) (by exact lnA 0 90 5 100 hm rfl) (λx hx=>by refine xea (List.mem_map.mp hx) λn hn x0=>?_;subst x0;have:=h9 n hn;lia)
  rw[zhH (m+5+1) _ (by rw[List.length_map];lia)]at l;have hg:GL ((zgA (csF fs)).map λ(n:Nat)=>(n:Int))=((G4 (nn (csF fs)):Nat):Int):=by exact rwl hn ((zqU _).1)
  rw[hg,List.map_map]at l;exact l
 ·refine xa (zpi (zqg hc h4 hD)) λq1 q2=>?_;have hsl:(zaR (csF fs)).length<=1000:=by
   unfold zaR;have:∀o:List Nat,(∀k∈o,k<4)->(o.flatMap (tl (csF fs))).length<=9*o.length:=by
    intro o;induction o with
    |nil=>intro _;exact Nat.le_refl _
    |cons k o ih=>intro hk;have:=ih λx hx=>hk x (.tail _ hx);have:=zp6 hc h4 (hk k (.head _));refine rwl List.flatMap_cons ?_;refine rwl List.length_append ?_;rw[zmE,List.length_map];refine rwl List.length_range ?_;refine rwl List.length_cons ?_;lia
   have:=this _ ((zga (nn (csF fs))).lt).2;rw[((zga (nn (csF fs))).lt).1]at this;lia
  have e:=zkT (m+5) (run:=zaR (csF fs)) zmG q1 hsl q2;rw[zmu (nn (csF fs)) (zga _)]at e;exact e
 ·refine xa (zpi (zsV hc h4 hD)) λq1 q2=>?_;have htl:=zgm (csF fs) hc;have e:=zkT (m+5) (run:=za7 (csF fs)) zmG q1 (by exact Nat.le_trans htl (by decide)) q2;rw[zoy hc h4]at e;refine iea _ e ?_;have hp:zep (zgA (csF fs))=P4 (nn (csF fs)):=by exact rwl (zqT h4) ((zqU _).2)
  rw[zoW hc h4,hp]
theorem znI(m:Nat)(hm:m<=90):zac (m+7) 24 [fV fs] [.tab]=some (.bool true,[.tabg]):=by
 refine zig (zfs (stF fs) (⟨λ_ h=>(nomatch h),List.nodup_nil,λ_ h=>(nomatch h)⟩:Kn []) (zq5 hF)) λkn _ ks kl=>?_;have hlen:(stF fs).length=4:=by unfold stF;rw[List.length_map,hF.n]
 exact zbf zr6 (fl:=.ret (.bool true)) (h':=[.tabg,.gone]) (zl8 hF kn ks (zre hF m hm rfl kn ks) (by rw[List.length_nil,hlen]at kl;lia)) rfl rfl rfl rfl ⟨rfl,rfl⟩
end
theorem zp0(Φ:PA){x y:V}(h1:Φ 10 [x] [.tab]=some (y,[.tab]))(h2:Φ 24 [y] [.tab]=some (.bool true,[.tabg]))(hx:flat x=true):zcd (eF Φ c_law (x::R6,[.tab]))=some (.ret (.bool true),[.tabg]):=by
 have e0:eE Φ (x::R6) (.v 0) [.tab]=some (x,[.tab]):=by induction x using V.casesOn<;>first|rfl|exact noT hx
 have ea:eE Φ (x::R6) (.cons (.v 0) .nil) [.tab]=some (.tup [x],[.tab]):=by refine rwl zag ?_;refine rwl e0 ?_;rfl
 have ed:eE Φ (x::R6) (.call 10 (.cons (.v 0) .nil)) [.tab]=some (y,[.tab]):=by refine rwl zav ?_;refine rwl ea ?_;exact h1
 have eb:eE Φ (x::R6) (.cons (.call 10 (.cons (.v 0) .nil)) .nil) [.tab]=some (.tup [y],[.tab]):=by refine rwl zag ?_;refine rwl ed ?_;rfl
 have eh:eE Φ (x::R6) (.call 24 (.cons (.call 10 (.cons (.v 0) .nil)) .nil)) [.tab]=some (.bool true,[.tabg]):=by refine rwl zav ?_;refine rwl eb ?_;exact h2
 have er:eF Φ (.ret (.call 24 (.cons (.call 10 (.cons (.v 0) .nil)) .nil))) (x::R6,[.tab])=some (.ret (.bool true),x::R6,[.tabg]):=by refine rwl za2 ?_;refine rwl eh ?_;rfl
 refine rwl (zpf er) ?_;rfl
theorem plain(is:List Int)(hlen:is.length<=63):zac 25 25 [.lA (is.map .int)] [.tab]=some (.bool true,[.tabg]):=by
 refine xea (zni 23 wf_t hlen) λus hu hd=>?_;have hF:FOK (us.map zpB):=⟨by rw[List.length_map,hu],λf hf=>by refine xea (List.mem_map.mp hf) λv _ x0=>?_;subst x0;exact zrC v⟩
 have hh:=znI hF 17 (by decide);have hfv:fV (us.map zpB)=.lA (us.map λv=>zkS (zpB v)):=by unfold fV;refine rwl List.map_map ?_;rfl
 rw[hfv]at hh;exact zbf k_law (fl:=.ret (.bool true)) (h':=[.tabg]) (zp0 (zac 24) hd hh rfl) rfl rfl rfl rfl ⟨rfl,rfl⟩
end
section
open PySem PySem.W PyProof.Rows PySem.Calls
set_option tactic.hygienic true in
set_option maxHeartbeats 8000000 in
theorem join(plain:∀is:List Int,is.length<=63->zac 25 25 [.lA (is.map .int)] [.tab]=some (.bool true,[.tabg])):PySem.Challenge.rw_oy0178_01.Holds:=by
 w_on;refine holds_law said λsaid=>?_;refine holds_open (q:=qq) (loose:=lz) (Xt:=xt) (XP:=XL qq vv) (Yf:=hk.obs) (Ya:=hk.val) (YP:=hk.says) (N:=3062) left hk.of hk.keeps (λs e=>xl_of s (Bool.and_eq_true_iff.mp e).1) XL.keeps (by rfl) (by rfl) (by rfl) (λs e=>recFacts_of (Bool.and_eq_true_iff.mp e).2) (by rfl) (by first|assumption|decide+kernel) (by decide+kernel) ⟨rfl,rfl,rfl,rfl,rfl,by decide+kernel⟩ ?hw ?hc;case hw=>w_witness2
 intro w sF sA mg mb G Y a o pm cd doc dV kV ho hod hcr hdf hmg hgens args vals as hpre hlay hreads hwell has;refine xa Y λx0 htab=>?_;refine xea x0 λK X F=>?_;have hT:TabsAt [(zdn,zfn)] sA.heap:=λq hq=>by rw[List.mem_singleton.mp hq];exact⟨codeHd_of_K X F.kf.tab,htab⟩
 have XG:K.In (ghostOf sA.heap [(zdn,zfn)]):=ghost_K hT X F.nt;have NG:=ghost_ns hT G.T.g;let C:Cx:=⟨w,ghostOf sA.heap [(zdn,zfn)],mg,mb,K⟩;have ok:Ok C:=by
  refine⟨NG,ghost_ns hT G.T.b,(let ⟨mc,a,r⟩:=G.T.nolimit;⟨mc,ghost_ns hT a,r⟩),G.T.builtins,λx hx=>?_,XG,F.kf,?_,zrS F XG NG⟩
  ·have:=List.all_eq_true.mp F.bi x hx;split at this
   ·rename_i hn;exact mg_none_of X G.T.g hn
   ·cases this
  ·refine zcR G.T.bmain λbm ob b1 b2 b3 b4 b5 b6=>?_;have hP:sA.heap.get? zfn=some (tabObj #[]):=(hT _ (List.mem_singleton.mpr rfl)).2;have hbP:bm≠zfn:=λq=>by rw[q,hP]at b3;cases b3;cases b4
   have hbG:bm≠mainGlobals:=λq=>by refine zba G.T.g λo es ep e hd _=>?_;rw[q,e]at b3;cases b3;rw[hd]at b6;cases b6
   exact⟨bm,ob,b1,b2,hbG,hbP,ghost_ne b3 (by simpa using hbP),b4,b5,b6⟩
 refine xea (zrj hpre) λis t0 hlen=>?_;subst t0;cases hwell with
 |cons hw hr=>
 cases hr
 cases hw with
 |list hb hws=>
 rename_i b vs
 have hP:sA.heap.get? zfn=some (tabObj #[]):=(hT _ (List.mem_singleton.mpr rfl)).2
 have bP:C.base.get? zfn=none:=hideAll_none _ (List.mem_singleton.mpr rfl)
 have R:Rel prog C.w C.base.get? [zfn] [.tab] sA.heap:=by
  refine⟨λa o e=>of_hideAll _ e,rfl,λi a o e1 e2=>?_,λi a o e1 e2 _=>?_,λi j a e1 e2=>?_,λa ha=>?_⟩
  ·match i,e1,e2 with
   |0,e1,e2=>cases e1;cases e2;exact⟨rfl,hP⟩
  ·match i,e1 with
   |0,e1=>cases e1;exact bP
  ·match i,j,e1,e2 with
   |0,0,_,_=>rfl
  ·rw[List.mem_singleton.mp ha];exact⟨_,hP⟩
 refine xea (F.kf.fns ("law":Str) 25 (by decide+kernel)) λa' hns hdi=>?_
 have haa:a'=a:=by have:=mg_of X G.T.g hns;have e2:mg ("law":Str)=some (.ref a):=hmg;rw[this]at e2;cases e2;rfl
 subst haa
 have gb:C.base.get? b=some (zg0 vs.toArray 0):=ghost_get hT hb (λq=>by cases q)
 have har:zjm C C.base.get? [zfn] [.lA (is.map .int)] [.ref b]:=⟨rfl,λm v e=>by
  match m,e with
  |0,e=>cases e;refine⟨_,rfl,?_⟩;exact zah.lA' gb (zhy hws)⟩
 have run:=(zhZ (C:=C) 25 0 (by lia)).fn 25 _ _ _ _ (plain is hlen) (by decide) callerA C.base.get? [zfn] sA a' [.ref b] ⟨rfl,by decide,by decide,by decide⟩ ok (.refl _) R (zdw ok hdi) har
 refine wpAny_call (codeAny_mono (kn_post hT (cw:=Challenge.rw_oy0178_01.row.toRowW.claim) (cl:=classAt sF.heap) (mean:=ExcName.means sF.heap) (args:=[.list (is.map .int)]) (λ_ _=>rfl) (codeAny_mono run λr s' z=>?_)) λr s' z=>?_)
 ·match r,z with
  | .ok .next,z=>exact z.elim
  | .ok .brk,z=>exact z.elim
  | .ok .cont,z=>exact z.elim
  | .error _,z=>exact z.elim
  | .ok (.ret x),z=>
   refine zaj z λg' as' x' r' v'=>?_;have hx:x=.bool true:=v';subst hx;refine xee x'.same λhp tk hs'=>?_;refine⟨⟨.inl ⟨.bool true,.bool true,[],rfl,λ_=>rfl,.bool true,zop _ _,λ_=>⟨List.nodup_nil,λ_ h=>nomatch h⟩⟩,λb o e=>r'.frz _ _ (x'.gle _ _ e),?_,?_⟩,?_,trivial⟩
   ·rw[hs']
   ·rw[hs'];exact hgens
   ·refine xe x'.pre λr0 hr0=>?_;obtain⟨_,ps,e⟩:=r'.ob 0 zfn .tabg (by rw[hr0];rfl) rfl;exact⟨ps,e⟩
 ·match r,z with
  | .ok (.ret v),z=>exact z
  | .error e,z=>exact z
  | .ok .next,z=>rcases z.1 with ⟨_,_,_,q,_⟩|⟨_,_,_,q,_⟩<;>cases q
  | .ok .brk,z=>rcases z.1 with ⟨_,_,_,q,_⟩|⟨_,_,_,q,_⟩<;>cases q
  | .ok .cont,z=>rcases z.1 with ⟨_,_,_,q,_⟩|⟨_,_,_,q,_⟩<;>cases q
end
end LP.Internal
theorem PySem.Challenge.cw_oy0178_01_holds : PySem.Challenge.rw_oy0178_01.Holds :=
  LP.Internal.join LP.Internal.plain
