import PyProof.Rows.All
import Wide.All
import OpenK.AllK
import Wide.FinOn
import Lean
import PySem.Challenge.RW_nb0248_01
open PySem PySem.W PySem.Calls PyProof.Rows
set_option Elab.async false
set_option maxRecDepth 100000
set_option maxHeartbeats 8000000
set_option linter.unusedVariables false
local macro_rules | `(tactic| lk) => `(tactic| kernel_rfl)
local macro_rules | `(tactic| room) => `(tactic| first | lia | omega)
namespace Mine
abbrev OL:=List (Addr×Obj)
abbrev NM:=Str->Option Value
abbrev VP:=Value->Shared->Prop
noncomputable section
theorem cF {p1 p2 p3 p4 p5 p6:Prop}{G:Prop}(h:p1/\p2/\p3/\p4/\p5/\p6)(k:p1->p2->p3->p4->p5->p6->G):G:=k h.1 h.2.1 h.2.2.1 h.2.2.2.1 h.2.2.2.2.1 h.2.2.2.2.2
theorem cT7 {p1 p2 p3 p4 p5 p6 p7:Prop}{G:Prop}(h:p1/\p2/\p3/\p4/\p5/\p6/\p7)(k:p1->p2->p3->p4->p5->p6->p7->G):G:=k h.1 h.2.1 h.2.2.1 h.2.2.2.1 h.2.2.2.2.1 h.2.2.2.2.2.1 h.2.2.2.2.2.2
theorem cM7 {p1 p2 p3 p4 p5 p6 p7 p8:Prop}{G:Prop}(h:p1/\p2/\p3/\p4/\p5/\p6/\p7/\p8)(k:p1->p2->p3->p4->p5->p6->p7->p8->G):G:=k h.1 h.2.1 h.2.2.1 h.2.2.2.1 h.2.2.2.2.1 h.2.2.2.2.2.1 h.2.2.2.2.2.2.1 h.2.2.2.2.2.2.2
theorem dF9 {p1 p2 p3 p4 p5 p6 p7 p8 p9:Prop}{G:Prop}(h:p1/\p2/\p3/\p4/\p5/\p6/\p7/\p8/\p9)(k:p1->p2->p3->p4->p5->p6->p7->p8->p9->G):G:=k h.1 h.2.1 h.2.2.1 h.2.2.2.1 h.2.2.2.2.1 h.2.2.2.2.2.1 h.2.2.2.2.2.2.1 h.2.2.2.2.2.2.2.1 h.2.2.2.2.2.2.2.2
theorem cT8 {p1 p2 p3 p4 p5 p6 p7 p8 p9 p10:Prop}{G:Prop}(h:p1/\p2/\p3/\p4/\p5/\p6/\p7/\p8/\p9/\p10)(k:p1->p2->p3->p4->p5->p6->p7->p8->p9->p10->G):G:=k h.1 h.2.1 h.2.2.1 h.2.2.2.1 h.2.2.2.2.1 h.2.2.2.2.2.1 h.2.2.2.2.2.2.1 h.2.2.2.2.2.2.2.1 h.2.2.2.2.2.2.2.2.1 h.2.2.2.2.2.2.2.2.2
theorem dG {α:Type}{p1 p2 p3 p4 p5 p6 p7:α->Prop}{G:Prop}(h:∃ a,p1 a/\p2 a/\p3 a/\p4 a/\p5 a/\p6 a/\p7 a)(k:∀ a,p1 a->p2 a->p3 a->p4 a->p5 a->p6 a->p7 a->G):G:=h.elim λa h=>k a h.1 h.2.1 h.2.2.1 h.2.2.2.1 h.2.2.2.2.1 h.2.2.2.2.2.1 h.2.2.2.2.2.2
theorem bV8 {α:Type}{p1 p2 p3 p4 p5 p6 p7 p8 p9 p10:α->Prop}{G:Prop}(h:∃ a,p1 a/\p2 a/\p3 a/\p4 a/\p5 a/\p6 a/\p7 a/\p8 a/\p9 a/\p10 a)(k:∀ a,p1 a->p2 a->p3 a->p4 a->p5 a->p6 a->p7 a->p8 a->p9 a->p10 a->G):G:=h.elim λa h=>k a h.1 h.2.1 h.2.2.1 h.2.2.2.1 h.2.2.2.2.1 h.2.2.2.2.2.1 h.2.2.2.2.2.2.1 h.2.2.2.2.2.2.2.1 h.2.2.2.2.2.2.2.2.1 h.2.2.2.2.2.2.2.2.2
theorem cT9 {α β:Type}{p1 p2 p3 p4 p5 p6 p7 p8 p9 p10:α->β->Prop}{G:Prop}(h:∃ a b,p1 a b/\p2 a b/\p3 a b/\p4 a b/\p5 a b/\p6 a b/\p7 a b/\p8 a b/\p9 a b/\p10 a b)(k:∀ a b,p1 a b->p2 a b->p3 a b->p4 a b->p5 a b->p6 a b->p7 a b->p8 a b->p9 a b->p10 a b->G):G:=h.elim λa h=>h.elim λb h=>k a b h.1 h.2.1 h.2.2.1 h.2.2.2.1 h.2.2.2.2.1 h.2.2.2.2.2.1 h.2.2.2.2.2.2.1 h.2.2.2.2.2.2.2.1 h.2.2.2.2.2.2.2.2.1 h.2.2.2.2.2.2.2.2.2
theorem cU {α β γ δ:Type}{p1 p2 p3 p4 p5 p6 p7 p8 p9 p10 p11 p12 p13 p14:α->β->γ->δ->Prop}{G:Prop}(h:∃ a b c d,p1 a b c d/\p2 a b c d/\p3 a b c d/\p4 a b c d/\p5 a b c d/\p6 a b c d/\p7 a b c d/\p8 a b c d/\p9 a b c d/\p10 a b c d/\p11 a b c d/\p12 a b c d/\p13 a b c d/\p14 a b c d)(k:∀ a b c d,p1 a b c d->p2 a b c d->p3 a b c d->p4 a b c d->p5 a b c d->p6 a b c d->p7 a b c d->p8 a b c d->p9 a b c d->p10 a b c d->p11 a b c d->p12 a b c d->p13 a b c d->p14 a b c d->G):G:=h.elim λa h=>h.elim λb h=>h.elim λc h=>h.elim λd h=>k a b c d h.1 h.2.1 h.2.2.1 h.2.2.2.1 h.2.2.2.2.1 h.2.2.2.2.2.1 h.2.2.2.2.2.2.1 h.2.2.2.2.2.2.2.1 h.2.2.2.2.2.2.2.2.1 h.2.2.2.2.2.2.2.2.2.1 h.2.2.2.2.2.2.2.2.2.2.1 h.2.2.2.2.2.2.2.2.2.2.2.1 h.2.2.2.2.2.2.2.2.2.2.2.2.1 h.2.2.2.2.2.2.2.2.2.2.2.2.2
theorem dG0 {α β γ δ ε ζ η:Type}{p1 p2:α->β->γ->δ->ε->ζ->η->Prop}{G:Prop}(h:∃ a b c d e f g,p1 a b c d e f g/\p2 a b c d e f g)(k:∀ a b c d e f g,p1 a b c d e f g->p2 a b c d e f g->G):G:=h.elim λa h=>h.elim λb h=>h.elim λc h=>h.elim λd h=>h.elim λe h=>h.elim λf h=>h.elim λg h=>k a b c d e f g h.1 h.2
theorem aB {p1 p2:Prop}{G:Prop}(h:p1/\p2)(k:p1->p2->G):G:=k h.1 h.2
theorem aC5 {p1 p2 p3:Prop}{G:Prop}(h:p1/\p2/\p3)(k:p1->p2->p3->G):G:=k h.1 h.2.1 h.2.2
theorem aO7 {p1 p2 p3 p4:Prop}{G:Prop}(h:p1/\p2/\p3/\p4)(k:p1->p2->p3->p4->G):G:=k h.1 h.2.1 h.2.2.1 h.2.2.2
theorem aL1 {p1 p2 p3 p4 p5:Prop}{G:Prop}(h:p1/\p2/\p3/\p4/\p5)(k:p1->p2->p3->p4->p5->G):G:=k h.1 h.2.1 h.2.2.1 h.2.2.2.1 h.2.2.2.2
theorem aA3 {α:Sort _}{p1:α->Prop}{G:Prop}(h:∃ a,p1 a)(k:∀ a,p1 a->G):G:=h.elim λa h=>k a h
theorem aA1 {α:Type}{p1 p2:α->Prop}{G:Prop}(h:∃ a,p1 a/\p2 a)(k:∀ a,p1 a->p2 a->G):G:=h.elim λa h=>k a h.1 h.2
theorem aC8 {α:Type}{p1 p2 p3:α->Prop}{G:Prop}(h:∃ a,p1 a/\p2 a/\p3 a)(k:∀ a,p1 a->p2 a->p3 a->G):G:=h.elim λa h=>k a h.1 h.2.1 h.2.2
theorem aV3 {α:Type}{p1 p2 p3 p4:α->Prop}{G:Prop}(h:∃ a,p1 a/\p2 a/\p3 a/\p4 a)(k:∀ a,p1 a->p2 a->p3 a->p4 a->G):G:=h.elim λa h=>k a h.1 h.2.1 h.2.2.1 h.2.2.2
theorem bD5 {α β:Type}{p1:α->β->Prop}{G:Prop}(h:∃ a b,p1 a b)(k:∀ a b,p1 a b->G):G:=h.elim λa h=>h.elim λb h=>k a b h
theorem bD6 {α β:Type}{p1 p2:α->β->Prop}{G:Prop}(h:∃ a b,p1 a b/\p2 a b)(k:∀ a b,p1 a b->p2 a b->G):G:=h.elim λa h=>h.elim λb h=>k a b h.1 h.2
theorem aB0 {α β:Type}{p1 p2 p3:α->β->Prop}{G:Prop}(h:∃ a b,p1 a b/\p2 a b/\p3 a b)(k:∀ a b,p1 a b->p2 a b->p3 a b->G):G:=h.elim λa h=>h.elim λb h=>k a b h.1 h.2.1 h.2.2
theorem bD7 {α β:Type}{p1 p2 p3 p4:α->β->Prop}{G:Prop}(h:∃ a b,p1 a b/\p2 a b/\p3 a b/\p4 a b)(k:∀ a b,p1 a b->p2 a b->p3 a b->p4 a b->G):G:=h.elim λa h=>h.elim λb h=>k a b h.1 h.2.1 h.2.2.1 h.2.2.2
theorem bL3 {α β:Type}{p1 p2 p3 p4 p5:α->β->Prop}{G:Prop}(h:∃ a b,p1 a b/\p2 a b/\p3 a b/\p4 a b/\p5 a b)(k:∀ a b,p1 a b->p2 a b->p3 a b->p4 a b->p5 a b->G):G:=h.elim λa h=>h.elim λb h=>k a b h.1 h.2.1 h.2.2.1 h.2.2.2.1 h.2.2.2.2
theorem cF0 {α β γ:Type}{p1 p2:α->β->γ->Prop}{G:Prop}(h:∃ a b c,p1 a b c/\p2 a b c)(k:∀ a b c,p1 a b c->p2 a b c->G):G:=h.elim λa h=>h.elim λb h=>h.elim λc h=>k a b c h.1 h.2
theorem aM6 {α β γ:Type}{p1 p2 p3:α->β->γ->Prop}{G:Prop}(h:∃ a b c,p1 a b c/\p2 a b c/\p3 a b c)(k:∀ a b c,p1 a b c->p2 a b c->p3 a b c->G):G:=h.elim λa h=>h.elim λb h=>h.elim λc h=>k a b c h.1 h.2.1 h.2.2
theorem bL4 {α β γ:Type}{p1 p2 p3 p4:α->β->γ->Prop}{G:Prop}(h:∃ a b c,p1 a b c/\p2 a b c/\p3 a b c/\p4 a b c)(k:∀ a b c,p1 a b c->p2 a b c->p3 a b c->p4 a b c->G):G:=h.elim λa h=>h.elim λb h=>h.elim λc h=>k a b c h.1 h.2.1 h.2.2.1 h.2.2.2
theorem bG6 {α β γ:Type}{p1 p2 p3 p4 p5:α->β->γ->Prop}{G:Prop}(h:∃ a b c,p1 a b c/\p2 a b c/\p3 a b c/\p4 a b c/\p5 a b c)(k:∀ a b c,p1 a b c->p2 a b c->p3 a b c->p4 a b c->p5 a b c->G):G:=h.elim λa h=>h.elim λb h=>h.elim λc h=>k a b c h.1 h.2.1 h.2.2.1 h.2.2.2.1 h.2.2.2.2
theorem cM8 {α β γ δ:Type}{p1 p2 p3 p4 p5:α->β->γ->δ->Prop}{G:Prop}(h:∃ a b c d,p1 a b c d/\p2 a b c d/\p3 a b c d/\p4 a b c d/\p5 a b c d)(k:∀ a b c d,p1 a b c d->p2 a b c d->p3 a b c d->p4 a b c d->p5 a b c d->G):G:=h.elim λa h=>h.elim λb h=>h.elim λc h=>h.elim λd h=>k a b c d h.1 h.2.1 h.2.2.1 h.2.2.2.1 h.2.2.2.2
theorem cM9 {α β γ δ:Type}{p1 p2 p3 p4 p5 p6:α->β->γ->δ->Prop}{G:Prop}(h:∃ a b c d,p1 a b c d/\p2 a b c d/\p3 a b c d/\p4 a b c d/\p5 a b c d/\p6 a b c d)(k:∀ a b c d,p1 a b c d->p2 a b c d->p3 a b c d->p4 a b c d->p5 a b c d->p6 a b c d->G):G:=h.elim λa h=>h.elim λb h=>h.elim λc h=>h.elim λd h=>k a b c d h.1 h.2.1 h.2.2.1 h.2.2.2.1 h.2.2.2.2.1 h.2.2.2.2.2
theorem dG1 {α β γ δ ε:Type}{p1 p2 p3 p4:α->β->γ->δ->ε->Prop}{G:Prop}(h:∃ a b c d e,p1 a b c d e/\p2 a b c d e/\p3 a b c d e/\p4 a b c d e)(k:∀ a b c d e,p1 a b c d e->p2 a b c d e->p3 a b c d e->p4 a b c d e->G):G:=h.elim λa h=>h.elim λb h=>h.elim λc h=>h.elim λd h=>h.elim λe h=>k a b c d e h.1 h.2.1 h.2.2.1 h.2.2.2
theorem bG7 {α β γ δ ε:Type}{p1 p2 p3 p4 p5 p6:α->β->γ->δ->ε->Prop}{G:Prop}(h:∃ a b c d e,p1 a b c d e/\p2 a b c d e/\p3 a b c d e/\p4 a b c d e/\p5 a b c d e/\p6 a b c d e)(k:∀ a b c d e,p1 a b c d e->p2 a b c d e->p3 a b c d e->p4 a b c d e->p5 a b c d e->p6 a b c d e->G):G:=h.elim λa h=>h.elim λb h=>h.elim λc h=>h.elim λd h=>h.elim λe h=>k a b c d e h.1 h.2.1 h.2.2.1 h.2.2.2.1 h.2.2.2.2.1 h.2.2.2.2.2
theorem dG2 {α β γ δ ε:Type}{p1 p2 p3 p4 p5 p6 p7 p8 p9:α->β->γ->δ->ε->Prop}{G:Prop}(h:∃ a b c d e,p1 a b c d e/\p2 a b c d e/\p3 a b c d e/\p4 a b c d e/\p5 a b c d e/\p6 a b c d e/\p7 a b c d e/\p8 a b c d e/\p9 a b c d e)(k:∀ a b c d e,p1 a b c d e->p2 a b c d e->p3 a b c d e->p4 a b c d e->p5 a b c d e->p6 a b c d e->p7 a b c d e->p8 a b c d e->p9 a b c d e->G):G:=h.elim λa h=>h.elim λb h=>h.elim λc h=>h.elim λd h=>h.elim λe h=>k a b c d e h.1 h.2.1 h.2.2.1 h.2.2.2.1 h.2.2.2.2.1 h.2.2.2.2.2.1 h.2.2.2.2.2.2.1 h.2.2.2.2.2.2.2.1 h.2.2.2.2.2.2.2.2
theorem cU0 {α β γ δ ε ζ:Type}{p1 p2 p3 p4 p5 p6 p7 p8:α->β->γ->δ->ε->ζ->Prop}{G:Prop}(h:∃ a b c d e f,p1 a b c d e f/\p2 a b c d e f/\p3 a b c d e f/\p4 a b c d e f/\p5 a b c d e f/\p6 a b c d e f/\p7 a b c d e f/\p8 a b c d e f)(k:∀ a b c d e f,p1 a b c d e f->p2 a b c d e f->p3 a b c d e f->p4 a b c d e f->p5 a b c d e f->p6 a b c d e f->p7 a b c d e f->p8 a b c d e f->G):G:=h.elim λa h=>h.elim λb h=>h.elim λc h=>h.elim λd h=>h.elim λe h=>h.elim λf h=>k a b c d e f h.1 h.2.1 h.2.2.1 h.2.2.2.1 h.2.2.2.2.1 h.2.2.2.2.2.1 h.2.2.2.2.2.2.1 h.2.2.2.2.2.2.2
theorem dL0 {α β γ δ ε ζ η:Type}{p1 p2 p3 p4 p5 p6 p7:α->β->γ->δ->ε->ζ->η->Prop}{G:Prop}(h:∃ a b c d e f g,p1 a b c d e f g/\p2 a b c d e f g/\p3 a b c d e f g/\p4 a b c d e f g/\p5 a b c d e f g/\p6 a b c d e f g/\p7 a b c d e f g)(k:∀ a b c d e f g,p1 a b c d e f g->p2 a b c d e f g->p3 a b c d e f g->p4 a b c d e f g->p5 a b c d e f g->p6 a b c d e f g->p7 a b c d e f g->G):G:=h.elim λa h=>h.elim λb h=>h.elim λc h=>h.elim λd h=>h.elim λe h=>h.elim λf h=>h.elim λg h=>k a b c d e f g h.1 h.2.1 h.2.2.1 h.2.2.2.1 h.2.2.2.2.1 h.2.2.2.2.2.1 h.2.2.2.2.2.2
theorem cU1 {α β γ δ ε ζ η:Type}{p1 p2 p3 p4 p5 p6 p7 p8:α->β->γ->δ->ε->ζ->η->Prop}{G:Prop}(h:∃ a b c d e f g,p1 a b c d e f g/\p2 a b c d e f g/\p3 a b c d e f g/\p4 a b c d e f g/\p5 a b c d e f g/\p6 a b c d e f g/\p7 a b c d e f g/\p8 a b c d e f g)(k:∀ a b c d e f g,p1 a b c d e f g->p2 a b c d e f g->p3 a b c d e f g->p4 a b c d e f g->p5 a b c d e f g->p6 a b c d e f g->p7 a b c d e f g->p8 a b c d e f g->G):G:=h.elim λa h=>h.elim λb h=>h.elim λc h=>h.elim λd h=>h.elim λe h=>h.elim λf h=>h.elim λg h=>k a b c d e f g h.1 h.2.1 h.2.2.1 h.2.2.2.1 h.2.2.2.2.1 h.2.2.2.2.2.1 h.2.2.2.2.2.2.1 h.2.2.2.2.2.2.2
theorem cU2 {α β γ δ ε ζ η:Type}{p1 p2 p3 p4 p5 p6 p7 p8 p9:α->β->γ->δ->ε->ζ->η->Prop}{G:Prop}(h:∃ a b c d e f g,p1 a b c d e f g/\p2 a b c d e f g/\p3 a b c d e f g/\p4 a b c d e f g/\p5 a b c d e f g/\p6 a b c d e f g/\p7 a b c d e f g/\p8 a b c d e f g/\p9 a b c d e f g)(k:∀ a b c d e f g,p1 a b c d e f g->p2 a b c d e f g->p3 a b c d e f g->p4 a b c d e f g->p5 a b c d e f g->p6 a b c d e f g->p7 a b c d e f g->p8 a b c d e f g->p9 a b c d e f g->G):G:=h.elim λa h=>h.elim λb h=>h.elim λc h=>h.elim λd h=>h.elim λe h=>h.elim λf h=>h.elim λg h=>k a b c d e f g h.1 h.2.1 h.2.2.1 h.2.2.2.1 h.2.2.2.2.1 h.2.2.2.2.2.1 h.2.2.2.2.2.2.1 h.2.2.2.2.2.2.2.1 h.2.2.2.2.2.2.2.2
theorem dG3 {α β γ δ ε ζ η θ:Type}{p1 p2 p3 p4 p5 p6 p7 p8 p9:α->β->γ->δ->ε->ζ->η->θ->Prop}{G:Prop}(h:∃ a b c d e f g x,p1 a b c d e f g x/\p2 a b c d e f g x/\p3 a b c d e f g x/\p4 a b c d e f g x/\p5 a b c d e f g x/\p6 a b c d e f g x/\p7 a b c d e f g x/\p8 a b c d e f g x/\p9 a b c d e f g x)(k:∀ a b c d e f g x,p1 a b c d e f g x->p2 a b c d e f g x->p3 a b c d e f g x->p4 a b c d e f g x->p5 a b c d e f g x->p6 a b c d e f g x->p7 a b c d e f g x->p8 a b c d e f g x->p9 a b c d e f g x->G):G:=h.elim λa h=>h.elim λb h=>h.elim λc h=>h.elim λd h=>h.elim λe h=>h.elim λf h=>h.elim λg h=>h.elim λx h=>k a b c d e f g x h.1 h.2.1 h.2.2.1 h.2.2.2.1 h.2.2.2.2.1 h.2.2.2.2.2.1 h.2.2.2.2.2.2.1 h.2.2.2.2.2.2.2.1 h.2.2.2.2.2.2.2.2
theorem lz {p:Nat->Prop}:∀ k,k<0->p k:=λ_ h=>absurd h (Nat.not_lt_zero _)
theorem ls {p:Nat->Prop}{n:Nat}(a:∀ k,k<n->p k)(b:p n):∀ k,k<n+1->p k:=λk h=>(Nat.lt_succ_iff_lt_or_eq.mp h).elim (a k) λe=>e ▸ b
noncomputable abbrev pw:Program:=PySem.Challenge.pw_nb0248_01
noncomputable abbrev u (x:String):Str:=Str.ofString x
noncomputable def aM3:Pos:=⟨0,0,0,0⟩
noncomputable def aT0:Arguments:=⟨[],[],none,[],[],none,[]⟩
noncomputable def aA0 (i:Nat):Stmt:=(pw.main.body[i]?).getD (.Pass aM3)
noncomputable def stX:Stmt->(Expr×List Stmt)×(Str×Arguments×Scope)×Expr×Pos
 | .FunctionDef n a b _ _ _ c _ _ p=>((default,b),(n,a,c),default,p)
 | .ClassDef _ _ _ b _ _ _ _ _ _ p=>((default,b),(default,aT0,default),default,p)
 | .Assign g e p=>((e,[]),(default,aT0,default),g.headD default,p)
 | .Return e p=>((e.getD default,[]),(default,aT0,default),default,p)
 | .For _ _ b _ p=>((default,b),(default,aT0,default),default,p)
 | .If c b o p=>((c,b++o),(default,aT0,default),default,p)
 | _=>((default,[]),(default,aT0,default),default,aM3)
noncomputable def stE (s:Stmt):Expr×List Stmt:=(stX s).1
noncomputable def dK9 (s:Stmt):Str:=(stX s).2.1.1
noncomputable def cU3 (s:Stmt):Arguments:=(stX s).2.1.2.1
noncomputable def cN (s:Stmt):Scope:=(stX s).2.1.2.2
noncomputable def aB1 (s:Stmt):List Stmt:=(stX s).1.2
noncomputable def cU4 (s:Stmt):List Stmt:=(stX s).1.2
noncomputable def mAt (i j:Nat):Stmt:=((cU4 (aA0 i))[j]?).getD (.Pass aM3)
noncomputable def exX:Expr->(List Expr×Scope×Pos)×Const×Nat
 | .ListComp _ g sc p=>((g.flatMap (·.ifs),sc,p),default)
 | .Tuple es _ p=>((es,default,p),default)
 | .List es p=>((es,default,p),default)
 | .Compare l _ r p=>((l::r,default,p),default)
 | .Call f as _ p=>((f::as,default,p),default)
 | .BinOp l _ r p=>(([l,r],default,p),default)
 | .Name _ p=>(([],default,p),default)
 | .Constant c n p=>(([],default,p),c,n)
 | _=>(([],default,aM3),default)
noncomputable def exE (e:Expr):List Expr×Scope×Pos:=(exX e).1
noncomputable def inS (l:List Stmt)(i:Nat):Stmt:=(l[i]?).getD (.Pass aM3)
noncomputable def inE (e:Expr)(i:Nat):Expr:=((exE e).1[i]?).getD default
noncomputable def scE (e:Expr):Scope:=(exE e).2.1
noncomputable def e (P:Params)(k:String)(t:Nat)(v:Value):DictEntry:=⟨PyData.keyHash P (u k), .str (u k) t,v⟩
noncomputable def lf (P:Params):Life:=(boot_heap P).life
noncomputable def ann:Option Value:=some (.ref 6)
noncomputable def fq:Pos:=aM3
noncomputable def env:Env:={ scope:=pw.main.scope,locals:=mainNs,globals:=mainNs,cells:=[],code:= .ref 13,frame:=some 14 }
noncomputable def cB:Code:= .body (behindTheImports pw) env
noncomputable def fT (n q:String)(s:Stmt)(c m d k:Value)(g:Nat):Obj:=⟨c,none, .func { name:=u n,qualname:=u q,params:=cU3 s,body:= .stmts (aB1 s),scope:=cN s,globals:=g,closure:=[],defaults:=d,kwdefaults:= .none,doc:= .none,pyModule:=m,annotations:=none,code:=k,closureTuple:= .none,builtins:=0 }, #[]⟩
noncomputable def fP (n q:String)(s:Stmt):Obj:=fT n q s .none .none .none .none 0
noncomputable def fF (n q:String)(s:Stmt)(m:Value)(k:Nat):Obj:=fT n q s (.type "function") m .none (.ref k) 3
noncomputable def mm:Value:= .str (u "__main__") 164
noncomputable def mg:Value:= .str (u "cpy313.graphlib") 194
noncomputable def ms:Value:= .str (u "cpy313.stringprep") 376
noncomputable def ml:Value:= .str (u "law_nb0248_01") 771
noncomputable def cO (n q:String)(i:Nat)(l b c:Int)(r:Nat)(k:Bool)(s:Nat)(x y z:Value)(e:Nat):Obj:=⟨.type "code",none, .fields #[.str (u n) i, .str (u q) (i+1), .str (u "/claim/cut.py") (i+2), .int l 0, .int b 0, .int 0 0, .int 0 0, .int c 0, .ref r, .bool k, .int 181 0, .ref s, .none,x,y,z, .int (.ofNat e) 0, .int l 0, .str (u "/claim/cut.py") (e+1)], #[]⟩
noncomputable def tO (l:List Value):Obj:=⟨.type "tuple",none, .seq ⟨l⟩ 0, #[]⟩
noncomputable def lO (l:List Value):Obj:=⟨.type "list",none, .seq ⟨l⟩ 0, #[]⟩
noncomputable def fO (l:List Value):Obj:=⟨.none,none, .fields ⟨l⟩, #[]⟩
noncomputable def dO (l:List DictEntry)(n:Nat):Obj:=⟨.type "dict",none, .dict ⟨l⟩ n, #[]⟩
noncomputable def rO (a:Int)(t:Nat)(b:Int):Obj:=⟨.type "range",none, .fields #[.int a t, .int b (t+1), .int 1 (t+2)], #[]⟩
noncomputable def vs (x:String)(t:Nat):Value:= .str (u x) t
noncomputable def vi (x:Int)(t:Nat):Value:= .int x t
noncomputable def si (x:Int)(t:Nat):Int×Value:=(x, .int x t)
noncomputable def tr (a b:Int)(r:Nat)(l:List Value):List Value:= .int a 0:: .int b 0:: .ref r::l
noncomputable def tE:Obj:=tO []
noncomputable def fE:Obj:=fO []
noncomputable def o13:Obj:=cO "<module>" "<module>" 182 1 0 0 11 false 12 .none .none .none 185
noncomputable def o14:Obj:=⟨(.type "frame"),none, .plain, #[(some (.ref 13)),(some (.ref 3)),(some (.ref 3)),none,(some (vs "__main__" 164)),none,(some (.ref 0))]⟩
noncomputable def w1 (P:Params)(m:Value)(l:List DictEntry):List DictEntry:=e P "__name__" 165 m::e P "__doc__" 166 .none::e P "__package__" 167 .none::e P "__loader__" 168 (.builtin "__main__.__loader__#opaque")::e P "__spec__" 169 .none::e P "__annotations__" 170 (.ref 6)::e P "__builtins__" 171 (.ref 4)::e P "__file__" 173 (vs "/claim/cut.py" 172)::e P "__cached__" 174 .none::e P "_wall" 193 (.ref 21)::e P "_NODE_OUT" 198 (vi (-1) 197)::e P "_NODE_DONE" 201 (vi (-2) 200)::l
noncomputable def dG4 (P:Params):Obj:=dO (w1 P mg []) 12
noncomputable def y1 (l:List Value):List Value:=tr 1 0 20 l
noncomputable def cU5:Obj:=fO (y1 [])
noncomputable def o17:Obj:=tO [vs "k" 190]
noncomputable def o19:Obj:=fP "_wall" "_wall" (aA0 0)
noncomputable def o20:Obj:=cO "_wall" "_wall" 187 1 1 3 15 true 16 (.ref 17) (.ref 18) (.ref 19) 191
noncomputable def o21:Obj:=fF "_wall" "_wall" (aA0 0) mm 20
noncomputable def w2 (P:Params)(m:Value)(l:List DictEntry):List DictEntry:=w1 P m (e P "_NodeInfo" 238 (.ref 40)::l)
noncomputable def dG5 (P:Params):Obj:=dO (w2 P mg []) 13
noncomputable def y2 (l:List Value):List Value:=y1 (tr 7 0 27 l)
noncomputable def cU6:Obj:=fO (y2 [])
noncomputable def o23:Obj:=⟨(.type "builtin_function_or_method"),none,(.fields #[.builtin "type.__prepare__", .type "type"]), #[]⟩
noncomputable def o24 (P:Params):Obj:=dO [e P "__module__" 209 mg,e P "__qualname__" 211 (vs "_NodeInfo" 210),e P "__firstlineno__" 213 (vi 7 212),e P "__slots__" 217 (.ref 29),e P "__init__" 225 (.ref 36),e P "__static_attributes__" 229 (.ref 37)] 6
noncomputable def o26:Obj:=fO (tr 10 4 35 [])
noncomputable def o27:Obj:=cO "_NodeInfo" "_NodeInfo" 204 7 0 0 25 false 26 .none .none .none 207
noncomputable def o28:Obj:=⟨(.type "frame"),none, .plain, #[(some (.ref 27)),(some (.ref 3)),(some (.ref 24)),none,(some mg),none,(some (.ref 0))]⟩
noncomputable def o29:Obj:=tO [vs "node" 214,vs "npredecessors" 215,vs "successors" 216]
noncomputable def o32:Obj:=tO [vs "self" 221,vs "node" 222]
noncomputable def o34:Obj:=fP "__init__" "_NodeInfo.__init__" (mAt 4 1)
noncomputable def o35:Obj:=cO "__init__" "_NodeInfo.__init__" 218 10 2 3 30 true 31 (.ref 32) (.ref 33) (.ref 34) 223
noncomputable def o36:Obj:=fF "__init__" "_NodeInfo.__init__" (mAt 4 1) mg 35
noncomputable def o37:Obj:=tO [vs "node" 226,vs "npredecessors" 227,vs "successors" 228]
noncomputable def o38:Obj:=⟨(.type "list"),none,(.seq #[vs "node" 214,vs "npredecessors" 215,vs "successors" 216] 1), #[]⟩
noncomputable def o39 (P:Params):Obj:=dO [e P "__module__" 209 mg,e P "__firstlineno__" 213 (vi 7 212),e P "__slots__" 217 (.ref 29),e P "__init__" 225 (.ref 36),e P "__static_attributes__" 229 (.ref 37),e P "node" 231 (.ref 41),e P "npredecessors" 233 (.ref 42),e P "successors" 235 (.ref 43),e P "__doc__" 236 .none] 5
noncomputable def o40:Obj:=⟨(.type "type"),none,(.cls { name:=(u "_NodeInfo"),bases:=[.type "object"],mro:=[.ref 40, .type "object"],ns:=39,qualname:=(u "_NodeInfo"),hasDict:=false,slotNames:=[(u "node"),(u "npredecessors"),(u "successors")],subclasses:=[],abstract:=false,collection:=none,hasDel:=false }), #[none,none,(some (vs "_NodeInfo" 202)),(some (vs "_NodeInfo" 210)),(some (.builtin "object.__new__")),(some (.bool false))]⟩
noncomputable def o41:Obj:=⟨(.type "member_descriptor"),none,(.fields #[vs "node" 230, .ref 40, .builtin "proto.slot", .builtin "proto.slot#set",vi 2 0]), #[]⟩
noncomputable def o42:Obj:=⟨(.type "member_descriptor"),none,(.fields #[vs "npredecessors" 232, .ref 40, .builtin "proto.slot", .builtin "proto.slot#set",vi 1 0]), #[]⟩
noncomputable def o43:Obj:=⟨(.type "member_descriptor"),none,(.fields #[vs "successors" 234, .ref 40, .builtin "proto.slot", .builtin "proto.slot#set",vi 0 0]), #[]⟩
noncomputable def o44:Obj:=⟨(.type "super"),none,(.fields #[.ref 40, .ref 40, .ref 40]), #[]⟩
noncomputable def o45:Obj:=⟨(.type "builtin_function_or_method"),none,(.fields #[.builtin "object.__init_subclass__", .ref 40]), #[]⟩
noncomputable def w3 (P:Params)(m:Value)(l:List DictEntry):List DictEntry:=w2 P m (e P "CycleError" 256 (.ref 55)::l)
noncomputable def dG6 (P:Params):Obj:=dO (w3 P mg []) 14
noncomputable def y3 (l:List Value):List Value:=y2 (tr 14 0 51 l)
noncomputable def cU7:Obj:=fO (y3 [])
noncomputable def o46:Obj:=tO [.type "ValueError"]
noncomputable def o48 (P:Params):Obj:=dO [e P "__module__" 246 mg,e P "__qualname__" 248 (vs "CycleError" 247),e P "__firstlineno__" 250 (vi 14 249),e P "__static_attributes__" 251 (.ref 53)] 4
noncomputable def o51:Obj:=cO "CycleError" "CycleError" 241 14 0 0 49 false 50 .none .none .none 244
noncomputable def o52:Obj:=⟨(.type "frame"),none, .plain, #[(some (.ref 51)),(some (.ref 3)),(some (.ref 48)),none,(some mg),none,(some (.ref 0))]⟩
noncomputable def o54 (P:Params):Obj:=dO [e P "__module__" 246 mg,e P "__firstlineno__" 250 (vi 14 249),e P "__static_attributes__" 251 (.ref 53),e P "__weakref__" 253 (.ref 56),e P "__doc__" 254 .none] 3
noncomputable def o55:Obj:=⟨(.type "type"),none,(.cls { name:=(u "CycleError"),bases:=[.type "ValueError"],mro:=[.ref 55, .type "ValueError", .type "Exception", .type "BaseException", .type "object"],ns:=54,qualname:=(u "CycleError"),hasDict:=true,slotNames:=[],subclasses:=[],abstract:=false,collection:=none,hasDel:=false }), #[(some (.ref 46)),none,(some (vs "CycleError" 239)),(some (vs "CycleError" 247)),(some (.builtin "ValueError.__new__")),(some (.bool true))]⟩
noncomputable def o56:Obj:=⟨(.type "getset_descriptor"),none,(.fields #[vs "__weakref__" 252, .ref 55, .builtin "ExceptionGroup.__weakref__", .none]), #[]⟩
noncomputable def o57:Obj:=⟨(.type "super"),none,(.fields #[.ref 55, .ref 55, .ref 55]), #[]⟩
noncomputable def o58:Obj:=⟨(.type "builtin_function_or_method"),none,(.fields #[.builtin "object.__init_subclass__", .ref 55]), #[]⟩
noncomputable def w4 (P:Params)(m:Value)(l:List DictEntry):List DictEntry:=w3 P m (e P "TopologicalSorter" 375 (.ref 137)::l)
noncomputable def dG7 (P:Params):Obj:=dO (w4 P mg []) 15
noncomputable def y4 (l:List Value):List Value:=y3 (tr 16 0 64 l)
noncomputable def cL7:Obj:=fO (y4 [])
noncomputable def o61 (P:Params):Obj:=dO [e P "__module__" 264 mg,e P "__qualname__" 266 (vs "TopologicalSorter" 265),e P "__firstlineno__" 268 (vi 16 267),e P "__init__" 278 (.ref 73),e P "_get_nodeinfo" 287 (.ref 80),e P "add" 299 (.ref 87),e P "prepare" 305 (.ref 92),e P "get_ready" 315 (.ref 99),e P "is_active" 322 (.ref 106),e P "__bool__" 329 (.ref 113),e P "done" 343 (.ref 120),e P "_find_cycle" 356 (.ref 127),e P "static_order" 363 (.ref 134),e P "__static_attributes__" 368 (.ref 135)] 14
noncomputable def o63:Obj:=fO (tr 18 4 72 (tr 27 4 79 (tr 32 4 86 (tr 41 4 91 (tr 49 4 98 (tr 60 4 105 (tr 65 4 112 (tr 68 4 119 (tr 91 4 126 (tr 120 4 133 []))))))))))
noncomputable def o64:Obj:=cO "TopologicalSorter" "TopologicalSorter" 259 16 0 0 62 false 63 .none .none .none 262
noncomputable def o65:Obj:=⟨(.type "frame"),none, .plain, #[(some (.ref 64)),(some (.ref 3)),(some (.ref 61)),none,(some mg),none,(some (.ref 0))]⟩
noncomputable def o66:Obj:=tO [.none]
noncomputable def o69:Obj:=tO [vs "self" 272,vs "graph" 273,vs "node" 274,vs "predecessors" 275]
noncomputable def o71:Obj:=fP "__init__" "TopologicalSorter.__init__" (mAt 6 0)
noncomputable def o72:Obj:=cO "__init__" "TopologicalSorter.__init__" 269 18 2 3 67 true 68 (.ref 69) (.ref 70) (.ref 71) 276
noncomputable def o73:Obj:=fT "__init__" "TopologicalSorter.__init__" (mAt 6 0) (.type "function") mg (.ref 66) (.ref 72) 3
noncomputable def o76:Obj:=tO [vs "self" 282,vs "node" 283,vs "result" 284]
noncomputable def o78:Obj:=fP "_get_nodeinfo" "TopologicalSorter._get_nodeinfo" (mAt 6 1)
noncomputable def o79:Obj:=cO "_get_nodeinfo" "TopologicalSorter._get_nodeinfo" 279 27 2 3 74 true 75 (.ref 76) (.ref 77) (.ref 78) 285
noncomputable def o80:Obj:=fF "_get_nodeinfo" "TopologicalSorter._get_nodeinfo" (mAt 6 1) mg 79
noncomputable def o83:Obj:=tO [vs "self" 291,vs "node" 292,vs "predecessors" 293,vs "nodeinfo" 294,vs "pred" 295,vs "pred_info" 296]
noncomputable def o85:Obj:=fP "add" "TopologicalSorter.add" (mAt 6 2)
noncomputable def o86:Obj:=cO "add" "TopologicalSorter.add" 288 32 2 7 81 true 82 (.ref 83) (.ref 84) (.ref 85) 297
noncomputable def o87:Obj:=fF "add" "TopologicalSorter.add" (mAt 6 2) mg 86
noncomputable def o90:Obj:=fP "prepare" "TopologicalSorter.prepare" (mAt 6 3)
noncomputable def o91:Obj:=cO "prepare" "TopologicalSorter.prepare" 300 41 1 3 88 true 89 .none .none (.ref 90) 303
noncomputable def o92:Obj:=fF "prepare" "TopologicalSorter.prepare" (mAt 6 3) mg 91
noncomputable def o95:Obj:=tO [vs "self" 309,vs "result" 310,vs "n2i" 311,vs "node" 312]
noncomputable def o97:Obj:=fP "get_ready" "TopologicalSorter.get_ready" (mAt 6 4)
noncomputable def o98:Obj:=cO "get_ready" "TopologicalSorter.get_ready" 306 49 1 3 93 true 94 (.ref 95) (.ref 96) (.ref 97) 313
noncomputable def o99:Obj:=fF "get_ready" "TopologicalSorter.get_ready" (mAt 6 4) mg 98
noncomputable def bG8:Obj:=tO [vs "self" 319]
noncomputable def bL5:Obj:=fP "is_active" "TopologicalSorter.is_active" (mAt 6 5)
noncomputable def bS3:Obj:=cO "is_active" "TopologicalSorter.is_active" 316 60 1 3 100 true 101 (.ref 102) (.ref 103) (.ref 104) 320
noncomputable def bD8:Obj:=fF "is_active" "TopologicalSorter.is_active" (mAt 6 5) mg 105
noncomputable def bV9:Obj:=tO [vs "self" 326]
noncomputable def bS4:Obj:=fP "__bool__" "TopologicalSorter.__bool__" (mAt 6 6)
noncomputable def bL6:Obj:=cO "__bool__" "TopologicalSorter.__bool__" 323 65 1 3 107 true 108 (.ref 109) (.ref 110) (.ref 111) 327
noncomputable def bS5:Obj:=fF "__bool__" "TopologicalSorter.__bool__" (mAt 6 6) mg 112
noncomputable def bS6:Obj:=tO [vs "self" 333,vs "nodes" 334,vs "n2i" 335,vs "node" 336,vs "nodeinfo" 337,vs "stat" 338,vs "successor" 339,vs "successor_info" 340]
noncomputable def bL7:Obj:=fP "done" "TopologicalSorter.done" (mAt 6 7)
noncomputable def bG9:Obj:=cO "done" "TopologicalSorter.done" 330 68 1 7 114 true 115 (.ref 116) (.ref 117) (.ref 118) 341
noncomputable def aM7:Obj:=fF "done" "TopologicalSorter.done" (mAt 6 7) mg 119
noncomputable def bS7:Obj:=tO [vs "self" 347,vs "n2i" 348,vs "stack" 349,vs "itstack" 350,vs "seen" 351,vs "node2stacki" 352,vs "node" 353]
noncomputable def bS8:Obj:=fP "_find_cycle" "TopologicalSorter._find_cycle" (mAt 6 8)
noncomputable def bH:Obj:=cO "_find_cycle" "TopologicalSorter._find_cycle" 344 91 1 3 121 true 122 (.ref 123) (.ref 124) (.ref 125) 354
noncomputable def aW3:Obj:=fF "_find_cycle" "TopologicalSorter._find_cycle" (mAt 6 8) mg 126
noncomputable def bS9:Obj:=tO [vs "self" 360]
noncomputable def bT:Obj:=fP "static_order" "TopologicalSorter.static_order" (mAt 6 9)
noncomputable def bW:Obj:=cO "static_order" "TopologicalSorter.static_order" 357 120 1 3 128 true 129 (.ref 130) (.ref 131) (.ref 132) 361
noncomputable def bW0:Obj:=fF "static_order" "TopologicalSorter.static_order" (mAt 6 9) mg 133
noncomputable def bL8:Obj:=tO [vs "_nfinished" 364,vs "_node2info" 365,vs "_npassedout" 366,vs "_ready_nodes" 367]
noncomputable def bH0 (P:Params):Obj:=dO [e P "__module__" 264 mg,e P "__firstlineno__" 268 (vi 16 267),e P "__init__" 278 (.ref 73),e P "_get_nodeinfo" 287 (.ref 80),e P "add" 299 (.ref 87),e P "prepare" 305 (.ref 92),e P "get_ready" 315 (.ref 99),e P "is_active" 322 (.ref 106),e P "__bool__" 329 (.ref 113),e P "done" 343 (.ref 120),e P "_find_cycle" 356 (.ref 127),e P "static_order" 363 (.ref 134),e P "__static_attributes__" 368 (.ref 135),e P "__dict__" 370 (.ref 138),e P "__weakref__" 372 (.ref 139),e P "__doc__" 373 .none] 4
noncomputable def bT0:Obj:=⟨(.type "type"),none,(.cls { name:=(u "TopologicalSorter"),bases:=[.type "object"],mro:=[.ref 137, .type "object"],ns:=136,qualname:=(u "TopologicalSorter"),hasDict:=true,slotNames:=[],subclasses:=[],abstract:=false,collection:=none,hasDel:=false }), #[none,none,(some (vs "TopologicalSorter" 257)),(some (vs "TopologicalSorter" 265)),(some (.builtin "object.__new__")),(some (.bool true))]⟩
noncomputable def bW1:Obj:=⟨(.type "getset_descriptor"),none,(.fields #[vs "__dict__" 369, .ref 137, .builtin "function.__dict__", .builtin "function.__dict__#set"]), #[]⟩
noncomputable def bW2:Obj:=⟨(.type "getset_descriptor"),none,(.fields #[vs "__weakref__" 371, .ref 137, .builtin "ExceptionGroup.__weakref__", .none]), #[]⟩
noncomputable def bW3:Obj:=⟨(.type "super"),none,(.fields #[.ref 137, .ref 137, .ref 137]), #[]⟩
noncomputable def bW4:Obj:=⟨(.type "builtin_function_or_method"),none,(.fields #[.builtin "object.__init_subclass__", .ref 137]), #[]⟩
noncomputable def dG8 (P:Params):Obj:=dO (w4 P ms []) 15
noncomputable def w5 (P:Params)(m:Value)(l:List DictEntry):List DictEntry:=w4 P m (e P "b1_set" 437 (.ref 149)::l)
noncomputable def dG9 (P:Params):Obj:=dO (w5 P ms []) 16
noncomputable def bW5:Obj:=lO [vi 173 378,vi 847 379,vi 6150 380,vi 6155 381,vi 6156 382,vi 6157 383,vi 8203 384,vi 8204 385,vi 8205 386,vi 8288 387,vi 65279 388]
noncomputable def bW6:Obj:=rO 65024 389 65040
noncomputable def bT1:Obj:=⟨(.type "list"),none,(.seq #[vi 65024 394,vi 65025 395,vi 65026 396,vi 65027 397,vi 65028 398,vi 65029 399,vi 65030 400,vi 65031 401,vi 65032 402,vi 65033 403,vi 65034 404,vi 65035 405,vi 65036 406,vi 65037 407,vi 65038 408,vi 65039 409] 18), #[]⟩
noncomputable def bW7:Obj:=⟨(.type "range_iterator"),none,(.fields #[vi 65040 0,vi 0 0,vi 1 0]), #[]⟩
noncomputable def bW8:Obj:=⟨(.type "StopIteration"),none,(.fields #[.ref 146, .none, .none, .none,(.bool false), .none]), #[]⟩
noncomputable def bW9:Obj:=lO [vi 173 378,vi 847 379,vi 6150 380,vi 6155 381,vi 6156 382,vi 6157 383,vi 8203 384,vi 8204 385,vi 8205 386,vi 8288 387,vi 65279 388,vi 65024 394,vi 65025 395,vi 65026 396,vi 65027 397,vi 65028 398,vi 65029 399,vi 65030 400,vi 65031 401,vi 65032 402,vi 65033 403,vi 65034 404,vi 65035 405,vi 65036 406,vi 65037 407,vi 65038 408,vi 65039 409]
noncomputable def aV4 (P:Params):Obj:=⟨(.type "set"),none,(.set #[si 65024 394,si 65025 395,si 65026 396,si 65027 397,si 65028 398,si 65029 399,si 6150 380,si 65030 400,si 65031 401,si 65032 402,si 65033 403,si 6155 381,si 6156 382,si 6157 383,si 8203 384,si 8204 385,si 8205 386,si 65034 404,si 65035 405,si 65036 406,si 65037 407,si 65038 408,si 65039 409,si 173 378,si 847 379,si 8288 387,si 65279 388] 29 { mask:=127,place:= #[0,1,2,3,4,5,6,7,8,9,10,11,12,13,14,15,16,17,18,19,20,21,22,45,79,96,127],dummies:= #[],finger:=0,led:= !(P.followText "set-order"),moves:=2,plain:=true }), #[]⟩
noncomputable def bT2:Obj:=⟨(.type "list_iterator"),none,(.fields #[.none,vi 27 0]), #[]⟩
noncomputable def bX:Obj:=⟨(.type "StopIteration"),none,(.fields #[.ref 151, .none, .none, .none,(.bool false), .none]), #[]⟩
noncomputable def w6 (P:Params)(m:Value)(l:List DictEntry):List DictEntry:=w5 P m (e P "in_table_b1" 444 (.ref 159)::e P "in_table_c11" 451 (.ref 166)::e P "in_table_c4" 459 (.ref 173)::l)
noncomputable def dH (P:Params):Obj:=dO (w6 P ms []) 19
noncomputable def y5 (l:List Value):List Value:=y4 (tr 124 0 158 (tr 126 0 165 (tr 128 0 172 l)))
noncomputable def cU8:Obj:=fO (y5 [])
noncomputable def cF1:Obj:=tO [vs "code" 441]
noncomputable def cF2:Obj:=fP "in_table_b1" "in_table_b1" (aA0 9)
noncomputable def bX0:Obj:=cO "in_table_b1" "in_table_b1" 438 124 1 3 153 true 154 (.ref 155) (.ref 156) (.ref 157) 442
noncomputable def bA4:Obj:=fF "in_table_b1" "in_table_b1" (aA0 9) ms 158
noncomputable def bX1:Obj:=tO [vs "code" 448]
noncomputable def bX2:Obj:=fP "in_table_c11" "in_table_c11" (aA0 10)
noncomputable def bD9:Obj:=cO "in_table_c11" "in_table_c11" 445 126 1 3 160 true 161 (.ref 162) (.ref 163) (.ref 164) 449
noncomputable def aV5:Obj:=fF "in_table_c11" "in_table_c11" (aA0 10) ms 165
noncomputable def cF3:Obj:=tO [vs "code" 455,vs "c" 456]
noncomputable def cF4:Obj:=fP "in_table_c4" "in_table_c4" (aA0 11)
noncomputable def bX3:Obj:=cO "in_table_c4" "in_table_c4" 452 128 1 3 167 true 168 (.ref 169) (.ref 170) (.ref 171) 457
noncomputable def bE:Obj:=fF "in_table_c4" "in_table_c4" (aA0 11) ms 172
noncomputable def w7 (P:Params)(m:Value)(l:List DictEntry):List DictEntry:=w6 P m (e P "c6_set" 473 (.ref 175)::l)
noncomputable def dH0 (P:Params):Obj:=dO (w7 P ms []) 20
noncomputable def cF5:Obj:=rO 65529 460 65534
noncomputable def bA5 (P:Params):Obj:=⟨(.type "set"),none,(.set #[si 65529 463,si 65530 465,si 65531 467,si 65532 469,si 65533 471] 6 { mask:=31,place:= #[25,26,27,28,29],dummies:= #[],finger:=0,led:= !(P.followText "set-order"),moves:=1,plain:=true }), #[]⟩
noncomputable def cF6:Obj:=⟨(.type "range_iterator"),none,(.fields #[vi 65534 0,vi 0 0,vi 1 0]), #[]⟩
noncomputable def cF7:Obj:=⟨(.type "StopIteration"),none,(.fields #[.ref 177, .none, .none, .none,(.bool false), .none]), #[]⟩
noncomputable def w8 (P:Params)(m:Value)(l:List DictEntry):List DictEntry:=w7 P m (e P "in_table_c6" 480 (.ref 185)::l)
noncomputable def dH1 (P:Params):Obj:=dO (w8 P ms []) 21
noncomputable def y6 (l:List Value):List Value:=y5 (tr 136 0 184 l)
noncomputable def cL8:Obj:=fO (y6 [])
noncomputable def cF8:Obj:=tO [vs "code" 477]
noncomputable def cF9:Obj:=fP "in_table_c6" "in_table_c6" (aA0 13)
noncomputable def bX4:Obj:=cO "in_table_c6" "in_table_c6" 474 136 1 3 179 true 180 (.ref 181) (.ref 182) (.ref 183) 478
noncomputable def bE0:Obj:=fF "in_table_c6" "in_table_c6" (aA0 13) ms 184
noncomputable def w9 (P:Params)(m:Value)(l:List DictEntry):List DictEntry:=w8 P m (e P "c7_set" 508 (.ref 187)::l)
noncomputable def cU9 (P:Params):Obj:=dO (w9 P ms []) 22
noncomputable def cG:Obj:=rO 12272 481 12284
noncomputable def bA6 (P:Params):Obj:=⟨(.type "set"),none,(.set #[si 12272 484,si 12273 486,si 12274 488,si 12275 490,si 12276 492,si 12277 494,si 12278 496,si 12279 498,si 12280 500,si 12281 502,si 12282 504,si 12283 506] 13 { mask:=31,place:= #[16,17,18,19,20,21,22,23,24,25,26,27],dummies:= #[],finger:=0,led:= !(P.followText "set-order"),moves:=1,plain:=true }), #[]⟩
noncomputable def cG0:Obj:=⟨(.type "range_iterator"),none,(.fields #[vi 12284 0,vi 0 0,vi 1 0]), #[]⟩
noncomputable def cG1:Obj:=⟨(.type "StopIteration"),none,(.fields #[.ref 189, .none, .none, .none,(.bool false), .none]), #[]⟩
noncomputable def w10 (P:Params)(m:Value)(l:List DictEntry):List DictEntry:=w9 P m (e P "in_table_c7" 515 (.ref 197)::l)
noncomputable def cV (P:Params):Obj:=dO (w10 P ms []) 23
noncomputable def y7 (l:List Value):List Value:=y6 (tr 139 0 196 l)
noncomputable def cL9:Obj:=fO (y7 [])
noncomputable def cN0:Obj:=tO [vs "code" 512]
noncomputable def cG2:Obj:=fP "in_table_c7" "in_table_c7" (aA0 15)
noncomputable def bX5:Obj:=cO "in_table_c7" "in_table_c7" 509 139 1 3 191 true 192 (.ref 193) (.ref 194) (.ref 195) 513
noncomputable def bH1:Obj:=fF "in_table_c7" "in_table_c7" (aA0 15) ms 196
noncomputable def w11 (P:Params)(m:Value)(l:List DictEntry):List DictEntry:=w10 P m (e P "c8_set" 556 (.ref 211)::l)
noncomputable def cV0 (P:Params):Obj:=dO (w11 P ms []) 24
noncomputable def cN1:Obj:=lO [vi 832 516,vi 833 517,vi 8206 518,vi 8207 519]
noncomputable def cG3:Obj:=rO 8234 520 8239
noncomputable def cG4:Obj:=⟨(.type "list"),none,(.seq #[vi 8234 525,vi 8235 526,vi 8236 527,vi 8237 528,vi 8238 529] 7), #[]⟩
noncomputable def cN2:Obj:=⟨(.type "range_iterator"),none,(.fields #[vi 8239 0,vi 0 0,vi 1 0]), #[]⟩
noncomputable def cN3:Obj:=⟨(.type "StopIteration"),none,(.fields #[.ref 202, .none, .none, .none,(.bool false), .none]), #[]⟩
noncomputable def cN4:Obj:=lO [vi 832 516,vi 833 517,vi 8206 518,vi 8207 519,vi 8234 525,vi 8235 526,vi 8236 527,vi 8237 528,vi 8238 529]
noncomputable def cN5:Obj:=rO 8298 530 8304
noncomputable def cN6:Obj:=⟨(.type "list"),none,(.seq #[vi 8298 535,vi 8299 536,vi 8300 537,vi 8301 538,vi 8302 539,vi 8303 540] 8), #[]⟩
noncomputable def cN7:Obj:=⟨(.type "range_iterator"),none,(.fields #[vi 8304 0,vi 0 0,vi 1 0]), #[]⟩
noncomputable def cN8:Obj:=⟨(.type "StopIteration"),none,(.fields #[.ref 208, .none, .none, .none,(.bool false), .none]), #[]⟩
noncomputable def cN9:Obj:=lO [vi 832 516,vi 833 517,vi 8206 518,vi 8207 519,vi 8234 525,vi 8235 526,vi 8236 527,vi 8237 528,vi 8238 529,vi 8298 535,vi 8299 536,vi 8300 537,vi 8301 538,vi 8302 539,vi 8303 540]
noncomputable def bE1 (P:Params):Obj:=⟨(.type "set"),none,(.set #[si 832 516,si 833 517,si 8234 525,si 8235 526,si 8236 527,si 8237 528,si 8206 518,si 8207 519,si 8238 529,si 8298 535,si 8299 536,si 8300 537,si 8301 538,si 8302 539,si 8303 540] 16 { mask:=31,place:= #[0,1,10,11,12,13,14,15,16,17,18,19,20,21,22],dummies:= #[],finger:=0,led:= !(P.followText "set-order"),moves:=1,plain:=true }), #[]⟩
noncomputable def cO0:Obj:=⟨(.type "list_iterator"),none,(.fields #[.none,vi 15 0]), #[]⟩
noncomputable def cO1:Obj:=⟨(.type "StopIteration"),none,(.fields #[.ref 213, .none, .none, .none,(.bool false), .none]), #[]⟩
noncomputable def w12 (P:Params)(m:Value)(l:List DictEntry):List DictEntry:=w11 P m (e P "in_table_c8" 563 (.ref 221)::l)
noncomputable def bX6 (P:Params):Obj:=dO (w12 P ms []) 25
noncomputable def y8 (l:List Value):List Value:=y7 (tr 142 0 220 l)
noncomputable def cM:Obj:=fO (y8 [])
noncomputable def cO2:Obj:=tO [vs "code" 560]
noncomputable def cV1:Obj:=fP "in_table_c8" "in_table_c8" (aA0 17)
noncomputable def cO3:Obj:=cO "in_table_c8" "in_table_c8" 557 142 1 3 215 true 216 (.ref 217) (.ref 218) (.ref 219) 561
noncomputable def bL9:Obj:=fF "in_table_c8" "in_table_c8" (aA0 17) ms 220
noncomputable def w13 (P:Params)(m:Value)(l:List DictEntry):List DictEntry:=w12 P m (e P "c9_set" 763 (.ref 229)::l)
noncomputable def cV2 (P:Params):Obj:=dO (w13 P ms []) 26
noncomputable def cV3:Obj:=lO [vi 917505 564]
noncomputable def cO4:Obj:=rO 917536 565 917632
noncomputable def cG5:Obj:=⟨(.type "list"),none,(.seq #[vi 917536 570,vi 917537 571,vi 917538 572,vi 917539 573,vi 917540 574,vi 917541 575,vi 917542 576,vi 917543 577,vi 917544 578,vi 917545 579,vi 917546 580,vi 917547 581,vi 917548 582,vi 917549 583,vi 917550 584,vi 917551 585,vi 917552 586,vi 917553 587,vi 917554 588,vi 917555 589,vi 917556 590,vi 917557 591,vi 917558 592,vi 917559 593,vi 917560 594,vi 917561 595,vi 917562 596,vi 917563 597,vi 917564 598,vi 917565 599,vi 917566 600,vi 917567 601,vi 917568 602,vi 917569 603,vi 917570 604,vi 917571 605,vi 917572 606,vi 917573 607,vi 917574 608,vi 917575 609,vi 917576 610,vi 917577 611,vi 917578 612,vi 917579 613,vi 917580 614,vi 917581 615,vi 917582 616,vi 917583 617,vi 917584 618,vi 917585 619,vi 917586 620,vi 917587 621,vi 917588 622,vi 917589 623,vi 917590 624,vi 917591 625,vi 917592 626,vi 917593 627,vi 917594 628,vi 917595 629,vi 917596 630,vi 917597 631,vi 917598 632,vi 917599 633,vi 917600 634,vi 917601 635,vi 917602 636,vi 917603 637,vi 917604 638,vi 917605 639,vi 917606 640,vi 917607 641,vi 917608 642,vi 917609 643,vi 917610 644,vi 917611 645,vi 917612 646,vi 917613 647,vi 917614 648,vi 917615 649,vi 917616 650,vi 917617 651,vi 917618 652,vi 917619 653,vi 917620 654,vi 917621 655,vi 917622 656,vi 917623 657,vi 917624 658,vi 917625 659,vi 917626 660,vi 917627 661,vi 917628 662,vi 917629 663,vi 917630 664,vi 917631 665] 98), #[]⟩
noncomputable def cG6:Obj:=⟨(.type "range_iterator"),none,(.fields #[vi 917632 0,vi 0 0,vi 1 0]), #[]⟩
noncomputable def cO5:Obj:=⟨(.type "StopIteration"),none,(.fields #[.ref 226, .none, .none, .none,(.bool false), .none]), #[]⟩
noncomputable def cO6:Obj:=lO [vi 917505 564,vi 917536 570,vi 917537 571,vi 917538 572,vi 917539 573,vi 917540 574,vi 917541 575,vi 917542 576,vi 917543 577,vi 917544 578,vi 917545 579,vi 917546 580,vi 917547 581,vi 917548 582,vi 917549 583,vi 917550 584,vi 917551 585,vi 917552 586,vi 917553 587,vi 917554 588,vi 917555 589,vi 917556 590,vi 917557 591,vi 917558 592,vi 917559 593,vi 917560 594,vi 917561 595,vi 917562 596,vi 917563 597,vi 917564 598,vi 917565 599,vi 917566 600,vi 917567 601,vi 917568 602,vi 917569 603,vi 917570 604,vi 917571 605,vi 917572 606,vi 917573 607,vi 917574 608,vi 917575 609,vi 917576 610,vi 917577 611,vi 917578 612,vi 917579 613,vi 917580 614,vi 917581 615,vi 917582 616,vi 917583 617,vi 917584 618,vi 917585 619,vi 917586 620,vi 917587 621,vi 917588 622,vi 917589 623,vi 917590 624,vi 917591 625,vi 917592 626,vi 917593 627,vi 917594 628,vi 917595 629,vi 917596 630,vi 917597 631,vi 917598 632,vi 917599 633,vi 917600 634,vi 917601 635,vi 917602 636,vi 917603 637,vi 917604 638,vi 917605 639,vi 917606 640,vi 917607 641,vi 917608 642,vi 917609 643,vi 917610 644,vi 917611 645,vi 917612 646,vi 917613 647,vi 917614 648,vi 917615 649,vi 917616 650,vi 917617 651,vi 917618 652,vi 917619 653,vi 917620 654,vi 917621 655,vi 917622 656,vi 917623 657,vi 917624 658,vi 917625 659,vi 917626 660,vi 917627 661,vi 917628 662,vi 917629 663,vi 917630 664,vi 917631 665]
noncomputable def bX7 (P:Params):Obj:=⟨(.type "set"),none,(.set #[] 0 { mask:=7,place:= #[],dummies:= #[],finger:=0,led:= !(P.followText "set-order"),moves:=0,plain:=true }), #[]⟩
noncomputable def setO (es:Array (Int×Value))(n:Nat)(t:SetTable):Obj:=⟨.type "set",none, .set es n t, #[]⟩
noncomputable def bM (h:Int)(x:Value)(es:Array (Int×Value))(n:Nat)(t:SetTable):Obj:=
 if (!(layNew t es h x).2.2.1 && (layNew t es h x).2.1.tooFull)=true then
  setO (relayAll (layNew t es h x).2.1 (layNew t es h x).1 (SetTable.grown (layNew t es h x).1.size)).1 (n+2) (relayAll (layNew t es h x).2.1 (layNew t es h x).1 (SetTable.grown (layNew t es h x).1.size)).2.1
 else setO (layNew t es h x).1 (n+1) (layNew t es h x).2.1
noncomputable def x9 (k:Nat):Value:=match k with
 | 0=> .int 917505 564
 | k+1=> .int (917536+k) (570+k)
noncomputable def i9 (k:Nat):Int:=match k with
 | 0=>917505
 | k+1=>917536+k
noncomputable def bB5 (k:Nat)(o:Obj):Obj:=match o.data with
 | .set es n t=>bM (i9 k) (x9 k) es n t
 | _=>o
noncomputable def oAt (P:Params):Nat->Obj
 | 0=>bX7 P
 | k+1=>bB5 k (oAt P k)
noncomputable def cV4 (k:Nat):Obj:=⟨.type "list_iterator",none, .fields #[.ref 228, .int k 0], #[]⟩
noncomputable def bA7 (P:Params):Obj:=oAt P 97
noncomputable def cO7:Obj:=⟨(.type "list_iterator"),none,(.fields #[.none,vi 97 0]), #[]⟩
noncomputable def cO8:Obj:=⟨(.type "StopIteration"),none,(.fields #[.ref 231, .none, .none, .none,(.bool false), .none]), #[]⟩
noncomputable def w14 (P:Params)(m:Value)(l:List DictEntry):List DictEntry:=w13 P m (e P "in_table_c9" 770 (.ref 239)::e P "_law_draws" 780 (.ref 246)::e P "_law_order" 790 (.ref 253)::e P "_law_spots" 796 (.ref 258)::e P "_law_first" 803 (.ref 265)::e P "_law_ring" 813 (.ref 272)::e P "_law_ring_told" 823 (.ref 279)::e P "_law_sweeps" 837 (.ref 286)::l)
noncomputable def cV5 (P:Params):Obj:=dO (w14 P ml []) 34
noncomputable def y9 (l:List Value):List Value:=y8 (tr 145 0 238 (tr 148 0 245 (tr 151 0 252 (tr 157 0 257 (tr 164 0 264 (tr 166 0 271 (tr 175 0 278 (tr 183 0 285 l))))))))
noncomputable def cV6:Obj:=fO (y9 [])
noncomputable def cV7:Obj:=tO [vs "code" 767]
noncomputable def cV8:Obj:=fP "in_table_c9" "in_table_c9" (aA0 19)
noncomputable def cO9:Obj:=cO "in_table_c9" "in_table_c9" 764 145 1 3 233 true 234 (.ref 235) (.ref 236) (.ref 237) 768
noncomputable def bM0:Obj:=fF "in_table_c9" "in_table_c9" (aA0 19) ms 238
noncomputable def cV9:Obj:=tO [vs "script" 776,vs "draws" 777]
noncomputable def cW:Obj:=fP "_law_draws" "_law_draws" (aA0 21)
noncomputable def cP:Obj:=cO "_law_draws" "_law_draws" 773 148 1 3 240 true 241 (.ref 242) (.ref 243) (.ref 244) 778
noncomputable def bM1:Obj:=fF "_law_draws" "_law_draws" (aA0 21) ml 245
noncomputable def cW0:Obj:=tO [vs "draws" 784,vs "order" 785,vs "k" 786,vs "place" 787]
noncomputable def cW1:Obj:=fP "_law_order" "_law_order" (aA0 22)
noncomputable def cP0:Obj:=cO "_law_order" "_law_order" 781 151 1 3 247 true 248 (.ref 249) (.ref 250) (.ref 251) 788
noncomputable def bH2:Obj:=fF "_law_order" "_law_order" (aA0 22) ml 252
noncomputable def cW2:Obj:=fP "_law_spots" "_law_spots" (aA0 23)
noncomputable def cP1:Obj:=cO "_law_spots" "_law_spots" 791 157 1 3 254 true 255 .none .none (.ref 256) 794
noncomputable def aH3:Obj:=fF "_law_spots" "_law_spots" (aA0 23) ml 257
noncomputable def cW3:Obj:=tO [vs "k" 800]
noncomputable def cW4:Obj:=fP "_law_first" "_law_first" (aA0 24)
noncomputable def cP2:Obj:=cO "_law_first" "_law_first" 797 164 1 3 259 true 260 (.ref 261) (.ref 262) (.ref 263) 801
noncomputable def bE2:Obj:=fF "_law_first" "_law_first" (aA0 24) ml 264
noncomputable def cW5:Obj:=tO [vs "goals" 807,vs "k" 808,vs "row" 809,vs "at" 810]
noncomputable def cW6:Obj:=fP "_law_ring" "_law_ring" (aA0 25)
noncomputable def cP3:Obj:=cO "_law_ring" "_law_ring" 804 166 2 3 266 true 267 (.ref 268) (.ref 269) (.ref 270) 811
noncomputable def bH3:Obj:=fF "_law_ring" "_law_ring" (aA0 25) ml 271
noncomputable def cW7:Obj:=tO [vs "goals" 817,vs "rings" 818,vs "k" 819,vs "at" 820]
noncomputable def cW8:Obj:=fP "_law_ring_told" "_law_ring_told" (aA0 26)
noncomputable def cP4:Obj:=cO "_law_ring_told" "_law_ring_told" 814 175 2 3 273 true 274 (.ref 275) (.ref 276) (.ref 277) 821
noncomputable def bE3:Obj:=fF "_law_ring_told" "_law_ring_told" (aA0 26) ml 278
noncomputable def cW9:Obj:=tO [vs "goals" 827,vs "order" 828,vs "rings" 829,vs "sweeps" 830,vs "k" 831,vs "at" 832,vs "sweep" 833,vs "goal" 834]
noncomputable def dH2:Obj:=fP "_law_sweeps" "_law_sweeps" (aA0 27)
noncomputable def cX:Obj:=cO "_law_sweeps" "_law_sweeps" 824 183 3 3 280 true 281 (.ref 282) (.ref 283) (.ref 284) 835
noncomputable def bH4:Obj:=fF "_law_sweeps" "_law_sweeps" (aA0 27) ml 285
noncomputable def w15 (P:Params)(m:Value)(l:List DictEntry):List DictEntry:=w14 P m (e P "_law_drained" 851 (.ref 293)::e P "_law_due" 857 (.ref 298)::e P "_law_first_given" 863 (.ref 303)::e P "_law_given" 869 (.ref 308)::e P "_law_held" 877 (.ref 315)::e P "_law_worked" 888 (.ref 322)::e P "_law_prepared" 896 (.ref 329)::e P "_law_goes" 904 (.ref 336)::e P "_law_run" 910 (.ref 341)::e P "law" 916 (.ref 346)::l)
noncomputable def cX0 (P:Params):Obj:=dO (w15 P ml []) 44
noncomputable def y10 (l:List Value):List Value:=y9 (tr 197 0 292 (tr 209 0 297 (tr 215 0 302 (tr 217 0 307 (tr 234 0 314 (tr 248 0 321 (tr 258 0 328 (tr 263 0 335 (tr 269 0 340 (tr 293 0 345 l))))))))))
noncomputable def cP5:Obj:=fO (y10 [])
noncomputable def dH3:Obj:=tO [vs "goals" 841,vs "sweeps" 842,vs "spots" 843,vs "sweep" 844,vs "row" 845,vs "kind" 846,vs "sign" 847,vs "at" 848]
noncomputable def dH4:Obj:=fP "_law_drained" "_law_drained" (aA0 28)
noncomputable def cX1:Obj:=cO "_law_drained" "_law_drained" 838 197 4 3 287 true 288 (.ref 289) (.ref 290) (.ref 291) 849
noncomputable def bM2:Obj:=fF "_law_drained" "_law_drained" (aA0 28) ml 292
noncomputable def dH5:Obj:=fP "_law_due" "_law_due" (aA0 29)
noncomputable def cX2:Obj:=cO "_law_due" "_law_due" 852 209 4 3 294 true 295 .none .none (.ref 296) 855
noncomputable def bH5:Obj:=fF "_law_due" "_law_due" (aA0 29) ml 297
noncomputable def dH6:Obj:=fP "_law_first_given" "_law_first_given" (aA0 30)
noncomputable def cX3:Obj:=cO "_law_first_given" "_law_first_given" 858 215 1 3 299 true 300 .none .none (.ref 301) 861
noncomputable def bA8:Obj:=fF "_law_first_given" "_law_first_given" (aA0 30) ml 302
noncomputable def dH7:Obj:=fP "_law_given" "_law_given" (aA0 31)
noncomputable def cX4:Obj:=cO "_law_given" "_law_given" 864 217 3 3 304 true 305 .none .none (.ref 306) 867
noncomputable def bE4:Obj:=fF "_law_given" "_law_given" (aA0 31) ml 307
noncomputable def dH8:Obj:=tO [vs "k" 873,vs "sign" 874]
noncomputable def dH9:Obj:=fP "_law_held" "_law_held" (aA0 32)
noncomputable def bH6:Obj:=cO "_law_held" "_law_held" 870 234 2 3 309 true 310 (.ref 311) (.ref 312) (.ref 313) 875
noncomputable def aH4:Obj:=fF "_law_held" "_law_held" (aA0 32) ml 314
noncomputable def dI:Obj:=tO [vs "k" 881,vs "goal" 882,vs "text" 883,vs "row" 884,vs "sign" 885]
noncomputable def dI0:Obj:=fP "_law_worked" "_law_worked" (aA0 33)
noncomputable def cX5:Obj:=cO "_law_worked" "_law_worked" 878 248 3 3 316 true 317 (.ref 318) (.ref 319) (.ref 320) 886
noncomputable def bM3:Obj:=fF "_law_worked" "_law_worked" (aA0 33) ml 321
noncomputable def dI1:Obj:=tO [vs "sorter" 892,vs "error" 893]
noncomputable def dI2:Obj:=fP "_law_prepared" "_law_prepared" (aA0 34)
noncomputable def cX6:Obj:=cO "_law_prepared" "_law_prepared" 889 258 1 3 323 true 324 (.ref 325) (.ref 326) (.ref 327) 894
noncomputable def bT3:Obj:=fF "_law_prepared" "_law_prepared" (aA0 34) ml 328
noncomputable def dI3:Obj:=tO [vs "sorter" 900,vs "k" 901]
noncomputable def dI4:Obj:=fP "_law_goes" "_law_goes" (aA0 35)
noncomputable def cX7:Obj:=cO "_law_goes" "_law_goes" 897 263 2 3 330 true 331 (.ref 332) (.ref 333) (.ref 334) 902
noncomputable def bH7:Obj:=fF "_law_goes" "_law_goes" (aA0 35) ml 335
noncomputable def dI5:Obj:=fP "_law_run" "_law_run" (aA0 36)
noncomputable def cX8:Obj:=cO "_law_run" "_law_run" 905 269 3 3 337 true 338 .none .none (.ref 339) 908
noncomputable def aF9:Obj:=fF "_law_run" "_law_run" (aA0 36) ml 340
noncomputable def dI6:Obj:=fP "law" "law" (aA0 37)
noncomputable def cX9:Obj:=cO "law" "law" 911 293 1 3 342 true 343 .none .none (.ref 344) 914
noncomputable def bE5:Obj:=fF "law" "law" (aA0 37) ml 345
noncomputable def cP6:Obj:=⟨(.type "list"),none,(.seq #[] 2), #[]⟩
noncomputable def cP7:Obj:=⟨(.type "range_iterator"),none,(.fields #[vi 917536 0,vi 96 0,vi 1 0]), #[]⟩
noncomputable def cP8:Obj:=⟨(.type "list"),none,(.seq #[vi 917536 570,vi 917537 571,vi 917538 572,vi 917539 573,vi 917540 574,vi 917541 575,vi 917542 576,vi 917543 577,vi 917544 578,vi 917545 579,vi 917546 580,vi 917547 581,vi 917548 582,vi 917549 583,vi 917550 584,vi 917551 585,vi 917552 586,vi 917553 587,vi 917554 588,vi 917555 589,vi 917556 590,vi 917557 591,vi 917558 592,vi 917559 593] 26), #[]⟩
noncomputable def cP9:Obj:=⟨(.type "range_iterator"),none,(.fields #[vi 917560 0,vi 72 0,vi 1 0]), #[]⟩
noncomputable def cQ:Obj:=⟨(.type "list"),none,(.seq #[vi 917536 570,vi 917537 571,vi 917538 572,vi 917539 573,vi 917540 574,vi 917541 575,vi 917542 576,vi 917543 577,vi 917544 578,vi 917545 579,vi 917546 580,vi 917547 581,vi 917548 582,vi 917549 583,vi 917550 584,vi 917551 585,vi 917552 586,vi 917553 587,vi 917554 588,vi 917555 589,vi 917556 590,vi 917557 591,vi 917558 592,vi 917559 593,vi 917560 594,vi 917561 595,vi 917562 596,vi 917563 597,vi 917564 598,vi 917565 599,vi 917566 600,vi 917567 601,vi 917568 602,vi 917569 603,vi 917570 604,vi 917571 605,vi 917572 606,vi 917573 607,vi 917574 608,vi 917575 609,vi 917576 610,vi 917577 611,vi 917578 612,vi 917579 613,vi 917580 614,vi 917581 615,vi 917582 616,vi 917583 617] 50), #[]⟩
noncomputable def cQ0:Obj:=⟨(.type "range_iterator"),none,(.fields #[vi 917584 0,vi 48 0,vi 1 0]), #[]⟩
noncomputable def cQ1:Obj:=⟨(.type "list"),none,(.seq #[vi 917536 570,vi 917537 571,vi 917538 572,vi 917539 573,vi 917540 574,vi 917541 575,vi 917542 576,vi 917543 577,vi 917544 578,vi 917545 579,vi 917546 580,vi 917547 581,vi 917548 582,vi 917549 583,vi 917550 584,vi 917551 585,vi 917552 586,vi 917553 587,vi 917554 588,vi 917555 589,vi 917556 590,vi 917557 591,vi 917558 592,vi 917559 593,vi 917560 594,vi 917561 595,vi 917562 596,vi 917563 597,vi 917564 598,vi 917565 599,vi 917566 600,vi 917567 601,vi 917568 602,vi 917569 603,vi 917570 604,vi 917571 605,vi 917572 606,vi 917573 607,vi 917574 608,vi 917575 609,vi 917576 610,vi 917577 611,vi 917578 612,vi 917579 613,vi 917580 614,vi 917581 615,vi 917582 616,vi 917583 617,vi 917584 618,vi 917585 619,vi 917586 620,vi 917587 621,vi 917588 622,vi 917589 623,vi 917590 624,vi 917591 625,vi 917592 626,vi 917593 627,vi 917594 628,vi 917595 629,vi 917596 630,vi 917597 631,vi 917598 632,vi 917599 633,vi 917600 634,vi 917601 635,vi 917602 636,vi 917603 637,vi 917604 638,vi 917605 639,vi 917606 640,vi 917607 641] 74), #[]⟩
noncomputable def cQ2:Obj:=⟨(.type "range_iterator"),none,(.fields #[vi 917608 0,vi 24 0,vi 1 0]), #[]⟩
noncomputable def cQ3:Obj:=⟨(.type "list_iterator"),none,(.fields #[.ref 228,vi 0 0]), #[]⟩
noncomputable def n1 (o:Obj):BT:= .node o .nil .nil
noncomputable def n2 (o:Obj)(a:BT):BT:= .node o a .nil
noncomputable def n3 (o:Obj)(a b:BT):BT:= .node o a b
noncomputable def j0:BT:=n1 tE
noncomputable def j1:BT:=n1 fE
noncomputable def T0 (P:Params):BT:=n3 (boot_o_0 P) (n3 (boot_o_1 P) (n3 (boot_o_3 P) (n1 (boot_o_7 P)) j0) (n3 (boot_o_5 P) (n1 (boot_o_9 P)) (n1 o13))) (n3 (boot_o_2 P) (n3 (boot_o_4 P) (n1 (boot_o_8 P)) j1) (n3 (boot_o_6 P) (n1 (boot_o_10 P)) (n1 o14)))
noncomputable def S0 (w:World)(os:OsState):SharedT:=⟨T0 w.params,15,lf w.params, #[],boot_drawn,187,os⟩
noncomputable def T1 (P:Params):BT:=n3 (boot_o_0 P) (n3 (boot_o_1 P) (n3 (dG4 P) (n2 (boot_o_7 P) j0) (n2 tE (n1 o19))) (n3 (boot_o_5 P) (n2 (boot_o_9 P) (n1 o17)) (n2 o13 (n1 o21)))) (n3 (boot_o_2 P) (n3 (boot_o_4 P) (n2 (boot_o_8 P) j1) (n2 cU5 (n1 o20))) (n3 (boot_o_6 P) (n2 (boot_o_10 P) j0) (n1 o14)))
noncomputable def S1 (w:World)(os:OsState):SharedT:=⟨T1 w.params,22,lf w.params, #[],boot_drawn,202,os⟩
noncomputable def j2:BT:=n2 tE j1
noncomputable def T2 (P:Params):BT:=n3 (boot_o_0 P) (n3 (boot_o_1 P) (n3 (dG5 P) (n3 (boot_o_7 P) j2 (n2 o23 (n1 (o39 P)))) (n3 tE (n2 o19 (n1 o35)) (n2 o27 (n1 o43)))) (n3 (boot_o_5 P) (n3 (boot_o_9 P) (n2 o17 j0) (n2 tE (n1 o41))) (n3 o13 (n2 o21 (n1 o37)) (n2 o29 (n1 o45))))) (n3 (boot_o_2 P) (n3 (boot_o_4 P) (n3 (boot_o_8 P) (n2 fE (n1 o32)) (n2 (o24 P) (n1 o40))) (n3 cU6 (n2 o20 (n1 o36)) (n2 o28 (n1 o44)))) (n3 (boot_o_6 P) (n3 (boot_o_10 P) (n2 tE (n1 o34)) (n2 o26 (n1 o42))) (n3 o14 (n2 tE (n1 o38)) j0)))
noncomputable def S2 (w:World)(os:OsState):SharedT:=⟨T2 w.params,46,lf w.params, #[],boot_drawn,239,os⟩
noncomputable def T3 (P:Params):BT:=n3 (boot_o_0 P) (n3 (boot_o_1 P) (n3 (dG6 P) (n3 (boot_o_7 P) (n3 tE j1 (n1 o23)) (n3 o23 (n1 (o39 P)) (n1 o55))) (n3 tE (n3 o19 (n1 o35) (n1 o51)) (n2 o27 (n1 o43)))) (n3 (boot_o_5 P) (n3 (boot_o_9 P) (n3 o17 j0 j0) (n3 tE (n1 o41) (n1 o57))) (n3 o13 (n3 o21 (n1 o37) j0) (n2 o29 (n1 o45))))) (n3 (boot_o_2 P) (n3 (boot_o_4 P) (n3 (boot_o_8 P) (n3 fE (n1 o32) (n1 (o48 P))) (n3 (o24 P) (n1 o40) (n1 o56))) (n3 cU7 (n3 o20 (n1 o36) (n1 o52)) (n2 o28 (n1 o44)))) (n3 (boot_o_6 P) (n3 (boot_o_10 P) (n3 tE (n1 o34) j1) (n3 o26 (n1 o42) (n1 o58))) (n3 o14 (n3 tE (n1 o38) (n1 (o54 P))) (n2 tE (n1 o46)))))
noncomputable def S3 (w:World)(os:OsState):SharedT:=⟨T3 w.params,59,lf w.params, #[],boot_drawn,257,os⟩
noncomputable def j3:BT:=n3 fE (n2 o63 (n1 aW3)) (n1 o95)
noncomputable def j4 (P:Params):BT:=n3 (boot_o_7 P) (n3 tE j3 (n3 o23 (n1 o79) (n1 bS4))) (n3 o23 (n3 (o39 P) (n2 o71 (n1 bL8)) j0) (n3 o55 (n1 o87) (n1 bG9)))
noncomputable def j5:BT:=n2 tE j0
noncomputable def j6:BT:=n3 o35 j5 (n1 o99)
noncomputable def j7:BT:=n3 o27 (n3 o43 (n2 fE (n1 bW2)) j0) (n3 tE (n1 o91) (n1 bS7))
noncomputable def j8:BT:=n3 tE (n3 o19 j6 (n3 o51 (n1 o83) j1)) j7
noncomputable def j9:BT:=n3 tE (n2 o65 j1) (n1 o97)
noncomputable def j10:BT:=n3 tE (n3 o41 (n2 o73 (n1 bT0)) (n1 bS3)) (n3 o57 j1 j0)
noncomputable def j11:BT:=n3 o37 (n2 o69 (n1 bW)) j1
noncomputable def j12 (P:Params):BT:=n3 o29 (n3 o45 (n2 tE (n1 bW4)) (n1 bV9)) (n3 (o61 P) j0 (n1 bS8))
noncomputable def j13 (P:Params):BT:=n3 (boot_o_5 P) (n3 (boot_o_9 P) (n3 o17 j9 (n3 tE j0 (n1 bS5))) j10) (n3 o13 (n3 o21 j11 (n3 tE (n1 o85) j0)) (j12 P))
noncomputable def j14:BT:=n3 o32 (n2 o64 j0) j0
noncomputable def j15:BT:=n3 o36 (n2 fE (n1 bT)) j0
noncomputable def j16:BT:=n3 o28 (n3 o44 (n2 o76 (n1 bW3)) j1) (n3 o23 (n1 o92) j0)
noncomputable def j17:BT:=n3 o34 (n2 o66 (n1 bS9)) (n1 o98)
noncomputable def j18:BT:=n3 o26 (n3 o42 (n2 tE (n1 bW1)) (n1 bD8)) (n3 o58 (n1 o90) j1)
noncomputable def j19:BT:=n3 o38 (n2 tE (n1 bW0)) (n1 bG8)
noncomputable def j20 (P:Params):BT:=n3 (boot_o_2 P) (n3 (boot_o_4 P) (n3 (boot_o_8 P) (n3 fE j14 (n3 (o48 P) (n1 o80) (n1 bL6))) (n3 (o24 P) (n3 o40 (n2 o72 (n1 (bH0 P))) (n1 bL5)) (n3 o56 j0 (n1 aM7)))) (n3 cL7 (n3 o20 j15 (n3 o52 j0 (n1 bS6))) j16)) (n3 (boot_o_6 P) (n3 (boot_o_10 P) (n3 tE j17 (n3 fE j1 j0)) j18) (n3 o14 (n3 tE j19 (n3 (o54 P) (n1 o86) (n1 bL7))) (n3 tE (n3 o46 (n1 o78) j0) (n3 tE j1 (n1 bH)))))
noncomputable def T4 (P:Params):BT:=n3 (boot_o_0 P) (n3 (boot_o_1 P) (n3 (dG7 P) (j4 P) j8) (j13 P)) (j20 P)
noncomputable def S4 (w:World)(os:OsState):SharedT:=⟨T4 w.params,142,lf w.params, #[],boot_drawn,376,os⟩
noncomputable def T5 (P:Params):BT:=n3 (boot_o_0 P) (n3 (boot_o_1 P) (n3 (dG8 P) (j4 P) j8) (j13 P)) (j20 P)
noncomputable def S5 (w:World)(os:OsState):SharedT:=⟨T5 w.params,142,lf w.params, #[],boot_drawn,378,os⟩
noncomputable def j21:BT:=n3 o23 (n2 o79 (n1 bW6)) (n1 bS4)
noncomputable def j22:BT:=n3 o55 (n2 o87 j0) (n1 bG9)
noncomputable def j23:BT:=n3 o51 (n2 o83 (n1 bW8)) j1
noncomputable def j24:BT:=n3 tE (n2 tE (n1 bW7)) (n1 bS5)
noncomputable def j25:BT:=n3 o56 (n2 tE (n1 bX)) (n1 aM7)
noncomputable def j26:BT:=n3 o52 (n2 tE (n1 bW9)) (n1 bS6)
noncomputable def j27:BT:=n2 fE j0
noncomputable def j28:BT:=n3 fE j27 j0
noncomputable def j29:BT:=n3 o46 (n2 o78 (n1 bW5)) j0
noncomputable def T6 (P:Params):BT:=n3 (boot_o_0 P) (n3 (boot_o_1 P) (n3 (dG9 P) (n3 (boot_o_7 P) (n3 tE j3 j21) (n3 o23 (n3 (o39 P) (n2 o71 (n1 bL8)) j0) j22)) (n3 tE (n3 o19 j6 j23) j7)) (n3 (boot_o_5 P) (n3 (boot_o_9 P) (n3 o17 j9 j24) j10) (n3 o13 (n3 o21 j11 (n3 tE (n2 o85 (n1 (aV4 P))) j0)) (j12 P)))) (n3 (boot_o_2 P) (n3 (boot_o_4 P) (n3 (boot_o_8 P) (n3 fE j14 (n3 (o48 P) (n2 o80 (n1 bT1)) (n1 bL6))) (n3 (o24 P) (n3 o40 (n2 o72 (n1 (bH0 P))) (n1 bL5)) j25)) (n3 cL7 (n3 o20 j15 j26) j16)) (n3 (boot_o_6 P) (n3 (boot_o_10 P) (n3 tE j17 j28) j18) (n3 o14 (n3 tE j19 (n3 (o54 P) (n2 o86 (n1 bT2)) (n1 bL7))) (n3 tE j29 (n3 tE j1 (n1 bH))))))
noncomputable def S6 (w:World)(os:OsState):SharedT:=⟨T6 w.params,153,lf w.params, #[],boot_drawn,438,os⟩
noncomputable def j30:BT:=n3 fE (n2 o63 (n1 aW3)) (n2 o95 (n1 bA4))
noncomputable def j31 (P:Params):BT:=n3 (o39 P) (n2 o71 (n1 bL8)) j5
noncomputable def j32 (P:Params):BT:=n3 o23 (j31 P) j22
noncomputable def j33:BT:=n3 o35 j5 (n2 o99 j0)
noncomputable def j34:BT:=n3 o43 (n2 fE (n1 bW2)) (n2 tE (n1 cF4))
noncomputable def j35:BT:=n3 o27 j34 (n3 tE (n2 o91 (n1 cF1)) (n1 bS7))
noncomputable def j36:BT:=n3 tE (n3 o19 j33 j23) j35
noncomputable def j37:BT:=n3 tE (n2 o65 j1) (n2 o97 j1)
noncomputable def j38:BT:=n3 o41 (n2 o73 (n1 bT0)) (n2 bS3 (n1 cF3))
noncomputable def j39:BT:=n3 tE j38 (n3 o57 j27 j0)
noncomputable def j40:BT:=n3 o37 (n2 o69 (n1 bW)) (n2 fE (n1 bD9))
noncomputable def j41:BT:=n3 o45 (n2 tE (n1 bW4)) (n2 bV9 (n1 bE))
noncomputable def j42 (P:Params):BT:=n3 o29 j41 (n3 (o61 P) (n2 tE (n1 cF2)) (n1 bS8))
noncomputable def j43 (P:Params):BT:=n3 o13 (n3 o21 j40 (n3 tE (n2 o85 (n1 (aV4 P))) j0)) (j42 P)
noncomputable def j44:BT:=n3 o32 (n2 o64 j0) j5
noncomputable def j45 (P:Params):BT:=n3 o40 (n2 o72 (n1 (bH0 P))) (n2 bL5 j1)
noncomputable def j46 (P:Params):BT:=n3 (o24 P) (j45 P) j25
noncomputable def j47:BT:=n3 o36 (n2 fE (n1 bT)) (n2 tE (n1 bX2))
noncomputable def j48:BT:=n3 o44 (n2 o76 (n1 bW3)) (n2 fE (n1 bX3))
noncomputable def j49:BT:=n3 o28 j48 (n3 o23 (n2 o92 j0) j0)
noncomputable def j50:BT:=n3 cU8 (n3 o20 j47 j26) j49
noncomputable def j51:BT:=n3 o34 (n2 o66 (n1 bS9)) (n2 o98 (n1 bX1))
noncomputable def j52:BT:=n3 o42 (n2 tE (n1 bW1)) (n2 bD8 j0)
noncomputable def j53:BT:=n3 o26 j52 (n3 o58 (n2 o90 j1) j1)
noncomputable def j54:BT:=n3 o38 (n2 tE (n1 bW0)) (n2 bG8 (n1 aV5))
noncomputable def j55 (P:Params):BT:=n3 tE j54 (n3 (o54 P) (n2 o86 (n1 bT2)) (n1 bL7))
noncomputable def j56:BT:=n3 tE (n2 fE (n1 bX0)) (n1 bH)
noncomputable def T7 (P:Params):BT:=n3 (boot_o_0 P) (n3 (boot_o_1 P) (n3 (dH P) (n3 (boot_o_7 P) (n3 tE j30 j21) (j32 P)) j36) (n3 (boot_o_5 P) (n3 (boot_o_9 P) (n3 o17 j37 j24) j39) (j43 P))) (n3 (boot_o_2 P) (n3 (boot_o_4 P) (n3 (boot_o_8 P) (n3 fE j44 (n3 (o48 P) (n2 o80 (n1 bT1)) (n1 bL6))) (j46 P)) j50) (n3 (boot_o_6 P) (n3 (boot_o_10 P) (n3 tE j51 j28) j53) (n3 o14 (j55 P) (n3 tE j29 j56))))
noncomputable def S7 (w:World)(os:OsState):SharedT:=⟨T7 w.params,174,lf w.params, #[],boot_drawn,460,os⟩
noncomputable def j57 (P:Params):BT:=n3 o23 (n2 o79 (n1 bW6)) (n2 bS4 (n1 (bA5 P)))
noncomputable def j58 (P:Params):BT:=n3 tE j30 (j57 P)
noncomputable def j59:BT:=n3 tE (n2 tE (n1 bW7)) (n2 bS5 j0)
noncomputable def j60:BT:=n3 o17 j37 j59
noncomputable def j61 (P:Params):BT:=n3 (o48 P) (n2 o80 (n1 bT1)) (n2 bL6 (n1 cF6))
noncomputable def j62 (P:Params):BT:=n3 fE j44 (j61 P)
noncomputable def j63:BT:=n3 fE j27 (n2 tE (n1 cF7))
noncomputable def j64:BT:=n3 tE j51 j63
noncomputable def j65 (P:Params):BT:=n3 (boot_o_10 P) j64 j53
noncomputable def j66:BT:=n3 o46 (n2 o78 (n1 bW5)) (n2 tE (n1 cF5))
noncomputable def j67:BT:=n3 tE j66 j56
noncomputable def T8 (P:Params):BT:=n3 (boot_o_0 P) (n3 (boot_o_1 P) (n3 (dH0 P) (n3 (boot_o_7 P) (j58 P) (j32 P)) j36) (n3 (boot_o_5 P) (n3 (boot_o_9 P) j60 j39) (j43 P))) (n3 (boot_o_2 P) (n3 (boot_o_4 P) (n3 (boot_o_8 P) (j62 P) (j46 P)) j50) (n3 (boot_o_6 P) (j65 P) (n3 o14 (j55 P) j67)))
noncomputable def S8 (w:World)(os:OsState):SharedT:=⟨T8 w.params,179,lf w.params, #[],boot_drawn,474,os⟩
noncomputable def j68:BT:=n3 o55 (n2 o87 j0) (n2 bG9 (n1 cF9))
noncomputable def j69 (P:Params):BT:=n3 o23 (j31 P) j68
noncomputable def j70 (P:Params):BT:=n3 (boot_o_7 P) (j58 P) (j69 P)
noncomputable def j71:BT:=n3 o51 (n2 o83 (n1 bW8)) j27
noncomputable def j72:BT:=n3 o19 j33 j71
noncomputable def j73:BT:=n3 o57 j27 (n2 tE (n1 bE0))
noncomputable def j74:BT:=n3 tE j38 j73
noncomputable def j75 (P:Params):BT:=n3 (boot_o_9 P) j60 j74
noncomputable def j76 (P:Params):BT:=n3 tE (n2 o85 (n1 (aV4 P))) (n2 tE (n1 cF8))
noncomputable def j77 (P:Params):BT:=n3 o21 j40 (j76 P)
noncomputable def j78:BT:=n3 o56 (n2 tE (n1 bX)) (n2 aM7 (n1 bX4))
noncomputable def j79 (P:Params):BT:=n3 (o24 P) (j45 P) j78
noncomputable def j80 (P:Params):BT:=n3 (boot_o_8 P) (j62 P) (j79 P)
noncomputable def j81:BT:=n3 o52 (n2 tE (n1 bW9)) (n2 bS6 j1)
noncomputable def j82:BT:=n3 o20 j47 j81
noncomputable def j83 (P:Params):BT:=n3 tE j54 (n3 (o54 P) (n2 o86 (n1 bT2)) (n2 bL7 j0))
noncomputable def T9 (P:Params):BT:=n3 (boot_o_0 P) (n3 (boot_o_1 P) (n3 (dH1 P) (j70 P) (n3 tE j72 j35)) (n3 (boot_o_5 P) (j75 P) (n3 o13 (j77 P) (j42 P)))) (n3 (boot_o_2 P) (n3 (boot_o_4 P) (j80 P) (n3 cL8 j82 j49)) (n3 (boot_o_6 P) (j65 P) (n3 o14 (j83 P) j67)))
noncomputable def S9 (w:World)(os:OsState):SharedT:=⟨T9 w.params,186,lf w.params, #[],boot_drawn,481,os⟩
noncomputable def j84 (P:Params):BT:=n3 tE (n2 o91 (n1 cF1)) (n2 bS7 (n1 (bA6 P)))
noncomputable def j85 (P:Params):BT:=n3 o27 j34 (j84 P)
noncomputable def j86 (P:Params):BT:=n3 (o61 P) (n2 tE (n1 cF2)) (n2 bS8 j0)
noncomputable def j87 (P:Params):BT:=n3 o29 j41 (j86 P)
noncomputable def j88:BT:=n3 o23 (n2 o92 j0) (n2 tE (n1 cG0))
noncomputable def j89:BT:=n3 o28 j48 j88
noncomputable def j90:BT:=n3 o58 (n2 o90 j1) (n2 fE (n1 cG))
noncomputable def j91:BT:=n3 o26 j52 j90
noncomputable def j92:BT:=n3 tE (n2 fE (n1 bX0)) (n2 bH (n1 cG1))
noncomputable def j93 (P:Params):BT:=n3 o14 (j83 P) (n3 tE j66 j92)
noncomputable def T10 (P:Params):BT:=n3 (boot_o_0 P) (n3 (boot_o_1 P) (n3 (cU9 P) (j70 P) (n3 tE j72 (j85 P))) (n3 (boot_o_5 P) (j75 P) (n3 o13 (j77 P) (j87 P)))) (n3 (boot_o_2 P) (n3 (boot_o_4 P) (j80 P) (n3 cL8 j82 j89)) (n3 (boot_o_6 P) (n3 (boot_o_10 P) j64 j91) (j93 P)))
noncomputable def S10 (w:World)(os:OsState):SharedT:=⟨T10 w.params,191,lf w.params, #[],boot_drawn,509,os⟩
noncomputable def j94:BT:=n3 fE (n3 o63 (n1 aW3) j0) (n2 o95 (n1 bA4))
noncomputable def j95:BT:=n3 o35 (n3 tE j0 (n1 cG2)) (n2 o99 j0)
noncomputable def j96:BT:=n3 o65 j1 (n1 cN0)
noncomputable def j97:BT:=n3 tE j96 (n2 o97 j1)
noncomputable def j98:BT:=n3 o69 (n1 bW) (n1 bH1)
noncomputable def j99:BT:=n3 o37 j98 (n2 fE (n1 bD9))
noncomputable def cQ4:BT:=n3 o64 j0 j1
noncomputable def cY:BT:=n3 o32 cQ4 j5
noncomputable def cY0:BT:=n3 o36 (n3 fE (n1 bT) (n1 bX5)) (n2 tE (n1 bX2))
noncomputable def cY1:BT:=n3 o34 (n3 o66 (n1 bS9) j0) (n2 o98 (n1 bX1))
noncomputable def T11 (P:Params):BT:=n3 (boot_o_0 P) (n3 (boot_o_1 P) (n3 (cV P) (n3 (boot_o_7 P) (n3 tE j94 (j57 P)) (j69 P)) (n3 tE (n3 o19 j95 j71) (j85 P))) (n3 (boot_o_5 P) (n3 (boot_o_9 P) (n3 o17 j97 j59) j74) (n3 o13 (n3 o21 j99 (j76 P)) (j87 P)))) (n3 (boot_o_2 P) (n3 (boot_o_4 P) (n3 (boot_o_8 P) (n3 fE cY (j61 P)) (j79 P)) (n3 cL9 (n3 o20 cY0 j81) j89)) (n3 (boot_o_6 P) (n3 (boot_o_10 P) (n3 tE cY1 j63) j91) (j93 P)))
noncomputable def S11 (w:World)(os:OsState):SharedT:=⟨T11 w.params,198,lf w.params, #[],boot_drawn,516,os⟩
noncomputable def cY2 (P:Params):BT:=n3 o23 (n3 o79 (n1 bW6) (n1 cN7)) (n2 bS4 (n1 (bA5 P)))
noncomputable def cY3 (P:Params):BT:=n3 tE j94 (cY2 P)
noncomputable def cY4 (P:Params):BT:=n3 (o39 P) (n3 o71 (n1 bL8) (n1 cG3)) j5
noncomputable def cY5 (P:Params):BT:=n3 o51 (n3 o83 (n1 bW8) (n1 (bE1 P))) j27
noncomputable def cY6 (P:Params):BT:=n3 o19 j95 (cY5 P)
noncomputable def cY7:BT:=n3 o43 (n3 fE (n1 bW2) (n1 cN3)) (n2 tE (n1 cF4))
noncomputable def cQ5:BT:=n3 tE (n3 tE (n1 bW7) (n1 cN8)) (n2 bS5 j0)
noncomputable def cY8:BT:=n3 o17 j97 cQ5
noncomputable def cY9:BT:=n3 o41 (n3 o73 (n1 bT0) (n1 cN2)) (n2 bS3 (n1 cF3))
noncomputable def bX8 (P:Params):BT:=n3 tE (n3 o85 (n1 (aV4 P)) j0) (n2 tE (n1 cF8))
noncomputable def cZ (P:Params):BT:=n3 o21 j99 (bX8 P)
noncomputable def cZ0:BT:=n3 o45 (n3 tE (n1 bW4) (n1 cN5)) (n2 bV9 (n1 bE))
noncomputable def cQ6 (P:Params):BT:=n3 (o48 P) (n3 o80 (n1 bT1) j0) (n2 bL6 (n1 cF6))
noncomputable def cZ1 (P:Params):BT:=n3 fE cY (cQ6 P)
noncomputable def cZ2 (P:Params):BT:=n3 o40 (n3 o72 (n1 (bH0 P)) (n1 cG4)) (n2 bL5 j1)
noncomputable def cZ3:BT:=n3 o52 (n3 tE (n1 bW9) (n1 cO0)) (n2 bS6 j1)
noncomputable def cZ4:BT:=n3 o20 cY0 cZ3
noncomputable def cZ5:BT:=n3 o44 (n3 o76 (n1 bW3) (n1 cN4)) (n2 fE (n1 bX3))
noncomputable def cZ6:BT:=n3 fE (n3 fE j0 (n1 cN9)) (n2 tE (n1 cF7))
noncomputable def cZ7:BT:=n3 tE cY1 cZ6
noncomputable def cZ8:BT:=n3 o42 (n3 tE (n1 bW1) j0) (n2 bD8 j0)
noncomputable def cG7:BT:=n3 tE (n1 bW0) (n1 cN1)
noncomputable def cG8 (P:Params):BT:=n3 (o54 P) (n3 o86 (n1 bT2) (n1 cO1)) (n2 bL7 j0)
noncomputable def cZ9 (P:Params):BT:=n3 tE (n3 o38 cG7 (n2 bG8 (n1 aV5))) (cG8 P)
noncomputable def dA:BT:=n3 o46 (n3 o78 (n1 bW5) (n1 cN6)) (n2 tE (n1 cF5))
noncomputable def dA0 (P:Params):BT:=n3 o14 (cZ9 P) (n3 tE dA j92)
noncomputable def T12 (P:Params):BT:=n3 (boot_o_0 P) (n3 (boot_o_1 P) (n3 (cV0 P) (n3 (boot_o_7 P) (cY3 P) (n3 o23 (cY4 P) j68)) (n3 tE (cY6 P) (n3 o27 cY7 (j84 P)))) (n3 (boot_o_5 P) (n3 (boot_o_9 P) cY8 (n3 tE cY9 j73)) (n3 o13 (cZ P) (n3 o29 cZ0 (j86 P))))) (n3 (boot_o_2 P) (n3 (boot_o_4 P) (n3 (boot_o_8 P) (cZ1 P) (n3 (o24 P) (cZ2 P) j78)) (n3 cL9 cZ4 (n3 o28 cZ5 j88))) (n3 (boot_o_6 P) (n3 (boot_o_10 P) cZ7 (n3 o26 cZ8 j90)) (dA0 P)))
noncomputable def S12 (w:World)(os:OsState):SharedT:=⟨T12 w.params,215,lf w.params, #[],boot_drawn,557,os⟩
noncomputable def dA1:BT:=n3 o55 (n3 o87 j0 j0) (n2 bG9 (n1 cF9))
noncomputable def dA2 (P:Params):BT:=n3 o23 (cY4 P) dA1
noncomputable def dA3 (P:Params):BT:=n3 o27 cY7 (n3 tE (n3 o91 (n1 cF1) (n1 cV1)) (n2 bS7 (n1 (bA6 P))))
noncomputable def dA4 (P:Params):BT:=n3 tE (cY6 P) (dA3 P)
noncomputable def cQ7:BT:=n3 tE cY9 (n3 o57 (n3 fE j0 (n1 cO2)) (n2 tE (n1 bE0)))
noncomputable def bX9 (P:Params):BT:=n3 o29 cZ0 (n3 (o61 P) (n3 tE (n1 cF2) (n1 bL9)) (n2 bS8 j0))
noncomputable def dA5 (P:Params):BT:=n3 o13 (cZ P) (bX9 P)
noncomputable def dA6:BT:=n3 o56 (n3 tE (n1 bX) j1) (n2 aM7 (n1 bX4))
noncomputable def cQ8 (P:Params):BT:=n3 (o24 P) (cZ2 P) dA6
noncomputable def dA7:BT:=n3 o28 cZ5 (n3 o23 (n3 o92 j0 (n1 cO3)) (n2 tE (n1 cG0)))
noncomputable def dA8:BT:=n3 cM cZ4 dA7
noncomputable def dA9:BT:=n3 o26 cZ8 (n3 o58 (n3 o90 j1 j0) (n2 fE (n1 cG)))
noncomputable def dB (P:Params):BT:=n3 (boot_o_10 P) cZ7 dA9
noncomputable def T13 (P:Params):BT:=n3 (boot_o_0 P) (n3 (boot_o_1 P) (n3 (bX6 P) (n3 (boot_o_7 P) (cY3 P) (dA2 P)) (dA4 P)) (n3 (boot_o_5 P) (n3 (boot_o_9 P) cY8 cQ7) (dA5 P))) (n3 (boot_o_2 P) (n3 (boot_o_4 P) (n3 (boot_o_8 P) (cZ1 P) (cQ8 P)) dA8) (n3 (boot_o_6 P) (dB P) (dA0 P)))
noncomputable def S13 (w:World)(os:OsState):SharedT:=⟨T13 w.params,222,lf w.params, #[],boot_drawn,564,os⟩
noncomputable def dB0 (P:Params):BT:=n3 tE (n3 fE (n3 o63 (n1 aW3) j0) (n3 o95 (n1 bA4) (n1 cO4))) (cY2 P)
noncomputable def dB1 (P:Params):BT:=n3 tE (n3 o19 (n3 o35 (n3 tE j0 (n1 cG2)) (n3 o99 j0 (n1 cO5))) (cY5 P)) (dA3 P)
noncomputable def dB2 (P:Params):BT:=n3 (cV2 P) (n3 (boot_o_7 P) (dB0 P) (n3 o23 (n3 (o39 P) (n3 o71 (n1 bL8) (n1 cG3)) (n3 tE j0 j0)) dA1)) (dB1 P)
noncomputable def cG9 (P:Params):BT:=n3 (boot_o_9 P) (n3 o17 (n3 tE j96 (n3 o97 j1 (n1 cG6))) cQ5) cQ7
noncomputable def dB3 (P:Params):BT:=n3 fE (n3 o32 cQ4 (n3 tE j0 (n1 cG5))) (cQ6 P)
noncomputable def dB4:BT:=n3 cM (n3 o20 (n3 o36 (n3 fE (n1 bT) (n1 bX5)) (n3 tE (n1 bX2) (n1 cO6))) cZ3) dA7
noncomputable def cQ9 (P:Params):BT:=n3 (boot_o_10 P) (n3 tE (n3 o34 (n3 o66 (n1 bS9) j0) (n3 o98 (n1 bX1) j0)) cZ6) dA9
noncomputable def cH:BT:=n3 tE dA (n3 tE (n3 fE (n1 bX0) (n1 cV3)) (n2 bH (n1 cG1)))
noncomputable def dB5 (P:Params):BT:=n3 (boot_o_2 P) (n3 (boot_o_4 P) (n3 (boot_o_8 P) (dB3 P) (n3 (o24 P) (n3 o40 (n3 o72 (n1 (bH0 P)) (n1 cG4)) (n3 bL5 j1 (n1 cO8))) dA6)) dB4) (n3 (boot_o_6 P) (cQ9 P) (n3 o14 (n3 tE (n3 o38 cG7 (n3 bG8 (n1 aV5) (n1 cO7))) (cG8 P)) cH))
noncomputable def T14 (P:Params):BT:=n3 (boot_o_0 P) (n3 (boot_o_1 P) (dB2 P) (n3 (boot_o_5 P) (cG9 P) (n3 o13 (n3 o21 (n3 o37 j98 (n3 fE (n1 bD9) (n1 (bA7 P)))) (bX8 P)) (bX9 P)))) (dB5 P)
noncomputable def S14 (w:World)(os:OsState):SharedT:=⟨T14 w.params,233,lf w.params, #[],boot_drawn,764,os⟩
noncomputable def dB6:BT:=n3 o91 (n2 cF1 j0) (n1 cV1)
noncomputable def dB7:BT:=n3 tE (n2 cF2 (n1 cX)) (n1 bL9)
noncomputable def dB8:BT:=n3 o92 (n2 tE (n1 dH2)) (n1 cO3)
noncomputable def dB9:BT:=n3 fE (n2 bX0 (n1 bH4)) (n1 cV3)
noncomputable def T15 (P:Params):BT:=n3 (boot_o_0 P) (n3 (boot_o_1 P) (n3 (cV5 P) (n3 (boot_o_7 P) (n3 tE (n3 fE (n3 o63 (n2 aW3 j1) j0) (n3 o95 (n1 bA4) (n1 cO4))) (n3 o23 (n3 o79 (n2 bW6 (n1 cP3)) (n1 cN7)) (n3 bS4 (n1 (bA5 P)) (n1 bM0)))) (n3 o23 (n3 (o39 P) (n3 o71 (n2 bL8 (n1 cW4)) (n1 cG3)) (n3 tE j0 j0)) (n3 o55 (n3 o87 (n2 tE (n1 bE3)) j0) (n3 bG9 (n1 cF9) j0)))) (n3 tE (n3 o19 (n3 o35 (n3 tE j5 (n1 cG2)) (n3 o99 j0 (n1 cO5))) (n3 o51 (n3 o83 (n2 bW8 (n1 cW7)) (n1 (bE1 P))) (n3 fE j0 j0))) (n3 o27 (n3 o43 (n3 fE (n2 bW2 j1) (n1 cN3)) (n3 tE (n1 cF4) (n1 cV7))) (n3 tE dB6 (n3 bS7 (n1 (bA6 P)) (n1 cW1)))))) (n3 (boot_o_5 P) (n3 (boot_o_9 P) (n3 o17 (n3 tE (n3 o65 (n2 fE (n1 cP1)) (n1 cN0)) (n3 o97 j1 (n1 cG6))) (n3 tE (n3 tE (n2 bW7 j0) (n1 cN8)) (n3 bS5 j0 j1))) (n3 tE (n3 o41 (n3 o73 (n2 bT0 (n1 bE2)) (n1 cN2)) (n3 bS3 (n1 cF3) j0)) (n3 o57 (n3 fE j2 (n1 cO2)) (n3 tE (n1 bE0) (n1 cW0))))) (n3 o13 (n3 o21 (n3 o37 (n3 o69 (n2 bW (n1 cW3)) (n1 bH1)) (n3 fE (n1 bD9) (n1 (bA7 P)))) (n3 tE (n3 o85 (n2 (aV4 P) (n1 cW8)) j0) (n3 tE (n1 cF8) (n1 cP)))) (n3 o29 (n3 o45 (n3 tE (n2 bW4 j0) (n1 cN5)) (n3 bV9 (n1 bE) (n1 cV8))) (n3 (o61 P) dB7 (n3 bS8 j0 (n1 bH2))))))) (n3 (boot_o_2 P) (n3 (boot_o_4 P) (n3 (boot_o_8 P) (n3 fE (n3 o32 (n3 o64 (n2 tE (n1 cW2)) j1) (n3 tE j0 (n1 cG5))) (n3 (o48 P) (n3 o80 (n2 bT1 (n1 bH3)) j0) (n3 bL6 (n1 cF6) j0))) (n3 (o24 P) (n3 o40 (n3 o72 (n2 (bH0 P) (n1 cP2)) (n1 cG4)) (n3 bL5 j1 (n1 cO8))) (n3 o56 (n3 tE (n2 bX j0) j1) (n3 aM7 (n1 bX4) j1)))) (n3 cV6 (n3 o20 (n3 o36 (n3 fE (n2 bT j1) (n1 bX5)) (n3 tE (n1 bX2) (n1 cO6))) (n3 o52 (n3 tE (n2 bW9 j0) (n1 cO0)) (n3 bS6 j1 (n1 cW)))) (n3 o28 (n3 o44 (n3 o76 (n2 bW3 (n1 cW5)) (n1 cN4)) (n3 fE (n1 bX3) j0)) (n3 o23 dB8 (n3 tE (n1 cG0) (n1 cP0)))))) (n3 (boot_o_6 P) (n3 (boot_o_10 P) (n3 tE (n3 o34 (n3 o66 (n2 bS9 (n1 aH3)) j0) (n3 o98 (n1 bX1) j0)) (n3 fE (n3 fE j2 (n1 cN9)) (n3 tE (n1 cF7) (n1 cV9)))) (n3 o26 (n3 o42 (n3 tE (n2 bW1 j0) j0) (n3 bD8 j0 j1)) (n3 o58 (n3 o90 (n2 fE (n1 cW9)) j0) (n3 fE (n1 cG) j0)))) (n3 o14 (n3 tE (n3 o38 (n3 tE (n2 bW0 j0) (n1 cN1)) (n3 bG8 (n1 aV5) (n1 cO7))) (n3 (o54 P) (n3 o86 (n2 bT2 (n1 cP4)) (n1 cO1)) (n3 bL7 j0 (n1 bM1)))) (n3 tE (n3 o46 (n3 o78 (n2 bW5 (n1 cW6)) (n1 cN6)) (n3 tE (n1 cF5) (n1 cO9))) (n3 tE dB9 (n3 bH (n1 cG1) j0))))))
noncomputable def S15 (w:World)(os:OsState):SharedT:=⟨T15 w.params,287,lf w.params, #[],boot_drawn,838,os⟩
noncomputable def T16 (P:Params):BT:=n3 (boot_o_0 P) (n3 (boot_o_1 P) (n3 (cX0 P) (n3 (boot_o_7 P) (n3 tE (n3 fE (n3 o63 (n2 aW3 j1) j5) (n3 o95 (n2 bA4 j0) (n1 cO4))) (n3 o23 (n3 o79 (n2 bW6 (n1 cP3)) (n2 cN7 (n1 cX7))) (n3 bS4 (n2 (bA5 P) (n1 bA8)) (n1 bM0)))) (n3 o23 (n3 (o39 P) (n3 o71 (n2 bL8 (n1 cW4)) (n2 cG3 (n1 dI2))) (n3 tE j2 j0)) (n3 o55 (n3 o87 (n2 tE (n1 bE3)) j2) (n3 bG9 (n2 cF9 (n1 dH8)) j0)))) (n3 tE (n3 o19 (n3 o35 (n3 tE j5 (n2 cG2 j0)) (n3 o99 (n2 tE (n1 dH4)) (n1 cO5))) (n3 o51 (n3 o83 (n2 bW8 (n1 cW7)) (n2 (bE1 P) (n1 dI5))) (n3 fE (n2 tE (n1 cX4)) j0))) (n3 o27 (n3 o43 (n3 fE (n2 bW2 j1) (n2 cN3 j1)) (n3 tE (n2 cF4 j0) (n1 cV7))) (n3 tE dB6 (n3 bS7 (n2 (bA6 P) (n1 aH4)) (n1 cW1)))))) (n3 (boot_o_5 P) (n3 (boot_o_9 P) (n3 o17 (n3 tE (n3 o65 (n2 fE (n1 cP1)) (n2 cN0 (n1 cX5))) (n3 o97 (n2 fE (n1 dH3)) (n1 cG6))) (n3 tE (n3 tE (n2 bW7 j0) (n2 cN8 j0)) (n3 bS5 j2 j1))) (n3 tE (n3 o41 (n3 o73 (n2 bT0 (n1 bE2)) (n2 cN2 (n1 bT3))) (n3 bS3 (n2 cF3 (n1 cX2)) j0)) (n3 o57 (n3 fE j2 (n2 cO2 (n1 cX9))) (n3 tE (n2 bE0 (n1 dH9)) (n1 cW0))))) (n3 o13 (n3 o21 (n3 o37 (n3 o69 (n2 bW (n1 cW3)) (n2 bH1 (n1 dI1))) (n3 fE (n2 bD9 (n1 bM2)) (n1 (bA7 P)))) (n3 tE (n3 o85 (n2 (aV4 P) (n1 cW8)) (n2 tE (n1 aF9))) (n3 tE (n2 cF8 j0) (n1 cP)))) (n3 o29 (n3 o45 (n3 tE (n2 bW4 j0) (n2 cN5 j0)) (n3 bV9 (n2 bE (n1 dH6)) (n1 cV8))) (n3 (o61 P) dB7 (n3 bS8 j2 (n1 bH2))))))) (n3 (boot_o_2 P) (n3 (boot_o_4 P) (n3 (boot_o_8 P) (n3 fE (n3 o32 (n3 o64 (n2 tE (n1 cW2)) (n2 fE (n1 dI0))) (n3 tE j2 (n1 cG5))) (n3 (o48 P) (n3 o80 (n2 bT1 (n1 bH3)) (n2 tE (n1 bH7))) (n3 bL6 (n2 cF6 j0) j0))) (n3 (o24 P) (n3 o40 (n3 o72 (n2 (bH0 P) (n1 cP2)) (n2 cG4 (n1 cX6))) (n3 bL5 (n2 fE (n1 dH5)) (n1 cO8))) (n3 o56 (n3 tE (n2 bX j0) (n2 fE (n1 dI6))) (n3 aM7 (n2 bX4 j0) j1)))) (n3 cP5 (n3 o20 (n3 o36 (n3 fE (n2 bT j1) (n2 bX5 j1)) (n3 tE (n2 bX2 (n1 cX1)) (n1 cO6))) (n3 o52 (n3 tE (n2 bW9 j0) (n2 cO0 (n1 cX8))) (n3 bS6 (n2 fE (n1 bE4)) (n1 cW)))) (n3 o28 (n3 o44 (n3 o76 (n2 bW3 (n1 cW5)) (n2 cN4 (n1 dI3))) (n3 fE (n2 bX3 j1) j0)) (n3 o23 dB8 (n3 tE (n2 cG0 j0) (n1 cP0)))))) (n3 (boot_o_6 P) (n3 (boot_o_10 P) (n3 tE (n3 o34 (n3 o66 (n2 bS9 (n1 aH3)) (n2 tE (n1 bM3))) (n3 o98 (n2 bX1 j0) j0)) (n3 fE (n3 fE j2 (n2 cN9 j1)) (n3 tE (n2 cF7 (n1 dH7)) (n1 cV9)))) (n3 o26 (n3 o42 (n3 tE (n2 bW1 j0) j5) (n3 bD8 (n2 tE (n1 bH5)) j1)) (n3 o58 (n3 o90 (n2 fE (n1 cW9)) (n2 tE (n1 bE5))) (n3 fE (n2 cG (n1 bH6)) j0)))) (n3 o14 (n3 tE (n3 o38 (n3 tE (n2 bW0 j0) (n2 cN1 j0)) (n3 bG8 (n2 aV5 j0) (n1 cO7))) (n3 (o54 P) (n3 o86 (n2 bT2 (n1 cP4)) (n2 cO1 j0)) (n3 bL7 j2 (n1 bM1)))) (n3 tE (n3 o46 (n3 o78 (n2 bW5 (n1 cW6)) (n2 cN6 (n1 dI4))) (n3 tE (n2 cF5 (n1 cX3)) (n1 cO9))) (n3 tE dB9 (n3 bH (n2 cG1 (n1 dI)) j0))))))
noncomputable def S16 (w:World)(os:OsState):SharedT:=⟨T16 w.params,347,lf w.params, #[],boot_drawn,917,os⟩
noncomputable def dC (P:Params):BT:=n3 (boot_o_7 P) (dB0 P) (dA2 P)
noncomputable def C0 (P:Params):BT:=n3 (boot_o_0 P) (n3 (boot_o_1 P) (n3 (bX6 P) (dC P) (dA4 P)) (n3 (boot_o_5 P) (n3 (boot_o_9 P) (n3 o17 (n3 tE j96 (n3 o97 j1 (n1 cP7))) cQ5) cQ7) (dA5 P))) (n3 (boot_o_2 P) (n3 (boot_o_4 P) (n3 (boot_o_8 P) (n3 fE (n3 o32 cQ4 (n3 tE j0 (n1 cP6))) (cQ6 P)) (cQ8 P)) dA8) (n3 (boot_o_6 P) (dB P) (n3 o14 (cZ9 P) cH)))
noncomputable def D0 (w:World)(os:OsState):SharedT:=⟨C0 w.params,226,lf w.params, #[],boot_drawn,570,os⟩
noncomputable def C1 (P:Params):BT:=((((C0 P).set 224 (λ_=>cP8))).set 225 (λ_=>cP9))
noncomputable def D1 (w:World)(os:OsState):SharedT:=⟨C1 w.params,226,lf w.params, #[],boot_drawn,594,os⟩
noncomputable def C2 (P:Params):BT:=((((C1 P).set 224 (λ_=>cQ))).set 225 (λ_=>cQ0))
noncomputable def D2 (w:World)(os:OsState):SharedT:=⟨C2 w.params,226,lf w.params, #[],boot_drawn,618,os⟩
noncomputable def C3 (P:Params):BT:=((((C2 P).set 224 (λ_=>cQ1))).set 225 (λ_=>cQ2))
noncomputable def D3 (w:World)(os:OsState):SharedT:=⟨C3 w.params,226,lf w.params, #[],boot_drawn,642,os⟩
noncomputable def C4 (P:Params):BT:=((((C3 P).set 224 (λ_=>cG5))).set 225 (λ_=>cG6))
noncomputable def D4 (w:World)(os:OsState):SharedT:=⟨C4 w.params,226,lf w.params, #[],boot_drawn,666,os⟩
noncomputable def dC0 (P:Params):BT:=n3 (bX6 P) (dC P) (dB1 P)
noncomputable def dC1 (P:Params):BT:=n3 (boot_o_4 P) (n3 (boot_o_8 P) (dB3 P) (cQ8 P)) dB4
noncomputable def C5 (P:Params):BT:=n3 (boot_o_0 P) (n3 (boot_o_1 P) (dC0 P) (n3 (boot_o_5 P) (cG9 P) (n3 o13 (n3 o21 (n3 o37 j98 (n3 fE (n1 bD9) (n1 (bX7 P)))) (bX8 P)) (bX9 P)))) (n3 (boot_o_2 P) (dC1 P) (n3 (boot_o_6 P) (cQ9 P) (n3 o14 (n3 tE (n3 o38 cG7 (n3 bG8 (n1 aV5) (n1 cQ3))) (cG8 P)) cH)))
noncomputable def D5 (w:World)(os:OsState):SharedT:=⟨C5 w.params,231,lf w.params, #[],boot_drawn,666,os⟩
theorem rr {P:World->Prop}(f:∀ w:World,P (w.withFollow "special-get-raises" false))(t:∀ w:World,P (w.withFollow "special-get-raises" true))(w:World):P w:=byRow2 "special-get-raises" f t w
theorem cv {p:Program}{w:World}{n:Nat}{s:SharedT}{l:List Stmt}{v:Env}{c:Code}{pos:Pos}{B:List Frame}:
  segRunT treeTable p w 11 ann 1 n s (piecesOf l v c pos B)=PySem.W.Fast.tw10110043849684766642 PySem.W.Fast.tw14364793385576792824 p w 11 ann 1 n s ⟨(PySem.W.Fast.tw12563942051412417395 l v).wrap doneF deadEnd id id,c,pos,B⟩:=by
 show segRunT treeTable p w 11 ann 1 n s ⟨(execs l v).wrap doneF deadEnd id id,c,pos,B⟩=_
 rw [PySem.W.Fast.te10110043849684766642,PySem.W.Fast.te14364793385576792824,PySem.W.Fast.te12563942051412417395]
theorem cvG {p:Program}{w:World}{n:Nat}{s:SharedT}{t:Thread}:
  segGoT treeTable p w 11 ann 1 n s t=PySem.W.Fast.tw10295753902157049106 PySem.W.Fast.tw14364793385576792824 p w 11 ann 1 n s t:=by
 rw [PySem.W.Fast.te10295753902157049106,PySem.W.Fast.te14364793385576792824]
theorem g0 (w:World)(os:OsState):segRunT treeTable pw w 11 ann 1 67 (S0 w os) (piecesOf [aA0 0,aA0 1,aA0 2,aA0 3] env cB ⟨0,0,0,0⟩ [topFrame fq])=some (.next,S1 w os,cB,⟨6,0,6,10⟩):=by lk
theorem g1 (w:World)(os:OsState):segRunT treeTable pw w 11 ann 1 264 (S1 w os) (piecesOf [aA0 4] env cB ⟨6,0,6,10⟩ [topFrame fq])=some (.next,S2 w os,cB,⟨7,0,13,28⟩):=
 cv.trans (by lk)
theorem g2 (w:World)(os:OsState):segRunT treeTable pw w 11 ann 1 187 (S2 w os) (piecesOf [aA0 5] env cB ⟨7,0,13,28⟩ [topFrame fq])=some (.next,S3 w os,cB,⟨14,0,15,8⟩):=
 cv.trans (by lk)
theorem g3 (w:World)(os:OsState):segRunT treeTable pw w 11 ann 1 528 (S3 w os) (piecesOf [aA0 6] env cB ⟨14,0,15,8⟩ [topFrame fq])=some (.next,S4 w os,cB,⟨16,0,121,16⟩):=
 cv.trans (by lk)
theorem g4 (w:World)(os:OsState):segRunT treeTable pw w 11 ann 1 10 (S4 w os) (piecesOf [aA0 7] env cB ⟨16,0,121,16⟩ [topFrame fq])=some (.next,S5 w os,cB,⟨122,0,122,8⟩):=by lk
theorem g5 (w:World)(os:OsState):segRunT treeTable pw w 11 ann 1 999 (S5 w os) (piecesOf [aA0 8] env cB ⟨122,0,122,8⟩ [topFrame fq])=some (.next,S6 w os,cB,⟨123,0,123,6⟩):=by
 revert w; refine rr ?_ ?_<;>intro w<;>exact cv.trans (by lk)
theorem g6 (w:World)(os:OsState):segRunT treeTable pw w 11 ann 1 89 (S6 w os) (piecesOf [aA0 9,aA0 10,aA0 11] env cB ⟨123,0,123,6⟩ [topFrame fq])=some (.next,S7 w os,cB,⟨128,0,134,46⟩):=by lk
theorem g7 (w:World)(os:OsState):segRunT treeTable pw w 11 ann 1 200 (S7 w os) (piecesOf [aA0 12] env cB ⟨128,0,134,46⟩ [topFrame fq])=some (.next,S8 w os,cB,⟨135,0,135,6⟩):=by
 revert w; refine rr ?_ ?_<;>intro w<;>exact cv.trans (by lk)
theorem g8 (w:World)(os:OsState):segRunT treeTable pw w 11 ann 1 30 (S8 w os) (piecesOf [aA0 13] env cB ⟨135,0,135,6⟩ [topFrame fq])=some (.next,S9 w os,cB,⟨136,0,137,30⟩):=by lk
theorem g9 (w:World)(os:OsState):segRunT treeTable pw w 11 ann 1 361 (S9 w os) (piecesOf [aA0 14] env cB ⟨136,0,137,30⟩ [topFrame fq])=some (.next,S10 w os,cB,⟨138,0,138,6⟩):=by
 revert w; refine rr ?_ ?_<;>intro w<;>exact cv.trans (by lk)
theorem g10 (w:World)(os:OsState):segRunT treeTable pw w 11 ann 1 30 (S10 w os) (piecesOf [aA0 15] env cB ⟨138,0,138,6⟩ [topFrame fq])=some (.next,S11 w os,cB,⟨139,0,140,30⟩):=by lk
theorem g11 (w:World)(os:OsState):segRunT treeTable pw w 11 ann 1 775 (S11 w os) (piecesOf [aA0 16] env cB ⟨139,0,140,30⟩ [topFrame fq])=some (.next,S12 w os,cB,⟨141,0,141,6⟩):=by
 revert w; refine rr ?_ ?_<;>intro w<;>exact cv.trans (by lk)
theorem g12 (w:World)(os:OsState):segRunT treeTable pw w 11 ann 1 30 (S12 w os) (piecesOf [aA0 17] env cB ⟨141,0,141,6⟩ [topFrame fq])=some (.next,S13 w os,cB,⟨142,0,143,30⟩):=by lk
theorem g14 (w:World)(os:OsState):segRunT treeTable pw w 11 ann 1 256 (S14 w os) (piecesOf [aA0 19,aA0 20,aA0 21,aA0 22,aA0 23,aA0 24,aA0 25,aA0 26,aA0 27] env cB ⟨144,0,144,6⟩ [topFrame fq])=some (.next,S15 w os,cB,⟨183,0,196,55⟩):=by lk
theorem g15 (w:World)(os:OsState):segRunT treeTable pw w 11 ann 1 290 (S15 w os) (piecesOf [aA0 28,aA0 29,aA0 30,aA0 31,aA0 32,aA0 33,aA0 34,aA0 35,aA0 36,aA0 37] env cB ⟨183,0,196,55⟩ [topFrame fq])=some (.next,S16 w os,cB,⟨293,0,305,88⟩):=by lk
end
noncomputable section
noncomputable abbrev SG:=PySem.W.Fast.tw10295753902157049106
noncomputable abbrev SR:=PySem.W.Fast.tw10110043849684766642
noncomputable abbrev TT:=PySem.W.Fast.tw14364793385576792824
noncomputable abbrev DN:=PySem.W.Fast.tw11892475500146522536
noncomputable def c1:Code:= .builtin "list.extend.loop" ⟨[.ref 224, .ref 225, .none],[]⟩
noncomputable def c2:Code:= .builtin "set.update.loop" ⟨[.ref 229, .ref 230],[]⟩
noncomputable def q1:Pos:=⟨144,24,144,51⟩
noncomputable def q2:Pos:=⟨144,9,144,52⟩
noncomputable def t0:Thread:=⟨(PySem.W.Fast.tw12563942051412417395 [aA0 18] env).wrap doneF deadEnd id id,cB,⟨142,0,143,30⟩,[topFrame fq]⟩
noncomputable def FR1 (w:World)(os:OsState):List Frame:=match SG TT pw w 11 ann 1 87 (S13 w os) t0 with
 | some (_,t)=>t.stack
 | none=>[]
noncomputable def hdF (l:List Frame):Frame:=l.headD (topFrame fq)
theorem h0 (w:World)(os:OsState):SG TT pw w 11 ann 1 87 (S13 w os) t0=some (D0 w os,⟨DN TT c1,c1,q1,FR1 w os⟩):=by
 revert w; refine rr ?_ ?_<;>intro w<;>lk
theorem e1 (w:World)(os:OsState):FR1 w os=hdF (FR1 w os)::hdF ((FR1 w os).drop 1)::(FR1 w os).drop 2:=by
 revert w; refine rr ?_ ?_<;>intro w<;>lk
theorem h1 (w:World)(os:OsState)(f g:Frame)(r:List Frame):SG TT pw w 11 ann 1 408 (D0 w os) ⟨DN TT c1,c1,q1,f::g::r⟩=some (D1 w os,⟨DN TT c1,c1,q1,f::g::r⟩):=by lk
theorem h2 (w:World)(os:OsState)(f g:Frame)(r:List Frame):SG TT pw w 11 ann 1 408 (D1 w os) ⟨DN TT c1,c1,q1,f::g::r⟩=some (D2 w os,⟨DN TT c1,c1,q1,f::g::r⟩):=by lk
theorem h3 (w:World)(os:OsState)(f g:Frame)(r:List Frame):SG TT pw w 11 ann 1 408 (D2 w os) ⟨DN TT c1,c1,q1,f::g::r⟩=some (D3 w os,⟨DN TT c1,c1,q1,f::g::r⟩):=by lk
theorem h4 (w:World)(os:OsState)(f g:Frame)(r:List Frame):SG TT pw w 11 ann 1 408 (D3 w os) ⟨DN TT c1,c1,q1,f::g::r⟩=some (D4 w os,⟨DN TT c1,c1,q1,f::g::r⟩):=by lk
noncomputable def FR2 (w:World)(os:OsState):List Frame:=match SG TT pw w 11 ann 1 59 (D4 w os) ⟨DN TT c1,c1,q1,FR1 w os⟩ with
 | some (_,t)=>t.stack
 | none=>[]
theorem h5 (w:World)(os:OsState):SG TT pw w 11 ann 1 59 (D4 w os) ⟨DN TT c1,c1,q1,FR1 w os⟩=some (D5 w os,⟨DN TT c2,c2,q2,FR2 w os⟩):=by
 revert w; refine rr ?_ ?_<;>intro w<;>lk
theorem e2 (w:World)(os:OsState):FR2 w os=hdF (FR2 w os)::hdF ((FR2 w os).drop 1)::(FR2 w os).drop 2:=by
 revert w; refine rr ?_ ?_<;>intro w<;>lk
noncomputable def C5x (P:Params)(o it:Obj):BT:=n3 (boot_o_0 P) (n3 (boot_o_1 P) (dC0 P) (n3 (boot_o_5 P) (cG9 P) (n3 o13 (n3 o21 (n3 o37 j98 (n3 fE (n1 bD9) (n1 o))) (bX8 P)) (bX9 P)))) (n3 (boot_o_2 P) (dC1 P) (n3 (boot_o_6 P) (cQ9 P) (n3 o14 (n3 tE (n3 o38 cG7 (n3 bG8 (n1 aV5) (n1 it))) (cG8 P)) cH)))
noncomputable def DS (w:World)(os:OsState)(o:Obj)(k m:Nat):SharedT:=⟨C5x w.params o (cV4 k),231,lf w.params, #[],boot_drawn,m,os⟩
theorem cH0 (P:Params)(o it:Obj):(C5x P o it).get 229=some o:=by lk
theorem cH1 (P:Params)(o o' it:Obj):(C5x P o it).set 229 (λ_=>o')=C5x P o' it:=by lk
theorem ds0 (w:World)(os:OsState):D5 w os=DS w os (oAt w.params 0) 0 666:=by lk
noncomputable def LX (k:Nat)(w:World)(os:OsState)(o:Obj)(m:Nat)(K:Option Value->Sem Fin)(f g:Frame)(r:List Frame):Option (SharedT×Thread):=SG TT pw w 11 ann 1 10 (DS w os o k m) ⟨PySem.W.R.bindR (PySem.W.Fast.tw9404975358583537561 (.ref 230)) K,c2,q2,f::g::r⟩
noncomputable def RX (k:Nat)(w:World)(os:OsState)(o:Obj)(m:Nat)(K:Option Value->Sem Fin)(f g:Frame)(r:List Frame):Option (SharedT×Thread):=some (DS w os o (k+1) m,⟨K (some (x9 k)),c2,q2,f::g::r⟩)
noncomputable def LH (k:Nat)(b:Bool)(w:World)(os:OsState)(T:BT)(n:Nat)(life:Life)(gens:Array GenState)(drawn:Drawn)(m:Nat)(K:Int->Sem Fin)(f g:Frame)(r:List Frame):Option (SharedT×Thread):=SG TT pw (w.withFollow "special-get-raises" b) 11 ann 1 5 ⟨T,n,life,gens,drawn,m,os⟩ ⟨PySem.W.R.bindR (PySem.W.Fast.tw10540108854288196387 (x9 k)) K,c2,q2,f::g::r⟩
noncomputable def RH (k:Nat)(w:World)(os:OsState)(T:BT)(n:Nat)(life:Life)(gens:Array GenState)(drawn:Drawn)(m:Nat)(K:Int->Sem Fin)(f g:Frame)(r:List Frame):Option (SharedT×Thread):=some (⟨T,n,life,gens,drawn,m+1,os⟩,⟨K (i9 k),c2,q2,f::g::r⟩)
noncomputable def N9 (k:Nat):Prop:=(LX k,LH k false,LH k true)=(RX k,RH k,RH k)
theorem n9:∀ k,k<97->N9 k:=by
 repeat' first | exact lz | refine ls ?_ (by unfold N9; lk)
theorem nx (k:Nat)(h:k<97):LX k=RX k:=congrArg (·.1) (n9 k h)
theorem hf (k:Nat)(h:k<97):LH k false=RH k:=congrArg (·.2.1) (n9 k h)
theorem ht (k:Nat)(h:k<97):LH k true=RH k:=congrArg (·.2.2) (n9 k h)
noncomputable def dI7 (P:Params)(o:Obj):BT:=n3 (boot_o_0 P) (n3 (boot_o_1 P) (dB2 P) (n3 (boot_o_5 P) (cG9 P) (n3 o13 (n3 o21 (n3 o37 j98 (n3 fE (n1 bD9) (n1 o))) (bX8 P)) (bX9 P)))) (dB5 P)
noncomputable def dC2 (w:World)(os:OsState)(o:Obj):SharedT:=⟨dI7 w.params o,233,lf w.params, #[],boot_drawn,764,os⟩
theorem dI8 (w:World)(os:OsState):dC2 w os (oAt w.params 97)=S14 w os:=rfl
theorem hE (w:World)(os:OsState)(o:Obj):SR TT pw w 11 ann 1 40 (DS w os o 97 763) ⟨DN TT c2,c2,q2,FR2 w os⟩=some (.next,dC2 w os o,cB,⟨144,0,144,6⟩):=by
 revert w; refine rr ?_ ?_<;>intro w<;>lk
end
noncomputable section
theorem aP0 (f g:Obj->Obj):∀ (t:BT) (a:Nat),(t.set a f).set a g=t.set a (λo=>g (f o))
 | .nil,a=>rfl
 | .node v l r,a=>by
  rw [BT.set_node v l r a f,BT.set_node v l r a (λo=>g (f o))]
  by_cases h:a=0
  ·rw [if_pos h,if_pos h,BT.set_node,if_pos h]
  ·rw [if_neg h,if_neg h]
   by_cases p:a % 2=1
   ·rw [if_pos p,if_pos p,BT.set_node,if_neg h,if_pos p,aP0 f g l]
   ·rw [if_neg p,if_neg p,BT.set_node,if_neg h,if_neg p,aP0 f g r]
section
variable {w:World}{p:Program}{tb:String->Option Builtin}
theorem aI2:∀ {n m:Nat} {s s':SharedT} {t t':Thread} {X:Option (SharedT×Thread)},segGoT tb p w 11 ann 1 n s t=some (s',t')->segGoT tb p w 11 ann 1 m s' t'=X->segGoT tb p w 11 ann 1 (n+m) s t=X
 | 0,m,s,s',t,t',X,h,k=>by
  obtain ⟨rfl,rfl⟩:s=s'/\t=t':=by simpa [segGoT] using h
  rw [Nat.zero_add]; exact k
 | n+1,m,s,s',t,t',X,h,k=>by
  rw [show n+1+m=n+m+1 by room]
  unfold segGoT at h ⊢
  cases he:endAt 1 t with
  | some f=>rw [he] at h; cases h
  | none=>
   rw [he] at h
   cases hk:stepOk 11 ann t with
   | false=>rw [hk] at h; cases h
   | true=>
    rw [hk] at h
    cases hs:stepT (denote tb) p w s t with
    | none=>rw [hs] at h; cases h
    | some x=>obtain ⟨s₂,t₂⟩:=x; rw [hs] at h; exact aI2 h k
noncomputable def aB8 {α:Type}(w:World)(c:Code)(q:Pos)(N:Nat)(m:Sem α)(s:SharedT)(a:α)(s':SharedT):Prop:=
 ∃ n,n<=N/\∀ (K:α->Sem Fin) (f g:Frame) (r:List Frame),segGoT treeTable pw w 11 ann 1 n s ⟨m.bind K,c,q,f::g::r⟩=some (s',⟨K a,c,q,f::g::r⟩)
theorem aB8.now {α:Type}{c:Code}{q:Pos}{a:α}{s:SharedT}:aB8 w c q 0 (Sem.pure a) s a s:=⟨0,Nat.le_refl _,λ_ _ _ _=>rfl⟩
theorem bT4 {α β γ:Type}(m:Sem α)(F:α->Sem β)(K:β->Sem γ):(m.bind F).bind K=m.bind λx=>(F x).bind K:=by
 induction m<;>first | rfl | (rename_i ih; simp only [Sem.bind]; congr 1; funext x; exact ih x)
theorem aB8.andThen {α β:Type}{c:Code}{q:Pos}{N M:Nat}{m:Sem α}{F:α->Sem β}{s s' s'':SharedT}{a:α}{b:β}(h:aB8 w c q N m s a s')(k:aB8 w c q M (F a) s' b s''):aB8 w c q (N+M) (m.bind F) s b s'':=by
 refine aA1 h λn hn h=> ?_
 refine aA1 k λn' hn' k=> ?_
 refine ⟨n+n',by room,λK f g r=> ?_⟩
 rw [bT4]
 exact aI2 (h _ f g r) (k K f g r)
theorem aB8.le {α:Type}{c:Code}{q:Pos}{N M:Nat}{m:Sem α}{s s':SharedT}{a:α}(h:aB8 w c q N m s a s')(l:N<=M):aB8 w c q M m s a s':=by
 refine aA1 h λn hn h=> ?_
 exact ⟨n,by room,h⟩
noncomputable def bE6 (c:Code):Prop:=∀ (q:Pos) (st:List Frame),(∀ a part k,stepOk 11 ann ⟨.load a part k,c,q,st⟩=true)/\(∀ t k,stepOk 11 ann ⟨.rule t k,c,q,st⟩=true)/\(∀ a part f k,11<=a->stepOk 11 ann ⟨.update a part f k,c,q,st⟩=true)
theorem aB8.load {c:Code}{q:Pos}{s:SharedT}{a:Addr}{o:Obj}(hc:bE6 c)(ha:Nat.blt a s.n=true)(hg:s.tree.get a=some o)(hl:alive o=some o):aB8 w c q 1 (PySem.load a) s o s:=by
 refine ⟨1,Nat.le_refl _,λK f g r=> ?_⟩
 obtain ⟨T,n,life,gens,drawn,toks,os⟩:=s
 show (match stepOk 11 ann ⟨.load a none K,c,q,f::g::r⟩ with | false=>none | true=>match (match Nat.blt a n with | true=>(match T.get a with | some o=>(match alive o with | some o'=>some ((⟨T,n,life,gens,drawn,toks,os⟩:SharedT),(⟨K o',c,q,f::g::r⟩:Thread)) | none=>none) | none=>none) | false=>none) with | some (s',t')=>some (s',t') | none=>none)=_
 rw [(hc q _).1,ha,hg]
 show (match (match alive o with | some o'=>some ((⟨T,n,life,gens,drawn,toks,os⟩:SharedT),(⟨K o',c,q,f::g::r⟩:Thread)) | none=>none) with | some (s',t')=>some (s',t') | none=>none)=_
 rw [hl]
theorem aB8.rule {c:Code}{q:Pos}{s:SharedT}{tag:String}(hc:bE6 c):aB8 w c q 1 (PySem.rule tag) s () s:=by
 refine ⟨1,Nat.le_refl _,λK f g r=> ?_⟩
 obtain ⟨T,n,life,gens,drawn,toks,os⟩:=s
 show (match stepOk 11 ann ⟨.rule tag K,c,q,f::g::r⟩ with | false=>none | true=>some ((⟨T,n,life,gens,drawn,toks,os⟩:SharedT),(⟨K (),c,q,f::g::r⟩:Thread)))=_
 rw [(hc q _).2.1]
theorem aB8.update {c:Code}{q:Pos}{s:SharedT}{a:Addr}{o:Obj}{F:Obj->Obj}(hc:bE6 c)(h11:11<=a)(ha:Nat.blt a s.n=true)(hg:s.tree.get a=some o)(hl:alive o=some o):aB8 w c q 1 (PySem.update a F) s () { s with tree:=s.tree.set a F }:=by
 refine ⟨1,Nat.le_refl _,λK f g r=> ?_⟩
 obtain ⟨T,n,life,gens,drawn,toks,os⟩:=s
 show (match stepOk 11 ann ⟨.update a none F K,c,q,f::g::r⟩ with | false=>none | true=>match (match Nat.blt a n with | true=>(match T.get a with | some o=>(match alive o with | some _=>some ((⟨T.set a F,n,life,gens,drawn,toks,os⟩:SharedT),(⟨K (),c,q,f::g::r⟩:Thread)) | none=>none) | none=>none) | false=>none) with | some (s',t')=>some (s',t') | none=>none)=_
 rw [(hc q _).2.2 a none F K h11,ha,hg]
 show (match (match alive o with | some _=>some ((⟨T.set a F,n,life,gens,drawn,toks,os⟩:SharedT),(⟨K (),c,q,f::g::r⟩:Thread)) | none=>none) with | some (s',t')=>some (s',t') | none=>none)=_
 rw [hl]
theorem aP1 (es:Array (Int×Value))(n:Nat)(t:SetTable):alive (setO es n t)=some (setO es n t):=rfl
theorem dC3 (es es':Array (Int×Value))(n:Nat)(t t':SetTable):Obj.putSet es' t' (setO es n t)=setO es' (n+1) t':=rfl
theorem aU7 (a:Addr)(x:Value)(h:Int)(b:Bool):∀ (l:List (Int×Value)) (i:Nat),(∀ e∈l,(e.1 == h)=false)->setScanFrom a x h b l i=pure .absent
 | [],_,_=>rfl
 | (h',y)::l,i,H=>by
  have h1:(h' == h)=false:=H _ (.head _)
  unfold setScanFrom
  rw [h1]
  exact aU7 a x h b l (i+1) λe he=>H e (.tail _ he)
theorem aB8.setState {c:Code}{q:Pos}{s:SharedT}{a:Addr}{es:Array (Int×Value)}{n:Nat}{t:SetTable}(hc:bE6 c)(ha:Nat.blt a s.n=true)(hg:s.tree.get a=some (setO es n t))
  (hf:t.fits es.size=true):aB8 w c q 1 (PySem.setState a) s (es,n,t) s:=by
 have h1:(t.place.size != es.size || decide (t.fill > t.mask))=false:=by
  unfold SetTable.fits at hf
  simp only [Bool.and_eq_true,beq_iff_eq,decide_eq_true_eq] at hf
  simp only [bne,hf.1,beq_self_eq_true,Bool.not_true,Bool.false_or,decide_eq_false_iff_not]
  room
 have e:PySem.setState a=(PySem.load a).bind λo=>match o.data with
   | .set es n t=>if (t.place.size != es.size || decide (t.fill > t.mask))=true then unsupported "internal:set-table-does-not-fit-its-elements" else pure (es,n,t)
   | _=>unsupported "internal:not-a-set" :=by
  unfold PySem.setState
  rfl
 rw [e]
 refine (aB8.andThen (N:=1) (M:=0) (aB8.load hc ha hg (aP1 ..)) ?_)
 show aB8 w c q 0 (if (t.place.size != es.size || decide (t.fill > t.mask))=true then _ else _) s _ s
 rw [if_neg (by rw [h1]; exact Bool.false_ne_true)]
 exact .now
theorem aB8.storeSet {c:Code}{q:Pos}{s:SharedT}{a:Addr}{es es':Array (Int×Value)}{n:Nat}{t t':SetTable}(hc:bE6 c)(h11:11<=a)(ha:Nat.blt a s.n=true)(hg:s.tree.get a=some (setO es n t))
  (hz:es'.size<=sizeLine):aB8 w c q 2 (PySem.storeSet a es' t') s () { s with tree:=s.tree.set a (Obj.putSet es' t') }:=by
 have e:PySem.storeSet a es' t'=(PySem.load a).bind λo=>match o.data with
   | .set .. =>if es'.size > sizeLine then unsupported "set:memory" else PySem.update a (Obj.putSet es' t')
   | _=>unsupported "internal:write-to-non-set" :=by
  unfold PySem.storeSet
  rfl
 rw [e]
 refine (aB8.andThen (N:=1) (M:=1) (aB8.load hc ha hg (aP1 ..)) ?_)
 show aB8 w c q 1 (if es'.size > sizeLine then _ else _) s _ _
 rw [if_neg (by room)]
 exact aB8.update hc h11 ha hg (aP1 ..)
theorem aB8.ifRule {c:Code}{q:Pos}{s:SharedT}(hc:bE6 c)(tag:String)(b:Bool):aB8 w c q 1 (match b with | true=>PySem.rule tag | false=>pure ()) s () s:=by
 cases b with
 | true=>exact aB8.rule hc
 | false=>exact aB8.le .now (by room)
theorem aH5 (f:Obj->Obj)(o:Obj):∀ (t:BT) (a:Nat),t.get a=some o->t.set a f=t.set a (λ_=>f o)
 | .nil,a,h=>by cases h
 | .node v l r,a,h=>by
  rw [BT.get_node] at h
  rw [BT.set_node,BT.set_node]
  by_cases h0:a=0
  ·rw [if_pos h0] at h; rw [if_pos h0,if_pos h0]; cases h; rfl
  ·rw [if_neg h0] at h; rw [if_neg h0,if_neg h0]
   by_cases p:a % 2=1
   ·rw [if_pos p] at h; rw [if_pos p,if_pos p,aH5 f o l _ h]
   ·rw [if_neg p] at h; rw [if_neg p,if_neg p,aH5 f o r _ h]
theorem bH8 (t:SetTable)(es:Array (Int×Value))(h:Int)(x:Value):(layNew t es h x).1.size=es.size+1:=by
 have:=(layNew_perm t es h x).length_eq
 simpa using this
theorem bA9 (t:SetTable)(es:Array (Int×Value))(k:Nat):(relayAll t es k).1.size=es.size:=by
 have:=(relayAll_perm t es k).length_eq
 simpa using this
theorem aB8.addByScan {c:Code}{q:Pos}{s:SharedT}{a:Addr}{es:Array (Int×Value)}{n:Nat}{t:SetTable}{v:Int}{tk:Tok}{h:Int}(hc:bE6 c)(h11:11<=a)(ha:Nat.blt a s.n=true)
  (hg:s.tree.get a=some (setO es n t)) (hn:∀ e∈es.toList,(e.1 == h)=false) (hz:es.size<sizeLine):
  aB8 w c q 8 (PySem.setAddByScan a (.int v tk) h es t) s (some true) { s with tree:=s.tree.set a (λ_=>bM h (.int v tk) es n t) }:=by
 unfold PySem.setAddByScan
 refine aB8.andThen (N:=1) (M:=7) (aB8.rule hc) ?_
 have e1:setScan a (.int v tk) h true es=pure .absent:=aU7 a _ h true es.toList 0 hn
 refine aB8.andThen (N:=0) (M:=7) (a:= .absent) (s':=s) (by rw [e1]; exact .now) ?_
 have z1:(layNew t es h (.int v tk)).1.size<=sizeLine:=by rw [bH8]; room
 have z2:(relayAll (layNew t es h (.int v tk)).2.1 (layNew t es h (.int v tk)).1 (SetTable.grown (layNew t es h (.int v tk)).1.size)).1.size<=sizeLine:=by rw [bA9]; exact z1
 have hL:layNew t es h (.int v tk)=((layNew t es h (.int v tk)).1,(layNew t es h (.int v tk)).2.1,(layNew t es h (.int v tk)).2.2.1,(layNew t es h (.int v tk)).2.2.2):=rfl
 have hR:∀ (T:SetTable) (E:Array (Int×Value)) (k:Nat),relayAll T E k=((relayAll T E k).1,(relayAll T E k).2.1,(relayAll T E k).2.2):=λ_ _ _=>rfl
 unfold bM
 dsimp only
 generalize layNew t es h (.int v tk)=L at *
 obtain ⟨es1,t1,wd,gave⟩:=L
 dsimp only at *
 refine aB8.andThen (N:=1) (M:=6) (aB8.ifRule hc _ gave) ?_
 have key:aB8 w c q 6 (do
   PySem.storeSet a es1 t1
   if (!wd && t1.tooFull)=true then
    match relayAll t1 es1 (SetTable.grown es1.size) with
    | (es,t,gave)=>do
     (match gave with | true=>PySem.rule "set.scan.the-table-gave-way" | false=>pure ())
     PySem.storeSet a es t
     pure (some true)
   else pure (some true)) s (some true) { s with tree:=s.tree.set a (λ_=>if (!wd && t1.tooFull)=true then setO (relayAll t1 es1 (SetTable.grown es1.size)).1 (n+2) (relayAll t1 es1 (SetTable.grown es1.size)).2.1 else setO es1 (n+1) t1) }:=by
  refine aB8.andThen (N:=2) (M:=4) (aB8.storeSet hc h11 ha hg z1) ?_
  cases hb:(!wd && t1.tooFull) with
  | true=>
   rw [if_pos rfl,if_pos rfl]
   rw [hR]
   refine aB8.andThen (N:=1) (M:=3) (aB8.ifRule hc _ _) ?_
   have hg2:(s.tree.set a (Obj.putSet es1 t1)).get a=some (setO es1 (n+1) t1):=by
    rw [BT.get_set,if_pos rfl,hg]; rfl
   have hst:=aB8.storeSet (w:=w) (q:=q) (s:={ s with tree:=s.tree.set a (Obj.putSet es1 t1) }) (t':=(relayAll t1 es1 (SetTable.grown es1.size)).2.1) hc h11 ha hg2 z2
   have e:((s.tree.set a (Obj.putSet es1 t1)).set a (Obj.putSet (relayAll t1 es1 (SetTable.grown es1.size)).1 (relayAll t1 es1 (SetTable.grown es1.size)).2.1))=s.tree.set a (λ_=>setO (relayAll t1 es1 (SetTable.grown es1.size)).1 (n+2) (relayAll t1 es1 (SetTable.grown es1.size)).2.1):=by
    rw [aP0,aH5 _ _ _ _ hg]; rfl
   rw [<- e]
   refine aB8.andThen (N:=2) (M:=1) hst ?_
   exact aB8.le .now (by room)
  | false=>
   rw [if_neg Bool.false_ne_true,if_neg Bool.false_ne_true]
   have e:s.tree.set a (Obj.putSet es1 t1)=s.tree.set a (λ_=>setO es1 (n+1) t1):=by
    rw [aH5 _ _ _ _ hg]; rfl
   rw [<- e]
   exact aB8.le .now (by room)
 cases hp:t1.plain with
 | true=>exact key
 | false=>exact key
theorem aB8.addHashed {c:Code}{q:Pos}{s:SharedT}{a:Addr}{es:Array (Int×Value)}{n:Nat}{t:SetTable}{v:Int}{tk:Tok}{h:Int}(hc:bE6 c)(h11:11<=a)(ha:Nat.blt a s.n=true)
  (hg:s.tree.get a=some (setO es n t)) (hf:t.fits es.size=true) (hs:es.all (·.2.scannable)=true) (hn:∀ e∈es.toList,(e.1 == h)=false) (hz:es.size<scanBound):
  aB8 w c q 9 (PySem.setAddHashed a (.int v tk) h) s true { s with tree:=s.tree.set a (λ_=>bM h (.int v tk) es n t) }:=by
 show aB8 w c q 9 (PySem.setAddHashedIn a (.int v tk) h (99999+1)) s true _
 rw [PySem.setAddHashedIn.eq_2]
 refine aB8.andThen (N:=1) (M:=8) (aB8.setState hc ha hg hf) ?_
 have hb:byScan (.int v tk) es=true:=by
  unfold byScan
  rw [hs,decide_eq_true hz]; rfl
 show aB8 w c q 8 (if byScan (.int v tk) es=true then _ else _) s true _
 rw [if_pos hb]
 refine aB8.andThen (N:=8) (M:=0) (aB8.addByScan hc h11 ha hg hn (Nat.lt_trans hz (by decide))) ?_
 exact .now
end
theorem cH2:bE6 c2:=λq st=>⟨λ_ _ _=>rfl,λ_ _=>rfl,λa part f k h=>by
 show (_ && (Nat.ble 11 a || a == mainNs || a == cStatics || ann == some (.ref a)))=true
 rw [Nat.ble_eq_true_of_le h]; rfl⟩
theorem bE7 {tb:String->Option Builtin}{id:String}{b:Builtin}{args:Args}(h:entryFor tb id=some b):denote tb (.builtin id args)=b args:=by
 show (match entryFor tb id with | some b=>b args | none=>unsupported ((withoutEnding? id "#data").getD id))=_
 rw [h]
theorem dI9:denote treeTable c2=(pyNext (.ref 230)).bind λo=>match o with
  | some x=>(holding [x] (setAdd 229 x)).bind λ_=> .pure (.again c2)
  | none=>ret .none:=by
 have h:denote table c2=Builtin.«set.update.loop» ⟨[.ref 229, .ref 230],[]⟩:=bE7 PyProof.Rows.F.entry_set_update_loop
 rw [<- table_eq_tree,h]
 unfold Builtin.«set.update.loop»
 refine congrArg (Sem.bind (pyNext (.ref 230))) (funext λo=> ?_)
 cases o with
 | none=>rfl
 | some x=>rfl
theorem cH3 {w:World}{os:OsState}{o:Obj}{k m:Nat}(h:k<97):aB8 w c2 q2 10 (pyNext (.ref 230)) (DS w os o k m) (some (x9 k)) (DS w os o (k+1) m):=by
 refine ⟨10,Nat.le_refl _,λK f g r=> ?_⟩
 have z:LX k w os o m K f g r=RX k w os o m K f g r:=by rw [nx k h]
 delta LX RX SG TT at z
 rw [<- PySem.W.Fast.te10295753902157049106,<-PySem.W.Fast.te14364793385576792824,<-PySem.W.Fast.te9404975358583537561,<-PySem.W.R.bindR_eq] at z
 exact z
theorem cH4 {w:World}{s:SharedT}{k:Nat}(h:k<97):aB8 w c2 q2 5 (pyHash (x9 k)) s (i9 k) { s with toks:=s.toks+1 }:=by
 refine ⟨5,Nat.le_refl _,λK f g r=> ?_⟩
 obtain ⟨T,n,life,gens,drawn,m,os⟩:=s
 have z:SG TT pw w 11 ann 1 5 ⟨T,n,life,gens,drawn,m,os⟩ ⟨PySem.W.R.bindR (PySem.W.Fast.tw10540108854288196387 (x9 k)) K,c2,q2,f::g::r⟩=some (⟨T,n,life,gens,drawn,m+1,os⟩,⟨K (i9 k),c2,q2,f::g::r⟩):=
  byRow2 "special-get-raises" (P:=λw=>SG TT pw w 11 ann 1 5 ⟨T,n,life,gens,drawn,m,os⟩ ⟨PySem.W.R.bindR (PySem.W.Fast.tw10540108854288196387 (x9 k)) K,c2,q2,f::g::r⟩=some (⟨T,n,life,gens,drawn,m+1,os⟩,⟨K (i9 k),c2,q2,f::g::r⟩)) (λw=>(by rw [hf k h]:LH k false w os T n life gens drawn m K f g r=RH k w os T n life gens drawn m K f g r)) (λw=>(by rw [ht k h]:LH k true w os T n life gens drawn m K f g r=RH k w os T n life gens drawn m K f g r)) w
 delta SG TT at z
 rw [<- PySem.W.Fast.te10295753902157049106,<-PySem.W.Fast.te14364793385576792824,<-PySem.W.Fast.te10540108854288196387,<-PySem.W.R.bindR_eq] at z
 exact z
structure bH9 (k:Nat)(es:Array (Int×Value))(t:SetTable):Prop where
 fits:t.fits es.size=true
 size:es.size=k
 from_:∀ e∈es.toList,∃ j,j<k/\e=(i9 j,x9 j)
 has:∀ j,j<k->(i9 j,x9 j)∈es.toList
theorem cR {j k:Nat}(h:i9 j=i9 k):j=k:=by
 cases j<;>cases k<;>simp only [i9] at h<;>room
theorem aW4 (k:Nat):∃ tk,x9 k= .int (i9 k) tk:=by cases k<;>exact ⟨_,rfl⟩
theorem bH9.scan {k:Nat}{es:Array (Int×Value)}{t:SetTable}(I:bH9 k es t):es.all (·.2.scannable)=true:=by
 rw [Array.all_eq_true']
 intro e he
 refine aA1 (I.from_ e (Array.mem_toList_iff.mpr he)) λj _ z1z=> ?_
 subst z1z
 refine aA3 (aW4 j) λtk e=> ?_
 show (x9 j).scannable=true
 rw [e]; rfl
theorem bH9.fresh {k:Nat}{es:Array (Int×Value)}{t:SetTable}(I:bH9 k es t):∀ e∈es.toList,(e.1 == i9 k)=false:=λe he=>by
 refine aA1 (I.from_ e he) λj hj z1z=> ?_
 subst z1z
 exact beq_eq_false_iff_ne.mpr λh=>by have:=cR h; room
theorem bH9.of_perm {k:Nat}{es es':Array (Int×Value)}{t t':SetTable}(I:bH9 k es t)(p:List.Perm es'.toList (es.push (i9 k,x9 k)).toList)(hf:t'.fits es'.size=true):bH9 (k+1) es' t':=by
 have hl:(es.push (i9 k,x9 k)).toList=es.toList++[(i9 k,x9 k)]:=by simp
 rw [hl] at p
 refine ⟨hf, ?_,λe he=> ?_,λj hj=> ?_⟩
 ·have:=p.length_eq
  rw [List.length_append,Array.length_toList,Array.length_toList,I.size] at this
  exact this
 ·rcases List.mem_append.mp (p.mem_iff.mp he) with h | h
  ·obtain ⟨j,hj,q⟩:=I.from_ e h; exact ⟨j,by room,q⟩
  ·exact ⟨k,by room,List.mem_singleton.mp h⟩
 ·refine p.mem_iff.mpr (List.mem_append.mpr ?_)
  by_cases h:j=k
  ·subst h; exact .inr (List.mem_singleton.mpr rfl)
  ·exact .inl (I.has j (by room))
noncomputable def bT5 (k:Nat)(o:Obj):Prop:=∃ es n t,o=setO es n t/\bH9 k es t
theorem bT5.next {k:Nat}{o:Obj}(I:bT5 k o):bT5 (k+1) (bB5 k o):=by
 obtain ⟨es,n,t,rfl,I⟩:=I
 show bT5 (k+1) (bM (i9 k) (x9 k) es n t)
 have p1:=layNew_perm t es (i9 k) (x9 k)
 have f1:=layNew_fits t es (i9 k) (x9 k)
 unfold bM
 split
 ·exact ⟨_,_,_,rfl,I.of_perm ((relayAll_perm _ _ _).trans p1) (relayAll_fits _ _ _)⟩
 ·exact ⟨_,_,_,rfl,I.of_perm p1 f1⟩
theorem cH5 (P:Params):∀ k,bT5 k (oAt P k)
 | 0=>⟨#[],0,_,rfl,⟨rfl,rfl,λ_ h=>(nomatch h),λ_ h=>absurd h (Nat.not_lt_zero _)⟩⟩
 | k+1=>(cH5 P k).next
theorem dC4 {w:World}{os:OsState}{o:Obj}{k m:Nat}(h:k<97)(I:bT5 k o):∃ n,n<=25/\∀ (f g:Frame) (r:List Frame),
  segGoT treeTable pw w 11 ann 1 n (DS w os o k m) ⟨denote treeTable c2,c2,q2,f::g::r⟩=some (DS w os (bB5 k o) (k+1) (m+1),⟨denote treeTable c2,c2,q2,f::g::r⟩):=by
 obtain ⟨es,n,t,rfl,I⟩:=I
 refine aA3 (aW4 k) λtk hx=> ?_
 have h1:=cH3 (w:=w) (os:=os) (o:=setO es n t) (m:=m) h
 have h2:=cH4 (w:=w) (s:=DS w os (setO es n t) (k+1) m) h
 have h3:aB8 w c2 q2 9 (setAddHashed 229 (x9 k) (i9 k)) (DS w os (setO es n t) (k+1) (m+1)) true (DS w os (bB5 k (setO es n t)) (k+1) (m+1)):=by
  have z:=aB8.addHashed (w:=w) (q:=q2) (s:=DS w os (setO es n t) (k+1) (m+1)) (v:=i9 k) (tk:=tk) (h:=i9 k) cH2 (a:=229) (by decide) rfl (cH0 ..) I.fits I.scan I.fresh (by rw [I.size]; show k<4096; room)
  rw [<- hx] at z
  have e:(DS w os (setO es n t) (k+1) (m+1)).tree.set 229 (λ_=>bM (i9 k) (x9 k) es n t)=(DS w os (bB5 k (setO es n t)) (k+1) (m+1)).tree:=cH1 ..
  rw [e] at z
  exact z
 have h4:aB8 w c2 q2 14 (holding [x9 k] (setAdd 229 (x9 k))) (DS w os (setO es n t) (k+1) m) true (DS w os (bB5 k (setO es n t)) (k+1) (m+1)):=by
  have e:holding [x9 k] (setAdd 229 (x9 k))=(pyHash (x9 k)).bind λh=>setAddHashed 229 (x9 k) h:=by rw [hx]; rfl
  rw [e]
  exact aB8.andThen h2 h3
 refine aA1 h1 λn1 l1 h1=> ?_
 refine aA1 h4 λn4 l4 h4=> ?_
 refine ⟨n1+(n4+1),by room,λf g r=> ?_⟩
 have e0:=h1 (λo=>match o with
  | some x=>(holding [x] (setAdd 229 x)).bind λ_=> .pure (.again c2)
  | none=>ret .none) f g r
 rw [<- dI9] at e0
 exact aI2 e0 (aI2 (h4 (λ_=> .pure (.again c2)) f g r) (by lk))
theorem bY {w:World}{os:OsState}:∀ k,k<=97->∃ n,n<=25 * k/\∀ (f g:Frame) (r:List Frame),
  segGoT treeTable pw w 11 ann 1 n (DS w os (oAt w.params 0) 0 666) ⟨denote treeTable c2,c2,q2,f::g::r⟩=some (DS w os (oAt w.params k) k (666+k),⟨denote treeTable c2,c2,q2,f::g::r⟩)
 | 0,_=>⟨0,by room,λ_ _ _=>rfl⟩
 | k+1,h=>by
  obtain ⟨n,l,a⟩:=bY (w:=w) (os:=os) k (by room)
  obtain ⟨n',l',b⟩:=dC4 (w:=w) (os:=os) (m:=666+k) (show k<97 by room) (cH5 w.params k)
  exact ⟨n+n',by room,λf g r=>aI2 (a f g r) (b f g r)⟩
end
noncomputable section
noncomputable def p13:Pos:=⟨142,0,143,30⟩
noncomputable def p14:Pos:=⟨144,0,144,6⟩
theorem o0 (w:World)(os:OsState):segGoT treeTable pw w 11 ann 1 87 (S13 w os) (piecesOf [aA0 18] env cB p13 [topFrame fq])=some (D0 w os,⟨denote treeTable c1,c1,q1,FR1 w os⟩):=by
 have z:=h0 w os
 unfold SG TT DN t0 at z
 rw [<- PySem.W.Fast.te10295753902157049106,<-PySem.W.Fast.te14364793385576792824,<-PySem.W.Fast.te11892475500146522536,<-PySem.W.Fast.te12563942051412417395] at z
 exact z
theorem bP6 {n:Nat}{w:World}{s s':SharedT}{st:List Frame}(h:SG TT pw w 11 ann 1 n s ⟨DN TT c1,c1,q1,st⟩=some (s',⟨DN TT c1,c1,q1,st⟩)):
  segGoT treeTable pw w 11 ann 1 n s ⟨denote treeTable c1,c1,q1,st⟩=some (s',⟨denote treeTable c1,c1,q1,st⟩):=by
 unfold SG TT DN at h
 rw [<- PySem.W.Fast.te10295753902157049106,<-PySem.W.Fast.te14364793385576792824,<-PySem.W.Fast.te11892475500146522536] at h
 exact h
theorem o4 (w:World)(os:OsState)(f g:Frame)(r:List Frame):segGoT treeTable pw w 11 ann 1 (408+(408+(408+408))) (D0 w os) ⟨denote treeTable c1,c1,q1,f::g::r⟩=some (D4 w os,⟨denote treeTable c1,c1,q1,f::g::r⟩):=
 aI2 (bP6 (h1 w os f g r)) (aI2 (bP6 (h2 w os f g r)) (aI2 (bP6 (h3 w os f g r)) (bP6 (h4 w os f g r))))
theorem o5 (w:World)(os:OsState):segGoT treeTable pw w 11 ann 1 59 (D4 w os) ⟨denote treeTable c1,c1,q1,FR1 w os⟩=some (D5 w os,⟨denote treeTable c2,c2,q2,FR2 w os⟩):=by
 have z:=h5 w os
 unfold SG TT DN at z
 rw [<- PySem.W.Fast.te10295753902157049106,<-PySem.W.Fast.te14364793385576792824,<-PySem.W.Fast.te11892475500146522536] at z
 exact z
theorem oE (w:World)(os:OsState):segRunT treeTable pw w 11 ann 1 40 (DS w os (oAt w.params 97) 97 763) ⟨denote treeTable c2,c2,q2,FR2 w os⟩=some (.next,S14 w os,cB,p14):=by
 have z:=hE w os (oAt w.params 97)
 unfold SR TT DN at z
 rw [<- PySem.W.Fast.te10110043849684766642,<-PySem.W.Fast.te14364793385576792824,<-PySem.W.Fast.te11892475500146522536,dI8] at z
 exact z
theorem o9 (w:World)(os:OsState):∃ n,n<=5000/\segRun treeTable pw w 11 ann 1 n (S13 w os).abs (piecesOf [aA0 18] env cB p13 [topFrame fq])=some (.next,(S14 w os).abs,cB,p14):=by
 refine aA1 (bY (w:=w) (os:=os) 97 (Nat.le_refl _)) λn l t=> ?_
 have a4:segGoT treeTable pw w 11 ann 1 (408+(408+(408+408))) (D0 w os) ⟨denote treeTable c1,c1,q1,FR1 w os⟩=some (D4 w os,⟨denote treeTable c1,c1,q1,FR1 w os⟩):=by
  rw [e1 w os]; exact o4 w os _ _ _
 have a9:segGoT treeTable pw w 11 ann 1 n (D5 w os) ⟨denote treeTable c2,c2,q2,FR2 w os⟩=some (DS w os (oAt w.params 97) 97 763,⟨denote treeTable c2,c2,q2,FR2 w os⟩):=by
  rw [e2 w os,ds0]; exact t _ _ _
 have g:=aI2 (o0 w os) (aI2 a4 (aI2 (o5 w os) a9))
 exact ⟨_,by room,seg_go (segGo_of g) (segRun_of (oE w os))⟩
theorem dJ (w:World)(os:OsState):topGo treeTable pw w 11 ann 12 ⟨boot_heap w.params,Array.mk [],boot_drawn,boot_toks,os⟩ (topStub pw)=some ((S0 w os).abs,⟨denote treeTable cB,cB,aM3,[topFrame fq]⟩):=by lk
theorem dJ0 (w:World)(os:OsState):segRun treeTable pw w 11 ann 1 1 (S0 w os).abs (blockOf (behindTheImports pw) env cB aM3 [topFrame fq])=some (.next,(S0 w os).abs,cB,aM3):=by lk
theorem dJ1 (w:World)(os:OsState):topRun treeTable pw w 11 ann 2 (S16 w os).abs (restOf [] env cB ⟨293,0,305,88⟩ [topFrame fq])=some (S16 w os).abs:=by lk
end
noncomputable section
theorem dC5:behindTheImports pw=[aA0 0,aA0 1,aA0 2,aA0 3]++([aA0 4]++([aA0 5]++([aA0 6]++([aA0 7]++([aA0 8]++([aA0 9,aA0 10,aA0 11]++([aA0 12]++([aA0 13]++([aA0 14]++([aA0 15]++([aA0 16]++([aA0 17]++([aA0 18]++([aA0 19,aA0 20,aA0 21,aA0 22,aA0 23,aA0 24,aA0 25,aA0 26,aA0 27]++([aA0 28,aA0 29,aA0 30,aA0 31,aA0 32,aA0 33,aA0 34,aA0 35,aA0 36,aA0 37]++[]))))))))))))))):=by lk
theorem dJ2 (w:World)(os:OsState):∃ n,n<=12000/\topRun treeTable pw w 11 ann n ⟨boot_heap w.params,Array.mk [],boot_drawn,boot_toks,os⟩ (topStub pw)=some (S16 w os).abs:=by
 refine aA1 (o9 w os) λn9 l9 c9=> ?_
 have k16:=dJ1 w os
 have k15:=piece_app (segRun_of (g15 w os)) k16
 have k14:=piece_app (segRun_of (g14 w os)) k15
 have k13:=piece_app c9 k14
 have k12:=piece_app (segRun_of (g12 w os)) k13
 have k11:=piece_app (segRun_of (g11 w os)) k12
 have k10:=piece_app (segRun_of (g10 w os)) k11
 have k9:=piece_app (segRun_of (g9 w os)) k10
 have k8:=piece_app (segRun_of (g8 w os)) k9
 have k7:=piece_app (segRun_of (g7 w os)) k8
 have k6:=piece_app (segRun_of (g6 w os)) k7
 have k5:=piece_app (segRun_of (g5 w os)) k6
 have k4:=piece_app (segRun_of (g4 w os)) k5
 have k3:=piece_app (segRun_of (g3 w os)) k4
 have k2:=piece_app (segRun_of (g2 w os)) k3
 have k1:=piece_app (segRun_of (g1 w os)) k2
 have k0:=piece_app (segRun_of (g0 w os)) k1
 rw [<- dC5] at k0
 have kb:=go_top (dJ w os) (piece_block (dJ0 w os) k0)
 exact ⟨_,by room,kb⟩
noncomputable def H1 (P:Params):Heap:=absHeap (T16 P) 347 (lf P)
theorem dJ3 (w:World)(os:OsState):topRun treeTable pw w 11 ann 12000 ⟨boot_heap w.params,Array.mk [],boot_drawn,boot_toks,os⟩ (topStub pw)=some ⟨H1 w.params, #[],boot_drawn,917,os⟩:=by
 refine aA1 (dJ2 w os) λn l h=> ?_
 have:=topRun_mono (12000 - n) _ _ _ _ h
 rw [show n+(12000 - n)=12000 by room] at this
 exact this
theorem dC6 (w:World):(fencedOpening treeTable pw w 20000).map (λs=>(s.heap,s.gens,s.drawn,s.toks))=some (boot_heap w.params,Array.mk [],boot_drawn,boot_toks):=
 boot_open (by lk) (by decide) (λs=>by lk) w
theorem dC7 (w:World):((boot_heap w.params).isNs mainGlobals && (Array.mk []:Array GenState).size == 0,(boot_heap w.params).objs.size,(boot_heap w.params).nsMap mainGlobals "__annotations__")=(true,11,ann):=by lk
end
noncomputable section
noncomputable def qv:Program:={ pw with main:={ pw.main with body:=[aA0 37] } }
noncomputable def loose:List Str:=[u "_wall",u "_NODE_OUT",u "_NODE_DONE",u "_NodeInfo",u "CycleError",u "TopologicalSorter",u "b1_set",u "in_table_b1",u "in_table_c11",u "in_table_c4",u "c6_set",u "in_table_c6",u "c7_set",u "in_table_c7",u "c8_set",u "in_table_c8",u "c9_set",u "in_table_c9",u "_law_draws",u "_law_order",u "_law_spots",u "_law_first",u "_law_ring",u "_law_ring_told",u "_law_sweeps",u "_law_drained",u "_law_due",u "_law_first_given",u "_law_given",u "_law_held",u "_law_worked",u "_law_prepared",u "_law_goes",u "_law_run"]
theorem cR0 (w:World)(os:OsState):(staticsOk (importedModules pw.main.body) (boot_heap w.params) (H1 w.params) && namesBound pw (H1 w.params) && gensDone ⟨H1 w.params, #[],boot_drawn,917,os⟩ && laidKept (boot_heap w.params) (H1 w.params))=true:=by lk
theorem cR1 (w:World)(os:OsState):openSeen qv loose (importedModules pw.main.body) (λ_=>true) true ⟨H1 w.params, #[],boot_drawn,917,os⟩=openGood qv loose:=by lk
theorem left:LeftO pw qv loose (λ_=>true) (λs=>s.heap) (λw=>H1 w.params) 20000 true:=
 LeftO.of_pieces dC6 dC7 dJ3 (by decide) λw=>funext λos=>by
  rw [cR0 w os,cR1 w os]
end
inductive T where
 | none
 | bool (b:Bool)
 | int (i:Int)
 | str (s:Str)
 | list (l:List T)
 | tup (l:List T)
 | obj (a:Addr)
noncomputable abbrev PM:=Addr->Option Obj
noncomputable def PM.le (B B':PM):Prop:=∀ a o,B a=some o->B' a=some o
theorem PM.le.refl (B:PM):B.le B:=λ_ _ h=>h
theorem PM.le.trans {A B C:PM}(x:A.le B)(y:B.le C):A.le C:=λa o h=>y a o (x a o h)
noncomputable def PM.put (B:PM)(a:Addr)(o:Obj):PM:=λb=>if b=a then some o else B b
theorem PM.put_self (B:PM)(a:Addr)(o:Obj):B.put a o a=some o:=if_pos rfl
theorem PM.put_ne (B:PM){a b:Addr}(o:Obj)(h:b≠a):B.put a o b=B b:=if_neg h
theorem PM.le_put {B:PM}{a:Addr}(o:Obj)(h:B a=none):B.le (B.put a o):=λb x e=>by
 by_cases q:b=a
 ·subst q; rw [h] at e; cases e
 ·rw [PM.put_ne B o q]; exact e
noncomputable def isL (o:Obj)(vs:List Value):Prop:=o.cls= .type "list" /\∃ n,o.data= .seq vs.toArray n
noncomputable def isT (o:Obj)(vs:List Value):Prop:=o.cls= .type "tuple" /\∃ n,o.data= .seq vs.toArray n
mutual
inductive Val (B:PM):Value->T->Prop
 | none:Val B .none .none
 | bool (b:Bool):Val B (.bool b) (.bool b)
 | int (i:Int) (k:Tok):Val B (.int i k) (.int i)
 | str (x:Str) (k:Tok):Val B (.str x k) (.str x)
 | obj (a:Addr):Val B (.ref a) (.obj a)
 | list {a:Addr} {o:Obj} {vs:List Value} {ts:List T}:B a=some o->isL o vs->o.dict=none->aA6 B vs ts->Val B (.ref a) (.list ts)
 | tup {a:Addr} {o:Obj} {vs:List Value} {ts:List T}:B a=some o->isT o vs->aA6 B vs ts->Val B (.ref a) (.tup ts)
inductive aA6 (B:PM):List Value->List T->Prop
 | nil:aA6 B [] []
 | cons {v:Value} {t:T} {vs:List Value} {ts:List T}:Val B v t->aA6 B vs ts->aA6 B (v::vs) (t::ts)
end
theorem aA6.ind {B:PM}{M:(vs:List Value)->(ts:List T)->aA6 B vs ts->Prop}(h0:M [] [] .nil)(hc:∀ {v:Value} {t:T} {vs:List Value} {ts:List T} (a:Val B v t) (r:aA6 B vs ts),M vs ts r->M (v::vs) (t::ts) (.cons a r)){vs:List Value}{ts:List T}(h:aA6 B vs ts):M vs ts h:=by
 refine aA6.rec (motive_1:=λ_ _ _=>True) (motive_2:=M) ?_ ?_ ?_ ?_ ?_ ?_ ?_ h0 (λv r _ ih=>hc v r ih) h<;>intros<;>trivial
noncomputable def dJ4 (B:PM)(v:Value):T->Prop
 | .none=>v= .none
 | .bool b=>v= .bool b
 | .int i=>∃ k,v= .int i k
 | .str x=>∃ k,v= .str x k
 | .obj a=>v= .ref a
 | .list ts=>∃ a o vs,v= .ref a/\B a=some o/\isL o vs/\o.dict=none/\aA6 B vs ts
 | .tup ts=>∃ a o vs,v= .ref a/\B a=some o/\isT o vs/\aA6 B vs ts
theorem Val.inv {B:PM}{v:Value}{t:T}(h:Val B v t):dJ4 B v t:=by
 cases h with
 | int i k=>exact ⟨k,rfl⟩
 | str x k=>exact ⟨k,rfl⟩
 | list h i d vs=>exact ⟨_,_,_,rfl,h,i,d,vs⟩
 | tup h i vs=>exact ⟨_,_,_,rfl,h,i,vs⟩
 | _=>rfl
noncomputable def dC8 (B:PM)(vs:List Value):List T->Prop
 | []=>vs=[]
 | t::ts=>∃ v r,vs=v::r/\Val B v t/\aA6 B r ts
theorem aA6.inv {B:PM}{vs:List Value}{ts:List T}(h:aA6 B vs ts):dC8 B vs ts:=by
 cases h with
 | nil=>rfl
 | cons v r=>exact ⟨_,_,rfl,v,r⟩
theorem aA6.un {B:PM}{v:Value}{t:T}{vs:List Value}{ts:List T}(h:aA6 B (v::vs) (t::ts)):Val B v t/\aA6 B vs ts:=
 aB0 h.inv λ_ _ e a b=>(List.cons.inj e).1 ▸ (List.cons.inj e).2 ▸ ⟨a,b⟩
theorem Val.mono {B B':PM}(l:B.le B'){v:Value}{t:T}(h:Val B v t):Val B' v t:=
 Val.rec (motive_1:=λv t _=>Val B' v t) (motive_2:=λvs ts _=>aA6 B' vs ts) .none .bool .int .str .obj (λh i d _ ih=> .list (l _ _ h) i d ih) (λh i _ ih=> .tup (l _ _ h) i ih) .nil (λ_ _ a b=> .cons a b) h
theorem aA6.mono {B B':PM}(l:B.le B'){vs:List Value}{ts:List T}(h:aA6 B vs ts):aA6 B' vs ts:=
 aA6.ind (M:=λvs ts _=>aA6 B' vs ts) .nil (λv _ ih=> .cons (v.mono l) ih) h
theorem aA6.length {B:PM}{vs:List Value}{ts:List T}(h:aA6 B vs ts):vs.length=ts.length:=
 aA6.ind (M:=λvs ts _=>vs.length=ts.length) rfl (λ_ _ ih=>congrArg (· +1) ih) h
theorem aA6.append {B:PM}{vs vs':List Value}{ts ts':List T}(h:aA6 B vs ts)(h':aA6 B vs' ts'):aA6 B (vs++vs') (ts++ts'):=
 aA6.ind (M:=λvs ts _=>aA6 B (vs++vs') (ts++ts')) h' (λv _ ih=> .cons v ih) h
theorem aA6.get {B:PM}{vs:List Value}{ts:List T}(h:aA6 B vs ts){i:Nat}{t:T}(e:ts[i]? =some t):∃ v,vs[i]? =some v/\Val B v t:=by
 induction h using aA6.ind generalizing i with
 | h0=>cases e
 | hc v r ih=>cases i with
  | zero=>cases e; exact ⟨_,rfl,v⟩
  | succ i=>exact ih e
structure aA8 where
 h:PM
 B:PM
structure Fm (w:World)(h0:aA8)(env:Env)(B:PM)(O:OL)(m cm:NM)(os:OsState)(s:Shared):Prop where
 ns:s.heap.Ns env.locals m
 cel:∀ x c,env.cells.lookup x=some c->s.heap.IsCell c (cm x)
 old:∀ a o,h0.h a=some o->s.heap.get? a=some o
 sub:∀ a o,B a=some o->s.heap.get? a=some o
 opn:∀ p∈O,s.heap.get? p.1=some p.2
 offL:B env.locals=none/\h0.h env.locals=none
 offC:∀ x c,env.cells.lookup x=some c->B c=none/\c≠env.locals
 cinj:∀ x y c,env.cells.lookup x=some c->env.cells.lookup y=some c->x=y
 offO:∀ p∈O,B p.1=none/\h0.h p.1=none/\p.1≠env.locals/\∀ x c,env.cells.lookup x=some c->c≠p.1
 nod:(O.map (·.1)).Nodup
 gl:∀ a o,(H1 w.params).get? a=some o->B a=some o
 gens:s.gens= #[]
 oss:s.os=os
 nw:∀ a o,B a=some o->h0.B a=some o\/h0.h a=none
section
variable {w:World}{h0:aA8}{env:Env}{B:PM}{O:OL}{m cm:NM}{os:OsState}{s:Shared}
theorem aC {h h':Heap}{a:Addr}{m:NM}(x:h.Ns a m)(k:∀ o,h.get? a=some o->h'.get? a=some o):h'.Ns a m:=
 cF0 x λo es ep ho r=>⟨o,es,ep,k o ho,r⟩
theorem aK3 {h:Heap}{a:Addr}{m:NM}(x:h.Ns a m):∃ o,h.get? a=some o:=cF0 x λo _ _ ho _=>⟨o,ho⟩
theorem Fm.locLt (F:Fm w h0 env B O m cm os s):env.locals<s.heap.objs.size:=(aK3 F.ns).elim λ_ ho=>Heap.lt_size ho
theorem aA7 {h:Heap}:h.get? h.objs.size=none:=by
 cases e:h.get? h.objs.size with
 | none=>rfl
 | some o=>exact absurd (Heap.lt_size e) (Nat.lt_irrefl _)
theorem Fm.tok (F:Fm w h0 env B O m cm os s)(k:Nat):Fm w h0 env B O m cm os { s with toks:=k }:=
 ⟨F.ns,F.cel,F.old,F.sub,F.opn,F.offL,F.offC,F.cinj,F.offO,F.nod,F.gl,F.gens,F.oss,F.nw⟩
theorem Fm.grow (F:Fm w h0 env B O m cm os s){h':Heap}(k:∀ a o,s.heap.get? a=some o->h'.get? a=some o)(tk:Nat):Fm w h0 env B O m cm os { s with heap:=h',toks:=tk }:=
 ⟨aC F.ns (k _),λx c e=>(F.cel x c e).keeps k,λa o e=>k _ _ (F.old a o e),λa o e=>k _ _ (F.sub a o e),λp hp=>k _ _ (F.opn p hp),F.offL,F.offC,F.cinj,F.offO,F.nod,F.gl,F.gens,F.oss,F.nw⟩
theorem Fm.know (F:Fm w h0 env B O m cm os s){a:Addr}{o:Obj}(ha:s.heap.get? a=some o)(hB:B a=none)(hN:h0.h a=none)(hL:a≠env.locals)(hC:∀ x c,env.cells.lookup x=some c->c≠a)(hO:∀ p∈O,p.1≠a):Fm w h0 env (B.put a o) O m cm os s:=by
 refine ⟨F.ns,F.cel,F.old,λb x e=> ?_,F.opn,⟨?_,F.offL.2⟩,λx c e=>⟨?_,(F.offC x c e).2⟩,F.cinj,λp hp=>⟨?_,(F.offO p hp).2⟩,F.nod,λb x e=> ?_,F.gens,F.oss,λb x e=> ?_⟩
 ·by_cases q:b=a
  ·subst q; rw [PM.put_self] at e; cases e; exact ha
  ·rw [PM.put_ne B o q] at e; exact F.sub b x e
 ·rw [PM.put_ne B o hL.symm]; exact F.offL.1
 ·rw [PM.put_ne B o (hC x c e)]; exact (F.offC x c e).1
 ·rw [PM.put_ne B o (hO p hp)]; exact (F.offO p hp).1
 ·exact PM.le_put o hB _ _ (F.gl b x e)
 ·by_cases q:b=a
  ·subst q; exact .inr hN
  ·rw [PM.put_ne B o q] at e; exact F.nw b x e
theorem Fm.none_of_fresh (F:Fm w h0 env B O m cm os s):B s.heap.objs.size=none:=by
 cases e:B s.heap.objs.size with
 | none=>rfl
 | some o=>have:=F.sub _ _ e; rw [aA7] at this; cases this
theorem Fm.freshOld (F:Fm w h0 env B O m cm os s):h0.h s.heap.objs.size=none:=by
 cases e:h0.h s.heap.objs.size with
 | none=>rfl
 | some x=>have:=F.old _ _ e; rw [aA7] at this; cases this
theorem Fm.apart (F:Fm w h0 env B O m cm os s):s.heap.objs.size≠env.locals/\(∀ x c,env.cells.lookup x=some c->c≠s.heap.objs.size)/\∀ p∈O,p.1≠s.heap.objs.size:=
 ⟨Nat.ne_of_gt F.locLt,(λx c e q=>by
  refine aA1 (F.cel x c e) λo ho _=> ?_
  rw [q,aA7] at ho; cases ho),(λp hp q=>by
  have:=F.opn p hp
  rw [q,aA7] at this; cases this)⟩
theorem Fm.push (F:Fm w h0 env B O m cm os s){o:Obj}(hf:o.isFreed=false)(tk:Nat):Fm w h0 env (B.put s.heap.objs.size o) O m cm os { s with heap:=s.heap.push o,toks:=tk }:=by
 refine aC5 F.apart λa1 a2 a3=> ?_
 exact (F.grow (h':=s.heap.push o) (λa x e=>Heap.get?_push_of_some _ e) tk).know (Heap.get?_push_size _ hf) F.none_of_fresh F.freshOld a1 a2 a3
theorem Fm.pushO (F:Fm w h0 env B O m cm os s){o:Obj}(hf:o.isFreed=false)(tk:Nat):Fm w h0 env B ((s.heap.objs.size,o)::O) m cm os { s with heap:=s.heap.push o,toks:=tk }:=by
 refine aC5 F.apart λa1 a2 a3=> ?_
 have G:=F.grow (h':=s.heap.push o) (λa x e=>Heap.get?_push_of_some _ e) tk
 refine ⟨G.ns,G.cel,G.old,G.sub, ?_,G.offL,G.offC,G.cinj, ?_, ?_,G.gl,G.gens,G.oss,G.nw⟩
 ·intro p hp
  rcases List.mem_cons.mp hp with rfl | hp
  ·exact Heap.get?_push_size _ hf
  ·exact G.opn p hp
 ·intro p hp
  rcases List.mem_cons.mp hp with rfl | hp
  ·refine ⟨F.none_of_fresh, ?_,a1,a2⟩
   cases e:h0.h s.heap.objs.size with
   | none=>rfl
   | some x=>have:=F.old _ _ e; rw [aA7] at this; cases this
  ·exact F.offO p hp
 ·rw [List.map_cons,List.nodup_cons]
  exact ⟨λh=>by obtain ⟨p,hp,e⟩:=List.mem_map.mp h; exact a3 p hp e,F.nod⟩
theorem Fm.setLocal (F:Fm w h0 env B O m cm os s){h':Heap}{m':NM}(hn:h'.Ns env.locals m')(hs:Heap.SameBut env.locals s.heap h')(tk:Nat):Fm w h0 env B O m' cm os { s with heap:=h',toks:=tk }:=by
 have g:∀ a,a≠env.locals->∀ o,s.heap.get? a=some o->h'.get? a=some o:=λa ha o e=>(hs.2 a ha).trans e
 refine ⟨hn,λx c e=> ?_,λa o e=> ?_,λa o e=> ?_,λp hp=> ?_,F.offL,F.offC,F.cinj,F.offO,F.nod,F.gl,F.gens,F.oss,F.nw⟩
 ·exact (F.cel x c e).sameBut hs (F.offC x c e).2
 ·refine g a (λq=> ?_) o (F.old a o e)
  rw [q,F.offL.2] at e; cases e
 ·refine g a (λq=> ?_) o (F.sub a o e)
  rw [q,F.offL.1] at e; cases e
 ·exact g _ (F.offO p hp).2.2.1 _ (F.opn p hp)
theorem Fm.setCell (F:Fm w h0 env B O m cm os s){h':Heap}{x:Str}{c:Addr}{v:Value}(hc:env.cells.lookup x=some c)(hold:h0.h c=none)(hn:h'.IsCell c (some v))(hs:Heap.SameBut c s.heap h')(tk:Nat):
  Fm w h0 env B O m (λy=>if y=x then some v else cm y) os { s with heap:=h',toks:=tk }:=by
 have g:∀ a,a≠c->∀ o,s.heap.get? a=some o->h'.get? a=some o:=λa ha o e=>(hs.2 a ha).trans e
 refine ⟨aC F.ns (g _ (F.offC x c hc).2.symm),λy d e=> ?_,λa o e=> ?_,λa o e=> ?_,λp hp=> ?_,F.offL,F.offC,F.cinj,F.offO,F.nod,F.gl,F.gens,F.oss,F.nw⟩
 ·by_cases q:y=x
  ·subst q
   rw [hc] at e; cases e
   rw [if_pos rfl]; exact hn
  ·rw [if_neg q]
   refine (F.cel y d e).sameBut hs λr=> ?_
   subst r
   exact q (F.cinj y x _ e hc)
 ·refine g a (λq=> ?_) o (F.old a o e)
  rw [q,hold] at e; cases e
 ·refine g a (λq=> ?_) o (F.sub a o e)
  rw [q,(F.offC x c hc).1] at e; cases e
 ·exact g _ (λq=>(F.offO p hp).2.2.2 x c hc q.symm) _ (F.opn p hp)
theorem Fm.turn {a:Addr}{o o':Obj}{P R:OL}(F:Fm w h0 env B (P++(a,o)::R) m cm os s){h':Heap}(hn:h'.get? a=some o')(hs:Heap.SameBut a s.heap h')(tk:Nat):
  Fm w h0 env B (P++(a,o')::R) m cm os { s with heap:=h',toks:=tk }:=by
 have ha:(a,o)∈P++(a,o)::R:=List.mem_append.mpr (.inr (.head _))
 have fa:=F.offO _ ha
 have g:∀ b,b≠a->∀ x,s.heap.get? b=some x->h'.get? b=some x:=λb hb x e=>(hs.2 b hb).trans e
 have hm:(P++(a,o')::R).map (·.1)=(P++(a,o)::R).map (·.1):=by simp
 have hnod:=F.nod
 have hmem:∀ p∈P++(a,o')::R,p=(a,o')\/(p∈P++(a,o)::R/\p.1≠a):=by
  intro p hp
  rw [List.map_append,List.map_cons,List.nodup_append] at hnod
  rcases List.mem_append.mp hp with h | h
  ·refine .inr ⟨List.mem_append.mpr (.inl h),λq=> ?_⟩
   exact hnod.2.2 p.1 (List.mem_map_of_mem h) a (.head _) q
  ·rcases List.mem_cons.mp h with h | h
   ·exact .inl h
   ·refine .inr ⟨List.mem_append.mpr (.inr (.tail _ h)),λq=> ?_⟩
    have:=(List.nodup_cons.mp hnod.2.1).1
    exact this (q ▸ List.mem_map_of_mem (f:=(·.1)) h)
 refine ⟨aC F.ns (g _ fa.2.2.1.symm),λy d e=>(F.cel y d e).sameBut hs (fa.2.2.2 y d e),λb x e=> ?_,λb x e=> ?_,λp hp=> ?_,F.offL,F.offC,F.cinj,λp hp=> ?_,by rw [hm]; exact F.nod,F.gl,F.gens,F.oss,F.nw⟩
 ·refine g b (λq=> ?_) x (F.old b x e)
  rw [q,fa.2.1] at e; cases e
 ·refine g b (λq=> ?_) x (F.sub b x e)
  rw [q,fa.1] at e; cases e
 ·rcases hmem p hp with rfl | ⟨h,q⟩
  ·exact hn
  ·exact g _ q _ (F.opn p h)
 ·rcases hmem p hp with rfl | ⟨h,q⟩
  ·exact fa
  ·exact F.offO p h
theorem Fm.freeze {a:Addr}{o:Obj}{P R:OL}(F:Fm w h0 env B (P++(a,o)::R) m cm os s):Fm w h0 env (B.put a o) (P++R) m cm os s:=by
 have ha:(a,o)∈P++(a,o)::R:=List.mem_append.mpr (.inr (.head _))
 have fa:=F.offO _ ha
 have hnod:=F.nod
 rw [List.map_append,List.map_cons,List.nodup_append] at hnod
 have sub:∀ p∈P++R,p∈P++(a,o)::R:=λp hp=>by
  rcases List.mem_append.mp hp with h | h
  ·exact List.mem_append.mpr (.inl h)
  ·exact List.mem_append.mpr (.inr (.tail _ h))
 have ne:∀ p∈P++R,p.1≠a:=λp hp q=>by
  rcases List.mem_append.mp hp with h | h
  ·exact hnod.2.2 p.1 (List.mem_map_of_mem h) a (.head _) q
  ·exact (List.nodup_cons.mp hnod.2.1).1 (q ▸ List.mem_map_of_mem (f:=(·.1)) h)
 have G:Fm w h0 env B (P++R) m cm os s:=⟨F.ns,F.cel,F.old,F.sub,λp hp=>F.opn p (sub p hp),F.offL,F.offC,F.cinj,λp hp=>F.offO p (sub p hp),by
  rw [List.map_append,List.nodup_append]
  exact ⟨hnod.1,(List.nodup_cons.mp hnod.2.1).2,λx hx y hy=>hnod.2.2 x hx y (.tail _ hy)⟩,F.gl,F.gens,F.oss,F.nw⟩
 exact G.know (F.opn _ ha) fa.1 fa.2.1 fa.2.2.1 (λx c e=>fa.2.2.2 x c e) ne
end
noncomputable def isD (o:Obj)(kvs:List (Int×Value))(ep:Nat):Prop:=∃ (w:World) (es:Array DictEntry),o.ExactDict/\o.data= .dict es ep/\KeysOf (intKind pw w) es/\Pairs (intKind pw w) es.toList kvs/\(kvs.map (·.1)).Nodup
theorem bI {w w':World}{es:List DictEntry}{kvs:List (Int×Value)}(h:Pairs (intKind pw w) es kvs):Pairs (intKind pw w') es kvs:=by
 induction h with
 | nil=>exact .nil
 | cons a b r ih=>exact .cons a b ih
theorem isD.to {o:Obj}{kvs:List (Int×Value)}{ep:Nat}(h:isD o kvs ep)(w:World):o.IsDictOf (intKind pw w) kvs:=
 bL3 h λ_ es a b c d e=>⟨es,ep,a,b,c,bI d,e⟩
theorem isD.of {o:Obj}{kvs:List (Int×Value)}{w:World}(h:o.IsDictOf (intKind pw w) kvs):∃ ep,isD o kvs ep:=
 h.elim λes h=>h.elim λep r=>⟨ep,w,es,r⟩
theorem isD.at_ {h:Heap}{a:Addr}{o:Obj}{kvs:List (Int×Value)}{ep:Nat}(x:isD o kvs ep)(ho:h.get? a=some o)(w:World):h.DictAt (intKind pw w) a kvs ep:=
 bL3 x λ_ es b c d e f=>⟨o,es,ho,b,c,d,bI e,f⟩
noncomputable def isS (o:Obj)(S:Int->Bool)(n:Nat):Prop:=∃ (w:World) (es:Array (Int×Value)) (ep:Nat) (t:SetTable),o.ExactSet/\o.data= .set es ep t/\ElemsOf (intKind pw w) es.toList/\(∀ k,S k=true↔∃ e∈es.toList,(intKind pw w).is k e.2=true)
  /\es.size<scanBound/\t.fits es.size=true/\es.size=n
inductive aJ:List DictEntry->List (Str×Value)->Prop
 | nil:aJ [] []
 | cons {h:Int} {x:Str} {tk:Tok} {v:Value} {es:List DictEntry} {kvs:List (Str×Value)}:aJ es kvs->aJ (⟨h, .str x tk,v⟩::es) ((x,v)::kvs)
noncomputable def isN (o:Obj)(kvs:List (Str×Value)):Prop:=∃ es n,o.data= .dict es.toArray n/\aJ es kvs
noncomputable abbrev aF0 (a:Addr):Obj:={ cls:= .type "method-wrapper",data:= .fields #[.builtin "list_iterator.__next__", .ref a] }
inductive Ob where
 | ls0 (ts:List T)
 | lst (ts:List T)
 | dct (es:List (Int×T)) (ep:Nat)
 | set (S:Int->Bool) (n:Nat)
 | ns (es:List (Str×T))
 | ins (C d:Addr)
 | slt (C:Addr) (ts:List T)
 | itr (l:Addr) (i:Nat)
 | nxt (it:Addr)
 | same (o:Obj)
noncomputable def Ob.is:Ob->PM->Obj->Prop
 | .ls0 ts,B,o=>∃ vs,isL o vs/\aA6 B vs ts
 | .lst ts,B,o=>∃ vs,(∃ n,o={ cls:= .type "list",data:= .seq vs.toArray n })/\aA6 B vs ts
 | .dct es ep,B,o=>∃ kvs,isD o kvs ep/\kvs.map (·.1)=es.map (·.1)/\aA6 B (kvs.map (·.2)) (es.map (·.2))
 | .set S n,_,o=>isS o S n
 | .ns es,B,o=>∃ kvs,isN o kvs/\kvs.map (·.1)=es.map (·.1)/\aA6 B (kvs.map (·.2)) (es.map (·.2))
 | .ins C d,_,o=>o=instObj C d
 | .slt C ts,B,o=>∃ vs dx od,o.cls= .ref C/\(o.dict=some dx/\B dx=some od)/\o.data= .plain/\o.slots=(vs.map some).toArray/\aA6 B vs ts
 | .itr l i,_,o=>o.cls= .type "list_iterator" /\o.data= .fields #[.ref l, .int i 0]
 | .nxt it,_,o=>o=aF0 it
 | .same o,_,o'=>∃ sl,o'={ o with slots:=sl }
theorem Ob.mono (b:Ob)(B B':PM)(o:Obj)(l:B.le B')(h:b.is B o):b.is B' o:=by
 cases b with
 | ls0 ts=>obtain ⟨vs,a,v⟩:=h; exact ⟨vs,a,v.mono l⟩
 | lst ts=>obtain ⟨vs,a,v⟩:=h; exact ⟨vs,a,v.mono l⟩
 | dct es ep=>obtain ⟨vs,a,b,v⟩:=h; exact ⟨vs,a,b,v.mono l⟩
 | ns es=>obtain ⟨vs,a,b,v⟩:=h; exact ⟨vs,a,b,v.mono l⟩
 | slt C ts=>obtain ⟨vs,dx,od,a,b,c,d,v⟩:=h; exact ⟨vs,dx,od,a,⟨b.1,l _ _ b.2⟩,c,d,v.mono l⟩
 | set S n=>exact h
 | ins C d=>exact h
 | itr l i=>exact h
 | nxt it=>exact h
 | same o=>exact h
noncomputable abbrev Hp:=Addr->Option Ob
noncomputable def Hps (B:PM)(hp:Hp)(Y:OL):Prop:=∀ a b,hp a=some b->∃ o,(a,o)∈Y/\b.is B o
theorem Hps.mono {B B':PM}{hp:Hp}{Y:OL}(h:Hps B hp Y)(l:B.le B'):Hps B' hp Y:=λa b e=>aA1 (h a b e) λo x y=>⟨o,x,b.mono _ _ _ l y⟩
theorem Hps.sub {B:PM}{hp:Hp}{Y Y':OL}(h:Hps B hp Y)(l:∀ p∈Y,p∈Y'):Hps B hp Y':=λa b e=>aA1 (h a b e) λo x y=>⟨o,l _ x,y⟩
structure Sg where
 fz:Str->Option T
 ow:List (Str×List T)
 hp:Hp
noncomputable def aB7 (env:Env)(m cm:NM)(x:Str):Option Value:=match env.kindOf x with
 | some .local=>m x
 | some .cell=>cm x
 | some .free=>cm x
 | _=>none
noncomputable def isO (o:Obj)(vs:List Value):Prop:=∃ n,o={ cls:= .type "list",data:= .seq vs.toArray n }
theorem isO.isL {o:Obj}{vs:List Value}(h:isO o vs):isL o vs:=by
 obtain ⟨n,rfl⟩:=h; exact ⟨rfl,n,rfl⟩
inductive aJ7 (env:Env)(B:PM)(m cm:NM):List (Str×List T)->List (Addr×Obj)->Prop
 | nil:aJ7 env B m cm [] []
 | cons {x:Str} {ts:List T} {a:Addr} {o:Obj} {vs:List Value} {l:List (Str×List T)} {O:OL}:
   aB7 env m cm x=some (.ref a)->isO o vs->aA6 B vs ts->aJ7 env B m cm l O->aJ7 env B m cm ((x,ts)::l) ((a,o)::O)
theorem fzm {f:Str->Option T}{p:Str->Value->Prop}{B B':PM}(h:∀ x t,f x=some t->∃ v,p x v/\Val B v t)(l:B.le B'):∀ x t,f x=some t->∃ v,p x v/\Val B' v t:=λx t e=>aA1 (h x t e) λv a b=>⟨v,a,b.mono l⟩
structure Rel (env:Env)(σ:Sg)(B:PM)(O:OL)(m cm:NM):Prop where
 fz:∀ x t,σ.fz x=some t->∃ v,aB7 env m cm x=some v/\Val B v t
 ow:∃ O1 X,O=O1++X/\aJ7 env B m cm σ.ow O1/\Hps B σ.hp X
theorem aJ7.mono {env:Env}{B B':PM}{m cm:NM}(l:B.le B'){ow:List (Str×List T)}{O:OL}(h:aJ7 env B m cm ow O):aJ7 env B' m cm ow O:=by
 induction h with
 | nil=>exact .nil
 | cons h i v r ih=>exact .cons h i (v.mono l) ih
theorem Rel.mono {env:Env}{σ:Sg}{B B':PM}{O:OL}{m cm:NM}(R:Rel env σ B O m cm)(l:B.le B'):Rel env σ B' O m cm:=
 ⟨fzm R.fz l,aB0 R.ow λO1 X e r p=>⟨O1,X,e,r.mono l,p.mono l⟩⟩
inductive cR2 (B:PM)(O:OL):Value->T->Prop
 | known {v:Value} {t:T}:Val B v t->cR2 B O v t
 | open_ {a:Addr} {o:Obj} {vs:List Value} {ts:List T}:(a,o)∈O->isL o vs->aA6 B vs ts->cR2 B O (.ref a) (.list ts)
noncomputable def VR (keep:Bool)(B:PM)(O:OL)(v:Value)(t:T):Prop:=match keep with
 | true=>Val B v t
 | false=>cR2 B O v t
theorem VR.of {k:Bool}{B:PM}{O:OL}{v:Value}{t:T}(h:Val B v t):VR k B O v t:=by
 cases k with
 | true=>exact h
 | false=>exact .known h
theorem VR.val {k:Bool}{B:PM}{O:OL}{v:Value}{t:T}(h:VR k B O v t)(hl:∀ ts,t≠ .list ts):Val B v t:=by
 cases k with
 | true=>exact h
 | false=>cases h with
  | known h=>exact h
  | open_ _ _ _=>exact absurd rfl (hl _)
theorem VR.int {k:Bool}{B:PM}{O:OL}{v:Value}{i:Int}(h:VR k B O v (.int i)):∃ tk,v= .int i tk:=(h.val λ_ e=>by cases e).inv
theorem VR.str {k:Bool}{B:PM}{O:OL}{v:Value}{x:Str}(h:VR k B O v (.str x)):∃ tk,v= .str x tk:=(h.val λ_ e=>by cases e).inv
theorem VR.bool {k:Bool}{B:PM}{O:OL}{v:Value}{b:Bool}(h:VR k B O v (.bool b)):v= .bool b:=(h.val λ_ e=>by cases e).inv
theorem VR.none {k:Bool}{B:PM}{O:OL}{v:Value}(h:VR k B O v .none):v= .none:=(h.val λ_ e=>by cases e).inv
theorem VR.list {w:World}{h0:aA8}{env:Env}{B:PM}{O:OL}{m cm:NM}{os:OsState}{s:Shared}(F:Fm w h0 env B O m cm os s){k:Bool}{v:Value}{ts:List T}(h:VR k B O v (.list ts)):
  ∃ a vs,v= .ref a/\s.heap.IsList a vs.toArray/\aA6 B vs ts:=by
 have key:∀ {v},Val B v (.list ts)->∃ a vs,v= .ref a/\s.heap.IsList a vs.toArray/\aA6 B vs ts:=λh=>
  bG6 h.inv λ_ _ _ e h i _ vs=>⟨_,_,e,⟨_,F.sub _ _ h,i.1,i.2⟩,vs⟩
 cases k with
 | true=>exact key h
 | false=>cases h with
  | known h=>exact key h
  | open_ hm i vs=>exact ⟨_,_,rfl,⟨_,F.opn _ hm,i.1,i.2⟩,vs⟩
theorem Val.tupAt {w:World}{h0:aA8}{env:Env}{B:PM}{O:OL}{m cm:NM}{os:OsState}{s:Shared}(F:Fm w h0 env B O m cm os s){v:Value}{ts:List T}(h:Val B v (.tup ts)):
  ∃ a vs,v= .ref a/\IsTup s.heap a vs.toArray/\aA6 B vs ts:=
 bL4 h.inv λ_ _ _ e h i vs=>⟨_,_,e,⟨_,F.sub _ _ h,i.1,i.2⟩,vs⟩
structure aD6 (n:Nat)(A:Around):Prop where
 depth:A.depth+n<900
 units:A.units+3 * n+300<cLine
 handled:A.handled=none
noncomputable def EvE (w:World)(A:Around)(h0:aA8)(env:Env)(os:OsState)(k:Bool)(σ:Sg)(e:Expr)(t:T):Prop:=
 ∀ (B:PM) (O:OL) (m cm:NM) (s:Shared) (Q:VP) (E:VP),Fm w h0 env B O m cm os s->Rel env σ B O m cm->
  (∀ v s' B',B.le B'->Fm w h0 env B' O m cm os s'->VR k B' O v t->Q v s')->wpAny (model pw w) A (eval e env) Q E s
section
variable {w:World}{A:Around}{h0:aA8}{env:Env}{os:OsState}{k:Bool}{σ:Sg}
theorem EvE.int (i:Int)(n:Nat)(pos:Pos):EvE w A h0 env os k σ (.Constant (.int i) n pos) (.int i):=λB O m cm s Q E F R h=>
 wpAny_Constant_int (h _ _ B (.refl B) (F.tok _) (.of (.int i _)))
theorem EvE.strC (x:Str)(n:Nat)(pos:Pos):EvE w A h0 env os k σ (.Constant (.str x) n pos) (.str x):=λB O m cm s Q E F R h=>
 Calls.Constant_str (h _ _ B (.refl B) (F.tok _) (.of (.str x _)))
theorem EvE.noneC (n:Nat)(pos:Pos):EvE w A h0 env os k σ (.Constant .none n pos) .none:=λB O m cm s Q E F R h=>
 wpAny_Constant_none (h _ _ B (.refl B) F (.of .none))
theorem EvE.boolC (b:Bool)(n:Nat)(pos:Pos):EvE w A h0 env os k σ (.Constant (.bool b) n pos) (.bool b):=λB O m cm s Q E F R h=>
 wpAny_Constant_bool (h _ _ B (.refl B) F (.of (.bool b)))
theorem aI {B:PM}{O:OL}{m cm:NM}{s:Shared}{x:Str}{v:Value}{Q:VP}{E:VP}(F:Fm w h0 env B O m cm os s)(hk:env.scope.kind= .function)
  (hl:aB7 env m cm x=some v) (hc:env.kindOf x=some .local\/(env.cells.lookup x).isSome=true) (hcd:(x == ("__classdict__" :Str))=false) (h:Q v s):wpAny (model pw w) A (loadName env x) Q E s:=by
 unfold aB7 at hl
 split at hl
 ·rename_i e; exact wpAny_loadName_local hk e F.ns hl h
 ·rename_i e
  rcases hc with q | q
  ·rw [e] at q; cases q
  ·refine aA3 (Option.isSome_iff_exists.mp q) λc q=> ?_
   exact wpAny_loadName_cell hk e q (by have:=F.cel x c q; rw [hl] at this; exact this) h
 ·rename_i e
  rcases hc with q | q
  ·rw [e] at q; cases q
  ·refine aA3 (Option.isSome_iff_exists.mp q) λc q=> ?_
   exact wpAny_loadName_free hk e q (by have:=F.cel x c q; rw [hl] at this; exact this) h hcd
 ·cases hl
theorem EvE.name {x:Str}{t:T}(pos:Pos)(hk:env.scope.kind= .function)(ht:σ.fz x=some t)(hc:env.kindOf x=some .local\/(env.cells.lookup x).isSome=true)
  (hd:(x == ("__debug__" :Str))=false) (hcd:(x == ("__classdict__" :Str))=false):EvE w A h0 env os k σ (.Name x pos) t:=λB O m cm s Q E F R h=>by
 refine aA1 (R.fz x t ht) λv hl hv=> ?_
 exact wpAny_Name (aI F hk hl hc hcd (h v s B (.refl B) F (.of hv))) hd
theorem aJ7.at {B:PM}{m cm:NM}{x:Str}{ts:List T}{ow:List (Str×List T)}{O:OL}(h:aJ7 env B m cm ow O)(e:ow.lookup x=some ts):∃ a o vs,aB7 env m cm x=some (.ref a)/\(a,o)∈O/\isL o vs/\aA6 B vs ts:=by
 induction h with
 | nil=>cases e
 | cons hl i v r ih=>
  rw [List.lookup_cons] at e
  split at e
  ·rename_i q
   cases e
   rw [eq_of_beq q]
   exact ⟨_,_,_,hl, .head _,i.isL,v⟩
  ·refine bL4 (ih e) λa o vs b1 b2 b3 b4=> ?_
   exact ⟨a,o,vs,b1, .tail _ b2,b3,b4⟩
theorem EvE.own {x:Str}{ts:List T}(pos:Pos)(hk:env.scope.kind= .function)(ht:σ.ow.lookup x=some ts)(hc:env.kindOf x=some .local\/(env.cells.lookup x).isSome=true)
  (hd:(x == ("__debug__" :Str))=false) (hcd:(x == ("__classdict__" :Str))=false):EvE w A h0 env os false σ (.Name x pos) (.list ts):=λB O m cm s Q E F R h=>by
 refine aB0 R.ow λO1 X z1z r _=> ?_
 subst z1z
 refine bL4 (r.at ht) λa o vs hl hm i v=> ?_
 exact wpAny_Name (aI F hk hl hc hcd (h _ s B (.refl B) F (.open_ (List.mem_append.mpr (.inl hm)) i v))) hd
theorem EvE.bin {l r:Expr}{op:Operator}{a b t:T}{k1 k2:Bool}(pos:Pos)(hl:EvE w A h0 env os k1 σ l a)(hr:EvE w A h0 env os k2 σ r b)
  (h:∀ (B:PM) (O:OL) (m cm:NM) (s:Shared) (va vb:Value) (Q:VP) (E:VP),Fm w h0 env B O m cm os s->VR k1 B O va a->VR k2 B O vb b->
   (∀ v s' B',B.le B'->Fm w h0 env B' O m cm os s'->VR k B' O v t->Q v s')->wpAny (model pw w) A (binaryOp op va vb) Q E s):EvE w A h0 env os k σ (.BinOp l op r pos) t:=λB O m cm s Q E F R q=>
 wpAny_BinOp (hl B O m cm s _ E F R λva s1 B1 l1 F1 V1=>hr B1 O m cm s1 _ E F1 (R.mono l1) λvb s2 B2 l2 F2 V2=>
  h B2 O m cm s2 va vb Q E F2 (by
   cases k1 with
   | true=>exact Val.mono l2 V1
   | false=>cases V1 with
    | known V1=>exact .known (V1.mono l2)
    | open_ a b c=>exact .open_ a b (c.mono l2)) V2 λv s' B' l' F' V'=>q v s' B' ((l1.trans l2).trans l') F' V')
theorem EvE.add {l r:Expr}{a b:Int}{k1 k2:Bool}(pos:Pos)(hl:EvE w A h0 env os k1 σ l (.int a))(hr:EvE w A h0 env os k2 σ r (.int b)):EvE w A h0 env os k σ (.BinOp l .Add r pos) (.int (a+b)):=
 EvE.bin pos hl hr λB O m cm s va vb Q E F V1 V2 q=>by
  refine aA3 V1.int λ_ z1z=> ?_
  subst z1z
  refine aA3 V2.int λ_ z1z=> ?_
  subst z1z
  exact add_int (q _ _ B (.refl B) (F.tok _) (.of (.int _ _)))
theorem EvE.mod {l r:Expr}{a b:Int}{k1 k2:Bool}(pos:Pos)(hA:A.handled=none)(hl:EvE w A h0 env os k1 σ l (.int a))(hr:EvE w A h0 env os k2 σ r (.int b))(hb:b≠0):EvE w A h0 env os k σ (.BinOp l .Mod r pos) (.int (a.fmod b)):=
 EvE.bin pos hl hr λB O m cm s va vb Q E F V1 V2 q=>by
  refine aA3 V1.int λ_ z1z=> ?_
  subst z1z
  refine aA3 V2.int λ_ z1z=> ?_
  subst z1z
  exact mod_int_or hA (λh=>absurd h hb) λ_=>q _ _ B (.refl B) (F.tok _) (.of (.int _ _))
theorem EvE.fdiv {l r:Expr}{a b:Int}{k1 k2:Bool}(pos:Pos)(hl:EvE w A h0 env os k1 σ l (.int a))(hr:EvE w A h0 env os k2 σ r (.int b))(hb:b≠0)(hp:Builtin.divisionGoesByPylong a b=false):EvE w A h0 env os k σ (.BinOp l .FloorDiv r pos) (.int (a.fdiv b)):=
 EvE.bin pos hl hr λB O m cm s va vb Q E F V1 V2 q=>by
  refine aA3 V1.int λ_ z1z=> ?_
  subst z1z
  refine aA3 V2.int λ_ z1z=> ?_
  subst z1z
  exact floordiv_int hb (q _ _ B (.refl B) (F.tok _) (.of (.int _ _))) (.inl hp)
end
noncomputable def cut (h:Heap)(L:Nat):Heap:=⟨h.objs.extract 0 L,h.life⟩
theorem aN6 {h:Heap}{L a:Nat}:(cut h L).get? a=if a<L then h.get? a else none:=by
 unfold cut Heap.get?
 dsimp only
 rw [Array.getElem?_extract]
 by_cases q:a<L
 ·rw [if_pos q]
  by_cases z:a<h.objs.size
  ·rw [if_pos (by room),Nat.zero_add]
  ·rw [if_neg (by room),Array.getElem?_eq_none (by room)]
 ·rw [if_neg q,if_neg (by room)]
theorem bI0 {h:Heap}{L:Nat}:(cut h L).objs.size<=L:=by
 unfold cut
 dsimp only
 rw [Array.size_extract]; room
noncomputable def above (h:Heap)(L:Nat):List (Addr×Obj):=(List.range h.objs.size).filterMap λa=>if L<a then (h.get? a).map λo=>(a,o) else none
theorem aN7 {h:Heap}{L:Addr}{p:Addr×Obj}:p∈above h L↔L<p.1/\h.get? p.1=some p.2:=by
 unfold above
 rw [List.mem_filterMap]
 constructor
 ·intro w1w
  refine aA1 w1w λa _ h1=> ?_
  try clear w1w
  split at h1
  ·rename_i q
   cases e:h.get? a with
   | none=>rw [e] at h1; cases h1
   | some o=>rw [e] at h1; cases h1; exact ⟨q,e⟩
  ·cases h1
 ·intro w1w
  refine aB w1w λq e=> ?_
  try clear w1w
  exact ⟨p.1,List.mem_range.mpr (Heap.lt_size e),by rw [if_pos q,e]; rfl⟩
section
variable {w:World}{A:Around}{h0:aA8}{env:Env}{os:OsState}{k:Bool}{σ:Sg}{B:PM}{O:OL}{m cm:NM}{s:Shared}
theorem Fm.fr (F:Fm w h0 env B O m cm os s):Fr (cut s.heap env.locals) env.locals s.heap m:=
 ⟨F.ns,(λb o e=>by
  rw [aN6] at e
  split at e
  ·exact e
  ·cases e),bI0⟩
theorem Fm.news (F:Fm w h0 env B O m cm os s):News (cut s.heap env.locals) env.locals s.heap (above s.heap env.locals):=λp hp=>by
 refine aB (aN7.mp hp) λa b=> ?_
 exact ⟨b,Nat.ne_of_gt a,by rw [aN6,if_neg (Nat.not_lt.mpr (Nat.le_of_lt a))]⟩
theorem Fm.back (F:Fm w h0 env B O m cm os s){h':Heap}{l:OL}(Fr':Fr (cut s.heap env.locals) env.locals h' m)(N':News (cut s.heap env.locals) env.locals h' l)(hl:∀ p∈above s.heap env.locals,p∈l)(tk:Nat):Fm w h0 env B O m cm os { s with heap:=h',toks:=tk }:=by
 have g:∀ a,a≠env.locals->∀ o,s.heap.get? a=some o->h'.get? a=some o:=λa ha o e=>by
  by_cases q:a<env.locals
  ·exact Fr'.keep a o (by rw [aN6,if_pos q]; exact e)
  ·exact (N' (a,o) (hl _ (aN7.mpr ⟨Nat.lt_of_le_of_ne (Nat.le_of_not_lt q) (Ne.symm ha),e⟩))).1
 refine ⟨Fr'.ns,λx c e=> ?_,λa o e=> ?_,λa o e=> ?_,λp hp=> ?_,F.offL,F.offC,F.cinj,F.offO,F.nod,F.gl,F.gens,F.oss,F.nw⟩
 ·obtain ⟨o,ho,hd⟩:=F.cel x c e; exact ⟨o,g c (F.offC x c e).2 o ho,hd⟩
 ·exact g a (λq=>by rw [q,F.offL.2] at e; cases e) o (F.old a o e)
 ·exact g a (λq=>by rw [q,F.offL.1] at e; cases e) o (F.sub a o e)
 ·exact g _ (F.offO p hp).2.2.1 _ (F.opn p hp)
theorem VR.mono {B':PM}{v:Value}{t:T}(l:B.le B')(h:VR k B O v t):VR k B' O v t:=by
 cases k with
 | true=>exact Val.mono l h
 | false=>cases h with
  | known V1=>exact .known (V1.mono l)
  | open_ a b c=>exact .open_ a b (c.mono l)
noncomputable def TsE (w:World)(A:Around)(h0:aA8)(env:Env)(os:OsState)(σ:Sg)(e:Expr)(b:Bool):Prop:=
 ∀ (B:PM) (O:OL) (m cm:NM) (s:Shared) (Q:Bool->Shared->Prop) (E:VP),Fm w h0 env B O m cm os s->Rel env σ B O m cm->
  (∀ s' B',B.le B'->Fm w h0 env B' O m cm os s'->Q b s')->wpAny (model pw w) A (isTrue e env (eval e env)) Q E s
noncomputable def aF2 (w:World)(A:Around)(h0:aA8)(env:Env)(os:OsState)(op:CmpOp)(k1 k2:Bool)(a b:T)(r:Bool):Prop:=
 ∀ (B:PM) (O:OL) (m cm:NM) (s:Shared) (va vb:Value) (Q:VP) (E:VP),Fm w h0 env B O m cm os s->VR k1 B O va a->VR k2 B O vb b->
   (∀ s' B',B.le B'->Fm w h0 env B' O m cm os s'->Q (.bool r) s')->wpAny (model pw w) A (compareOp op va vb) Q E s
theorem TsE.cmp {l r:Expr}{op:CmpOp}{a b:T}{k1 k2 x:Bool}(pos:Pos)(hl:EvE w A h0 env os k1 σ l a)(hr:EvE w A h0 env os k2 σ r b)(h:aF2 w A h0 env os op k1 k2 a b x)(hm:behindInMarks op r=false):
  TsE w A h0 env os σ (.Compare l [op] [r] pos) x:=λB O m cm s Q E F R q=>
 wpAny_isTrue_Compare1 (hl B O m cm s _ E F R λva s1 B1 l1 F1 V1=>hr B1 O m cm s1 _ E F1 (R.mono l1) λvb s2 B2 l2 F2 V2=>
  h B2 O m cm s2 va vb _ E F2 (V1.mono l2) V2 λs3 B3 l3 F3=>wpAny_truthy_bool (q s3 B3 ((l1.trans l2).trans l3) F3)) hm
theorem EvE.cmp {l r:Expr}{op:CmpOp}{a b:T}{k1 k2 x:Bool}(pos:Pos)(hl:EvE w A h0 env os k1 σ l a)(hr:EvE w A h0 env os k2 σ r b)(h:aF2 w A h0 env os op k1 k2 a b x)(hm:behindInMarks op r=false):
  EvE w A h0 env os k σ (.Compare l [op] [r] pos) (.bool x):=λB O m cm s Q E F R q=>
 wpAny_Compare1 (hl B O m cm s _ E F R λva s1 B1 l1 F1 V1=>hr B1 O m cm s1 _ E F1 (R.mono l1) λvb s2 B2 l2 F2 V2=>
  h B2 O m cm s2 va vb _ E F2 (V1.mono l2) V2 λs3 B3 l3 F3=>q _ s3 B3 ((l1.trans l2).trans l3) F3 (.of (.bool x))) hm
theorem aB4 (k1 k2:Bool)(a b:Int):aF2 w A h0 env os .Eq k1 k2 (.int a) (.int b) (a == b):=λB O m cm s va vb Q E F V1 V2 q=>by
 obtain ⟨_,rfl⟩:=V1.int; obtain ⟨_,rfl⟩:=V2.int; exact eq_int (q _ B (.refl B) F)
theorem aE2 (k1 k2:Bool)(a b:Int):aF2 w A h0 env os .NotEq k1 k2 (.int a) (.int b) (a != b):=λB O m cm s va vb Q E F V1 V2 q=>by
 obtain ⟨_,rfl⟩:=V1.int; obtain ⟨_,rfl⟩:=V2.int; exact ne_int (q _ B (.refl B) F)
theorem aW5 (k1 k2:Bool)(a b:Int):aF2 w A h0 env os .Lt k1 k2 (.int a) (.int b) (decide (a<b)):=λB O m cm s va vb Q E F V1 V2 q=>by
 obtain ⟨_,rfl⟩:=V1.int; obtain ⟨_,rfl⟩:=V2.int; exact lt_int (q _ B (.refl B) F)
theorem cR3 (k1 k2:Bool)(a b:Int):aF2 w A h0 env os .LtE k1 k2 (.int a) (.int b) (decide (a<=b)):=λB O m cm s va vb Q E F V1 V2 q=>by
 obtain ⟨_,rfl⟩:=V1.int; obtain ⟨_,rfl⟩:=V2.int; exact le_int (q _ B (.refl B) F)
theorem bY0 (k1 k2:Bool)(a b:Int):aF2 w A h0 env os .Gt k1 k2 (.int a) (.int b) (decide (a > b)):=λB O m cm s va vb Q E F V1 V2 q=>by
 obtain ⟨_,rfl⟩:=V1.int; obtain ⟨_,rfl⟩:=V2.int; exact gt_int (q _ B (.refl B) F)
theorem cH6 (k1 k2:Bool)(a b:Str):aF2 w A h0 env os .Eq k1 k2 (.str a) (.str b) (a == b):=λB O m cm s va vb Q E F V1 V2 q=>by
 obtain ⟨_,rfl⟩:=V1.str; obtain ⟨_,rfl⟩:=V2.str; exact eq_str (q _ B (.refl B) F)
theorem TsE.not {x:Expr}{b:Bool}(pos:Pos)(h:TsE w A h0 env os σ x b):TsE w A h0 env os σ (.UnaryOp .Not x pos) (!b):=λB O m cm s Q E F R q=>
 wpAny_isTrue_Not (h B O m cm s _ E F R λs' B' l F'=>q s' B' l F')
inductive bI1 (w:World)(A:Around)(h0:aA8)(env:Env)(os:OsState)(σ:Sg):List Expr->Bool->Prop
 | nil:bI1 w A h0 env os σ [] true
 | stop {x:Expr} {l:List Expr}:TsE w A h0 env os σ x false->bI1 w A h0 env os σ (x::l) false
 | go {x:Expr} {l:List Expr} {b:Bool}:TsE w A h0 env os σ x true->bI1 w A h0 env os σ l b->bI1 w A h0 env os σ (x::l) b
inductive bI2 (w:World)(A:Around)(h0:aA8)(env:Env)(os:OsState)(σ:Sg):List Expr->Bool->Prop
 | nil:bI2 w A h0 env os σ [] false
 | stop {x:Expr} {l:List Expr}:TsE w A h0 env os σ x true->bI2 w A h0 env os σ (x::l) true
 | go {x:Expr} {l:List Expr} {b:Bool}:TsE w A h0 env os σ x false->bI2 w A h0 env os σ l b->bI2 w A h0 env os σ (x::l) b
theorem bY1 {l:List Expr}{b:Bool}(h:bI1 w A h0 env os σ l b):∀ (B:PM) (O:OL) (m cm:NM) (s:Shared) (Q:Bool->Shared->Prop) (E:VP),Fm w h0 env B O m cm os s->Rel env σ B O m cm->
  (∀ s' B',B.le B'->Fm w h0 env B' O m cm os s'->Q b s')->wpAny (model pw w) A (allTrue .And l env) Q E s:=by
 induction h with
 | nil=>exact λB O m cm s Q E F R q=>wpAny_allTrue_And_nil (q s B (.refl B) F)
 | stop h=>exact λB O m cm s Q E F R q=>wpAny_allTrue_And_cons (h B O m cm s _ E F R λs' B' l F'=>by rw [if_neg Bool.false_ne_true]; exact q s' B' l F')
 | go h r ih=>exact λB O m cm s Q E F R q=>wpAny_allTrue_And_cons (h B O m cm s _ E F R λs' B' l F'=>by
   rw [if_pos rfl]; exact ih B' O m cm s' Q E F' (R.mono l) λs'' B'' l' F''=>q s'' B'' (l.trans l') F'')
theorem bY2 {l:List Expr}{b:Bool}(h:bI2 w A h0 env os σ l b):∀ (B:PM) (O:OL) (m cm:NM) (s:Shared) (Q:Bool->Shared->Prop) (E:VP),Fm w h0 env B O m cm os s->Rel env σ B O m cm->
  (∀ s' B',B.le B'->Fm w h0 env B' O m cm os s'->Q b s')->wpAny (model pw w) A (allTrue .Or l env) Q E s:=by
 induction h with
 | nil=>exact λB O m cm s Q E F R q=>wpAny_allTrue_Or_nil (q s B (.refl B) F)
 | stop h=>exact λB O m cm s Q E F R q=>wpAny_allTrue_Or_cons (h B O m cm s _ E F R λs' B' l F'=>by rw [if_pos rfl]; exact q s' B' l F')
 | go h r ih=>exact λB O m cm s Q E F R q=>wpAny_allTrue_Or_cons (h B O m cm s _ E F R λs' B' l F'=>by
   rw [if_neg Bool.false_ne_true]; exact ih B' O m cm s' Q E F' (R.mono l) λs'' B'' l' F''=>q s'' B'' (l.trans l') F'')
theorem TsE.and {l:List Expr}{b:Bool}(pos:Pos)(h:bI1 w A h0 env os σ l b):TsE w A h0 env os σ (.BoolOp .And l pos) b:=λB O m cm s Q E F R q=>
 wpAny_isTrue_BoolOp (bY1 h B O m cm s Q E F R q)
theorem TsE.or {l:List Expr}{b:Bool}(pos:Pos)(h:bI2 w A h0 env os σ l b):TsE w A h0 env os σ (.BoolOp .Or l pos) b:=λB O m cm s Q E F R q=>
 wpAny_isTrue_BoolOp (bY2 h B O m cm s Q E F R q)
theorem EvE.ite {c x y:Expr}{b:Bool}{t:T}(pos:Pos)(hc:TsE w A h0 env os σ c b)(hx:b=true->EvE w A h0 env os k σ x t)(hy:b=false->EvE w A h0 env os k σ y t):EvE w A h0 env os k σ (.IfExp c x y pos) t:=λB O m cm s Q E F R q=>
 wpAny_IfExp (hc B O m cm s _ E F R λs' B' l F'=>by
  cases b with
  | true=>rw [if_pos rfl]; exact hx rfl B' O m cm s' Q E F' (R.mono l) λv s'' B'' l' F'' V=>q v s'' B'' (l.trans l') F'' V
  | false=>rw [if_neg Bool.false_ne_true]; exact hy rfl B' O m cm s' Q E F' (R.mono l) λv s'' B'' l' F'' V=>q v s'' B'' (l.trans l') F'' V)
inductive aC4 (w:World)(A:Around)(h0:aA8)(env:Env)(os:OsState)(σ:Sg):List Expr->List T->Prop
 | nil:aC4 w A h0 env os σ [] []
 | cons {e:Expr} {t:T} {es:List Expr} {ts:List T}:EvE w A h0 env os true σ e t->aC4 w A h0 env os σ es ts->aC4 w A h0 env os σ (e::es) (t::ts)
theorem bB6 {rest:List (Bool×Sem Value)}{es:List Expr}{ts:List T}(h:aC4 w A h0 env os σ es ts):∀ (B:PM) (O:OL) (m cm:NM) (s:Shared) (Q:List Value->Shared->Prop) (E:VP),Fm w h0 env B O m cm os s->Rel env σ B O m cm->
  (∀ vs s' B',B.le B'->Fm w h0 env B' O m cm os s'->aA6 B' vs ts->wpAny (model pw w) A (spliced rest) (λus s2=>Q (vs++us) s2) E s')->wpAny (model pw w) A (spliced ((es.map λe=>(false,eval e env))++rest)) Q E s:=by
 induction h with
 | nil=>exact λB O m cm s Q E F R q=>q [] s B (.refl B) F .nil
 | cons h r ih=>exact λB O m cm s Q E F R q=>Calls.spliced_cons (h B O m cm s _ E F R λv s' B' l F' V=>ih B' O m cm s' _ E F' (R.mono l) λvs s'' B'' l' F'' V'=>q (v::vs) s'' B'' (l.trans l') F'' (.cons (Val.mono l' V) V'))
theorem aE4 {es:List Expr}{ts:List T}(h:aC4 w A h0 env os σ es ts)(B:PM)(O:OL)(m cm:NM)(s:Shared)(Q:List Value->Shared->Prop)(E:VP)(F:Fm w h0 env B O m cm os s)(R:Rel env σ B O m cm)
  (q:∀ vs s' B',B.le B'->Fm w h0 env B' O m cm os s'->aA6 B' vs ts->Q vs s'):wpAny (model pw w) A (spliced (es.map λe=>(false,eval e env))) Q E s:=by
 have:=bB6 (rest:=[]) h B O m cm s Q E F R λvs s' B' l F' V=>Calls.spliced_nil (by rw [List.append_nil]; exact q vs s' B' l F' V)
 rwa [List.append_nil] at this
theorem EvE.listD {es:List Expr}{ts:List T}(pos:Pos)(h:aC4 w A h0 env os σ es ts)(hs:backTo pos (starEach es env)=es.map λe=>(false,eval e env))(hz:ts.length<=sizeLine):EvE w A h0 env os k σ (.List es pos) (.list ts):=λB O m cm s Q E F R q=>
 wpAny_List (by
  rw [hs]
  refine aE4 h B O m cm s _ E F R λvs s' B' l F' V=>⟨by rw [V.length]; exact hz, ?_⟩
  exact q _ _ _ (l.trans (PM.le_put _ F'.none_of_fresh)) (F'.push rfl s'.toks) (.of (.list (PM.put_self ..) ⟨rfl,_,rfl⟩ rfl (V.mono (PM.le_put _ F'.none_of_fresh)))))
theorem EvE.tupD {es:List Expr}{ts:List T}(n:Nat)(pos:Pos)(h:aC4 w A h0 env os σ es ts)(hs:backTo pos (starEach es env)=es.map λe=>(false,eval e env))(hz:ts.length<=sizeLine):EvE w A h0 env os k σ (.Tuple es n pos) (.tup ts):=λB O m cm s Q E F R q=>
 wpAny_Tuple (by
  rw [hs]
  refine aE4 h B O m cm s _ E F R λvs s' B' l F' V=>⟨by rw [V.length]; exact hz, ?_⟩
  exact q _ _ _ (l.trans (PM.le_put _ F'.none_of_fresh)) (F'.push rfl s'.toks) (.of (.tup (PM.put_self ..) ⟨rfl,_,rfl⟩ (V.mono (PM.le_put _ F'.none_of_fresh)))))
theorem EvE.addL {l r:Expr}{a b:List T}{k1 k2:Bool}(pos:Pos)(hl:EvE w A h0 env os k1 σ l (.list a))(hr:EvE w A h0 env os k2 σ r (.list b))(hz:a.length+b.length<=sizeLine):EvE w A h0 env os k σ (.BinOp l .Add r pos) (.list (a++b)):=
 EvE.bin pos hl hr λB O m cm s va vb Q E F V1 V2 q=>by
  refine aB0 (VR.list F V1) λx vs z1z i1 W1=> ?_
  subst z1z
  refine aB0 (VR.list F V2) λy us z1z i2 W2=> ?_
  subst z1z
  refine add_arrays F.fr F.news i1 i2 (λh' F' N'=> ?_) (by rw [List.size_toArray,List.size_toArray,W1.length,W2.length]; exact hz)
  have G:=F.back F' N' (λp hp=> .tail _ hp) s.toks
  refine aC5 F.apart λa1 a2 a3=> ?_
  have G':=G.know (N' _ (.head _)).1 F.none_of_fresh F.freshOld a1 a2 a3
  exact q _ _ _ (PM.le_put _ F.none_of_fresh) G' (.of (.list (PM.put_self ..) ⟨rfl,_,rfl⟩ rfl ((W1.append W2).mono (PM.le_put _ F.none_of_fresh))))
end
theorem aW6 (l:List Value):∀ (a n:Nat),((List.range n).map (a+ ·)).filterMap (λx=>l.toArray[x]?)=(l.drop a).take n:=by
 intro a n
 induction n with
 | zero=>simp
 | succ n ih=>
  rw [List.range_succ,List.map_append,List.filterMap_append,ih,List.take_add_one,List.getElem?_drop]
  congr 1
  show List.filterMap (λx=>l.toArray[x]?) [a+n]=_
  rw [List.filterMap_cons,List.getElem?_toArray]
  cases l[a+n]? <;>rfl
theorem bT6 (l:List Value){y:Int}(h:0<=y):slicePick l.toArray none (some y) none=(l.take y.toNat).toArray:=by
 unfold slicePick
 have e:sliceBounds none (some y) none l.toArray.size=(((0:Nat):Int),((min y.toNat l.length:Nat):Int),1):=by
  unfold sliceBounds
  simp only [Option.getD_none,List.size_toArray]
  rw [if_neg (by room: ¬y<0)]
  obtain ⟨n,rfl⟩:=Int.eq_ofNat_of_zero_le h
  rw [Int.toNat_natCast]
  simp
  rw [Int.max_eq_right (Int.le_min.mpr ⟨h,Int.natCast_nonneg _⟩)]
  rcases Nat.le_total n l.length with q | q
  ·rw [Nat.min_eq_left q,Int.min_eq_left (Int.ofNat_le.mpr q)]
  ·rw [Nat.min_eq_right q,Int.min_eq_right (Int.ofNat_le.mpr q)]
 rw [e]
 dsimp only
 rw [sliceRange_one,aW6,List.drop_zero,Nat.sub_zero]
 congr 1
 rw [List.take_eq_take_iff]; room
theorem bT7 (l:List Value){x:Int}(h:0<=x):slicePick l.toArray (some x) none none=(l.drop x.toNat).toArray:=by
 unfold slicePick
 have e:sliceBounds (some x) none none l.toArray.size=(((min x.toNat l.length:Nat):Int),((l.length:Nat):Int),1):=by
  unfold sliceBounds
  simp only [Option.getD_none,List.size_toArray]
  rw [if_neg (by room: ¬x<0)]
  simp
  room
 rw [e]
 dsimp only
 rw [sliceRange_one,aW6]
 congr 1
 by_cases q:x.toNat<=l.length
 ·rw [Nat.min_eq_left q,List.take_of_length_le (by rw [List.length_drop]; room)]
 ·rw [Nat.min_eq_right (by room),List.drop_of_length_le (Nat.le_refl _),List.drop_of_length_le (by room)]; simp
theorem aA6.take {B:PM}{vs:List Value}{ts:List T}(h:aA6 B vs ts):∀ n,aA6 B (vs.take n) (ts.take n):=by
 induction h using aA6.ind with
 | h0=>intro n; rw [List.take_nil,List.take_nil]; exact .nil
 | hc v r ih=>intro n; cases n with
  | zero=>exact .nil
  | succ n=>exact .cons v (ih n)
theorem aA6.drop {B:PM}{vs:List Value}{ts:List T}(h:aA6 B vs ts):∀ n,aA6 B (vs.drop n) (ts.drop n):=by
 induction h using aA6.ind with
 | h0=>intro n; rw [List.drop_nil,List.drop_nil]; exact .nil
 | hc v r ih=>intro n; cases n with
  | zero=>exact .cons v r
  | succ n=>exact ih n
section
variable {w:World}{A:Around}{h0:aA8}{env:Env}{os:OsState}{k:Bool}{σ:Sg}{B:PM}{O:OL}{m cm:NM}{s:Shared}
theorem EvE.idx {value slice:Expr}{ts:List T}{i:Int}{t:T}{k1 k2:Bool}(pos:Pos)(hv:EvE w A h0 env os k1 σ value (.list ts))(hi:EvE w A h0 env os k2 σ slice (.int i))(h0i:0<=i)(hb:i<2 ^ 63)(ht:ts[i.toNat]? =some t)
  (hs:∀ o j u,subscripted slice false (.ref o) (.int j u)=operate [.ref o, .int j u] (getItem (.ref o) (.int j u))):EvE w A h0 env os k σ (.Subscript value slice pos) t:=λB O m cm s Q E F R q=>
 Subscript_ (hv B O m cm s _ E F R λva s1 B1 l1 F1 V1=>hi B1 O m cm s1 _ E F1 (R.mono l1) λvb s2 B2 l2 F2 V2=>by
  refine aA3 V2.int λ_ z1z=> ?_
  subst z1z
  refine aB0 (VR.list F2 (V1.mono l2)) λa vs z1z L W=> ?_
  subst z1z
  refine aA1 (W.get ht) λv hv' V=> ?_
  exact tail_any L.typeIs slot_list_getitem.lookup (wpAny_getItem_list L h0i hb (by simpa using hv') (q v s2 B2 (l1.trans l2) F2 (.of V))) (hs _ _ _))
theorem EvE.upto {value hi:Expr}{ts:List T}{i:Int}{k1 k2:Bool}(pos p:Pos)(hv:EvE w A h0 env os k1 σ value (.list ts))(hh:EvE w A h0 env os k2 σ hi (.int i))(h0i:0<=i)(hz:ts.length<=sizeLine):EvE w A h0 env os k σ (.Subscript value (.Slice none (some hi) none p) pos) (.list (ts.take i.toNat)):=λB O m cm s Q E F R q=>
 Subscript_ (hv B O m cm s _ E F R λva s1 B1 l1 F1 V1=>wpAny_Slice (wpAny_evalPart_none (wpAny_evalPart_some (hh B1 O m cm s1 _ E F1 (R.mono l1) λvb s2 B2 l2 F2 V2=>wpAny_evalPart_none (by
  refine aA3 V2.int λtk z1z=> ?_
  subst z1z
  have F3:=F2.push (o:={ cls:= .type "slice",data:= .fields #[.none, .int i tk, .none] }) rfl s2.toks
  have l3:=PM.le_put ({ cls:= .type "slice",data:= .fields #[.none, .int i tk, .none] }:Obj) F2.none_of_fresh
  refine aB0 (VR.list F3 ((V1.mono l2).mono l3)) λa vs z1z L W=> ?_
  subst z1z
  refine tail_any L.typeIs slot_list_getitem.lookup (wpAny_getItem_list_slice L ⟨_,F3.sub _ _ (PM.put_self ..),rfl,rfl⟩ .none (.int _ _) .none (by intro h; cases h) ?_ (by rw [List.size_toArray,W.length]; exact hz)) rfl
  rw [bT6 _ h0i]
  have F4:=F3.push (o:={ cls:= .type "list",data:= .seq (vs.take i.toNat).toArray }) rfl s2.toks
  have l4:=PM.le_put ({ cls:= .type "list",data:= .seq (vs.take i.toNat).toArray }:Obj) F3.none_of_fresh
  exact q _ _ _ (((l1.trans l2).trans l3).trans l4) F4 (.of (.list (PM.put_self ..) ⟨rfl,_,rfl⟩ rfl ((W.take _).mono l4))))))))
theorem EvE.from_ {value lo:Expr}{ts:List T}{i:Int}{k1 k2:Bool}(pos p:Pos)(hv:EvE w A h0 env os k1 σ value (.list ts))(hh:EvE w A h0 env os k2 σ lo (.int i))(h0i:0<=i)(hz:ts.length<=sizeLine):EvE w A h0 env os k σ (.Subscript value (.Slice (some lo) none none p) pos) (.list (ts.drop i.toNat)):=λB O m cm s Q E F R q=>
 Subscript_ (hv B O m cm s _ E F R λva s1 B1 l1 F1 V1=>wpAny_Slice (wpAny_evalPart_some (hh B1 O m cm s1 _ E F1 (R.mono l1) λvb s2 B2 l2 F2 V2=>wpAny_evalPart_none (wpAny_evalPart_none (by
  refine aA3 V2.int λtk z1z=> ?_
  subst z1z
  have F3:=F2.push (o:={ cls:= .type "slice",data:= .fields #[.int i tk, .none, .none] }) rfl s2.toks
  have l3:=PM.le_put ({ cls:= .type "slice",data:= .fields #[.int i tk, .none, .none] }:Obj) F2.none_of_fresh
  refine aB0 (VR.list F3 ((V1.mono l2).mono l3)) λa vs z1z L W=> ?_
  subst z1z
  refine tail_any L.typeIs slot_list_getitem.lookup (wpAny_getItem_list_slice L ⟨_,F3.sub _ _ (PM.put_self ..),rfl,rfl⟩ (.int _ _) .none .none (by intro h; cases h) ?_ (by rw [List.size_toArray,W.length]; exact hz)) rfl
  rw [bT7 _ h0i]
  have F4:=F3.push (o:={ cls:= .type "list",data:= .seq (vs.drop i.toNat).toArray }) rfl s2.toks
  have l4:=PM.le_put ({ cls:= .type "list",data:= .seq (vs.drop i.toNat).toArray }:Obj) F3.none_of_fresh
  exact q _ _ _ (((l1.trans l2).trans l3).trans l4) F4 (.of (.list (PM.put_self ..) ⟨rfl,_,rfl⟩ rfl ((W.drop _).mono l4))))))))
noncomputable def mgm (P:Params):Str->Option Value:=(H1 P).nsMap mainGlobals
noncomputable def mbm (P:Params):Str->Option Value:=(H1 P).nsMap builtinsNs
theorem isNs_main (P:Params):(H1 P).isNs mainGlobals=true:=by lk
theorem bY3 (P:Params):(H1 P).isNs builtinsNs=true:=by lk
theorem Fm.main (F:Fm w h0 env B O m cm os s):s.heap.Ns mainGlobals (mgm w.params):=aC (Heap.Ns.of_isNs (isNs_main w.params)) λo e=>F.sub _ _ (F.gl _ _ e)
theorem Fm.blt (F:Fm w h0 env B O m cm os s):s.heap.Ns builtinsNs (mbm w.params):=aC (Heap.Ns.of_isNs (bY3 w.params)) λo e=>F.sub _ _ (F.gl _ _ e)
structure Own (env:Env):Prop where
 kind:env.scope.kind= .function
 glob:env.globals=mainGlobals
 blts:env.builtins=builtinsNs
theorem aQ7 {x:Str}{pos:Pos}{v:Value}{Q:VP}{E:VP}(W:Own env)(F:Fm w h0 env B O m cm os s)(hk:env.kindOf x=some .globalImplicit)(hv:mgm w.params x=some v)(h:Q v s)(hd:(x == ("__debug__" :Str))=false):
  wpAny (model pw w) A (eval (.Name x pos) env) Q E s:=
 Name_function_global W.kind hk (loadGlobal_global (by rw [W.glob]; exact F.main) hv h) hd
theorem aJ0 {x:Str}{pos:Pos}{v:Value}{Q:VP}{E:VP}(W:Own env)(F:Fm w h0 env B O m cm os s)(hk:env.kindOf x=some .globalImplicit)(hm:mgm w.params x=none)(hv:mbm w.params x=some v)(h:Q v s)(hd:(x == ("__debug__" :Str))=false):
  wpAny (model pw w) A (eval (.Name x pos) env) Q E s:=
 Name_function_global W.kind hk (loadGlobal_builtin (by rw [W.glob]; exact F.main) hm (by rw [W.blts]; exact F.blt) hv h) hd
theorem EvE.call1 {f:Str}{id:String}{e:Expr}{a t:T}{k1:Bool}(np pos:Pos)(W:Own env)(hk:env.kindOf f=some .globalImplicit)(hm:mgm w.params f=none)(hv:mbm w.params f=some (.builtin id))(hd:(f == ("__debug__" :Str))=false)
  (hs:backTo pos (starEach [e] env)=[(false,eval e env)]) (he:EvE w A h0 env os k1 σ e a)
  (h:∀ (B:PM) (O:OL) (m cm:NM) (s:Shared) (va:Value) (Q:VP) (E:VP),Fm w h0 env B O m cm os s->VR k1 B O va a->
   (∀ v s' B',B.le B'->Fm w h0 env B' O m cm os s'->VR k B' O v t->Q v s')->wpAny (model pw w) A (call (.builtin id) [va]) Q E s):EvE w A h0 env os k σ (.Call (.Name f np) [e] [] pos) t:=λB O m cm s Q E F R q=>
 wpAny_Call_NameR (aJ0 W F hk hm hv (by
  rw [hs]
  exact callWith_builtin rfl (Calls.evalArgs_plain (Calls.spliced_cons (he B O m cm s _ E F R λva s1 B1 l1 F1 V1=>Calls.spliced_nil (h B1 O m cm s1 va Q E F1 V1 λv s' B' l F' V=>q v s' B' (l1.trans l) F' V))))) hd)
theorem EvE.len {f:Str}{e:Expr}{ts:List T}{k1:Bool}(np pos:Pos)(W:Own env)(hk:env.kindOf f=some .globalImplicit)(hm:mgm w.params f=none)(hv:mbm w.params f=some (.builtin "len"))(hd:(f == ("__debug__" :Str))=false)
  (hs:backTo pos (starEach [e] env)=[(false,eval e env)]) (he:EvE w A h0 env os k1 σ e (.list ts)) (hz:(ts.length:Int)<2 ^ 63):EvE w A h0 env os k σ (.Call (.Name f np) [e] [] pos) (.int ts.length):=
 EvE.call1 np pos W hk hm hv hd hs he λB O m cm s va Q E F V q=>by
  refine aB0 (VR.list F V) λa vs z1z L Vs=> ?_
  subst z1z
  refine Calls.call_len_list L (by rw [List.size_toArray,Vs.length]; exact hz) ?_
  rw [List.size_toArray,Vs.length]
  exact q _ _ B (.refl B) (F.tok _) (.of (.int _ _))
theorem EvE.chr {f:Str}{e:Expr}{i:Int}{k1:Bool}(np pos:Pos)(W:Own env)(hk:env.kindOf f=some .globalImplicit)(hm:mgm w.params f=none)(hv:mbm w.params f=some (.builtin "chr"))(hd:(f == ("__debug__" :Str))=false)
  (hs:backTo pos (starEach [e] env)=[(false,eval e env)]) (he:EvE w A h0 env os k1 σ e (.int i)) (h0i:0<=i) (h1:i<=1114111):EvE w A h0 env os k σ (.Call (.Name f np) [e] [] pos) (.str ⟨#[i.toNat]⟩):=
 EvE.call1 np pos W hk hm hv hd hs he λB O m cm s va Q E F V q=>by
  refine aA3 V.int λ_ z1z=> ?_
  subst z1z
  exact chr_of_range h0i h1 (q _ _ B (.refl B) (F.tok _) (.of (.str _ _)))
theorem EvE.ord {f:Str}{e:Expr}{c:Nat}{k1:Bool}(np pos:Pos)(W:Own env)(hk:env.kindOf f=some .globalImplicit)(hm:mgm w.params f=none)(hv:mbm w.params f=some (.builtin "ord"))(hd:(f == ("__debug__" :Str))=false)
  (hs:backTo pos (starEach [e] env)=[(false,eval e env)]) (he:EvE w A h0 env os k1 σ e (.str ⟨#[c]⟩)):EvE w A h0 env os k σ (.Call (.Name f np) [e] [] pos) (.int c):=
 EvE.call1 np pos W hk hm hv hd hs he λB O m cm s va Q E F V q=>by
  refine aA3 V.str λ_ z1z=> ?_
  subst z1z
  exact P.ord_of_char (q _ _ B (.refl B) (F.tok _) (.of (.int _ _)))
noncomputable def FnE (w:World)(os:OsState)(n:Nat)(a:Addr)(as:List T)(t:T):Prop:=
 ∀ (A:Around) (B:PM) (s:Shared) (vs:List Value) (Q:VP) (E:VP),aD6 n A->(∀ a o,B a=some o->s.heap.get? a=some o)->(∀ a o,(H1 w.params).get? a=some o->B a=some o)->s.gens= #[]->s.os=os->aA6 B vs as->
  (∀ v s' B',B.le B'->(∀ a o,s.heap.get? a=some o->s'.heap.get? a=some o)->(∀ a o,B' a=some o->s'.heap.get? a=some o)->(∀ a,B a=none->B' a≠none->s.heap.get? a=none)->s'.gens= #[]->s'.os=os->Val B' v t->Q v s')->
  wpAny (model pw w) A (call (.ref a) vs) Q E s
theorem Fm.called {B':PM}{s':Shared}(F:Fm w h0 env B O m cm os s)(l:B.le B')(ke:∀ a o,s.heap.get? a=some o->s'.heap.get? a=some o)(su:∀ a o,B' a=some o->s'.heap.get? a=some o)(nw:∀ a,B a=none->B' a≠none->s.heap.get? a=none)(hg:s'.gens= #[])(ho:s'.os=os):Fm w h0 env B' O m cm os s':=by
 have off:∀ a o,B a=none->s.heap.get? a=some o->B' a=none:=λa o hB h=>by
  cases e:B' a with
  | none=>rfl
  | some x=>have:=nw a hB (by rw [e]; intro q; cases q); rw [this] at h; cases h
 refine ⟨aC F.ns (ke _),λx c e=>(F.cel x c e).keeps ke,λa o e=>ke _ _ (F.old a o e),su,λp hp=>ke _ _ (F.opn p hp),⟨?_,F.offL.2⟩,λx c e=>⟨?_,(F.offC x c e).2⟩,F.cinj,λp hp=>⟨?_,(F.offO p hp).2⟩,F.nod,λa o e=>l _ _ (F.gl a o e),hg,ho,λa o e=> ?_⟩
 ·obtain ⟨o,ho⟩:=aK3 F.ns; exact off _ o F.offL.1 ho
 ·obtain ⟨o,ho,_⟩:=F.cel x c e; exact off _ o (F.offC x c e).1 ho
 ·exact off _ _ (F.offO p hp).1 (F.opn p hp)
 ·cases q:B a with
  | none=>
   refine .inr ?_
   have:=nw a q (by rw [e]; intro z; cases z)
   cases z:h0.h a with
   | none=>rfl
   | some x=>have y:=F.old _ _ z; rw [this] at y; cases y
  | some x=>exact F.nw a x q |>.imp (λz=>by rw [z]; have:=l _ _ q; rw [e] at this; exact this.symm) id
theorem EvE.callF {n:Nat}{f:Str}{a:Addr}{o:Obj}{fd:FuncData}{e:Expr}{es:List Expr}{as:List T}{t:T}(np pos:Pos)(W:Own env)(RA:aD6 n A)(hk:env.kindOf f=some .globalImplicit)(hv:mgm w.params f=some (.ref a))(hd:(f == ("__debug__" :Str))=false)
  (ho:(H1 w.params).get? a=some o) (hdat:o.data= .func fd) (hs:backTo pos (starEach (e::es) env)=(e::es).map λe=>(false,eval e env)) (hst:starEach (e::es) env=(false,eval e env)::starEach es env)
  (he:aC4 w A h0 env os σ (e::es) as) (hf:FnE w os n a as t):EvE w A h0 env os k σ (.Call (.Name f np) (e::es) [] pos) t:=λB O m cm s Q E F R q=>
 wpAny_Call_NameR (aQ7 W F hk hv (callWith_def hdat (by
  rw [hs]
  exact aE4 he B O m cm s _ E F R λvs s1 B1 l1 F1 V1=>⟨F1.sub _ _ (F1.gl _ _ ho),hf A B1 s1 vs Q E RA F1.sub F1.gl F1.gens F1.oss V1 λv s' B' l ke su nw hg ho' V=>q v s' B' (l1.trans l) (F1.called l ke su nw hg ho') (.of V)⟩) hst) hd)
end
theorem al1 {α:Type}{p:List α->Prop}(h:∀ a,p [a])(vs:List α)(e:vs.length=1):p vs:=by
 cases vs with
 | nil=>cases e
 | cons a r=>cases List.length_eq_zero_iff.mp (Nat.succ.inj e:r.length=0); exact h a
theorem al2 {α:Type}{p:List α->Prop}(h:∀ a b,p [a,b])(vs:List α)(e:vs.length=2):p vs:=by
 cases vs with
 | nil=>cases e
 | cons a r=>exact al1 (p:=λr=>p (a::r)) (h a) r (Nat.succ.inj e)
theorem al3 {α:Type}{p:List α->Prop}(h:∀ a b c,p [a,b,c])(vs:List α)(e:vs.length=3):p vs:=by
 cases vs with
 | nil=>cases e
 | cons a r=>exact al2 (p:=λr=>p (a::r)) (h a) r (Nat.succ.inj e)
theorem al4 {α:Type}{p:List α->Prop}(h:∀ a b c d,p [a,b,c,d])(vs:List α)(e:vs.length=4):p vs:=by
 cases vs with
 | nil=>cases e
 | cons a r=>exact al3 (p:=λr=>p (a::r)) (h a) r (Nat.succ.inj e)
theorem dJ5 {α:Type}{p:List α->Prop}(h0:p [])(h:∀ a,p [a])(vs:List α)(e:vs.length<=1):p vs:=by
 cases vs with
 | nil=>exact h0
 | cons a r=>cases List.length_eq_zero_iff.mp (Nat.le_zero.mp (Nat.le_of_succ_le_succ e):r.length=0); exact h a
theorem dC9 {α:Type}{p:List α->List α->Prop}(h:∀ a b,p [a] [b])(vs ws:List α)(e:vs.length=1)(e':ws.length=1):p vs ws:=al1 (p:=λvs=>p vs ws) (λa=>al1 (p:=p [a]) (h a) ws e') vs e
theorem dJ6 {α:Type}{p:List α->List α->Prop}{n:Nat}(hn:n<=1)(h0:∀ a b,p [a,b] [])(h:∀ a b c,p [a,b] [c])(vs ws:List α)(e:vs.length=2)(e':ws.length=n):p vs ws:=al2 (p:=λvs=>p vs ws) (λa b=>dJ5 (p:=p [a,b]) (h0 a b) (h a b) ws (e' ▸ hn)) vs e
inductive Fl where
 | next
 | brk
 | cont
 | ret (t:T)
 | exc (cls:Value) (args:List T)
inductive FlR (B:PM):Fl->Flow->Prop
 | next:FlR B .next .next
 | brk:FlR B .brk .brk
 | cont:FlR B .cont .cont
 | ret {v:Value} {t:T}:Val B v t->FlR B (.ret t) (.ret v)
noncomputable abbrev FP:=Fl->Sg->Prop
noncomputable def Sg.set (σ:Sg)(x:Str)(t:T):Sg:=⟨λy=>if y=x then some t else σ.fz y,σ.ow,σ.hp⟩
noncomputable def Sg.own (σ:Sg)(x:Str)(ts:List T):Sg:=⟨λy=>if y=x then none else σ.fz y,(x,ts)::σ.ow,σ.hp⟩
structure Rl (env:Env)(σ:Sg)(B:PM)(O:OL)(m cm:NM):Prop where
 fz:∀ x t,σ.fz x=some t->∃ v,aB7 env m cm x=some v/\Val B v t
 ow:∃ O1 Y,O=O1++Y/\aJ7 env B m cm σ.ow O1/\Hps B σ.hp Y
theorem Rl.rel {env:Env}{σ:Sg}{B:PM}{O:OL}{m cm:NM}(R:Rl env σ B O m cm)(X:OL):Rel env σ B (O++X) m cm:=aB0 R.ow λO1 Y e r p=>⟨R.fz,O1,Y++X,by rw [e,List.append_assoc],r,p.sub λ_ h=>List.mem_append.mpr (.inl h)⟩
theorem Rl.mono {env:Env}{σ:Sg}{B B':PM}{O:OL}{m cm:NM}(R:Rl env σ B O m cm)(l:B.le B'):Rl env σ B' O m cm:=
 ⟨fzm R.fz l,aB0 R.ow λO1 Y e r p=>⟨O1,Y,e,r.mono l,p.mono l⟩⟩
inductive Fly (B:PM)(L:Addr)(cls:Value)(args:List T)(e:Addr):List (Addr×Obj)->Prop
 | first {oe:Obj} {vs:Array Value} {t:Addr}:oe.cls=cls->oe.data= .fields vs->vs[0]? =some (.ref t)->Val B (.ref t) (.tup args)->vs[1]? =some .none->Fly B L cls args e [(e,oe)]
 | next {oe oT:Obj} {vs ts:Array Value} {t tb:Addr} {fl:Value}:oe.cls=cls->oe.data= .fields vs->vs[0]? =some (.ref t)->Val B (.ref t) (.tup args)->vs[1]? =some (.ref tb)->oT.data= .fields ts->ts[3]? =some fl->fl= .none\/fl=rawInt L->Fly B L cls args e [(e,oe),(tb,oT)]
structure cH7 (w:World)(h0:aA8)(env:Env)(os:OsState)(P:FP)(B:PM)(X:OL)(Q:Flow->Shared->Prop)(E:VP):Prop where
 go:∀ fl σ' f s' B' O' m' cm',P fl σ'->FlR B' fl f->B.le B'->Fm w h0 env B' (O'++X) m' cm' os s'->Rl env σ' B' O' m' cm'->Q f s'
 out:∀ cls args σ' e s' B' Z O' m' cm',P (.exc cls args) σ'->Fly B' env.locals cls args e Z->B.le B'->Fm w h0 env B' (Z++(O'++X)) m' cm' os s'->Rl env σ' B' O' m' cm'->E (.ref e) s'
theorem cH7.mono {w:World}{h0:aA8}{env:Env}{os:OsState}{P:FP}{B B1:PM}{X:OL}{Q:Flow->Shared->Prop}{E:VP}(q:cH7 w h0 env os P B X Q E)(l1:B.le B1):cH7 w h0 env os P B1 X Q E:=
 ⟨λfl σ' f s' B' O' m' cm' p r l F R=>q.go fl σ' f s' B' O' m' cm' p r (l1.trans l) F R,λcls args σ' e s' B' Z O' m' cm' p r l F R=>q.out cls args σ' e s' B' Z O' m' cm' p r (l1.trans l) F R⟩
noncomputable def ExE (w:World)(A:Around)(h0:aA8)(env:Env)(os:OsState)(σ:Sg)(ss:List Stmt)(P:FP):Prop:=
 ∀ (B:PM) (O X:OL) (m cm:NM) (s:Shared) (Q:Flow->Shared->Prop) (E:VP),Fm w h0 env B (O++X) m cm os s->Rl env σ B O m cm->
  cH7 w h0 env os P B X Q E->wpAny (model pw w) A (execs ss env) Q E s
noncomputable abbrev bY4 (w:World)(A:Around)(h0:aA8)(env:Env)(os:OsState)(rest:List Stmt)(P:FP):Fl->Sg->Prop:=λfl σ'=>match fl with
 | .next=>ExE w A h0 env os σ' rest P
 | fl=>P fl σ'
noncomputable abbrev bY5 (w:World)(A:Around)(h0:aA8)(env:Env)(os:OsState)(rest:List Stmt)(P:FP):Fl->Sg->Prop:=λfl σ'=>match fl with
 | .next=>ExE w A h0 env os σ' rest P
 | .exc _ _=>False
 | fl=>P fl σ'
noncomputable abbrev bY6 (w:World)(A:Around)(h0:aA8)(env:Env)(os:OsState)(J:Sg->Prop)(X:Value->List T->Sg->Prop)(rest:List Stmt)(P:FP):Fl->Sg->Prop:=λfl σ'=>match fl with
 | .next=>J σ'
 | .cont=>J σ'
 | .brk=>ExE w A h0 env os σ' rest P
 | .ret u=>P (.ret u) σ'
 | .exc c u=>X c u σ'
noncomputable abbrev bB7 (w:World)(A:Around)(h0:aA8)(env:Env)(os:OsState)(J:Sg->Prop)(rest:List Stmt)(P:FP):Fl->Sg->Prop:=bY6 w A h0 env os J (λ_ _ _=>False) rest P
noncomputable abbrev dD (w:World)(A:Around)(h0:aA8)(env:Env)(os:OsState)(rest:List Stmt)(X:Value->List T->Sg->Prop)(P:FP):Fl->Sg->Prop:=λfl σ'=>match fl with
 | .next=>ExE w A h0 env os σ' rest P
 | .exc c u=>X c u σ'
 | fl=>P fl σ'
section
variable {w:World}{A:Around}{h0:aA8}{env:Env}{os:OsState}{σ:Sg}{P:FP}{rest:List Stmt}
theorem ExE.nil (h:P .next σ):ExE w A h0 env os σ [] P:=λB O X m cm s Q E F R q=>
 wpAny_execs_nil (q.go .next σ _ s B O m cm h .next (.refl B) F R)
theorem ExE.mono {ss:List Stmt}{P':FP}(h:ExE w A h0 env os σ ss P)(i:∀ fl σ',P fl σ'->P' fl σ'):ExE w A h0 env os σ ss P':=λB O X m cm s Q E F R q=>
 h B O X m cm s Q E F R ⟨λfl σ' f s' B' O' m' cm' p=>q.go fl σ' f s' B' O' m' cm' (i fl σ' p),λcls args σ' e s' B' Z O' m' cm' p=>q.out cls args σ' e s' B' Z O' m' cm' (i _ σ' p)⟩
theorem aJ7.names {env':Env}{B:PM}{m cm:NM}{m' cm':NM}{ow:List (Str×List T)}{O:OL}(h:aJ7 env B m cm ow O):(∀ p∈ow,aB7 env' m' cm' p.1=aB7 env m cm p.1)->aJ7 env' B m' cm' ow O:=by
 induction h with
 | nil=>exact λ_=> .nil
 | cons h i v r ih=>exact λe=> .cons ((e _ (.head _)).trans h) i v (ih λp hp=>e p (.tail _ hp))
theorem aM8 {m cm:NM}{x y:Str}{v:Value}(h:y≠x):aB7 env (λz=>if z=x then some v else m z) cm y=aB7 env m cm y:=by
 unfold aB7
 split<;>first | rfl | exact if_neg h
theorem aN8 {m cm:NM}{x y:Str}{v:Value}(h:y≠x):aB7 env m (λz=>if z=x then some v else cm z) y=aB7 env m cm y:=by
 unfold aB7
 split<;>first | rfl | exact if_neg h
theorem Rl.set {B:PM}{O:OL}{m cm:NM}{x:Str}{v:Value}{t:T}(R:Rl env σ B O m cm)(hk:env.kindOf x=some .local)(hx:∀ p∈σ.ow,p.1≠x)(V:Val B v t):Rl env (σ.set x t) B O (λz=>if z=x then some v else m z) cm:=by
 refine ⟨λy u h=> ?_,aB0 R.ow λO1 Y e r p=>⟨O1,Y,e,r.names λp hp=>aM8 (hx p hp),p⟩⟩
 unfold Sg.set at h
 dsimp only at h
 by_cases q:y=x
 ·subst q
  rw [if_pos rfl] at h; cases h
  refine ⟨v, ?_,V⟩
  unfold aB7; rw [hk]; exact if_pos rfl
 ·rw [if_neg q] at h
  rw [aM8 q]; exact R.fz y u h
theorem Rl.setC {B:PM}{O:OL}{m cm:NM}{x:Str}{v:Value}{t:T}(R:Rl env σ B O m cm)(hk:env.kindOf x=some .cell)(hx:∀ p∈σ.ow,p.1≠x)(V:Val B v t):Rl env (σ.set x t) B O m (λz=>if z=x then some v else cm z):=by
 refine ⟨λy u h=> ?_,aB0 R.ow λO1 Y e r p=>⟨O1,Y,e,r.names λp hp=>aN8 (hx p hp),p⟩⟩
 unfold Sg.set at h
 dsimp only at h
 by_cases q:y=x
 ·subst q
  rw [if_pos rfl] at h; cases h
  refine ⟨v, ?_,V⟩
  unfold aB7; rw [hk]; exact if_pos rfl
 ·rw [if_neg q] at h
  rw [aN8 q]; exact R.fz y u h
theorem ExE.assign {x:Str}{e:Expr}{t:T}(p pos:Pos)(W:Own env)(he:EvE w A h0 env os true σ e t)(hk:env.kindOf x=some .local)(hx:∀ p∈σ.ow,p.1≠x)(hs:swapsWith e (some (.Name x p)) pos.line env=pure false)
  (h:ExE w A h0 env os (σ.set x t) rest P):ExE w A h0 env os σ (.Assign [.Name x p] e pos::rest) P:=λB O X m cm s Q E F R q=>
 wpAny_execs_cons (wpAny_Assign_Name (he B (O++X) m cm s _ E F (R.rel X) λv s1 B1 l1 F1 V=>wpAny_storeName_local hk F1.ns (λh' hn hsb=>
  h B1 O X _ cm _ Q E (F1.setLocal hn hsb _) ((R.mono l1).set hk hx V) (q.mono l1)) (by rw [W.kind]; rfl)) hs)
theorem ExE.assignC {x:Str}{c:Addr}{e:Expr}{t:T}(p pos:Pos)(W:Own env)(he:EvE w A h0 env os true σ e t)(hk:env.kindOf x=some .cell)(hc:env.cells.lookup x=some c)(hf:h0.h c=none)(hx:∀ p∈σ.ow,p.1≠x)(hs:swapsWith e (some (.Name x p)) pos.line env=pure false)
  (h:ExE w A h0 env os (σ.set x t) rest P):ExE w A h0 env os σ (.Assign [.Name x p] e pos::rest) P:=λB O X m cm s Q E F R q=>
 wpAny_execs_cons (wpAny_Assign_Name (he B (O++X) m cm s _ E F (R.rel X) λv s1 B1 l1 F1 V=>wpAny_storeName_cell W.kind hk hc (F1.cel x c hc) (λh' hn hsb=>
  h B1 O X m _ _ Q E (F1.setCell hc hf hn hsb _) ((R.mono l1).setC hk hx V) (q.mono l1))) hs)
theorem ExE.ret {e:Expr}{t:T}(pos:Pos)(he:EvE w A h0 env os true σ e t)(h:P (.ret t) σ):ExE w A h0 env os σ (.Return (some e) pos::rest) P:=λB O X m cm s Q E F R q=>
 wpAny_execs_cons (wpAny_Return_some (he B (O++X) m cm s _ E F (R.rel X) λv s1 B1 l1 F1 V=>q.go (.ret t) σ _ s1 B1 O m cm h (.ret V) l1 F1 (R.mono l1)))
theorem ExE.ite {c:Expr}{b:Bool}{body orelse:List Stmt}(pos:Pos)(hc:TsE w A h0 env os σ c b)
  (h:ExE w A h0 env os σ (if b then body else orelse) (bY4 w A h0 env os rest P)):ExE w A h0 env os σ (.If c body orelse pos::rest) P:=λB O X m cm s Q E F R q=>
 wpAny_execs_cons (wpAny_If (hc B (O++X) m cm s _ E F (R.rel X) λs1 B1 l1 F1=>by
  have key:wpAny (model pw w) A (execs (if b then body else orelse) env) (λf s'=>match f with | .next=>wpAny (model pw w) A (execs rest env) Q E s' | f=>Q f s') E s1:=
   h B1 O X m cm s1 _ E F1 (R.mono l1) ⟨λfl σ' f s' B' O' m' cm' p r l F' R'=>by
    cases r with
    | next=>exact p B' O' X m' cm' s' Q E F' R' (q.mono (l1.trans l))
    | brk=>exact q.go .brk σ' _ s' B' O' m' cm' p .brk (l1.trans l) F' R'
    | cont=>exact q.go .cont σ' _ s' B' O' m' cm' p .cont (l1.trans l) F' R'
    | ret V=>exact q.go (.ret _) σ' _ s' B' O' m' cm' p (.ret V) (l1.trans l) F' R',λcls args σ' e s' B' Z O' m' cm' p r l F' R'=>q.out cls args σ' e s' B' Z O' m' cm' p r (l1.trans l) F' R'⟩
  cases b with
  | true=>rw [if_pos rfl] at key ⊢; exact key
  | false=>rw [if_neg Bool.false_ne_true] at key ⊢; exact key))
theorem aD7 {α β:Type}[BEq α][LawfulBEq α]{x:α}{b:β}:∀ {l:List (α×β)},l.lookup x=some b->(x,b)∈l
 | [],h=>by cases h
 | (y,c)::l,h=>by
  rw [List.lookup_cons] at h
  split at h
  ·rename_i e; cases h; rw [eq_of_beq e]; exact .head _
  ·exact .tail _ (aD7 h)
theorem aI3 {α β:Type}[BEq α][LawfulBEq α]{x:α}{b:β}:∀ {l:List (α×β)},(l.map (·.1)).Nodup->(x,b)∈l->l.lookup x=some b
 | [],_,h=>by cases h
 | (y,c)::l,hn,h=>by
  rw [List.map_cons,List.nodup_cons] at hn
  rw [List.lookup_cons]
  rcases List.mem_cons.mp h with e | h
  ·cases e; rw [beq_self_eq_true]
  ·have:(x == y)=false:=beq_eq_false_iff_ne.mpr λe=>hn.1 (e ▸ List.mem_map_of_mem (f:=(·.1)) h)
   rw [this]; exact aI3 hn.2 h
theorem aJ1 {α β:Type}[BEq α][LawfulBEq α]{x:α}:∀ {l:List (α×β)},(∀ b,(x,b)∉l)->l.lookup x=none
 | [],_=>rfl
 | (y,c)::l,h=>by
  rw [List.lookup_cons]
  have:(x == y)=false:=beq_eq_false_iff_ne.mpr λe=>h c (e ▸ .head _)
  rw [this]; exact aJ1 λb hb=>h b (.tail _ hb)
theorem aW7 {α β:Type}[BEq α][LawfulBEq α]{x:α}(l:List (α×β))(hn:(l.map (·.1)).Nodup):l.reverse.lookup x=l.lookup x:=by
 cases e:l.lookup x with
 | some b=>exact aI3 (by rw [List.map_reverse]; exact (List.reverse_perm _).nodup_iff.mpr hn) (List.mem_reverse.mpr (aD7 e))
 | none=>
  refine aJ1 λb hb=> ?_
  rw [aI3 hn (List.mem_reverse.mp hb)] at e; cases e
theorem aQ8 {B:PM}{vs:List Value}{as:List T}(h:aA6 B vs as):∀ (names:List Str) (x:Str) (u:T),(names.zip as).lookup x=some u->∃ v,(names.zip vs).lookup x=some v/\Val B v u:=by
 induction h using aA6.ind with
 | h0=>intro names x u e; rw [List.zip_nil_right] at e; cases e
 | hc hv r ih=>
  intro names x u e
  cases names with
  | nil=>cases e
  | cons n ns=>
   rw [List.zip_cons_cons,List.lookup_cons] at e ⊢
   split at e
   ·cases e
    exact ⟨_,rfl,hv⟩
   ·exact ih ns x u e
theorem FnE.of_body {n:Nat}{a:Addr}{o:Obj}{fd:FuncData}{body:List Stmt}{as:List T}{t:T}{names:List Str}(ho:(H1 w.params).get? a=some o)(hdata:o.data= .func fd)(hlim:(H1 w.params).NoLimit)(hcd:(H1 w.params).CodeRec fd.code fd.qualname)
  (hbody:fd.body= .stmts body) (hbind:∀ s vs,vs.length=as.length->BindsTo s fd ⟨vs,[]⟩ (names.zip vs)) (hnl:names.length=as.length) (hnd:names.Nodup) (hcell:∀ x∈fd.scope.names,x.2≠ .cell) (hloc:∀ x∈names,fd.scope.names.lookup x=some .local)
  (hco:fd.scope.isCoroutine=false) (hgen:fd.scope.isGenerator=false) (hk:fd.scope.kind= .function) (hcl:fd.closure=[])
  (h:∀ (A:Around) (h0:aA8) (L:Addr),aD6 n A->ExE w (A.deeper (callEnv fd L a)) h0 (callEnv fd L a) os ⟨λx=>(names.zip as).lookup x,[],λ_=>none⟩ body (λfl σ'=>fl= .ret t)):FnE w os n a as t:=by
 intro A B s vs Q E RA su gl hg hos V q
 have hvl:vs.length=as.length:=V.length
 refine wpAny_call (codeAny_call_def (Nat.lt_of_le_of_lt (Nat.le_add_right _ n) (Nat.lt_trans RA.depth (by decide))) (su _ _ (gl _ _ ho)) hdata ?_ ?_ hbody (hbind s vs hvl) hcell (λx hx=>hloc _ (List.of_mem_zip hx).1) (λh₁ hns hk₁=> ?_) hco hgen hk)
 ·obtain ⟨mc,hn,e⟩:=hlim; exact ⟨mc,aC hn λo e=>su _ _ (gl _ _ e),e⟩
 ·obtain ⟨c,o,vs,t,a1,a2,a3⟩:=hcd; exact ⟨c,o,vs,t,a1,su _ _ (gl _ _ a2),a3⟩
 ·have hB:B s.heap.objs.size=none:=by
   cases e:B s.heap.objs.size with
   | none=>rfl
   | some o=>have:=su _ _ e; rw [aA7] at this; cases this
  have hc0:(callEnv fd s.heap.objs.size a).cells=[]:=hcl
  have nc:∀ x c,(callEnv fd s.heap.objs.size a).cells.lookup x=some c->False:=λx c e=>by rw [hc0] at e; cases e
  have F:Fm w ⟨λa=>s.heap.get? a,B⟩ (callEnv fd s.heap.objs.size a) B ([]++[]) (λx=>(names.zip vs).reverse.lookup x) (λ_=>none) os { s with heap:=h₁,toks:=s.toks+(names.zip vs).length }:=
   ⟨hns,λx c e=>(nc x c e).elim,hk₁,λa o e=>hk₁ _ _ (su a o e),λp hp=>absurd hp (List.not_mem_nil),⟨hB,aA7⟩,λx c e=>(nc x c e).elim,λx y c e=>(nc x c e).elim,λp hp=>absurd hp (List.not_mem_nil),List.nodup_nil,gl,hg,hos,λa o e=> .inl e⟩
  have R:Rl (callEnv fd s.heap.objs.size a) ⟨λx=>(names.zip as).lookup x,[],λ_=>none⟩ B [] (λx=>(names.zip vs).reverse.lookup x) (λ_=>none):=by
   refine ⟨λx u hx=> ?_,[],[],rfl, .nil,λa b e=>by cases e⟩
   refine aA1 (aQ8 V names x u hx) λv hv Vv=> ?_
   refine ⟨v, ?_,Vv⟩
   have hl:(callEnv fd s.heap.objs.size a).kindOf x=some .local:=by
    have hm:x∈names:=by
     have:=aD7 hx
     exact (List.of_mem_zip this).1
    show fd.scope.names.lookup x=some .local
    exact hloc x hm
   unfold aB7
   rw [hl]
   show (names.zip vs).reverse.lookup x=some v
   rw [aW7 _ (by rw [List.map_fst_zip (by room)]; exact hnd)]
   exact hv
  refine h A ⟨λa=>s.heap.get? a,B⟩ s.heap.objs.size RA B [] [] _ _ _ _ _ F R ⟨λfl σ' f s' B' O' m' cm' p r l F' R'=> ?_,λcls args σ' e s' B' Z O' m' cm' p=>by cases p⟩
  subst p
  cases r with
  | ret V'=>exact q _ s' B' l F'.old F'.sub (λx hx hx'=>by
    cases e:B' x with
    | none=>exact absurd e hx'
    | some o=>exact (F'.nw x o e).elim (λz=>by have z:B x=some o:=z; rw [hx] at z; cases z) id) F'.gens F'.oss V'
end
noncomputable def aA2:Obj->FuncData
 | ⟨_,_, .func f,_⟩=>f
 | _=>default
theorem aV9 (P:Params):(H1 P).NoLimit:=⟨_,Heap.Ns.of_isNs (by lk),by lk⟩
theorem dD0 (fd:FuncData)(L a:Addr)(hk:fd.scope.kind= .function)(hg:fd.globals=mainGlobals)(hb:fd.builtins=builtinsNs):Own (callEnv fd L a):=⟨hk,hg,hb⟩
theorem aD6.deeper {n:Nat}{A:Around}{env:Env}(h:aD6 (n+1) A):aD6 n (A.deeper env):=⟨by have:=h.depth; show A.depth+1+n<900; room,by have:=h.units; show A.units+3+3 * n+300<cLine; room,h.handled⟩
theorem aD6.in_ {n:Nat}{A:Around}{env:Env}(h:aD6 n A):(A.deeper env).units<cLine:=by have:=h.units; show A.units+3<cLine; room
theorem aB9 {n:Nat}{w:World}{os:OsState}{a c:Addr}{o oc:Obj}{fd:FuncData}{body:List Stmt}{as:List T}{t:T}(names:List Str){cvs:Array Value}{tk:Tok}(ho:(H1 w.params).get? a=some o)(hdata:o.data= .func fd)
  (hcd:fd.code= .ref c) (hc:(H1 w.params).get? c=some oc) (hcv:oc.data= .fields cvs) (hcq:cvs[1]? =some (.str fd.qualname tk))
  (hbody:fd.body= .stmts body) (hbind:∀ vs,vs.length=as.length->bindArgs fd ⟨vs,[]⟩=pure (names.zip vs)) (hnl:names.length=as.length) (hnd:names.Nodup) (hcell:fd.scope.names.all (λx=>x.2 != .cell)=true) (hloc:names.all (λx=>fd.scope.names.lookup x == some .local)=true)
  (hco:fd.scope.isCoroutine=false) (hgen:fd.scope.isGenerator=false) (hk:fd.scope.kind= .function) (hcl:fd.closure=[])
  (h:∀ (A:Around) (h0:aA8) (L:Addr),aD6 n A->ExE w (A.deeper (callEnv fd L a)) h0 (callEnv fd L a) os ⟨λx=>(names.zip as).lookup x,[],λ_=>none⟩ body (λfl σ'=>fl= .ret t)):FnE w os n a as t:=
 FnE.of_body ho hdata (aV9 _) ⟨c,oc,cvs,tk,hcd,hc,hcv,hcq⟩ hbody (λs vs hv M A E Q q=>wpAny_of_eq (hbind vs hv) q) hnl hnd
  (λx hx e=>by have:=List.all_eq_true.mp hcell x hx; rw [e] at this; cases this) (λx hx=>eq_of_beq (List.all_eq_true.mp hloc x hx)) hco hgen hk hcl h
noncomputable def bB:List Int:=[173,32,64976,65529,12272,832,917505]
theorem bI3 (w:World)(os:OsState)(k:Nat)(h:k<7):FnE w os 0 265 [.int k] (.str ⟨#[(bB.getD k 0).toNat]⟩):=by
 refine aB9 (o:=bE2) (fd:=aA2 bE2) (body:=aB1 (aA0 24)) (c:=264) (oc:=cP2) [u "k"] (by lk) rfl rfl (by lk) rfl rfl rfl
  (al1 λ_=>by lk) rfl (by decide) (by lk) (by lk) rfl rfl rfl rfl λA h0 L RA=> ?_
 have W:Own (callEnv (aA2 bE2) L 265):=⟨rfl,rfl,rfl⟩
 refine ExE.ret _ ?_ rfl
 have hb:∀ j:Nat,j<7->0<=bB.getD j 0/\bB.getD j 0<=1114111/\(bB.map T.int)[j]? =some (.int (bB.getD j 0)):=by
  repeat' first | exact lz | refine ls ?_ ⟨by decide,by decide,rfl⟩
 refine aC5 (hb k h) λb1 b2 b3=> ?_
 refine EvE.chr _ _ W (by lk) (by lk) (by lk) (by lk) (by lk) (k1:=true) (i:=bB.getD k 0) ?_ b1 b2
 refine EvE.idx _ (k1:=true) (k2:=true) (ts:=bB.map T.int) (i:=(k:Int)) ?_ (EvE.name _ rfl (by lk) (.inl (by lk)) (by lk) (by lk)) (by room) (by room) (by simpa using b3) (λo j u=>by lk)
 refine EvE.listD _ ?_ (by lk) (by decide)
 repeat first | exact aC4.nil | refine aC4.cons (EvE.int _ _ _) ?_
section
variable {w:World}{A:Around}{h0:aA8}{env:Env}{os:OsState}{σ:Sg}{P:FP}{rest:List Stmt}{B:PM}{O X:OL}{m cm:NM}{s:Shared}
theorem Fm.perm {O':OL}(F:Fm w h0 env B O m cm os s)(p:List.Perm O O'):Fm w h0 env B O' m cm os s:=
 ⟨F.ns,F.cel,F.old,F.sub,λq hq=>F.opn q (p.mem_iff.mpr hq),F.offL,F.offC,F.cinj,λq hq=>F.offO q (p.mem_iff.mpr hq),(p.map (·.1)).nodup_iff.mp F.nod,F.gl,F.gens,F.oss,F.nw⟩
theorem Fm.toX {a:Addr}{o:Obj}(F:Fm w h0 env B ((a,o)::(O++X)) m cm os s):Fm w h0 env B (O++(a,o)::X) m cm os s:=F.perm List.perm_middle.symm
theorem Fm.drop {a:Addr}{o:Obj}(F:Fm w h0 env B (O++(a,o)::X) m cm os s){h':Heap}(k:Heap.ExtBut a s.heap h')(tk:Nat):Fm w h0 env B (O++X) m cm os { s with heap:=h',toks:=tk }:=by
 have ha:(a,o)∈O++(a,o)::X:=List.mem_append.mpr (.inr (.head _))
 have fa:=F.offO _ ha
 have hnod:=F.nod
 rw [List.map_append,List.map_cons,List.nodup_append] at hnod
 have sub:∀ p∈O++X,p∈O++(a,o)::X:=λp hp=>by
  rcases List.mem_append.mp hp with h | h
  ·exact List.mem_append.mpr (.inl h)
  ·exact List.mem_append.mpr (.inr (.tail _ h))
 have ne:∀ p∈O++X,p.1≠a:=λp hp q=>by
  rcases List.mem_append.mp hp with h | h
  ·exact hnod.2.2 p.1 (List.mem_map_of_mem h) a (.head _) q
  ·exact (List.nodup_cons.mp hnod.2.1).1 (q ▸ List.mem_map_of_mem (f:=(·.1)) h)
 refine ⟨aC F.ns λo e=>k _ _ fa.2.2.1.symm e,λx c e=> ?_,λb o e=>k _ _ (λq=> ?_) (F.old b o e),λb o e=>k _ _ (λq=> ?_) (F.sub b o e),λp hp=>k _ _ (ne p hp) (F.opn p (sub p hp)),F.offL,F.offC,F.cinj,λp hp=>F.offO p (sub p hp), ?_,F.gl,F.gens,F.oss,F.nw⟩
 ·obtain ⟨o,ho,hd⟩:=F.cel x c e; exact ⟨o,k _ _ (fa.2.2.2 x c e) ho,hd⟩
 ·rw [q,fa.2.1] at e; cases e
 ·rw [q,fa.1] at e; cases e
 ·rw [List.map_append,List.nodup_append]
  exact ⟨hnod.1,(List.nodup_cons.mp hnod.2.1).2,λx hx y hy=>hnod.2.2 x hx y (.tail _ hy)⟩
structure Src (w:World)(A:Around)(h0:aA8)(env:Env)(os:OsState)(B:PM)(ts:List T)(I:Nat->Obj->Prop):Prop where
 next:∀ (B':PM) (O X:OL) (m cm:NM) (s:Shared) (it:Addr) (o:Obj) (i:Nat) (t:T) (Q:Option Value->Shared->Prop) (E:VP),B.le B'->Fm w h0 env B' (O++(it,o)::X) m cm os s->I i o->ts[i]? =some t->
  (∀ v s' o',I (i+1) o'->Fm w h0 env B' (O++(it,o')::X) m cm os s'->Val B' v t->Q (some v) s')->wpAny (model pw w) A (pyNext (.ref it)) Q E s
 stop:∀ (B':PM) (O X:OL) (m cm:NM) (s:Shared) (it:Addr) (o:Obj) (i:Nat) (Q:Option Value->Shared->Prop) (E:VP),B.le B'->Fm w h0 env B' (O++(it,o)::X) m cm os s->I i o->ts[i]? =none->
  (∀ s',Fm w h0 env B' (O++X) m cm os s'->Q none s')->wpAny (model pw w) A (pyNext (.ref it)) Q E s
noncomputable def ItE (w:World)(A:Around)(h0:aA8)(env:Env)(os:OsState)(σ:Sg)(iter:Expr)(ts:List T):Prop:=
 ∀ (B:PM) (O:OL) (m cm:NM) (s:Shared) (Q:VP) (E:VP),Fm w h0 env B O m cm os s->Rel env σ B O m cm->
  (∀ it o s' B' I,B.le B'->Fm w h0 env B' ((it,o)::O) m cm os s'->Src w A h0 env os B' ts I->I 0 o->Q (.ref it) s')->wpAny (model pw w) A (eval iter env) (λx s1=>wpAny (model pw w) A (pyIter x) Q E s1) E s
theorem aF7 {it:Addr}{o o':Obj}(F:Fm w h0 env B (O++(it,o)::X) m cm os s){h':Heap}(hn:h'.get? it=some o')(hs:Heap.SameBut it s.heap h')(tk:Nat):Fm w h0 env B (O++(it,o')::X) m cm os { s with heap:=h',toks:=tk }:=F.turn hn hs tk
theorem ItE.list {iter:Expr}{ts:List T}(hA:A.handled=none)(he:EvE w A h0 env os true σ iter (.list ts)):ItE w A h0 env os σ iter ts:=λB O m cm s Q E F R q=>
 he B O m cm s _ E F R λv s1 B1 l1 F1 V=>by
  refine aB0 (VR.list F1 V) λa vs z1z L Vs=> ?_
  subst z1z
  have hB:∃ o,B1 a=some o/\isL o vs:=by
   cases V with
   | list h i d vs'=>
    refine aC8 L λo ho hc h9=>aA3 h9 λn hd=> ?_
    try clear L
    have e:=F1.sub _ _ h
    rw [ho] at e; cases e
    exact ⟨_,h,hc,n,hd⟩
  refine aA1 hB λol hBl il=> ?_
  try clear hB
  refine wpAny_pyIter_list L ?_
  refine q _ _ _ B1 (λi o=>o.cls= .type "list_iterator" /\o.data= .fields #[.ref a, .int i 0]) l1 (F1.pushO rfl s1.toks) ?_ ⟨rfl,rfl⟩
  refine ⟨λB' O X m cm s it o i t Q E l F I ht q=> ?_,λB' O X m cm s it o i Q E l F I ht q=> ?_⟩
  ·refine aA1 ((Vs.mono l).get ht) λv hv Vv=> ?_
   have hl:s.heap.IsList a vs.toArray:=⟨ol,F.sub _ _ (l _ _ hBl),il.1,il.2⟩
   refine wpAny_pyNext_list_item ⟨o,F.opn _ (List.mem_append.mpr (.inr (.head _))),I.1,I.2⟩ hl (by simpa using hv) λh' it' hs=> ?_
   refine aC8 it' λo' ho' c' d'=> ?_
   try clear it'
   exact q v _ o' ⟨c',d'⟩ (aF7 F ho' hs s.toks) Vv
  ·have hl:s.heap.IsList a vs.toArray:=⟨ol,F.sub _ _ (l _ _ hBl),il.1,il.2⟩
   have hv:vs.toArray[i]? =none:=by
    rw [List.getElem?_toArray,List.getElem?_eq_none_iff]
    rw [List.getElem?_eq_none_iff] at ht
    rw [Vs.length]; exact ht
   refine wpAny_pyNext_list_end hA ⟨o,F.opn _ (List.mem_append.mpr (.inr (.head _))),I.1,I.2⟩ hl hv λh' hs=> ?_
   exact q _ (F.drop hs s.toks)
noncomputable def aF5 (w:World)(A:Around)(h0:aA8)(env:Env)(os:OsState)(target:Expr)(σ:Sg)(t:T)(σ':Sg):Prop:=
 ∀ (B:PM) (O X:OL) (m cm:NM) (s:Shared) (v:Value) (it:Value) (Q:Unit->Shared->Prop) (E:VP),Fm w h0 env B (O++X) m cm os s->Rl env σ B O m cm->Val B v t->
  (∀ s' m' cm',Fm w h0 env B (O++X) m' cm' os s'->Rl env σ' B O m' cm'->Q () s')->wpAny (model pw w) A (assign target env v) Q E s
theorem aF5.name {x:Str}{t:T}(p:Pos)(W:Own env)(hk:env.kindOf x=some .local)(hx:∀ p∈σ.ow,p.1≠x):aF5 w A h0 env os (.Name x p) σ t (σ.set x t):=λB O X m cm s v it Q E F R V q=>
 wpAny_assign_Name (wpAny_storeName_local hk F.ns (λh' hn hs=>q _ _ cm (F.setLocal hn hs _) (R.set hk hx V)) (by rw [W.kind]; rfl))
theorem aF5.cell {x:Str}{c:Addr}{t:T}(p:Pos)(W:Own env)(hk:env.kindOf x=some .cell)(hc:env.cells.lookup x=some c)(hf:h0.h c=none)(hx:∀ p∈σ.ow,p.1≠x):aF5 w A h0 env os (.Name x p) σ t (σ.set x t):=λB O X m cm s v it Q E F R V q=>
 wpAny_assign_Name (wpAny_storeName_cell W.kind hk hc (F.cel x c hc) (λh' hn hs=>q _ m _ (F.setCell hc hf hn hs s.toks) (R.setC hk hx V)))
structure dJ7 (w:World)(A:Around)(h0:aA8)(env:Env)(os:OsState)(B:PM)(ts:List T)(C:Sg->Prop)(target:Expr)(I:Nat->Obj->Prop):Prop where
 next:∀ (B':PM) (O X:OL) (m cm:NM) (s:Shared) (it:Addr) (o:Obj) (i:Nat) (t:T) (σ:Sg) (Q:Option Value->Shared->Prop) (E:VP),B.le B'->C σ->Rl env σ B' O m cm->Fm w h0 env B' (O++(it,o)::X) m cm os s->I i o->ts[i]? =some t->
  (∀ v s' o',I (i+1) o'->Fm w h0 env B' (O++(it,o')::X) m cm os s'->Val B' v t->(∀ (Q2:Unit->Shared->Prop) (E2:VP),Q2 () s'->wpAny (model pw w) A (letOwnedTupleGo target (.ref it) v) Q2 E2 s')->Q (some v) s')->wpAny (model pw w) A (pyNext (.ref it)) Q E s
 stop:∀ (B':PM) (O X:OL) (m cm:NM) (s:Shared) (it:Addr) (o:Obj) (i:Nat) (σ:Sg) (Q:Option Value->Shared->Prop) (E:VP),B.le B'->C σ->Rl env σ B' O m cm->Fm w h0 env B' (O++(it,o)::X) m cm os s->I i o->ts[i]? =none->
  (∀ s',Fm w h0 env B' (O++X) m cm os s'->Q none s')->wpAny (model pw w) A (pyNext (.ref it)) Q E s
noncomputable def ItX (w:World)(A:Around)(h0:aA8)(env:Env)(os:OsState)(σ:Sg)(iter:Expr)(ts:List T)(C:Sg->Prop)(target:Expr):Prop:=
 ∀ (B:PM) (O:OL) (m cm:NM) (s:Shared) (Q:VP) (E:VP),Fm w h0 env B O m cm os s->Rel env σ B O m cm->
  (∀ it o s' B' I,B.le B'->Fm w h0 env B' ((it,o)::O) m cm os s'->dJ7 w A h0 env os B' ts C target I->I 0 o->Q (.ref it) s')->wpAny (model pw w) A (eval iter env) (λx s1=>wpAny (model pw w) A (pyIter x) Q E s1) E s
structure bM4 (w:World)(h0:aA8)(env:Env)(os:OsState)(B1:PM)(X:OL)(it:Addr)(I:Nat->Obj->Prop)(J:Nat->Sg->Prop)(i:Nat)(s:Shared)(B':PM)(O':OL)(m' cm':NM)(o':Obj)(σ':Sg):Prop where
 J:J i σ'
 l:B1.le B'
 F:Fm w h0 env B' (O'++(it,o')::X) m' cm' os s
 R:Rl env σ' B' O' m' cm'
 I:I i o'
theorem ExE.forX {target iter:Expr}{body:List Stmt}{ts:List T}{C:Sg->Prop}{XX:Value->List T->Sg->Prop}(J:Nat->Sg->Prop)(pos:Pos)(hi:ItX w A h0 env os σ iter ts C target)(h0J:J 0 σ)(hC:∀ i σ1,J i σ1->C σ1)
  (hfs:∀ x,foldedSetIterable iter env x=pure x)
  (hX:∀ cls args σ1 e s1 B1 Z O1 X1 m1 cm1 E1,XX cls args σ1->Fly B1 env.locals cls args e Z->Fm w h0 env B1 (Z++(O1++X1)) m1 cm1 os s1->Rl env σ1 B1 O1 m1 cm1->(∀ s' Z' O',P (.exc cls args) σ1->Fly B1 env.locals cls args e Z'->Fm w h0 env B1 (Z'++(O'++X1)) m1 cm1 os s'->Rl env σ1 B1 O' m1 cm1->E1 (.ref e) s')->notedBy (model pw w) A env (cameBackBy (model pw w) A env E1) (.ref e) s1)
  (turn:∀ i t σ1,ts[i]? =some t->J i σ1->∃ σ2,aF5 w A h0 env os target σ1 t σ2/\ExE w A h0 env os σ2 body (bY6 w A h0 env os (J (i+1)) XX rest P))
  (fin:∀ σ1,J ts.length σ1->ExE w A h0 env os σ1 rest P):ExE w A h0 env os σ (.For target iter body [] pos::rest) P:=λB O X m cm s Q E F R q=>by
 refine wpAny_execs_cons (wpAny_For ?_ hfs)
 refine hi B (O++X) m cm s _ _ F (R.rel X) λit o s1 B1 I l1 F1 S I0=> ?_
 refine codeAny_forLoop_any (λn s=>∃ i B' O' m' cm' o' σ',(n=ts.length - i/\i<=ts.length)/\bM4 w h0 env os B1 X it I J i s B' O' m' cm' o' σ') (λn s hI=> ?_) (ts.length - 0) ⟨0,B1,O,m,cm,o,σ,⟨rfl,Nat.zero_le _⟩,h0J, .refl _,F1.toX,R.mono l1,I0⟩
 refine dG0 hI λi B2 O2 m2 cm2 o2 σ2 hn H=> ?_
 clear hI
 have more:=q.mono (l1.trans H.l)
 cases ht:ts[i]? with
 | none=>
  have hlen:i=ts.length:=by rw [List.getElem?_eq_none_iff] at ht; room
  exact S.stop B2 O2 X m2 cm2 s it o2 i σ2 _ _ H.l (hC i σ2 H.J) H.R H.F H.I ht λs' F'=>wpAny_execs_nil (fin σ2 (hlen ▸ H.J) B2 O2 X m2 cm2 s' Q E F' H.R more)
 | some t=>
  have hlt:i<ts.length:=by
   rw [List.getElem?_eq_some_iff] at ht; exact ht.1
  have nx:∀ (s5:Shared) (B5:PM) (O5:OL) (m5 cm5:NM) (o3:Obj) (σ5:Sg),bM4 w h0 env os B1 X it I J (i+1) s5 B5 O5 m5 cm5 o3 σ5->∃ m,m<n/\∃ i B' O' m' cm' o' σ',(m=ts.length - i/\i<=ts.length)/\bM4 w h0 env os B1 X it I J i s5 B' O' m' cm' o' σ':=λs5 B5 O5 m5 cm5 o3 σ5 L=>
   ⟨ts.length - (i+1),by rw [hn.1]; room,i+1,B5,O5,m5,cm5,o3,σ5,⟨rfl,hlt⟩,L⟩
  refine aA1 (turn i t σ2 ht H.J) λσ3 hb hx=> ?_
  refine S.next B2 O2 X m2 cm2 s it o2 i t σ2 _ _ H.l (hC i σ2 H.J) H.R H.F H.I ht λv s' o3 I3 F3 V3 lo=> ?_
  refine lo _ _ ?_
  refine hb B2 O2 ((it,o3)::X) m2 cm2 s' v (.ref it) _ _ F3 H.R V3 λs4 m4 cm4 F4 R4=> ?_
  refine hx B2 O2 ((it,o3)::X) m4 cm4 s4 _ _ F4 R4 ⟨λfl σ5 f s5 B5 O5 m5 cm5 p r l5 F5 R5=> ?_,λcls args σ5 e s5 B5 Z O5 m5 cm5 p r l5 F5 R5=> ?_⟩
  rotate_left
  ·exact hX cls args σ5 e s5 B5 Z O5 X m5 cm5 E p r ((Fm.drop (a:=it) (o:=o3) (O:=Z++O5) (X:=X) (by rw [List.append_assoc]; exact F5) (h':=s5.heap) (λb o _ e=>e) s5.toks:Fm w h0 env B5 ((Z++O5)++X) m5 cm5 os s5) |> λF=>by rw [<- List.append_assoc]; exact F) R5 λs6 Z' O6 p' fly' F7 R7=>more.out cls args σ5 e s6 B5 Z' O6 m5 cm5 p' fly' l5 F7 R7
  have F6:Fm w h0 env B5 (O5++X) m5 cm5 os s5:=F5.drop (h':=s5.heap) (λb o _ e=>e) s5.toks
  cases r with
  | next=>exact nx s5 B5 O5 m5 cm5 o3 σ5 ⟨p,H.l.trans l5,F5,R5,I3⟩
  | cont=>exact nx s5 B5 O5 m5 cm5 o3 σ5 ⟨p,H.l.trans l5,F5,R5,I3⟩
  | brk=>exact p B5 O5 X m5 cm5 s5 Q E F6 R5 (more.mono l5)
  | ret V=>exact more.go _ _ _ _ _ _ _ _ p (.ret V) l5 F6 R5
theorem ExE.for_ {target iter:Expr}{body:List Stmt}{ts:List T}(J:Nat->Sg->Prop)(pos:Pos)(hi:ItE w A h0 env os σ iter ts)(h0J:J 0 σ)
  (hlo:∀ it v,letOwnedTupleGo target it v=pure ()) (hfs:∀ x,foldedSetIterable iter env x=pure x)
  (turn:∀ i t σ1,ts[i]? =some t->J i σ1->∃ σ2,aF5 w A h0 env os target σ1 t σ2/\ExE w A h0 env os σ2 body (bB7 w A h0 env os (J (i+1)) rest P))
  (fin:∀ σ1,J ts.length σ1->ExE w A h0 env os σ1 rest P):ExE w A h0 env os σ (.For target iter body [] pos::rest) P:=
 ExE.forX (C:=λ_=>True) J pos (λB O m cm s Q E F R q=>hi B O m cm s Q E F R λit o s' B' I l F' S I0=>q it o s' B' I l F'
  ⟨λB2 O X m cm s it o i t σ Q E l C R F I ht q=>S.next B2 O X m cm s it o i t Q E l F I ht λv s' o' i f V=>q v s' o' i f V λQ2 E2 h=>wpAny_of_eq (hlo _ _) h,λB2 O X m cm s it o i σ Q E l C R F I ht q=>S.stop B2 O X m cm s it o i Q E l F I ht q⟩ I0)
  h0J (λ_ _ _=>trivial) hfs (λ_ _ _ _ _ _ _ _ _ _ _ _ p=>p.elim) turn fin
end
section
variable {w:World}{A:Around}{h0:aA8}{env:Env}{os:OsState}{σ:Sg}{P:FP}{rest:List Stmt}{B:PM}{O X:OL}{m cm:NM}{s:Shared}
noncomputable def aB3 (a:Int)(n:Nat):List T:=(List.range n).map λi:Nat=>T.int (a+(i:Int))
theorem aD8 (a:Int)(n i:Nat):(aB3 a n)[i]? =if i<n then some (.int (a+i)) else none:=by
 unfold aB3
 rw [List.getElem?_map]
 by_cases h:i<n
 ·rw [List.getElem?_range h,if_pos h]; rfl
 ·rw [List.getElem?_eq_none (by simpa using h),if_neg h]; rfl
theorem aT1 (hA:A.handled=none)(a:Int)(n:Nat):Src w A h0 env os B (aB3 a n) (λi o=>i<=n/\o={ cls:= .type "range_iterator",dict:=none,data:= .fields #[rawInt (a+i),rawInt ((n:Int) - i),rawInt 1],slots:= #[] }):=by
 refine ⟨λB' O X m cm s it o i t Q E l F I ht q=> ?_,λB' O X m cm s it o i Q E l F I ht q=> ?_⟩
 ·rw [aD8] at ht
  split at ht
  ·rename_i hlt
   cases ht
   refine aB I λ_ z1z=> ?_
   try clear I
   subst z1z
   refine wpAny_pyNext_range_item (F.opn _ (List.mem_append.mpr (.inr (.head _)))) (by room) λh' it' hs=> ?_
   exact q _ _ _ ⟨by room,by rw [show a+((i+1:Nat):Int)=a+i+1 by room,show (n:Int) - ((i+1:Nat):Int)=(n:Int) - i - 1 by room]⟩ (aF7 F it' hs _) (.int _ _)
  ·cases ht
 ·rw [aD8] at ht
  split at ht
  ·cases ht
  ·refine aB I λ_ z1z=> ?_
   try clear I
   subst z1z
   exact wpAny_pyNext_range_end hA (F.opn _ (List.mem_append.mpr (.inr (.head _)))) (by room) λh' hs=>q _ (F.drop hs s.toks)
theorem ItE.range1 {e:Expr}{n:Int}{k1:Bool}(np pos:Pos)(W:Own env)(hA:A.handled=none)(hk:env.kindOf (u "range")=some .globalImplicit)(hm:mgm w.params (u "range")=none)(hv:mbm w.params (u "range")=some (.type "range"))
  (hs:backTo pos (starEach [e] env)=[(false,eval e env)]) (he:EvE w A h0 env os k1 σ e (.int n)) (hsm:Builtin.Range.small 0 n 1=true):ItE w A h0 env os σ (.Call (.Name (u "range") np) [e] [] pos) (aB3 0 n.toNat):=λB O m cm s Q E F R q=>
 wpAny_Call_NameR (aJ0 W F hk hm hv (by
  rw [hs]
  refine PySem.callWith_type rfl (Calls.evalArgs_plain (Calls.spliced_cons (he B O m cm s _ E F R λva s1 B1 l1 F1 V1=>Calls.spliced_nil ?_)))
  refine aA3 V1.int λtk z1z=> ?_
  subst z1z
  refine call_range_1 ?_
  have F2:=F1.push (o:={ cls:= .type "range",data:= .fields #[.int 0 s1.toks, .int n tk, .int 1 (s1.toks+1)] }) rfl (s1.toks+1+1)
  have l2:=PM.le_put ({ cls:= .type "range",data:= .fields #[.int 0 s1.toks, .int n tk, .int 1 (s1.toks+1)] }:Obj) F1.none_of_fresh
  refine wpAny_pyIter_range (F2.sub _ _ (PM.put_self ..)) hsm ?_
  refine q _ _ _ _ _ (l1.trans l2) (F2.pushO rfl _) (aT1 hA 0 n.toNat) ⟨Nat.zero_le _, ?_⟩
  rw [rangeSize_one]
  have:(if (0:Int)<n then n - 0 else 0)=(n.toNat:Int):=by split<;>room
  rw [this]; rfl) (by decide))
theorem ItE.range2 {e e':Expr}{a b:Int}(np pos:Pos)(W:Own env)(hA:A.handled=none)(hk:env.kindOf (u "range")=some .globalImplicit)(hm:mgm w.params (u "range")=none)(hv:mbm w.params (u "range")=some (.type "range"))
  (hs:backTo pos (starEach [e,e'] env)=[(false,eval e env),(false,eval e' env)]) (he:EvE w A h0 env os true σ e (.int a)) (he':EvE w A h0 env os true σ e' (.int b)) (hsm:Builtin.Range.small a b 1=true):ItE w A h0 env os σ (.Call (.Name (u "range") np) [e,e'] [] pos) (aB3 a (b - a).toNat):=λB O m cm s Q E F R q=>
 wpAny_Call_NameR (aJ0 W F hk hm hv (by
  rw [hs]
  refine PySem.callWith_type rfl (Calls.evalArgs_plain (Calls.spliced_cons (he B O m cm s _ E F R λva s1 B1 l1 F1 V1=>Calls.spliced_cons (he' B1 O m cm s1 _ E F1 (R.mono l1) λvb s2 B2 l2 F2 V2=>Calls.spliced_nil ?_))))
  refine aA3 (VR.int V1) λtk z1z=> ?_
  subst z1z
  refine aA3 (VR.int V2) λtk' z1z=> ?_
  subst z1z
  refine call_range_2 ?_
  have F3:=F2.push (o:={ cls:= .type "range",data:= .fields #[.int a tk, .int b tk', .int 1 s2.toks] }) rfl (s2.toks+1)
  have l3:=PM.le_put ({ cls:= .type "range",data:= .fields #[.int a tk, .int b tk', .int 1 s2.toks] }:Obj) F2.none_of_fresh
  refine wpAny_pyIter_range (F3.sub _ _ (PM.put_self ..)) hsm ?_
  refine q _ _ _ _ _ ((l1.trans l2).trans l3) (F3.pushO rfl _) (aT1 hA a (b - a).toNat) ⟨Nat.zero_le _, ?_⟩
  rw [rangeSize_one]
  have:(if a<b then b - a else 0)=((b - a).toNat:Int):=by split<;>room
  rw [this]
  simp [rawInt]) (by decide))
noncomputable def TsH (w:World)(A:Around)(h0:aA8)(env:Env)(os:OsState)(σ:Sg)(e:Expr)(P:Bool->Sg->Prop):Prop:=
 ∀ (B:PM) (O X:OL) (m cm:NM) (s:Shared) (Q:Bool->Shared->Prop) (E:VP),Fm w h0 env B (O++X) m cm os s->Rl env σ B O m cm->
  (∀ b σ' s' B' O' m' cm',P b σ'->B.le B'->Fm w h0 env B' (O'++X) m' cm' os s'->Rl env σ' B' O' m' cm'->Q b s')->wpAny (model pw w) A (isTrue e env (eval e env)) Q E s
theorem TsH.mono {e:Expr}{P P':Bool->Sg->Prop}(h:TsH w A h0 env os σ e P)(i:∀ b σ',P b σ'->P' b σ'):TsH w A h0 env os σ e P':=λB O X m cm s Q E F R q=>h B O X m cm s Q E F R λb σ' s' B' O' m' cm' p=>q b σ' s' B' O' m' cm' (i b σ' p)
theorem TsE.toH {e:Expr}{b:Bool}{P:Bool->Sg->Prop}(h:TsE w A h0 env os σ e b)(p:P b σ):TsH w A h0 env os σ e P:=λB O X m cm s Q E F R q=>h B (O++X) m cm s Q E F (R.rel X) λs' B' l F'=>q b σ s' B' O m cm p l F' (R.mono l)
theorem ExE.whileX {test:Expr}{body orelse:List Stmt}(J:Nat->Sg->Prop)(n:Nat)(pos:Pos)(h0J:J n σ)
  (turn:∀ i σ1,J i σ1->TsH w A h0 env os σ1 test (λb σ2=>if b then ExE w A h0 env os σ2 body (bB7 w A h0 env os (λσ3=>∃ j,j<i/\J j σ3) rest P) else ExE w A h0 env os σ2 orelse (bY5 w A h0 env os rest P))):ExE w A h0 env os σ (.While test body orelse pos::rest) P:=λB O X m cm s Q E F R q=>by
 refine wpAny_execs_cons (wpAny_While ?_)
 refine codeAny_whileLoop (λn s=>∃ B' O' m' cm' σ',J n σ'/\B.le B'/\Fm w h0 env B' (O'++X) m' cm' os s/\Rl env σ' B' O' m' cm') (λi s hI=> ?_) n ⟨B,O,m,cm,σ,h0J, .refl _,F,R⟩
 refine dG1 hI λB2 O2 m2 cm2 σ2 hJ l2 F2 R2=> ?_
 clear hI
 refine turn i σ2 hJ B2 O2 X m2 cm2 s _ _ F2 R2 λb σ3 s3 B3 O3 m3 cm3 hb l3 F3 R3=> ?_
 have more:=q.mono (l2.trans l3)
 cases b with
 | true=>
  rw [if_pos rfl] at hb ⊢
  refine hb B3 O3 X m3 cm3 s3 _ _ F3 R3 ⟨λfl σ5 f s5 B5 O5 m5 cm5 p r l5 F5 R5=> ?_,λcls args σ5 e s5 B5 Z O5 m5 cm5 p=>p.elim⟩
  have nx:∀ {p:∃ j,j<i/\J j σ5},∃ m,m<i/\∃ B' O' m' cm' σ',J m σ'/\B.le B'/\Fm w h0 env B' (O'++X) m' cm' os s5/\Rl env σ' B' O' m' cm':=λ{p}=>aA1 p λj hj p=>⟨j,hj,B5,O5,m5,cm5,σ5,p,(l2.trans l3).trans l5,F5,R5⟩
  cases r with
  | next=>exact nx (p:=p)
  | cont=>exact nx (p:=p)
  | brk=>exact p B5 O5 X m5 cm5 s5 Q E F5 R5 (more.mono l5)
  | ret V=>exact more.go _ _ _ _ _ _ _ _ p (.ret V) l5 F5 R5
 | false=>
  rw [if_neg Bool.false_ne_true] at hb ⊢
  refine hb B3 O3 X m3 cm3 s3 _ _ F3 R3 ⟨λfl σ5 f s5 B5 O5 m5 cm5 p r l5 F5 R5=> ?_,λcls args σ5 e s5 B5 Z O5 m5 cm5 p=>p.elim⟩
  cases r with
  | next=>exact p B5 O5 X m5 cm5 s5 Q E F5 R5 (more.mono l5)
  | cont=>exact more.go _ _ _ _ _ _ _ _ p .cont l5 F5 R5
  | brk=>exact more.go _ _ _ _ _ _ _ _ p .brk l5 F5 R5
  | ret V=>exact more.go _ _ _ _ _ _ _ _ p (.ret V) l5 F5 R5
theorem ExE.while_ {test:Expr}{body:List Stmt}(J:Nat->Sg->Prop)(n:Nat)(pos:Pos)(h0J:J n σ)
  (turn:∀ i σ1,J i σ1->∃ b,TsE w A h0 env os σ1 test b/\(b=true->ExE w A h0 env os σ1 body (bB7 w A h0 env os (λσ3=>∃ j,j<i/\J j σ3) rest P))/\
   (b=false->ExE w A h0 env os σ1 rest P)):ExE w A h0 env os σ (.While test body [] pos::rest) P:=
 ExE.whileX J n pos h0J λi σ1 hJ=>aC8 (turn i σ1 hJ) λb ht hb hf=>ht.toH (by
  cases b with
  | true=>exact hb rfl
  | false=>exact ExE.nil (hf rfl))
theorem Rl.own {x:Str}{a:Addr}{o:Obj}{vs:List Value}{ts:List T}(R:Rl env σ B O m cm)(hk:env.kindOf x=some .local)(hx:∀ p∈σ.ow,p.1≠x)(io:isO o vs)(V:aA6 B vs ts):Rl env (σ.own x ts) B ((a,o)::O) (λz=>if z=x then some (.ref a) else m z) cm:=by
 refine aB0 R.ow λO1 Y e r p=> ?_
 refine ⟨λy u h=> ?_,(a,o)::O1,Y,by rw [e]; rfl, .cons ?_ io V (r.names λp hp=>aM8 (hx p hp)),p⟩
 ·unfold Sg.own at h
  dsimp only at h
  by_cases q:y=x
  ·rw [if_pos q] at h; cases h
  ·rw [if_neg q] at h; rw [aM8 q]; exact R.fz y u h
 ·unfold aB7; rw [hk]; exact if_pos rfl
theorem ExE.newList {x:Str}{es:List Expr}{ts:List T}(p pl pos:Pos)(W:Own env)(he:aC4 w A h0 env os σ es ts)(hs:backTo pl (starEach es env)=es.map λe=>(false,eval e env))(hz:ts.length<=sizeLine)(hk:env.kindOf x=some .local)(hx:∀ p∈σ.ow,p.1≠x)
  (h:ExE w A h0 env os (σ.own x ts) rest P):ExE w A h0 env os σ (.Assign [.Name x p] (.List es pl) pos::rest) P:=λB O X m cm s Q E F R q=>
 wpAny_execs_cons (wpAny_Assign_Name (wpAny_List (by
  rw [hs]
  refine aE4 he B (O++X) m cm s _ E F (R.rel X) λvs s1 B1 l1 F1 V=>⟨by rw [V.length]; exact hz, ?_⟩
  have F2:=F1.pushO (o:={ cls:= .type "list",data:= .seq vs.toArray }) rfl s1.toks
  refine wpAny_storeName_local hk F2.ns (λh' hn hsb=> ?_) (by rw [W.kind]; rfl)
  exact h B1 ((s1.heap.objs.size,_)::O) X _ cm _ Q E (F2.setLocal hn hsb _) ((R.mono l1).own hk hx ⟨_,rfl⟩ V) (q.mono l1))) rfl)
end
section
variable {w:World}{A:Around}{h0:aA8}{env:Env}{os:OsState}{σ:Sg}{P:FP}{rest:List Stmt}{B:PM}{O X:OL}{m cm:NM}{s:Shared}
noncomputable def aM9 (x:Str)(ts:List T):List (Str×List T)->List (Str×List T)
 | []=>[]
 | (y,us)::l=>if y=x then (x,ts)::l else (y,us)::aM9 x ts l
noncomputable def rem (x:Str):List (Str×List T)->List (Str×List T)
 | []=>[]
 | (y,us)::l=>if y=x then l else (y,us)::rem x l
noncomputable def Sg.grow (σ:Sg)(x:Str)(ts:List T):Sg:=⟨σ.fz,aM9 x ts σ.ow,σ.hp⟩
noncomputable def Sg.still (σ:Sg)(x:Str)(ts:List T):Sg:=⟨λy=>if y=x then some (.list ts) else σ.fz y,rem x σ.ow,σ.hp⟩
theorem aJ7.turn {x:Str}{ts:List T}{ow:List (Str×List T)}{O:OL}(hO:aJ7 env B m cm ow O):ow.lookup x=some ts->∃ O1 a o O2 vs,O=O1++(a,o)::O2/\aB7 env m cm x=some (.ref a)/\isO o vs/\aA6 B vs ts/\
  (∀ o' vs' ts',isO o' vs'->aA6 B vs' ts'->aJ7 env B m cm (aM9 x ts' ow) (O1++(a,o')::O2))/\aJ7 env B m cm (rem x ow) (O1++O2):=by
 induction hO with
 | nil=>exact λh=>by cases h
 | @cons y us a o vs l O hl i v r ih=>
  intro h
  rw [List.lookup_cons] at h
  by_cases q:y=x
  ·rw [q,beq_self_eq_true] at h
   cases h
   refine ⟨[],a,o,O,vs,rfl,q ▸ hl,i,v,λo' vs' ts' i' v'=> ?_, ?_⟩
   ·rw [aM9.eq_2,if_pos q]; exact .cons (q ▸ hl) i' v' r
   ·rw [rem.eq_2,if_pos q]; exact r
  ·rw [beq_eq_false_iff_ne.mpr (Ne.symm q)] at h
   refine bG7 (ih h) λO1 a' o' O2 vs' e b1 b2 b3 b4 b5=> ?_
   refine ⟨(a,o)::O1,a',o',O2,vs',congrArg (_:: ·) e,b1,b2,b3,λo'' vs'' ts'' i' v'=> ?_, ?_⟩
   ·rw [aM9.eq_2,if_neg q]; exact .cons hl i v (b4 o'' vs'' ts'' i' v')
   ·rw [rem.eq_2,if_neg q]; exact .cons hl i v b5
theorem aQ9 {a:Addr}{o o':Obj}:∀ {O1 O1' O2 O2':OL},((O1++(a,o)::O2).map (·.1)).Nodup->O1++(a,o)::O2=O1'++(a,o')::O2'->O1=O1'/\O2=O2'
 | [],[],O2,O2',_,e=>by
  simp only [List.nil_append,List.cons.injEq] at e
  exact ⟨rfl,e.2⟩
 | [],p::O1',O2,O2',d,e=>by
  exfalso
  simp only [List.nil_append,List.cons_append,List.cons.injEq] at e
  rw [List.nil_append,List.map_cons,List.nodup_cons] at d
  exact d.1 (List.mem_map.mpr ⟨(a,o'),by rw [e.2]; exact List.mem_append.mpr (.inr (.head _)),rfl⟩)
 | p::O1,[],O2,O2',d,e=>by
  exfalso
  simp only [List.nil_append,List.cons_append,List.cons.injEq] at e
  rw [List.cons_append,List.map_cons,List.nodup_cons] at d
  refine d.1 (List.mem_map.mpr ⟨(a,o),List.mem_append.mpr (.inr (.head _)), ?_⟩)
  rw [e.1]
 | p::O1,p'::O1',O2,O2',d,e=>by
  simp only [List.cons_append,List.cons.injEq] at e
  rw [List.cons_append,List.map_cons,List.nodup_cons] at d
  refine aB (aQ9 d.2 e.2) λr1 r2=> ?_
  exact ⟨by rw [e.1,r1],r2⟩
theorem ExE.append {x:Str}{e:Expr}{ts:List T}{t:T}(p1 pa pc pos:Pos)(W:Own env)(hx:σ.ow.lookup x=some ts)(hc:env.kindOf x=some .local\/(env.cells.lookup x).isSome=true)(hd:(x == ("__debug__" :Str))=false)(hcd:(x == ("__classdict__" :Str))=false)
  (he:EvE w A h0 env os true σ e t) (hz:ts.length<=sizeLine)
  (ha:attributeBase (.Name x p1) (u "append") env (eval (.Name x p1) env)=eval (.Name x p1) env)
  (hs:(((List.all (backTo pc (starEach [e] env)) λx=> !x.fst) && List.all (backToKw pc (keywordEach [] env)) λx=>Option.isSome x.fst) && decide ((List.length [e]+List.length ([]:List Keyword)+if List.isEmpty ([]:List Keyword)=true then 0 else 1)<30))=true)
  (hl:(pa.endLine == pc.line)=true) (hb:backTo pc (starEach [e] env)=[(false,eval e env)]) (hi:interactive env=false) (hsw:swapsWith (.Call (.Attribute (.Name x p1) (u "append") pa) [e] [] pc) none pos.line env=pure false)
  (h:ExE w A h0 env os (σ.grow x (ts++[t])) rest P):ExE w A h0 env os σ (.Expr (.Call (.Attribute (.Name x p1) (u "append") pa) [e] [] pc) pos::rest) P:=λB O X m cm s Q E F R q=>by
 refine wpAny_execs_cons (wpAny_Expr_any (wpAny_Call_append ha hs hl hb ?_) hi hsw)
 refine aB0 R.ow λOO Y z1z rr hh=> ?_
 subst z1z
 refine bG7 (rr.turn hx) λO1 a o O2 vs z1z hlk io V up _=> ?_
 subst z1z
 have hmem:(a,o)∈((O1++(a,o)::O2)++Y)++X:=List.mem_append.mpr (.inl (List.mem_append.mpr (.inl (List.mem_append.mpr (.inr (.head _))))))
 refine wpAny_Name (aI F W.kind hlk hc hcd ?_) hd
 refine aA3 io λn z1z=> ?_
 try clear io
 subst z1z
 refine ⟨a,vs.toArray,rfl,⟨_,n,F.opn _ hmem,rfl,rfl,rfl⟩, ?_⟩
 refine he B _ m cm s _ E F (R.rel X) λv s1 B1 l1 F1 Vt=> ?_
 refine wpAny_list_append_plain ⟨n,F1.opn _ hmem⟩ (λh' hP hS=> ?_) (by rw [List.size_toArray,V.length]; exact hz)
 refine aA3 hP λn' hP=> ?_
 have e:vs.toArray.push v=(vs++[v]).toArray:=by simp
 rw [e] at hP
 have F2:Fm w h0 env B1 ((O1++(a,({ cls:= .type "list",data:= .seq (vs++[v]).toArray n' }:Obj))::O2)++Y++X) m cm os { s1 with heap:=h' }:=by
  have F1':Fm w h0 env B1 (O1++(a,({ cls:= .type "list",data:= .seq vs.toArray n }:Obj))::(O2++(Y++X))) m cm os s1:=by simpa using F1
  have:=Fm.turn F1' hP hS s1.toks
  simpa using this
 have R2:Rl env (σ.grow x (ts++[t])) B1 (O1++(a,({ cls:= .type "list",data:= .seq (vs++[v]).toArray n' }:Obj))::O2++Y) m cm:=by
  refine ⟨(R.mono l1).fz,_,Y,rfl, ?_,hh.mono l1⟩
  refine bG7 ((rr.mono l1).turn hx) λO1' a' o' O2' vs' e1 e2 io' V' up' _=> ?_
  rw [hlk] at e2
  cases e2
  have hnod:=F1.nod
  have key:O1=O1'/\O2=O2':=by
   have d:((O1++(a,({ cls:= .type "list",data:= .seq vs.toArray n }:Obj))::O2).map (·.1)).Nodup:=by
    have:=F1.nod
    rw [List.map_append,List.map_append] at this
    exact (List.nodup_append.mp (List.nodup_append.mp this).1).1
   exact aQ9 d e1
  rw [key.1,key.2]
  exact up' _ _ _ ⟨n',rfl⟩ ((V.mono l1).append (.cons Vt .nil))
 exact h B1 _ X m cm _ Q E F2 R2 (q.mono l1)
end
section
variable {w:World}{A:Around}{h0:aA8}{env:Env}{os:OsState}{σ:Sg}{P:FP}{rest:List Stmt}{B:PM}{O X:OL}{m cm:NM}{s:Shared}
theorem aA6.ints {ns:List Int}:∀ {vs:List Value},aA6 B vs (ns.map T.int)->IntsAre vs ns:=by
 induction ns with
 | nil=>intro vs h; rw [show vs=[] from h.inv]; exact .nil
 | cons n ns ih=>
  intro vs h
  refine aB0 h.inv λv r e h1 h2=> ?_
  refine aA3 h1.inv λk e'=> ?_
  rw [e,e']; exact .cons n k (ih h2)
theorem cR4 (k1 k2:Bool)(a:Int)(ns:List Int):aF2 w A h0 env os .In k1 k2 (.int a) (.list (ns.map T.int)) (ns.any (· == a)):=λB O m cm s va vb Q E F V1 V2 q=>by
 refine aA3 V1.int λ_ z1z=> ?_
 subst z1z
 refine aB0 (VR.list F V2) λy us z1z i2 W2=> ?_
 subst z1z
 exact in_list_ints i2 W2.ints (q _ B (.refl B) F)
theorem bB8 (k1 k2:Bool)(a:Int)(ns:List Int):aF2 w A h0 env os .NotIn k1 k2 (.int a) (.list (ns.map T.int)) (!(ns.any (· == a))):=λB O m cm s va vb Q E F V1 V2 q=>by
 refine aA3 V1.int λ_ z1z=> ?_
 subst z1z
 refine aB0 (VR.list F V2) λy us z1z i2 W2=> ?_
 subst z1z
 exact notin_list_ints i2 W2.ints (q _ B (.refl B) F)
theorem ExE.still {ss:List Stmt}{x:Str}{ts:List T}(hx:σ.ow.lookup x=some ts)(h:ExE w A h0 env os (σ.still x ts) ss P):ExE w A h0 env os σ ss P:=λB O X m cm s Q E F R q=>by
 refine aB0 R.ow λOO Y z1z rr hh=> ?_
 subst z1z
 refine bG7 (rr.turn hx) λO1 a o O2 vs z1z hlk io V _ re=> ?_
 subst z1z
 have F1:Fm w h0 env B (O1++(a,o)::(O2++(Y++X))) m cm os s:=by simpa using F
 have hn:B a=none:=(F1.offO (a,o) (List.mem_append.mpr (.inr (.head _)))).1
 have F2:Fm w h0 env (B.put a o) ((O1++O2)++Y++X) m cm os s:=by
  have:=F1.freeze
  simpa using this
 have l:=PM.le_put o hn
 have R2:Rl env (σ.still x ts) (B.put a o) (O1++O2++Y) m cm:=by
  refine ⟨λy t h=> ?_,_,Y,rfl,re.mono l,hh.mono l⟩
  unfold Sg.still at h
  dsimp only at h
  by_cases e:y=x
  ·subst e
   rw [if_pos rfl] at h
   cases h
   exact ⟨_,hlk, .list (PM.put_self ..) io.isL (by obtain ⟨n,rfl⟩:=io; rfl) (V.mono l)⟩
  ·rw [if_neg e] at h
   refine aA1 (R.fz y t h) λv a1 a2=> ?_
   exact ⟨v,a1,a2.mono l⟩
 exact h (B.put a o) (O1++O2++Y) X m cm s Q E F2 R2 (q.mono l)
end
noncomputable def aG (gs:List Int):Nat->List Int->Int->List Int×Int
 | 0,row,at_=>(row,at_)
 | n+1,row,at_=>if at_ != 7 && !(row.any (· == at_)) then aG gs n (row++[at_]) (gs.getD at_.toNat 0) else (row,at_)
section
variable {w:World}{A:Around}{h0:aA8}{env:Env}{os:OsState}{k:Bool}{σ:Sg}
theorem EvE.nm {x:Str}{t:T}{pos:Pos}(W:Own env)(ht:σ.fz x=some t:=by lk)(hc:env.kindOf x=some .local:=by lk)(hd:(x == ("__debug__" :Str))=false:=by lk)(hcd:(x == ("__classdict__" :Str))=false:=by lk):EvE w A h0 env os k σ (.Name x pos) t:=
 EvE.name pos W.kind ht (.inl hc) hd hcd
theorem EvE.ow {x:Str}{ts:List T}{pos:Pos}(W:Own env)(ht:σ.ow.lookup x=some ts:=by lk)(hc:env.kindOf x=some .local:=by lk)(hd:(x == ("__debug__" :Str))=false:=by lk)(hcd:(x == ("__classdict__" :Str))=false:=by lk):EvE w A h0 env os false σ (.Name x pos) (.list ts):=
 EvE.own pos W.kind ht (.inl hc) hd hcd
theorem EvE.lenN {e:Expr}{ts:List T}{k1:Bool}{np pos:Pos}(W:Own env)(he:EvE w A h0 env os k1 σ e (.list ts))(hz:(ts.length:Int)<2 ^ 63)(hk:env.kindOf (u "len")=some .globalImplicit:=by lk)(hm:mgm w.params (u "len")=none:=by lk)(hv:mbm w.params (u "len")=some (.builtin "len"):=by lk)(hs:backTo pos (starEach [e] env)=[(false,eval e env)]:=by lk):EvE w A h0 env os k σ (.Call (.Name (u "len") np) [e] [] pos) (.int ts.length):=
 EvE.len np pos W hk hm hv (by decide) hs he hz
end
noncomputable def dflt:List Int:=[4,0,10,28,5,47,51,1,32,14,31,2]
noncomputable def aD2 (ns:List Int):List Int:=ns.take 12++dflt.drop (ns.take 12).length
theorem bY7 (w:World)(os:OsState)(ns:List Int)(hn:ns.length<=63):FnE w os 0 246 [.list (ns.map T.int)] (.list ((aD2 ns).map T.int)):=by
 refine aB9 (o:=bM1) (fd:=aA2 bM1) (body:=aB1 (aA0 21)) (c:=245) (oc:=cP) [u "script"] (by lk) rfl rfl (by lk) rfl rfl rfl
  (al1 λ_=>by lk) rfl (by decide) (by lk) (by lk) rfl rfl rfl rfl λA h0 L RA=> ?_
 have W:Own (callEnv (aA2 bM1) L 246):=⟨rfl,rfl,rfl⟩
 have hz:sizeLine=16777216:=by decide
 have e1:(T.list ((ns.map T.int).take 12))=T.list ((ns.take 12).map T.int):=by rw [List.map_take]
 refine ExE.assign _ _ W (t:= .list ((ns.map T.int).take (12:Int).toNat)) (EvE.upto _ _ (k1:=true) (k2:=true) (i:=12) (EvE.nm W) (EvE.int _ _ _) (by decide) (by rw [List.length_map]; room)) (by lk) (λp hp=>absurd hp List.not_mem_nil) (by lk) ?_
 refine ExE.ret _ (t:= .list ((ns.map T.int).take 12++((dflt.map T.int).drop (((ns.map T.int).take 12).length:Int).toNat))) ?_ ?_
 ·refine EvE.addL _ (k1:=true) (k2:=true) ?_ ?_ ?_
  ·exact EvE.nm W
  ·refine EvE.from_ _ _ (k1:=true) (k2:=true) (i:=(((ns.map T.int).take 12).length:Int)) (ts:=dflt.map T.int) ?_ ?_ ?_ ?_
   ·refine EvE.listD _ ?_ ?_ ?_
    ·repeat (refine aC4.cons (EvE.int _ _ _) ?_)
     exact aC4.nil
    ·lk
    ·decide
   ·exact EvE.lenN W (k1:=true) (EvE.nm W) (by simp; room)
   ·room
   ·decide
  ·simp [dflt]; room
 ·unfold aD2
  congr 2
  simp [List.map_drop,List.map_take,List.map_append]
noncomputable def bE8 (d:Int)(l:List Int)(k:Nat):List Int:=l.take ((d.fdiv 8).fmod (k+1)).toNat++[(k:Int)]++l.drop ((d.fdiv 8).fmod (k+1)).toNat
noncomputable def aC7 (ds:List Int):Nat->List Int
 | 0=>[]
 | n+1=>bE8 (ds.getD n 0) (aC7 ds n) n
theorem bP7 {α:Type}(p:Nat)(x:α)(l:List α):(l.take p++[x]++l.drop p).length=l.length+1:=by
 have:=congrArg List.length (List.take_append_drop p l)
 simp only [List.length_append,List.length_cons,List.length_nil] at this ⊢
 omega
theorem bY8 {α:Type}{l:List α}(h:l.length<=60)(p:Nat)(x:α):(l.take p).length+1<=sizeLine/\(l.take p++[x]++l.drop p).length<=sizeLine:=
 ⟨Nat.le_trans (Nat.succ_le_succ (Nat.le_trans (by rw [List.length_take]; exact Nat.min_le_right _ _) h)) (by decide),by rw [bP7]; exact Nat.le_trans (Nat.succ_le_succ h) (by decide)⟩
theorem aP2 (ds:List Int)(n:Nat):(aC7 ds n).length=n:=by
 induction n with
 | zero=>rfl
 | succ n ih=>exact (bP7 _ _ _).trans (congrArg (· +1) ih)
theorem bY9 (w:World)(os:OsState)(ds:List Int)(hn:ds.length=7):FnE w os 0 253 [.list (ds.map T.int)] (.list ((aC7 ds 7).map T.int)):=by
 refine aB9 (o:=bH2) (fd:=aA2 bH2) (body:=aB1 (aA0 22)) (c:=252) (oc:=cP0) [u "draws"] (by lk) rfl rfl (by lk) rfl rfl rfl
  (al1 λ_=>by lk) rfl (by decide) (by lk) (by lk) rfl rfl rfl rfl λA h0 L RA=> ?_
 have W:Own (callEnv (aA2 bH2) L 253):=⟨rfl,rfl,rfl⟩
 have hz:sizeLine=16777216:=by decide
 have hA:(A.deeper (callEnv (aA2 bH2) L 253)).handled=none:=RA.handled
 refine ExE.assign _ _ W (t:= .list []) ?_ ?_ ?_ ?_ ?_
 ·exact EvE.listD _ .nil (by lk) (by decide)
 ·lk
 ·exact λp hp=>absurd hp List.not_mem_nil
 ·lk
 refine ExE.for_ (ts:=aB3 0 7) (J:=λi σ=>σ.fz (u "order")=some (.list ((aC7 ds i).map T.int))/\σ.fz (u "draws")=some (.list (ds.map T.int))/\σ.ow=[]) _ ?_ ?_ ?_ ?_ ?_ ?_
 ·exact ItE.range1 (n:=7) (k1:=true) _ _ W hA (by lk) (by lk) (by lk) (by lk) (EvE.int _ _ _) (by decide)
 ·exact ⟨by lk,by lk,rfl⟩
 ·exact λit v=>rfl
 ·exact λx=>rfl
 ·intro i t σ1 ht w1w
  refine aC5 w1w λj1 j2 j3=> ?_
  try clear w1w
  rw [aD8] at ht
  by_cases hi:i<7
  ·rw [if_pos hi] at ht
   cases ht
   refine ⟨_,aF5.name _ W (by lk) (by rw [j3]; exact λp hp=>absurd hp List.not_mem_nil), ?_⟩
   have hd:(ds.map T.int)[(0+(i:Int)).toNat]? =some (.int (ds.getD i 0)):=by
    have e:(0+(i:Int)).toNat=i:=by omega
    rw [e,List.getElem?_map,List.getElem?_eq_getElem (by omega:i<ds.length),List.getD_eq_getElem?_getD,List.getElem?_eq_getElem (by omega:i<ds.length)]
    rfl
   have p0:0<=((ds.getD i 0).fdiv 8).fmod (0+(i:Int)+1):=Int.fmod_nonneg_of_pos _ (by omega)
   have hp:0+(i:Int)+1=i+1:=by omega
   have hlen:=aP2 ds i
   refine ExE.assign _ _ W (t:= .int (((ds.getD i 0).fdiv 8).fmod (0+(i:Int)+1))) ?_ ?_ ?_ ?_ ?_
   ·refine EvE.mod _ hA (k1:=true) (k2:=true) ?_ ?_ ?_
    ·refine EvE.fdiv _ (k1:=true) (k2:=true) ?_ (EvE.int _ _ _) ?_ ?_
     ·refine EvE.idx _ (k1:=true) (k2:=true) (ts:=ds.map T.int) (i:=0+(i:Int)) ?_ ?_ ?_ ?_ hd ?_
      ·exact EvE.nm W ((by lk:_=σ1.fz (u "draws")).trans j2)
      ·exact EvE.nm W
      ·omega
      ·omega
      ·exact λo j u=>by lk
     ·decide
     ·exact (show Builtin.divisionGoesByPylong _ 8=false by unfold Builtin.divisionGoesByPylong; rfl)
    ·exact EvE.add _ (k1:=true) (k2:=true) (EvE.nm W) (EvE.int _ _ _)
    ·omega
   ·lk
   ·show ∀ p∈σ1.ow,_
    rw [j3]; exact λp hp=>absurd hp List.not_mem_nil
   ·lk
   have hlm:((aC7 ds i).map T.int).length<=sizeLine/\((aC7 ds i).map T.int).length<=60:=by rw [List.length_map,hlen]; exact ⟨by omega,by omega⟩
   generalize hpp:((ds.getD i 0).fdiv 8).fmod (0+(i:Int)+1)=pl at p0 ⊢
   refine ExE.assign _ _ W (t:= .list (((aC7 ds i).map T.int).take pl.toNat++[.int (0+(i:Int))]++((aC7 ds i).map T.int).drop pl.toNat)) ?_ ?_ ?_ ?_ ?_
   ·refine EvE.addL _ (k1:=true) (k2:=true) ?_ ?_ ?_
    ·refine EvE.addL _ (k1:=true) (k2:=true) ?_ ?_ ?_
     ·refine EvE.upto _ _ (k1:=true) (k2:=true) ?_ ?_ p0 ?_
      ·exact EvE.nm W ((by lk:_=σ1.fz (u "order")).trans j1)
      ·exact EvE.nm W
      ·exact hlm.1
     ·refine EvE.listD _ ?_ ?_ ?_
      ·exact .cons (EvE.nm W) .nil
      ·lk
      ·exact (by decide:1<=sizeLine)
     ·exact (bY8 hlm.2 pl.toNat (T.int (0+(i:Int)))).1
    ·refine EvE.from_ _ _ (k1:=true) (k2:=true) ?_ ?_ p0 ?_
     ·exact EvE.nm W ((by lk:_=σ1.fz (u "order")).trans j1)
     ·exact EvE.nm W
     ·exact hlm.1
    ·rw [<- List.length_append]; exact (bY8 hlm.2 pl.toNat (T.int (0+(i:Int)))).2
   ·lk
   ·show ∀ p∈σ1.ow,_
    rw [j3]; exact λp hp=>absurd hp List.not_mem_nil
   ·lk
   refine ExE.nil ⟨?_,(by lk:_=σ1.fz (u "draws")).trans j2,j3⟩
   refine (by lk:_=some (T.list (((aC7 ds i).map T.int).take pl.toNat++[.int (0+(i:Int))]++((aC7 ds i).map T.int).drop pl.toNat))).trans ?_
   rw [hp] at hpp
   rw [show aC7 ds (i+1)=bE8 (ds.getD i 0) (aC7 ds i) i from rfl]
   unfold bE8
   rw [hpp]
   simp [List.map_take,List.map_drop,List.map_append]
  ·rw [if_neg hi] at ht; cases ht
 ·intro σ1 w1w
  refine aC5 w1w λj1 j2 j3=> ?_
  try clear w1w
  refine ExE.ret _ (t:= .list ((aC7 ds 7).map T.int)) ?_ rfl
  exact EvE.nm W j1
theorem bI1.one {w:World}{A:Around}{h0:aA8}{env:Env}{os:OsState}{σ:Sg}{x:Expr}{b:Bool}(h:TsE w A h0 env os σ x b):bI1 w A h0 env os σ [x] b:=by
 cases b with
 | true=>exact .go h .nil
 | false=>exact .stop h
theorem bI2.one {w:World}{A:Around}{h0:aA8}{env:Env}{os:OsState}{σ:Sg}{x:Expr}{b:Bool}(h:TsE w A h0 env os σ x b):bI2 w A h0 env os σ [x] b:=by
 cases b with
 | true=>exact .stop h
 | false=>exact .go h .nil
section
variable {w:World}{A:Around}{h0:aA8}{env:Env}{os:OsState}{k:Bool}{σ:Sg}
theorem TsE.and2 {x y:Expr}{a b:Bool}(pos:Pos)(hx:TsE w A h0 env os σ x a)(hy:a=true->TsE w A h0 env os σ y b):TsE w A h0 env os σ (.BoolOp .And [x,y] pos) (a && b):=by
 cases a with
 | false=>exact TsE.and pos (.stop hx)
 | true=>exact TsE.and pos (.go hx (.one (hy rfl)))
theorem TsE.or2 {x y:Expr}{a b:Bool}(pos:Pos)(hx:TsE w A h0 env os σ x a)(hy:a=false->TsE w A h0 env os σ y b):TsE w A h0 env os σ (.BoolOp .Or [x,y] pos) (a || b):=by
 cases a with
 | true=>exact TsE.or pos (.stop hx)
 | false=>exact TsE.or pos (.go hx (.one (hy rfl)))
theorem TsE.and3 {x y z:Expr}{a b c:Bool}(pos:Pos)(hx:TsE w A h0 env os σ x a)(hy:a=true->TsE w A h0 env os σ y b)(hz:a=true->b=true->TsE w A h0 env os σ z c):TsE w A h0 env os σ (.BoolOp .And [x,y,z] pos) (a && b && c):=by
 cases a with
 | false=>exact TsE.and pos (.stop hx)
 | true=>cases b with
  | false=>exact TsE.and pos (.go hx (.stop (hy rfl)))
  | true=>exact TsE.and pos (.go hx (.go (hy rfl) (.one (hz rfl rfl))))
end
theorem few:∀ (n:Nat) (l:List Int),l.Nodup->(∀ x∈l,0<=x/\x<n)->l.length<=n
 | 0,l,_,h=>by
  cases l with
  | nil=>exact Nat.le_refl _
  | cons x l=>have:=h x (.head _); room
 | n+1,l,d,h=>by
  have key:=few n (l.filter (· != (n:Int))) (d.filter _) λx hx=>by
   have hx':=List.mem_filter.mp hx
   have:=h x hx'.1
   have e:x≠n:=by simpa using hx'.2
   room
  have:l.length<=(l.filter (· != (n:Int))).length+1:=by
   clear key h
   induction l with
   | nil=>simp
   | cons x l ih=>
    have d':=List.nodup_cons.mp d
    by_cases e:x=n
    ·subst e
     have:l.filter (· != (n:Int))=l:=List.filter_eq_self.mpr λy hy=>by
      have:y≠n:=λq=>d'.1 (q ▸ hy)
      simpa using this
     simp [this]
    ·have:=ih d'.2
     simp [e]; exact this
  room
structure aA9 (gs:List Int):Prop where
 len:gs.length=7
 rng:∀ i,i<7->0<=gs.getD i 0/\gs.getD i 0<=7
theorem aA9.get {gs:List Int}(G:aA9 gs){a:Int}(h0:0<=a)(h1:a<7):(gs.map T.int)[a.toNat]? =some (.int (gs.getD a.toNat 0)):=by
 have:=G.len
 rw [List.getElem?_map,List.getElem?_eq_getElem (by room:a.toNat<gs.length),List.getD_eq_getElem?_getD,List.getElem?_eq_getElem (by room:a.toNat<gs.length)]
 rfl
noncomputable def aE8 (gs:List Int)(k:Nat):List Int:=
 let r:=aG gs 7 [(k:Int)] (gs.getD k 0)
 if r.2 == (k:Int) && decide ((r.1.length:Int) > 1) then r.1++[(k:Int)] else []
noncomputable abbrev riA (gs:List Int)(k:Nat)(i:Nat)(σ:Sg):Prop:=∃ row at_,row.length+i=8/\row.Nodup/\(∀ x:Int,x∈row->0<=x/\x<7)/\0<=at_/\at_<=7/\aG gs i row at_=aG gs 7 [(k:Int)] (gs.getD k 0)/\
  σ.ow=[(u "row",row.map T.int)]/\σ.fz (u "at")=some (.int at_)/\σ.fz (u "goals")=some (.list (gs.map T.int))/\σ.fz (u "k")=some (.int k)
theorem cH8 (w:World)(os:OsState)(gs:List Int)(G:aA9 gs)(k:Nat)(hk:k<7):FnE w os 0 272 [.list (gs.map T.int), .int k] (.list ((aE8 gs k).map T.int)):=by
 refine aB9 (o:=bH3) (fd:=aA2 bH3) (body:=aB1 (aA0 25)) (c:=271) (oc:=cP3) [u "goals",u "k"] (by lk) rfl rfl (by lk) rfl rfl rfl
  (al2 λ_ _=>by lk) rfl (by decide) (by lk) (by lk) rfl rfl rfl rfl λA h0 L RA=> ?_
 have W:Own (callEnv (aA2 bH3) L 272):=⟨rfl,rfl,rfl⟩
 have hz:sizeLine=16777216:=by decide
 have hA:(A.deeper (callEnv (aA2 bH3) L 272)).handled=none:=RA.handled
 refine ExE.newList _ _ _ W (ts:=[.int k]) ?_ ?_ ?_ ?_ ?_ ?_
 ·exact .cons (EvE.nm W) .nil
 ·lk
 ·simp; room
 ·lk
 ·exact λp hp=>absurd hp List.not_mem_nil
 have hne:∀ {r:List T} (x:Str),x≠u "row" ->∀ p∈[(u "row",r)],p.1≠x:=λx hx p hp=>by
  rw [List.mem_singleton.mp hp]; exact λq=>hx q.symm
 refine ExE.assign _ _ W (t:= .int (gs.getD k 0)) ?_ ?_ ?_ ?_ ?_
 ·refine EvE.idx _ (k1:=true) (k2:=true) (ts:=gs.map T.int) (i:=(k:Int)) ?_ ?_ ?_ ?_ ?_ ?_
  ·exact EvE.nm W
  ·exact EvE.nm W
  ·room
  ·room
  ·have:=G.get (a:=k) (by room) (by room)
   simpa using this
  ·exact λo j u=>by lk
 ·lk
 ·exact hne (u "at") (by decide)
 ·lk
 refine ExE.while_ (J:=riA gs k) 7 _ ?_ ?_
 ·refine ⟨[(k:Int)],gs.getD k 0,rfl,by simp,by intro x hx; rw [List.mem_singleton.mp hx]; room,(G.rng k hk).1,(G.rng k hk).2,rfl,rfl,by lk,by lk,by lk⟩
 intro i σ1 w1w
 refine cT9 w1w λrow at_ hl hd hr a0 a7 he j1 j2 j3 j4=> ?_
 try clear w1w
 refine ⟨at_ != 7 && !(row.any (· == at_)), ?_, ?_, ?_⟩
 ·refine TsE.and2 _ ?_ λ_=> ?_
  ·refine TsE.cmp _ (k1:=true) (k2:=true) (EvE.nm W j2) (EvE.int _ _ _) (aE2 _ _ _ _) ?_
   lk
  ·refine TsE.cmp _ (k1:=true) (k2:=false) (EvE.nm W j2) (EvE.ow W (ts:=row.map T.int) ?_) (bB8 _ _ _ _) ?_
   ·rw [j1]; lk
   ·lk
 ·intro hb
  rw [Bool.and_eq_true] at hb
  have h7:at_≠7:=by simpa using hb.1
  have hnr:at_∉row:=λhm=>by
   have:row.any (· == at_)=true:=List.any_eq_true.mpr ⟨at_,hm,by simp⟩
   rw [this] at hb; exact absurd hb.2 (by decide)
  cases i with
  | zero=>
   have:=few 7 row hd hr
   room
  | succ i=>
  have hrow:row.length<=7:=few 7 row hd hr
  refine ExE.append _ _ _ _ W (x:=u "row") (ts:=row.map T.int) (t:= .int at_) ?_ ?_ ?_ ?_ ?_ ?_ ?_ ?_ ?_ ?_ ?_ ?_ ?_
  ·rw [j1]; lk
  ·exact .inl (by lk)
  ·lk
  ·lk
  ·exact EvE.nm W j2
  ·simp; room
  ·lk
  ·lk
  ·lk
  ·lk
  ·lk
  ·lk
  have hg:(σ1.grow (u "row") (row.map T.int++[.int at_])).ow=[(u "row",(row++[at_]).map T.int)]:=by
   show aM9 _ _ σ1.ow=_
   rw [j1,List.map_append]
   lk
  refine ExE.assign _ _ W (t:= .int (gs.getD at_.toNat 0)) ?_ ?_ ?_ ?_ ?_
  ·refine EvE.idx _ (k1:=true) (k2:=true) (ts:=gs.map T.int) (i:=at_) ?_ ?_ ?_ ?_ ?_ ?_
   ·exact EvE.nm W j3
   ·exact EvE.nm W j2
   ·room
   ·room
   ·exact G.get a0 (by room)
   ·exact λo j u=>by lk
  ·lk
  ·rw [hg]; exact hne (u "at") (by decide)
  ·lk
  refine ExE.nil ⟨i,Nat.lt_succ_self _,row++[at_],gs.getD at_.toNat 0,by simp; room, ?_, ?_,(G.rng _ (by room)).1,(G.rng _ (by room)).2, ?_,hg,by lk,(by lk:_=σ1.fz (u "goals")).trans j3,(by lk:_=σ1.fz (u "k")).trans j4⟩
  ·rw [List.nodup_append]
   exact ⟨hd,by simp,λx hx y hy=>by rw [List.mem_singleton.mp hy]; exact λq=>hnr (q ▸ hx)⟩
  ·intro x hx
   rcases List.mem_append.mp hx with h | h
   ·exact hr x h
   ·rw [List.mem_singleton.mp h]; room
  ·rw [<- he]
   show _=aG gs (i+1) row at_
   rw [show aG gs (i+1) row at_=if at_ != 7 && !(row.any (· == at_)) then aG gs i (row++[at_]) (gs.getD at_.toNat 0) else (row,at_) from rfl,if_pos (by rw [Bool.and_eq_true]; exact hb)]
 ·intro hb
  have hgo:aG gs 7 [(k:Int)] (gs.getD k 0)=(row,at_):=by
   rw [<- he]
   cases i with
   | zero=>rfl
   | succ i=>rw [aG.eq_2]; rw [if_neg (by rw [hb]; decide)]
  refine ExE.ite _ (b:=at_ == (k:Int) && decide (((row.map T.int).length:Int) > 1)) ?_ ?_
  ·refine TsE.and2 _ ?_ λ_=> ?_
   ·refine TsE.cmp _ (k1:=true) (k2:=true) (EvE.nm W j2) (EvE.nm W j4) (aB4 _ _ _ _) ?_
    lk
   ·refine TsE.cmp _ (k1:=true) (k2:=true) ?_ (EvE.int _ _ _) (bY0 _ _ _ _) ?_
    ·refine EvE.lenN W (k1:=false) (EvE.ow W ?_) ?_
     ·rw [j1]; lk
     ·have:=few 7 row hd hr
      simp; room
    ·lk
  ·rw [List.length_map]
   cases hc:(at_ == (k:Int) && decide ((row.length:Int) > 1)) with
   | true=>
    refine ExE.ret _ (t:= .list (row.map T.int++[.int k])) ?_ ?_
    ·refine EvE.addL _ (k1:=false) (k2:=true) ?_ ?_ ?_
     ·refine EvE.ow W ?_
      rw [j1]; lk
     ·refine EvE.listD _ ?_ ?_ ?_
      ·exact .cons (EvE.nm W j4) .nil
      ·lk
      ·simp; room
     ·have:=few 7 row hd hr
      simp; room
    ·show Fl.ret _=Fl.ret _
     unfold aE8
     rw [hgo]
     simp [hc]
   | false=>
    refine ExE.nil ?_
    show ExE _ _ _ _ _ _ _ _
    refine ExE.ret _ (t:= .list []) ?_ ?_
    ·refine EvE.listD _ .nil ?_ ?_
     ·lk
     ·decide
    ·show Fl.ret _=Fl.ret _
     unfold aE8
     rw [hgo]
     simp [hc]
open PySem.SeqAt in
theorem aN9 {w:World}{A:Around}{h0:aA8}{env:Env}{os:OsState}(hu:A.units<cLine)(k1 k2:Bool)(ts:List T):aF2 w A h0 env os .Eq k1 k2 (.list ts) (.list []) ts.isEmpty:=λB O m cm s va vb Q E F V1 V2 q=>by
 refine aB0 (VR.list F V1) λx vs z1z i1 W1=> ?_
 subst z1z
 refine aB0 (VR.list F V2) λy us z1z i2 W2=> ?_
 subst z1z
 cases W2
 cases W1 with
 | nil=>exact RcAt.lists (e:=λ_=>true) i1 i2 rfl hu (λj h=>absurd h (by simp)) _ _ _ _ (q _ B (.refl B) F)
 | cons v r=>exact RcAt.lists_lengths i1 i2 rfl hu _ _ _ _ (q _ B (.refl B) F)
open PySem.SeqAt in
theorem bT8 {w:World}{A:Around}{h0:aA8}{env:Env}{os:OsState}(hu:A.units<cLine)(k1 k2:Bool)(ts:List T):aF2 w A h0 env os .NotEq k1 k2 (.list ts) (.list []) (!ts.isEmpty):=λB O m cm s va vb Q E F V1 V2 q=>by
 refine aB0 (VR.list F V1) λx vs z1z i1 W1=> ?_
 subst z1z
 refine aB0 (VR.list F V2) λy us z1z i2 W2=> ?_
 subst z1z
 cases W2
 cases W1 with
 | nil=>exact RcNeAt.lists (e:=λ_=>true) i1 i2 rfl hu (λj h=>absurd h (by simp)) _ _ _ _ (q _ B (.refl B) F)
 | cons v r=>exact RcNeAt.lists_lengths i1 i2 rfl hu _ _ _ _ (q _ B (.refl B) F)
noncomputable def st (gs:List Int)(a:Int):Int:=if a=7 then 7 else gs.getD a.toNat 0
noncomputable def it (gs:List Int):Nat->Int->Int
 | 0,a=>a
 | n+1,a=>it gs n (st gs a)
theorem aD3 (gs:List Int):∀ (m n:Nat) (a:Int),it gs (m+n) a=it gs m (it gs n a)
 | m,0,a=>rfl
 | m,n+1,a=>by show it gs (m+n) (st gs a)=_; exact aD3 gs m n _
theorem aD9 (gs:List Int)(n:Nat)(a:Int):it gs (n+1) a=st gs (it gs n a):=by
 rw [Nat.add_comm,aD3]; rfl
theorem aK4 (gs:List Int):∀ n,it gs n 7=7
 | 0=>rfl
 | n+1=>by show it gs n (st gs 7)=7; rw [show st gs 7=7 from rfl]; exact aK4 gs n
theorem aW8 {gs:List Int}(G:aA9 gs){a:Int}(h0:0<=a)(h1:a<=7):0<=st gs a/\st gs a<=7:=by
 unfold st
 split
 ·room
 ·exact G.rng _ (by room)
theorem aL2 {gs:List Int}(G:aA9 gs):∀ (n:Nat) {a:Int},0<=a->a<=7->0<=it gs n a/\it gs n a<=7
 | 0,a,h0,h1=>⟨h0,h1⟩
 | n+1,a,h0,h1=>aL2 G n (aW8 G h0 h1).1 (aW8 G h0 h1).2
noncomputable def way (gs:List Int)(n:Nat)(a:Int):List Int:=(List.range n).map λi=>it gs i a
theorem aL3 (gs:List Int)(n:Nat)(a:Int):(way gs n a).length=n:=by simp [way]
theorem aR (gs:List Int)(n:Nat)(a:Int):way gs (n+1) a=way gs n a++[it gs n a]:=by simp [way,List.range_succ]
theorem aO {gs:List Int}{n:Nat}{a x:Int}:x∈way gs n a↔∃ i,i<n/\it gs i a=x:=by simp [way]
theorem aW9 {gs:List Int}(G:aA9 gs){k:Int}:∀ (n m:Nat),m+1+n=8->(way gs (m+1) k).Nodup->(∀ x∈way gs (m+1) k,0<=x/\x<7)->0<=k->k<7->
  ∃ m',aG gs n (way gs (m+1) k) (it gs (m+1) k)=(way gs (m'+1) k,it gs (m'+1) k)/\(way gs (m'+1) k).Nodup/\(∀ x∈way gs (m'+1) k,0<=x/\x<7)/\(it gs (m'+1) k=7\/it gs (m'+1) k∈way gs (m'+1) k)
 | 0,m,hm,hd,hr,k0,k1=>by
  have:=few 7 _ hd hr
  rw [aL3] at this
  room
 | n+1,m,hm,hd,hr,k0,k1=>by
  have hat:=aL2 G (m+1) k0 (by room:k<=7)
  rw [show aG gs (n+1) (way gs (m+1) k) (it gs (m+1) k)=if it gs (m+1) k != 7 && !((way gs (m+1) k).any (· == it gs (m+1) k)) then aG gs n (way gs (m+1) k++[it gs (m+1) k]) (gs.getD (it gs (m+1) k).toNat 0) else (way gs (m+1) k,it gs (m+1) k) from rfl]
  split
  ·next h=>
   rw [Bool.and_eq_true] at h
   have h7:it gs (m+1) k≠7:=by simpa using h.1
   have hn:it gs (m+1) k∉way gs (m+1) k:=λhm=>by
    have:(way gs (m+1) k).any (· == it gs (m+1) k)=true:=List.any_eq_true.mpr ⟨_,hm,by simp⟩
    rw [this] at h; exact absurd h.2 (by decide)
   have e1:way gs (m+1) k++[it gs (m+1) k]=way gs (m+1+1) k:=(aR gs (m+1) k).symm
   have e2:gs.getD (it gs (m+1) k).toNat 0=it gs (m+1+1) k:=by
    rw [aD9 gs (m+1)]; unfold st; rw [if_neg h7]
   rw [e1,e2]
   refine aW9 G n (m+1) (by room) ?_ ?_ k0 k1
   ·rw [aR,List.nodup_append]
    exact ⟨hd,by simp,λx hx y hy=>by rw [List.mem_singleton.mp hy]; exact λq=>hn (q ▸ hx)⟩
   ·intro x hx
    rw [aR] at hx
    rcases List.mem_append.mp hx with h | h
    ·exact hr x h
    ·rw [List.mem_singleton.mp h]; room
  ·next h=>
   refine ⟨m,rfl,hd,hr, ?_⟩
   by_cases h7:it gs (m+1) k=7
   ·exact .inl h7
   ·refine .inr ?_
    have:(way gs (m+1) k).any (· == it gs (m+1) k)=true:=by
     cases q:(way gs (m+1) k).any (· == it gs (m+1) k) with
     | true=>rfl
     | false=>rw [q] at h; simp [h7] at h
    refine aA1 (List.any_eq_true.mp this) λx hx e=> ?_
    have e:x=it gs (m+1) k:=by simpa using e
    rw [<- e]; exact hx
theorem bE9 {gs:List Int}{a:Int}{j:Nat}(h:it gs j a=a):∀ n,it gs (j * n) a=a
 | 0=>rfl
 | n+1=>by rw [Nat.mul_succ,aD3,h]; exact bE9 h n
noncomputable def Cyc (gs:List Int)(a:Int):Prop:=a≠7/\st gs a≠a/\∃ j,1<=j/\it gs j a=a
theorem aP3 {gs:List Int}(G:aA9 gs){k:Nat}(hk:k<7):
  (∃ p,1<=p/\aE8 gs k=way gs (p+1) k++[(k:Int)]/\(way gs (p+1) k).Nodup/\it gs (p+1) k=k/\Cyc gs k)\/(aE8 gs k=[]/\ ¬Cyc gs k):=by
 have hg:gs.getD k 0=it gs 1 k:=by
  show _=st gs k
  unfold st; rw [if_neg (by room),Int.toNat_natCast]
 obtain ⟨m,e,hd,hr,hend⟩:=aW9 G (k:=k) 7 0 rfl (by simp [way]) (by intro x hx; simp [way,it.eq_1,it.eq_2] at hx; room) (by room) (by room)
 have e':aG gs 7 [(k:Int)] (gs.getD k 0)=(way gs (m+1) k,it gs (m+1) k):=by rw [hg]; exact e
 by_cases hc:it gs (m+1) k=k/\1<=m
 ·refine .inl ⟨m,hc.2, ?_,hd,hc.1,by room, ?_,m+1,by room,hc.1⟩
  ·unfold aE8
   rw [e']
   simp [hc.1,aL3]
   room
  ·intro hs
   rw [way,List.nodup_iff_pairwise_ne] at hd
   have:it gs 1 k=it gs 0 k:=hs
   rw [List.pairwise_iff_getElem] at hd
   have:=hd 0 1 (by simp) (by simp; room) (by room)
   simp at this
   exact this hs.symm
 ·refine .inr ⟨?_, ?_⟩
  ·unfold aE8
   rw [e']
   simp [aL3]
   intro h
   room
  ·intro w1w
   refine aC5 w1w λh7 hs h9=>aA1 h9 λj hj hjk=> ?_
   try clear w1w
   apply hc
   have never:∀ n,it gs n k≠7:=λn hn=>by
    have h1:=bE9 hjk n
    rw [<- Nat.sub_add_cancel (Nat.le_mul_of_pos_left n hj:n<=j * n),aD3,hn,aK4] at h1
    room
   have hin:it gs (m+1) k∈way gs (m+1) k:=hend.resolve_left (never _)
   refine aA1 (aO.mp hin) λi hi ei=> ?_
   have back:it gs (m+1 - i) k=k:=by
    have h1:=bE9 hjk i
    have hle:i<=j * i:=Nat.le_mul_of_pos_left i hj
    have h2:it gs (j * i - i+(m+1)) k=k:=by
     rw [aD3,<-ei,<-aD3]
     rw [Nat.sub_add_cancel hle]; exact h1
    have h3:it gs (m+1 - i) (it gs (j * i) k)=k:=by
     rw [<- aD3,show m+1 - i+j * i=j * i - i+(m+1) by rw [<- Nat.sub_add_comm (Nat.le_of_lt hi),Nat.add_comm,Nat.sub_add_comm hle]]; exact h2
    rw [h1] at h3; exact h3
   have i0:i=0:=by
    rcases Nat.eq_zero_or_pos i with h | h
    ·exact h
    ·exfalso
     rw [way,List.nodup_iff_pairwise_ne,List.pairwise_iff_getElem] at hd
     have:=hd 0 (m+1 - i) (by simp) (by simp; room) (by room)
     simp at this
     exact this back.symm
   subst i0
   refine ⟨ei.symm, ?_⟩
   rcases Nat.eq_zero_or_pos m with h | h
   ·subst h
    exact absurd back hs
   ·exact h
noncomputable def Mid (gs:List Int)(a:Int):Prop:=a≠7/\ ¬Cyc gs a/\st gs a≠a
theorem bT9 {gs:List Int}{k:Int}{n:Nat}(h:∀ i,i<n->Mid gs (it gs i k)):(way gs n k).Nodup:=by
 rw [way,List.nodup_iff_pairwise_ne,List.pairwise_iff_getElem]
 intro i j hi hj hij
 simp at hi hj ⊢
 intro e
 refine aC5 (h i hi) λh7 hc hs=> ?_
 refine hc ⟨h7,hs,j - i,by room, ?_⟩
 rw [<- aD3,show j - i+i=j by room]; exact e.symm
theorem aR0 {gs:List Int}(G:aA9 gs){k:Int}(k0:0<=k)(k7:k<=7){n:Nat}(h:∀ i,i<n->Mid gs (it gs i k)):n<=7:=by
 have:=few 7 (way gs n k) (bT9 h) λx hx=>by
  refine aA1 (aO.mp hx) λi hi e=> ?_
  have:=aL2 G i k0 k7
  have:=(h i hi).1
  room
 rwa [aL3] at this
noncomputable def aB6 (gs:List Int):List (List Int):=(List.range 7).map λk=>aE8 gs k
theorem bB9 (gs:List Int){a:Nat}(h:a<7):(aB6 gs).getD a []=aE8 gs a:=by
 simp [aB6,h]
theorem aD5 {gs:List Int}(G:aA9 gs){a:Int}(a0:0<=a)(a7:a<7):((aB6 gs).getD a.toNat []).isEmpty=true↔ ¬Cyc gs a:=by
 rw [bB9 gs (by room)]
 have e:((a.toNat:Nat):Int)=a:=by room
 rcases aP3 G (k:=a.toNat) (by room) with ⟨p,hp,h1,_,_,h2⟩ | ⟨h1,h2⟩
 ·rw [e] at h2
  simp [h1,h2]
 ·rw [e] at h2
  simp [h1,h2]
noncomputable def aC6 (gs:List Int):Nat->Int->Int
 | 0,a=>a
 | n+1,a=>if a != 7 && ((aB6 gs).getD a.toNat []).isEmpty && gs.getD a.toNat 0 != a then aC6 gs n (gs.getD a.toNat 0) else a
noncomputable def aD0 (gs:List Int):List Nat->Option (List Int)
 | []=>none
 | k::l=>let a:=aC6 gs 7 k
  if a != 7 && !((aB6 gs).getD a.toNat []).isEmpty then some ((aB6 gs).getD a.toNat []) else aD0 gs l
noncomputable def aJ8 (gs:List Int):T:= .list ((aB6 gs).map λr=>T.list (r.map T.int))
noncomputable def aJ2:Option (List Int)->T
 | none=> .none
 | some l=> .list (l.map T.int)
theorem aL4 (gs:List Int){a:Int}(a0:0<=a)(a7:a<7):((aB6 gs).map λr=>T.list (r.map T.int))[a.toNat]? =some (.list (((aB6 gs).getD a.toNat []).map T.int)):=by
 have hl:(aB6 gs).length=7:=by simp [aB6]
 rw [List.getElem?_map,List.getElem?_eq_getElem (by room:a.toNat<(aB6 gs).length),List.getD_eq_getElem?_getD,List.getElem?_eq_getElem (by room:a.toNat<(aB6 gs).length)]
 rfl
theorem aF3 {α β:Type}(f:α->β)(l:List α):(l.map f).isEmpty=l.isEmpty:=by cases l<;>rfl
noncomputable abbrev tdA (gs:List Int)(i:Nat)(σ:Sg):Prop:=σ.fz (u "goals")=some (.list (gs.map T.int))/\σ.fz (u "rings")=some (aJ8 gs)/\σ.ow=[]/\aD0 gs (List.range 7)=aD0 gs ((List.range 7).drop i)
noncomputable abbrev tdB (gs:List Int)(i:Nat)(n:Nat)(σ:Sg):Prop:=∃ j,j+n=7/\(∀ i',i'<j->Mid gs (it gs i' i))/\aC6 gs n (it gs j i)=aC6 gs 7 i/\σ.fz (u "at")=some (.int (it gs j i))/\σ.fz (u "goals")=some (.list (gs.map T.int))/\σ.fz (u "rings")=some (aJ8 gs)/\σ.ow=[]
theorem cH9 (w:World)(os:OsState)(gs:List Int)(G:aA9 gs):FnE w os 0 279 [.list (gs.map T.int),aJ8 gs] (aJ2 (aD0 gs (List.range 7))):=by
 refine aB9 (o:=bE3) (fd:=aA2 bE3) (body:=aB1 (aA0 26)) (c:=278) (oc:=cP4) [u "goals",u "rings"] (by lk) rfl rfl (by lk) rfl rfl rfl
  (al2 λ_ _=>by lk) rfl (by decide) (by lk) (by lk) rfl rfl rfl rfl λA h0 L RA=> ?_
 have W:Own (callEnv (aA2 bE3) L 279):=⟨rfl,rfl,rfl⟩
 have hz:sizeLine=16777216:=by decide
 have hA:(A.deeper (callEnv (aA2 bE3) L 279)).handled=none:=RA.handled
 have RD:(A.deeper (callEnv (aA2 bE3) L 279)).units<cLine:=RA.in_
 refine ExE.for_ (ts:=aB3 0 7) (J:=tdA gs) _ ?_ ?_ ?_ ?_ ?_ ?_
 ·exact ItE.range1 (n:=7) (k1:=true) _ _ W hA (by lk) (by lk) (by lk) (by lk) (EvE.int _ _ _) (by decide)
 ·exact ⟨by lk,by lk,rfl,rfl⟩
 ·exact λit v=>rfl
 ·exact λx=>rfl
 ·intro i t σ1 ht w1w
  refine aO7 w1w λj1 j2 j3 j4=> ?_
  try clear w1w
  rw [aD8] at ht
  by_cases hi:i<7
  ·rw [if_pos hi] at ht
   cases ht
   have e0:0+(i:Int)=i:=by room
   rw [e0]
   have hno:∀ x:Str,∀ p∈σ1.ow,p.1≠x:=by rw [j3]; exact λx p hp=>absurd hp List.not_mem_nil
   refine ⟨_,aF5.name _ W (by lk) (hno _), ?_⟩
   refine ExE.assign _ _ W (t:= .int i) ?_ ?_ ?_ ?_ ?_
   ·exact EvE.nm W
   ·lk
   ·exact hno _
   ·lk
   refine ExE.while_ (J:=tdB gs i) 7 _ ?_ ?_
   ·exact ⟨0,rfl,λi' h=>absurd h (Nat.not_lt_zero _),rfl,by lk,(by lk:_=σ1.fz (u "goals")).trans j1,(by lk:_=σ1.fz (u "rings")).trans j2,j3⟩
   intro n σ2 w1w
   refine dG w1w λj hj hm hgo q1 q2 q3 q4=> ?_
   try clear w1w
   have hr:=aL2 G j (a:=(i:Int)) (by room) (by room)
   generalize ha:it gs j i=a at hr hgo q1
   refine ⟨a != 7 && ((aB6 gs).getD a.toNat []).isEmpty && gs.getD a.toNat 0 != a, ?_, ?_, ?_⟩
   ·refine TsE.and3 _ ?_ (λh7=> ?_) (λh7 _=> ?_)
    ·refine TsE.cmp _ (k1:=true) (k2:=true) (EvE.nm W q1) (EvE.int _ _ _) (aE2 _ _ _ _) ?_
     lk
    ·have h7:a≠7:=by simpa using h7
     rw [<- aF3 T.int]
     refine TsE.cmp _ (k1:=true) (k2:=true) ?_ (EvE.listD _ .nil ?_ ?_) (aN9 RD _ _ _) ?_
     ·refine EvE.idx _ (k1:=true) (k2:=true) (EvE.nm W q3) (EvE.nm W q1) hr.1 ?_ (aL4 gs hr.1 (by room)) ?_
      ·room
      ·exact λo j u=>by lk
     ·lk
     ·decide
     ·lk
    ·have h7:a≠7:=by simpa using h7
     refine TsE.cmp _ (k1:=true) (k2:=true) ?_ (EvE.nm W q1) (aE2 _ _ _ _) ?_
     ·refine EvE.idx _ (k1:=true) (k2:=true) (EvE.nm W q2) (EvE.nm W q1) hr.1 ?_ (G.get hr.1 (by room)) ?_
      ·room
      ·exact λo j u=>by lk
     ·lk
   ·intro hb
    have hb':=hb
    rw [Bool.and_eq_true,Bool.and_eq_true] at hb
    have h7:a≠7:=by simpa using hb.1.1
    have hst:st gs a=gs.getD a.toNat 0:=by unfold st; rw [if_neg h7]
    have hmid:Mid gs a:=⟨h7,(aD5 G hr.1 (by room)).mp hb.1.2,by rw [hst]; simpa using hb.2⟩
    have hm':∀ i',i'<j+1->Mid gs (it gs i' i):=λi' h=>by
     rcases Nat.lt_succ_iff_lt_or_eq.mp h with h | h
     ·exact hm i' h
     ·rw [h,ha]; exact hmid
    have:=aR0 G (k:=i) (by room) (by room) hm'
    cases n with
    | zero=>room
    | succ n=>
    refine ExE.assign _ _ W (t:= .int (gs.getD a.toNat 0)) ?_ ?_ ?_ ?_ ?_
    ·refine EvE.idx _ (k1:=true) (k2:=true) (EvE.nm W q2) (EvE.nm W q1) hr.1 ?_ (G.get hr.1 (by room)) ?_
     ·room
     ·exact λo j u=>by lk
    ·lk
    ·rw [q4]; exact λp hp=>absurd hp List.not_mem_nil
    ·lk
    have hit:it gs (j+1) i=gs.getD a.toNat 0:=by rw [aD9,ha,hst]
    refine ExE.nil ⟨n,Nat.lt_succ_self _,j+1,by room,hm', ?_,by rw [hit]; lk,(by lk:_=σ2.fz (u "goals")).trans q2,(by lk:_=σ2.fz (u "rings")).trans q3,q4⟩
    rw [hit,<-hgo]
    rw [show aC6 gs (n+1) a=if a != 7 && ((aB6 gs).getD a.toNat []).isEmpty && gs.getD a.toNat 0 != a then aC6 gs n (gs.getD a.toNat 0) else a from rfl,if_pos hb']
   ·intro hb
    have hend:aC6 gs 7 i=a:=by
     rw [<- hgo]
     cases n with
     | zero=>rfl
     | succ n=>rw [show aC6 gs (n+1) a=if a != 7 && ((aB6 gs).getD a.toNat []).isEmpty && gs.getD a.toNat 0 != a then aC6 gs n (gs.getD a.toNat 0) else a from rfl,if_neg (by rw [hb]; decide)]
    have hdrop:(List.range 7).drop i=i::(List.range 7).drop (i+1):=by
     rw [List.drop_eq_getElem_cons (by simpa using hi)]; simp
    have hstep:aD0 gs ((List.range 7).drop i)=if a != 7 && !((aB6 gs).getD a.toNat []).isEmpty then some ((aB6 gs).getD a.toNat []) else aD0 gs ((List.range 7).drop (i+1)):=by
     rw [hdrop]
     show (if aC6 gs 7 i != 7 && _ then _ else _)=_
     rw [hend]
    refine ExE.ite _ (b:=a != 7 && !((aB6 gs).getD a.toNat []).isEmpty) ?_ ?_
    ·refine TsE.and2 _ ?_ (λh7=> ?_)
     ·refine TsE.cmp _ (k1:=true) (k2:=true) (EvE.nm W q1) (EvE.int _ _ _) (aE2 _ _ _ _) ?_
      lk
     ·have h7:a≠7:=by simpa using h7
      rw [<- aF3 T.int]
      refine TsE.cmp _ (k1:=true) (k2:=true) ?_ (EvE.listD _ .nil ?_ ?_) (bT8 RD _ _ _) ?_
      ·refine EvE.idx _ (k1:=true) (k2:=true) (EvE.nm W q3) (EvE.nm W q1) hr.1 ?_ (aL4 gs hr.1 (by room)) ?_
       ·room
       ·exact λo j u=>by lk
      ·lk
      ·decide
      ·lk
    ·cases hc:(a != 7 && !((aB6 gs).getD a.toNat []).isEmpty) with
     | true=>
      have h7:a≠7:=by rw [Bool.and_eq_true] at hc; simpa using hc.1
      refine ExE.ret _ (t:= .list (((aB6 gs).getD a.toNat []).map T.int)) ?_ ?_
      ·refine EvE.idx _ (k1:=true) (k2:=true) (EvE.nm W q3) (EvE.nm W q1) hr.1 ?_ (aL4 gs hr.1 (by room)) ?_
       ·room
       ·exact λo j u=>by lk
      ·show Fl.ret _=Fl.ret _
       rw [j4,hstep,hc]; rfl
     | false=>
      refine ExE.nil ?_
      refine ExE.nil ?_
      refine ⟨q2,q3,q4, ?_⟩
      rw [j4,hstep,hc]; rfl
  ·rw [if_neg hi] at ht; cases ht
 ·intro σ1 w1w
  refine aO7 w1w λj1 j2 j3 j4=> ?_
  try clear w1w
  refine ExE.ret _ (t:= .none) ?_ ?_
  ·exact EvE.noneC _ _
  ·rw [j4]; rfl
noncomputable abbrev obL (ts:List T):Ob:= .ls0 ts
noncomputable def Hp.put (hp:Hp)(a:Addr)(b:Ob):Hp:=λx=>if x=a then some b else hp x
noncomputable def Sg.put (σ:Sg)(a:Addr)(b:Ob):Sg:=⟨σ.fz,σ.ow,σ.hp.put a b⟩
theorem Hps.put {B:PM}{hp:Hp}{Y1 Y2:OL}{a:Addr}{o o':Obj}{b:Ob}(h:Hps B hp (Y1++(a,o)::Y2))(hb:b.is B o'):Hps B (hp.put a b) (Y1++(a,o')::Y2):=λx c e=>by
 unfold Hp.put at e
 by_cases q:x=a
 ·subst q
  rw [if_pos rfl] at e; cases e
  exact ⟨o',List.mem_append.mpr (.inr (.head _)),hb⟩
 ·rw [if_neg q] at e
  refine aA1 (h x c e) λp hm hp'=> ?_
  refine ⟨p, ?_,hp'⟩
  rcases List.mem_append.mp hm with h | h
  ·exact List.mem_append.mpr (.inl h)
  ·rcases List.mem_cons.mp h with h | h
   ·cases h; exact absurd rfl q
   ·exact List.mem_append.mpr (.inr (.tail _ h))
theorem Hps.new {B:PM}{hp:Hp}{Y:OL}{a:Addr}{o:Obj}{b:Ob}(h:Hps B hp Y)(hb:b.is B o):Hps B (hp.put a b) ((a,o)::Y):=λx c e=>by
 unfold Hp.put at e
 by_cases q:x=a
 ·subst q
  rw [if_pos rfl] at e; cases e
  exact ⟨o, .head _,hb⟩
 ·rw [if_neg q] at e
  refine aA1 (h x c e) λp hm hp'=> ?_
  exact ⟨p, .tail _ hm,hp'⟩
theorem aA6.set {B:PM}{v:Value}{t:T}(h:Val B v t){vs:List Value}{ts:List T}(H:aA6 B vs ts):∀ n,aA6 B (vs.set n v) (ts.set n t):=by
 induction H using aA6.ind with
 | h0=>exact λ_=> .nil
 | hc x r ih=>intro n; cases n with
  | zero=>exact .cons h r
  | succ n=>exact .cons x (ih n)
section
variable {w:World}{A:Around}{h0:aA8}{env:Env}{os:OsState}{k:Bool}{σ:Sg}{P:FP}{rest:List Stmt}
theorem EvE.objL {x:Str}{a:Addr}{ts:List T}{pos:Pos}(W:Own env)(hp:σ.hp a=some (obL ts))(ht:σ.fz x=some (.obj a):=by lk)(hc:env.kindOf x=some .local:=by lk)(hd:(x == ("__debug__" :Str))=false:=by lk)(hcd:(x == ("__classdict__" :Str))=false:=by lk):EvE w A h0 env os false σ (.Name x pos) (.list ts):=λB O m cm s Q E F R q=>by
 refine (EvE.nm (k:=true) W ht hc hd hcd) B O m cm s Q E F R λv s' B' l F' V=> ?_
 refine aB0 R.ow λO1 X z1z r hh=> ?_
 subst z1z
 cases V
 refine aA1 (hh _ _ hp) λo hm h9=>aA1 h9 λvs i Vv=> ?_
 exact q _ s' B' l F' (.open_ (List.mem_append.mpr (.inr hm)) i (Vv.mono l))
theorem ExE.newL {x:Str}{es:List Expr}{ts:List T}(p pl pos:Pos)(W:Own env)(he:aC4 w A h0 env os σ es ts)(hs:backTo pl (starEach es env)=es.map λe=>(false,eval e env))(hz:ts.length<=sizeLine)(hk:env.kindOf x=some .local)(hx:∀ p∈σ.ow,p.1≠x)
  (h:∀ a,σ.hp a=none->ExE w A h0 env os ((σ.set x (.obj a)).put a (obL ts)) rest P):ExE w A h0 env os σ (.Assign [.Name x p] (.List es pl) pos::rest) P:=λB O X m cm s Q E F R q=>
 wpAny_execs_cons (wpAny_Assign_Name (wpAny_List (by
  rw [hs]
  refine aE4 he B (O++X) m cm s _ E F (R.rel X) λvs s1 B1 l1 F1 V=>⟨by rw [V.length]; exact hz, ?_⟩
  have F2:=F1.pushO (o:={ cls:= .type "list",data:= .seq vs.toArray }) rfl s1.toks
  refine wpAny_storeName_local hk F2.ns (λh' hn hsb=> ?_) (by rw [W.kind]; rfl)
  refine aB0 R.ow λO1 Y z1z r hh=> ?_
  subst z1z
  have hnone:σ.hp s1.heap.objs.size=none:=by
   cases e:σ.hp s1.heap.objs.size with
   | none=>rfl
   | some b=>
    refine aA1 (hh _ _ e) λo hm _=> ?_
    have:=F1.opn _ (List.mem_append.mpr (.inl (List.mem_append.mpr (.inr hm))))
    rw [aA7] at this; cases this
  have F3:=(F2.setLocal hn hsb (s1.toks+1)).perm (O':=(O1++(s1.heap.objs.size,({ cls:= .type "list",data:= .seq vs.toArray }:Obj))::Y)++X) (by
   rw [List.append_assoc,List.append_assoc,List.cons_append]; exact List.perm_middle.symm)
  have R3:=(R.mono l1).set hk hx (Val.obj s1.heap.objs.size)
  refine h _ hnone B1 _ X _ cm _ Q E F3 ⟨R3.fz,O1,_,rfl,(r.mono l1).names λp hp=>aM8 (hx p hp), ?_⟩ (q.mono l1)
  exact (hh.mono l1).new ⟨vs,⟨rfl,_,rfl⟩,V⟩)) rfl)
theorem ExE.setL {x:Str}{a:Addr}{ts:List T}{t:T}{n:Int}{i e:Expr}{k2:Bool}(p1 p2 pos:Pos)(W:Own env)(hx:σ.fz x=some (.obj a))(hp:σ.hp a=some (obL ts))(he:EvE w A h0 env os true σ e t)(hi:EvE w A h0 env os k2 σ i (.int n))(n0:0<=n)(nz:n<2 ^ 63)(nl:n<ts.length)
  (hc:env.kindOf x=some .local) (hd:(x == ("__debug__" :Str))=false) (hcd:(x == ("__classdict__" :Str))=false) (hsw:swapsWith e (some (.Subscript (.Name x p1) i p2)) pos.line env=pure false)
  (h:ExE w A h0 env os (σ.put a (obL (ts.set n.toNat t))) rest P):ExE w A h0 env os σ (.Assign [.Subscript (.Name x p1) i p2] e pos::rest) P:=λB O X m cm s Q E F R q=>by
 refine wpAny_execs_cons (wpAny_Assign_Subscript ?_ hsw)
 refine he B (O++X) m cm s _ E F (R.rel X) λv s1 B1 l1 F1 V1=> ?_
 refine (EvE.nm (k:=true) W hx hc hd hcd) B1 (O++X) m cm s1 _ E F1 ((R.mono l1).rel X) λo s2 B2 l2 F2 V2=> ?_
 refine hi B2 (O++X) m cm s2 _ E F2 (((R.mono l1).mono l2).rel X) λj s3 B3 l3 F3 V3=> ?_
 cases V2
 refine aA3 V3.int λtk z1z=> ?_
 subst z1z
 refine aB0 R.ow λO1 Y z1z r hh=> ?_
 subst z1z
 have l:B.le B3:=(l1.trans l2).trans l3
 refine aA1 (hh _ _ hp) λo hm h9=>aA1 h9 λvs io Vv=> ?_
 refine bD5 (List.append_of_mem hm) λY1 Y2 z1z=> ?_
 subst z1z
 have hL:s3.heap.IsList a vs.toArray:=⟨o,F3.opn (a,o) (List.mem_append.mpr (.inl (List.mem_append.mpr (.inr hm)))),io.1,io.2⟩
 refine wpAny_setItem_list hL n0 nz (by rw [List.size_toArray,Vv.length]; exact nl) λh' hL' hS=> ?_
 refine aC8 hL' λo' ho' hc' h9=>aA3 h9 λnn hd'=> ?_
 try clear hL'
 have F4:Fm w h0 env B3 ((O1++(Y1++(a,o')::Y2))++X) m cm os { s3 with heap:=h' }:=by
  have F3':Fm w h0 env B3 ((O1++Y1)++(a,o)::(Y2++X)) m cm os s3:=by simpa using F3
  have:=Fm.turn F3' ho' hS s3.toks
  simpa using this
 have Vset:aA6 B3 (vs.set n.toNat v) (ts.set n.toNat t):=aA6.set (Val.mono (l2.trans l3) V1) (Vv.mono l) _
 refine h B3 _ X m cm _ Q E F4 ⟨(R.mono l).fz,O1,_,rfl,r.mono l,(hh.mono l).put ⟨vs.set n.toNat v,⟨hc',nn, ?_⟩,Vset⟩⟩ (q.mono l)
 rw [hd']; simp
end
section
variable {w:World}{A:Around}{h0:aA8}{env:Env}{os:OsState}{k:Bool}{σ:Sg}{P:FP}{rest:List Stmt}
theorem bZ {B:PM}{O:OL}{m cm:NM}{s:Shared}(F:Fm w h0 env B O m cm os s){v:Value}{ts:List T}(h:Val B v (.list ts)):
  ∃ a o vs,v= .ref a/\s.heap.get? a=some o/\o.dict=Option.none/\s.heap.IsList a vs.toArray/\aA6 B vs ts:=by
 cases h with
 | list h i d vs=>exact ⟨_,_,_,rfl,F.sub _ _ h,d,⟨_,F.sub _ _ h,i.1,i.2⟩,vs⟩
theorem EvE.index {l e:Expr}{ns:List Int}{x:Int}{k2:Bool}(apos pos:Pos)(hl:EvE w A h0 env os true σ l (.list (ns.map T.int)))(he:EvE w A h0 env os k2 σ e (.int x))(hx:x∈ns)(hz:PyData.layable0 (.list (ns.map .int))=true)
  (hb:attributeBase l (u "index") env (eval l env)=eval l env) (hln:(apos.endLine == pos.line)=true) (ht:backTo pos (starEach [e] env)=[(false,eval e env)]):
  EvE w A h0 env os k σ (.Call (.Attribute l (u "index") apos) [e] [] pos) (.int (ns.idxOf x:Nat)):=λB O m cm s Q E F R q=>by
 refine wpAny_Call_method1_late hb hln ht ?_
 refine hl B O m cm s _ E F R λv s1 B1 l1 F1 V1=> ?_
 refine bG6 (bZ F1 V1) λa o vs z1z ho hd L Vv=> ?_
 subst z1z
 refine ⟨"list", "list.index",PySem.F.plainAttrs_list,PySem.F.slot_list_index,PySem.F.type_list_index,L.typeIs,λb e=>by cases e; exact ⟨o,ho,hd⟩, ?_⟩
 refine callWith_builtin rfl (Calls.evalArgs_plain (Calls.spliced_cons (he B1 O m cm s1 _ E F1 (R.mono l1) λy s2 B2 l2 F2 V2=>Calls.spliced_nil ?_)))
 refine aA3 V2.int λtk z1z=> ?_
 subst z1z
 refine bG6 (bZ F2 (V1.mono l2)) λa' o' vs' e' ho' hd' L' Vv'=> ?_
 cases e'
 exact index_list_ints L' Vv'.ints hz hx (q _ _ B2 (l1.trans l2) (F2.tok _) (.of (.int _ _)))
theorem EvE.max2 {f:Str}{e e':Expr}{a b:Int}{k1 k2:Bool}(np pos:Pos)(W:Own env)(hA:A.handled=none)(hk:env.kindOf f=some .globalImplicit)(hm:mgm w.params f=none)(hv:mbm w.params f=some (.builtin "max"))(hd:(f == ("__debug__" :Str))=false)
  (hs:backTo pos (starEach [e,e'] env)=[(false,eval e env),(false,eval e' env)]) (he:EvE w A h0 env os k1 σ e (.int a)) (he':EvE w A h0 env os k2 σ e' (.int b)):EvE w A h0 env os k σ (.Call (.Name f np) [e,e'] [] pos) (.int (if b > a then b else a)):=λB O m cm s Q E F R q=>
 wpAny_Call_NameR (aJ0 W F hk hm hv (by
  rw [hs]
  refine callWith_builtin rfl (Calls.evalArgs_plain (Calls.spliced_cons (he B O m cm s _ E F R λva s1 B1 l1 F1 V1=>Calls.spliced_cons (he' B1 O m cm s1 _ E F1 (R.mono l1) λvb s2 B2 l2 F2 V2=>Calls.spliced_nil ?_))))
  refine aA3 V1.int λt1 z1z=> ?_
  subst z1z
  refine aA3 V2.int λt2 z1z=> ?_
  subst z1z
  refine max_two_ints hA λh' tk hk=> ?_
  refine q _ _ B2 (l1.trans l2) (F2.grow hk tk) (.of ?_)
  split<;>exact .int _ _) hd)
theorem EvE.maxL {f:Str}{e:Expr}{ns:List Int}{M:Int}{k1:Bool}(np pos:Pos)(W:Own env)(hA:A.handled=none)(hk:env.kindOf f=some .globalImplicit)(hm:mgm w.params f=none)(hv:mbm w.params f=some (.builtin "max"))(hd:(f == ("__debug__" :Str))=false)
  (hs:backTo pos (starEach [e] env)=[(false,eval e env)]) (he:EvE w A h0 env os k1 σ e (.list (ns.map T.int))) (hM:M∈ns) (hmax:∀ a∈ns,a<=M):EvE w A h0 env os k σ (.Call (.Name f np) [e] [] pos) (.int M):=
 EvE.call1 np pos W hk hm hv hd hs he λB O m cm s va Q E F V q=>by
  refine aB0 (VR.list F V) λa vs z1z L Vv=> ?_
  subst z1z
  refine max_list_N hA F.fr F.news L Vv.ints (List.length_pos_of_mem hM) λh' M' t tk Fr' N' hM' hmax'=> ?_
  have e:M'=M:=Int.le_antisymm (hmax M' hM') (hmax' M hM)
  rw [e]
  exact q _ _ B (.refl B) (F.back Fr' N' (λp hp=>hp) tk) (.of (.int _ _))
end
inductive Rs where
 | val (t:T)
 | exc (cls:Value) (args:List T)
noncomputable abbrev fnP (P:Rs->Hp->Prop)(K:Hp->Prop):Fl->Sg->Prop:=λfl σ'=>K σ'.hp/\match fl with
 | .ret t=>P (.val t) σ'.hp
 | .next=>P (.val .none) σ'.hp
 | .exc c u=>P (.exc c u) σ'.hp
 | _=>False
structure aX (w:World)(h0:aA8)(env:Env)(os:OsState)(P:Rs->Sg->Prop)(B:PM)(X:OL)(Q:VP)(E:VP):Prop where
 go:∀ t σ' v s' B' O' m' cm',P (.val t) σ'->Val B' v t->B.le B'->Fm w h0 env B' (O'++X) m' cm' os s'->Rl env σ' B' O' m' cm'->Q v s'
 out:∀ cls args σ' e s' B' Z O' m' cm',P (.exc cls args) σ'->Fly B' env.locals cls args e Z->B.le B'->Fm w h0 env B' (Z++(O'++X)) m' cm' os s'->Rl env σ' B' O' m' cm'->E (.ref e) s'
theorem aX.mono {w:World}{h0:aA8}{env:Env}{os:OsState}{P:Rs->Sg->Prop}{B B1:PM}{X:OL}{Q:VP}{E:VP}(q:aX w h0 env os P B X Q E)(l1:B.le B1):aX w h0 env os P B1 X Q E:=
 ⟨λfl σ' f s' B' O' m' cm' p r l F R=>q.go fl σ' f s' B' O' m' cm' p r (l1.trans l) F R,λcls args σ' e s' B' Z O' m' cm' p r l F R=>q.out cls args σ' e s' B' Z O' m' cm' p r (l1.trans l) F R⟩
noncomputable def EvH (w:World)(A:Around)(h0:aA8)(env:Env)(os:OsState)(σ:Sg)(e:Expr)(P:Rs->Sg->Prop):Prop:=
 ∀ (B:PM) (O X:OL) (m cm:NM) (s:Shared) (Q:VP) (E:VP),Fm w h0 env B (O++X) m cm os s->Rl env σ B O m cm->
  aX w h0 env os P B X Q E->wpAny (model pw w) A (eval e env) Q E s
noncomputable def Hp.del (hp:Hp)(a:Addr):Hp:=λx=>if x=a then none else hp x
noncomputable def Frm (A:Around)(hp:Hp):Prop:=∃ l,A.frames=some l/\∀ env∈l,env.scope.kind≠ .module/\∃ f o,env.frame=some f/\hp f=some (.same o)/\∀ vs,o.data≠ .fields vs
noncomputable def aA4 (hp hp':Hp):Prop:=∀ f o,hp f=some (.same o)->hp' f=some (.same o)
theorem aA4.refl (hp:Hp):aA4 hp hp:=λ_ _ h=>h
theorem aA4.trans {a b c:Hp}(x:aA4 a b)(y:aA4 b c):aA4 a c:=λf o h=>y f o (x f o h)
theorem aA4.put {hp hp':Hp}{a:Addr}{b:Ob}(x:aA4 hp hp')(h:∀ o,hp' a≠some (.same o)):aA4 hp (hp'.put a b):=λf o e=>by
 have:=x f o e
 unfold Hp.put
 by_cases q:f=a
 ·subst q; exact absurd this (h o)
 ·rw [if_neg q]; exact this
theorem bB0 {l:List Env}{hp hp':Hp}(h:∀ env∈l,env.scope.kind≠ .module/\∃ f o,env.frame=some f/\hp f=some (.same o)/\∀ vs,o.data≠ .fields vs)(k:aA4 hp hp'):∀ env∈l,env.scope.kind≠ .module/\∃ f o,env.frame=some f/\hp' f=some (.same o)/\∀ vs,o.data≠ .fields vs:=
 λenv he=>⟨(h env he).1,aB0 (h env he).2 λf o d e g=>⟨f,o,d,k f o e,g⟩⟩
theorem Frm.keeps {A:Around}{hp hp':Hp}(h:Frm A hp)(k:aA4 hp hp'):Frm A hp':=
 aA1 h λl a b=>⟨l,a,bB0 b k⟩
section
variable {w:World}{A:Around}{h0:aA8}{env:Env}{os:OsState}{σ:Sg}{B:PM}{O X Z:OL}{m cm:NM}{s:Shared}
theorem cI {h:Heap}{l:List Addr}{a:Addr}(e:(hideAll h l).get? a=none):a∈l\/h.get? a=none:=by
 by_cases q:a∈l
 ·exact .inl q
 ·refine .inr ?_
  cases z:h.get? a with
  | none=>rfl
  | some o=>rw [hideAll_get l z q] at e; cases e
noncomputable def aJ9 (l:List Env):List Addr:=l.filterMap (·.frame)
structure aC9 (A:Around)(env:Env)(σ:Sg)(l:List Env):Prop where
 fr:A.frames=some (env::l)
 own:env.frame=some env.locals
 kind:env.scope.kind≠ .module
 low:∀ env∈l,env.scope.kind≠ .module/\∃ f o,env.frame=some f/\σ.hp f=some (.same o)/\∀ vs,o.data≠ .fields vs
theorem aC9.low_at {l:List Env}(W:aC9 A env σ l){a:Addr}(h:a∈aJ9 l):∃ o,σ.hp a=some (.same o)/\∀ vs,o.data≠ .fields vs:=by
 refine aA1 (List.mem_filterMap.mp h) λe he hf=> ?_
 refine aB (W.low e he) λ_ h9=>aB0 h9 λf o a1 a2 a3=> ?_
 rw [hf] at a1; cases a1
 exact ⟨o,a2,a3⟩
noncomputable def hid (env:Env)(Z:OL)(l:List Env):List Addr:=Z.map (·.1)++env.locals::aJ9 l
theorem aR1 {h base:Heap}:∀ {l:List Env},(∀ env∈l,env.scope.kind≠ .module/\∃ f o,env.frame=some f/\base.get? f=none/\h.get? f=some o/\∀ vs,o.data≠ .fields vs)->h.FunFrames base l
 | [],_=>trivial
 | e::l,H=>by
  refine aB (H e (.head _)) λk h9=>bD7 h9 λf o a b c d=> ?_
  exact ⟨k,⟨f,o,a,b,c,d⟩,aR1 λx hx=>H x (.tail _ hx)⟩
theorem bC {l:List Env}(F:Fm w h0 env B (Z++(O++X)) m cm os s)(R:Rl env σ B O m cm)(W:aC9 A env σ l):s.heap.FunFrames (hideAll s.heap (hid env Z l)) (env::l):=by
 refine aM6 F.ns λoL es ep hL hd _=> ?_
 refine aB0 R.ow λO1 Y z1z _ hh=> ?_
 subst z1z
 refine aR1 λe he=> ?_
 rcases List.mem_cons.mp he with rfl | he
 ·exact ⟨W.kind,e.locals,oL,W.own,hideAll_none _ (List.mem_append.mpr (.inr (.head _))),hL,λvs q=>by rw [hd] at q; cases q⟩
 ·refine aB (W.low e he) λk h9=>aB0 h9 λf o a1 a2 a3=> ?_
  refine aA1 (hh f _ a2) λo' hm h9=>aA3 h9 λsl ho=> ?_
  refine ⟨k,f,o',a1,hideAll_none _ (List.mem_append.mpr (.inr (.tail _ (List.mem_filterMap.mpr ⟨e,he,a1⟩)))),F.opn (f,o') (List.mem_append.mpr (.inr (List.mem_append.mpr (.inl (List.mem_append.mpr (.inr hm)))))), ?_⟩
  rw [ho]; exact a3
theorem Fm.step {l:List Env}{cls a0 fl:Value}{args:List T}{e t:Addr}{h':Heap}(F:Fm w h0 env B (Z++(O++X)) m cm os s)(R:Rl env σ B O m cm)(W:aC9 A env σ l)(hZ:∀ p∈Z,∃ vs,p.2.data= .fields vs)(hZ1:∃ oe Z1,Z=(e,oe)::Z1)
  (st:(hideAll s.heap (hid env Z l)).StaysIn h') (up:s.heap.UpToSlots h') (tr:h'.TracedAtW (hideAll s.heap (hid env Z l)) e cls a0 fl) (ha0:a0= .ref t) (ht:Val B (.ref t) (.tup args)) (tk:Nat):
  ∃ oe oT vs ts tb O',oe.cls=cls/\oe.data= .fields vs/\vs[0]? =some (.ref t)/\vs[1]? =some (.ref tb)/\oT.data= .fields ts/\ts[3]? =some fl/\Fm w h0 env B ([(e,oe),(tb,oT)]++(O'++X)) m cm os { s with heap:=h',toks:=tk }/\Rl env σ B O' m cm:=by
 refine dG2 tr λoe vs tb oT ts he z1z hd h1 hnT hTe hT hdT h3=> ?_
 try clear tr
 refine aB z1z λhc h00=> ?_
 try clear z1z
 refine aB0 R.ow λO1 Y z1z ro hh=> ?_
 subst z1z
 have nod:=F.nod
 have inY:∀ {p},p∈Y->p∈O1++Y++X:=λh=>List.mem_append.mpr (.inl (List.mem_append.mpr (.inr h)))
 have inO:∀ {p},p∈O1++Y++X->p∈Z++(O1++Y++X):=λh=>List.mem_append.mpr (.inr h)
 have fY:∀ a,a∈aJ9 l->∃ o o',σ.hp a=some (.same o)/\(∀ vs,o.data≠ .fields vs)/\(a,o')∈Y/\∃ sl,o'={ o with slots:=sl }:=λa ha=>by
  refine aA1 (W.low_at ha) λo h1 h2=> ?_
  refine aA1 (hh a _ h1) λo' hm h9=>aA3 h9 λsl ho=> ?_
  exact ⟨o,o',h1,h2,hm,sl,ho⟩
 have keepB:∀ a o,s.heap.get? a=some o->a∉hid env Z l->h'.get? a=some o:=λa o ha hn=>st a o (hideAll_get _ ha hn)
 have notFl:∀ {a o},h'.get? a=some o->(∃ vs,o.data= .fields vs)->a∉aJ9 l/\a≠env.locals:=λ{a o} ha ⟨vs,hv⟩=>by
  refine ⟨λhm=> ?_,λq=> ?_⟩
  ·refine bD7 (fY a hm) λo1 o2 b1 b2 b3 h9=>aA3 h9 λsl b4=> ?_
   obtain ⟨sl',hs⟩:=up a o2 (F.opn _ (inO (inY b3))) (by rw [b4]; exact b2)
   rw [hs] at ha; cases ha
   rw [b4] at hv; exact b2 vs hv
  ·subst q
   refine aM6 F.ns λoL es ep hL hdd _=> ?_
   obtain ⟨sl',hs⟩:=up _ oL hL λvs q=>by rw [hdd] at q; cases q
   rw [hs] at ha; cases ha
   rw [show ({ oL with slots:=sl' }:Obj).data=oL.data from rfl,hdd] at hv; cases hv
 refine bD5 hZ1 λoe0 Z1 z1z=> ?_
 try clear hZ1
 subst z1z
 have eoff:=F.offO (e,oe0) (.head _)
 have hBZ:∀ p∈(e,oe0)::Z1,∀ a o,B a=some o->a≠p.1:=λp hp a o hB q=>by
  have:=(F.offO p (List.mem_append.mpr (.inl hp))).1
  rw [<- q,hB] at this; cases this
 have offHid:∀ a,B a≠none\/h0.h a≠none->a∉hid env ((e,oe0)::Z1) l:=λa h hm=>by
  rcases List.mem_append.mp hm with hm | hm
  ·refine aA1 (List.mem_map.mp hm) λp hp z1z=> ?_
   subst z1z
   have:=F.offO p (List.mem_append.mpr (.inl hp))
   rcases h with h | h
   ·exact h this.1
   ·exact h this.2.1
  ·rcases List.mem_cons.mp hm with rfl | hm
   ·rcases h with h | h
    ·exact h F.offL.1
    ·exact h F.offL.2
   ·refine bD7 (fY a hm) λ_ o' _ _ b3 _=> ?_
    have:=F.offO (a,o') (inO (inY b3))
    rcases h with h | h
    ·exact h this.1
    ·exact h this.2.1
 have nodZ:∀ p∈(e,oe0)::Z1,∀ q∈O1++Y++X,p.1≠q.1:=λp hp q hq z=>by
  rw [List.map_append,List.nodup_append] at nod
  exact nod.2.2 p.1 (List.mem_map_of_mem hp) q.1 (List.mem_map_of_mem hq) z
 have stay:∀ q∈O1++Y++X,q.1∉aJ9 l->h'.get? q.1=some q.2:=λq hq hn=>by
  refine keepB q.1 q.2 (F.opn q (List.mem_append.mpr (.inr hq))) λhm=> ?_
  rcases List.mem_append.mp hm with hm | hm
  ·refine aA1 (List.mem_map.mp hm) λp hp z=> ?_
   exact nodZ p hp q hq z
  ·rcases List.mem_cons.mp hm with z | hm
   ·exact (F.offO q (List.mem_append.mpr (.inr hq))).2.2.1 z
   ·exact hn hm
 have nod2:((O1++Y++X).map (·.1)).Nodup:=by
  rw [List.map_append,List.nodup_append] at nod
  exact nod.2.1
 have one:∀ p∈O1++Y++X,∀ q∈O1++Y++X,p.1=q.1->p=q:=λp hp q hq z=>by
  have key:∀ {L:OL},(L.map (·.1)).Nodup->∀ p∈L,∀ q∈L,p.1=q.1->p=q:=by
   intro L
   induction L with
   | nil=>intro _ p hp; cases hp
   | cons x L ih=>
    intro hn p hp q hq z
    rw [List.map_cons,List.nodup_cons] at hn
    rcases List.mem_cons.mp hp with e1 | hp1
    ·rcases List.mem_cons.mp hq with e2 | hq1
     ·rw [e1,e2]
     ·exact absurd (by rw [<- e1,z]; exact List.mem_map_of_mem (f:=(·.1)) hq1) hn.1
    ·rcases List.mem_cons.mp hq with e2 | hq1
     ·exact absurd (by rw [<- e2,<-z]; exact List.mem_map_of_mem (f:=(·.1)) hp1) hn.1
     ·exact ih hn.2 p hp1 q hq1 z
  exact key nod2 p hp q hq z
 let nu:Addr×Obj->Addr×Obj:=λp=>(p.1,(h'.get? p.1).getD p.2)
 have nu1:∀ p,(nu p).1=p.1:=λ_=>rfl
 have nuStay:∀ q∈O1++Y++X,q.1∉aJ9 l->nu q=q:=λq hq hn=>by
  show (q.1,(h'.get? q.1).getD q.2)=q
  rw [stay q hq hn]; rfl
 have inF:∀ q∈O1++Y++X,q.1∈aJ9 l->q∈Y:=λq hq hm=>by
  refine bD7 (fY q.1 hm) λ_ o' _ _ b3 _=> ?_
  have:=one q hq (q.1,o') (inY b3) rfl
  rw [this]; exact b3
 have mapStay:∀ {L:OL},(∀ q∈L,nu q=q)->L.map nu=L:=λ{L} h=>by
  induction L with
  | nil=>rfl
  | cons x L ih=>rw [List.map_cons,h x (.head _),ih λq hq=>h q (.tail _ hq)]
 have apartY:∀ q,(q∈O1\/q∈X)->q.1∉aJ9 l:=λq hq hm=>by
  refine bD7 (fY q.1 hm) λ_ o' _ _ b3 _=> ?_
  rw [List.map_append,List.map_append,List.nodup_append,List.nodup_append] at nod2
  rcases hq with hq | hq
  ·exact nod2.1.2.2 q.1 (List.mem_map_of_mem hq) q.1 (List.mem_map.mpr ⟨_,b3,rfl⟩) rfl
  ·exact nod2.2.2 q.1 (List.mem_append.mpr (.inr (List.mem_map.mpr ⟨_,b3,rfl⟩))) q.1 (List.mem_map_of_mem hq) rfl
 have hO1:O1.map nu=O1:=mapStay λq hq=>nuStay q (List.mem_append.mpr (.inl (List.mem_append.mpr (.inl hq)))) (apartY q (.inl hq))
 have hX:X.map nu=X:=mapStay λq hq=>nuStay q (List.mem_append.mpr (.inr hq)) (apartY q (.inr hq))
 have nuAt:∀ q∈O1++Y++X,h'.get? q.1=some (nu q).2:=λq hq=>by
  by_cases hm:q.1∈aJ9 l
  ·refine bD7 (fY q.1 hm) λo o' b1 b2 b3 h9=>aA3 h9 λsl b4=> ?_
   obtain ⟨sl',hs⟩:=up q.1 o' (F.opn _ (inO (inY b3))) (by rw [b4]; exact b2)
   show _=some ((h'.get? q.1).getD q.2)
   rw [hs]; rfl
  ·rw [nuStay q hq hm]; exact stay q hq hm
 have hmap:((O1++Y++X).map nu).map (·.1)=(O1++Y++X).map (·.1):=by rw [List.map_map]; rfl
 have tbCase:tb∈((e,oe0)::Z1).map (·.1)\/s.heap.get? tb=none:=by
  rcases cI hnT with h | h
  ·rcases List.mem_append.mp h with h | h
   ·exact .inl h
   ·refine aB (notFl hT ⟨_,hdT⟩) λn1 n2=> ?_
    rcases List.mem_cons.mp h with h | h
    ·exact absurd h n2
    ·exact absurd h n1
  ·exact .inr h
 have tbOff:B tb=none/\h0.h tb=none/\tb≠env.locals/\(∀ x c,env.cells.lookup x=some c->c≠tb)/\∀ q∈O1++Y++X,q.1≠tb:=by
  rcases tbCase with h | h
  ·refine aA1 (List.mem_map.mp h) λp hp z1z=> ?_
   subst z1z
   refine aO7 (F.offO p (List.mem_append.mpr (.inl hp))) λa1 a2 a3 a4=> ?_
   exact ⟨a1,a2,a3,a4,λq hq z=>nodZ p hp q hq z.symm⟩
  ·refine ⟨?_, ?_, ?_, ?_, ?_⟩
   ·cases z:B tb with
    | none=>rfl
    | some o=>rw [F.sub _ _ z] at h; cases h
   ·cases z:h0.h tb with
    | none=>rfl
    | some o=>rw [F.old _ _ z] at h; cases h
   ·rintro rfl
    refine aA3 (aK3 F.ns) λo ho=> ?_
    rw [ho] at h; cases h
   ·rintro x c hc rfl
    refine aA1 (F.cel x c hc) λo ho _=> ?_
    rw [ho] at h; cases h
   ·rintro q hq rfl
    rw [F.opn q (inO hq)] at h; cases h
 subst ha0
 refine ⟨oe,oT,vs,ts,tb,(O1++Y).map nu,hc,hd,h00,h1,hdT,h3, ?_, ?_⟩
 ·have eO:(O1++Y).map nu++X=(O1++Y++X).map nu:=by rw [List.map_append (l₁:=O1++Y),hX]
  rw [eO]
  refine ⟨up.ns F.ns,λx c hx=> ?_,λa o ha=> ?_,λa o ha=> ?_,λp hp=> ?_,F.offL,F.offC,F.cinj,λp hp=> ?_, ?_,F.gl,F.gens,F.oss,F.nw⟩
  ·refine aA1 (F.cel x c hx) λo ho hcd=> ?_
   refine ⟨o,keepB c o ho λhm=> ?_,hcd⟩
   rcases List.mem_append.mp hm with hm | hm
   ·refine aA1 (List.mem_map.mp hm) λp hp z=> ?_
    exact (F.offO p (List.mem_append.mpr (.inl hp))).2.2.2 x c hx z.symm
   ·rcases List.mem_cons.mp hm with z | hm
    ·exact (F.offC x c hx).2 z
    ·refine bD7 (fY c hm) λ_ o' _ _ b3 _=> ?_
     exact (F.offO _ (inO (inY b3))).2.2.2 x c hx rfl
  ·exact keepB a o (F.old a o ha) (offHid a (.inr (by rw [ha]; intro q; cases q)))
  ·exact keepB a o (F.sub a o ha) (offHid a (.inl (by rw [ha]; intro q; cases q)))
  ·rcases List.mem_append.mp hp with hp | hp
   ·rcases List.mem_cons.mp hp with rfl | hp
    ·exact he
    ·rw [List.mem_singleton.mp hp]; exact hT
   ·refine aA1 (List.mem_map.mp hp) λq hq z1z=> ?_
    subst z1z
    exact nuAt q hq
  ·rcases List.mem_append.mp hp with hp | hp
   ·rcases List.mem_cons.mp hp with rfl | hp
    ·exact eoff
    ·rw [List.mem_singleton.mp hp]; exact ⟨tbOff.1,tbOff.2.1,tbOff.2.2.1,tbOff.2.2.2.1⟩
   ·refine aA1 (List.mem_map.mp hp) λq hq z1z=> ?_
    subst z1z
    exact F.offO q (inO hq)
  ·rw [List.map_append,hmap,List.nodup_append]
   refine ⟨?_,nod2, ?_⟩
   ·show [e,tb].Nodup
    rw [List.nodup_cons]
    exact ⟨by rw [List.mem_singleton]; exact λz=>hTe z.symm,by simp⟩
   ·intro a ha b hb z
    refine aA1 (List.mem_map.mp hb) λq hq z1z=> ?_
    subst z1z
    have ha:a=e\/a=tb:=by simpa using ha
    rcases ha with rfl | rfl
    ·exact nodZ _ (.head _) q hq z
    ·exact tbOff.2.2.2.2 q hq z.symm
 ·refine ⟨R.fz,O1,Y.map nu,by rw [List.map_append,hO1],ro,λa b hb=> ?_⟩
  refine aA1 (hh a b hb) λo hm hi=> ?_
  refine ⟨(nu (a,o)).2,List.mem_map.mpr ⟨(a,o),hm,rfl⟩, ?_⟩
  by_cases hf:a∈aJ9 l
  ·refine bD7 (fY a hf) λo1 o2 b1 b2 b3 h9=>aA3 h9 λsl b4=> ?_
   rw [b1] at hb; cases hb
   obtain ⟨sl',hs⟩:=up a o2 (F.opn _ (inO (inY b3))) (by rw [b4]; exact b2)
   refine ⟨sl', ?_⟩
   show (h'.get? a).getD o=_
   rw [hs,b4]; rfl
  ·rw [nuStay (a,o) (inY hm) hf]; exact hi
end
theorem Fly.fields {B:PM}{L:Addr}{cls:Value}{args:List T}{e:Addr}{Z:OL}(h:Fly B L cls args e Z):(∀ p∈Z,∃ vs,p.2.data= .fields vs)/\∃ oe Z1,Z=(e,oe)::Z1:=by
 cases h with
 | first a b c d f=>exact ⟨λp hp=>by rw [List.mem_singleton.mp hp]; exact ⟨_,b⟩,_,_,rfl⟩
 | next a b c d f g i j=>exact ⟨λp hp=>by
   rcases List.mem_cons.mp hp with rfl | hp
   ·exact ⟨_,b⟩
   ·rw [List.mem_singleton.mp hp]; exact ⟨_,g⟩,_,_,rfl⟩
theorem Fly.mono {B B':PM}{L:Addr}{cls:Value}{args:List T}{e:Addr}{Z:OL}(l:B.le B')(h:Fly B L cls args e Z):Fly B' L cls args e Z:=by
 cases h with
 | first a b c d f=>exact .first a b c (d.mono l) f
 | next a b c d f g i j=>exact .next a b c (d.mono l) f g i j
section
variable {w:World}{A:Around}{h0:aA8}{env:Env}{os:OsState}{σ:Sg}{B:PM}{O X Z:OL}{m cm:NM}{s:Shared}{l:List Env}{cls:Value}{args:List T}{e:Addr}{Q:Unit->Shared->Prop}{E:VP}
theorem bP8 {oe:Obj}{Z1:OL}:(hideAll s.heap (hid env ((e,oe)::Z1) l)).get? e=none:=hideAll_none _ (List.mem_append.mpr (.inl (.head _)))
theorem cR5 {oe oT:Obj}{tb:Addr}:(hideAll s.heap (hid env [(e,oe),(tb,oT)] l)).get? tb=none:=hideAll_none _ (List.mem_append.mpr (.inl (.tail _ (.head _))))
theorem aK5:(hideAll s.heap (hid env Z l)).StaysIn s.heap:=λb o h=>of_hideAll _ h
theorem bC0 {oe oT:Obj}{vs ts:Array Value}{t tb:Addr}{fl:Value}(F:Fm w h0 env B ([(e,oe),(tb,oT)]++(O++X)) m cm os s)(hc:oe.cls=cls)(hd:oe.data= .fields vs)(h0':vs[0]? =some (.ref t))(h1:vs[1]? =some (.ref tb))(hT:oT.data= .fields ts)(h3:ts[3]? =some fl):
  s.heap.TracedAtW (hideAll s.heap (hid env [(e,oe),(tb,oT)] l)) e cls (.ref t) fl:=by
 have hne:tb≠e:=λq=>by
  have:=F.nod
  rw [List.map_append,List.nodup_append] at this
  have:=(List.nodup_cons.mp this.1).1
  exact this (by rw [q]; exact .head _)
 exact ⟨oe,vs,tb,oT,ts,F.opn (e,oe) (.head _),⟨hc,h0'⟩,hd,h1,cR5,hne,F.opn (tb,oT) (.tail _ (.head _)),hT,h3⟩
theorem bZ0 (F:Fm w h0 env B (Z++(O++X)) m cm os s)(R:Rl env σ B O m cm)(W:aC9 A env σ l)(Fl:Fly B env.locals cls args e Z)
  (q:∀ s' Z' O',(∀ L,Fly B L cls args e Z')->Fm w h0 env B (Z'++(O'++X)) m cm os s'->Rl env σ B O' m cm->Q () s'):wpAny (model pw w) A (leaving env (.ref e)) Q E s:=by
 refine aB Fl.fields λhZ hZ1=> ?_
 have fr:=bC F R W
 have fin:∀ {t:Addr} {h':Heap},Val B (.ref t) (.tup args)->(hideAll s.heap (hid env Z l)).StaysIn h'->s.heap.UpToSlots h'->h'.TracedAtW (hideAll s.heap (hid env Z l)) e cls (.ref t) .none->Q () { s with heap:=h' }:=λ{t h'} ht st up tr=>by
  refine cU0 (Fm.step F R W hZ hZ1 st up tr rfl ht s.toks) λoe oT vs ts tb O' a1 a2 a3 a4 a5 a6 F' R'=> ?_
  exact q _ _ O' (λL=> .next a1 a2 a3 ht a4 a5 a6 (.inl rfl)) F' R'
 cases Fl with
 | first hc hd h00 ht h1=>
  refine wpAny_leaving_firstW W.fr fr W.own (F.opn _ (.head _)) aK5 bP8 hd h1 h00 λh' hL=> ?_
  subst hc
  exact fin ht hL.1 hL.2.2.2 hL.2.2.1
 | next hc hd h00 ht h1 hT h3 hfl=>
  have tr:=bC0 (l:=l) F hc hd h00 h1 hT h3
  rcases hfl with rfl | rfl
  ·refine wpAny_leaving_nextW W.fr fr W.own tr aK5 bP8 λh' hL=> ?_
   exact fin ht hL.1 hL.2.2.2 hL.2.2.1
  ·unfold leaving
   refine wpAny_bind (wpAny_noteFrame_againW W.own tr ?_)
   exact wpAny_setFlight_noneW aK5 fr tr λh' k1 k2 k3 k4=>fin ht k1 (λb o hb hn=>⟨o.slots,k4 b o hb hn⟩) k3
theorem bZ1 (F:Fm w h0 env B (Z++(O++X)) m cm os s)(R:Rl env σ B O m cm)(W:aC9 A env σ l)(Fl:Fly B env.locals cls args e Z)
  (q:∀ s' oe oT vs ts t tb O',oe.cls=cls->oe.data= .fields vs->vs[0]? =some (.ref t)->Val B (.ref t) (.tup args)->vs[1]? =some (.ref tb)->oT.data= .fields ts->ts[3]? =some (rawInt env.locals)->Fm w h0 env B ([(e,oe),(tb,oT)]++(O'++X)) m cm os s'->Rl env σ B O' m cm->Q () s'):wpAny (model pw w) A (noteFrame (.ref e) env) Q E s:=by
 refine aB Fl.fields λhZ hZ1=> ?_
 have fr:=bC F R W
 have fin:∀ {t:Addr} {h':Heap},Val B (.ref t) (.tup args)->(hideAll s.heap (hid env Z l)).StaysIn h'->s.heap.UpToSlots h'->h'.TracedAtW (hideAll s.heap (hid env Z l)) e cls (.ref t) (rawInt env.locals)->Q () { s with heap:=h' }:=λ{t h'} ht st up tr=>by
  refine cU0 (Fm.step F R W hZ hZ1 st up tr rfl ht s.toks) λoe oT vs ts tb O' a1 a2 a3 a4 a5 a6 F' R'=> ?_
  exact q _ _ _ _ _ _ _ O' a1 a2 a3 ht a4 a5 a6 F' R'
 cases Fl with
 | first hc hd h00 ht h1=>
  unfold noteFrame
  simp only [W.own]
  refine wpAny_bind (wpAny_field (F.opn _ (.head _)) hd h1 ?_)
  rw [if_neg (by decide)]
  refine wpAny_entryW W.fr fr W.own (F.opn _ (.head _)) aK5 bP8 hd (Array.getElem?_eq_some_iff.mp h1).1 h00 λh' hL=> ?_
  subst hc
  exact fin ht hL.1 hL.2.2.2 hL.2.2.1
 | next hc hd h00 ht h1 hT h3 hfl=>
  have tr:=bC0 (l:=l) F hc hd h00 h1 hT h3
  rcases hfl with rfl | rfl
  ·refine wpAny_noteFrame_onW W.fr fr W.own tr aK5 bP8 λh' hL=> ?_
   exact fin ht hL.1 hL.2.2.2 hL.2.2.1
  ·exact wpAny_noteFrame_againW W.own tr (q s _ _ _ _ _ _ O hc hd h00 ht h1 hT h3 F R)
theorem aX0 (fr':Option Addr){oe oT:Obj}{vs ts:Array Value}{tb:Addr}{fl:Value}(F:Fm w h0 env B ([(e,oe),(tb,oT)]++(O++X)) m cm os s)(hd:oe.data= .fields vs)(h1:vs[1]? =some (.ref tb))(hT:oT.data= .fields ts)(h3:ts[3]? =some fl)
  (q:∀ s' oT' ts',oT'.data= .fields ts'->ts'[3]? =some (fr'.elim .none λf=>rawInt f)->Fm w h0 env B ([(e,oe),(tb,oT')]++(O++X)) m cm os s'->Q () s'):wpAny (model pw w) A (setFlight (.ref e) fr') Q E s:=by
 have hz:3<ts.size:=(Array.getElem?_eq_some_iff.mp h3).1
 have hT0:=F.opn (tb,oT) (.tail _ (.head _))
 unfold setFlight
 refine wpAny_bind (wpAny_field (F.opn (e,oe) (.head _)) hd h1 ?_)
 rw [if_pos (show (Value.ref tb != Value.none)=true from by simp)]
 refine wpAny_setField hT0 hT hz ?_
 refine q _ (Obj.mapFields (·.setIfInBounds 3 (fr'.elim Value.none λf=>rawInt f)) oT) (ts.setIfInBounds 3 (fr'.elim Value.none λf=>rawInt f)) (Obj.data_mapFields hT _) (by simp [hz]) ?_
 have F1:Fm w h0 env B ([(e,oe)]++(tb,oT)::(O++X)) m cm os s:=F
 exact F1.turn (Heap.get?_update_self _ hT0 (Obj.isFreed_of_fields (Obj.data_mapFields hT _))) (Heap.SameBut.update ..) s.toks
end
structure Yh (B:PM)(Y:OL)(s:Shared):Prop where
 at_:∀ p∈Y,s.heap.get? p.1=some p.2
 off:∀ p∈Y,B p.1=none
 nod:(Y.map (·.1)).Nodup
structure bZ2 (os:OsState)(B:PM)(Y:OL)(s:Shared)(B':PM)(Y':OL)(s':Shared):Prop where
 le:B.le B'
 keep:∀ a o,s.heap.get? a=some o->(∀ p∈Y,p.1≠a)->s'.heap.get? a=some o
 sub:∀ a o,B' a=some o->s'.heap.get? a=some o
 new:∀ a,B a=none->B' a≠none->(∃ q∈Y,q.1=a)\/s.heap.get? a=none
 y:Yh B' Y' s'
 ynew:∀ p∈Y',(∃ q∈Y,q.1=p.1)\/s.heap.get? p.1=none
 gens:s'.gens= #[]
 oss:s'.os=os
noncomputable def FnH (w:World)(os:OsState)(n:Nat)(a:Addr)(as:List T)(hp:Hp)(P:Rs->Hp->Prop):Prop:=
 ∀ (A:Around) (B:PM) (Y:OL) (s:Shared) (vs:List Value) (K:Result->Shared->Prop),aD6 n A->Frm A hp->
  (∀ a o,B a=some o->s.heap.get? a=some o)->(∀ a o,(H1 w.params).get? a=some o->B a=some o)->Yh B Y s->Hps B hp Y->s.gens= #[]->s.os=os->aA6 B vs as->
  (∀ t v s' B' Y' hp',P (.val t) hp'->aA4 hp hp'->bZ2 os B Y s B' Y' s'->Hps B' hp' Y'->Val B' v t->K (.ok (.ret v)) s')->
  (∀ cls args e s' B' Y' Z hp',P (.exc cls args) hp'->aA4 hp hp'->bZ2 os B Y s B' (Z++Y') s'->Hps B' hp' Y'->(∀ L,Fly B' L cls args e Z)->K (.error (.ref e)) s')->
  codeAny (model pw w) A (.call (.ref a) ⟨vs,[]⟩) K s
theorem FnH.mono {w:World}{os:OsState}{n:Nat}{a:Addr}{as:List T}{hp:Hp}{P P':Rs->Hp->Prop}(h:FnH w os n a as hp P)(i:∀ r hp',P r hp'->P' r hp'):FnH w os n a as hp P':=
 λA B Y s vs K a1 a2 a3 a4 a5 a6 a7 a8 a9 q qe=>h A B Y s vs K a1 a2 a3 a4 a5 a6 a7 a8 a9 (λt v s' B' Y' hp' p=>q t v s' B' Y' hp' (i _ _ p)) λcls args e s' B' Y' Z hp' p=>qe cls args e s' B' Y' Z hp' (i _ _ p)
noncomputable def aF4 (w:World)(fd:FuncData)(as:List T)(names:List Str)(as':List T):Prop:=
 ∀ (A:Around) (B:PM) (s:Shared) (vs:List Value) (Q:List (Str×Value)->Shared->Prop) (E:VP),(∀ a o,B a=some o->s.heap.get? a=some o)->(∀ a o,(H1 w.params).get? a=some o->B a=some o)->aA6 B vs as->
  (∀ us h' tk B',B.le B'->(∀ a o,s.heap.get? a=some o->h'.get? a=some o)->(∀ a o,B' a=some o->h'.get? a=some o)->(∀ a,B a=none->B' a≠none->s.heap.get? a=none)->aA6 B' us as'->Q (names.zip us) { s with heap:=h',toks:=tk })->
  wpAny (model pw w) A (bindArgs fd ⟨vs,[]⟩) Q E s
noncomputable def mask (h:Heap)(Y:OL):PM:=λx=>if Y.any (λp=>p.1 == x) then none else h.get? x
theorem bC1 {h:Heap}{Y:OL}{p:Addr×Obj}(hp:p∈Y):mask h Y p.1=none:=if_pos (List.any_eq_true.mpr ⟨p,hp,by simp⟩)
theorem bP9 {h:Heap}{Y:OL}{a:Addr}(hn:∀ p∈Y,p.1≠a):mask h Y a=h.get? a:=if_neg λq=>by
 refine aA1 (List.any_eq_true.mp q) λp hp e=> ?_
 exact hn p hp (by simpa using e)
theorem aT2 {h:Heap}{Y:OL}{a:Addr}{o:Obj}(e:mask h Y a=some o):h.get? a=some o/\∀ p∈Y,p.1≠a:=by
 unfold mask at e
 split at e
 ·cases e
 ·rename_i q
  exact ⟨e,λp hp z=>q (List.any_eq_true.mpr ⟨p,hp,by simpa using z⟩)⟩
theorem bI4 {h:Heap}{Y:OL}{a:Addr}(e:mask h Y a=none):(∃ p∈Y,p.1=a)\/h.get? a=none:=by
 unfold mask at e
 split at e
 ·rename_i q
  refine aA1 (List.any_eq_true.mp q) λp hp z=> ?_
  exact .inl ⟨p,hp,by simpa using z⟩
 ·exact .inr e
section
variable {w:World}{A:Around}{h0:aA8}{env:Env}{os:OsState}{σ:Sg}{P:Rs->Hp->Prop}{n:Nat}{hp:Hp}
theorem aD {l:List Env}(hl:A.frames=some l)(h:∀ env∈l,env.scope.kind≠ .module/\∃ f o,env.frame=some f/\σ.hp f=some (.same o)/\∀ vs,o.data≠ .fields vs)(hk:env.scope.kind= .function)(hf:env.frame=some env.locals):aC9 (A.deeper env) env σ l:=
 ⟨Around.frames_deeper hl,hf,by rw [hk]; decide,h⟩
theorem aW {B B':PM}{Y O':OL}{s s':Shared}{m cm:NM}(F:Fm w ⟨mask s.heap Y,B⟩ env B' O' m cm os s')(l:B.le B')(Y':OL)(sub:∀ p∈Y',p∈O')(nod:(Y'.map (·.1)).Nodup):bZ2 os B Y s B' Y' s':=by
 refine ⟨l,λa o ha hn=>F.old a o ((bP9 hn).trans ha),F.sub,λa ha hb=> ?_,⟨λp hp=>F.opn p (sub p hp),λp hp=>(F.offO p (sub p hp)).1,nod⟩,λp hp=>bI4 (F.offO p (sub p hp)).2.1,F.gens,F.oss⟩
 cases e:B' a with
 | none=>exact absurd e hb
 | some o=>
  rcases F.nw a o e with z | z
  ·rw [show B a=some o from z] at ha; cases ha
  ·exact bI4 z
theorem FnH.of_body {a:Addr}{o:Obj}{fd:FuncData}{body:List Stmt}{as as':List T}{names:List Str}(ho:(H1 w.params).get? a=some o)(hdata:o.data= .func fd)(hlim:(H1 w.params).NoLimit)(hcd:(H1 w.params).CodeRec fd.code fd.qualname)
  (hbody:fd.body= .stmts body) (hbind:aF4 w fd as names as') (hnl:names.length=as'.length) (hnd:names.Nodup) (hcell:∀ x∈fd.scope.names,x.2≠ .cell) (hloc:∀ x∈names,fd.scope.names.lookup x=some .local)
  (hco:fd.scope.isCoroutine=false) (hgen:fd.scope.isGenerator=false) (hk:fd.scope.kind= .function) (hcl:fd.closure=[])
  (h:∀ (A:Around) (h0:aA8) (L:Addr),aD6 n A->Frm A hp->hp L=none->ExE w (A.deeper (callEnv fd L a)) h0 (callEnv fd L a) os ⟨λx=>(names.zip as').lookup x,[],hp⟩ body (fnP P (aA4 hp))):FnH w os n a as hp P:=by
 intro A B0 Y s0 vs0 K RA FA su0 gl0 hY0 hh0 hg hos V0 q qe
 refine codeAny_call_function (Nat.lt_of_le_of_lt (Nat.le_add_right _ n) (Nat.lt_trans RA.depth (by decide))) (su0 _ _ (gl0 _ _ ho)) hdata hco hgen hbody ?_ (hbind _ B0 s0 vs0 _ _ su0 gl0 V0 λvs h1 tk B lB ke su nwB V=> ?_)
 ·obtain ⟨c,o,vs,t,a1,a2,a3⟩:=hcd; exact ⟨c,o,vs,t,a1,su0 _ _ (gl0 _ _ a2),a3⟩
 have gl:∀ a o,(H1 w.params).get? a=some o->B a=some o:=λa o e=>lB _ _ (gl0 a o e)
 have hlim':h1.NoLimit:=by obtain ⟨mc,hn,e⟩:=hlim; exact ⟨mc,aC hn λo e=>su _ _ (gl _ _ e),e⟩
 have offY:∀ p∈Y,B p.1=none:=λp hp=>by
  cases e:B p.1 with
  | none=>rfl
  | some x=>have:=nwB p.1 (hY0.off p hp) (by rw [e]; intro z; cases z); rw [hY0.at_ p hp] at this; cases this
 have hvl:vs.length=as'.length:=V.length
 refine wpAny_newFunctionEnv (s:={ s0 with heap:=h1,toks:=tk }) hcell (λx hx=>hloc _ (List.of_mem_zip hx).1) (λh₁ hns hsb₀=>⟨hlim'.fresh _ hsb₀,codeAny_func ?_⟩) hk
 ·have hk₁:∀ b o,h1.get? b=some o->h₁.get? b=some o:=λb o e=>hsb₀.extBut b o (Nat.ne_of_lt (Heap.lt_size e)) (Heap.get?_push_of_some _ e)
  have hB:B h1.objs.size=none:=by
   cases e:B h1.objs.size with
   | none=>rfl
   | some o=>have:=su _ _ e; rw [aA7] at this; cases this
  have hYL:∀ p∈Y,p.1≠h1.objs.size:=λp hp z=>by have:=ke _ _ (hY0.at_ p hp); rw [z,aA7] at this; cases this
  have hs0L:s0.heap.get? h1.objs.size=none:=by
   cases e:s0.heap.get? h1.objs.size with
   | none=>rfl
   | some o=>have:=ke _ _ e; rw [aA7] at this; cases this
  have hpL:hp h1.objs.size=none:=by
   cases e:hp h1.objs.size with
   | none=>rfl
   | some b=>obtain ⟨o,hm,_⟩:=hh0 _ _ e; exact absurd rfl (hYL _ hm)
  have hc0:(callEnv fd h1.objs.size a).cells=[]:=hcl
  have nc:∀ x c,(callEnv fd h1.objs.size a).cells.lookup x=some c->False:=λx c e=>by rw [hc0] at e; cases e
  have F:Fm w ⟨mask s0.heap Y,B0⟩ (callEnv fd h1.objs.size a) B (Y++[]) (λx=>(names.zip vs).reverse.lookup x) (λ_=>none) os { s0 with heap:=h₁,toks:=tk+(names.zip vs).length }:=by
   rw [List.append_nil]
   refine ⟨hns,λx c e=>(nc x c e).elim,λa o e=>hk₁ _ _ (ke _ _ (aT2 e).1),λa o e=>hk₁ _ _ (su a o e),λp hp=>hk₁ _ _ (ke _ _ (hY0.at_ p hp)),⟨hB,(bP9 hYL).trans hs0L⟩,λx c e=>(nc x c e).elim,λx y c e=>(nc x c e).elim,λp hp=>⟨offY p hp,bC1 hp,hYL p hp,λx c e=>(nc x c e).elim⟩,hY0.nod,gl,hg,hos,λa o e=> ?_⟩
   cases z:B0 a with
   | some x=>have:=lB _ _ z; rw [e] at this; cases this; exact .inl z
   | none=>
    have:=nwB a z (by rw [e]; intro y; cases y)
    refine .inr ?_
    show mask s0.heap Y a=none
    unfold mask
    split
    ·rfl
    ·exact this
  have R:Rl (callEnv fd h1.objs.size a) ⟨λx=>(names.zip as').lookup x,[],hp⟩ B Y (λx=>(names.zip vs).reverse.lookup x) (λ_=>none):=by
   refine ⟨λx u hx=> ?_,[],Y,rfl, .nil,hh0.mono lB⟩
   refine aA1 (aQ8 V names x u hx) λv hv Vv=> ?_
   refine ⟨v, ?_,Vv⟩
   have hl:(callEnv fd h1.objs.size a).kindOf x=some .local:=by
    have hm:x∈names:=by
     have:=aD7 hx
     exact (List.of_mem_zip this).1
    show fd.scope.names.lookup x=some .local
    exact hloc x hm
   unfold aB7
   rw [hl]
   show (names.zip vs).reverse.lookup x=some v
   rw [aW7 _ (by rw [List.map_fst_zip (by room)]; exact hnd)]
   exact hv
  refine aA1 FA λlf hlf hlow=> ?_
  try clear FA
  refine h A ⟨mask s0.heap Y,B0⟩ h1.objs.size RA ⟨lf,hlf,hlow⟩ hpL B Y [] _ _ _ _ _ F R ⟨λfl σ' f s' B' O' m' cm' p r l F' R'=> ?_,λcls args σ' e s' B' Z O' m' cm' p fly l F' R'=> ?_⟩
  ·refine aB0 R'.ow λO1 Y' z1z ro hh'=> ?_
   subst z1z
   have nod:=F'.nod
   rw [List.append_nil,List.map_append,List.nodup_append] at nod
   have G:=aW F' (lB.trans l) Y' (λp hp=>by simp [hp]) nod.2.1
   refine aB p λk p=> ?_
   cases r with
   | next=>exact q _ _ s' B' Y' _ p k G hh' .none
   | brk=>exact p.elim
   | cont=>exact p.elim
   | ret V'=>exact q _ _ s' B' Y' _ p k G hh' V'
  ·have Wy:aC9 (A.deeper (callEnv fd h1.objs.size a)) (callEnv fd h1.objs.size a) σ' lf:=aD hlf (bB0 hlow p.1) hk rfl
   refine bZ0 F' R' Wy fly λs'' Z' O'' fly' F'' R''=> ?_
   refine aB0 R''.ow λO1 Y' z1z ro hh'=> ?_
   subst z1z
   have nod:=F''.nod
   rw [List.append_nil] at nod
   have nod2:((Z'++Y').map (·.1)).Nodup:=by
    rw [List.map_append,List.map_append,List.nodup_append,List.nodup_append] at nod
    rw [List.map_append,List.nodup_append]
    exact ⟨nod.1,nod.2.1.2.1,λa ha b hb=>nod.2.2 a ha b (List.mem_append.mpr (.inr hb))⟩
   have G:=aW F'' (lB.trans l) (Z'++Y') (λp hp=>by
    rcases List.mem_append.mp hp with hp | hp
    ·exact List.mem_append.mpr (.inl hp)
    ·exact List.mem_append.mpr (.inr (List.mem_append.mpr (.inl (List.mem_append.mpr (.inr hp)))))) nod2
   exact qe cls args e s'' B' Y' Z' _ p.2 p.1 G hh' fly'
end
noncomputable def aT3 (L:Addr)(l:OL):List (Addr×Obj):=l.filter λp=>p.1 != L
theorem aI4 {L:Addr}{l:OL}{p:Addr×Obj}:p∈aT3 L l↔p∈l/\p.1≠L:=by simp [aT3,List.mem_filter]
theorem bZ3 {L:Addr}{l:OL}(h:(l.map (·.1)).Nodup):((aT3 L l).map (·.1)).Nodup:=h.sublist (List.filter_sublist.map _)
theorem cI0:∀ {l:OL},(l.map (·.1)).Nodup->∀ p∈l,∀ q∈l,p.1=q.1->p=q
 | [],_,p,hp,_,_,_=>by cases hp
 | x::l,hn,p,hp,q,hq,z=>by
  rw [List.map_cons,List.nodup_cons] at hn
  rcases List.mem_cons.mp hp with e1 | hp1
  ·rcases List.mem_cons.mp hq with e2 | hq1
   ·rw [e1,e2]
   ·exact absurd (by rw [<- e1,z]; exact List.mem_map_of_mem (f:=(·.1)) hq1) hn.1
  ·rcases List.mem_cons.mp hq with e2 | hq1
   ·exact absurd (by rw [<- e2,<-z]; exact List.mem_map_of_mem (f:=(·.1)) hp1) hn.1
   ·exact cI0 hn.2 p hp1 q hq1 z
section
variable {w:World}{A:Around}{h0:aA8}{env:Env}{os:OsState}{σ:Sg}{B B':PM}{O1 Y X V:OL}{m cm:NM}{s s':Shared}{oL:Obj}
theorem Fm.calledH (F:Fm w h0 env B ((O1++Y)++X) m cm os s)(hL:s.heap.get? env.locals=some oL)(G:bZ2 os B ((env.locals,oL)::Y) s B' V s')(hV:∃ sl,(env.locals,({ oL with slots:=sl }:Obj))∈V):
  Fm w h0 env B' (aT3 env.locals V++(O1++X)) m cm os s':=by
 have inY:∀ {p},p∈Y->p∈(O1++Y)++X:=λh=>List.mem_append.mpr (.inl (List.mem_append.mpr (.inr h)))
 have inO:∀ {p},p∈O1++X->p∈(O1++Y)++X:=λh=>by
  rcases List.mem_append.mp h with h | h
  ·exact List.mem_append.mpr (.inl (List.mem_append.mpr (.inl h)))
  ·exact List.mem_append.mpr (.inr h)
 have nod:=F.nod
 have apart:∀ p∈O1++X,∀ q∈Y,q.1≠p.1:=λp hp q hq z=>by
  rw [List.map_append,List.map_append,List.nodup_append,List.nodup_append] at nod
  rcases List.mem_append.mp hp with hp | hp
  ·exact nod.1.2.2 p.1 (List.mem_map_of_mem hp) q.1 (List.mem_map_of_mem hq) z.symm
  ·exact nod.2.2 q.1 (List.mem_append.mpr (.inr (List.mem_map_of_mem hq))) p.1 (List.mem_map_of_mem hp) z
 refine aA3 hV λsl hV=> ?_
 have ke:∀ a o,s.heap.get? a=some o->a≠env.locals->(∀ q∈Y,q.1≠a)->s'.heap.get? a=some o:=λa o ha h1 h2=>G.keep a o ha λp hp=>by
  rcases List.mem_cons.mp hp with rfl | hp
  ·exact λz=>h1 z.symm
  ·exact h2 p hp
 have offB:∀ a,B a=none->(∃ o,s.heap.get? a=some o)->a≠env.locals->(∀ q∈Y,q.1≠a)->B' a=none:=λa hB ⟨o,ho⟩ h1 h2=>by
  cases e:B' a with
  | none=>rfl
  | some x=>
   rcases G.new a hB (by rw [e]; intro z; cases z) with ⟨q,hq,z⟩ | z
   ·rcases List.mem_cons.mp hq with rfl | hq
    ·exact absurd z.symm h1
    ·exact absurd z (h2 q hq)
   ·rw [ho] at z; cases z
 have offP:∀ p∈aT3 env.locals V,B' p.1=none/\h0.h p.1=none/\p.1≠env.locals/\(∀ x c,env.cells.lookup x=some c->c≠p.1)/\∀ q∈O1++X,q.1≠p.1:=λp hp=>by
  refine aB (aI4.mp hp) λhp hne=> ?_
  refine ⟨G.y.off p hp, ?_⟩
  rcases G.ynew p hp with ⟨q,hq,z⟩ | z
  ·rcases List.mem_cons.mp hq with rfl | hq
   ·exact absurd z.symm hne
   ·refine aO7 (F.offO q (inY hq)) λa1 a2 a3 a4=> ?_
    rw [<- z]
    exact ⟨a2,a3,a4,λr hr y=>apart r hr q hq y.symm⟩
  ·refine ⟨?_,hne, ?_, ?_⟩
   ·cases y:h0.h p.1 with
    | none=>rfl
    | some o=>rw [F.old _ _ y] at z; cases z
   ·rintro x c hc rfl
    refine aA1 (F.cel x _ hc) λo ho _=> ?_
    rw [ho] at z; cases z
   ·rintro r hr y
    rw [<- y,F.opn r (inO hr)] at z; cases z
 refine ⟨?_,λx c e=> ?_,λa o e=> ?_,G.sub,λp hp=> ?_,⟨G.y.off _ hV,F.offL.2⟩,λx c e=>⟨?_,(F.offC x c e).2⟩,F.cinj,λp hp=> ?_, ?_,λa o e=>G.le _ _ (F.gl a o e),G.gens,G.oss,λa o e=> ?_⟩
 ·refine aM6 F.ns λo es ep ho hd r=> ?_
  rw [hL] at ho; cases ho
  exact ⟨_,es,ep,G.y.at_ _ hV,hd,r⟩
 ·refine aA1 (F.cel x c e) λo ho hd=> ?_
  exact ⟨o,ke c o ho (F.offC x c e).2 λq hq z=>(F.offO q (inY hq)).2.2.2 x c e z.symm,hd⟩
 ·refine ke a o (F.old a o e) (λz=> ?_) λq hq z=> ?_
  ·rw [z,F.offL.2] at e; cases e
  ·rw [<- z,(F.offO q (inY hq)).2.1] at e; cases e
 ·rcases List.mem_append.mp hp with hp | hp
  ·exact G.y.at_ p (aI4.mp hp).1
  ·exact ke p.1 p.2 (F.opn p (inO hp)) (F.offO p (inO hp)).2.2.1 (apart p hp)
 ·refine aA1 (F.cel x c e) λo ho _=> ?_
  exact offB c (F.offC x c e).1 ⟨o,ho⟩ (F.offC x c e).2 λq hq z=>(F.offO q (inY hq)).2.2.2 x c e z.symm
 ·rcases List.mem_append.mp hp with hp | hp
  ·refine aL1 (offP p hp) λa1 a2 a3 a4 _=> ?_
   exact ⟨a1,a2,a3,a4⟩
  ·refine aB (F.offO p (inO hp)) λa1 a2=> ?_
   exact ⟨offB p.1 a1 ⟨_,F.opn p (inO hp)⟩ a2.2.1 (apart p hp),a2⟩
 ·rw [List.map_append,List.nodup_append]
  refine ⟨bZ3 G.y.nod, ?_,λa ha b hb z=> ?_⟩
  ·rw [List.map_append,List.map_append,List.nodup_append,List.nodup_append] at nod
   rw [List.map_append,List.nodup_append]
   exact ⟨nod.1.1,nod.2.1,λa ha b hb=>nod.2.2 a (List.mem_append.mpr (.inl ha)) b hb⟩
  ·refine aA1 (List.mem_map.mp ha) λp hp z1z=> ?_
   subst z1z
   refine aA1 (List.mem_map.mp hb) λq hq z1z=> ?_
   subst z1z
   exact (offP p hp).2.2.2.2 q hq z.symm
 ·cases y:B a with
  | some x=>exact F.nw a x y |>.imp (λz=>by rw [z]; have:=G.le _ _ y; rw [e] at this; exact this.symm) id
  | none=>
   refine .inr ?_
   rcases G.new a y (by rw [e]; intro z; cases z) with ⟨q,hq,z⟩ | z
   ·rcases List.mem_cons.mp hq with rfl | hq
    ·rw [<- z]; exact F.offL.2
    ·rw [<- z]; exact (F.offO q (inY hq)).2.1
   ·cases z':h0.h a with
    | none=>rfl
    | some x=>rw [F.old _ _ z'] at z; cases z
structure dD1 (w:World)(h0:aA8)(env:Env)(os:OsState)(P:Rs->Sg->Prop)(B:PM)(X:OL)(m cm:NM)(Q:VP)(E:VP):Prop where
 go:∀ t σ' v s' B' O',P (.val t) σ'->Val B' v t->B.le B'->Fm w h0 env B' (O'++X) m cm os s'->Rl env σ' B' O' m cm->Q v s'
 out:∀ cls args σ' e s' B' Z O',P (.exc cls args) σ'->Fly B' env.locals cls args e Z->B.le B'->Fm w h0 env B' (Z++(O'++X)) m cm os s'->Rl env σ' B' O' m cm->E (.ref e) s'
theorem bQ {n:Nat}{a:Addr}{as:List T}{vs:List Value}{P:Rs->Sg->Prop}{O:OL}{l:List Env}{K:Result->Shared->Prop}(F:Fm w h0 env B (O++X) m cm os s)(R:Rl env σ B O m cm)(W:aC9 A env σ l)(RA:aD6 n A)(V:aA6 B vs as)
  (hf:∀ oL,σ.hp env.locals=none->FnH w os n a as (σ.hp.put env.locals (.same oL)) (λr hp'=>hp' env.locals=some (.same oL)->aA4 σ.hp (hp'.del env.locals)->P r ⟨σ.fz,σ.ow,hp'.del env.locals⟩))
  (q:dD1 w h0 env os P B X m cm (λv s'=>K (.ok (.ret v)) s') (λe s'=>K (.error e) s')):codeAny (model pw w) A (.call (.ref a) ⟨vs,[]⟩) K s:=by
 refine aB0 R.ow λO1 Y z1z ro hh=> ?_
 subst z1z
 refine aM6 F.ns λoL es ep hL hdL _=> ?_
 have inY:∀ {p},p∈Y->p∈(O1++Y)++X:=λh=>List.mem_append.mpr (.inl (List.mem_append.mpr (.inr h)))
 have hpL:σ.hp env.locals=none:=by
  cases e:σ.hp env.locals with
  | none=>rfl
  | some b=>obtain ⟨o,hm,_⟩:=hh _ _ e; exact absurd rfl (F.offO _ (inY hm)).2.2.1
 have nod:=F.nod
 have nodY:(Y.map (·.1)).Nodup:=by
  rw [List.map_append,List.map_append,List.nodup_append,List.nodup_append] at nod
  exact nod.1.2.1
 have hY:Yh B ((env.locals,oL)::Y) s:=⟨λp hp=>by
   rcases List.mem_cons.mp hp with rfl | hp
   ·exact hL
   ·exact F.opn p (inY hp),λp hp=>by
   rcases List.mem_cons.mp hp with rfl | hp
   ·exact F.offL.1
   ·exact (F.offO p (inY hp)).1,by
   rw [List.map_cons,List.nodup_cons]
   exact ⟨λz=>by obtain ⟨p,hp,y⟩:=List.mem_map.mp z; exact (F.offO p (inY hp)).2.2.1 y,nodY⟩⟩
 have hh':Hps B (σ.hp.put env.locals (.same oL)) ((env.locals,oL)::Y):=hh.new ⟨oL.slots,rfl⟩
 have hFr:Frm A (σ.hp.put env.locals (.same oL)):=⟨env::l,W.fr,λe he=>by
  rcases List.mem_cons.mp he with rfl | he
  ·exact ⟨W.kind,e.locals,oL,W.own,if_pos rfl,λvs z=>by rw [hdL] at z; cases z⟩
  ·refine aB (W.low e he) λk h9=>aB0 h9 λf o a1 a2 a3=> ?_
   refine ⟨k,f,o,a1, ?_,a3⟩
   unfold Hp.put
   rw [if_neg (λz=>by rw [z,hpL] at a2; cases a2)]; exact a2⟩
 have kp:∀ {hp'},aA4 (σ.hp.put env.locals (.same oL)) hp'->aA4 σ.hp (hp'.del env.locals)/\hp' env.locals=some (.same oL):=λ{hp'} k=>by
  refine ⟨λf o e=> ?_,k _ _ (if_pos rfl)⟩
  have ne:f≠env.locals:=λz=>by rw [z,hpL] at e; cases e
  unfold Hp.del
  rw [if_neg ne]
  refine k f o ?_
  unfold Hp.put
  rw [if_neg ne]; exact e
 have hdel:∀ {B' hp' Y'},Hps B' hp' Y'->Hps B' (hp'.del env.locals) (aT3 env.locals Y'):=λ{B' hp' Y'} h x b e=>by
  unfold Hp.del at e
  split at e
  ·cases e
  ·rename_i ne
   refine aA1 (h x b e) λo hm hb=> ?_
   exact ⟨o,aI4.mpr ⟨hm,ne⟩,hb⟩
 refine hf oL hpL A B _ s vs _ RA hFr F.sub F.gl hY hh' F.gens F.oss V (λt v s' B' Y' hp' p k G hps Vt=> ?_) λcls args e s' B' Y' Z hp' p k G hps fly=> ?_
 ·refine aB (kp k) λk1 k2=> ?_
  refine aA1 (hps _ _ k2) λo' hm h9=>aA3 h9 λsl ho=> ?_
  have F':=F.calledH hL G ⟨sl,ho ▸ hm⟩
  refine q.go t _ v s' B' (O1++aT3 env.locals Y') (p k2 k1) Vt G.le (F'.perm ?_) ⟨fzm R.fz G.le,O1,_,rfl,ro.mono G.le,hdel hps⟩
  rw [<- List.append_assoc]
  exact (List.perm_append_comm).append_right _
 ·refine aB (kp k) λk1 k2=> ?_
  refine aA1 (hps _ _ k2) λo' hm h9=>aA3 h9 λsl ho=> ?_
  have F':=F.calledH hL G ⟨sl,List.mem_append.mpr (.inr (ho ▸ hm))⟩
  have eZ:aT3 env.locals (Z++Y')=Z++aT3 env.locals Y':=by
   unfold aT3
   rw [List.filter_append]
   congr 1
   refine List.filter_eq_self.mpr λp hp=> ?_
   have:=G.y.nod
   rw [List.map_append,List.nodup_append] at this
   have:=this.2.2 p.1 (List.mem_map_of_mem hp) env.locals (List.mem_map.mpr ⟨_,hm,rfl⟩)
   simpa using this
  rw [eZ] at F'
  refine q.out cls args _ e s' B' Z (O1++aT3 env.locals Y') (p k2 k1) (fly _) G.le (F'.perm ?_) ⟨fzm R.fz G.le,O1,_,rfl,ro.mono G.le,hdel hps⟩
  rw [List.append_assoc]
  refine List.Perm.append_left _ ?_
  rw [<- List.append_assoc]
  exact (List.perm_append_comm).append_right _
theorem bF {n:Nat}{a:Addr}{as:List T}{vs:List Value}{P:Rs->Sg->Prop}{O:OL}{l:List Env}{K:Result->Shared->Prop}(F:Fm w h0 env B (O++X) m cm os s)(R:Rl env σ B O m cm)(W:aC9 A env σ l)(RA:aD6 n A)(V:aA6 B vs as)
  (hf:∀ oL,σ.hp env.locals=none->FnH w os n a as (σ.hp.put env.locals (.same oL)) (λr hp'=>hp' env.locals=some (.same oL)->aA4 σ.hp (hp'.del env.locals)->P r ⟨σ.fz,σ.ow,hp'.del env.locals⟩))
  (q:aX w h0 env os P B X (λv s'=>K (.ok (.ret v)) s') (λe s'=>K (.error e) s')):codeAny (model pw w) A (.call (.ref a) ⟨vs,[]⟩) K s:=
 bQ F R W RA V hf ⟨λt σ' v s' B' O'=>q.go t σ' v s' B' O' m cm,λcls args σ' e s' B' Z O'=>q.out cls args σ' e s' B' Z O' m cm⟩
theorem bM5 {n:Nat}{a:Addr}{as:List T}{vs:List Value}{P:Rs->Sg->Prop}{O:OL}{l:List Env}{Q:VP}{E:VP}(F:Fm w h0 env B (O++X) m cm os s)(R:Rl env σ B O m cm)(W:aC9 A env σ l)(RA:aD6 n A)(V:aA6 B vs as)
  (hf:∀ oL,σ.hp env.locals=none->FnH w os n a as (σ.hp.put env.locals (.same oL)) (λr hp'=>hp' env.locals=some (.same oL)->aA4 σ.hp (hp'.del env.locals)->P r ⟨σ.fz,σ.ow,hp'.del env.locals⟩))
  (q:aX w h0 env os P B X Q E):wpAny (model pw w) A (call (.ref a) vs) Q E s:=wpAny_call (bF F R W RA V hf ⟨q.go,q.out⟩)
end
noncomputable def K0 (P:Params):Frag:=[(66,o66),(36,o36),(39,o39 P),(40,o40),(41,o41),(42,o42),(43,o43),(73,o73),(80,o80),(87,o87),(92,o92),(99,o99),(106,bD8),(120,aM7),(127,aW3),(136,bH0 P),(137,bT0)]
theorem bZ4 (P:Params):(K0 P).In (H1 P):=Frag.in_of (as:=[66,36,39,40,41,42,43,73,80,87,92,99,106,120,127,136,137]) rfl (by lk)
noncomputable def aE3 {β:Type}(x:Str)(v:β):List (Str×β)->List (Str×β)
 | []=>[(x,v)]
 | (y,w)::r=>if y=x then (y,v)::r else (y,w)::aE3 x v r
section
variable {w:World}{A:Around}{h0:aA8}{env:Env}{os:OsState}{σ:Sg}{B:PM}{O X:OL}{m cm:NM}{s:Shared}
theorem Fm.k0 (F:Fm w h0 env B O m cm os s):(K0 w.params).In s.heap:=λa o e=>F.sub _ _ (F.gl _ _ (bZ4 _ a o e))
theorem Rl.at {d:Addr}{b:Ob}(R:Rl env σ B O m cm)(h:σ.hp d=some b):∃ Oa od Ob',O=Oa++(d,od)::Ob'/\b.is B od/\∀ od' b',b'.is B od'->Rl env (σ.put d b') B (Oa++(d,od')::Ob') m cm:=by
 refine aB0 R.ow λO1 Y z1z ro hh=> ?_
 subst z1z
 refine aA1 (hh _ _ h) λod hm hb=> ?_
 refine bD5 (List.append_of_mem hm) λY1 Y2 z1z=> ?_
 subst z1z
 refine ⟨O1++Y1,od,Y2,by rw [List.append_assoc],hb,λod' b' hb'=>⟨R.fz,O1,Y1++(d,od')::Y2,by rw [List.append_assoc],ro,hh.put hb'⟩⟩
theorem Rl.new {a:Addr}{o:Obj}{b:Ob}(R:Rl env σ B O m cm)(hb:b.is B o):Rl env (σ.put a b) B (O++[(a,o)]) m cm:=by
 refine aB0 R.ow λO1 Y z1z ro hh=> ?_
 subst z1z
 refine ⟨R.fz,O1,Y++[(a,o)],by rw [List.append_assoc],ro,(hh.new hb).sub λp hp=> ?_⟩
 rcases List.mem_cons.mp hp with rfl | hp
 ·simp
 ·exact List.mem_append.mpr (.inl hp)
theorem Fm.newX {a:Addr}{o:Obj}(F:Fm w h0 env B ((a,o)::(O++X)) m cm os s):Fm w h0 env B ((O++[(a,o)])++X) m cm os s:=F.perm (by
 rw [List.append_assoc]
 exact List.perm_middle.symm)
theorem Fm.turnE {a:Addr}{o o':Obj}{P R:OL}(F:Fm w h0 env B (P++(a,o)::R) m cm os s){h':Heap}(hn:h'.get? a=some o')(hs:∀ b x,b≠a->b≠env.locals->s.heap.get? b=some x->h'.get? b=some x)(hns:h'.Ns env.locals m)(tk:Nat):
  Fm w h0 env B (P++(a,o')::R) m cm os { s with heap:=h',toks:=tk }:=by
 have ha:(a,o)∈P++(a,o)::R:=List.mem_append.mpr (.inr (.head _))
 have fa:=F.offO _ ha
 have hm:(P++(a,o')::R).map (·.1)=(P++(a,o)::R).map (·.1):=by simp
 have hnod:=F.nod
 have hmem:∀ p∈P++(a,o')::R,p=(a,o')\/(p∈P++(a,o)::R/\p.1≠a):=by
  intro p hp
  rw [List.map_append,List.map_cons,List.nodup_append] at hnod
  rcases List.mem_append.mp hp with h | h
  ·refine .inr ⟨List.mem_append.mpr (.inl h),λq=> ?_⟩
   exact hnod.2.2 p.1 (List.mem_map_of_mem h) a (.head _) q
  ·rcases List.mem_cons.mp h with h | h
   ·exact .inl h
   ·refine .inr ⟨List.mem_append.mpr (.inr (.tail _ h)),λq=> ?_⟩
    have:=(List.nodup_cons.mp hnod.2.1).1
    exact this (q ▸ List.mem_map_of_mem (f:=(·.1)) h)
 refine ⟨hns,λy d e=> ?_,λb x e=> ?_,λb x e=> ?_,λp hp=> ?_,F.offL,F.offC,F.cinj,λp hp=> ?_,by rw [hm]; exact F.nod,F.gl,F.gens,F.oss,F.nw⟩
 ·refine aA1 (F.cel y d e) λc hc hd=> ?_
  exact ⟨c,hs _ _ (fa.2.2.2 y d e) (F.offC y d e).2 hc,hd⟩
 ·refine hs b x (λq=> ?_) (λq=> ?_) (F.old b x e)
  ·rw [q,fa.2.1] at e; cases e
  ·rw [q,F.offL.2] at e; cases e
 ·refine hs b x (λq=> ?_) (λq=> ?_) (F.sub b x e)
  ·rw [q,fa.1] at e; cases e
  ·rw [q,F.offL.1] at e; cases e
 ·rcases hmem p hp with rfl | ⟨h,q⟩
  ·exact hn
  ·exact hs _ _ q (F.offO p h).2.2.1 (F.opn p h)
 ·rcases hmem p hp with rfl | ⟨h,q⟩
  ·exact fa
  ·exact F.offO p h
theorem Fm.frX (F:Fm w h0 env B O m cm os s)(d:Addr):Fr (hideAll (cut s.heap env.locals) [d]) env.locals s.heap m:=
 ⟨F.ns,(λb o e=>by
  have e:=of_hideAll _ e
  rw [aN6] at e
  split at e
  ·exact e
  ·cases e),by rw [hideAll_size]; exact bI0⟩
theorem Fm.newsX (F:Fm w h0 env B O m cm os s){d:Addr}{od:Obj}(hd:(d,od)∈O):News (hideAll (cut s.heap env.locals) [d]) env.locals s.heap ([]++(d,od)::aT3 d (above s.heap env.locals)):=λp hp=>by
 rcases List.mem_cons.mp hp with rfl | hp
 ·exact ⟨F.opn _ hd,(F.offO _ hd).2.2.1,hideAll_none _ (.head _)⟩
 ·refine aB (aI4.mp hp) λhp ne=> ?_
  refine aB (aN7.mp hp) λa b=> ?_
  refine ⟨b,Nat.ne_of_gt a, ?_⟩
  cases e:(hideAll (cut s.heap env.locals) [d]).get? p.1 with
  | none=>rfl
  | some o=>
   have:=of_hideAll _ e
   rw [aN6,if_neg (Nat.not_lt.mpr (Nat.le_of_lt a))] at this; cases this
theorem Fm.backX {d:Addr}{od':Obj}(F:Fm w h0 env B O m cm os s){h':Heap}(Fr':Fr (hideAll (cut s.heap env.locals) [d]) env.locals h' m)(N':News (hideAll (cut s.heap env.locals) [d]) env.locals h' ([]++(d,od')::aT3 d (above s.heap env.locals))):
  h'.get? d=some od'/\∀ b x,b≠d->b≠env.locals->s.heap.get? b=some x->h'.get? b=some x:=by
 refine ⟨(N' _ (.head _)).1,λb x n1 n2 e=> ?_⟩
 by_cases q:b<env.locals
 ·exact Fr'.keep b x (hideAll_get _ (by rw [aN6,if_pos q]; exact e) (by simpa using n1))
 ·exact (N' (b,x) (.tail _ (aI4.mpr ⟨aN7.mpr ⟨Nat.lt_of_le_of_ne (Nat.le_of_not_lt q) (Ne.symm n2),e⟩,n1⟩))).1
end
theorem aX1 {B:PM}{v:Value}{t:T}(h:Val B v t):handedIn v=true:=by cases h<;>rfl
theorem aT4 (x y:Str)(tk:Tok):(Value.str y tk).isStr x=(y == x):=rfl
theorem bI5 (x y:Str):(x == y)=(y == x):=by
 rw [Bool.eq_iff_iff,beq_iff_eq,beq_iff_eq]; exact eq_comm
theorem bM6 {x:Str}{es:List DictEntry}{kvs:List (Str×Value)}(h:aJ es kvs):(es.find? (·.key.isStr x)).map (·.val)=kvs.lookup x:=by
 induction h with
 | nil=>rfl
 | @cons _ y _ _ _ _ r ih=>
  rw [List.lookup_cons]
  cases e:x == y with
  | true=>rw [List.find?_cons_of_pos (by show Value.isStr _ x=true; rw [aT4,bI5,e])]; rfl
  | false=>rw [List.find?_cons_of_neg (by show ¬Value.isStr _ x=true; rw [aT4,bI5,e]; exact Bool.false_ne_true)]; exact ih
theorem aU8:∀ {es:List DictEntry} {kvs:List (Str×Value)},aJ es kvs->es.any (·.refKey)=false
 | _,_, .nil=>rfl
 | _,_, .cons r=>by rw [List.any_cons,aU8 r]; rfl
theorem aP4 {o:Obj}{kvs:List (Str×Value)}(h:isN o kvs)(x:Str):lookIn x o=some (kvs.lookup x):=by
 refine bD6 h λes n hd hn=> ?_
 try clear h
 unfold lookIn
 rw [hd]
 dsimp only
 rw [<- bM6 hn,aU8 hn]
 cases es.find? (·.key.isStr x)<;>rfl
theorem bC2 {x:Str}{hh:Int}{tk:Tok}{v:Value}:∀ {es:List DictEntry} {kvs:List (Str×Value)},aJ es kvs->
  (match es.findIdx? (·.key.isStr x) with
   | some i=>aJ (es.modify i λe=>{ e with val:=v }) (aE3 x v kvs)
   | none=>aJ (es++[⟨hh, .str x tk,v⟩]) (aE3 x v kvs))
 | _,_, .nil=> .cons .nil
 | _,_, .cons (h:=h1) (x:=y) (tk:=tk1) (v:=v1) (es:=es) (kvs:=kvs) r=>by
  rw [List.findIdx?_cons]
  have ih:=bC2 (x:=x) (hh:=hh) (tk:=tk) (v:=v) r
  show (match (if (Value.str y tk1).isStr x=true then some 0 else Option.map (λi=>i+1) (es.findIdx? (·.key.isStr x))) with | some i=>_ | none=>_)
  rw [aT4]
  by_cases e:y=x
  ·subst e
   rw [if_pos (by simp)]
   show aJ (⟨h1, .str y tk1,v⟩::es) (if y=y then _ else _)
   rw [if_pos rfl]
   exact .cons r
  ·rw [if_neg (by simpa using e)]
   cases q:es.findIdx? (·.key.isStr x) with
   | none=>
    rw [q] at ih
    show aJ (⟨h1, .str y tk1,v1⟩::(es++_)) (if y=x then _ else _)
    rw [if_neg e]
    exact .cons ih
   | some i=>
    rw [q] at ih
    show aJ (⟨h1, .str y tk1,v1⟩::es.modify i _) (if y=x then _ else _)
    rw [if_neg e]
    exact .cons ih
theorem bC3:∀ {es:List DictEntry} {kvs:List (Str×Value)},aJ es kvs->es.length=kvs.length
 | _,_, .nil=>rfl
 | _,_, .cons r=>congrArg (· +1) (bC3 r)
theorem cI1 {o:Obj}{kvs:List (Str×Value)}(h:isN o kvs)(x:Str)(hh:Int)(tk:Tok)(v:Value):∃ es n,(Obj.putName x hh (.str x tk) v o).data= .dict es.toArray n/\aJ es (aE3 x v kvs):=by
 refine bD6 h λes n hd hn=> ?_
 try clear h
 obtain ⟨c,d,dt,sl⟩:=o
 dsimp only at hd
 subst hd
 rw [show @Obj.putName= @Obj.putNameByArray from Obj.putName_eq]
 unfold Obj.putNameByArray
 have:=bC2 (x:=x) (hh:=hh) (tk:=tk) (v:=v) hn
 have e:es.toArray.findIdx? (·.key.isStr x)=es.findIdx? (·.key.isStr x):=by simp
 dsimp only
 rw [e]
 cases q:es.findIdx? (·.key.isStr x) with
 | none=>
  rw [q] at this
  exact ⟨_,_,by dsimp only; rw [List.push_toArray],this⟩
 | some i=>
  rw [q] at this
  exact ⟨_,_,by dsimp only; rw [List.modify_toArray],this⟩
theorem bC4 {β:Type}(x:Str)(v:β):∀ l:List (Str×β),(aE3 x v l).length<=l.length+1
 | []=>Nat.le_refl _
 | (y,w)::r=>by
  unfold aE3
  split
  ·simp
  ·have:=bC4 x v r; simp; room
theorem aT5 {α β γ:Type}{P:List (α×β)->List (α×γ)->Prop}(h0:P [] [])(h1:∀ y v w r r',r.map (·.1)=r'.map (·.1)->P r r'->P ((y,v)::r) ((y,w)::r')){l:List (α×β)}:∀ {l':List (α×γ)},l.map (·.1)=l'.map (·.1)->P l l':=by
 induction l with
 | nil=>intro l' e; cases l' with
  | nil=>exact h0
  | cons _ _=>cases e
 | cons p r ih=>intro l' e; cases l' with
  | nil=>cases e
  | cons q r'=>
   have e1:p.1=q.1:=(List.cons.inj e).1
   have:=h1 p.1 p.2 q.2 r r' (List.cons.inj e).2 (ih (List.cons.inj e).2)
   rw [e1] at this
   rw [show p=(q.1,p.2) from e1 ▸ rfl]; exact this
theorem bM7 {β γ:Type}(x:Str)(v:β)(u:γ){l:List (Str×β)}{l':List (Str×γ)}(h:l.map (·.1)=l'.map (·.1)):(aE3 x v l).map (·.1)=(aE3 x u l').map (·.1):=by
 refine aT5 (P:=λl l'=>(aE3 x v l).map (·.1)=(aE3 x u l').map (·.1)) rfl (λy _ _ r r' h2 ih=> ?_) h
 show List.map _ (if y=x then _ else _)=List.map _ (if y=x then _ else _)
 by_cases q:y=x
 ·rw [if_pos q,if_pos q]; exact congrArg (y:: ·) h2
 ·rw [if_neg q,if_neg q]; exact congrArg (y:: ·) ih
theorem bM8 {B:PM}(x:Str){v:Value}{t:T}(V:Val B v t){l:List (Str×Value)}{l':List (Str×T)}(h:l.map (·.1)=l'.map (·.1)):aA6 B (l.map (·.2)) (l'.map (·.2))->aA6 B ((aE3 x v l).map (·.2)) ((aE3 x t l').map (·.2)):=by
 refine aT5 (P:=λl l'=>aA6 B (l.map (·.2)) (l'.map (·.2))->aA6 B ((aE3 x v l).map (·.2)) ((aE3 x t l').map (·.2))) (λ_=> .cons V .nil) (λy _ _ r r' _ ih hv=> ?_) h
 show aA6 B (List.map _ (if y=x then _ else _)) (List.map _ (if y=x then _ else _))
 by_cases q:y=x
 ·rw [if_pos q,if_pos q]; exact .cons V hv.un.2
 ·rw [if_neg q,if_neg q]; exact .cons hv.un.1 (ih hv.un.2)
theorem bI6 {B:PM}{x:Str}{t:T}{l:List (Str×Value)}{l':List (Str×T)}(h:l.map (·.1)=l'.map (·.1)):aA6 B (l.map (·.2)) (l'.map (·.2))->l'.lookup x=some t->∃ v,l.lookup x=some v/\Val B v t:=by
 refine aT5 (P:=λl l'=>aA6 B (l.map (·.2)) (l'.map (·.2))->l'.lookup x=some t->∃ v,l.lookup x=some v/\Val B v t) (λ_ h=>by cases h) (λy v _ r r' _ ih hv hl=> ?_) h
 rw [List.lookup_cons] at hl ⊢
 cases e:x == y with
 | true=>rw [e] at hl; cases hl; exact ⟨v,rfl,hv.un.1⟩
 | false=>rw [e] at hl; exact ih hv.un.2 hl
noncomputable def aG5 (P:Params)(x:Str):Prop:=findIn (K0 P) (.ref 137) x=some none/\takerIn (K0 P) 137 x=some none
theorem aJ3 (P:Params):aG5 P (u "_node2info"):=⟨by lk,by lk⟩
theorem aF1 (P:Params):aG5 P (u "_ready_nodes"):=⟨by lk,by lk⟩
theorem bF0 (P:Params):aG5 P (u "_npassedout"):=⟨by lk,by lk⟩
theorem bF1 (P:Params):aG5 P (u "_nfinished"):=⟨by lk,by lk⟩
theorem cM0 (P:Params):findIn (K0 P) (.ref 137) "__getattribute__" =some (some (.builtin "object.__getattribute__")):=by lk
theorem dD2 (P:Params):findIn (K0 P) (.ref 137) "__getattr__" =some none:=by lk
theorem dD3 (P:Params):findIn (K0 P) (.ref 137) "__setattr__" =some (some (.builtin "object.__setattr__")):=by lk
theorem dJ8 (P:Params):findIn (K0 P) (.ref 40) "__getattribute__" =some (some (.builtin "object.__getattribute__")):=by lk
theorem dJ9 (P:Params):findIn (K0 P) (.ref 40) "__getattr__" =some none:=by lk
theorem dK (P:Params):findIn (K0 P) (.ref 40) "__setattr__" =some (some (.builtin "object.__setattr__")):=by lk
theorem dD4 (P:Params):plainOver (K0 P) 137=true:=by lk
theorem dK0 (P:Params):plainOver (K0 P) 40=true:=by lk
theorem dD5 (P:Params):(clsIn (K0 P) 137).any (·.hasDict)=true:=by lk
theorem dL (P:Params){x:Str}:(copiedNames.contains x && ((((clsIn (K0 P) 137).getD default).mro).isEmpty || (((clsIn (K0 P) 137).getD default).mro).contains (.type "staticmethod") || (((clsIn (K0 P) 137).getD default).mro).contains (.type "classmethod")))=false:=by
 have:(((((clsIn (K0 P) 137).getD default).mro).isEmpty || (((clsIn (K0 P) 137).getD default).mro).contains (.type "staticmethod") || (((clsIn (K0 P) 137).getD default).mro).contains (.type "classmethod")))=false:=by lk
 rw [this,Bool.and_false]
structure aF8 (P:Params)(x:Str)(p:Addr)(i:Nat):Prop where
 find:∀ od,findObj (K0 P) 40 (some od) x=some (.bind (.builtin "member_descriptor.__get__") (.ref p))
 slot:slotIn (K0 P) p 40=some i
 taker:takerIn (K0 P) 40 x=some (some (.ref p))
 type:typeIn (K0 P) (.ref p)=some (.type "member_descriptor")
 lt:i<3
theorem bC5 (P:Params):aF8 P (u "node") 41 0:=⟨λod=>by lk,by lk,by lk,by lk,by decide⟩
theorem aH6 (P:Params):aF8 P (u "npredecessors") 42 1:=⟨λod=>by lk,by lk,by lk,by lk,by decide⟩
theorem aR2 (P:Params):aF8 P (u "successors") 43 2:=⟨λod=>by lk,by lk,by lk,by lk,by decide⟩
section
variable {w:World}{A:Around}{h0:aA8}{env:Env}{os:OsState}{σ:Sg}{B:PM}{O X:OL}{m cm:NM}{s:Shared}{E:VP}
theorem bF2 {a d:Addr}{es:List (Str×T)}(F:Fm w h0 env B O m cm os s)(R:Rel env σ B O m cm)(ha:σ.hp a=some (.ins 137 d))(hd:σ.hp d=some (.ns es)):∃ od kvs,InstAt s.heap a (instObj 137 d) 137 (some od)/\isN od kvs/\kvs.map (·.1)=es.map (·.1)/\aA6 B (kvs.map (·.2)) (es.map (·.2))/\(d,od)∈O:=by
 refine aB0 R.ow λO1 Y z1z ro hh=> ?_
 subst z1z
 refine aA1 (hh _ _ ha) λoa m1 z1z=> ?_
 subst z1z
 refine aA1 (hh _ _ hd) λod m2 h9=>aC8 h9 λkvs h1 h2 h3=> ?_
 refine ⟨od,kvs,⟨F.opn (a,_) (List.mem_append.mpr (.inr m1)),rfl,rfl,F.opn (d,od) (List.mem_append.mpr (.inr m2))⟩,h1,h2,h3,List.mem_append.mpr (.inr m2)⟩
theorem dD6 {a d:Addr}{es:List (Str×T)}{x:Str}{t:T}{expr:Bool}{Q:VP}(F:Fm w h0 env B O m cm os s)(R:Rel env σ B O m cm)(ha:σ.hp a=some (.ins 137 d))(hd:σ.hp d=some (.ns es))(hn:aG5 w.params x)(ht:es.lookup x=some t)
  (q:∀ v,Val B v t->Q v { s with toks:=s.toks+1 }):wpAny (model pw w) A (getAttr (.ref a) x expr) Q E s:=by
 refine bL3 (bF2 F R ha hd) λod kvs I hN h2 h3 _=> ?_
 refine aA1 (bI6 h2 h3 ht) λv hv V=> ?_
 refine get_value F.k0 I (cM0 _) ?_ (aX1 V) (q v V)
 have hl:=aP4 hN x
 rw [hv] at hl
 show findObj (K0 w.params) 137 (some od) x=_
 unfold findObj
 rw [hn.1]
 show (Option.bind (some _) _)=_
 simp only [Option.bind_some]
 show Option.bind (lookIn x od) _=_
 rw [hl]; rfl
theorem cR6 {a d:Addr}{es:List (Str×T)}{x:Str}{t:T}{v:Value}{Q:Unit->Shared->Prop}(F:Fm w h0 env B (O++X) m cm os s)(R:Rl env σ B O m cm)(ha:σ.hp a=some (.ins 137 d))(hd:σ.hp d=some (.ns es))(hn:aG5 w.params x)(hz:es.length<=900)(V:Val B v t)
  (q:∀ s' O',Fm w h0 env B (O'++X) m cm os s'->Rl env (σ.put d (.ns (aE3 x t es))) B O' m cm->Q () s'):wpAny (model pw w) A (setAttr (.ref a) x v) Q E s:=by
 refine bL3 (bF2 F (R.rel X) ha hd) λod kvs I hN h2 h3 hm=> ?_
 refine aM6 (R.at hd) λOa od1 Ob' z1z hb up=> ?_
 subst z1z
 have e1:od1=od:=by
  have:=F.opn (d,od1) (List.mem_append.mpr (.inl (List.mem_append.mpr (.inr (.head _)))))
  rw [F.opn (d,od) hm] at this; cases this; rfl
 subst e1
 refine set_plain F.k0 I (dD3 _) ?_
 have F1:=F.tok (s.toks+1)
 refine bD6 (cI1 hN x (PyData.keyHash w.params x) (s.toks+1) v) λes' n' e3 e4=> ?_
 have hl:es'.length<=1000:=by
  have a1:=bC3 e4
  have a2:=bC4 x v kvs
  have a3:kvs.length=es.length:=by have:=congrArg List.length h2; simpa using this
  room
 refine osa_dict (F1.frX d) (F1.newsX hm) F1.k0 I rfl (dD4 _) hn.2 (dD5 _) (by rw [aP4 hN x]; rfl) (λp hp=>by cases hp) (λp hp=>(aI4.mp hp).2) rfl e3 hl λh' Fr' N'=> ?_
 refine aB (F1.backX Fr' N') λg1 g2=> ?_
 have F2:Fm w h0 env B (Oa++(d,od1)::(Ob'++X)) m cm os { s with toks:=s.toks+1 }:=by simpa using F1
 have F3:=F2.turnE g1 g2 Fr'.ns (s.toks+1+1)
 refine q _ _ (by simpa using F3) (up _ _ ⟨aE3 x v kvs,⟨es',n',e3,e4⟩,bM7 x v t h2,bM8 x V h2 h3⟩)
theorem bZ5 {a:Addr}{ts:List T}(F:Fm w h0 env B O m cm os s)(R:Rel env σ B O m cm)(ha:σ.hp a=some (.slt 40 ts)):∃ oa vs dx od,InstAt s.heap a oa 40 (some od)/\(oa.dict=some dx/\B dx=some od)/\oa.data= .plain/\oa.slots=(vs.map some).toArray/\aA6 B vs ts/\(a,oa)∈O:=by
 refine aB0 R.ow λO1 Y z1z ro hh=> ?_
 subst z1z
 refine aA1 (hh _ _ ha) λoa m1 h9=>bG6 h9 λvs dx od h1 h2 h3 h4 h5=> ?_
 refine ⟨oa,vs,dx,od,⟨F.opn (a,_) (List.mem_append.mpr (.inr m1)),h1, ?_, ?_⟩,h2,h3,h4,h5,List.mem_append.mpr (.inr m1)⟩
 ·unfold notCls; rw [h3]
 ·rw [h2.1]; exact F.sub _ _ h2.2
theorem dD7 {a:Addr}{ts:List T}{x:Str}{p:Addr}{i:Nat}{t:T}{expr:Bool}{Q:VP}(F:Fm w h0 env B O m cm os s)(R:Rel env σ B O m cm)(ha:σ.hp a=some (.slt 40 ts))(hn:aF8 w.params x p i)(ht:ts[i]? =some t)
  (q:∀ v,Val B v t->Q v { s with toks:=s.toks+1 }):wpAny (model pw w) A (getAttr (.ref a) x expr) Q E s:=by
 refine cM9 (bZ5 F R ha) λoa vs dx od I h2 h3 h4 h5 _=> ?_
 refine aA1 (h5.get ht) λv hv V=> ?_
 refine get_bind F.k0 I (dJ8 _) (hn.find od) (dJ9 _) ?_
 refine wpAny_call (slot_get (F.tok _).k0 I hn.slot (v:=v) ?_ ?_)
 ·rw [h4,List.getElem?_toArray,List.getElem?_map,hv]; rfl
 ·show wpAny _ _ (handedOut v) _ _ _
  rw [handedOut_of (aX1 V)]
  exact wpAny_pure (q v V)
noncomputable def aU9 {β:Type}(l:List β)(i:Nat)(x:β):List β:=if i<l.length then l.set i x else l++[x]
theorem cR7 {a:Addr}{ts:List T}{x:Str}{p:Addr}{i:Nat}{t:T}{v:Value}{Q:Unit->Shared->Prop}(F:Fm w h0 env B (O++X) m cm os s)(R:Rl env σ B O m cm)(ha:σ.hp a=some (.slt 40 ts))(hn:aF8 w.params x p i)(hi:i<=ts.length)(V:Val B v t)
  (q:∀ s' O',Fm w h0 env B (O'++X) m cm os s'->Rl env (σ.put a (.slt 40 (aU9 ts i t))) B O' m cm->Q () s'):wpAny (model pw w) A (setAttr (.ref a) x v) Q E s:=by
 refine cM9 (bZ5 F (R.rel X) ha) λoa vs dx od I h2 h3 h4 h5 hm=> ?_
 refine aM6 (R.at ha) λOa od1 Ob' z1z hb up=> ?_
 subst z1z
 have e1:od1=oa:=by
  have:=F.opn (a,od1) (List.mem_append.mpr (.inl (List.mem_append.mpr (.inr (.head _)))))
  rw [F.opn (a,oa) hm] at this; cases this; rfl
 subst e1
 refine set_plain F.k0 I (dK _) ?_
 have F1:=F.tok (s.toks+1)
 refine osa_descr KF.slot_mset F1.k0 I (dK0 _) hn.taker hn.type ?_
 have hl:=h5.length
 have hsl:((od1.slots++Array.replicate (i+1 - od1.slots.size) none).setIfInBounds i (some v))=((aU9 vs i v).map some).toArray:=by
  rw [h4]
  unfold aU9
  by_cases q:i<vs.length
  ·rw [if_pos q,List.size_toArray,List.length_map,show i+1 - vs.length=0 by room]
   apply Array.toList_inj.mp
   simp [List.map_set]
  ·have:i=vs.length:=by room
   subst this
   rw [if_neg q,List.size_toArray,List.length_map,show vs.length+1 - vs.length=1 by room]
   apply Array.toList_inj.mp
   simp
 refine slot_set (F1.frX a) (F1.newsX hm) F1.k0 I hn.slot (by have:=hn.lt; room) (λp hp=>by cases hp) (λp hp=>(aI4.mp hp).2) rfl ?_ λh' Fr' N'=> ?_
 ·unfold Obj.isFreed; rw [h3]
 refine aB (F1.backX Fr' N') λg1 g2=> ?_
 have F2:Fm w h0 env B (Oa++(a,od1)::(Ob'++X)) m cm os { s with toks:=s.toks+1 }:=by simpa using F1
 have F3:=F2.turnE g1 g2 Fr'.ns (s.toks+1)
 refine q _ _ (by simpa using F3) (up { od1 with slots:=(od1.slots++Array.replicate (i+1 - od1.slots.size) none).setIfInBounds i (some v) } _ ⟨aU9 vs i v,dx,od,I.cls,h2,h3,hsl, ?_⟩)
 unfold aU9
 rw [hl]
 split
 ·exact aA6.set V h5 _
 ·exact h5.append (.cons V .nil)
end
noncomputable def dAt (es:List (Int×T))(k:Int):Option T:=(es.find? λp=>p.1=k).map (·.2)
noncomputable def aV6 (es:List (Int×T))(k:Int)(t:T):List (Int×T):=if es.any (λp=>p.1=k) then es.map (λp=>if p.1=k then (p.1,t) else p) else es++[(k,t)]
theorem bZ6 {k y:Int}{w:T}(r:List (Int×T))(e:y=k):dAt ((y,w)::r) k=some w:=by
 delta dAt; rw [List.find?_cons_of_pos (by exact decide_eq_true e)]; rfl
theorem bZ7 {k y:Int}{w:T}(r:List (Int×T))(e: ¬y=k):dAt ((y,w)::r) k=dAt r k:=by
 delta dAt; rw [List.find?_cons_of_neg (by exact λh=>e (of_decide_eq_true h))]
theorem bM9 {k y:Int}{w:Value}(r:List (Int×Value))(e:y=k):valueAt ((y,w)::r) k=some w:=by
 delta valueAt; rw [List.find?_cons_of_pos (by exact decide_eq_true e)]; rfl
theorem aX2 {k y:Int}{w:Value}(r:List (Int×Value))(e: ¬y=k):valueAt ((y,w)::r) k=valueAt r k:=by
 delta valueAt; rw [List.find?_cons_of_neg (by exact λh=>e (of_decide_eq_true h))]
theorem aR3 {B:PM}{k:Int}{t:T}{kvs:List (Int×Value)}{es:List (Int×T)}(h:kvs.map (·.1)=es.map (·.1)):aA6 B (kvs.map (·.2)) (es.map (·.2))->dAt es k=some t->∃ v,valueAt kvs k=some v/\Val B v t:=by
 refine aT5 (P:=λkvs es=>aA6 B (kvs.map (·.2)) (es.map (·.2))->dAt es k=some t->∃ v,valueAt kvs k=some v/\Val B v t) (λ_ h=>by cases h) (λy v w r r' _ ih hv hl=> ?_) h
 by_cases e:y=k
 ·rw [bZ6 r' e] at hl
  cases hl; exact ⟨v,bM9 r e,hv.un.1⟩
 ·rw [bZ7 r' e] at hl
  rw [aX2 r e]; exact ih hv.un.2 hl
theorem bI7 {k:Int}{kvs:List (Int×Value)}{es:List (Int×T)}(h:kvs.map (·.1)=es.map (·.1)):dAt es k=none->valueAt kvs k=none:=by
 refine aT5 (P:=λkvs es=>dAt es k=none->valueAt kvs k=none) (λ_=>rfl) (λy v w r r' _ ih hl=> ?_) h
 by_cases e:y=k
 ·rw [bZ6 r' e] at hl; cases hl
 ·rw [bZ7 r' e] at hl
  rw [aX2 r e]; exact ih hl
theorem bU {B:PM}{k:Int}{v:Value}{t:T}{kvs:List (Int×Value)}{es:List (Int×T)}(h:kvs.map (·.1)=es.map (·.1))(hv:aA6 B (kvs.map (·.2)) (es.map (·.2)))(V:Val B v t):
  (stored kvs k v).map (·.1)=(aV6 es k t).map (·.1)/\aA6 B ((stored kvs k v).map (·.2)) ((aV6 es k t).map (·.2)):=by
 have hany:kvs.any (λp=>decide (p.1=k))=es.any (λp=>decide (p.1=k)):=by
  have a1:kvs.any (λp=>decide (p.1=k))=(kvs.map (·.1)).any (λx=>decide (x=k)):=by rw [List.any_map]; rfl
  have a2:es.any (λp=>decide (p.1=k))=(es.map (·.1)).any (λx=>decide (x=k)):=by rw [List.any_map]; rfl
  rw [a1,a2,h]
 unfold stored aV6
 rw [hany]
 split
 ·rename_i hsplit
  clear hany hsplit
  induction kvs generalizing es with
  | nil=>cases es with
   | nil=>exact ⟨rfl, .nil⟩
   | cons _ _=>cases h
  | cons p r ih=>cases es with
   | nil=>cases h
   | cons p' r'=>
    simp only [List.map_cons,List.cons.injEq] at h
    refine aB h λh1 h2=> ?_
    try clear h
    cases hv with
    | cons a b=>
     refine aB (ih h2 b) λi1 i2=> ?_
     refine ⟨?_, ?_⟩
     ·simp only [List.map_cons,List.cons.injEq]
      refine ⟨?_,i1⟩
      split<;>split<;>exact h1
     ·simp only [List.map_cons]
      refine .cons ?_ i2
      rw [h1]
      split
      ·exact V
      ·exact a
 ·rw [List.map_append,List.map_append,List.map_append,List.map_append]
  exact ⟨by rw [h]; rfl,hv.append (.cons V .nil)⟩
section
variable {w:World}{A:Around}{h0:aA8}{env:Env}{os:OsState}{k:Bool}{σ:Sg}{P:FP}{rest:List Stmt}{B:PM}{O X:OL}{m cm:NM}{s:Shared}
theorem Rel.at {d:Addr}{b:Ob}(R:Rel env σ B O m cm)(h:σ.hp d=some b):∃ od,(d,od)∈O/\b.is B od:=by
 refine aB0 R.ow λO1 Y z1z ro hh=> ?_
 subst z1z
 refine aA1 (hh _ _ h) λod hm hb=> ?_
 exact ⟨od,List.mem_append.mpr (.inr hm),hb⟩
theorem Fm.notSys (F:Fm w h0 env B O m cm os s){d:Addr}{od:Obj}(hm:(d,od)∈O):(d == sysModules)=false:=by
 rw [beq_eq_false_iff_ne]
 rintro rfl
 have h1:=(F.offO _ hm).1
 obtain ⟨o,ho⟩:∃ o,(H1 w.params).get? sysModules=some o:=by
  have:((H1 w.params).get? sysModules).isSome=true:=by lk
  exact Option.isSome_iff_exists.mp this
 rw [F.gl _ _ ho] at h1; cases h1
theorem aR4 {d:Addr}{es:List (Int×T)}{ep:Nat}(F:Fm w h0 env B O m cm os s)(R:Rel env σ B O m cm)(hd:σ.hp d=some (.dct es ep)):∃ kvs,s.heap.DictOf (intKind pw w) d kvs/\kvs.map (·.1)=es.map (·.1)/\aA6 B (kvs.map (·.2)) (es.map (·.2))/\(d == sysModules)=false:=by
 refine aA1 (R.at hd) λod hm h9=>aC8 h9 λkvs h1 h2 h3=> ?_
 exact ⟨kvs,Heap.dictOf_iff.mpr ⟨od,F.opn _ hm,h1.to w⟩,h2,h3,F.notSys hm⟩
theorem Val.objAt {v:Value}{a:Addr}(h:Val B v (.obj a)):v= .ref a:=by cases h; rfl
theorem VR.obj {v:Value}{a:Addr}(h:VR k B O v (.obj a)):v= .ref a:=by
 cases k with
 | true=>exact Val.objAt h
 | false=>cases h with | known h=>exact h.objAt
theorem EvE.attrI {value:Expr}{x:Str}{a d:Addr}{es:List (Str×T)}{t:T}{k1:Bool}(pos:Pos)(hv:EvE w A h0 env os k1 σ value (.obj a))(ha:σ.hp a=some (.ins 137 d))(hd:σ.hp d=some (.ns es))(hn:aG5 w.params x)(ht:es.lookup x=some t)
  (he:eval (.Attribute value x pos) env=(do let o <-eval value env; standAt pos.atName; let r <-holding [o] (getAttr o x true); letTemporaryGo value o r; pure r)):EvE w A h0 env os k σ (.Attribute value x pos) t:=λB O m cm s Q E F R q=>
 Attribute_any_ (hv B O m cm s _ E F R λv s1 B1 l1 F1 V1=>by
  rw [V1.obj]
  exact dD6 F1 (R.mono l1) ha hd hn ht λv' V'=>q v' _ B1 l1 (F1.tok _) (.of V')) he
theorem EvE.attrS {value:Expr}{x:Str}{a p:Addr}{i:Nat}{ts:List T}{t:T}{k1:Bool}(pos:Pos)(hv:EvE w A h0 env os k1 σ value (.obj a))(ha:σ.hp a=some (.slt 40 ts))(hn:aF8 w.params x p i)(ht:ts[i]? =some t)
  (he:eval (.Attribute value x pos) env=(do let o <-eval value env; standAt pos.atName; let r <-holding [o] (getAttr o x true); letTemporaryGo value o r; pure r)):EvE w A h0 env os k σ (.Attribute value x pos) t:=λB O m cm s Q E F R q=>
 Attribute_any_ (hv B O m cm s _ E F R λv s1 B1 l1 F1 V1=>by
  rw [V1.obj]
  exact dD7 F1 (R.mono l1) ha hn ht λv' V'=>q v' _ B1 l1 (F1.tok _) (.of V')) he
theorem EvE.dix {value slice:Expr}{d:Addr}{es:List (Int×T)}{ep:Nat}{i:Int}{t:T}{k1 k2:Bool}(pos:Pos)(hv:EvE w A h0 env os k1 σ value (.obj d))(hi:EvE w A h0 env os k2 σ slice (.int i))(hd:σ.hp d=some (.dct es ep))(ht:dAt es i=some t)
  (hs:∀ o j u,subscripted slice false (.ref o) (.int j u)=operate [.ref o, .int j u] (getItem (.ref o) (.int j u))):EvE w A h0 env os k σ (.Subscript value slice pos) t:=λB O m cm s Q E F R q=>
 Subscript_ (hv B O m cm s _ E F R λva s1 B1 l1 F1 V1=>hi B1 O m cm s1 _ E F1 (R.mono l1) λvb s2 B2 l2 F2 V2=>by
  rw [V1.obj]
  refine aA3 V2.int λtk z1z=> ?_
  subst z1z
  refine aV3 (aR4 F2 ((R.mono l1).mono l2) hd) λkvs D h1 h2 _=> ?_
  refine aA1 (aR3 h1 h2 ht) λv hv' V=> ?_
  exact tail_any D.typeIs slot_dict_getitem.lookup (wpAny_getItem_of (intKind_is pw w i tk) D.mapOf hv' (q v _ B2 (l1.trans l2) (F2.tok _) (.of V))) (hs _ _ _))
theorem EvE.dget {value e:Expr}{d:Addr}{es:List (Int×T)}{ep:Nat}{i:Int}{k1 k2:Bool}(apos pos:Pos)(hv:EvE w A h0 env os k1 σ value (.obj d))(hi:EvE w A h0 env os k2 σ e (.int i))(hd:σ.hp d=some (.dct es ep))
  (hb:attributeBase value (u "get") env (eval value env)=eval value env) (hln:(apos.endLine == pos.line)=true) (ht:backTo pos (starEach [e] env)=[(false,eval e env)]):EvE w A h0 env os k σ (.Call (.Attribute value (u "get") apos) [e] [] pos) ((dAt es i).getD .none):=λB O m cm s Q E F R q=>by
 refine wpAny_Call_method1_late hb hln ht ?_
 refine hv B O m cm s _ E F R λv s1 B1 l1 F1 V1=> ?_
 rw [V1.obj]
 refine aV3 (aR4 F1 (R.mono l1) hd) λkvs D h1 h2 hns=> ?_
 refine ⟨"dict", "dict.get",PySem.F.plainAttrs_dict,PySem.F.slot_dict_get,PySem.F.type_dict_get,D.typeIs,D.mapOf.noDict, ?_⟩
 refine wpAny_dict_get1 (knd:=intKind pw w) hns ?_
 refine hi B1 O m cm s1 _ E F1 (R.mono l1) λy s2 B2 l2 F2 V2=> ?_
 refine aA3 V2.int λtk z1z=> ?_
 subst z1z
 refine aV3 (aR4 F2 ((R.mono l1).mono l2) hd) λkvs D h1 h2 _=> ?_
 refine ⟨i,_,intKind_is pw w i tk,D.mapOf, ?_⟩
 cases e1:dAt es i with
 | none=>rw [bI7 h1 e1]; exact q _ _ B2 (l1.trans l2) (F2.tok _) (.of (by rw [e1]; exact .none))
 | some t=>
  refine aA1 (aR3 h1 h2 e1) λv hv' V=> ?_
  rw [hv']; exact q _ _ B2 (l1.trans l2) (F2.tok _) (.of (by rw [e1]; exact V))
theorem TsE.inD {l r:Expr}{d:Addr}{es:List (Int×T)}{ep:Nat}{i:Int}{k1 k2:Bool}(pos:Pos)(hl:EvE w A h0 env os k1 σ l (.int i))(hr:EvE w A h0 env os k2 σ r (.obj d))(hd:σ.hp d=some (.dct es ep))(hm:behindInMarks .In r=false):
  TsE w A h0 env os σ (.Compare l [.In] [r] pos) (dAt es i).isSome:=λB O m cm s Q E F R q=>
 wpAny_isTrue_Compare1 (hl B O m cm s _ E F R λva s1 B1 l1 F1 V1=>hr B1 O m cm s1 _ E F1 (R.mono l1) λvb s2 B2 l2 F2 V2=>by
  refine aA3 V1.int λtk z1z=> ?_
  subst z1z
  rw [V2.obj]
  refine aV3 (aR4 F2 ((R.mono l1).mono l2) hd) λkvs D h1 h2 hns=> ?_
  have e:(valueAt kvs i).isSome=(dAt es i).isSome:=by
   cases e1:dAt es i with
   | none=>rw [bI7 h1 e1]; rfl
   | some t=>obtain ⟨v,hv',_⟩:=aR3 h1 h2 e1; rw [hv']; rfl
  refine wpAny_in_of (intKind_is pw w i tk) hns D.mapOf ?_
  rw [e]
  exact wpAny_truthy_bool (q _ B2 (l1.trans l2) (F2.tok _))) hm
noncomputable def aH7:T->Bool
 | .none=>true
 | _=>false
theorem aX3 {v:Value}{t:T}(h:VR k B O v t):(v == Value.none)=aH7 t:=by
 have key:∀ {v t},Val B v t->(v == Value.none)=aH7 t:=λh=>by
  cases h<;>first | rfl | (simp [aH7])
 cases k with
 | true=>exact key h
 | false=>cases h with
  | known h=>exact key h
  | open_ _ _ _=>rfl
theorem aI5 (k1 k2:Bool)(t:T):aF2 w A h0 env os .Is k1 k2 t .none (aH7 t):=λB O m cm s va vb Q E F V1 V2 q=>by
 rw [V2.none]
 refine is_none_gen ?_
 rw [aX3 V1]; exact q _ B (.refl B) F
theorem aK (k1 k2:Bool)(t:T):aF2 w A h0 env os .IsNot k1 k2 t .none (!aH7 t):=λB O m cm s va vb Q E F V1 V2 q=>by
 rw [V2.none]
 refine isnot_none_gen ?_
 rw [aX3 V1]; exact q _ B (.refl B) F
end
section
variable {w:World}{A:Around}{h0:aA8}{env:Env}{os:OsState}{k:Bool}{σ:Sg}{P:FP}{rest:List Stmt}{B:PM}{O X:OL}{m cm:NM}{s:Shared}
theorem ExE.asgI {value e:Expr}{x:Str}{a d:Addr}{es:List (Str×T)}{t:T}{k1:Bool}(p pos:Pos)(he:EvE w A h0 env os true σ e t)(hv:EvE w A h0 env os k1 σ value (.obj a))(ha:σ.hp a=some (.ins 137 d))(hd:σ.hp d=some (.ns es))(hn:aG5 w.params x)(hz:es.length<=900)
  (hs:swapsWith e (some (.Attribute value x p)) pos.line env=pure false) (h:ExE w A h0 env os (σ.put d (.ns (aE3 x t es))) rest P):ExE w A h0 env os σ (.Assign [.Attribute value x p] e pos::rest) P:=λB O X m cm s Q E F R q=>
 wpAny_execs_cons (plainObj_wpAny_Assign_Attribute (he B (O++X) m cm s _ E F (R.rel X) λv s1 B1 l1 F1 V=>hv B1 (O++X) m cm s1 _ E F1 ((R.mono l1).rel X) λov s2 B2 l2 F2 V2=>by
  rw [V2.obj]
  exact cR6 F2 ((R.mono l1).mono l2) ha hd hn hz (Val.mono l2 V) λs3 O3 F3 R3=>h B2 O3 X m cm s3 Q E F3 R3 (q.mono (l1.trans l2))) hs)
theorem ExE.asgS {value e:Expr}{x:Str}{a p:Addr}{i:Nat}{ts:List T}{t:T}{k1:Bool}(p1 pos:Pos)(he:EvE w A h0 env os true σ e t)(hv:EvE w A h0 env os k1 σ value (.obj a))(ha:σ.hp a=some (.slt 40 ts))(hn:aF8 w.params x p i)(hi:i<=ts.length)
  (hs:swapsWith e (some (.Attribute value x p1)) pos.line env=pure false) (h:ExE w A h0 env os (σ.put a (.slt 40 (aU9 ts i t))) rest P):ExE w A h0 env os σ (.Assign [.Attribute value x p1] e pos::rest) P:=λB O X m cm s Q E F R q=>
 wpAny_execs_cons (plainObj_wpAny_Assign_Attribute (he B (O++X) m cm s _ E F (R.rel X) λv s1 B1 l1 F1 V=>hv B1 (O++X) m cm s1 _ E F1 ((R.mono l1).rel X) λov s2 B2 l2 F2 V2=>by
  rw [V2.obj]
  exact cR7 F2 ((R.mono l1).mono l2) ha hn hi (Val.mono l2 V) λs3 O3 F3 R3=>h B2 O3 X m cm s3 Q E F3 R3 (q.mono (l1.trans l2))) hs)
noncomputable def cI2 (w:World)(A:Around)(op:Operator)(i j r:Int):Prop:=∀ (s:Shared) (t u:Tok) (Q:VP) (E:VP),Q (.int r s.toks) { s with toks:=s.toks+1 }->wpAny (model pw w) A (inplaceOp op (.int i t) (.int j u)) Q E s
theorem aX4 (i j:Int):cI2 w A .Add i j (i+j):=λs t u Q E h=>PyProof.Rows.iadd_int h
theorem bZ8 (i j:Int):cI2 w A .Sub i j (i - j):=λs t u Q E h=>PyProof.Rows.isub_int h
theorem ExE.augI {value e:Expr}{x:Str}{a d:Addr}{es:List (Str×T)}{i j r:Int}{op:Operator}{k1 k2:Bool}(p pos:Pos)(hv:EvE w A h0 env os k1 σ value (.obj a))(he:EvE w A h0 env os k2 σ e (.int j))(ha:σ.hp a=some (.ins 137 d))(hd:σ.hp d=some (.ns es))(hn:aG5 w.params x)(ht:es.lookup x=some (.int i))(ho:cI2 w A op i j r)(hz:es.length<=900)
  (h:ExE w A h0 env os (σ.put d (.ns (aE3 x (.int r) es))) rest P):ExE w A h0 env os σ (.AugAssign (.Attribute value x p) op e pos::rest) P:=λB O X m cm s Q E F R q=>
 wpAny_execs_cons (wpAny_AugAssign_AttributeAny (hv B (O++X) m cm s _ E F (R.rel X) λov s1 B1 l1 F1 V1=>by
  rw [V1.obj]
  refine dD6 F1 ((R.mono l1).rel X) ha hd hn ht λold Vo=> ?_
  refine aA3 (VR.int (k:=true) (O:=[]) Vo) λtk z1z=> ?_
  subst z1z
  refine he B1 (O++X) m cm _ _ E (F1.tok _) ((R.mono l1).rel X) λv s2 B2 l2 F2 V2=> ?_
  refine aA3 V2.int λtk' z1z=> ?_
  subst z1z
  refine ho _ _ _ _ _ ?_
  exact cR6 (F2.tok _) ((R.mono l1).mono l2) ha hd hn hz (.int _ _) λs3 O3 F3 R3=>h B2 O3 X m cm s3 Q E F3 R3 (q.mono (l1.trans l2))))
theorem ExE.augS {value e:Expr}{x:Str}{a p:Addr}{n:Nat}{ts:List T}{i j r:Int}{op:Operator}{k1 k2:Bool}(p1 pos:Pos)(hv:EvE w A h0 env os k1 σ value (.obj a))(he:EvE w A h0 env os k2 σ e (.int j))(ha:σ.hp a=some (.slt 40 ts))(hn:aF8 w.params x p n)(ht:ts[n]? =some (.int i))(ho:cI2 w A op i j r)
  (h:ExE w A h0 env os (σ.put a (.slt 40 (aU9 ts n (.int r)))) rest P):ExE w A h0 env os σ (.AugAssign (.Attribute value x p1) op e pos::rest) P:=λB O X m cm s Q E F R q=>
 wpAny_execs_cons (wpAny_AugAssign_AttributeAny (hv B (O++X) m cm s _ E F (R.rel X) λov s1 B1 l1 F1 V1=>by
  rw [V1.obj]
  refine dD7 F1 ((R.mono l1).rel X) ha hn ht λold Vo=> ?_
  refine aA3 (VR.int (k:=true) (O:=[]) Vo) λtk z1z=> ?_
  subst z1z
  refine he B1 (O++X) m cm _ _ E (F1.tok _) ((R.mono l1).rel X) λv s2 B2 l2 F2 V2=> ?_
  refine aA3 V2.int λtk' z1z=> ?_
  subst z1z
  refine ho _ _ _ _ _ ?_
  exact cR7 (F2.tok _) ((R.mono l1).mono l2) ha hn (by have:=(List.getElem?_eq_some_iff.mp ht).1; room) (.int _ _) λs3 O3 F3 R3=>h B2 O3 X m cm s3 Q E F3 R3 (q.mono (l1.trans l2))))
theorem aN {a:Addr}{ts:List T}(F:Fm w h0 env B O m cm os s)(R:Rel env σ B O m cm)(ha:σ.hp a=some (.lst ts)):∃ vs n,s.heap.get? a=some { cls:= .type "list",data:= .seq vs.toArray n }/\aA6 B vs ts/\(a,({ cls:= .type "list",data:= .seq vs.toArray n }:Obj))∈O:=by
 refine aA1 (R.at ha) λod hm h9=>aA1 h9 λvs z1z V=> ?_
 refine aA3 z1z λn z1z=> ?_
 subst z1z
 exact ⟨vs,n,F.opn _ hm,V,hm⟩
theorem EvE.lstOf {value:Expr}{a:Addr}{ts:List T}{k1:Bool}(hv:EvE w A h0 env os k1 σ value (.obj a))(ha:σ.hp a=some (.lst ts)):EvE w A h0 env os false σ value (.list ts):=λB O m cm s Q E F R q=>by
 refine hv B O m cm s Q E F R λv s1 B1 l1 F1 V1=> ?_
 rw [V1.obj]
 refine aB0 (aN F1 (R.mono l1) ha) λvs n _ V hm=> ?_
 exact q _ s1 B1 l1 F1 (.open_ hm ⟨rfl,n,rfl⟩ V)
theorem ExE.appendO {value e:Expr}{a:Addr}{ts:List T}{t:T}{k1:Bool}(pa pc pos:Pos)(hv:EvE w A h0 env os k1 σ value (.obj a))(ha:σ.hp a=some (.lst ts))(he:EvE w A h0 env os true σ e t)(hz:ts.length<=sizeLine)
  (hb:attributeBase value (u "append") env (eval value env)=eval value env)
  (hs:(((List.all (backTo pc (starEach [e] env)) λx=> !x.fst) && List.all (backToKw pc (keywordEach [] env)) λx=>Option.isSome x.fst) && decide ((List.length [e]+List.length ([]:List Keyword)+if List.isEmpty ([]:List Keyword)=true then 0 else 1)<30))=true)
  (hl:(pa.endLine == pc.line)=true) (ht:backTo pc (starEach [e] env)=[(false,eval e env)]) (hi:interactive env=false) (hsw:swapsWith (.Call (.Attribute value (u "append") pa) [e] [] pc) none pos.line env=pure false)
  (h:ExE w A h0 env os (σ.put a (.lst (ts++[t]))) rest P):ExE w A h0 env os σ (.Expr (.Call (.Attribute value (u "append") pa) [e] [] pc) pos::rest) P:=λB O X m cm s Q E F R q=>by
 refine wpAny_execs_cons (wpAny_Expr_any (wpAny_Call_append hb hs hl ht ?_) hi hsw)
 refine hv B (O++X) m cm s _ E F (R.rel X) λov s1 B1 l1 F1 V1=> ?_
 refine aB0 (aN F1 ((R.mono l1).rel X) ha) λvs n g1 _ _=> ?_
 refine ⟨a,vs.toArray,V1.obj,⟨_,n,g1,rfl,rfl,rfl⟩, ?_⟩
 refine he B1 (O++X) m cm s1 _ E F1 ((R.mono l1).rel X) λv s2 B2 l2 F2 V2=> ?_
 have R2:=(R.mono l1).mono l2
 refine aM6 (R2.at ha) λOa od Ob' z1z z2z up=> ?_
 subst z1z
 refine aA1 z2z λvs2 z1z W2=> ?_
 try clear z2z
 refine aA3 z1z λn2 z1z=> ?_
 subst z1z
 refine wpAny_list_append_plain ⟨n2,F2.opn (a,_) (List.mem_append.mpr (.inl (List.mem_append.mpr (.inr (.head _)))))⟩ (λh' hP hS=> ?_) ?_
 ·refine aA3 hP λn' hP=> ?_
  rw [show vs2.toArray.push v=(vs2++[v]).toArray by simp] at hP
  have F3:Fm w h0 env B2 (Oa++(a,({ cls:= .type "list",data:= .seq vs2.toArray n2 }:Obj))::(Ob'++X)) m cm os s2:=by simpa using F2
  have F4:=F3.turn hP hS s2.toks
  refine h B2 _ X m cm _ Q E (by simpa using F4) (up { cls:= .type "list",data:= .seq (vs2++[v]).toArray n' } _ ⟨_,⟨n',rfl⟩,W2.append (.cons V2 .nil)⟩) (q.mono (l1.trans l2))
 ·rw [List.size_toArray,W2.length]; exact hz
theorem ExE.iteW {x:Str}{e:Expr}{t:T}{body orelse:List Stmt}(p1 p2 p3 pos:Pos)(n3:Nat)(W:Own env)(he:EvE w A h0 env os true σ e t)(hk:env.kindOf x=some .local)(hx:∀ p∈σ.ow,p.1≠x)(hm:behindInMarks .Is (.Constant .none n3 p3)=false)
  (h:ExE w A h0 env os (σ.set x t) (if aH7 t then body else orelse) (bY4 w A h0 env os rest P)):ExE w A h0 env os σ (.If (.Compare (.NamedExpr (.Name x p1) e p2) [.Is] [.Constant .none n3 p3] pos) body orelse pos2::rest) P:=λB O X m cm s Q E F R q=>by
 refine wpAny_execs_cons (wpAny_If (wpAny_isTrue_Compare1 (wpAny_NamedExpr ?_) hm))
 refine he B (O++X) m cm s _ E F (R.rel X) λv s1 B1 l1 F1 V=> ?_
 refine wpAny_assign_Name (wpAny_storeName_local hk F1.ns (λh' hn hsb=> ?_) (by rw [W.kind]; rfl))
 have F2:=F1.setLocal hn hsb (s1.toks+1)
 have R2:=(R.mono l1).set hk hx V
 refine wpAny_Constant_none (is_none_gen (wpAny_truthy_bool ?_))
 rw [aX3 (k:=true) (O:=[]) V]
 have key:wpAny (model pw w) A (execs (if aH7 t then body else orelse) env) (λf s'=>match f with | .next=>wpAny (model pw w) A (execs rest env) Q E s' | f=>Q f s') E { s1 with heap:=h',toks:=s1.toks+1 }:=
  h B1 O X _ cm _ _ E F2 R2 ⟨λfl σ' f s' B' O' m' cm' p r l F' R'=>by
    cases r with
    | next=>exact p B' O' X m' cm' s' Q E F' R' (q.mono (l1.trans l))
    | brk=>exact q.go .brk σ' _ s' B' O' m' cm' p .brk (l1.trans l) F' R'
    | cont=>exact q.go .cont σ' _ s' B' O' m' cm' p .cont (l1.trans l) F' R'
    | ret V=>exact q.go (.ret _) σ' _ s' B' O' m' cm' p (.ret V) (l1.trans l) F' R',λcls args σ' e s' B' Z O' m' cm' p r l F' R'=>q.out cls args σ' e s' B' Z O' m' cm' p r (l1.trans l) F' R'⟩
 cases hb:aH7 t with
 | true=>rw [hb,if_pos rfl] at key; rw [if_pos rfl]; exact key
 | false=>rw [hb,if_neg Bool.false_ne_true] at key; rw [if_neg Bool.false_ne_true]; exact key
theorem EvE.toH {e:Expr}{t:T}{PV:Rs->Sg->Prop}(he:EvE w A h0 env os true σ e t)(h:PV (.val t) σ):EvH w A h0 env os σ e PV:=λB O X m cm s Q E F R q=>
 he B (O++X) m cm s Q E F (R.rel X) λv s1 B1 l1 F1 V=>q.go t σ v s1 B1 O m cm h V l1 F1 (R.mono l1)
noncomputable def aR5 (P:FP)(N:T->Sg->Prop):Rs->Sg->Prop
 | .val t,σ'=>N t σ'
 | .exc c u,σ'=>P (.exc c u) σ'
theorem ExE.assignH {x:Str}{e:Expr}(p pos:Pos)(W:Own env)(hk:env.kindOf x=some .local)(hs:swapsWith e (some (.Name x p)) pos.line env=pure false)
  (he:EvH w A h0 env os σ e (aR5 P λt σ'=>(∀ p∈σ'.ow,p.1≠x)/\ExE w A h0 env os (σ'.set x t) rest P)):ExE w A h0 env os σ (.Assign [.Name x p] e pos::rest) P:=λB O X m cm s Q E F R q=>
 wpAny_execs_cons (wpAny_Assign_Name (he B O X m cm s _ E F R ⟨λt σ' v s1 B1 O1 m1 cm1 pr V l1 F1 R1=>wpAny_storeName_local hk F1.ns (λh' hn hsb=>
  pr.2 B1 O1 X _ cm1 _ Q E (F1.setLocal hn hsb _) (R1.set hk pr.1 V) (q.mono l1)) (by rw [W.kind]; rfl),λcls args σ' e s' B' Z O' m' cm' p r l F' R'=>q.out cls args σ' e s' B' Z O' m' cm' p r l F' R'⟩) hs)
theorem ExE.assignHC {x:Str}{c:Addr}{e:Expr}(p pos:Pos)(W:Own env)(hk:env.kindOf x=some .cell)(hc:env.cells.lookup x=some c)(hf:h0.h c=none)(hs:swapsWith e (some (.Name x p)) pos.line env=pure false)
  (he:EvH w A h0 env os σ e (aR5 P λt σ'=>(∀ p∈σ'.ow,p.1≠x)/\ExE w A h0 env os (σ'.set x t) rest P)):ExE w A h0 env os σ (.Assign [.Name x p] e pos::rest) P:=λB O X m cm s Q E F R q=>
 wpAny_execs_cons (wpAny_Assign_Name (he B O X m cm s _ E F R ⟨λt σ' v s1 B1 O1 m1 cm1 pr V l1 F1 R1=>wpAny_storeName_cell W.kind hk hc (F1.cel x c hc) (λh' hn hsb=>
  pr.2 B1 O1 X m1 _ _ Q E (F1.setCell hc hf hn hsb s1.toks) (R1.setC hk pr.1 V) (q.mono l1)),λcls args σ' e s' B' Z O' m' cm' p r l F' R'=>q.out cls args σ' e s' B' Z O' m' cm' p r l F' R'⟩) hs)
theorem ExE.exprH {e:Expr}(pos:Pos)(hi:interactive env=false)(hsw:swapsWith e none pos.line env=pure false)
  (he:EvH w A h0 env os σ e (aR5 P λ_ σ'=>ExE w A h0 env os σ' rest P)):ExE w A h0 env os σ (.Expr e pos::rest) P:=λB O X m cm s Q E F R q=>
 wpAny_execs_cons (wpAny_Expr_any (he B O X m cm s _ E F R ⟨λt σ' v s1 B1 O1 m1 cm1 pr V l1 F1 R1=>pr B1 O1 X m1 cm1 s1 Q E F1 R1 (q.mono l1),λcls args σ' e s' B' Z O' m' cm' p r l F' R'=>q.out cls args σ' e s' B' Z O' m' cm' p r l F' R'⟩) hi hsw)
theorem ExE.retH {e:Expr}(pos:Pos)(he:EvH w A h0 env os σ e (aR5 P λt σ'=>P (.ret t) σ')):ExE w A h0 env os σ (.Return (some e) pos::rest) P:=λB O X m cm s Q E F R q=>
 wpAny_execs_cons (wpAny_Return_some (he B O X m cm s _ E F R ⟨λt σ' v s1 B1 O1 m1 cm1 pr V l1 F1 R1=>q.go (.ret t) σ' _ s1 B1 O1 m1 cm1 pr (.ret V) l1 F1 R1,λcls args σ' e s' B' Z O' m' cm' p r l F' R'=>q.out cls args σ' e s' B' Z O' m' cm' p r l F' R'⟩))
theorem FnH.args {n:Nat}{as:List T}:n=n:=rfl
theorem EvH.callF {n:Nat}{f:Str}{a:Addr}{o:Obj}{fd:FuncData}{e:Expr}{es:List Expr}{as:List T}{PV:Rs->Sg->Prop}{l:List Env}(np pos:Pos)(W:Own env)(Wy:aC9 A env σ l)(RA:aD6 n A)(hk:env.kindOf f=some .globalImplicit)(hv:mgm w.params f=some (.ref a))(hd:(f == ("__debug__" :Str))=false)
  (ho:(H1 w.params).get? a=some o) (hdat:o.data= .func fd) (hs:backTo pos (starEach (e::es) env)=(e::es).map λe=>(false,eval e env)) (hst:starEach (e::es) env=(false,eval e env)::starEach es env)
  (he:aC4 w A h0 env os σ (e::es) as)
  (hf:∀ oL,σ.hp env.locals=none->FnH w os n a as (σ.hp.put env.locals (.same oL)) (λr hp'=>hp' env.locals=some (.same oL)->aA4 σ.hp (hp'.del env.locals)->PV r ⟨σ.fz,σ.ow,hp'.del env.locals⟩)):EvH w A h0 env os σ (.Call (.Name f np) (e::es) [] pos) PV:=λB O X m cm s Q E F R q=>
 wpAny_Call_NameR (aQ7 W F hk hv (callWith_def hdat (by
  rw [hs]
  exact aE4 he B (O++X) m cm s _ E F (R.rel X) λvs s1 B1 l1 F1 V1=>⟨F1.sub _ _ (F1.gl _ _ ho),bM5 F1 (R.mono l1) Wy RA V1 hf (q.mono l1)⟩) hst) hd)
end
theorem bZ9 {α:Type}{K:Frag}{M:Model}{A:Around}{E:VP}{Q:α->Shared->Prop}{s:Shared}{o:Obj}{r:Addr->α}(X:K.In s.heap)(q:Q (r s.heap.objs.size) { s with heap:=s.heap.push o }):
  ∀ (t:Sem α) (g:Addr->Option α),peek1 K ⟨M.prog,M.w.params⟩ t=some (o,g)->(∀ D,g D=some (r D))->wpAny M A t Q E s:=by
 intro t
 induction t with
 | rule _ k ih=>exact λg e hg Γ p hΓ=>ih () g e hg Γ p hΓ
 | point _ k ih=>exact λg e hg Γ p hΓ=>ih () g e hg Γ p hΓ
 | ask k ih=>exact λg e hg Γ p hΓ=>ih _ g e hg Γ p hΓ
 | load a _ k ih=>
  intro g e hg Γ p hΓ
  simp only [peek1] at e
  split at e
  ·rename_i ob ho; exact ⟨ob,X _ _ ho,ih ob g e hg Γ p hΓ⟩
  ·cases e
 | alloc ob k _=>
  intro g e hg
  refine aB (Prod.mk.inj (Option.some.inj (show some (ob,λD=>peek K ⟨M.prog,M.w.params⟩ (k D))=some (o,g) from e))) λe1 e2=> ?_
  subst e1
  subst e2
  show wpAny M A (alloc ob >>= k) Q E s
  refine wpAny_bind (wpAny_alloc ?_)
  exact (Looks.of_peek (M:=M) (h:=s.heap.push ob) (X.keeps λb x hb=>Heap.get?_push_of_some _ hb) (hg s.heap.objs.size)).here (s:={ s with heap:=s.heap.push ob }) q
 | _=>intro g e; cases e
theorem aA6.split {B:PM}{us:List T}{ts:List T}:∀ {vs:List Value},aA6 B vs (ts++us)->∃ xs ys,vs=xs++ys/\aA6 B xs ts/\aA6 B ys us:=by
 induction ts with
 | nil=>exact λ{vs} h=>⟨[],vs,rfl, .nil,h⟩
 | cons t ts ih=>
  intro vs h
  refine aB0 h.inv λv r e a b=> ?_
  refine aB0 (ih b) λxs ys e2 h1 h2=> ?_
  exact ⟨v::xs,ys,by rw [e,e2]; rfl, .cons a h1,h2⟩
section
variable {w:World}{A:Around}{h0:aA8}{env:Env}{os:OsState}{σ:Sg}{n:Nat}
theorem aF4.plain {fd:FuncData}{as:List T}{names:List Str}(hb:∀ vs,vs.length=as.length->bindArgs fd ⟨vs,[]⟩=pure (names.zip vs)):aF4 w fd as names as:=λA B s vs Q E su gl V q=>
 wpAny_of_eq (hb vs V.length) (q vs s.heap s.toks B (.refl B) (λ_ _ h=>h) su (λa h1 h2=>absurd h1 h2) V)
theorem aF4.dflt {fd:FuncData}{as:List T}{names:List Str}{v:Value}{t:T}(hv:∀ B,Val B v t)(hb:∀ S vs,vs.length=as.length->peek (K0 w.params) S (bindArgs fd ⟨vs,[]⟩)=some (names.zip (vs++[v]))):aF4 w fd as names (as++[t]):=λA B s vs Q E su gl V q=>
 (Looks.of_peek (M:=model pw w) (h:=s.heap) (λa o e=>su _ _ (gl _ _ (bZ4 _ a o e))) (hb _ vs V.length)).here (q (vs++[v]) s.heap s.toks B (.refl B) (λ_ _ h=>h) su (λa h1 h2=>absurd h1 h2) (V.append (.cons (hv B) .nil)))
theorem aF4.star {fd:FuncData}{ts us:List T}{names:List Str}(hb:∀ S vs ws,vs.length=ts.length->ws.length=us.length->peek1 (K0 w.params) S (bindArgs fd ⟨vs++ws,[]⟩)=some ({ cls:= .type "tuple",data:= .seq ws.toArray },λD=>some (names.zip (vs++[.ref D])))):
  aF4 w fd (ts++us) names (ts++[.tup us]):=λA B s vs Q E su gl V q=>by
 refine aB0 V.split λxs ys z1z V1 V2=> ?_
 subst z1z
 have hB:B s.heap.objs.size=none:=by
  cases e:B s.heap.objs.size with
  | none=>rfl
  | some o=>have:=su _ _ e; rw [aA7] at this; cases this
 refine bZ9 (λa o e=>su _ _ (gl _ _ (bZ4 _ a o e))) ?_ _ _ (hb _ xs ys V1.length V2.length) (λD=>rfl)
 have l:=PM.le_put ({ cls:= .type "tuple",data:= .seq ys.toArray }:Obj) hB
 refine q (xs++[.ref s.heap.objs.size]) _ s.toks _ l (λa o h=>Heap.get?_push_of_some _ h) (λa o h=> ?_) (λa h1 h2=> ?_) ((V1.mono l).append (.cons (.tup (PM.put_self ..) ⟨rfl,_,rfl⟩ (V2.mono l)) .nil))
 ·by_cases z:a=s.heap.objs.size
  ·subst z; rw [PM.put_self] at h; cases h; exact Heap.get?_push_size _ rfl
  ·rw [PM.put_ne _ _ z] at h; exact Heap.get?_push_of_some _ (su _ _ h)
 ·by_cases z:a=s.heap.objs.size
  ·rw [z]; exact aA7
  ·rw [PM.put_ne _ _ z] at h2; exact absurd h1 h2
structure aX5 (P:Params)(x:Str)(f:Addr):Prop where
 find:findIn (K0 P) (.ref 137) x=some (some (.ref f))
 type:typeIn (K0 P) (.ref f)=some (.type "function")
 keep:keepIn (K0 P) (.ref f)=true
theorem bI8 (P:Params):aX5 P (u "_get_nodeinfo") 80:=⟨by lk,by lk,by lk⟩
theorem aX6 (P:Params):aX5 P (u "add") 87:=⟨by lk,by lk,by lk⟩
theorem bU0 (P:Params):aX5 P (u "prepare") 92:=⟨by lk,by lk,by lk⟩
theorem aX7 (P:Params):aX5 P (u "get_ready") 99:=⟨by lk,by lk,by lk⟩
theorem bI9 (P:Params):aX5 P (u "is_active") 106:=⟨by lk,by lk,by lk⟩
theorem bU1 (P:Params):aX5 P (u "done") 120:=⟨by lk,by lk,by lk⟩
theorem aX8 (P:Params):aX5 P (u "_find_cycle") 127:=⟨by lk,by lk,by lk⟩
theorem aX9 {B:PM}{O:OL}{m cm:NM}{s:Shared}{a d f:Addr}{es:List (Str×T)}{x:Str}{pl:Sem Bool}{Q:Value×List Value->Shared->Prop}{E:VP}(F:Fm w h0 env B O m cm os s)(R:Rel env σ B O m cm)(ha:σ.hp a=some (.ins 137 d))(hd:σ.hp d=some (.ns es))(hm:aX5 w.params x f)(hn:es.lookup x=none)
  (q:Q (.ref f,[.ref a]) s):wpAny (model pw w) A (getMethod (.ref a) x pl) Q E s:=by
 refine bL3 (bF2 F R ha hd) λod kvs I hN h2 h3 _=> ?_
 refine method_fn F.k0 I (cM0 _) (dD2 _) hm.find hm.type ?_ q
 have:kvs.lookup x=none:=by
  refine aJ1 λb hb=> ?_
  have hx:x∈es.map (·.1):=by rw [<- h2]; exact List.mem_map.mpr ⟨_,hb,rfl⟩
  refine aA1 (List.mem_map.mp hx) λp hp z1z=> ?_
  subst z1z
  have key:∀ {l:List (Str×T)},p∈l->l.lookup p.1≠none:=λ{l} hl=>by
   induction l with
   | nil=>cases hl
   | cons y l ih=>
    obtain ⟨y1,y2⟩:=y
    rw [List.lookup_cons]
    cases e:p.1 == y1 with
    | true=>intro z; cases z
    | false=>
     rcases List.mem_cons.mp hl with rfl | hl
     ·simp at e
     ·exact ih hl
  exact key hp hn
 unfold shadowIn
 dsimp only
 rw [aP4 hN x,this]; rfl
theorem EvH.meth {value e:Expr}{es':List Expr}{x:Str}{a d f:Addr}{es:List (Str×T)}{as:List T}{k1:Bool}{PV:Rs->Sg->Prop}{l:List Env}(apos pos:Pos)(Wy:aC9 A env σ l)(RA:aD6 n A)(hv:EvE w A h0 env os k1 σ value (.obj a))(ha:σ.hp a=some (.ins 137 d))(hd:σ.hp d=some (.ns es))(hm:aX5 w.params x f)(hn:es.lookup x=none)
  (he:eval (.Call (.Attribute value x apos) (e::es') [] pos) env=(do let ov <-eval value env; standAt apos.atName; let (f,first) <-holding [ov] (getMethod ov x (do return (<- importBound value env).getD true)); callWith pos f first (backTo pos (starEach (e::es') env)) []))
  (hs:backTo pos (starEach (e::es') env)=(e::es').map λe=>(false,eval e env)) (hst:starEach (e::es') env=(false,eval e env)::starEach es' env) (hpl:(backTo pos (starEach es' env)).any (·.1)=false) (hargs:aC4 w A h0 env os σ (e::es') as)
  (hf:∀ oL,σ.hp env.locals=none->FnH w os n f (.obj a::as) (σ.hp.put env.locals (.same oL)) (λr hp'=>hp' env.locals=some (.same oL)->aA4 σ.hp (hp'.del env.locals)->PV r ⟨σ.fz,σ.ow,hp'.del env.locals⟩)):EvH w A h0 env os σ (.Call (.Attribute value x apos) (e::es') [] pos) PV:=λB O X m cm s Q E F R q=>by
 refine MethodCall_ ?_ he
 refine hv B (O++X) m cm s _ E F (R.rel X) λov s1 B1 l1 F1 V1=> ?_
 rw [V1.obj]
 refine aX9 F1 ((R.mono l1).rel X) ha hd hm hn ?_
 refine callWith_K F1.k0 hm.keep ?_ hst hpl
 rw [hs]
 refine aE4 hargs B1 (O++X) m cm s1 _ E F1 ((R.mono l1).rel X) λvs s2 B2 l2 F2 V2=>⟨F2.k0, ?_⟩
 exact bM5 F2 ((R.mono l1).mono l2) Wy RA (.cons (.obj a) V2) hf (q.mono (l1.trans l2))
theorem EvH.meth0 {value:Expr}{x:Str}{a d f:Addr}{es:List (Str×T)}{k1:Bool}{PV:Rs->Sg->Prop}{l:List Env}(apos pos:Pos)(Wy:aC9 A env σ l)(RA:aD6 n A)(hv:EvE w A h0 env os k1 σ value (.obj a))(ha:σ.hp a=some (.ins 137 d))(hd:σ.hp d=some (.ns es))(hm:aX5 w.params x f)(hn:es.lookup x=none)
  (he:eval (.Call (.Attribute value x apos) [] [] pos) env=(do let ov <-eval value env; standAt apos.atName; let (f,first) <-holding [ov] (getMethod ov x (do return (<- importBound value env).getD true)); callWith pos f first (backTo pos (starEach [] env)) []))
  (hf:∀ oL,σ.hp env.locals=none->FnH w os n f [.obj a] (σ.hp.put env.locals (.same oL)) (λr hp'=>hp' env.locals=some (.same oL)->aA4 σ.hp (hp'.del env.locals)->PV r ⟨σ.fz,σ.ow,hp'.del env.locals⟩)):EvH w A h0 env os σ (.Call (.Attribute value x apos) [] [] pos) PV:=λB O X m cm s Q E F R q=>by
 refine MethodCall_ ?_ he
 refine hv B (O++X) m cm s _ E F (R.rel X) λov s1 B1 l1 F1 V1=> ?_
 rw [V1.obj]
 refine aX9 F1 ((R.mono l1).rel X) ha hd hm hn ?_
 refine callWith_K0 F1.k0 hm.keep ?_
 exact bM5 F1 (R.mono l1) Wy RA (.cons (.obj a) .nil) hf (q.mono l1)
end
section
variable {w:World}{A:Around}{h0:aA8}{env:Env}{os:OsState}{σ:Sg}{n:Nat}{B:PM}{O X:OL}{m cm:NM}{s:Shared}
theorem bN (C:Addr)(rest:List Value):Code.cUnits (.builtin "type.__call__" ⟨.ref C::rest,[]⟩)=1:=by lk
theorem aY {C:Addr}{rest:List Value}(h:aD6 (n+1) A):aD6 n (A.under (.builtin "type.__call__" ⟨.ref C::rest,[]⟩)):=by
 have h1:(A.under (.builtin "type.__call__" ⟨.ref C::rest,[]⟩)).depth<=A.depth+1:=Nat.le_of_eq rfl
 have h2:(A.under (.builtin "type.__call__" ⟨.ref C::rest,[]⟩)).units<=A.units+3:=by
  show A.units+Code.cUnits (.builtin "type.__call__" ⟨.ref C::rest,[]⟩)<=A.units+3
  rw [bN]; room
 exact ⟨by have:=h.depth; room,by have:=h.units; room,h.handled⟩
theorem aV {C:Addr}{rest:List Value}{l:List Env}(h:aC9 A env σ l):aC9 (A.under (.builtin "type.__call__" ⟨.ref C::rest,[]⟩)) env σ l:=⟨by
 have:(A.under (.builtin "type.__call__" ⟨.ref C::rest,[]⟩)).frames=A.frames:=by
  unfold Around.under
  cases A.frames<;>rfl
 rw [this,h.fr],h.own,h.kind,h.low⟩
theorem aC9.put {a:Addr}{b:Ob}{l:List Env}(h:aC9 A env σ l)(ha:∀ o,σ.hp a≠some (.same o)):aC9 A env (σ.put a b) l:=⟨h.fr,h.own,h.kind,λe he=>by
 refine aB (h.low e he) λk h9=>aB0 h9 λf o a1 a2 a3=> ?_
 refine ⟨k,f,o,a1, ?_,a3⟩
 show σ.hp.put a b f=_
 unfold Hp.put
 by_cases z:f=a
 ·exact absurd (z ▸ a2) (ha o)
 ·rw [if_neg z]; exact a2⟩
theorem cI3 (P:Params):makesIn (K0 P) 40=true:=by lk
theorem cA (P:Params):makesIn (K0 P) 137=true:=by lk
theorem cR8 (P:Params):findIn (K0 P) (.ref 40) "__init__" =some (some (.ref 36)):=by lk
theorem cI4 (P:Params):findIn (K0 P) (.ref 137) "__init__" =some (some (.ref 73)):=by lk
theorem dK1 (P:Params):typeIn (K0 P) (.ref 36)=some (.type "function"):=by lk
theorem dK2 (P:Params):typeIn (K0 P) (.ref 73)=some (.type "function"):=by lk
theorem cR9 (P:Params):keepIn (K0 P) (.ref 40)=true:=by lk
theorem cI5 (P:Params):keepIn (K0 P) (.ref 137)=true:=by lk
theorem aG8 (F:Fm w h0 env B (O++X) m cm os s)(R:Rl env σ B O m cm){x:Addr}(hx:s.heap.get? x=none):σ.hp x=none:=by
 cases e:σ.hp x with
 | none=>rfl
 | some b=>
  refine aA1 ((R.rel X).at e) λod hm _=> ?_
  rw [F.opn _ hm] at hx; cases hx
theorem EvH.newNode {e:Expr}{t:T}{PV:Rs->Sg->Prop}{l:List Env}(np pos:Pos)(W:Own env)(Wy:aC9 A env σ l)(RA:aD6 (n+1) A)(hk:env.kindOf (u "_NodeInfo")=some .globalImplicit)
  (hs:backTo pos (starEach [e] env)=[(false,eval e env)]) (hst:starEach [e] env=(false,eval e env)::starEach [] env) (hpl:(backTo pos (starEach [] env)).any (·.1)=false) (he:EvE w A h0 env os true σ e t)
  (hf:∀ x oL,σ.hp x=none->x≠env.locals->σ.hp env.locals=none->FnH w os n 36 [.obj x,t] ((σ.hp.put x (.slt 40 [])).put env.locals (.same oL)) (λr hp'=>r= .val .none/\(hp' env.locals=some (.same oL)->aA4 (σ.hp.put x (.slt 40 [])) (hp'.del env.locals)->PV (.val (.obj x)) ⟨σ.fz,σ.ow,hp'.del env.locals⟩))):
  EvH w A h0 env os σ (.Call (.Name (u "_NodeInfo") np) [e] [] pos) PV:=λB O X m cm s Q E F R q=>by
 refine wpAny_Call_NameR (aQ7 W F hk (show mgm w.params (u "_NodeInfo")=some (.ref 40) by lk) ?_ (by lk))
 refine callWith_K F.k0 (cR9 _) ?_ hst hpl
 rw [hs]
 refine Calls.spliced_cons (he B (O++X) m cm s _ E F (R.rel X) λv s1 B1 l1 F1 V1=>Calls.spliced_nil ⟨F1.k0, ?_⟩)
 refine wpAny_call ?_
 obtain ⟨hh,g,dr,tk,oss⟩:=s1
 refine make_core (makes_of F1.k0 (cI3 _)) (looks_findIn F1.k0 (cR8 _)) (λself=>bind_fn F1.k0 self (dK1 _)) (.inl rfl) ?_
 have F2:=F1.push (o:=emptyDict) rfl tk
 have l2:=PM.le_put emptyDict F1.none_of_fresh
 have F3:=F2.pushO (o:=instObj 40 hh.objs.size) rfl tk
 have ex:(hh.push emptyDict).objs.size=hh.objs.size+1:=Heap.size_push ..
 have hx:(hh.push emptyDict).get? (hh.objs.size+1)=none:=by rw [<- ex]; exact aA7
 have hpx:=aG8 F2 ((R.mono l1).mono l2) hx
 have R3:=((R.mono l1).mono l2).new (a:=hh.objs.size+1) (o:=instObj 40 hh.objs.size) (b:= .slt 40 []) ⟨[],hh.objs.size,emptyDict,rfl,⟨rfl,PM.put_self ..⟩,rfl,rfl, .nil⟩
 have F4:Fm w h0 env (B1.put hh.objs.size emptyDict) ((O++[(hh.objs.size+1,instObj 40 hh.objs.size)])++X) m cm os ⟨(hh.push emptyDict).push (instObj 40 hh.objs.size),g,dr,tk,oss⟩:=by
  refine Fm.newX ?_
  have F3':=F3
  dsimp only at F3'
  rw [ex] at F3'
  exact F3'
 have hne:hh.objs.size+1≠env.locals:=λz=>by
  refine aA3 (aK3 F2.ns) λo ho=> ?_
  rw [<- z] at ho
  exact absurd ho (by rw [hx]; intro y; cases y)
 refine bF (P:=λr σ'=>r= .val .none/\PV (.val (.obj (hh.objs.size+1))) σ') F4 R3 (aV (Wy.put (λo z=>by rw [hpx] at z; cases z))) (aY RA) (.cons (.obj _) (.cons (Val.mono l2 V1) .nil)) (λoL hL=> ?_) ⟨λt' σ' v' s' B' O' m' cm' p V l F' R'=> ?_,λcls args σ' e s' B' Z O' m' cm' p=>by cases p.1⟩
 ·have hL':σ.hp env.locals=none:=by
   have:σ.hp.put (hh.objs.size+1) (.slt 40 []) env.locals=none:=hL
   unfold Hp.put at this
   rwa [if_neg hne.symm] at this
  refine (hf (hh.objs.size+1) oL hpx hne hL').mono λr hp' p k0 k=>⟨p.1,p.2 k0 k⟩
 ·refine aB p λp1 p2=> ?_
  try clear p
  cases p1
  refine ⟨VR.none (k:=true) (O:=[]) V, ?_⟩
  exact q.go _ _ _ s' B' O' m' cm' p2 (.obj _) (l1.trans (l2.trans l)) F' R'
theorem EvH.newSorter {PV:Rs->Sg->Prop}{l:List Env}(np pos:Pos)(W:Own env)(Wy:aC9 A env σ l)(RA:aD6 (n+1) A)(hk:env.kindOf (u "TopologicalSorter")=some .globalImplicit)
  (hf:∀ x d oL,σ.hp x=none->σ.hp d=none->x≠d->x≠env.locals->d≠env.locals->σ.hp env.locals=none->FnH w os n 73 [.obj x] (((σ.hp.put d (.ns [])).put x (.ins 137 d)).put env.locals (.same oL)) (λr hp'=>r= .val .none/\(hp' env.locals=some (.same oL)->aA4 ((σ.hp.put d (.ns [])).put x (.ins 137 d)) (hp'.del env.locals)->PV (.val (.obj x)) ⟨σ.fz,σ.ow,hp'.del env.locals⟩))):
  EvH w A h0 env os σ (.Call (.Name (u "TopologicalSorter") np) [] [] pos) PV:=λB O X m cm s Q E F R q=>by
 refine wpAny_Call_NameR (aQ7 W F hk (show mgm w.params (u "TopologicalSorter")=some (.ref 137) by lk) ?_ (by lk))
 refine callWith_K0 F.k0 (cI5 _) ?_
 refine wpAny_call ?_
 obtain ⟨hh,g,dr,tk,oss⟩:=s
 refine make_core (makes_of F.k0 (cA _)) (looks_findIn F.k0 (cI4 _)) (λself=>bind_fn F.k0 self (dK2 _)) (.inl rfl) ?_
 have F2:=(F.pushO (o:=emptyDict) rfl tk).newX
 have hd:hh.get? hh.objs.size=none:=aA7
 have hpd:=aG8 F R hd
 have R2:=R.new (a:=hh.objs.size) (o:=emptyDict) (b:= .ns []) ⟨[],⟨[],0,rfl, .nil⟩,rfl, .nil⟩
 have F3:=F2.pushO (o:=instObj 137 hh.objs.size) rfl tk
 have ex:(hh.push emptyDict).objs.size=hh.objs.size+1:=Heap.size_push ..
 have hx:(hh.push emptyDict).get? (hh.objs.size+1)=none:=by rw [<- ex]; exact aA7
 have hpx0:=aG8 F2 R2 hx
 have hxd:hh.objs.size+1≠hh.objs.size:=by room
 have hpx:σ.hp (hh.objs.size+1)=none:=by
  have:σ.hp.put hh.objs.size (.ns []) (hh.objs.size+1)=none:=hpx0
  unfold Hp.put at this
  rwa [if_neg hxd] at this
 have R3:=R2.new (a:=hh.objs.size+1) (o:=instObj 137 hh.objs.size) (b:= .ins 137 hh.objs.size) rfl
 have F4:Fm w h0 env B (((O++[(hh.objs.size,emptyDict)])++[(hh.objs.size+1,instObj 137 hh.objs.size)])++X) m cm os ⟨(hh.push emptyDict).push (instObj 137 hh.objs.size),g,dr,tk,oss⟩:=by
  refine Fm.newX ?_
  have F3':=F3
  dsimp only at F3'
  rw [ex] at F3'
  exact F3'
 have hne:hh.objs.size+1≠env.locals:=λz=>by
  refine aA3 (aK3 F2.ns) λo ho=> ?_
  rw [<- z] at ho
  exact absurd ho (by rw [hx]; intro y; cases y)
 have hned:hh.objs.size≠env.locals:=λz=>by
  refine aA3 (aK3 F.ns) λo ho=> ?_
  rw [<- z] at ho
  exact absurd ho (by rw [hd]; intro y; cases y)
 refine bF (P:=λr σ'=>r= .val .none/\PV (.val (.obj (hh.objs.size+1))) σ') F4 R3 (aV ((Wy.put (λo z=>by rw [hpd] at z; cases z)).put (λo z=>by rw [hpx0] at z; cases z))) (aY RA) (.cons (.obj _) .nil) (λoL hL=> ?_) ⟨λt' σ' v' s' B' O' m' cm' p V l F' R'=> ?_,λcls args σ' e s' B' Z O' m' cm' p=>by cases p.1⟩
 ·have hL':σ.hp env.locals=none:=by
   have:(σ.hp.put hh.objs.size (.ns [])).put (hh.objs.size+1) (.ins 137 hh.objs.size) env.locals=none:=hL
   unfold Hp.put at this
   rwa [if_neg hne.symm,if_neg hned.symm] at this
  refine (hf (hh.objs.size+1) hh.objs.size oL hpx hpd hxd hne hned hL').mono λr hp' p k0 k=>⟨p.1,p.2 k0 k⟩
 ·refine aB p λp1 p2=> ?_
  try clear p
  cases p1
  refine ⟨VR.none (k:=true) (O:=[]) V, ?_⟩
  exact q.go _ _ _ s' B' O' m' cm' p2 (.obj _) l F' R'
end
section
variable {w:World}{A:Around}{h0:aA8}{env:Env}{os:OsState}{σ:Sg}{n:Nat}{P:FP}{rest:List Stmt}{PV:Rs->Sg->Prop}
theorem bU2 (w:World):isD emptyDict [] 0:=⟨w, #[],⟨rfl,rfl,rfl⟩,rfl,λ_ he=>by simp at he, .nil,List.nodup_nil⟩
theorem EvH.listO {es:List Expr}{ts:List T}(pos:Pos)(he:aC4 w A h0 env os σ es ts)(hs:backTo pos (starEach es env)=es.map λe=>(false,eval e env))(hz:ts.length<=sizeLine)
  (h:∀ l,σ.hp l=none->PV (.val (.obj l)) (σ.put l (.lst ts))):EvH w A h0 env os σ (.List es pos) PV:=λB O X m cm s Q E F R q=>
 wpAny_List (by
  rw [hs]
  refine aE4 he B (O++X) m cm s _ E F (R.rel X) λvs s1 B1 l1 F1 V=>⟨by rw [V.length]; exact hz, ?_⟩
  have F2:=(F1.pushO (o:={ cls:= .type "list",data:= .seq vs.toArray }) rfl s1.toks).newX
  have R2:=(R.mono l1).new (a:=s1.heap.objs.size) (o:={ cls:= .type "list",data:= .seq vs.toArray }) (b:= .lst ts) ⟨vs,⟨_,rfl⟩,V⟩
  exact q.go _ _ _ _ B1 _ m cm (h _ (aG8 F1 (R.mono l1) aA7)) (.obj _) l1 F2 R2)
theorem EvH.dictO (pos:Pos)(h:∀ l,σ.hp l=none->PV (.val (.obj l)) (σ.put l (.dct [] 0))):EvH w A h0 env os σ (.Dict [] [] pos) PV:=λB O X m cm s Q E F R q=>
 wpAny_Dict_empty (by
  have F2:=(F.pushO (o:=emptyDict) rfl s.toks).newX
  have R2:=R.new (a:=s.heap.objs.size) (o:=emptyDict) (b:= .dct [] 0) ⟨[],bU2 w,rfl, .nil⟩
  exact q.go _ _ _ _ B _ m cm (h _ (aG8 F R aA7)) (.obj _) (.refl B) F2 R2)
theorem ExE.asgIH {value e:Expr}{x:Str}(p pos:Pos)(hn:aG5 w.params x)(hs:swapsWith e (some (.Attribute value x p)) pos.line env=pure false)
  (he:EvH w A h0 env os σ e (aR5 P λt σ1=>∃ a d es,EvE w A h0 env os true σ1 value (.obj a)/\σ1.hp a=some (.ins 137 d)/\σ1.hp d=some (.ns es)/\es.length<=900/\ExE w A h0 env os (σ1.put d (.ns (aE3 x t es))) rest P)):ExE w A h0 env os σ (.Assign [.Attribute value x p] e pos::rest) P:=λB O X m cm s Q E F R q=>
 wpAny_execs_cons (plainObj_wpAny_Assign_Attribute (he B O X m cm s _ E F R ⟨λt σ1 v s1 B1 O1 m1 cm1 pr V l1 F1 R1=>by
  refine bG6 pr λa d es hv ha hd hz h=> ?_
  try clear pr
  refine hv B1 (O1++X) m1 cm1 s1 _ E F1 (R1.rel X) λov s2 B2 l2 F2 V2=> ?_
  rw [Val.objAt V2]
  exact cR6 F2 (R1.mono l2) ha hd hn hz (Val.mono l2 V) λs3 O3 F3 R3=>h B2 O3 X m1 cm1 s3 Q E F3 R3 (q.mono (l1.trans l2)),λcls args σ' e s' B' Z O' m' cm' p r l F' R'=>q.out cls args σ' e s' B' Z O' m' cm' p r l F' R'⟩) hs)
theorem ExE.asgSH {value e:Expr}{x:Str}{p:Addr}{i:Nat}(p1 pos:Pos)(hn:aF8 w.params x p i)(hs:swapsWith e (some (.Attribute value x p1)) pos.line env=pure false)
  (he:EvH w A h0 env os σ e (aR5 P λt σ1=>∃ a ts,EvE w A h0 env os true σ1 value (.obj a)/\σ1.hp a=some (.slt 40 ts)/\i<=ts.length/\ExE w A h0 env os (σ1.put a (.slt 40 (aU9 ts i t))) rest P)):ExE w A h0 env os σ (.Assign [.Attribute value x p1] e pos::rest) P:=λB O X m cm s Q E F R q=>
 wpAny_execs_cons (plainObj_wpAny_Assign_Attribute (he B O X m cm s _ E F R ⟨λt σ1 v s1 B1 O1 m1 cm1 pr V l1 F1 R1=>by
  refine bD7 pr λa ts hv ha hi h=> ?_
  try clear pr
  refine hv B1 (O1++X) m1 cm1 s1 _ E F1 (R1.rel X) λov s2 B2 l2 F2 V2=> ?_
  rw [Val.objAt V2]
  exact cR7 F2 (R1.mono l2) ha hn hi (Val.mono l2 V) λs3 O3 F3 R3=>h B2 O3 X m1 cm1 s3 Q E F3 R3 (q.mono (l1.trans l2)),λcls args σ' e s' B' Z O' m' cm' p r l F' R'=>q.out cls args σ' e s' B' Z O' m' cm' p r l F' R'⟩) hs)
theorem dD8 {B:PM}{O X:OL}{m cm:NM}{s:Shared}{d:Addr}{es:List (Int×T)}{ep:Nat}{i:Int}{tk:Tok}{t:T}{v:Value}{Q:Unit->Shared->Prop}{E:VP}(F:Fm w h0 env B (O++X) m cm os s)(R:Rl env σ B O m cm)(hd:σ.hp d=some (.dct es ep))(V:Val B v t)(hz:es.length<=sizeLine)
  (q:∀ ep' s' O',Fm w h0 env B (O'++X) m cm os s'->Rl env (σ.put d (.dct (aV6 es i t) ep')) B O' m cm->Q () s'):wpAny (model pw w) A (setItem (.ref d) (.int i tk) v) Q E s:=by
 refine aM6 (R.at hd) λOa od Ob' z1z z2z up=> ?_
 subst z1z
 refine aC8 z2z λkvs h1 h2 h3=> ?_
 try clear z2z
 have ho:=F.opn (d,od) (List.mem_append.mpr (.inl (List.mem_append.mpr (.inr (.head _)))))
 have hlen:kvs.length=es.length:=by have:=congrArg List.length h2; simpa using this
 refine wpAny_setItem_pairs (intKind_is pw w i tk) (Heap.dictOf_iff.mpr ⟨od,ho,h1.to w⟩) (λh' hD hS=> ?_) (by room)
 refine aA1 (Heap.dictOf_iff.mp hD) λod' ho' hi'=> ?_
 have F3:Fm w h0 env B (Oa++(d,od)::(Ob'++X)) m cm os s:=by simpa using F
 have F4:=F3.turn ho' hS (s.toks+1)
 refine aB (bU (k:=i) h2 h3 V) λk1 k2=> ?_
 refine aA3 (isD.of hi') λep' hi''=> ?_
 exact q ep' _ _ (by simpa using F4) (up od' _ ⟨_,hi'',k1,k2⟩)
theorem ExE.setD2 {value i e:Expr}{x:Str}(p1 p2 pos:Pos)(W:Own env)(hk:env.kindOf x=some .local)
  (hea:(assignEach [Expr.Subscript value i p1,Expr.Name x p2] env).map (·.2)=[PySem.assign (Expr.Subscript value i p1) env,PySem.assign (Expr.Name x p2) env]) (hw:swappedStores [Expr.Subscript value i p1,Expr.Name x p2] e env=pure none)
  (he:EvH w A h0 env os σ e (aR5 P λt σ1=>∃ d es ep k,EvE w A h0 env os true σ1 value (.obj d)/\EvE w A h0 env os true σ1 i (.int k)/\σ1.hp d=some (.dct es ep)/\es.length<=sizeLine/\(∀ p∈σ1.ow,p.1≠x)/\∀ ep',ExE w A h0 env os ((σ1.put d (.dct (aV6 es k t) ep')).set x t) rest P)):ExE w A h0 env os σ (.Assign [.Subscript value i p1, .Name x p2] e pos::rest) P:=λB O X m cm s Q E F R q=>
 wpAny_execs_cons (wpAny_Assign_two (he B O X m cm s _ E F R ⟨λt σ1 v s1 B1 O1 m1 cm1 pr V l1 F1 R1=>by
  refine cM9 pr λd es ep k hv hi hd hz hx h=> ?_
  try clear pr
  rw [assign_Subscript]
  refine wpAny_bind (wpAny_holding (hv B1 (O1++X) m1 cm1 s1 _ E F1 (R1.rel X) λov s2 B2 l2 F2 V2=> ?_))
  refine wpAny_bind (wpAny_holding (hi B2 (O1++X) m1 cm1 s2 _ E F2 ((R1.mono l2).rel X) λiv s3 B3 l3 F3 V3=> ?_))
  rw [Val.objAt V2]
  refine aA3 (VR.int (k:=true) (O:=[]) V3) λtk z1z=> ?_
  subst z1z
  refine wpAny_bind (wpAny_standAt (wpAny_bind (wpAny_holding (dD8 F3 ((R1.mono l2).mono l3) hd (Val.mono (l2.trans l3) V) hz λep' s4 O4 F4 R4=>wpAny_release ?_))))
  refine wpAny_assign_Name (wpAny_storeName_local hk F4.ns (λh' hn hsb=> ?_) (by rw [W.kind]; rfl))
  exact h ep' B3 O4 X _ cm1 _ Q E (F4.setLocal hn hsb _) (R4.set hk hx (Val.mono (l2.trans l3) V)) (q.mono ((l1.trans l2).trans l3)),λcls args σ' e s' B' Z O' m' cm' p r l F' R'=>q.out cls args σ' e s' B' Z O' m' cm' p r l F' R'⟩) hea hw)
end
noncomputable abbrev dD9 (w:World)(A:Around)(h0:aA8)(env:Env)(os:OsState)(J:Sg->Prop)(rest:List Stmt)(P:FP):Fl->Sg->Prop:=bY6 w A h0 env os J (λc u σ'=>(∃ l,aC9 A env σ' l)/\P (.exc c u) σ') rest P
section
variable {w:World}{A:Around}{h0:aA8}{env:Env}{os:OsState}{σ:Sg}{P:FP}{rest:List Stmt}{k:Bool}
structure bJ (w:World)(A:Around)(h0:aA8)(env:Env)(os:OsState)(B:PM)(ts:List T)(C:Sg->Prop)(I:Nat->Obj->Prop):Prop where
 next:∀ (B':PM) (O X:OL) (m cm:NM) (s:Shared) (it:Addr) (o:Obj) (i:Nat) (t:T) (σ:Sg) (Q:Option Value->Shared->Prop) (E:VP),B.le B'->C σ->Rl env σ B' O m cm->Fm w h0 env B' (O++(it,o)::X) m cm os s->I i o->ts[i]? =some t->
  (∀ v s' o',I (i+1) o'->Fm w h0 env B' (O++(it,o')::X) m cm os s'->Val B' v t->Q (some v) s')->wpAny (model pw w) A (pyNext (.ref it)) Q E s
 stop:∀ (B':PM) (O X:OL) (m cm:NM) (s:Shared) (it:Addr) (o:Obj) (i:Nat) (σ:Sg) (Q:Option Value->Shared->Prop) (E:VP),B.le B'->C σ->Rl env σ B' O m cm->Fm w h0 env B' (O++(it,o)::X) m cm os s->I i o->ts[i]? =none->
  (∀ s',Fm w h0 env B' (O++X) m cm os s'->Q none s')->wpAny (model pw w) A (pyNext (.ref it)) Q E s
noncomputable def ItG (w:World)(A:Around)(h0:aA8)(env:Env)(os:OsState)(σ:Sg)(iter:Expr)(ts:List T)(C:Sg->Prop):Prop:=
 ∀ (B:PM) (O:OL) (m cm:NM) (s:Shared) (Q:VP) (E:VP),Fm w h0 env B O m cm os s->Rel env σ B O m cm->
  (∀ it o s' B' I,B.le B'->Fm w h0 env B' ((it,o)::O) m cm os s'->bJ w A h0 env os B' ts C I->I 0 o->Q (.ref it) s')->wpAny (model pw w) A (eval iter env) (λx s1=>wpAny (model pw w) A (pyIter x) Q E s1) E s
theorem ItE.toG {iter:Expr}{ts:List T}(h:ItE w A h0 env os σ iter ts):ItG w A h0 env os σ iter ts (λ_=>True):=λB O m cm s Q E F R q=>
 h B O m cm s Q E F R λit o s' B' I l F' S I0=>q it o s' B' I l F' ⟨λB2 O X m cm s it o i t σ Q E l C R F I ht q=>S.next B2 O X m cm s it o i t Q E l F I ht q,λB2 O X m cm s it o i σ Q E l C R F I ht q=>S.stop B2 O X m cm s it o i Q E l F I ht q⟩ I0
theorem ItE.tup {iter:Expr}{ts:List T}(hA:A.handled=none)(he:EvE w A h0 env os true σ iter (.tup ts)):ItE w A h0 env os σ iter ts:=λB O m cm s Q E F R q=>
 he B O m cm s _ E F R λv s1 B1 l1 F1 V=>by
  have hB:∃ a o vs,v= .ref a/\B1 a=some o/\isT o vs/\aA6 B1 vs ts:=by
   cases V with
   | tup h i vs=>exact ⟨_,_,_,rfl,h,i,vs⟩
  refine bL4 hB λa ol vs z1z hBl il Vs=> ?_
  try clear hB
  subst z1z
  refine wpAny_pyIter_tuple ⟨ol,F1.sub _ _ hBl,il.1,il.2⟩ ?_
  refine q _ _ _ B1 (λi o=>o.cls= .type "tuple_iterator" /\o.data= .fields #[.ref a, .int i 0]) l1 (F1.pushO rfl s1.toks) ?_ ⟨rfl,rfl⟩
  refine ⟨λB' O X m cm s it o i t Q E l F I ht q=> ?_,λB' O X m cm s it o i Q E l F I ht q=> ?_⟩
  ·refine aA1 ((Vs.mono l).get ht) λv hv Vv=> ?_
   refine wpAny_pyNext_tuple_item ⟨o,F.opn _ (List.mem_append.mpr (.inr (.head _))),I.1,I.2⟩ ⟨ol,F.sub _ _ (l _ _ hBl),il.1,il.2⟩ (by simpa using hv) λh' it' hs=> ?_
   refine aC8 it' λo' ho' c' d'=> ?_
   try clear it'
   exact q v _ o' ⟨c',d'⟩ (aF7 F ho' hs s.toks) Vv
  ·have hv:vs.toArray[i]? =none:=by
    rw [List.getElem?_toArray,List.getElem?_eq_none_iff]
    rw [List.getElem?_eq_none_iff] at ht
    rw [Vs.length]; exact ht
   refine wpAny_pyNext_tuple_end hA ⟨o,F.opn _ (List.mem_append.mpr (.inr (.head _))),I.1,I.2⟩ ⟨ol,F.sub _ _ (l _ _ hBl),il.1,il.2⟩ hv λh' hs=> ?_
   exact q _ (F.drop hs s.toks)
theorem ItG.lst {iter:Expr}{a:Addr}{ts:List T}{k1:Bool}(hA:A.handled=none)(he:EvE w A h0 env os k1 σ iter (.obj a))(ha:σ.hp a=some (.lst ts)):ItG w A h0 env os σ iter ts (λσ=>σ.hp a=some (.lst ts)):=λB O m cm s Q E F R q=>
 he B O m cm s _ E F R λv s1 B1 l1 F1 V=>by
  rw [V.obj]
  refine aB0 (aN F1 (R.mono l1) ha) λvs n g Vs hm=> ?_
  refine wpAny_pyIter_list ⟨_,g,rfl,n,rfl⟩ ?_
  refine q _ _ _ B1 (λi o=>o.cls= .type "list_iterator" /\o.data= .fields #[.ref a, .int i 0]) l1 (F1.pushO rfl s1.toks) ?_ ⟨rfl,rfl⟩
  refine ⟨λB' O X m cm s it o i t σ Q E l C R F I ht q=> ?_,λB' O X m cm s it o i σ Q E l C R F I ht q=> ?_⟩
  ·refine aB0 (aN F (R.rel ((it,o)::X)) C) λvs n g Vs hm=> ?_
   refine aA1 (Vs.get ht) λv hv Vv=> ?_
   refine wpAny_pyNext_list_item ⟨o,F.opn _ (List.mem_append.mpr (.inr (.head _))),I.1,I.2⟩ ⟨_,g,rfl,n,rfl⟩ (by simpa using hv) λh' it' hs=> ?_
   refine aC8 it' λo' ho' c' d'=> ?_
   try clear it'
   exact q v _ o' ⟨c',d'⟩ (aF7 F ho' hs s.toks) Vv
  ·refine aB0 (aN F (R.rel ((it,o)::X)) C) λvs n g Vs hm=> ?_
   have hv:vs.toArray[i]? =none:=by
    rw [List.getElem?_toArray,List.getElem?_eq_none_iff]
    rw [List.getElem?_eq_none_iff] at ht
    rw [Vs.length]; exact ht
   refine wpAny_pyNext_list_end hA ⟨o,F.opn _ (List.mem_append.mpr (.inr (.head _))),I.1,I.2⟩ ⟨_,g,rfl,n,rfl⟩ hv λh' hs=> ?_
   exact q _ (F.drop hs s.toks)
theorem aK6 {B:PM}{O:OL}{m cm:NM}{s:Shared}{d:Addr}{es:List (Int×T)}{ep:Nat}(F:Fm w h0 env B O m cm os s)(R:Rel env σ B O m cm)(hd:σ.hp d=some (.dct es ep)):∃ kvs,s.heap.DictAt (intKind pw w) d kvs ep/\kvs.map (·.1)=es.map (·.1)/\aA6 B (kvs.map (·.2)) (es.map (·.2))/\(d == sysModules)=false:=by
 refine aA1 (R.at hd) λod hm h9=>aC8 h9 λkvs h1 h2 h3=> ?_
 exact ⟨kvs,h1.at_ (F.opn _ hm) w,h2,h3,F.notSys hm⟩
theorem cI6 {α β γ:Type}{f:α->γ}{g:β->γ}{l:List α}{l':List β}(h:l.map f=l'.map g){i:Nat}{y:β}(e:l'[i]? =some y):∃ x,l[i]? =some x/\f x=g y:=by
 have:(l.map f)[i]? =some (g y):=by rw [h,List.getElem?_map,e]; rfl
 rw [List.getElem?_map] at this
 cases hx:l[i]? with
 | none=>rw [hx] at this; cases this
 | some x=>rw [hx] at this; exact ⟨x,rfl,Option.some.inj this⟩
theorem ItG.keys {iter:Expr}{d:Addr}{es:List (Int×T)}{ep:Nat}{k1:Bool}(hA:A.handled=none)(he:EvE w A h0 env os k1 σ iter (.obj d))(hd:σ.hp d=some (.dct es ep)):ItG w A h0 env os σ iter (es.map λp=> .int p.1) (λσ=>σ.hp d=some (.dct es ep)):=λB O m cm s Q E F R q=>
 he B O m cm s _ E F R λv s1 B1 l1 F1 V=>by
  rw [V.obj]
  refine aV3 (aK6 F1 (R.mono l1) hd) λkvs D h1 h2 hns=> ?_
  have hlen:kvs.length=es.length:=by have:=congrArg List.length h1; simpa using this
  refine wpAny_pyIter_dict hns D ?_
  refine q _ _ _ B1 (λi o=>o.cls= .type "dict_keyiterator" /\o.data= .fields #[.ref d, .int i 0, .int es.length 0, .int ep 0]) l1 (F1.pushO rfl s1.toks) ?_ ⟨rfl,by rw [hlen]; rfl⟩
  refine ⟨λB' O X m cm s it o i t σ Q E l C R F I ht q=> ?_,λB' O X m cm s it o i σ Q E l C R F I ht q=> ?_⟩
  ·refine aV3 (aK6 F (R.rel ((it,o)::X)) C) λkvs D h1 h2 hns=> ?_
   have hlen:kvs.length=es.length:=by have:=congrArg List.length h1; simpa using this
   rw [List.getElem?_map] at ht
   cases e:es[i]? with
   | none=>rw [e] at ht; cases ht
   | some p=>
    rw [e] at ht
    cases ht
    refine aA1 (cI6 h1 e) λkv e1 e2=> ?_
    refine wpAny_pyNext_dict_item (k:=kv.1) (v:=kv.2) ⟨o,F.opn _ (List.mem_append.mpr (.inr (.head _))),I.1,by rw [hlen]; exact I.2⟩ D e1 λkey h' hk it' hs=> ?_
    refine aC8 it' λo' ho' c' d'=> ?_
    try clear it'
    refine aA3 (Value.isInt_shape hk) λtk z1z=> ?_
    subst z1z
    refine q _ _ o' ⟨c',by rw [hlen] at d'; exact d'⟩ (aF7 F ho' hs s.toks) ?_
    show Val B' _ (.int p.1)
    rw [<- e2]; exact .int _ _
  ·refine aV3 (aK6 F (R.rel ((it,o)::X)) C) λkvs D h1 h2 hns=> ?_
   have hlen:kvs.length=es.length:=by have:=congrArg List.length h1; simpa using this
   have hv:kvs[i]? =none:=by
    rw [List.getElem?_eq_none_iff]
    rw [List.getElem?_eq_none_iff,List.length_map] at ht
    room
   refine wpAny_pyNext_dict_end hA ⟨o,F.opn _ (List.mem_append.mpr (.inr (.head _))),I.1,by rw [hlen]; exact I.2⟩ D hv λh' hs=> ?_
   exact q _ (F.drop hs s.toks)
theorem bU3 {l:List Env}{cls:Value}{args:List T}{e:Addr}{B:PM}{O X Z:OL}{m cm:NM}{s:Shared}{E:VP}(F:Fm w h0 env B (Z++(O++X)) m cm os s)(R:Rl env σ B O m cm)(Wy:aC9 A env σ l)(fly:Fly B env.locals cls args e Z)
  (q:∀ s' Z' O',Fly B env.locals cls args e Z'->Fm w h0 env B (Z'++(O'++X)) m cm os s'->Rl env σ B O' m cm->E (.ref e) s'):notedBy (model pw w) A env (cameBackBy (model pw w) A env E) (.ref e) s:=by
 unfold notedBy
 refine bZ1 F R Wy fly λs1 oe oT vs ts t tb O1 a1 a2 a3 a4 a5 a6 a7 F1 R1=> ?_
 unfold cameBackBy
 refine wpAny_bind (wpAny_field (F1.opn (e,oe) (.head _)) a2 a5 ?_)
 rw [if_neg (show ¬((Value.ref tb == Value.none)=true) from by simp)]
 rw [Wy.own]
 refine aX0 (some env.locals) F1 a2 a5 a6 a7 λs2 oT' ts' b1 b2 F2=> ?_
 exact q s2 _ O1 (.next a1 a2 a3 a4 a5 b1 b2 (.inr rfl)) F2 R1
theorem ExE.forG {target iter:Expr}{body:List Stmt}{ts:List T}{C:Sg->Prop}(J:Nat->Sg->Prop)(pos:Pos)(hi:ItG w A h0 env os σ iter ts C)(h0J:J 0 σ)(hC:∀ i σ1,J i σ1->C σ1)
  (hlo:∀ it v,letOwnedTupleGo target it v=pure ()) (hfs:∀ x,foldedSetIterable iter env x=pure x)
  (turn:∀ i t σ1,ts[i]? =some t->J i σ1->∃ σ2,aF5 w A h0 env os target σ1 t σ2/\ExE w A h0 env os σ2 body (dD9 w A h0 env os (J (i+1)) rest P))
  (fin:∀ σ1,J ts.length σ1->ExE w A h0 env os σ1 rest P):ExE w A h0 env os σ (.For target iter body [] pos::rest) P:=
 ExE.forX J pos (λB O m cm s Q E F R q=>hi B O m cm s Q E F R λit o s' B' I l F' S I0=>q it o s' B' I l F'
  ⟨λB2 O X m cm s it o i t σ Q E l C R F I ht q=>S.next B2 O X m cm s it o i t σ Q E l C R F I ht λv s' o' i f V=>q v s' o' i f V λQ2 E2 h=>wpAny_of_eq (hlo _ _) h,S.stop⟩ I0)
  h0J hC hfs (λcls args σ1 e s1 B1 Z O1 X1 m1 cm1 E1 p fly F R out=>p.1.elim λl Wy=>bU3 F R Wy fly λs' Z' O' f' F' R'=>out s' Z' O' p.2 f' F' R') turn fin
theorem EvE.lenT {e:Expr}{ts:List T}{np pos:Pos}(W:Own env)(he:EvE w A h0 env os true σ e (.tup ts))(hz:(ts.length:Int)<2 ^ 63)(hk:env.kindOf (u "len")=some .globalImplicit:=by lk)(hm:mgm w.params (u "len")=none:=by lk)(hv:mbm w.params (u "len")=some (.builtin "len"):=by lk)(hs:backTo pos (starEach [e] env)=[(false,eval e env)]:=by lk):EvE w A h0 env os k σ (.Call (.Name (u "len") np) [e] [] pos) (.int ts.length):=
 EvE.call1 np pos W hk hm hv (by decide) hs he λB O m cm s va Q E F V q=>by
  refine aB0 (Val.tupAt F V) λa vs z1z L Vs=> ?_
  subst z1z
  refine len_tuple L (by rw [List.size_toArray,Vs.length]; exact hz) ?_
  rw [List.size_toArray,Vs.length]
  exact q _ _ B (.refl B) (F.tok _) (.of (.int _ _))
end
theorem aV7 (l:Addr)(o:Obj)(items:Array Value)(hfit:(items.size:Int)<2 ^ 63)(hc:o.cls= .type "list")(n:Nat)(hd:o.data= .seq items n):
  Meets (Builtin.«bool.__new__» ⟨[.type "bool", .ref l],[]⟩) (λ_ R s=>s.heap.get? l=some o/\R (.ok (.ret (.bool (!items.isEmpty)))) { s with toks:=s.toks+1+1 }):=
 Meets.of_wp λprog w A R s hs=>by
  obtain ⟨hp,g,d,tk,os⟩:=s
  refine aB hs λho hs=> ?_
  have f1:=PySem.F.conv_sub_bool
  have T:∀ (A:Around) (E:VP) (Q:Bool->Shared->Prop) (tk:Nat),Q (!items.isEmpty) ⟨hp,g,d,tk+1+1,os⟩->wpAny (model prog w) A (truthy (.ref l)) Q E ⟨hp,g,d,tk,os⟩:=λA E Q tk h=>wpAny_truthy_list (s:=⟨hp,g,d,tk,os⟩) ⟨o,ho,hc,n,hd⟩ hfit h
  repeat (any_goals (first | assumption | (with_reducible refine T _ _ _ _ ?_) | wp_step))
  all_goals first | exact ⟨_,rfl,hs⟩ | exact hs | skip
section
variable {w:World}{A:Around}{h0:aA8}{env:Env}{os:OsState}{σ:Sg}{P:FP}{rest:List Stmt}{k:Bool}
theorem EvE.gint {x:Str}{i:Int}{tk:Tok}(pos:Pos)(W:Own env)(hv:mgm w.params x=some (.int i tk))(hk:env.kindOf x=some .globalImplicit)(hd:(x == ("__debug__" :Str))=false):EvE w A h0 env os k σ (.Name x pos) (.int i):=λB O m cm s Q E F R q=>
 aQ7 W F hk hv (q _ s B (.refl B) F (.of (.int i tk))) hd
theorem EvE.tupleL {e:Expr}{ts:List T}{k1:Bool}(np pos:Pos)(W:Own env)(he:EvE w A h0 env os k1 σ e (.list ts))(hz:ts.length<=sizeLine)(hk:env.kindOf (u "tuple")=some .globalImplicit:=by lk)(hm:mgm w.params (u "tuple")=none:=by lk)(hv:mbm w.params (u "tuple")=some (.type "tuple"):=by lk)(hs:backTo pos (starEach [e] env)=[(false,eval e env)]:=by lk):
  EvE w A h0 env os k σ (.Call (.Name (u "tuple") np) [e] [] pos) (.tup ts):=λB O m cm s Q E F R q=>
 wpAny_Call_NameR (aJ0 W F hk hm hv (by
  rw [hs]
  refine PySem.callWith_type rfl (Calls.evalArgs_plain (Calls.spliced_cons (he B O m cm s _ E F R λva s1 B1 l1 F1 V1=>Calls.spliced_nil ?_)))
  refine aB0 (VR.list F1 V1) λa vs z1z L Vs=> ?_
  subst z1z
  refine call_tuple_list L (λh' ke=> ?_) (by rw [List.size_toArray,Vs.length]; exact hz)
  have F2:=(F1.grow ke s1.toks).push (o:={ cls:= .type "tuple",data:= .seq vs.toArray }) rfl s1.toks
  have l2:=PM.le_put ({ cls:= .type "tuple",data:= .seq vs.toArray }:Obj) (F1.grow ke s1.toks).none_of_fresh
  exact q _ _ _ (l1.trans l2) F2 (.of (.tup (PM.put_self ..) ⟨rfl,_,rfl⟩ (Vs.mono l2)))) (by lk))
theorem EvE.boolL {e:Expr}{ts:List T}{k1:Bool}(np pos:Pos)(W:Own env)(he:EvE w A h0 env os k1 σ e (.list ts))(hz:(ts.length:Int)<2 ^ 63)(hk:env.kindOf (u "bool")=some .globalImplicit:=by lk)(hm:mgm w.params (u "bool")=none:=by lk)(hv:mbm w.params (u "bool")=some (.type "bool"):=by lk)(hs:backTo pos (starEach [e] env)=[(false,eval e env)]:=by lk):
  EvE w A h0 env os k σ (.Call (.Name (u "bool") np) [e] [] pos) (.bool (!ts.isEmpty)):=λB O m cm s Q E F R q=>
 wpAny_Call_NameR (aJ0 W F hk hm hv (by
  rw [hs]
  refine PySem.callWith_type rfl (Calls.evalArgs_plain (Calls.spliced_cons (he B O m cm s _ E F R λva s1 B1 l1 F1 V1=>Calls.spliced_nil ?_)))
  refine aB0 (VR.list F1 V1) λa vs z1z z2z Vs=> ?_
  subst z1z
  refine aC8 z2z λo ho hc h9=>aA3 h9 λn hd=> ?_
  try clear z2z
  have e1:(!vs.toArray.isEmpty)= !ts.isEmpty:=by
   cases Vs<;>rfl
  refine call_bool_1 (aV7 a o vs.toArray (by rw [List.size_toArray,Vs.length]; exact hz) hc n hd) ⟨ho,rfl, ?_⟩
  rw [e1]
  exact q _ _ B1 l1 (F1.tok _) (.of (.bool _))) (by lk))
theorem EvE.orB {x y:Expr}{a b:Bool}(pos:Pos)(hx:EvE w A h0 env os true σ x (.bool a))(hy:EvE w A h0 env os true σ y (.bool b)):EvE w A h0 env os k σ (.BoolOp .Or [x,y] pos) (.bool (a || b)):=λB O m cm s Q E F R q=>
 BoolOp_or (hx B O m cm s _ E F R λv s1 B1 l1 F1 V1=>by
  rw [VR.bool V1]
  refine wpAny_truthy_bool ?_
  cases a with
  | true=>rw [if_pos rfl]; exact q _ _ B1 l1 F1 (.of (.bool _))
  | false=>
   rw [if_neg Bool.false_ne_true]
   refine BoolOp_one (hy B1 O m cm s1 _ E F1 (R.mono l1) λv s2 B2 l2 F2 V2=> ?_)
   rw [VR.bool V2]
   exact q _ _ B2 (l1.trans l2) F2 (.of (.bool _)))
theorem aL5 {items:Array Value}{n:Nat}{f:Array Value->Array Value}{l:List Value}(h:f items=l.toArray):∃ n',Obj.mapSeq f { cls:= .type "list",data:= .seq items n }={ cls:= .type "list",data:= .seq l.toArray n' }:=by
 unfold Obj.mapSeq
 dsimp only
 first
  | (rw [h]; exact ⟨_,rfl⟩)
  | (simp only [h]; exact ⟨_,rfl⟩)
theorem ExE.clearO {value:Expr}{a:Addr}{ts:List T}{k1:Bool}(pa pc pos:Pos)(hv:EvE w A h0 env os k1 σ value (.obj a))(ha:σ.hp a=some (.lst ts))(hz:ts.length<=sizeLine)
  (hb:attributeBase value (u "clear") env (eval value env)=eval value env) (hl:(pa.endLine == pc.line)=true) (hi:interactive env=false) (hsw:swapsWith (.Call (.Attribute value (u "clear") pa) [] [] pc) none pos.line env=pure false)
  (h:ExE w A h0 env os (σ.put a (.lst [])) rest P):ExE w A h0 env os σ (.Expr (.Call (.Attribute value (u "clear") pa) [] [] pc) pos::rest) P:=λB O X m cm s Q E F R q=>by
 refine wpAny_execs_cons (wpAny_Expr_any (wpAny_Call_method0_late hb hl ?_) hi hsw)
 refine hv B (O++X) m cm s _ E F (R.rel X) λov s1 B1 l1 F1 V1=> ?_
 rw [V1.obj]
 have R1:=R.mono l1
 refine aM6 (R1.at ha) λOa od Ob' z1z z2z up=> ?_
 subst z1z
 refine aA1 z2z λvs z1z V=> ?_
 try clear z2z
 refine aA3 z1z λn z1z=> ?_
 subst z1z
 have ho:=F1.opn (a,_) (List.mem_append.mpr (.inl (List.mem_append.mpr (.inr (.head _)))))
 refine ⟨"list", "list.clear",PySem.F.plainAttrs_list,PySem.F.slot_list_clear,PySem.F.type_list_clear,⟨_,ho,rfl⟩,λb e=>by cases e; exact ⟨_,ho,rfl⟩, ?_⟩
 refine callWith_builtin rfl (evalArgs_nil3 ?_)
 refine call_meets PySem.F.slot_list_clear ⟨_,ho,rfl⟩ PySem.F.entry_list_clear (PySem.F.args_list_clear_1 _) (PySem.AutoSeq1.list_clear_list_0 a vs.toArray n (by rw [List.size_toArray,V.length]; exact hz)) ⟨ho, ?_⟩
 refine aA3 (aL5 (items:=vs.toArray) (n:=n) (f:=λ_=> #[]) (l:=[]) rfl) λn' e=> ?_
 have F2:Fm w h0 env B1 (Oa++(a,({ cls:= .type "list",data:= .seq vs.toArray n }:Obj))::(Ob'++X)) m cm os s1:=by simpa using F1
 have hg:(s1.heap.update a (Obj.mapSeq λ_=> #[])).get? a=some { cls:= .type "list",data:= .seq ([]:List Value).toArray n' }:=by
  rw [Heap.get?_update_self _ ho (by rw [e]; rfl),e]
 have F3:=F2.turn hg (Heap.SameBut.update ..) s1.toks
 exact h B1 _ X m cm _ Q E (by simpa using F3) (up { cls:= .type "list",data:= .seq ([]:List Value).toArray n' } _ ⟨[],⟨n',rfl⟩, .nil⟩) (q.mono l1)
end
section
variable {w:World}{A:Around}{h0:aA8}{env:Env}{os:OsState}{σ:Sg}{P:FP}{rest:List Stmt}{k:Bool}{B:PM}{O X:OL}{m cm:NM}{s:Shared}
theorem Fm.openO {a:Addr}{o:Obj}(F:Fm w h0 env B O m cm os s)(ha:s.heap.get? a=some o)(hB:B a=none)(hN:h0.h a=none)(hL:a≠env.locals)(hC:∀ x c,env.cells.lookup x=some c->c≠a)(hO:∀ p∈O,p.1≠a):Fm w h0 env B ((a,o)::O) m cm os s:=by
 refine ⟨F.ns,F.cel,F.old,F.sub,λp hp=> ?_,F.offL,F.offC,F.cinj,λp hp=> ?_, ?_,F.gl,F.gens,F.oss,F.nw⟩
 ·rcases List.mem_cons.mp hp with rfl | hp
  ·exact ha
  ·exact F.opn p hp
 ·rcases List.mem_cons.mp hp with rfl | hp
  ·exact ⟨hB,hN,hL,hC⟩
  ·exact F.offO p hp
 ·rw [List.map_cons,List.nodup_cons]
  exact ⟨λh=>by obtain ⟨p,hp,e⟩:=List.mem_map.mp h; exact hO p hp e,F.nod⟩
theorem Fm.nobody {a:Addr}(F:Fm w h0 env B O m cm os s)(ha:s.heap.get? a=none):B a=none/\h0.h a=none/\a≠env.locals/\(∀ x c,env.cells.lookup x=some c->c≠a)/\∀ p∈O,p.1≠a:=by
 refine ⟨?_, ?_, ?_, ?_, ?_⟩
 ·cases z:B a with
  | none=>rfl
  | some o=>rw [F.sub _ _ z] at ha; cases ha
 ·cases z:h0.h a with
  | none=>rfl
  | some o=>rw [F.old _ _ z] at ha; cases ha
 ·rintro rfl
  refine aA3 (aK3 F.ns) λo ho=> ?_
  rw [ho] at ha; cases ha
 ·rintro x c hc rfl
  refine aA1 (F.cel x _ hc) λo ho _=> ?_
  rw [ho] at ha; cases ha
 ·rintro p hp rfl
  rw [F.opn p hp] at ha; cases ha
theorem aY0 {h':Heap}{e:Addr}{cls:Value}{vs:List Value}{args:List T}(F:Fm w h0 env B (O++X) m cm os s)(V:aA6 B vs args)(hm:Heap.MadeExcOf s.heap h' e cls vs):
  ∃ B' Z,B.le B'/\Fly B' env.locals cls args e Z/\Fm w h0 env B' (Z++(O++X)) m cm os { s with heap:=h' }:=by
 refine aC8 hm.there λt he ht0 ht=> ?_
 have G:=F.grow (h':=h') hm.keeps s.toks
 refine aL1 (F.nobody ht0) λt1 t2 t3 t4 t5=> ?_
 refine aL1 (F.nobody hm.new) λe1 e2 e3 e4 e5=> ?_
 have hte:t≠e:=λz=>by rw [z,he] at ht; cases ht
 have G1:=G.know ht t1 t2 t3 t4 t5
 have l:=PM.le_put ({ cls:= .type "tuple",data:= .seq vs.toArray }:Obj) t1
 have G2:=G1.openO he (by rw [PM.put_ne _ _ hte.symm]; exact e1) e2 e3 e4 e5
 exact ⟨_,[(e,_)],l, .first rfl rfl rfl (.tup (PM.put_self ..) ⟨rfl,_,rfl⟩ (V.mono l)) rfl,G2⟩
theorem ExE.raiseV {e:Expr}{t:T}(np cpos pos:Pos)(W:Own env)(hA:A.handled=none)(he:EvE w A h0 env os true σ e t)(hk:env.kindOf (u "ValueError")=some .globalImplicit)(hm:mgm w.params (u "ValueError")=none)(hv:mbm w.params (u "ValueError")=some (.type "ValueError"))
  (hs:backTo cpos (starEach [e] env)=[(false,eval e env)]) (hP:P (.exc (.type "ValueError") [t]) σ):ExE w A h0 env os σ (.Raise (some (.Call (.Name (u "ValueError") np) [e] [] cpos)) none pos::rest) P:=λB O X m cm s Q E F R q=>
 wpAny_execs_cons (wpAny_Raise_call PySem.F.excCall_ValueError PySem.F.excRaise_ValueError hA (by rw [hs]; rfl) (aJ0 W F hk hm hv ⟨rfl,by
  rw [hs]
  refine Calls.evalArgs_plain (Calls.spliced_cons (he B (O++X) m cm s _ E F (R.rel X) λv s1 B1 l1 F1 V1=>Calls.spliced_nil ⟨rfl,by show 1<=sizeLine; decide,λh' ex hm=> ?_⟩))
  refine aB0 (aY0 F1 (.cons V1 .nil) ⟨hm.keeps,hm.new,hm.there⟩) λB' Z l fly F'=> ?_
  exact q.out _ _ σ ex _ B' Z O m cm hP fly (l1.trans l) F' ((R.mono l1).mono l)⟩ (by lk)))
theorem EvE.fmt {a b:Str}{na nb:Nat}{pa pb pf pos:Pos}{x:Expr}{i:Int}{k1:Bool}(hx:EvE w A h0 env os k1 σ x (.int i))(h0i:0<=i)(h1i:i<100)(ha:a.length<=1000)(hb:b.length<=1000)(hev:evalEach [.Constant (.str a) na pa, .FormattedValue x 114 none pf, .Constant (.str b) nb pb] env=[eval (.Constant (.str a) na pa) env,eval (.FormattedValue x 114 none pf) env,eval (.Constant (.str b) nb pb) env]):
  EvE w A h0 env os k σ (.JoinedStr [.Constant (.str a) na pa, .FormattedValue x 114 none pf, .Constant (.str b) nb pb] pos) (.str (((Str.empty++a)++(Str.ofString (toString i)))++b)):=λB O m cm s Q E F R q=>by
 have hsl:sizeLine=16777216:=by decide
 have hd:(Str.ofString (toString i)).length<=2:=by
  have:∀ n:Nat,n<100->(Str.ofString (toString ((n:Nat):Int))).length<=2:=by decide +kernel
  have:=this i.toNat (by room)
  rwa [show ((i.toNat:Nat):Int)=i by room] at this
 have e0:(Str.empty:Str).length=0:=rfl
 refine wpAny_JoinedStr ?_
 rw [hev]
 refine Calls.Constant_str ⟨a,_,rfl,by rw [strLen_append]; room, ?_⟩
 refine wpAny_FormattedValue_repr (hx B O m cm _ _ E (F.tok _) R λv s1 B1 l1 F1 V1=> ?_)
 refine aA3 V1.int λtk z1z=> ?_
 subst z1z
 have hlog:i.natAbs.log2<1920:=by
  have:=Nat.log2_le_self i.natAbs
  room
 have fin:∀ s2 (tk2:Tok),Fm w h0 env B1 O m cm os s2->Joins (model pw w) A E [eval (.Constant (.str b) nb pb) env] ((Str.empty++a)++(Str.ofString (toString i))) (λout s₁=>out.length<=sizeLine/\Q (.str out s₁.toks) { s₁ with toks:=s₁.toks+1 }) s2:=λs2 tk2 F2=>
  Calls.Constant_str ⟨b,_,rfl,by rw [strLen_append,strLen_append,strLen_append]; room,by
   refine ⟨by rw [strLen_append,strLen_append,strLen_append]; room, ?_⟩
   exact q _ _ B1 l1 ((F2.tok _).tok _) (.of (.str _ _))⟩
 refine pyReprObj_int hlog ?_
 refine wpAny_formatField_str ⟨_,_,rfl,by rw [strLen_append,strLen_append]; room,fin _ 0 (F1.tok _)⟩ ⟨_,_,rfl,by rw [strLen_append,strLen_append]; room,fin _ 0 ((F1.tok _).tok _)⟩ (by room)
end
section
variable {w:World}{A:Around}{h0:aA8}{env:Env}{os:OsState}{σ:Sg}{P:FP}{rest:List Stmt}{k:Bool}{B:PM}{O X Z:OL}{m cm:NM}{s:Shared}
theorem Fm.forget (F:Fm w h0 env B (Z++O) m cm os s):Fm w h0 env B O m cm os s:=
 ⟨F.ns,F.cel,F.old,F.sub,λp hp=>F.opn p (List.mem_append.mpr (.inr hp)),F.offL,F.offC,F.cinj,λp hp=>F.offO p (List.mem_append.mpr (.inr hp)),by
  have:=F.nod
  rw [List.map_append,List.nodup_append] at this
  exact this.2.1,F.gl,F.gens,F.oss,F.nw⟩
theorem ExE.tryB {body suite:List Stmt}{b₀:Stmt}{T Xc:String}{np hpos pos:Pos}{x:Str}(W:Own env)(hexc:isSubtype (.type T) (.type "BaseException")=pure true)(hnt:isSubtype (.type ((Manifest.find? T).elim "type" λx=>x.metatype)) (.type "tuple")=pure false)
  (hsub:isSubtype (.type Xc) (.type T)=pure true) (hk:env.kindOf x=some .globalImplicit) (hm:mgm w.params x=none) (hv:mbm w.params x=some (.type T)) (hd:(x == ("__debug__" :Str))=false)
  (h:ExE w A h0 env os σ body (dD w A h0 env os rest (λc _ σ'=>c= .type Xc/\(∃ l,aC9 A env σ' l)/\∀ e,ExE w (A.mark (some (.ref e))) h0 env os σ' (b₀::suite) (bY5 w A h0 env os rest P)) P)):ExE w A h0 env os σ (.Try body [.ExceptHandler (some (.Name x np)) none (b₀::suite) hpos] [] [] pos::rest) P:=λB O X m cm s Q E F R q=>by
 refine wpAny_execs_cons (wpAny_Try_except ?_)
 refine h B O X m cm s _ _ F R ⟨λfl σ' f s' B' O' m' cm' p r l F' R'=> ?_,λcls args σ' e s' B' Z O' m' cm' p fly l F' R'=> ?_⟩
 ·cases r with
  | next=>exact wpAny_execs_nil (p B' O' X m' cm' s' Q E F' R' (q.mono l))
  | brk=>exact q.go .brk σ' _ s' B' O' m' cm' p .brk l F' R'
  | cont=>exact q.go .cont σ' _ s' B' O' m' cm' p .cont l F' R'
  | ret V=>exact q.go (.ret _) σ' _ s' B' O' m' cm' p (.ret V) l F' R'
 ·refine aC5 p λz1z z2z hsuite=> ?_
  try clear p
  subst z1z
  refine aA3 z2z λlf Wy=> ?_
  try clear z2z
  refine bZ1 F' R' Wy fly λs1 oe oT vs ts t tb O1 a1 a2 a3 a4 a5 a6 a7 F1 R1=> ?_
  refine aX0 none F1 a2 a5 a6 a7 λs2 oT2 ts2 c1 c2 F2=> ?_
  refine wpAny_handleBy_builtin (X:=Xc) hexc hnt hsub ?_
  refine aJ0 W F2 hk hm hv ⟨rfl,⟨oe,F2.opn (e,oe) (.head _),a1⟩, ?_⟩ hd
  rw [if_pos rfl]
  refine aX0 none F2 a2 a5 c1 c2 λs3 oT3 ts3 d1 d2 F3=> ?_
  have F4:Fm w h0 env B' (O1++X) m' cm' os s3:=F3.forget
  refine hsuite e B' O1 X m' cm' s3 _ _ F4 R1 ⟨λfl σ'' f s'' B'' O'' m'' cm'' p r l' F'' R''=> ?_,λcls args σ'' e s'' B'' Z O'' m'' cm'' p=>p.elim⟩
  cases r with
  | next=>exact p B'' O'' X m'' cm'' s'' Q E F'' R'' (q.mono (l.trans l'))
  | brk=>exact q.go .brk σ'' _ s'' B'' O'' m'' cm'' p .brk (l.trans l') F'' R''
  | cont=>exact q.go .cont σ'' _ s'' B'' O'' m'' cm'' p .cont (l.trans l') F'' R''
  | ret V=>exact q.go (.ret _) σ'' _ s'' B'' O'' m'' cm'' p (.ret V) (l.trans l') F'' R''
end
theorem bQ0:Slot "list_iterator" "__getattribute__" "object.__getattribute__" :=
 .of (owner:= "object") (n:= "__getattribute__") (by rw [typeLookup_type,builtinLookup_eq_fast]; lk) (by decide +kernel) (by decide +kernel) (by decide +kernel)
  (by first | exact .inl (by decide +kernel) | exact .inr (by decide +kernel)) (by rw [isSubtype_type]; lk)
theorem bJ0:entryFor table "object.__getattribute__" =some Builtin.«object.__getattribute__»:=entryFor_of_tree (by lk)
theorem bN0 (a b:Value):argsOk "object.__getattribute__" ⟨[a,b],[]⟩:=by unfold argsOk; lk
theorem bN1:typeLookup (.type "list_iterator") "__next__" =pure (some (.builtin "list_iterator.__next__")):=by rw [typeLookup_type,builtinLookup_eq_fast]; lk
theorem aP5:typeOf (.builtin "list_iterator.__next__")=pure (.type "wrapper_descriptor"):=by show builtinType _=_; rw [builtinType_eq_fast]; lk
theorem bN2:Slot "wrapper_descriptor" "__get__" "wrapper_descriptor.__get__" :=
 .of (owner:= "wrapper_descriptor") (n:= "__get__") (by rw [typeLookup_type,builtinLookup_eq_fast]; lk) (by decide +kernel) (by decide +kernel) (by decide +kernel)
  (by first | exact .inl (by decide +kernel) | exact .inr (by decide +kernel)) (by rw [isSubtype_type]; lk)
theorem bF3:entryFor table "wrapper_descriptor.__get__" =some Builtin.«wrapper_descriptor.__get__»:=entryFor_of_tree (by lk)
theorem bJ1 (a b c:Value):argsOk "wrapper_descriptor.__get__" ⟨[a,b,c],[]⟩:=by unfold argsOk; lk
theorem cS:typeLookup (.type "wrapper_descriptor") "__set__" =pure none:=by rw [typeLookup_type,builtinLookup_eq_fast]; lk
theorem cS0:typeLookup (.type "wrapper_descriptor") "__delete__" =pure none:=by rw [typeLookup_type,builtinLookup_eq_fast]; lk
theorem bQ1:isSubtype (.type "list_iterator") (.type "list_iterator")=pure true:=by rw [isSubtype_type]; lk
theorem cA0:(".".intercalate ("list_iterator.__next__".cutAt '.').dropLast)= "list_iterator" :=by
 have e0: "list_iterator.__next__".cutAt '.' =["list_iterator", "__next__"]:=by first | rfl | decide +kernel
 rw [e0]; decide +kernel
section
variable {prog:Program}{w:World}{A:Around}{E:VP}{h:Heap}{g:Array GenState}{d:Drawn}{t:Nat}{os:OsState}{a:Addr}{o:Obj}
theorem cS1 {R:Result->Shared->Prop}(hx:h.get? a=some o)(hc:o.cls= .type "list_iterator")(hq:R (.ok (.ret (.ref h.objs.size))) ⟨h.push (aF0 a),g,d,t,os⟩):
  codeAny (model prog w) A (.call (.builtin "wrapper_descriptor.__get__") ⟨[.builtin "list_iterator.__next__", .ref a, .type "list_iterator"],[]⟩) R ⟨h,g,d,t,os⟩:=by
 have hT:(⟨h,g,d,t,os⟩:Shared).TypeIs (.ref a) "list_iterator" :=⟨_,hx,hc⟩
 have hT5:(⟨h,g,d,t,os⟩:Shared).TypeIs (.builtin "list_iterator.__next__") "wrapper_descriptor" :=aP5
 have f8:isSubtype (.type "list_iterator") (.type (".".intercalate ("list_iterator.__next__".cutAt '.').dropLast))=pure true:=by rw [cA0]; exact bQ1
 refine codeAny_call_builtin bN2.plain bF3 (bN2.check _ _ _ _ _ _ _ _ hT5 (bJ1 _ _ _) ?_)
 repeat (any_goals (first | assumption | wp_step))
theorem cA1 {tk:Tok}{Q:Fin->Shared->Prop}{vs:Array Value}{sl:Array (Option Value)}(hx:h.get? a=some ⟨.type "list_iterator",none, .fields vs,sl⟩)(hq:Q (.done (.ret (.ref h.objs.size))) ⟨h.push (aF0 a),g,d,t,os⟩):
  wpAny (model prog w) A (Builtin.«object.__getattribute__» ⟨[.ref a, .str "__next__" tk],[]⟩) Q E ⟨h,g,d,t,os⟩:=by
 have hT:(⟨h,g,d,t,os⟩:Shared).TypeIs (.ref a) "list_iterator" :=⟨_,hx,rfl⟩
 have hT5:(⟨h,g,d,t,os⟩:Shared).TypeIs (.builtin "list_iterator.__next__") "wrapper_descriptor" :=aP5
 have f4:=bN1
 have f5:=aP5
 have f6:=bN2.lookup
 have f7:=cS
 have f8:=cS0
 repeat (any_goals (first | assumption | with_reducible refine wpAny_loadPart_at hx ?_ | wp_step))
 refine cS1 hx rfl ?_
 repeat (any_goals (first | assumption | wp_step))
theorem cI7 {tk:Tok}{R:Result->Shared->Prop}{vs:Array Value}{sl:Array (Option Value)}(hx:h.get? a=some ⟨.type "list_iterator",none, .fields vs,sl⟩)(hq:R (.ok (.ret (.ref h.objs.size))) ⟨h.push (aF0 a),g,d,t,os⟩):
  codeAny (model prog w) A (.call (.builtin "object.__getattribute__") ⟨[.ref a, .str "__next__" tk],[]⟩) R ⟨h,g,d,t,os⟩:=
 codeAny_call_builtin bQ0.plain bJ0 (bQ0.check _ _ _ _ _ _ _ _ (show (⟨h,g,d,t,os⟩:Shared).TypeIs (.ref a) "list_iterator" from ⟨_,hx,rfl⟩) (bN0 _ _) (cA1 hx hq))
theorem dE {tk:Tok}{fill expr:Bool}{Q:VP}{vs:Array Value}{sl:Array (Option Value)}(hx:h.get? a=some ⟨.type "list_iterator",none, .fields vs,sl⟩)(hq:Q (.ref h.objs.size) ⟨h.push (aF0 a),g,d,t,os⟩):
  wpAny (model prog w) A (getAttrBy (.ref a) (.str "__next__" tk) fill expr) Q E ⟨h,g,d,t,os⟩:=by
 have hT:(⟨h,g,d,t,os⟩:Shared).TypeIs (.ref a) "list_iterator" :=⟨_,hx,rfl⟩
 have f2:=bQ0.lookup
 have f3:=bQ0.bind (.ref a)
 have hx0:(expr && onTheHeap (Value.builtin "object.__getattribute__"))=false:=by cases expr<;>rfl
 repeat (any_goals (first | assumption | wp_step))
 refine cI7 hx ?_
 repeat (any_goals (first | assumption | wp_step))
theorem cI8 {expr:Bool}{Q:VP}{vs:Array Value}{sl:Array (Option Value)}(hx:h.get? a=some ⟨.type "list_iterator",none, .fields vs,sl⟩)(hq:Q (.ref h.objs.size) ⟨h.push (aF0 a),g,d,t+1,os⟩):
  wpAny (model prog w) A (getAttr (.ref a) "__next__" expr) Q E ⟨h,g,d,t,os⟩:=by
 unfold getAttr
 repeat (any_goals (first | assumption | with_reducible apply dE hx | wp_step))
end
section
variable {prog:Program}{w:World}{A:Around}{s:Shared}{mw it l:Addr}{i:Nat}{items:Array Value}{R:Result->Shared->Prop}
theorem bQ2 (hm:s.heap.get? mw=some (aF0 it))(hT:s.TypeIs (.ref it) "list_iterator")(h:wpAny (model prog w) A.in1 (Builtin.«list_iterator.__next__» ⟨[.ref it],[]⟩) (λfin s'=>match fin with | .done f=>R (.ok f) s' | .again c'=>c'.quiet=true/\codeAny (model prog w) A c' R s') (λe s'=>R (.error e) s') s):
  codeAny (model prog w) A (.call (.ref mw) ⟨[],[]⟩) R s:=by
 obtain ⟨hh,g,d,t,os⟩:=s
 refine codeAny_of_tree ?_
 show wpAny _ _ (callAny (.ref mw) _) _ _ _
 dsimp only at hm
 refine nd_load hm ?_
 dsimp only
 have f8:=bQ1
 repeat (any_goals (first | assumption | wp_step))
 exact ⟨Code.quiet_builtin _ (by decide +kernel),codeAny_builtin entry_listiter_next h⟩
theorem cI9 {v:Value}(hm:s.heap.get? mw=some (aF0 it))(hit:s.heap.IsListIter it l i)(hl:s.heap.IsList l items)(hx:items[i]? =some v)
  (hQ:∀ h',h'.IsListIter it l (i+1)->Heap.SameBut it s.heap h'->R (.ok (.ret v)) { s with heap:=h' }):codeAny (model prog w) A (.call (.ref mw) ⟨[],[]⟩) R s:=by
 refine aC8 (id hit) λo ho hc hd=> ?_
 refine aC8 hl λol hol _ h9=>aA3 h9 λnl hdl=> ?_
 try clear hl
 refine bQ2 hm hit.typeIs ?_
 show wpAny _ _ (field (.ref it) 0 >>= _) _ _ s
 refine wpAny_bind (wpAny_field ho hd (x:= .ref l) rfl ?_)
 show wpAny _ _ (if (Value.ref l == Value.none)=true then _ else _) _ _ s
 rw [if_neg (show ¬((Value.ref l == Value.none)=true) from Bool.false_ne_true)]
 show wpAny _ _ (field (.ref it) 1 >>= _) _ _ s
 refine wpAny_bind (wpAny_field ho hd (x:= .int i 0) rfl ?_)
 show wpAny _ _ (seqItems? (.ref l) >>= _) _ _ s
 refine wpAny_bind (wpAny_seqItems hol hdl ?_)
 simp only [Int.toNat_natCast,hx]
 refine wpAny_bind (wpAny_setField ho hd (by simp) (wpAny_pure (hQ _ ?_ (Heap.SameBut.update ..))))
 exact ⟨_,Heap.get?_update_self _ ho (Obj.isFreed_of_fields (Obj.data_mapFields hd _)),(Obj.cls_mapFields ..).trans hc,by
  rw [Obj.data_mapFields hd]; simp [rawInt]⟩
theorem cS2 (hh:A.handled=none)(hm:s.heap.get? mw=some (aF0 it))(hit:s.heap.IsListIter it l i)(hl:s.heap.IsList l items)(hx:items[i]? =none)
  (hQ:∀ h1 h' e,Heap.SameBut it s.heap h1->Heap.MadeExcOf h1 h' e (.type "StopIteration") []->R (.error (.ref e)) { s with heap:=h' }):codeAny (model prog w) A (.call (.ref mw) ⟨[],[]⟩) R s:=by
 refine aC8 (id hit) λo ho hc hd=> ?_
 refine aC8 hl λol hol _ h9=>aA3 h9 λnl hdl=> ?_
 try clear hl
 refine bQ2 hm hit.typeIs ?_
 show wpAny _ _ (field (.ref it) 0 >>= _) _ _ s
 refine wpAny_bind (wpAny_field ho hd (x:= .ref l) rfl ?_)
 show wpAny _ _ (if (Value.ref l == Value.none)=true then _ else _) _ _ s
 rw [if_neg (show ¬((Value.ref l == Value.none)=true) from Bool.false_ne_true)]
 show wpAny _ _ (field (.ref it) 1 >>= _) _ _ s
 refine wpAny_bind (wpAny_field ho hd (x:= .int i 0) rfl ?_)
 show wpAny _ _ (seqItems? (.ref l) >>= _) _ _ s
 refine wpAny_bind (wpAny_seqItems hol hdl ?_)
 simp only [Int.toNat_natCast,hx]
 refine wpAny_bind (wpAny_rule (wpAny_bind (wpAny_setField ho hd (by simp) ?_)))
 show wpAny _ _ (newExc (.type "StopIteration") [] >>= _) _ _ _
 refine wpAny_bind ?_
 simp only [newExc,newTuple]
 refine wpAny_bind (wpAny_newObj_type ?_ (by size_fits))
 refine wpAny_bind (m:=firstArgMember _ _) (wpAny_of_eq (a:=Value.none) (by first | rfl | (simp only [firstArgMember]; rfl)) ?_)
 refine wpAny_newObj_type ?_ (by size_fits)
 simp only [raiseNew]
 refine wpAny_bind (wpAny_handled ?_)
 rw [show A.in1.handled=none from hh]
 refine wpAny_bind (wpAny_pure (wpAny_throw ?_))
 refine hQ (s.heap.update it (Obj.mapFields (·.setIfInBounds 0 Value.none))) _ _ (Heap.SameBut.update ..) ⟨λb ob hb=>Heap.get?_push_of_some _ (Heap.get?_push_of_some _ hb),Heap.get?_none_of_le (by simp),_,Heap.get?_push_size _ rfl,aA7,Heap.get?_push_of_some _ (Heap.get?_push_size _ rfl)⟩
end
section
variable {w:World}{A:Around}{h0:aA8}{env:Env}{os:OsState}{σ:Sg}{P:FP}{rest:List Stmt}{k:Bool}{PV:Rs->Sg->Prop}
theorem ExE.brk (pos:Pos)(h:P .brk σ):ExE w A h0 env os σ (.Break pos::rest) P:=λB O X m cm s Q E F R q=>
 wpAny_execs_cons (wpAny_Break (q.go .brk σ _ s B O m cm h .brk (.refl B) F R))
theorem ExE.cont (pos:Pos)(h:P .cont σ):ExE w A h0 env os σ (.Continue pos::rest) P:=λB O X m cm s Q E F R q=>
 wpAny_execs_cons (wpAny_Continue (q.go .cont σ _ s B O m cm h .cont (.refl B) F R))
theorem ExE.whileE {test:Expr}{body orelse:List Stmt}(J:Nat->Sg->Prop)(n:Nat)(pos:Pos)(h0J:J n σ)
  (turn:∀ i σ1,J i σ1->∃ b,TsE w A h0 env os σ1 test b/\(b=true->ExE w A h0 env os σ1 body (bB7 w A h0 env os (λσ3=>∃ j,j<i/\J j σ3) rest P))/\
   (b=false->ExE w A h0 env os σ1 orelse (bY5 w A h0 env os rest P))):ExE w A h0 env os σ (.While test body orelse pos::rest) P:=
 ExE.whileX J n pos h0J λi σ1 hJ=>aC8 (turn i σ1 hJ) λb ht hb hf=>ht.toH (by
  cases b with
  | true=>exact hb rfl
  | false=>exact hf rfl)
theorem TsE.lstT {e:Expr}{ts:List T}{k1:Bool}(he:EvE w A h0 env os k1 σ e (.list ts))(hz:(ts.length:Int)<2 ^ 63)(ht:isTrue e env (eval e env)=(do let v <-eval e env; standAt e.pos; holding [v] (truthy v))):TsE w A h0 env os σ e (!ts.isEmpty):=λB O m cm s Q E F R q=>
 isTrue_plain (he B O m cm s _ E F R λv s1 B1 l1 F1 V1=>by
  refine aB0 (VR.list F1 V1) λa vs z1z L Vs=> ?_
  subst z1z
  refine wpAny_truthy_list L (by rw [List.size_toArray,Vs.length]; exact hz) ?_
  have e1:(!vs.toArray.isEmpty)= !ts.isEmpty:=by cases Vs<;>rfl
  rw [e1]
  exact q _ B1 l1 (F1.tok _)) ht
theorem TsE.boolT {e:Expr}{b:Bool}{k1:Bool}(he:EvE w A h0 env os k1 σ e (.bool b))(ht:isTrue e env (eval e env)=(do let v <-eval e env; standAt e.pos; holding [v] (truthy v))):TsE w A h0 env os σ e b:=λB O m cm s Q E F R q=>
 isTrue_plain (he B O m cm s _ E F R λv s1 B1 l1 F1 V1=>by
  rw [V1.bool]
  exact wpAny_truthy_bool (q _ B1 l1 F1)) ht
theorem EvH.setO (np pos:Pos)(W:Own env)(hk:env.kindOf (u "set")=some .globalImplicit)(hm:mgm w.params (u "set")=none)(hv:mbm w.params (u "set")=some (.type "set"))(h:∀ l,σ.hp l=none->PV (.val (.obj l)) (σ.put l (.set (λ_=>false) 0))):EvH w A h0 env os σ (.Call (.Name (u "set") np) [] [] pos) PV:=λB O X m cm s Q E F R q=>
 wpAny_Call_NameR (aJ0 W F hk hm hv (by
  refine PySem.callWith_type rfl (evalArgs_nil3 ?_)
  refine call_set_0 λled=> ?_
  have F2:=(F.pushO (o:={ cls:= .type "set",dict:=none,data:= .set #[] 0 (.fresh 0 0 led) }) rfl s.toks).newX
  have R2:=R.new (a:=s.heap.objs.size) (o:={ cls:= .type "set",dict:=none,data:= .set #[] 0 (.fresh 0 0 led) }) (b:= .set (λ_=>false) 0) (by
   refine ⟨w, #[],0, .fresh 0 0 led,⟨rfl,rfl,rfl⟩,rfl,(λe he=>by simp at he),(λk=>⟨λh=>(by cases h),λ⟨e,he,_⟩=>(by simp at he)⟩),by decide, ?_,rfl⟩
   cases led<;>decide)
  exact q.go _ _ _ _ B _ m cm (h _ (aG8 F R aA7)) (.obj _) (.refl B) F2 R2) (by lk))
theorem bN3 {B:PM}{O:OL}{m cm:NM}{s:Shared}{d:Addr}{S:Int->Bool}{n:Nat}(F:Fm w h0 env B O m cm os s)(R:Rel env σ B O m cm)(hd:σ.hp d=some (.set S n)):s.heap.SetOf (intKind pw w) d S n:=by
 refine aA1 (R.at hd) λod hm h9=>cM8 h9 λw' es ep t a1 a2 a3 a4 a5=> ?_
 exact ⟨od,es,ep,t,F.opn _ hm,a1,a2,a3,a4,a5⟩
theorem TsE.inS {l r:Expr}{d:Addr}{S:Int->Bool}{n:Nat}{i:Int}{k1 k2:Bool}(pos:Pos)(hl:EvE w A h0 env os k1 σ l (.int i))(hr:EvE w A h0 env os k2 σ r (.obj d))(hd:σ.hp d=some (.set S n))(hm:behindInMarks .In r=false):
  TsE w A h0 env os σ (.Compare l [.In] [r] pos) (S i):=λB O m cm s Q E F R q=>
 wpAny_isTrue_Compare1 (hl B O m cm s _ E F R λva s1 B1 l1 F1 V1=>hr B1 O m cm s1 _ E F1 (R.mono l1) λvb s2 B2 l2 F2 V2=>by
  refine aA3 V1.int λtk z1z=> ?_
  subst z1z
  rw [V2.obj]
  have D:=bN3 F2 ((R.mono l1).mono l2) hd
  refine wpAny_inSet_of (intKind_is pw w i tk) rfl D ?_
  exact wpAny_truthy_bool (q _ B2 (l1.trans l2) (F2.tok _))) hm
theorem ExE.addS {value e:Expr}{a:Addr}{S:Int->Bool}{n:Nat}{i:Int}{k1 k2:Bool}(pa pc pos:Pos)(hv:EvE w A h0 env os k1 σ value (.obj a))(ha:σ.hp a=some (.set S n))(he:EvE w A h0 env os k2 σ e (.int i))(hn:n+1<scanBound)
  (hb:attributeBase value (u "add") env (eval value env)=eval value env) (hl:(pa.endLine == pc.line)=true) (ht:backTo pc (starEach [e] env)=[(false,eval e env)]) (hi:interactive env=false) (hsw:swapsWith (.Call (.Attribute value (u "add") pa) [e] [] pc) none pos.line env=pure false)
  (h:ExE w A h0 env os (σ.put a (.set (λj=>S j || decide (j=i)) (if S i then n else n+1))) rest P):ExE w A h0 env os σ (.Expr (.Call (.Attribute value (u "add") pa) [e] [] pc) pos::rest) P:=λB O X m cm s Q E F R q=>by
 refine wpAny_execs_cons (wpAny_Expr_any (wpAny_Call_method1_late hb hl ht ?_) hi hsw)
 refine hv B (O++X) m cm s _ E F (R.rel X) λov s1 B1 l1 F1 V1=> ?_
 rw [V1.obj]
 have D:=bN3 F1 ((R.mono l1).rel X) ha
 refine ⟨"set", "set.add",PySem.F.plainAttrs_set,PySem.F.slot_set_add,PySem.F.type_set_add,D.typeIs,D.noDict, ?_⟩
 refine callWith_builtin rfl (Calls.evalArgs_plain (Calls.spliced_cons (he B1 (O++X) m cm s1 _ E F1 ((R.mono l1).rel X) λy s2 B2 l2 F2 V2=>Calls.spliced_nil ?_)))
 refine aA3 V2.int λtk z1z=> ?_
 subst z1z
 have R2:=(R.mono l1).mono l2
 have D2:=bN3 F2 (R2.rel X) ha
 refine aM6 (R2.at ha) λOa od Ob' z1z _ up=> ?_
 subst z1z
 refine call_set_add (intKind_is pw w i tk) rfl D2 hn λh' hS hD=> ?_
 refine cM8 hD λod' es ep t g1 b1 b2 b3 b4=> ?_
 try clear hD
 have F3:Fm w h0 env B2 (Oa++(a,od)::(Ob'++X)) m cm os s2:=by simpa using F2
 have F4:=F3.turn g1 hS (s2.toks+1)
 exact h B2 _ X m cm _ Q E (by simpa using F4) (up od' _ ⟨w,es,ep,t,b1,b2,b3,b4⟩) (q.mono (l1.trans l2))
theorem ExE.setD1 {value i e:Expr}{d:Addr}{es:List (Int×T)}{ep:Nat}{j:Int}{t:T}{k1 k2:Bool}(p1 pos:Pos)(he:EvE w A h0 env os true σ e t)(hv:EvE w A h0 env os k1 σ value (.obj d))(hi:EvE w A h0 env os k2 σ i (.int j))(hd:σ.hp d=some (.dct es ep))(hz:es.length<=sizeLine)
  (hsw:swapsWith e (some (.Subscript value i p1)) pos.line env=pure false) (h:∀ ep',ExE w A h0 env os (σ.put d (.dct (aV6 es j t) ep')) rest P):ExE w A h0 env os σ (.Assign [.Subscript value i p1] e pos::rest) P:=λB O X m cm s Q E F R q=>by
 refine wpAny_execs_cons (wpAny_Assign_Subscript ?_ hsw)
 refine he B (O++X) m cm s _ E F (R.rel X) λv s1 B1 l1 F1 V1=> ?_
 refine hv B1 (O++X) m cm s1 _ E F1 ((R.mono l1).rel X) λo s2 B2 l2 F2 V2=> ?_
 refine hi B2 (O++X) m cm s2 _ E F2 (((R.mono l1).mono l2).rel X) λiv s3 B3 l3 F3 V3=> ?_
 rw [V2.obj]
 refine aA3 V3.int λtk z1z=> ?_
 subst z1z
 exact dD8 F3 (((R.mono l1).mono l2).mono l3) hd (Val.mono (l2.trans l3) V1) hz λep' s4 O4 F4 R4=>h ep' B3 O4 X m cm s4 Q E F4 R4 (q.mono ((l1.trans l2).trans l3))
end
noncomputable def dE0 (e:Int×Value):Bool:=match e.2 with
 | .int i _=>decide (e.1=hashInt i)
 | _=>false
noncomputable def bB1 (e:Int×Value):Int:=match e.2 with
 | .int i _=>i
 | _=>0
theorem isS.of_list {o:Obj}{es:Array (Int×Value)}{ep:Nat}{t:SetTable}(w:World)(hex:o.ExactSet)(hd:o.data= .set es ep t)(hc:es.toList.all dE0=true)(hz:es.size<scanBound)(hf:t.fits es.size=true):isS o (λk=>(es.toList.map bB1).contains k) es.size:=by
 have one:∀ e∈es.toList,∃ i tk,e=(hashInt i, .int i tk):=λe he=>by
  have:=List.all_eq_true.mp hc e he
  obtain ⟨h,v⟩:=e
  unfold dE0 at this
  split at this
  ·rename_i i tk z
   have z:v= .int i tk:=z
   subst z
   exact ⟨i,tk,by rw [<- of_decide_eq_true this]⟩
  ·cases this
 refine ⟨w,es,ep,t,hex,hd,λe he=> ?_,λk=> ?_,hz,hf,rfl⟩
 ·refine bD5 (one e he) λi tk z1z=> ?_
  subst z1z
  exact ⟨⟨i,intKind_is pw w i tk,rfl⟩,rfl⟩
 ·rw [List.contains_iff_mem,List.mem_map]
  refine ⟨λ⟨e,he,z⟩=>⟨e,he, ?_⟩,λ⟨e,he,z⟩=>⟨e,he, ?_⟩⟩
  ·refine bD5 (one e he) λi tk z1z=> ?_
   subst z1z
   have z:i=k:=z
   subst z
   exact intKind_is pw w i tk
  ·refine bD5 (one e he) λi tk z1z=> ?_
   subst z1z
   have:=(intKind pw w).inj _ _ _ (intKind_is pw w i tk) z
   exact this
theorem isS.c9 (w:World):isS (bA7 w.params) (λk=>((List.range 97).map i9).contains k) 97:=by
 refine cF0 (cH5 w.params 97) λes n t e I=> ?_
 have e:bA7 w.params=setO es n t:=e
 rw [e]
 refine ⟨w,es,n,t,⟨rfl,rfl,rfl⟩,rfl,λe he=> ?_,λk=> ?_,by rw [I.size]; decide,I.fits,I.size⟩
 ·refine aA1 (I.from_ e he) λj hj z1z=> ?_
  subst z1z
  refine aA3 (aW4 j) λtk z=> ?_
  refine ⟨⟨i9 j, ?_, ?_⟩, ?_⟩
  ·show (intKind pw w).is (i9 j) (x9 j)=true
   rw [z]; exact intKind_is pw w _ tk
  ·show i9 j=hashInt (i9 j)
   have:∀ j,j<97->i9 j=hashInt (i9 j):=by decide +kernel
   exact this j hj
  ·show (x9 j).scannable=true
   rw [z]; rfl
 ·rw [List.contains_iff_mem,List.mem_map]
  refine ⟨λ⟨j,hj,z⟩=>⟨_,I.has j (List.mem_range.mp hj), ?_⟩,λ⟨e,he,z⟩=> ?_⟩
  ·refine aA3 (aW4 j) λtk q=> ?_
   show (intKind pw w).is k (x9 j)=true
   rw [q,<-z]; exact intKind_is pw w _ tk
  ·refine aA1 (I.from_ e he) λj hj z1z=> ?_
   subst z1z
   refine aA3 (aW4 j) λtk q=> ?_
   have z:(intKind pw w).is k (x9 j)=true:=z
   rw [q] at z
   exact ⟨j,List.mem_range.mpr hj,(intKind pw w).inj _ _ _ (intKind_is pw w _ tk) z⟩
section
variable {w:World}{A:Around}{h0:aA8}{env:Env}{os:OsState}{σ:Sg}{k:Bool}
theorem EvE.inG {l:Expr}{x:Str}{d:Addr}{o:Obj}{S:Int->Bool}{n:Nat}{i:Int}{k1:Bool}(np pos:Pos)(W:Own env)(hl:EvE w A h0 env os k1 σ l (.int i))(hv:mgm w.params x=some (.ref d))(ho:(H1 w.params).get? d=some o)(hS:isS o S n)(hk:env.kindOf x=some .globalImplicit)(hd:(x == ("__debug__" :Str))=false)(hm:behindInMarks .In (.Name x np)=false):
  EvE w A h0 env os k σ (.Compare l [.In] [.Name x np] pos) (.bool (S i)):=λB O m cm s Q E F R q=>
 wpAny_Compare1 (hl B O m cm s _ E F R λva s1 B1 l1 F1 V1=>aQ7 W F1 hk hv (by
  refine aA3 V1.int λtk z1z=> ?_
  subst z1z
  refine cM8 hS λw' es ep t a1 a2 a3 a4 a5=> ?_
  try clear hS
  refine wpAny_inSet_of (knd:=intKind pw w) (S:=S) (n:=n) (intKind_is pw w i tk) rfl ⟨o,es,ep,t,F1.sub _ _ (F1.gl _ _ ho),a1,a2,a3,a4,a5⟩ ?_
  exact q _ _ B1 l1 (F1.tok _) (.of (.bool _))) hd) hm
end
noncomputable def dF7 (o:Obj):List Int:=match o.data with
 | .set es _ _=>es.toList.map bB1
 | _=>[]
noncomputable def aM4 (o:Obj):Array (Int×Value):=match o.data with
 | .set es _ _=>es
 | _=> #[]
noncomputable def bQ3 (o:Obj):Nat:=match o.data with
 | .set _ n _=>n
 | _=>0
noncomputable def bQ4 (o:Obj):SetTable:=match o.data with
 | .set _ _ t=>t
 | _=>default
theorem dE1 (w:World)(os:OsState)(c:Nat):FnE w os 0 159 [.str ⟨#[c]⟩] (.bool (((aM4 (aV4 w.params)).toList.map bB1).contains (c:Int))):=by
 refine aB9 (o:=bA4) (fd:=aA2 bA4) (body:=aB1 (aA0 9)) (c:=158) (oc:=bX0) [u "code"] (by lk) rfl rfl (by lk) rfl rfl rfl
  (al1 λ_=>by lk) rfl (by decide) (by lk) (by lk) rfl rfl rfl rfl λA h0 L RA=> ?_
 have W:Own (callEnv (aA2 bA4) L 159):=⟨rfl,rfl,rfl⟩
 refine ExE.ret _ ?_ rfl
 refine EvE.inG _ _ W (k1:=true) (i:=(c:Int)) (d:=149) (o:=aV4 w.params) (n:=(aM4 (aV4 w.params)).size) (EvE.ord _ _ W (by lk) (by lk) (by lk) (by lk) (by lk) (k1:=true) (EvE.nm W)) (by lk) (by lk) ?_ (by lk) (by lk) (by lk)
 exact isS.of_list (ep:=bQ3 (aV4 w.params)) (t:=bQ4 (aV4 w.params)) w ⟨rfl,rfl,rfl⟩ rfl (by lk) (of_decide_eq_true (by lk)) (by lk)
theorem dE2 (w:World)(os:OsState)(c:Nat):FnE w os 0 185 [.str ⟨#[c]⟩] (.bool (((aM4 (bA5 w.params)).toList.map bB1).contains (c:Int))):=by
 refine aB9 (o:=bE0) (fd:=aA2 bE0) (body:=aB1 (aA0 13)) (c:=184) (oc:=bX4) [u "code"] (by lk) rfl rfl (by lk) rfl rfl rfl
  (al1 λ_=>by lk) rfl (by decide) (by lk) (by lk) rfl rfl rfl rfl λA h0 L RA=> ?_
 have W:Own (callEnv (aA2 bE0) L 185):=⟨rfl,rfl,rfl⟩
 refine ExE.ret _ ?_ rfl
 refine EvE.inG _ _ W (k1:=true) (i:=(c:Int)) (d:=175) (o:=bA5 w.params) (n:=(aM4 (bA5 w.params)).size) (EvE.ord _ _ W (by lk) (by lk) (by lk) (by lk) (by lk) (k1:=true) (EvE.nm W)) (by lk) (by lk) ?_ (by lk) (by lk) (by lk)
 exact isS.of_list (ep:=bQ3 (bA5 w.params)) (t:=bQ4 (bA5 w.params)) w ⟨rfl,rfl,rfl⟩ rfl (by lk) (of_decide_eq_true (by lk)) (by lk)
theorem dE3 (w:World)(os:OsState)(c:Nat):FnE w os 0 197 [.str ⟨#[c]⟩] (.bool (((aM4 (bA6 w.params)).toList.map bB1).contains (c:Int))):=by
 refine aB9 (o:=bH1) (fd:=aA2 bH1) (body:=aB1 (aA0 15)) (c:=196) (oc:=bX5) [u "code"] (by lk) rfl rfl (by lk) rfl rfl rfl
  (al1 λ_=>by lk) rfl (by decide) (by lk) (by lk) rfl rfl rfl rfl λA h0 L RA=> ?_
 have W:Own (callEnv (aA2 bH1) L 197):=⟨rfl,rfl,rfl⟩
 refine ExE.ret _ ?_ rfl
 refine EvE.inG _ _ W (k1:=true) (i:=(c:Int)) (d:=187) (o:=bA6 w.params) (n:=(aM4 (bA6 w.params)).size) (EvE.ord _ _ W (by lk) (by lk) (by lk) (by lk) (by lk) (k1:=true) (EvE.nm W)) (by lk) (by lk) ?_ (by lk) (by lk) (by lk)
 exact isS.of_list (ep:=bQ3 (bA6 w.params)) (t:=bQ4 (bA6 w.params)) w ⟨rfl,rfl,rfl⟩ rfl (by lk) (of_decide_eq_true (by lk)) (by lk)
theorem dE4 (w:World)(os:OsState)(c:Nat):FnE w os 0 221 [.str ⟨#[c]⟩] (.bool (((aM4 (bE1 w.params)).toList.map bB1).contains (c:Int))):=by
 refine aB9 (o:=bL9) (fd:=aA2 bL9) (body:=aB1 (aA0 17)) (c:=220) (oc:=cO3) [u "code"] (by lk) rfl rfl (by lk) rfl rfl rfl
  (al1 λ_=>by lk) rfl (by decide) (by lk) (by lk) rfl rfl rfl rfl λA h0 L RA=> ?_
 have W:Own (callEnv (aA2 bL9) L 221):=⟨rfl,rfl,rfl⟩
 refine ExE.ret _ ?_ rfl
 refine EvE.inG _ _ W (k1:=true) (i:=(c:Int)) (d:=211) (o:=bE1 w.params) (n:=(aM4 (bE1 w.params)).size) (EvE.ord _ _ W (by lk) (by lk) (by lk) (by lk) (by lk) (k1:=true) (EvE.nm W)) (by lk) (by lk) ?_ (by lk) (by lk) (by lk)
 exact isS.of_list (ep:=bQ3 (bE1 w.params)) (t:=bQ4 (bE1 w.params)) w ⟨rfl,rfl,rfl⟩ rfl (by lk) (of_decide_eq_true (by lk)) (by lk)
theorem cS3 (P:Params):(H1 P).get? 229=some (bA7 P):=by
 refine cF0 (cH5 P 97) λes n t e _=> ?_
 have g:(T16 P).get 229=some (bA7 P):=by lk
 have z:(H1 P).get? 229=alive (bA7 P):=abs_get (n:=347) (life:=lf P) (by decide) g
 rw [z,show bA7 P=setO es n t from e]; rfl
theorem dE5 (w:World)(os:OsState)(c:Nat):FnE w os 0 239 [.str ⟨#[c]⟩] (.bool (((List.range 97).map i9).contains (c:Int))):=by
 refine aB9 (o:=bM0) (fd:=aA2 bM0) (body:=aB1 (aA0 19)) (c:=238) (oc:=cO9) [u "code"] (by lk) rfl rfl (by lk) rfl rfl rfl
  (al1 λ_=>by lk) rfl (by decide) (by lk) (by lk) rfl rfl rfl rfl λA h0 L RA=> ?_
 have W:Own (callEnv (aA2 bM0) L 239):=⟨rfl,rfl,rfl⟩
 refine ExE.ret _ ?_ rfl
 refine EvE.inG _ _ W (k1:=true) (i:=(c:Int)) (d:=229) (o:=bA7 w.params) (n:=97) (EvE.ord _ _ W (by lk) (by lk) (by lk) (by lk) (by lk) (k1:=true) (EvE.nm W)) (by lk) (cS3 _) ?_ (by lk) (by lk) (by lk)
 exact isS.c9 w
theorem cS4 (w:World)(os:OsState)(c:Nat):FnE w os 0 166 [.str ⟨#[c]⟩] (.bool ((⟨#[c]⟩:Str) == u " ")):=by
 refine aB9 (o:=aV5) (fd:=aA2 aV5) (body:=aB1 (aA0 10)) (c:=165) (oc:=bD9) [u "code"] (by lk) rfl rfl (by lk) rfl rfl rfl
  (al1 λ_=>by lk) rfl (by decide) (by lk) (by lk) rfl rfl rfl rfl λA h0 L RA=> ?_
 have W:Own (callEnv (aA2 aV5) L 166):=⟨rfl,rfl,rfl⟩
 refine ExE.ret _ ?_ rfl
 exact EvE.cmp _ (k1:=true) (k2:=true) (EvE.nm W) (EvE.strC _ _ _) (cH6 _ _ _ _) (by lk)
section
variable {w:World}{A:Around}{h0:aA8}{env:Env}{os:OsState}{σ:Sg}{k:Bool}
theorem EvE.band {l r:Expr}{a b:Int}{k1 k2:Bool}(pos:Pos)(hl:EvE w A h0 env os k1 σ l (.int a))(hr:EvE w A h0 env os k2 σ r (.int b)):EvE w A h0 env os k σ (.BinOp l .BitAnd r pos) (.int (Builtin.bitAnd a b)):=
 EvE.bin pos hl hr λB O m cm s va vb Q E F V1 V2 q=>by
  refine aA3 V1.int λ_ z1z=> ?_
  subst z1z
  refine aA3 V2.int λ_ z1z=> ?_
  subst z1z
  exact and_int (q _ _ B (.refl B) (F.tok _) (.of (.int _ _)))
theorem cJ (k1:Bool)(a:Int)(ns:List Int):aF2 w A h0 env os .In k1 true (.int a) (.tup (ns.map T.int)) (ns.any (· == a)):=λB O m cm s va vb Q E F V1 V2 q=>by
 refine aA3 V1.int λ_ z1z=> ?_
 subst z1z
 refine aB0 (Val.tupAt F V2) λy us z1z i2 W2=> ?_
 subst z1z
 exact in_tuple_ints i2 (by simpa using W2.ints) (q _ B (.refl B) F)
end
noncomputable def ltB (c:Nat)(b:Int):Bool:=decide ((c:Int)<b)
noncomputable def c4C:Bool->Bool->Bool->Bool
 | true,_,_=>false
 | false,true,_=>true
 | false,false,b=>b
noncomputable def c4B (c:Nat):Bool:=c4C (ltB c 64976) (ltB c 65008) ([65534,65535].any (· == Builtin.bitAnd c 65535))
theorem dE6 (w:World)(os:OsState)(c:Nat):FnE w os 0 173 [.str ⟨#[c]⟩] (.bool (c4B c)):=by
 refine aB9 (o:=bE) (fd:=aA2 bE) (body:=aB1 (aA0 11)) (c:=172) (oc:=bX3) [u "code"] (by lk) rfl rfl (by lk) rfl rfl rfl
  (al1 λ_=>by lk) rfl (by decide) (by lk) (by lk) rfl rfl rfl rfl λA h0 L RA=> ?_
 have W:Own (callEnv (aA2 bE) L 173):=⟨rfl,rfl,rfl⟩
 refine ExE.assign _ _ W (t:= .int c) (EvE.ord _ _ W (by lk) (by lk) (by lk) (by lk) (by lk) (k1:=true) (EvE.nm W)) (by lk) (λp hp=>by cases hp) (by lk) ?_
 refine ExE.ite _ (b:=ltB c 64976) (TsE.cmp _ (a:= .int c) (k1:=true) (k2:=true) (EvE.nm W) (EvE.int _ _ _) (aW5 _ _ _ _) (by lk)) ?_
 unfold c4B
 generalize ltB c 64976=b1
 cases b1 with
 | true=>exact ExE.ret _ (EvE.boolC _ _ _) rfl
 | false=>
  refine ExE.nil ?_
  refine ExE.ite _ (b:=ltB c 65008) (TsE.cmp _ (a:= .int c) (k1:=true) (k2:=true) (EvE.nm W) (EvE.int _ _ _) (aW5 _ _ _ _) (by lk)) ?_
  generalize ltB c 65008=b2
  cases b2 with
  | true=>exact ExE.ret _ (EvE.boolC _ _ _) rfl
  | false=>
   refine ExE.nil ?_
   refine ExE.ret _ ?_ rfl
   refine EvE.cmp _ (k1:=true) (k2:=true) (EvE.band _ (k1:=true) (k2:=true) (EvE.ord _ _ W (by lk) (by lk) (by lk) (by lk) (by lk) (k1:=true) (EvE.nm W)) (EvE.int _ _ _)) (EvE.tupD _ _ (ts:=[65534,65535].map T.int) (aC4.cons (EvE.int _ _ _) (aC4.cons (EvE.int _ _ _) aC4.nil)) (by lk) (by decide)) (cJ _ _ _) ?_
   lk
noncomputable def aI6 (P:Params)(k c:Nat):Bool:=match k with
 | 0=>((aM4 (aV4 P)).toList.map bB1).contains (c:Int)
 | 1=>(⟨#[c]⟩:Str) == u " "
 | 2=>c4B c
 | 3=>((aM4 (bA5 P)).toList.map bB1).contains (c:Int)
 | 4=>((aM4 (bA6 P)).toList.map bB1).contains (c:Int)
 | 5=>((aM4 (bE1 P)).toList.map bB1).contains (c:Int)
 | _=>((List.range 97).map i9).contains (c:Int)
theorem cA2 (w:World)(os:OsState)(c:Nat):FnE w os 1 315 [.int 0, .str ⟨#[c]⟩] (.bool (aI6 w.params 0 c)):=by
 refine aB9 (o:=aH4) (fd:=aA2 aH4) (body:=aB1 (aA0 32)) (c:=314) (oc:=bH6) [u "k",u "sign"] (by lk) rfl rfl (by lk) rfl rfl rfl
  (al2 λ_ _=>by lk) rfl (by decide) (by lk) (by lk) rfl rfl rfl rfl λA h0 L RA=> ?_
 have W:Own (callEnv (aA2 aH4) L 315):=⟨rfl,rfl,rfl⟩
 refine ExE.ite _ (b:=true) (TsE.cmp _ (a:= .int 0) (k1:=true) (k2:=true) (EvE.nm W) (EvE.int _ _ _) (aB4 _ _ _ _) (by lk)) ?_
 exact ExE.ret _ (EvE.callF (n:=0) (o:=bA4) (fd:=aA2 bA4) _ _ W RA.deeper (by lk) (by lk) (by lk) (by lk) rfl (by lk) (by lk) (aC4.cons (EvE.nm W) aC4.nil) (dE1 w os c)) rfl
theorem cA3 (w:World)(os:OsState)(c:Nat):FnE w os 1 315 [.int 1, .str ⟨#[c]⟩] (.bool (aI6 w.params 1 c)):=by
 refine aB9 (o:=aH4) (fd:=aA2 aH4) (body:=aB1 (aA0 32)) (c:=314) (oc:=bH6) [u "k",u "sign"] (by lk) rfl rfl (by lk) rfl rfl rfl
  (al2 λ_ _=>by lk) rfl (by decide) (by lk) (by lk) rfl rfl rfl rfl λA h0 L RA=> ?_
 have W:Own (callEnv (aA2 aH4) L 315):=⟨rfl,rfl,rfl⟩
 refine ExE.ite _ (b:=false) (TsE.cmp _ (a:= .int 1) (k1:=true) (k2:=true) (EvE.nm W) (EvE.int _ _ _) (aB4 _ _ _ _) (by lk)) (ExE.nil ?_)
 refine ExE.ite _ (b:=true) (TsE.cmp _ (a:= .int 1) (k1:=true) (k2:=true) (EvE.nm W) (EvE.int _ _ _) (aB4 _ _ _ _) (by lk)) ?_
 exact ExE.ret _ (EvE.callF (n:=0) (o:=aV5) (fd:=aA2 aV5) _ _ W RA.deeper (by lk) (by lk) (by lk) (by lk) rfl (by lk) (by lk) (aC4.cons (EvE.nm W) aC4.nil) (cS4 w os c)) rfl
theorem cA4 (w:World)(os:OsState)(c:Nat):FnE w os 1 315 [.int 2, .str ⟨#[c]⟩] (.bool (aI6 w.params 2 c)):=by
 refine aB9 (o:=aH4) (fd:=aA2 aH4) (body:=aB1 (aA0 32)) (c:=314) (oc:=bH6) [u "k",u "sign"] (by lk) rfl rfl (by lk) rfl rfl rfl
  (al2 λ_ _=>by lk) rfl (by decide) (by lk) (by lk) rfl rfl rfl rfl λA h0 L RA=> ?_
 have W:Own (callEnv (aA2 aH4) L 315):=⟨rfl,rfl,rfl⟩
 refine ExE.ite _ (b:=false) (TsE.cmp _ (a:= .int 2) (k1:=true) (k2:=true) (EvE.nm W) (EvE.int _ _ _) (aB4 _ _ _ _) (by lk)) (ExE.nil ?_)
 refine ExE.ite _ (b:=false) (TsE.cmp _ (a:= .int 2) (k1:=true) (k2:=true) (EvE.nm W) (EvE.int _ _ _) (aB4 _ _ _ _) (by lk)) (ExE.nil ?_)
 refine ExE.ite _ (b:=true) (TsE.cmp _ (a:= .int 2) (k1:=true) (k2:=true) (EvE.nm W) (EvE.int _ _ _) (aB4 _ _ _ _) (by lk)) ?_
 exact ExE.ret _ (EvE.callF (n:=0) (o:=bE) (fd:=aA2 bE) _ _ W RA.deeper (by lk) (by lk) (by lk) (by lk) rfl (by lk) (by lk) (aC4.cons (EvE.nm W) aC4.nil) (dE6 w os c)) rfl
theorem cA5 (w:World)(os:OsState)(c:Nat):FnE w os 1 315 [.int 3, .str ⟨#[c]⟩] (.bool (aI6 w.params 3 c)):=by
 refine aB9 (o:=aH4) (fd:=aA2 aH4) (body:=aB1 (aA0 32)) (c:=314) (oc:=bH6) [u "k",u "sign"] (by lk) rfl rfl (by lk) rfl rfl rfl
  (al2 λ_ _=>by lk) rfl (by decide) (by lk) (by lk) rfl rfl rfl rfl λA h0 L RA=> ?_
 have W:Own (callEnv (aA2 aH4) L 315):=⟨rfl,rfl,rfl⟩
 refine ExE.ite _ (b:=false) (TsE.cmp _ (a:= .int 3) (k1:=true) (k2:=true) (EvE.nm W) (EvE.int _ _ _) (aB4 _ _ _ _) (by lk)) (ExE.nil ?_)
 refine ExE.ite _ (b:=false) (TsE.cmp _ (a:= .int 3) (k1:=true) (k2:=true) (EvE.nm W) (EvE.int _ _ _) (aB4 _ _ _ _) (by lk)) (ExE.nil ?_)
 refine ExE.ite _ (b:=false) (TsE.cmp _ (a:= .int 3) (k1:=true) (k2:=true) (EvE.nm W) (EvE.int _ _ _) (aB4 _ _ _ _) (by lk)) (ExE.nil ?_)
 refine ExE.ite _ (b:=true) (TsE.cmp _ (a:= .int 3) (k1:=true) (k2:=true) (EvE.nm W) (EvE.int _ _ _) (aB4 _ _ _ _) (by lk)) ?_
 exact ExE.ret _ (EvE.callF (n:=0) (o:=bE0) (fd:=aA2 bE0) _ _ W RA.deeper (by lk) (by lk) (by lk) (by lk) rfl (by lk) (by lk) (aC4.cons (EvE.nm W) aC4.nil) (dE2 w os c)) rfl
theorem cA6 (w:World)(os:OsState)(c:Nat):FnE w os 1 315 [.int 4, .str ⟨#[c]⟩] (.bool (aI6 w.params 4 c)):=by
 refine aB9 (o:=aH4) (fd:=aA2 aH4) (body:=aB1 (aA0 32)) (c:=314) (oc:=bH6) [u "k",u "sign"] (by lk) rfl rfl (by lk) rfl rfl rfl
  (al2 λ_ _=>by lk) rfl (by decide) (by lk) (by lk) rfl rfl rfl rfl λA h0 L RA=> ?_
 have W:Own (callEnv (aA2 aH4) L 315):=⟨rfl,rfl,rfl⟩
 refine ExE.ite _ (b:=false) (TsE.cmp _ (a:= .int 4) (k1:=true) (k2:=true) (EvE.nm W) (EvE.int _ _ _) (aB4 _ _ _ _) (by lk)) (ExE.nil ?_)
 refine ExE.ite _ (b:=false) (TsE.cmp _ (a:= .int 4) (k1:=true) (k2:=true) (EvE.nm W) (EvE.int _ _ _) (aB4 _ _ _ _) (by lk)) (ExE.nil ?_)
 refine ExE.ite _ (b:=false) (TsE.cmp _ (a:= .int 4) (k1:=true) (k2:=true) (EvE.nm W) (EvE.int _ _ _) (aB4 _ _ _ _) (by lk)) (ExE.nil ?_)
 refine ExE.ite _ (b:=false) (TsE.cmp _ (a:= .int 4) (k1:=true) (k2:=true) (EvE.nm W) (EvE.int _ _ _) (aB4 _ _ _ _) (by lk)) (ExE.nil ?_)
 refine ExE.ite _ (b:=true) (TsE.cmp _ (a:= .int 4) (k1:=true) (k2:=true) (EvE.nm W) (EvE.int _ _ _) (aB4 _ _ _ _) (by lk)) ?_
 exact ExE.ret _ (EvE.callF (n:=0) (o:=bH1) (fd:=aA2 bH1) _ _ W RA.deeper (by lk) (by lk) (by lk) (by lk) rfl (by lk) (by lk) (aC4.cons (EvE.nm W) aC4.nil) (dE3 w os c)) rfl
theorem cA7 (w:World)(os:OsState)(c:Nat):FnE w os 1 315 [.int 5, .str ⟨#[c]⟩] (.bool (aI6 w.params 5 c)):=by
 refine aB9 (o:=aH4) (fd:=aA2 aH4) (body:=aB1 (aA0 32)) (c:=314) (oc:=bH6) [u "k",u "sign"] (by lk) rfl rfl (by lk) rfl rfl rfl
  (al2 λ_ _=>by lk) rfl (by decide) (by lk) (by lk) rfl rfl rfl rfl λA h0 L RA=> ?_
 have W:Own (callEnv (aA2 aH4) L 315):=⟨rfl,rfl,rfl⟩
 refine ExE.ite _ (b:=false) (TsE.cmp _ (a:= .int 5) (k1:=true) (k2:=true) (EvE.nm W) (EvE.int _ _ _) (aB4 _ _ _ _) (by lk)) (ExE.nil ?_)
 refine ExE.ite _ (b:=false) (TsE.cmp _ (a:= .int 5) (k1:=true) (k2:=true) (EvE.nm W) (EvE.int _ _ _) (aB4 _ _ _ _) (by lk)) (ExE.nil ?_)
 refine ExE.ite _ (b:=false) (TsE.cmp _ (a:= .int 5) (k1:=true) (k2:=true) (EvE.nm W) (EvE.int _ _ _) (aB4 _ _ _ _) (by lk)) (ExE.nil ?_)
 refine ExE.ite _ (b:=false) (TsE.cmp _ (a:= .int 5) (k1:=true) (k2:=true) (EvE.nm W) (EvE.int _ _ _) (aB4 _ _ _ _) (by lk)) (ExE.nil ?_)
 refine ExE.ite _ (b:=false) (TsE.cmp _ (a:= .int 5) (k1:=true) (k2:=true) (EvE.nm W) (EvE.int _ _ _) (aB4 _ _ _ _) (by lk)) (ExE.nil ?_)
 refine ExE.ite _ (b:=true) (TsE.cmp _ (a:= .int 5) (k1:=true) (k2:=true) (EvE.nm W) (EvE.int _ _ _) (aB4 _ _ _ _) (by lk)) ?_
 exact ExE.ret _ (EvE.callF (n:=0) (o:=bL9) (fd:=aA2 bL9) _ _ W RA.deeper (by lk) (by lk) (by lk) (by lk) rfl (by lk) (by lk) (aC4.cons (EvE.nm W) aC4.nil) (dE4 w os c)) rfl
theorem cA8 (w:World)(os:OsState)(c:Nat):FnE w os 1 315 [.int 6, .str ⟨#[c]⟩] (.bool (aI6 w.params 6 c)):=by
 refine aB9 (o:=aH4) (fd:=aA2 aH4) (body:=aB1 (aA0 32)) (c:=314) (oc:=bH6) [u "k",u "sign"] (by lk) rfl rfl (by lk) rfl rfl rfl
  (al2 λ_ _=>by lk) rfl (by decide) (by lk) (by lk) rfl rfl rfl rfl λA h0 L RA=> ?_
 have W:Own (callEnv (aA2 aH4) L 315):=⟨rfl,rfl,rfl⟩
 refine ExE.ite _ (b:=false) (TsE.cmp _ (a:= .int 6) (k1:=true) (k2:=true) (EvE.nm W) (EvE.int _ _ _) (aB4 _ _ _ _) (by lk)) (ExE.nil ?_)
 refine ExE.ite _ (b:=false) (TsE.cmp _ (a:= .int 6) (k1:=true) (k2:=true) (EvE.nm W) (EvE.int _ _ _) (aB4 _ _ _ _) (by lk)) (ExE.nil ?_)
 refine ExE.ite _ (b:=false) (TsE.cmp _ (a:= .int 6) (k1:=true) (k2:=true) (EvE.nm W) (EvE.int _ _ _) (aB4 _ _ _ _) (by lk)) (ExE.nil ?_)
 refine ExE.ite _ (b:=false) (TsE.cmp _ (a:= .int 6) (k1:=true) (k2:=true) (EvE.nm W) (EvE.int _ _ _) (aB4 _ _ _ _) (by lk)) (ExE.nil ?_)
 refine ExE.ite _ (b:=false) (TsE.cmp _ (a:= .int 6) (k1:=true) (k2:=true) (EvE.nm W) (EvE.int _ _ _) (aB4 _ _ _ _) (by lk)) (ExE.nil ?_)
 refine ExE.ite _ (b:=false) (TsE.cmp _ (a:= .int 6) (k1:=true) (k2:=true) (EvE.nm W) (EvE.int _ _ _) (aB4 _ _ _ _) (by lk)) (ExE.nil ?_)
 exact ExE.ret _ (EvE.callF (n:=0) (o:=bM0) (fd:=aA2 bM0) _ _ W RA.deeper (by lk) (by lk) (by lk) (by lk) rfl (by lk) (by lk) (aC4.cons (EvE.nm W) aC4.nil) (dE5 w os c)) rfl
theorem cJ0 (w:World)(os:OsState)(k c:Nat)(h:k<7):FnE w os 1 315 [.int k, .str ⟨#[c]⟩] (.bool (aI6 w.params k c)):=by
 revert k
 exact ls (ls (ls (ls (ls (ls (ls lz (cA2 w os c)) (cA3 w os c)) (cA4 w os c)) (cA5 w os c)) (cA6 w os c)) (cA7 w os c)) (cA8 w os c)
section
variable {w:World}{A:Around}{h0:aA8}{env:Env}{os:OsState}{σ:Sg}{k:Bool}{B:PM}
noncomputable def chT (x:Str):List T:=x.cps.toList.map λc=>T.str ⟨#[c]⟩
theorem aR6 {x:Str}{i:Nat}:(chT x)[i]? =(x.cps[i]?).map λc=>T.str ⟨#[c]⟩:=by
 unfold chT
 rw [List.getElem?_map,Array.getElem?_toList]
theorem bU4 (hA:A.handled=none)(x:Str)(t:Tok):Src w A h0 env os B (chT x) (λi o=>o.cls= .type "str_ascii_iterator" /\o.data= .fields #[.str x t, .int i 0]):=by
 refine ⟨λB' O X m cm s it o i u Q E l F I ht q=> ?_,λB' O X m cm s it o i Q E l F I ht q=> ?_⟩
 ·rw [aR6] at ht
  cases hc:x.cps[i]? with
  | none=>rw [hc] at ht; cases ht
  | some c=>
   rw [hc] at ht; cases ht
   refine wpAny_pyNext_ascii_item ⟨o,F.opn _ (List.mem_append.mpr (.inr (.head _))),I.1,I.2⟩ hc λh' it' hs=> ?_
   refine aC8 it' λo' ho' c' d'=> ?_
   try clear it'
   exact q _ _ o' ⟨c',d'⟩ (aF7 F ho' hs _) (.str _ _)
 ·rw [aR6] at ht
  have hc:x.cps[i]? =none:=by
   cases hc:x.cps[i]? with
   | none=>rfl
   | some c=>rw [hc] at ht; cases ht
  refine wpAny_pyNext_ascii_end hA ⟨o,F.opn _ (List.mem_append.mpr (.inr (.head _))),I.1,I.2⟩ hc λh' hs=> ?_
  exact q _ (F.drop hs s.toks)
theorem cA9 (hA:A.handled=none)(x:Str)(t:Tok):Src w A h0 env os B (chT x) (λi o=>o.cls= .type "str_iterator" /\o.data= .fields #[.str x t, .int i 0]):=by
 refine ⟨λB' O X m cm s it o i u Q E l F I ht q=> ?_,λB' O X m cm s it o i Q E l F I ht q=> ?_⟩
 ·rw [aR6] at ht
  cases hc:x.cps[i]? with
  | none=>rw [hc] at ht; cases ht
  | some c=>
   rw [hc] at ht; cases ht
   refine wpAny_pyNext_wide_item ⟨o,F.opn _ (List.mem_append.mpr (.inr (.head _))),I.1,I.2⟩ hc λh' it' hs=> ?_
   refine aC8 it' λo' ho' c' d'=> ?_
   try clear it'
   exact q _ _ o' ⟨c',d'⟩ (aF7 F ho' hs _) (.str _ _)
 ·rw [aR6] at ht
  have hc:x.cps[i]? =none:=by
   cases hc:x.cps[i]? with
   | none=>rfl
   | some c=>rw [hc] at ht; cases ht
  refine wpAny_pyNext_wide_end hA ⟨o,F.opn _ (List.mem_append.mpr (.inr (.head _))),I.1,I.2⟩ hc λh' hs=> ?_
  exact q _ (F.drop hs s.toks)
theorem ItE.str {iter:Expr}{x:Str}{k1:Bool}(hA:A.handled=none)(he:EvE w A h0 env os k1 σ iter (.str x)):ItE w A h0 env os σ iter (chT x):=λB O m cm s Q E F R q=>
 he B O m cm s _ E F R λv s1 B1 l1 F1 V=>by
  refine aA3 V.str λt z1z=> ?_
  subst z1z
  cases ha:x.cps.all (· <128) with
  | false=>exact wpAny_pyIter_wide ha (q _ _ _ B1 _ l1 (F1.pushO rfl s1.toks) (cA9 hA x t) ⟨rfl,rfl⟩)
  | true=>exact wpAny_pyIter_ascii ha (q _ _ _ B1 _ l1 (F1.pushO rfl s1.toks) (bU4 hA x t) ⟨rfl,rfl⟩)
theorem cJ1 (k1 k2:Bool)(a b:Bool):aF2 w A h0 env os .Is k1 k2 (.bool a) (.bool b) (a == b):=λB O m cm s va vb Q E F V1 V2 q=>by
 have e1:=V1.bool; have e2:=V2.bool
 subst e1 e2
 refine wpAny_is_plain rfl ?_
 have:(Value.bool a == Value.bool b)=(a == b):=by cases a<;>cases b<;>rfl
 rw [this]
 exact q s B (.refl B) F
theorem aA6.strs {ns:List Str}:∀ {vs:List Value},aA6 B vs (ns.map T.str)->StrsAre vs ns:=by
 induction ns with
 | nil=>intro vs h; rw [show vs=[] from h.inv]; exact .nil
 | cons n ns ih=>
  intro vs h
  refine aB0 h.inv λv r e h1 h2=> ?_
  refine aA3 h1.inv λk e'=> ?_
  rw [e,e']; exact .cons n k (ih h2)
theorem EvE.join {l e:Expr}{x:Str}{ys:List Str}{k1 k2:Bool}(apos pos:Pos)(hl:EvE w A h0 env os k1 σ l (.str x))(he:EvE w A h0 env os k2 σ e (.list (ys.map T.str)))(hok:(ys.map (·.length)).sum+ys.length * x.length<=16777216)
  (hb:attributeBase l (u "join") env (eval l env)=eval l env) (hln:(apos.endLine == pos.line)=true) (ht:backTo pos (starEach [e] env)=[(false,eval e env)]):
  EvE w A h0 env os k σ (.Call (.Attribute l (u "join") apos) [e] [] pos) (.str (Txt.join x ys)):=λB O m cm s Q E F R q=>by
 refine wpAny_Call_method1_late hb hln ht ?_
 refine hl B O m cm s _ E F R λv s1 B1 l1 F1 V1=> ?_
 refine aA3 V1.str λt z1z=> ?_
 subst z1z
 refine ⟨"str", "str.join",PySem.F.plainAttrs_str,PySem.F.slot_str_join,PySem.F.type_str_join,typeIs_str _ _ _,(λb e=>(by cases e)), ?_⟩
 refine callWith_builtin rfl (Calls.evalArgs_plain (Calls.spliced_cons (he B1 O m cm s1 _ E F1 (R.mono l1) λy s2 B2 l2 F2 V2=>Calls.spliced_nil ?_)))
 refine aB0 (VR.list F2 V2) λa vs z1z L Vs=> ?_
 subst z1z
 exact join_list L (by simpa using Vs.strs) hok λt' k=>q _ _ B2 (l1.trans l2) (F2.tok _) (.of (.str _ _))
end
noncomputable def ch (c:Nat):Str:=⟨#[c]⟩
noncomputable def aP6 (g:Nat):Nat:=(bB.getD g 0).toNat
noncomputable def aO8 (P:Params)(k g c:Nat):List Nat:=if aI6 P k c=false then [c] else if g≠7 then [aP6 g] else []
noncomputable def aK7 (P:Params)(k g:Nat)(cs:List Nat):List Nat:=cs.flatMap (aO8 P k g)
theorem aO0 (P:Params)(k g:Nat):∀ cs:List Nat,(aK7 P k g cs).length<=cs.length
 | []=>Nat.le_refl _
 | c::cs=>by
  have:=aO0 P k g cs
  unfold aK7 at this ⊢
  rw [List.flatMap_cons,List.length_append,List.length_cons]
  have:(aO8 P k g c).length<=1:=by
   unfold aO8
   split
   ·exact Nat.le_refl _
   ·split
    ·exact Nat.le_refl _
    ·exact Nat.zero_le _
  room
theorem bN4 (P:Params)(k g:Nat)(cs:List Nat)(i c:Nat)(h:cs[i]? =some c):aK7 P k g (cs.take (i+1))=aK7 P k g (cs.take i)++aO8 P k g c:=by
 unfold aK7
 rw [List.take_add_one,h]
 simp
theorem bJ2:∀ l:List Nat,(Str.join (u "") (l.map ch)).cps=l.toArray
 | []=>rfl
 | [c]=>rfl
 | c::d::l=>by
  show (((ch c++u "")++Str.join (u "") ((d::l).map ch)):Str).cps=_
  have:=bJ2 (d::l)
  show (#[c]++(u "").cps)++(Str.join (u "") ((d::l).map ch)).cps=_
  rw [this,show (u "").cps= #[] from rfl]
  simp
theorem bF4 (l:List Nat):Txt.join (u "") (l.map ch)=⟨l.toArray⟩:=by
 have e:Txt.join (u "") (l.map ch)=Str.join (u "") (l.map ch):=PySem.StrLaws.glued_eq_join _ _
 rw [e]
 have:=bJ2 l
 cases z:Str.join (u "") (l.map ch) with
 | mk cps=>rw [z] at this; exact congrArg Str.mk this
noncomputable def aE7 (P:Params)(k g:Nat)(cs:List Nat):List Nat:=if g=k then cs else aK7 P k g cs
noncomputable abbrev wkA (w:World)(k g:Nat)(cs:List Nat)(i:Nat)(σ:Sg):Prop:=σ.ow=[(u "row",((aK7 w.params k g (cs.take i)).map ch).map T.str)]/\σ.fz (u "k")=some (.int k)/\σ.fz (u "goal")=some (.int g)
theorem bU5 (w:World)(os:OsState)(k g:Nat)(cs:List Nat)(hk:k<7)(hg:g<8)(hcs:cs.length<=1000):FnE w os 2 322 [.int k, .int g, .str ⟨cs.toArray⟩] (.str ⟨(aE7 w.params k g cs).toArray⟩):=by
 refine aB9 (o:=bM3) (fd:=aA2 bM3) (body:=aB1 (aA0 33)) (c:=321) (oc:=cX5) [u "k",u "goal",u "text"] (by lk) rfl rfl (by lk) rfl rfl rfl
  (al3 λ_ _ _=>by lk) rfl (by decide) (by lk) (by lk) rfl rfl rfl rfl λA h0 L RA=> ?_
 have W:Own (callEnv (aA2 bM3) L 322):=⟨rfl,rfl,rfl⟩
 have hA:(A.deeper (callEnv (aA2 bM3) L 322)).handled=none:=RA.handled
 have hz:sizeLine=16777216:=by decide
 refine ExE.ite _ (b:=((g:Int) == (k:Int))) (TsE.cmp _ (a:= .int g) (b:= .int k) (k1:=true) (k2:=true) (EvE.nm W) (EvE.nm W) (aB4 _ _ _ _) (by lk)) ?_
 unfold aE7
 by_cases q:g=k
 ·rw [if_pos q,show ((g:Int) == (k:Int))=true by rw [q]; simp]
  exact ExE.ret _ (EvE.nm W) rfl
 rw [if_neg q,show ((g:Int) == (k:Int))=false by simp; room]
 refine ExE.nil ?_
 refine ExE.newList _ _ _ W (ts:=[]) .nil (by lk) (by decide) (by lk) (λp hp=>absurd hp List.not_mem_nil) ?_
 refine ExE.for_ (ts:=chT ⟨cs.toArray⟩) (J:=wkA w k g cs) _ ?_ ?_ ?_ ?_ ?_ ?_
 ·exact ItE.str (k1:=true) hA (EvE.nm W)
 ·exact ⟨rfl,by lk,by lk⟩
 ·exact λit v=>rfl
 ·exact λx=>rfl
 ·intro i t σ1 ht w1w
  refine aC5 w1w λj1 j2 j3=> ?_
  try clear w1w
  rw [aR6] at ht
  have ht':(cs[i]?).map (λc=>T.str ⟨#[c]⟩)=some t:=by simpa using ht
  cases hc:cs[i]? with
  | none=>rw [hc] at ht'; cases ht'
  | some c=>
   rw [hc] at ht'
   cases ht'
   have hsn:=bN4 w.params k g cs i c hc
   have hlen:=aO0 w.params k g (cs.take i)
   have hlen2:(cs.take i).length<=1000:=by rw [List.length_take]; room
   refine ⟨_,aF5.name _ W (by lk) (by rw [j1]; intro p hp; rw [List.mem_singleton.mp hp]; show u "row" ≠u "sign"; decide), ?_⟩
   refine ExE.ite _ (b:=(aI6 w.params k c == false)) (TsE.cmp _ (a:= .bool (aI6 w.params k c)) (k1:=true) (k2:=true) ?_ (EvE.boolC _ _ _) (cJ1 _ _ _ _) (by lk)) ?_
   ·exact EvE.callF (n:=1) (o:=aH4) (fd:=aA2 aH4) _ _ W RA.deeper (by lk) (by lk) (by lk) (by lk) rfl (by lk) (by lk) (aC4.cons (EvE.nm W ((by lk:_=σ1.fz (u "k")).trans j2)) (aC4.cons (EvE.nm W) aC4.nil)) (cJ0 w os k c hk)
   unfold aO8 at hsn
   cases hb:aI6 w.params k c with
   | false=>
    rw [hb,if_pos rfl] at hsn
    refine ExE.append _ _ _ _ W (x:=u "row") (ts:=((aK7 w.params k g (cs.take i)).map ch).map T.str) (t:= .str ⟨#[c]⟩) ?_ (.inl (by lk)) (by lk) (by lk) (EvE.nm W) (by rw [List.length_map,List.length_map]; room) (by lk) (by lk) (by lk) (by lk) (by lk) (by lk) (ExE.nil (ExE.nil ?_))
    ·show σ1.ow.lookup (u "row")=_
     rw [j1]; lk
    ·refine ⟨?_,(by lk:_=σ1.fz (u "k")).trans j2,(by lk:_=σ1.fz (u "goal")).trans j3⟩
     show aM9 (u "row") _ σ1.ow=_
     rw [j1,hsn,List.map_append,List.map_append]
     lk
   | true=>
    rw [hb,if_neg (by simp)] at hsn
    refine ExE.ite _ (b:=((g:Int) != 7)) (TsE.cmp _ (a:= .int g) (k1:=true) (k2:=true) (EvE.nm W ((by lk:_=σ1.fz (u "goal")).trans j3)) (EvE.int _ _ _) (aE2 _ _ _ _) (by lk)) ?_
    by_cases q7:g=7
    ·rw [if_neg (by room),List.append_nil] at hsn
     rw [show ((g:Int) != 7)=false by rw [q7]; rfl]
     refine ExE.nil (ExE.nil (ExE.nil ⟨?_,(by lk:_=σ1.fz (u "k")).trans j2,(by lk:_=σ1.fz (u "goal")).trans j3⟩))
     show σ1.ow=_
     rw [j1,hsn]
    ·rw [if_pos q7] at hsn
     rw [show ((g:Int) != 7)=true by simp; room]
     refine ExE.append _ _ _ _ W (x:=u "row") (ts:=((aK7 w.params k g (cs.take i)).map ch).map T.str) (t:= .str (ch (aP6 g))) ?_ (.inl (by lk)) (by lk) (by lk) ?_ (by rw [List.length_map,List.length_map]; room) (by lk) (by lk) (by lk) (by lk) (by lk) (by lk) (ExE.nil (ExE.nil (ExE.nil ?_)))
     ·show σ1.ow.lookup (u "row")=_
      rw [j1]; lk
     ·exact EvE.callF (n:=0) (o:=bE2) (fd:=aA2 bE2) _ _ W (aD6.deeper (by have:=RA; exact ⟨by have:=RA.depth; room,by have:=RA.units; room,RA.handled⟩)) (by lk) (by lk) (by lk) (by lk) rfl (by lk) (by lk) (aC4.cons (EvE.nm W ((by lk:_=σ1.fz (u "goal")).trans j3)) aC4.nil) (bI3 w os g (by room))
     ·refine ⟨?_,(by lk:_=σ1.fz (u "k")).trans j2,(by lk:_=σ1.fz (u "goal")).trans j3⟩
      show aM9 (u "row") _ σ1.ow=_
      rw [j1,hsn,List.map_append,List.map_append]
      lk
 ·intro σ1 w1w
  refine aC5 w1w λj1 _ _=> ?_
  try clear w1w
  have hlen0:(chT ⟨cs.toArray⟩).length=cs.length:=by simp [chT]
  rw [hlen0,List.take_length] at j1
  have hlen:=aO0 w.params k g cs
  rw [<- bF4]
  refine ExE.ret _ (EvE.join _ _ (k1:=true) (k2:=false) (EvE.strC _ _ _) (EvE.ow W ?_) ?_ (by lk) (by lk) (by lk)) rfl
  ·rw [j1]; lk
  ·have e:(((aK7 w.params k g cs).map ch).map (·.length)).sum<=(aK7 w.params k g cs).length:=by
    rw [List.map_map]
    induction aK7 w.params k g cs with
    | nil=>exact Nat.le_refl _
    | cons a l ih=>rw [List.map_cons,List.sum_cons,List.length_cons]; have:(ch a).length=1:=rfl; simp only [Function.comp] at ih ⊢; room
   have:(u "").length=0:=rfl
   rw [show (Str.ofString "").length=0 from rfl]
   room
section
variable {w:World}{A:Around}{h0:aA8}{env:Env}{os:OsState}{σ:Sg}{P:FP}{rest:List Stmt}{k:Bool}{PV:Rs->Sg->Prop}
theorem EvH.iterNext {e:Expr}{l:Addr}{ts:List T}{k1:Bool}(np pc pos:Pos)(W:Own env)(he:EvE w A h0 env os k1 σ e (.obj l))(hl:σ.hp l=some (.lst ts))(hk:env.kindOf (u "iter")=some .globalImplicit)(hm:mgm w.params (u "iter")=none)(hv:mbm w.params (u "iter")=some (.builtin "iter"))
  (hs:backTo pc (starEach [e] env)=[(false,eval e env)])
  (hev:eval (.Attribute (.Call (.Name (u "iter") np) [e] [] pc) (u "__next__") pos) env=(do let o <-eval (.Call (.Name (u "iter") np) [e] [] pc) env; standAt pos.atName; let r <-holding [o] (getAttr o (u "__next__") true); letTemporaryGo (.Call (.Name (u "iter") np) [e] [] pc) o r; pure r))
  (h:∀ it mw,σ.hp it=none->σ.hp mw=none->it≠mw->PV (.val (.obj mw)) ((σ.put it (.itr l 0)).put mw (.nxt it))):EvH w A h0 env os σ (.Attribute (.Call (.Name (u "iter") np) [e] [] pc) (u "__next__") pos) PV:=λB O X m cm s Q E F R q=>by
 refine Attribute_any_ (wpAny_Call_NameR (aJ0 W F hk hm hv ?_ (by lk))) hev
 rw [hs]
 refine callWith_builtin rfl (Calls.evalArgs_plain (Calls.spliced_cons (he B (O++X) m cm s _ E F (R.rel X) λva s1 B1 l1 F1 V1=>Calls.spliced_nil ?_)))
 rw [V1.obj]
 refine aB0 (aN F1 ((R.mono l1).rel X) hl) λvs n g Vs hmem=> ?_
 refine call_function_entry (by decide +kernel) (by decide +kernel) kdk_entry_iter (kdk_args_iter _) ?_
 unfold Builtin.«iter»
 refine wpAny_bind (m:=someArgs "iter" 1 2 _) (wpAny_of_eq (a:=[Value.ref l]) (by first | rfl | lk) ?_)
 show wpAny _ _ (pyIter (.ref l) >>= _) _ _ _
 refine wpAny_bind (wpAny_pyIter_list ⟨_,g,rfl,n,rfl⟩ ?_)
 refine wpAny_pure ⟨_,rfl, ?_⟩
 have R1:=R.mono l1
 have F2:=(F1.pushO (o:={ cls:= .type "list_iterator",data:= .fields #[.ref l, .int 0 0] }) rfl s1.toks).newX
 have hit:=aG8 F1 R1 aA7
 have R2:=R1.new (a:=s1.heap.objs.size) (o:={ cls:= .type "list_iterator",data:= .fields #[.ref l, .int 0 0] }) (b:= .itr l 0) ⟨rfl,rfl⟩
 have hx:=F2.opn (s1.heap.objs.size,_) (List.mem_append.mpr (.inl (List.mem_append.mpr (.inr (.head _)))))
 obtain ⟨hh,gg,dr,tk,oss⟩:=s1
 refine cI8 (vs:= #[.ref l, .int 0 0]) (sl:= #[]) hx ?_
 have F3:=(F2.pushO (o:=aF0 hh.objs.size) rfl (tk+1)).newX
 have hmw0:=aG8 F2 R2 aA7
 have hne:hh.objs.size≠(hh.push { cls:= .type "list_iterator",data:= .fields #[.ref l, .int 0 0] }).objs.size:=by rw [Heap.size_push]; room
 have hmw:σ.hp (hh.push { cls:= .type "list_iterator",data:= .fields #[.ref l, .int 0 0] }).objs.size=none:=by
  have:σ.hp.put hh.objs.size (.itr l 0) (hh.push { cls:= .type "list_iterator",data:= .fields #[.ref l, .int 0 0] }).objs.size=none:=hmw0
  unfold Hp.put at this
  rwa [if_neg hne.symm] at this
 have R3:=R2.new (a:=(hh.push { cls:= .type "list_iterator",data:= .fields #[.ref l, .int 0 0] }).objs.size) (o:=aF0 hh.objs.size) (b:= .nxt hh.objs.size) rfl
 exact q.go _ _ _ _ B1 _ m cm (h _ _ hit hmw hne) (.obj _) l1 F3 R3
theorem ExE.appendOH {value e:Expr}{a:Addr}{ts:List T}{k1:Bool}(pa pc pos:Pos)(hv:EvE w A h0 env os k1 σ value (.obj a))(ha:σ.hp a=some (.lst ts))(hz:ts.length<=sizeLine)
  (hb:attributeBase value (u "append") env (eval value env)=eval value env)
  (hs:(((List.all (backTo pc (starEach [e] env)) λx=> !x.fst) && List.all (backToKw pc (keywordEach [] env)) λx=>Option.isSome x.fst) && decide ((List.length [e]+List.length ([]:List Keyword)+if List.isEmpty ([]:List Keyword)=true then 0 else 1)<30))=true)
  (hl:(pa.endLine == pc.line)=true) (ht:backTo pc (starEach [e] env)=[(false,eval e env)]) (hi:interactive env=false) (hsw:swapsWith (.Call (.Attribute value (u "append") pa) [e] [] pc) none pos.line env=pure false)
  (he:EvH w A h0 env os σ e (aR5 P λt σ1=>σ1.hp a=some (.lst ts)/\ExE w A h0 env os (σ1.put a (.lst (ts++[t]))) rest P)):ExE w A h0 env os σ (.Expr (.Call (.Attribute value (u "append") pa) [e] [] pc) pos::rest) P:=λB O X m cm s Q E F R q=>by
 refine wpAny_execs_cons (wpAny_Expr_any (wpAny_Call_append hb hs hl ht ?_) hi hsw)
 refine hv B (O++X) m cm s _ E F (R.rel X) λov s1 B1 l1 F1 V1=> ?_
 refine aB0 (aN F1 ((R.mono l1).rel X) ha) λvs n g1 _ _=> ?_
 refine ⟨a,vs.toArray,V1.obj,⟨_,n,g1,rfl,rfl,rfl⟩, ?_⟩
 refine he B1 O X m cm s1 _ E F1 (R.mono l1) ⟨λt σ1 v s2 B2 O2 m2 cm2 pr V2 l2 F2 R2=> ?_,λcls args σ' e s' B' Z O' m' cm' p r l F' R'=>q.out cls args σ' e s' B' Z O' m' cm' p r (l1.trans l) F' R'⟩
 refine aB pr λha2 h=> ?_
 try clear pr
 refine aM6 (R2.at ha2) λOa od Ob' z1z z2z up=> ?_
 subst z1z
 refine aA1 z2z λvs2 z1z W2=> ?_
 try clear z2z
 refine aA3 z1z λn2 z1z=> ?_
 subst z1z
 refine wpAny_list_append_plain ⟨n2,F2.opn (a,_) (List.mem_append.mpr (.inl (List.mem_append.mpr (.inr (.head _)))))⟩ (λh' hP hS=> ?_) ?_
 ·refine aA3 hP λn' hP=> ?_
  rw [show vs2.toArray.push v=(vs2++[v]).toArray by simp] at hP
  have F3:Fm w h0 env B2 (Oa++(a,({ cls:= .type "list",data:= .seq vs2.toArray n2 }:Obj))::(Ob'++X)) m2 cm2 os s2:=by simpa using F2
  have F4:=F3.turn hP hS s2.toks
  refine h B2 _ X m2 cm2 _ Q E (by simpa using F4) (up { cls:= .type "list",data:= .seq (vs2++[v]).toArray n' } _ ⟨_,⟨n',rfl⟩,W2.append (.cons V2 .nil)⟩) (q.mono (l1.trans l2))
 ·rw [List.size_toArray,W2.length]; exact hz
theorem EvE.last {value:Expr}{ts:List T}{t:T}{k1:Bool}{nc:Nat}{p1 p2:Pos}(pos:Pos)(hv:EvE w A h0 env os k1 σ value (.list (ts++[t])))
  (hs:∀ o j u,subscripted (.UnaryOp .USub (.Constant (.int 1) nc p1) p2) false (.ref o) (.int j u)=operate [.ref o, .int j u] (getItem (.ref o) (.int j u))):EvE w A h0 env os k σ (.Subscript value (.UnaryOp .USub (.Constant (.int 1) nc p1) p2) pos) t:=λB O m cm s Q E F R q=>
 Subscript_ (hv B O m cm s _ E F R λva s1 B1 l1 F1 V1=>UnaryOp_ (wpAny_Constant_int (PyProof.Rows.neg_int (by
  have F2:=(F1.tok (s1.toks+1)).tok (s1.toks+1+1)
  refine aB0 (VR.list F2 V1) λa vs z1z L W=> ?_
  subst z1z
  have hlen:=W.length
  rw [List.length_append] at hlen
  obtain ⟨v,hv',V⟩:=W.get (i:=ts.length) (t:=t) (by simp)
  refine tail_any L.typeIs slot_list_getitem.lookup (wpAny_getItem_list_neg L (by room) ?_ (by room) (x:=v) ?_ (q v _ B1 l1 F2 (.of V))) (hs _ _ _)
  ·rw [List.size_toArray,hlen]; simp; room
  ·rw [List.size_toArray,hlen]
   have e:((-1:Int)+((ts.length+[t].length:Nat):Int)).toNat=ts.length:=by simp; room
   rw [e,List.getElem?_toArray]; exact hv'))))
theorem EvH.callNext {f:Expr}{mw it l:Addr}{i:Nat}{ts:List T}(pos:Pos)(hA:A.handled=none)(hf:EvE w A h0 env os true σ f (.obj mw))(hmw:σ.hp mw=some (.nxt it))(hit:σ.hp it=some (.itr l i))(hl:σ.hp l=some (.lst ts))
  (hev:eval (.Call f [] [] pos) env=(do callWith pos (<- eval f env) [] [] []))
  (hsome:∀ t,ts[i]? =some t->PV (.val t) (σ.put it (.itr l (i+1)))) (hnone:ts[i]? =none->PV (.exc (.type "StopIteration") []) ⟨σ.fz,σ.ow,σ.hp.del it⟩):EvH w A h0 env os σ (.Call f [] [] pos) PV:=λB O X m cm s Q E F R q=>by
 rw [hev]
 refine wpAny_bind (hf B (O++X) m cm s _ E F (R.rel X) λv s1 B1 l1 F1 V1=> ?_)
 rw [Val.objAt V1]
 have R1:=R.mono l1
 refine aA1 ((R1.rel X).at hmw) λom mm z1z=> ?_
 subst z1z
 refine aC8 ((R1.rel X).at hit) λoi mi i1 i2=> ?_
 refine aB0 (aN F1 (R1.rel X) hl) λvs n g Vs hmem=> ?_
 have gm:=F1.opn _ mm
 have gi:=F1.opn _ mi
 refine callWith_of (P:=λh=>h.get? mw=some (aF0 it)) rfl (λh e=>⟨.machine, .inr (.inl rfl),(Looks.ld (part:=none) e).andThen .now⟩) (evalArgs_nil3 ⟨gm, ?_⟩)
 refine wpAny_call ?_
 refine aM6 (R1.at hit) λOa oi' Ob' eO z1z up=> ?_
 refine aB z1z λi3 i4=> ?_
 try clear z1z
 have e1:oi'=oi:=by
  have:=F1.opn (it,oi') (by rw [eO]; simp)
  rw [gi] at this; cases this; rfl
 subst e1
 cases ht:ts[i]? with
 | some t=>
  refine aA1 (Vs.get ht) λy hy Vy=> ?_
  refine cI9 gm ⟨oi',gi,i1,i2⟩ ⟨_,g,rfl,n,rfl⟩ (by simpa using hy) λh' it' hS=> ?_
  refine aC8 it' λo' ho' c' d'=> ?_
  try clear it'
  have F2:Fm w h0 env B1 (Oa++(it,oi')::(Ob'++X)) m cm os s1:=by rw [eO] at F1; simpa using F1
  have F3:=F2.turn ho' hS s1.toks
  exact q.go t _ _ _ B1 _ m cm (hsome t ht) Vy l1 (by simpa using F3) (up o' _ ⟨c',d'⟩)
 | none=>
  have hy:vs.toArray[i]? =none:=by
   rw [List.getElem?_toArray,List.getElem?_eq_none_iff]
   rw [List.getElem?_eq_none_iff] at ht
   rw [Vs.length]; exact ht
  refine cS2 hA gm ⟨oi',gi,i1,i2⟩ ⟨_,g,rfl,n,rfl⟩ hy λh1 h' e hS hM=> ?_
  have F2:Fm w h0 env B1 (Oa++(it,oi')::(Ob'++X)) m cm os s1:=by rw [eO] at F1; simpa using F1
  have F3:Fm w h0 env B1 ((Oa++Ob')++X) m cm os { s1 with heap:=h1 }:=by
   have:=F2.drop (h':=h1) (λb o hb hbo=>(hS.2 b hb).trans hbo) s1.toks
   rw [List.append_assoc]; exact this
  refine aB0 (aY0 (s:={ s1 with heap:=h1 }) F3 (vs:=[]) (args:=[]) .nil hM) λB' Z l2 fly F4=> ?_
  have R2:Rl env ⟨σ.fz,σ.ow,σ.hp.del it⟩ B1 (Oa++Ob') m cm:=by
   refine aB0 R1.ow λO1 Y e2 ro hh=> ?_
   have nod:=F1.nod
   rw [e2,List.map_append,List.map_append,List.nodup_append,List.nodup_append] at nod
   have hmY:(it,oi')∈Y:=by
    refine aA1 (hh _ _ hit) λo2 hm2 _=> ?_
    have e3:o2=oi':=by
     have:=F1.opn (it,o2) (by rw [e2]; simp [hm2])
     rw [gi] at this; cases this; rfl
    rw [<- e3]; exact hm2
   refine bD5 (List.append_of_mem hmY) λY1 Y2 z1z=> ?_
   subst z1z
   have key:Oa=O1++Y1/\Ob'=Y2:=by
    have d:((Oa++(it,oi')::Ob').map (·.1)).Nodup:=by
     have:=F1.nod
     rw [eO,List.map_append,List.nodup_append] at this
     exact this.1
    refine aQ9 d (o':=oi') ?_
    rw [<- eO,e2,List.append_assoc]
   rw [key.1,key.2]
   refine ⟨R1.fz,O1,Y1++Y2,by rw [List.append_assoc],ro,λx b hb=> ?_⟩
   have hb:(if x=it then none else σ.hp x)=some b:=hb
   split at hb
   ·cases hb
   ·rename_i hx
    refine aA1 (hh x b hb) λo hm hi=> ?_
    refine ⟨o, ?_,hi⟩
    rcases List.mem_append.mp hm with h | h
    ·exact List.mem_append.mpr (.inl h)
    ·rcases List.mem_cons.mp h with h | h
     ·cases h; exact absurd rfl hx
     ·exact List.mem_append.mpr (.inr h)
  exact q.out _ _ _ e _ B' Z (Oa++Ob') m cm (hnone ht) fly (l1.trans l2) F4 (R2.mono l2)
end
noncomputable def bJ3 (es:List (Int×T))(k:Int):List (Int×T):=es.filter λp=>decide (p.1≠k)
theorem bN5 {B:PM}{k:Int}{kvs:List (Int×Value)}{es:List (Int×T)}(h:kvs.map (·.1)=es.map (·.1)):aA6 B (kvs.map (·.2)) (es.map (·.2))->
  (without kvs k).map (·.1)=(bJ3 es k).map (·.1)/\aA6 B ((without kvs k).map (·.2)) ((bJ3 es k).map (·.2)):=by
 refine aT5 (P:=λkvs es=>aA6 B (kvs.map (·.2)) (es.map (·.2))->(without kvs k).map (·.1)=(bJ3 es k).map (·.1)/\aA6 B ((without kvs k).map (·.2)) ((bJ3 es k).map (·.2))) (λ_=>⟨rfl, .nil⟩) (λy _ _ r r' _ ih hv=> ?_) h
 refine aB (ih hv.un.2) λi1 i2=> ?_
 unfold without bJ3 at i1 i2 ⊢
 by_cases e:y=k
 ·rw [List.filter_cons_of_neg (by exact λh=>of_decide_eq_true h e),List.filter_cons_of_neg (by exact λh=>of_decide_eq_true h e)]
  exact ⟨i1,i2⟩
 ·rw [List.filter_cons_of_pos (by exact decide_eq_true e),List.filter_cons_of_pos (by exact decide_eq_true e)]
  exact ⟨congrArg (y:: ·) i1, .cons hv.un.1 i2⟩
section
variable {w:World}{A:Around}{h0:aA8}{env:Env}{os:OsState}{σ:Sg}{P:FP}{rest:List Stmt}{k:Bool}{PV:Rs->Sg->Prop}
theorem EvH.pop {value:Expr}{a:Addr}{ts:List T}{t:T}{k1:Bool}(pa pc:Pos)(hv:EvE w A h0 env os k1 σ value (.obj a))(ha:σ.hp a=some (.lst (ts++[t])))(hz:(ts++[t]).length<=sizeLine)
  (hb:attributeBase value (u "pop") env (eval value env)=eval value env) (hl:(pa.endLine == pc.line)=true)
  (h:PV (.val t) (σ.put a (.lst ts))):EvH w A h0 env os σ (.Call (.Attribute value (u "pop") pa) [] [] pc) PV:=λB O X m cm s Q E F R q=>by
 refine wpAny_Call_method0_late hb hl ?_
 refine hv B (O++X) m cm s _ E F (R.rel X) λov s1 B1 l1 F1 V1=> ?_
 rw [V1.obj]
 have R1:=R.mono l1
 refine aM6 (R1.at ha) λOa od Ob' z1z z2z up=> ?_
 subst z1z
 refine aA1 z2z λvs z1z V=> ?_
 try clear z2z
 refine aA3 z1z λn z1z=> ?_
 subst z1z
 have ho:=F1.opn (a,_) (List.mem_append.mpr (.inl (List.mem_append.mpr (.inr (.head _)))))
 have hlen:=V.length
 refine aB0 V.split λxs ys z1z Vx Vy=> ?_
 subst z1z
 obtain ⟨y,rfl,Vy1⟩:∃ y,ys=[y]/\Val B1 y t:=by
  cases Vy with
  | cons a b=>cases b; exact ⟨_,rfl,a⟩
 refine ⟨"list", "list.pop",PySem.F.plainAttrs_list,PySem.F.slot_list_pop,PySem.F.type_list_pop,⟨_,ho,rfl⟩,λb e=>by cases e; exact ⟨_,ho,rfl⟩, ?_⟩
 refine callWith_builtin rfl (evalArgs_nil3 ?_)
 have hk:(xs++[y]).toArray.size - 1=xs.length:=by rw [List.size_toArray,List.length_append]; rfl
 have hy:(xs++[y]).toArray[(xs++[y]).toArray.size - 1]? =some y:=by rw [hk]; simp
 refine call_meets PySem.F.slot_list_pop ⟨_,ho,rfl⟩ PySem.F.entry_list_pop (PySem.F.args_list_pop_1 _) (PySem.MeetsSeq.list_pop_last a _ n y hy (by rw [List.size_toArray,hlen]; exact hz)) ⟨ho, ?_⟩
 obtain ⟨n',e⟩:=aL5 (items:=(xs++[y]).toArray) (n:=n) (f:=λxs'=>xs'.eraseIdxIfInBounds ((xs++[y]).toArray.size - 1)) (l:=xs) (by
  show (xs++[y]).toArray.eraseIdxIfInBounds ((xs++[y]).toArray.size - 1)=xs.toArray
  rw [hk]
  simp [List.eraseIdxIfInBounds_toArray,List.eraseIdx_append_of_length_le])
 have F2:Fm w h0 env B1 (Oa++(a,({ cls:= .type "list",data:= .seq (xs++[y]).toArray n }:Obj))::(Ob'++X)) m cm os s1:=by simpa using F1
 have hg:(s1.heap.update a (Obj.mapSeq λxs'=>xs'.eraseIdxIfInBounds ((xs++[y]).toArray.size - 1))).get? a=some { cls:= .type "list",data:= .seq xs.toArray n' }:=by
  rw [Heap.get?_update_self _ ho (by rw [e]; rfl),e]
 have F3:=F2.turn hg (Heap.SameBut.update ..) s1.toks
 exact q.go t _ _ _ B1 _ m cm h Vy1 l1 (by simpa using F3) (up { cls:= .type "list",data:= .seq xs.toArray n' } _ ⟨xs,⟨n',rfl⟩,Vx⟩)
theorem ExE.delD {value i:Expr}{d:Addr}{k1:Bool}(p1 pos:Pos)(hv:EvE w A h0 env os k1 σ value (.obj d))
  (hi:EvH w A h0 env os σ i (aR5 P λt σ1=>∃ es ep j,t= .int j/\σ1.hp d=some (.dct es ep)/\(dAt es j).isSome=true/\es.length<=sizeLine/\∀ ep',ExE w A h0 env os (σ1.put d (.dct (bJ3 es j) ep')) rest P))
  (hd1:deleteEach [.Subscript value i p1] env=(do delete (.Subscript value i p1) env; deleteEach [] env)):ExE w A h0 env os σ (.Delete [.Subscript value i p1] pos::rest) P:=λB O X m cm s Q E F R q=>by
 refine wpAny_execs_cons (wpAny_Delete (wpAny_deleteEach_cons (wpAny_delete_Subscript ?_)))
 refine hv B (O++X) m cm s _ E F (R.rel X) λov s1 B1 l1 F1 V1=> ?_
 rw [V1.obj]
 refine hi B1 O X m cm s1 _ E F1 (R.mono l1) ⟨λt σ1 v s2 B2 O2 m2 cm2 pr V2 l2 F2 R2=> ?_,λcls args σ' e s' B' Z O' m' cm' p r l F' R'=>q.out cls args σ' e s' B' Z O' m' cm' p r (l1.trans l) F' R'⟩
 refine bG6 pr λes ep j z1z hd hs hz h=> ?_
 try clear pr
 subst z1z
 refine aA3 (VR.int (k:=true) (O:=[]) V2) λtk z1z=> ?_
 subst z1z
 refine aM6 (R2.at hd) λOa od Ob' z1z z2z up=> ?_
 subst z1z
 refine aC8 z2z λkvs h1 h2 h3=> ?_
 try clear z2z
 have ho:=F2.opn (d,od) (List.mem_append.mpr (.inl (List.mem_append.mpr (.inr (.head _)))))
 have hlen:kvs.length=es.length:=by have:=congrArg List.length h2; simpa using this
 have D:s2.heap.DictOf (intKind pw w) d kvs:=Heap.dictOf_iff.mpr ⟨od,ho,h1.to w⟩
 have hsome:(valueAt kvs j).isSome=true:=by
  refine aA3 (Option.isSome_iff_exists.mp hs) λt ht=> ?_
  refine aA1 (aR3 h2 h3 ht) λv hv' _=> ?_
  rw [hv']; rfl
 unfold delItem
 refine wpAny_holding ?_
 refine wpAny_bind (wpAny_sequenceKey D.typeIs (by decide) ?_)
 refine wpAny_bind (wpAny_callSpecial?_slot (name:=Str.ofString "__delitem__") D.typeIs PySem.F.slot_dict_delitem
  (call_meetsIn PySem.F.slot_dict_delitem D.typeIs PySem.F.entry_dict_delitem (PySem.F.args_dict_delitem_2 _ _) (meets_dict_delitem_pairs (intKind pw w) d (intKind_is pw w j tk)) ⟨kvs,D,by room,hsome,λh' hmm hS=> ?_⟩))
 refine aA1 (Heap.dictOf_iff.mp hmm) λod' ho' hi'=> ?_
 have F3:Fm w h0 env B2 (Oa++(d,od)::(Ob'++X)) m2 cm2 os s2:=by simpa using F2
 have F4:=F3.turn ho' hS (s2.toks+1)
 refine aB (bN5 (k:=j) h2 h3) λc1 c2=> ?_
 refine aA3 (isD.of hi') λep' hi''=> ?_
 refine wpAny_pure (wpAny_deleteEach_nil ?_)
 exact h ep' B2 _ X m2 cm2 _ Q E (by simpa using F4) (up od' _ ⟨_,hi'',c1,c2⟩) (q.mono (l1.trans l2))
end
section
variable {w:World}{A:Around}{h0:aA8}{env:Env}{os:OsState}{σ:Sg}{B B':PM}{O1 Y X V:OL}{m cm:NM}{s s':Shared}
theorem Fm.calledK (F:Fm w h0 env B ((O1++Y)++X) m cm os s)(G:bZ2 os B Y s B' V s'):Fm w h0 env B' (V++(O1++X)) m cm os s':=by
 have inY:∀ {p},p∈Y->p∈(O1++Y)++X:=λh=>List.mem_append.mpr (.inl (List.mem_append.mpr (.inr h)))
 have inO:∀ {p},p∈O1++X->p∈(O1++Y)++X:=λh=>by
  rcases List.mem_append.mp h with h | h
  ·exact List.mem_append.mpr (.inl (List.mem_append.mpr (.inl h)))
  ·exact List.mem_append.mpr (.inr h)
 have nod:=F.nod
 have apart:∀ p∈O1++X,∀ q∈Y,q.1≠p.1:=λp hp q hq z=>by
  rw [List.map_append,List.map_append,List.nodup_append,List.nodup_append] at nod
  rcases List.mem_append.mp hp with hp | hp
  ·exact nod.1.2.2 p.1 (List.mem_map_of_mem hp) q.1 (List.mem_map_of_mem hq) z.symm
  ·exact nod.2.2 q.1 (List.mem_append.mpr (.inr (List.mem_map_of_mem hq))) p.1 (List.mem_map_of_mem hp) z
 have lY:∀ q∈Y,q.1≠env.locals:=λq hq=>(F.offO q (inY hq)).2.2.1
 have ke:∀ a o,s.heap.get? a=some o->(∀ q∈Y,q.1≠a)->s'.heap.get? a=some o:=λa o ha h2=>G.keep a o ha h2
 have offB:∀ a,B a=none->(∃ o,s.heap.get? a=some o)->(∀ q∈Y,q.1≠a)->B' a=none:=λa hB ⟨o,ho⟩ h2=>by
  cases e:B' a with
  | none=>rfl
  | some x=>
   rcases G.new a hB (by rw [e]; intro z; cases z) with ⟨q,hq,z⟩ | z
   ·exact absurd z (h2 q hq)
   ·rw [ho] at z; cases z
 have offP:∀ p∈V,B' p.1=none/\h0.h p.1=none/\p.1≠env.locals/\(∀ x c,env.cells.lookup x=some c->c≠p.1)/\∀ q∈O1++X,q.1≠p.1:=λp hp=>by
  refine ⟨G.y.off p hp, ?_⟩
  rcases G.ynew p hp with ⟨q,hq,z⟩ | z
  ·refine aO7 (F.offO q (inY hq)) λa1 a2 a3 a4=> ?_
   rw [<- z]
   exact ⟨a2,a3,a4,λr hr y=>apart r hr q hq y.symm⟩
  ·refine ⟨?_, ?_, ?_, ?_⟩
   ·cases y:h0.h p.1 with
    | none=>rfl
    | some o=>rw [F.old _ _ y] at z; cases z
   ·intro y
    refine aA3 (aK3 F.ns) λo ho=> ?_
    rw [<- y,z] at ho; cases ho
   ·rintro x c hc rfl
    refine aA1 (F.cel x _ hc) λo ho _=> ?_
    rw [ho] at z; cases z
   ·rintro r hr y
    rw [<- y,F.opn r (inO hr)] at z; cases z
 refine ⟨aC F.ns λo e=>ke _ o e lY,λx c e=> ?_,λa o e=> ?_,G.sub,λp hp=> ?_,⟨?_,F.offL.2⟩,λx c e=>⟨?_,(F.offC x c e).2⟩,F.cinj,λp hp=> ?_, ?_,λa o e=>G.le _ _ (F.gl a o e),G.gens,G.oss,λa o e=> ?_⟩
 ·refine aA1 (F.cel x c e) λo ho hd=> ?_
  exact ⟨o,ke c o ho λq hq z=>(F.offO q (inY hq)).2.2.2 x c e z.symm,hd⟩
 ·refine ke a o (F.old a o e) λq hq z=> ?_
  rw [<- z,(F.offO q (inY hq)).2.1] at e; cases e
 ·rcases List.mem_append.mp hp with hp | hp
  ·exact G.y.at_ p hp
  ·exact ke p.1 p.2 (F.opn p (inO hp)) (apart p hp)
 ·refine aA3 (aK3 F.ns) λo ho=> ?_
  exact offB _ F.offL.1 ⟨o,ho⟩ lY
 ·refine aA1 (F.cel x c e) λo ho _=> ?_
  exact offB c (F.offC x c e).1 ⟨o,ho⟩ λq hq z=>(F.offO q (inY hq)).2.2.2 x c e z.symm
 ·rcases List.mem_append.mp hp with hp | hp
  ·refine aL1 (offP p hp) λa1 a2 a3 a4 _=> ?_
   exact ⟨a1,a2,a3,a4⟩
  ·refine aB (F.offO p (inO hp)) λa1 a2=> ?_
   exact ⟨offB p.1 a1 ⟨_,F.opn p (inO hp)⟩ (apart p hp),a2⟩
 ·rw [List.map_append,List.nodup_append]
  refine ⟨G.y.nod, ?_,λa ha b hb z=> ?_⟩
  ·rw [List.map_append,List.map_append,List.nodup_append,List.nodup_append] at nod
   rw [List.map_append,List.nodup_append]
   exact ⟨nod.1.1,nod.2.1,λa ha b hb=>nod.2.2 a (List.mem_append.mpr (.inl ha)) b hb⟩
  ·refine aA1 (List.mem_map.mp ha) λp hp z1z=> ?_
   subst z1z
   refine aA1 (List.mem_map.mp hb) λq hq z1z=> ?_
   subst z1z
   exact (offP p hp).2.2.2.2 q hq z.symm
 ·cases y:B a with
  | some x=>exact F.nw a x y |>.imp (λz=>by rw [z]; have:=G.le _ _ y; rw [e] at this; exact this.symm) id
  | none=>
   refine .inr ?_
   rcases G.new a y (by rw [e]; intro z; cases z) with ⟨q,hq,z⟩ | z
   ·rw [<- z]; exact (F.offO q (inY hq)).2.1
   ·cases z':h0.h a with
    | none=>rfl
    | some x=>rw [F.old _ _ z'] at z; cases z
theorem dK3 {n:Nat}{a:Addr}{as:List T}{vs:List Value}{P:Rs->Sg->Prop}{O:OL}{Q:VP}{E:VP}(F:Fm w h0 env B (O++X) m cm os s)(R:Rl env σ B O m cm)(Fa:Frm A σ.hp)(RA:aD6 n A)(V:aA6 B vs as)
  (hf:FnH w os n a as σ.hp (λr hp'=>aA4 σ.hp hp'->P r ⟨σ.fz,σ.ow,hp'⟩)) (q:aX w h0 env os P B X Q E):wpAny (model pw w) A (call (.ref a) vs) Q E s:=by
 refine aB0 R.ow λO1 Y z1z ro hh=> ?_
 subst z1z
 have inY:∀ {p},p∈Y->p∈(O1++Y)++X:=λh=>List.mem_append.mpr (.inl (List.mem_append.mpr (.inr h)))
 have nod:=F.nod
 have nodY:(Y.map (·.1)).Nodup:=by
  rw [List.map_append,List.map_append,List.nodup_append,List.nodup_append] at nod
  exact nod.1.2.1
 have hY:Yh B Y s:=⟨λp hp=>F.opn p (inY hp),λp hp=>(F.offO p (inY hp)).1,nodY⟩
 refine wpAny_call (hf A B _ s vs _ RA Fa F.sub F.gl hY hh F.gens F.oss V (λt v s' B' Y' hp' p k G hps Vt=> ?_) λcls args e s' B' Y' Z hp' p k G hps fly=> ?_)
 ·have F':=F.calledK G
  refine q.go t _ v s' B' (O1++Y') m cm (p k) Vt G.le (F'.perm ?_) ⟨fzm R.fz G.le,O1,_,rfl,ro.mono G.le,hps⟩
  rw [<- List.append_assoc]
  exact (List.perm_append_comm).append_right _
 ·have F':=F.calledK G
  refine q.out cls args _ e s' B' Z (O1++Y') m cm (p k) (fly _) G.le (F'.perm ?_) ⟨fzm R.fz G.le,O1,_,rfl,ro.mono G.le,hps⟩
  rw [List.append_assoc]
  refine List.Perm.append_left _ ?_
  rw [<- List.append_assoc]
  exact (List.perm_append_comm).append_right _
end
structure Cls (env:Env)(cl:List (Str×Addr))(PC:List Addr):Prop where
 sub:∀ x c,cl.lookup x=some c->env.cells.lookup x=some c
 all:∀ x c,env.cells.lookup x=some c->cl.lookup x=some c\/c∈PC
 pc:∀ c∈PC,∃ x,env.cells.lookup x=some c/\cl.lookup x=none
 nod:PC.Nodup
section
variable {w:World}{A:Around}{h0:aA8}{env:Env}{os:OsState}{σ:Sg}{B B':PM}{O O1 Y X V:OL}{m cm:NM}{s s':Shared}{scope:Scope}{cl:List (Str×Addr)}{PC:List Addr}
theorem aP7 (F:Fm w h0 env B O m cm os s):∀ {PC:List Addr},(∀ c∈PC,∃ x,env.cells.lookup x=some c)->∃ PO:List (Addr×Obj),PO.map (·.1)=PC/\∀ p∈PO,s.heap.get? p.1=some p.2
 | [],_=>⟨[],rfl,λp hp=>by cases hp⟩
 | c::PC,h=>by
  refine aA3 (h c (.head _)) λx hx=> ?_
  refine aA1 (F.cel x c hx) λo ho _=> ?_
  refine aA1 (aP7 F (PC:=PC) λc hc=>h c (.tail _ hc)) λPO e hp=> ?_
  refine ⟨(c,o)::PO,by rw [List.map_cons,e],λp hm=> ?_⟩
  rcases List.mem_cons.mp hm with rfl | hm
  ·exact ho
  ·exact hp p hm
theorem aP8 {C:Addr}{oL:Obj}{h1:Heap}{PO:OL}{tk:Nat}(F:Fm w h0 env B O m cm os s)(K:Cls env cl PC)(hPO:PO.map (·.1)=PC)(hPOa:∀ p∈PO,s.heap.get? p.1=some p.2)(hL:s.heap.get? env.locals=some oL)(hC:s.heap.get? C=none)(hcf:∀ x c,env.cells.lookup x=some c->h0.h c=none)
  (hns:h1.Ns C (λ_=>none)) (ke:∀ a o,s.heap.get? a=some o->h1.get? a=some o):Fm w h0 (compEnvC scope cl C env) B ((env.locals,oL)::(PO++O)) (λ_=>none) (λx=>if (cl.lookup x).isSome then cm x else none) os { s with heap:=h1,toks:=tk }:=by
 obtain ⟨c1,c2,c3,c4,c5⟩:B C=none/\h0.h C=none/\C≠env.locals/\(∀ x c,env.cells.lookup x=some c->c≠C)/\∀ p∈O,p.1≠C:=by
  refine ⟨?_, ?_, ?_, ?_, ?_⟩
  ·cases z:B C with
   | none=>rfl
   | some o=>rw [F.sub _ _ z] at hC; cases hC
  ·cases z:h0.h C with
   | none=>rfl
   | some o=>rw [F.old _ _ z] at hC; cases hC
  ·rintro rfl; rw [hL] at hC; cases hC
  ·rintro x c hc rfl
   refine aA1 (F.cel x _ hc) λo ho _=> ?_
   rw [ho] at hC; cases hC
  ·rintro p hp rfl
   rw [F.opn p hp] at hC; cases hC
 have pcOf:∀ p∈PO,∃ x,env.cells.lookup x=some p.1/\cl.lookup x=none:=λp hp=>K.pc p.1 (hPO ▸ List.mem_map_of_mem hp)
 refine ⟨hns,λx c e=> ?_,λa o e=>ke _ _ (F.old a o e),λa o e=>ke _ _ (F.sub a o e),λp hp=> ?_,⟨c1,c2⟩,λx c e=>⟨(F.offC x c (K.sub x c e)).1,λz=>c4 x c (K.sub x c e) z⟩,λx y c e1 e2=>F.cinj x y c (K.sub x c e1) (K.sub y c e2),λp hp=> ?_, ?_,F.gl,F.gens,F.oss,F.nw⟩
 ·have e:cl.lookup x=some c:=e
  refine aA1 (F.cel x c (K.sub x c e)) λo ho hd=> ?_
  refine ⟨o,ke _ _ ho, ?_⟩
  have z:(if (cl.lookup x).isSome then cm x else none)=cm x:=if_pos (by rw [e]; rfl)
  show o.data= .cell (if (cl.lookup x).isSome then cm x else none)
  rw [z]; exact hd
 ·rcases List.mem_cons.mp hp with rfl | hp
  ·exact ke _ _ hL
  ·rcases List.mem_append.mp hp with hp | hp
   ·exact ke _ _ (hPOa p hp)
   ·exact ke _ _ (F.opn p hp)
 ·rcases List.mem_cons.mp hp with rfl | hp
  ·exact ⟨F.offL.1,F.offL.2,c3.symm,λx c e z=>(F.offC x c (K.sub x c e)).2 z⟩
  ·rcases List.mem_append.mp hp with hp | hp
   ·refine aA1 (pcOf p hp) λx hx hx2=> ?_
    refine ⟨(F.offC x _ hx).1, ?_,c4 x _ hx,λy c e z=> ?_⟩
    ·exact hcf x _ hx
    ·have e:cl.lookup y=some c:=e
     have:=F.cinj y x _ (z ▸ K.sub y c e) hx
     rw [this,hx2] at e; cases e
   ·refine aO7 (F.offO p hp) λa1 a2 a3 a4=> ?_
    exact ⟨a1,a2,c5 p hp,λx c e=>a4 x c (K.sub x c e)⟩
 ·rw [List.map_cons,List.map_append,List.nodup_cons,List.nodup_append]
  refine ⟨λh=> ?_,hPO ▸ K.nod,F.nod,λa ha b hb z=> ?_⟩
  ·rcases List.mem_append.mp h with h | h
   ·refine aA1 (List.mem_map.mp h) λp hp z=> ?_
    refine aA1 (pcOf p hp) λx hx _=> ?_
    exact (F.offC x _ hx).2 z
   ·refine aA1 (List.mem_map.mp h) λp hp z=> ?_
    exact (F.offO p hp).2.2.1 z
  ·refine aA1 (List.mem_map.mp ha) λp hp z1z=> ?_
   subst z1z
   refine aA1 (List.mem_map.mp hb) λq hq z1z=> ?_
   subst z1z
   refine aA1 (pcOf p hp) λx hx _=> ?_
   exact (F.offO q hq).2.2.2 x _ hx z
end
section
variable {w:World}{A:Around}{h0:aA8}{env:Env}{os:OsState}{σ:Sg}
noncomputable def aF6 (w:World)(A:Around)(h0:aA8)(env:Env)(os:OsState)(target:Expr)(K:(Str->Option Value)->Prop)(σ:Sg)(t:T)(σ':Sg):Prop:=
 ∀ (B:PM) (O X:OL) (m cm:NM) (s:Shared) (v:Value) (Q:Unit->Shared->Prop) (E:VP),K cm->Fm w h0 env B (O++X) m cm os s->Rl env σ B O m cm->Val B v t->
  (∀ s' m' cm',K cm'->Fm w h0 env B (O++X) m' cm' os s'->Rl env σ' B O m' cm'->Q () s')->wpAny (model pw w) A (assign target env v) Q E s
theorem aF6.name {x:Str}{t:T}{K:(Str->Option Value)->Prop}(p:Pos)(W:Own env)(hk:env.kindOf x=some .local)(hx:∀ p∈σ.ow,p.1≠x):aF6 w A h0 env os (.Name x p) K σ t (σ.set x t):=λB O X m cm s v Q E k F R V q=>
 wpAny_assign_Name (wpAny_storeName_local hk F.ns (λh' hn hs=>q _ _ cm k (F.setLocal hn hs _) (R.set hk hx V)) (by rw [W.kind]; rfl))
theorem aF6.cell {x:Str}{c:Addr}{t:T}{K:(Str->Option Value)->Prop}(p:Pos)(W:Own env)(hk:env.kindOf x=some .cell)(hc:env.cells.lookup x=some c)(hf:h0.h c=none)(hx:∀ p∈σ.ow,p.1≠x)(hK:∀ cm v,K cm->K (λy=>if y=x then some v else cm y)):aF6 w A h0 env os (.Name x p) K σ t (σ.set x t):=λB O X m cm s v Q E k F R V q=>
 wpAny_assign_Name (wpAny_storeName_cell W.kind hk hc (F.cel x c hc) (λh' hn hs=>q _ m _ (hK _ _ k) (F.setCell hc hf hn hs s.toks) (R.setC hk hx V)))
noncomputable def aP9 (w:World)(A:Around)(h0:aA8)(env:Env)(os:OsState)(σ:Sg)(ifs:List Expr)(b:Bool):Prop:=
 ∀ (B:PM) (O:OL) (m cm:NM) (s:Shared) (Q:Bool->Shared->Prop) (E:VP),Fm w h0 env B O m cm os s->Rel env σ B O m cm->
  (∀ s' B',B.le B'->Fm w h0 env B' O m cm os s'->Q b s')->wpAny (model pw w) A (forIn ifs true λc r=>if r=true then do let ok <-isTrue c env (eval c env); pure (ForInStep.yield ok) else pure (ForInStep.yield r)) Q E s
theorem aP9.nil:aP9 w A h0 env os σ [] true:=λB O m cm s Q E F R q=>wpAny_tests_nil (q s B (.refl B) F)
theorem aP9.one {c:Expr}{b:Bool}(h:TsE w A h0 env os σ c b):aP9 w A h0 env os σ [c] b:=λB O m cm s Q E F R q=>wpAny_tests_one (h B O m cm s Q E F R q)
theorem aA6.snoc {B:PM}{v:Value}{t:T}{vs:List Value}{ts:List T}(h:aA6 B vs ts)(x:Val B v t):aA6 B (vs++[v]) (ts++[t]):=h.append (.cons x .nil)
theorem aT6 {B:PM}{Oi X:OL}{m cm:NM}{s:Shared}{it D:Addr}{o oD:Obj}{vs:List Value}{us:List T}{y:Value}{t:T}{N:Nat}{Q:VP}{E:VP}(F:Fm w h0 env B (Oi++(it,o)::(D,oD)::X) m cm os s)(iD:isO oD vs)(V:aA6 B vs us)(Vy:Val B y t)(hl:us.length<=N)(hN:N<=sizeLine)
  (q:∀ s' oD',isO oD' (vs++[y])->aA6 B (vs++[y]) (us++[t])->Fm w h0 env B (Oi++(it,o)::(D,oD')::X) m cm os s'->Q .none s'):wpAny (model pw w) A (call (.builtin "list.append") [.ref D,y]) Q E s:=by
 refine aA3 iD λn z1z=> ?_
 try clear iD
 subst z1z
 refine wpAny_list_append_plain (items:=vs.toArray) ⟨n,F.opn (D,_) (List.mem_append.mpr (.inr (.tail _ (.head _))))⟩ (hsz:=by rw [List.size_toArray,V.length]; exact Nat.le_trans hl hN) λh' hl hs=> ?_
 refine aA3 hl λn' hn'=> ?_
 try clear hl
 have F6':Fm w h0 env B ((Oi++[(it,o)])++(D,{ cls:= .type "list",data:= .seq vs.toArray n })::X) m cm os s:=by rw [List.append_assoc]; exact F
 have F7:=F6'.turn hn' hs s.toks
 rw [List.append_assoc] at F7
 exact q _ _ ⟨n',by simp⟩ (V.snoc Vy) F7
theorem bC6 {elt target iter:Expr}{ifs:List Expr}{scope:Scope}{pos:Pos}{it D:Addr}{ts:List T}{p:T->Bool}{f:T->T}{C:Sg->Prop}{I:Nat->Obj->Prop}{K:(Str->Option Value)->Prop}{B1:PM}{Oi X:OL}{m cm:NM}{s:Shared}{o oD:Obj}{RR:Result->Shared->Prop}
  (S:bJ w A h0 env os B1 ts C I) (hC:C σ) (hlo:∀ v,letOwnedTupleGo target (.ref it) v=pure ()) (hsz:ts.length<=sizeLine)
  (turn:∀ t∈ts,∃ σ2,aF6 w A h0 env os target K σ t σ2/\aP9 w A h0 env os σ2 ifs (p t)/\(p t=true->EvE w A h0 env os true σ2 elt (f t)))
  (R0:∀ B' m' cm',B1.le B'->K cm'->Rl env σ B' Oi m' cm') (F:Fm w h0 env B1 (Oi++(it,o)::(D,oD)::X) m cm os s) (K0:K cm) (I0:I 0 o) (hD:isO oD [])
  (fin:∀ B' oD' vs m' cm' s',B1.le B'->K cm'->isO oD' vs->aA6 B' vs ((ts.filter p).map f)->Fm w h0 env B' (Oi++(D,oD')::X) m' cm' os s'->RR (.ok .next) s'):
  codeAny (model pw w) A (.compLoop (.ListComp elt [⟨target,iter,ifs,0⟩] scope pos) 0 (.ref it) (.ref D) env) RR s:=by
 let Iv:Nat->Shared->Prop:=λn s=>∃ i B' m' cm' o' oD' vs,n=ts.length - i/\i<=ts.length/\B1.le B'/\K cm'/\Fm w h0 env B' (Oi++(it,o')::(D,oD')::X) m' cm' os s/\I i o'/\isO oD' vs/\aA6 B' vs (((ts.take i).filter p).map f)
 refine codeAny_compLoop_tests Iv (λn s hI=> ?_) (ts.length - 0) ⟨0,B1,m,cm,o,oD,[],rfl,Nat.zero_le _, .refl _,K0,F,I0,hD, .nil⟩ hlo
 refine cU1 hI λi B2 m2 cm2 o2 oD2 vs2 z1z hi l2 K2 F2 I2 iD V2=> ?_
 try clear hI
 subst z1z
 cases ht:ts[i]? with
 | none=>
  have hlen:i=ts.length:=by rw [List.getElem?_eq_none_iff] at ht; room
  refine S.stop B2 Oi ((D,oD2)::X) m2 cm2 s it o2 i σ _ _ l2 hC (R0 _ _ _ l2 K2) F2 I2 ht λs' F'=> ?_
  refine fin B2 oD2 vs2 m2 cm2 s' l2 K2 iD ?_ F'
  rw [hlen,List.take_length] at V2
  exact V2
 | some t=>
  have hlt:i<ts.length:=by
   rw [List.getElem?_eq_some_iff] at ht; exact ht.1
  have hmem:t∈ts:=List.mem_of_getElem? ht
  refine aC8 (turn t hmem) λσ3 hb hts hel=> ?_
  refine S.next B2 Oi ((D,oD2)::X) m2 cm2 s it o2 i t σ _ _ l2 hC (R0 _ _ _ l2 K2) F2 I2 ht λv s' o3 I3 F3 V3=> ?_
  refine hb B2 Oi ((it,o3)::(D,oD2)::X) m2 cm2 s' v _ _ K2 F3 (R0 _ _ _ l2 K2) V3 λs4 m4 cm4 K4 F4 R4=> ?_
  refine hts B2 _ m4 cm4 s4 _ _ F4 (R4.rel _) λs5 B5 l5 F5=> ?_
  have tk:((ts.take (i+1)).filter p).map f=((ts.take i).filter p).map f++(if p t then [f t] else []):=by
   rw [take_succ_filter p ts i t ht,List.map_append]
   cases p t<;>rfl
  cases hp:p t with
  | false=>
   rw [if_neg (by simp)]
   refine ⟨ts.length - (i+1),by room,i+1,B5,m4,cm4,o3,oD2,vs2,rfl,hlt,l2.trans l5,K4,F5,I3,iD, ?_⟩
   rw [tk,hp,if_neg (by simp),List.append_nil]
   exact V2.mono l5
  | true=>
   rw [if_pos rfl]
   refine hel hp B5 _ m4 cm4 s5 _ _ F5 ((R4.mono l5).rel _) λy s6 B6 l6 F6 Vy=> ?_
   refine aT6 F6 iD (V2.mono (l5.trans l6)) Vy (N:=ts.length) ?_ hsz λs7 oD7 iD7 V7 F7=> ?_
   ·rw [List.length_map]
    refine Nat.le_trans (List.length_filter_le _ _) ?_
    rw [List.length_take]; room
   ·refine ⟨ts.length - (i+1),by room,i+1,B6,m4,cm4,o3,_,vs2++[y],rfl,hlt,l2.trans (l5.trans l6),K4,F7,I3,iD7, ?_⟩
    rw [tk,hp,if_pos rfl]
    exact V7
end
section
variable {w:World}{A:Around}{h0:aA8}{env env':Env}{os:OsState}{σ:Sg}{B B':PM}{O O':OL}{m cm m' cm':NM}{s s':Shared}{scope:Scope}{cl:List (Str×Addr)}{PC:List Addr}
theorem aY1 {oL:Obj}{PO:OL}(F:Fm w h0 env B O m cm os s)(K:Cls env cl PC)(hPO:PO.map (·.1)=PC)(hPOa:∀ p∈PO,s.heap.get? p.1=some p.2)(hL:s.heap.get? env.locals=some oL)
  (hcl:∀ x c,cl.lookup x=some c->env'.cells.lookup x=some c) (G:Fm w h0 env' B' ((env.locals,oL)::(PO++O')) m' cm' os s') (hcm:∀ x c,cl.lookup x=some c->cm' x=cm x):∃ oC,s'.heap.get? env'.locals=some oC/\Fm w h0 env B' ((env'.locals,oC)::O') m cm os s':=by
 refine aA3 (aK3 G.ns) λoC hC=> ?_
 have pcOf:∀ c∈PC,∃ o,(c,o)∈PO:=λc hc=>by
  rw [<- hPO] at hc
  refine aA1 (List.mem_map.mp hc) λp hp z1z=> ?_
  subst z1z
  exact ⟨p.2,hp⟩
 have inP:∀ {p},p∈PO->p∈(env.locals,oL)::(PO++O'):=λh=> .tail _ (List.mem_append.mpr (.inl h))
 have inO:∀ {p},p∈O'->p∈(env.locals,oL)::(PO++O'):=λh=> .tail _ (List.mem_append.mpr (.inr h))
 have nod:=G.nod
 rw [List.map_cons,List.map_append,List.nodup_cons,List.nodup_append] at nod
 refine ⟨oC,hC, ?_,λx c e=> ?_,G.old,G.sub,λp hp=> ?_,⟨(G.offO _ (.head _)).1,F.offL.2⟩,λx c e=>⟨?_,(F.offC x c e).2⟩,F.cinj,λp hp=> ?_, ?_,G.gl,G.gens,G.oss,G.nw⟩
 ·refine aC F.ns λo e=> ?_
  rw [hL] at e; cases e
  exact G.opn _ (.head _)
 ·rcases K.all x c e with h | h
  ·have:=G.cel x c (hcl x c h)
   rw [hcm x c h] at this
   exact this
  ·refine aA3 (pcOf c h) λo ho=> ?_
   refine aA1 (F.cel x c e) λo2 h2 hd=> ?_
   have z:o2=o:=Option.some.inj (h2.symm.trans (hPOa _ ho))
   subst z
   exact ⟨o2,G.opn _ (inP ho),hd⟩
 ·rcases List.mem_cons.mp hp with rfl | hp
  ·exact hC
  ·exact G.opn p (inO hp)
 ·rcases K.all x c e with h | h
  ·exact (G.offC x c (hcl x c h)).1
  ·refine aA3 (pcOf c h) λo ho=> ?_
   exact (G.offO _ (inP ho)).1
 ·rcases List.mem_cons.mp hp with rfl | hp
  ·refine ⟨G.offL.1,G.offL.2,(G.offO _ (.head _)).2.2.1.symm,λx c e=> ?_⟩
   rcases K.all x c e with h | h
   ·exact (G.offC x c (hcl x c h)).2
   ·refine aA3 (pcOf c h) λo ho=> ?_
    exact (G.offO _ (inP ho)).2.2.1
  ·refine aO7 (G.offO p (inO hp)) λa1 a2 a3 a4=> ?_
   refine ⟨a1,a2,λz=> ?_,λx c e=> ?_⟩
   ·exact nod.1 (z ▸ List.mem_append.mpr (.inr (List.mem_map_of_mem (f:=(·.1)) hp)))
   ·rcases K.all x c e with h | h
    ·exact a4 x c (hcl x c h)
    ·refine aA3 (pcOf c h) λo ho=> ?_
     exact nod.2.2.2 c (List.mem_map_of_mem (f:=(·.1)) ho) p.1 (List.mem_map_of_mem (f:=(·.1)) hp)
 ·rw [List.map_cons,List.nodup_cons]
  refine ⟨λh=> ?_,nod.2.2.1⟩
  refine aA1 (List.mem_map.mp h) λp hp z=> ?_
  exact (G.offO p (inO hp)).2.2.1 z
noncomputable def Sg.inn (σ:Sg)(L:List Str):Sg:=⟨λx=>if L.contains x then σ.fz x else none,σ.ow.filter (λp=>L.contains p.1),σ.hp⟩
theorem aJ7.pick {L:List Str}(h:∀ x∈L,aB7 env' m' cm' x=aB7 env m cm x){ow:List (Str×List T)}{O:OL}(hO:aJ7 env B m cm ow O):∃ O2 O3,List.Perm O (O2++O3)/\∀ B',B.le B'->aJ7 env' B' m' cm' (ow.filter λp=>L.contains p.1) O2:=by
 induction hO with
 | nil=>exact ⟨[],[], .refl _,λ_ _=> .nil⟩
 | @cons x ts a o vs l O hl i v r ih=>
  refine bD6 ih λO2 O3 pm hO=> ?_
  try clear ih
  by_cases q:x∈L
  ·refine ⟨(a,o)::O2,O3,pm.cons _,λB' l=> ?_⟩
   rw [List.filter_cons,if_pos (by simpa using q)]
   exact .cons ((h x q).trans hl) i (v.mono l) (hO B' l)
  ·refine ⟨O2,(a,o)::O3,(pm.cons _).trans (List.perm_middle.symm),λB' l=> ?_⟩
   rw [List.filter_cons,if_neg (by simpa using q)]
   exact hO B' l
theorem Rel.inn {L:List Str}(R:Rel env σ B O m cm)(h:∀ x∈L,∀ m' cm',(∀ y∈L,cm' y=cm y)->aB7 env' m' cm' x=aB7 env m cm x):
  ∃ Oi O3,List.Perm O (Oi++O3)/\∀ B' m' cm',B.le B'->(∀ y∈L,cm' y=cm y)->Rl env' (σ.inn L) B' Oi m' cm':=by
 refine aB0 R.ow λO1 X z1z ow hh=> ?_
 subst z1z
 refine bD6 (aJ7.pick (env':=env') (m':=m) (cm':=cm) (L:=L) (λx hx=>h x hx m cm λ_ _=>rfl) ow) λO2 O3 pm hO=> ?_
 refine ⟨O2++X,O3, ?_,λB' m' cm' l hcm=>⟨λx t e=> ?_,O2,X,rfl, ?_,hh.mono l⟩⟩
 ·refine (pm.append_right X).trans ?_
  rw [List.append_assoc,List.append_assoc]
  exact List.Perm.append_left _ List.perm_append_comm
 ·by_cases q:x∈L
  ·have e:(if L.contains x then σ.fz x else none)=some t:=e
   rw [if_pos (by simpa using q)] at e
   refine aA1 (R.fz x t e) λv hv V=> ?_
   exact ⟨v,(h x q m' cm' hcm).trans hv,V.mono l⟩
  ·have e:(if L.contains x then σ.fz x else none)=some t:=e
   rw [if_neg (by simpa using q)] at e
   cases e
 ·refine (hO B' l).names λp hp=> ?_
  have hp:p.1∈L:=by simpa using (List.mem_filter.mp hp).2
  rw [h p.1 hp m' cm' hcm,h p.1 hp m cm λ_ _=>rfl]
end
theorem bQ5 {α:Type}{a b c:α}{PO O Oi O3:List α}(pm:List.Perm O (Oi++O3)):List.Perm (c::(PO++(b::a::O))) (Oi++a::b::(c::(PO++O3))):=by
 haveI:DecidableEq α:=λ_ _=>Classical.propDecidable _
 refine List.perm_iff_count.mpr λx=> ?_
 have:=pm.count_eq x
 simp only [List.count_cons,List.count_append] at this ⊢
 room
theorem bJ4 {α:Type}{b c:α}{PO O Oi O3:List α}(pm:List.Perm O (Oi++O3)):List.Perm (Oi++b::(c::(PO++O3))) (c::(PO++(b::O))):=by
 haveI:DecidableEq α:=λ_ _=>Classical.propDecidable _
 refine List.perm_iff_count.mpr λx=> ?_
 have:=pm.count_eq x
 simp only [List.count_cons,List.count_append] at this ⊢
 room
section
variable {w:World}{A:Around}{h0:aA8}{env:Env}{os:OsState}{σ:Sg}{k:Bool}{scope:Scope}{cl:List (Str×Addr)}{PC:List Addr}{L:List Str}
noncomputable def ItC (w:World)(A:Around)(h0:aA8)(env:Env)(os:OsState)(σ:Sg)(iter:Expr)(ts:List T)(C:Sg->Prop):Prop:=
 ∀ (B:PM) (O:OL) (m cm:NM) (s:Shared) (Q:VP) (E:VP),Fm w h0 env B O m cm os s->Rel env σ B O m cm->
  (∀ it o s' B' I,B.le B'->Fm w h0 env B' ((it,o)::O) m cm os s'->(∀ env',bJ w A h0 env' os B' ts C I)->I 0 o->(∀ (s2:Shared) (Q2:VP) (E2:VP),s2.heap.get? it=some o->Q2 (.ref it) s2->wpAny (model pw w) A (pyIter (.ref it)) Q2 E2 s2)->Q (.ref it) s')->
  wpAny (model pw w) A (eval iter env) (λx s1=>wpAny (model pw w) A (pyIter x) Q E s1) E s
theorem Src.toG {B:PM}{ts:List T}{I:Nat->Obj->Prop}(S:Src w A h0 env os B ts I):bJ w A h0 env os B ts (λ_=>True) I:=
 ⟨λB2 O X m cm s it o i t σ Q E l C R F I ht q=>S.next B2 O X m cm s it o i t Q E l F I ht q,λB2 O X m cm s it o i σ Q E l C R F I ht q=>S.stop B2 O X m cm s it o i Q E l F I ht q⟩
theorem ItC.list {iter:Expr}{ts:List T}(hA:A.handled=none)(he:EvE w A h0 env os true σ iter (.list ts)):ItC w A h0 env os σ iter ts (λ_=>True):=λB O m cm s Q E F R q=>
 he B O m cm s _ E F R λv s1 B1 l1 F1 V=>by
  refine aB0 (VR.list F1 V) λa vs z1z Lt Vs=> ?_
  subst z1z
  have hB:∃ o,B1 a=some o/\isL o vs:=by
   cases V with
   | list h i d vs'=>
    refine aC8 Lt λo ho hc h9=>aA3 h9 λn hd=> ?_
    try clear Lt
    have e:=F1.sub _ _ h
    rw [ho] at e; cases e
    exact ⟨_,h,hc,n,hd⟩
  refine aA1 hB λol hBl il=> ?_
  try clear hB
  refine wpAny_pyIter_list Lt ?_
  refine q _ _ _ B1 (λi o=>o.cls= .type "list_iterator" /\o.data= .fields #[.ref a, .int i 0]) l1 (F1.pushO rfl s1.toks) (λenv'=>Src.toG ?_) ⟨rfl,rfl⟩ (λs2 Q2 E2 e h=>wpAny_pyIter_listiter (l:=a) (i:=0) ⟨_,e,rfl,rfl⟩ h)
  refine ⟨λB' O X m cm s it o i t Q E l F I ht q=> ?_,λB' O X m cm s it o i Q E l F I ht q=> ?_⟩
  ·refine aA1 ((Vs.mono l).get ht) λv hv Vv=> ?_
   have hl:s.heap.IsList a vs.toArray:=⟨ol,F.sub _ _ (l _ _ hBl),il.1,il.2⟩
   refine wpAny_pyNext_list_item ⟨o,F.opn _ (List.mem_append.mpr (.inr (.head _))),I.1,I.2⟩ hl (by simpa using hv) λh' it' hs=> ?_
   refine aC8 it' λo' ho' c' d'=> ?_
   try clear it'
   exact q v _ o' ⟨c',d'⟩ (aF7 F ho' hs s.toks) Vv
  ·have hl:s.heap.IsList a vs.toArray:=⟨ol,F.sub _ _ (l _ _ hBl),il.1,il.2⟩
   have hv:vs.toArray[i]? =none:=by
    rw [List.getElem?_toArray,List.getElem?_eq_none_iff]
    rw [List.getElem?_eq_none_iff] at ht
    rw [Vs.length]; exact ht
   refine wpAny_pyNext_list_end hA ⟨o,F.opn _ (List.mem_append.mpr (.inr (.head _))),I.1,I.2⟩ hl hv λh' hs=> ?_
   exact q _ (F.drop hs s.toks)
theorem ItC.range1 {e:Expr}{n:Int}{k1:Bool}(np pos:Pos)(W:Own env)(hA:A.handled=none)(hk:env.kindOf (u "range")=some .globalImplicit)(hm:mgm w.params (u "range")=none)(hv:mbm w.params (u "range")=some (.type "range"))
  (hs:backTo pos (starEach [e] env)=[(false,eval e env)]) (he:EvE w A h0 env os k1 σ e (.int n)) (hsm:Builtin.Range.small 0 n 1=true):ItC w A h0 env os σ (.Call (.Name (u "range") np) [e] [] pos) (aB3 0 n.toNat) (λ_=>True):=λB O m cm s Q E F R q=>
 wpAny_Call_NameR (aJ0 W F hk hm hv (by
  rw [hs]
  refine PySem.callWith_type rfl (Calls.evalArgs_plain (Calls.spliced_cons (he B O m cm s _ E F R λva s1 B1 l1 F1 V1=>Calls.spliced_nil ?_)))
  refine aA3 V1.int λtk z1z=> ?_
  subst z1z
  refine call_range_1 ?_
  have F2:=F1.push (o:={ cls:= .type "range",data:= .fields #[.int 0 s1.toks, .int n tk, .int 1 (s1.toks+1)] }) rfl (s1.toks+1+1)
  have l2:=PM.le_put ({ cls:= .type "range",data:= .fields #[.int 0 s1.toks, .int n tk, .int 1 (s1.toks+1)] }:Obj) F1.none_of_fresh
  refine wpAny_pyIter_range (F2.sub _ _ (PM.put_self ..)) hsm ?_
  refine q _ _ _ _ _ (l1.trans l2) (F2.pushO rfl _) (λenv'=>(aT1 hA 0 n.toNat).toG) ⟨Nat.zero_le _, ?_⟩ (λs2 Q2 E2 e h=>wpAny_pyIter_rangeiter e h)
  rw [rangeSize_one]
  have:(if (0:Int)<n then n - 0 else 0)=(n.toNat:Int):=by split<;>room
  rw [this]; rfl) (by decide))
structure aK0 (scope:Scope)(env:Env)(cl:List (Str×Addr))(PC:List Addr)(L:List Str):Prop where
 cls:Cls env cl PC
 clos:closureFor scope env=pure cl
 kind:scope.kind= .function
 names:∀ x∈scope.names,x.2= .local->scope.names.lookup x.1=some .local
 nocell:∀ y∈scope.names,y.2≠ .cell
 seen:∀ x∈L,(cl.lookup x).isSome=true/\env.kindOf x=some .cell/\(relabel scope env).names.lookup x=some .cell
theorem aK0.own {C:Addr}(c:aK0 scope env cl PC L)(W:Own env):Own (compEnvC scope cl C env):=⟨c.kind,W.glob,W.blts⟩
theorem aN0 {elt target iter:Expr}{ifs:List Expr}{gens:List Comprehension}{pos:Pos}{it:Addr}{us:List T}{B1:PM}{O:OL}{m cm:NM}{s:Shared}{o:Obj}{RR:Value->Addr->Result->Shared->Prop}{E:VP}
  (c:aK0 scope env cl PC L) (hcf:∀ x c,env.cells.lookup x=some c->h0.h c=none)
  (hloop:∀ (Cm D:Addr) (Oi X:OL) (s:Shared) (R2:Result->Shared->Prop) (oD:Obj),(∀ B' m' cm',B1.le B'->(∀ x,(cl.lookup x).isSome=true->cm' x=cm x)->Rl (compEnvC scope cl Cm env) (σ.inn L) B' Oi m' cm')->
   Fm w h0 (compEnvC scope cl Cm env) B1 (Oi++(it,o)::(D,oD)::X) (λ_=>none) (λx=>if (cl.lookup x).isSome then cm x else none) os s->isO oD []->
   (∀ B' oD' vs m' cm' s',B1.le B'->(∀ x,(cl.lookup x).isSome=true->cm' x=cm x)->isO oD' vs->aA6 B' vs us->Fm w h0 (compEnvC scope cl Cm env) B' (Oi++(D,oD')::X) m' cm' os s'->R2 (.ok .next) s')->
   codeAny (model pw w) A (.compLoop (.ListComp elt (⟨target,iter,ifs,0⟩::gens) scope pos) 0 (.ref it) (.ref D) (compEnvC scope cl Cm env)) R2 s)
  (F:Fm w h0 env B1 ((it,o)::O) m cm os s) (R:Rel env σ B1 O m cm) (self:∀ (s2:Shared) (Q2:VP) (E2:VP),s2.heap.get? it=some o->Q2 (.ref it) s2->wpAny (model pw w) A (pyIter (.ref it)) Q2 E2 s2)
  (fin:∀ B' D Cm oD oC vs s',B1.le B'->isO oD vs->aA6 B' vs us->Fm w h0 env B' ((Cm,oC)::(D,oD)::O) m cm os s'->(∃ mm,s'.heap.Ns Cm mm)->RR (.ref D) Cm (.ok .next) s'):
  wpAny (model pw w) A (newList []) (λacc s₃=>wpAny (model pw w) A (newFunctionEnv scope env.globals cl [] env.qual none .none (some env)) (λcenv s₄=>
   codeAny (model pw w) A (.compStart (.ListComp elt (⟨target,iter,ifs,0⟩::gens) scope pos) 0 (.ref it) acc { cenv with scope:=relabel scope env }) (RR acc cenv.locals) s₄) E s₃) E s:=by
 refine wpAny_newObj_type (hd:=by size_fits) (wpAny_newFunctionEnv c.nocell (by intro y hy; simp at hy) (λh₁ hns₁ hsb₁=> ?_) c.kind)
 dsimp only at hns₁ hsb₁ ⊢
 have F2:Fm w h0 env B1 ((s.heap.objs.size,{ cls:= .type "list",dict:=none,data:= .seq ([]:List Value).toArray })::(it,o)::O) m cm os { s with heap:=s.heap.push { cls:= .type "list",dict:=none,data:= .seq ([]:List Value).toArray },toks:=s.toks }:=F.pushO rfl s.toks
 generalize hH2:s.heap.push { cls:= .type "list",dict:=none,data:= .seq ([]:List Value).toArray }=H2 at hns₁ hsb₁ F2 ⊢
 refine aA3 (aK3 F2.ns) λoL hL=> ?_
 obtain ⟨PO,hPO,hPOa⟩:=aP7 F2 (PC:=PC) λc' hc=>aA1 (c.cls.pc c' hc) λx hx _=>⟨x,hx⟩
 have hCn:H2.get? H2.objs.size=none:=aA7
 have ke:∀ a o,H2.get? a=some o->h₁.get? a=some o:=λa o e=>hsb₁.extBut a o (Nat.ne_of_lt (Heap.lt_size e)) (Heap.get?_push_of_some _ e)
 have F3:=aP8 (scope:=scope) (cl:=cl) (C:=H2.objs.size) (h1:=h₁) (tk:=s.toks+([]:List (Str×Value)).length) F2 c.cls hPO hPOa hL hCn hcf hns₁ ke
 have kinds:∀ x∈L,∀ m' cm',(∀ y∈L,cm' y=cm y)->aB7 (compEnvC scope cl H2.objs.size env) m' cm' x=aB7 env m cm x:=λx hx m' cm' hc=>by
  refine aC5 (c.seen x hx) λa1 a2 a3=> ?_
  have e1:aB7 env m cm x=cm x:=by unfold aB7; rw [a2]
  have a3:Env.kindOf (compEnvC scope cl H2.objs.size env) x=some .cell:=a3
  have e2:aB7 (compEnvC scope cl H2.objs.size env) m' cm' x=cm' x:=by unfold aB7; rw [a3]
  rw [e1,e2,hc x hx]
 refine bD6 (Rel.inn (env':=compEnvC scope cl H2.objs.size env) R kinds) λOi O3 pm hR=> ?_
 have F4:Fm w h0 (compEnvC scope cl H2.objs.size env) B1 (Oi++(it,o)::(s.heap.objs.size,{ cls:= .type "list",dict:=none,data:= .seq ([]:List Value).toArray })::((env.locals,oL)::(PO++O3))) (λ_=>none) (λx=>if (cl.lookup x).isSome then cm x else none) os { s with heap:=h₁,toks:=s.toks+([]:List (Str×Value)).length }:=by
  exact Fm.perm F3 (bQ5 pm)
 have loop:codeAny (model pw w) A (.compLoop (.ListComp elt (⟨target,iter,ifs,0⟩::gens) scope pos) 0 (.ref it) (.ref s.heap.objs.size) (compEnvC scope cl H2.objs.size env)) (RR (.ref s.heap.objs.size) H2.objs.size) { s with heap:=h₁,toks:=s.toks+([]:List (Str×Value)).length }:=by
  refine hloop _ _ Oi _ _ _ _ (λB' m' cm' l hK=>hR B' m' cm' l λy hy=>hK y (c.seen y hy).1) F4 ⟨_,rfl⟩ λB' oD' vs m' cm' s' l hK iD V F5=> ?_
  have F6:Fm w h0 (compEnvC scope cl H2.objs.size env) B' ((env.locals,oL)::(PO++((s.heap.objs.size,oD')::O))) m' cm' os s':=by
   exact Fm.perm F5 (bJ4 pm)
  obtain ⟨oC,hoC,F7⟩:=aY1 F2 c.cls hPO hPOa hL (λx c e=>e) F6 λx c e=>hK x (by rw [e]; rfl)
  exact fin B' _ _ oD' oC vs s' l iD V F7 ⟨m',F6.ns⟩
 exact codeAny_compStart_list loop (self _ _ _ (F4.opn _ (List.mem_append.mpr (.inr (.head _)))) loop)
theorem aQ {elt target iter:Expr}{ifs:List Expr}{pos:Pos}{it:Addr}{ts:List T}{p:T->Bool}{f:T->T}{C:Sg->Prop}{I:Nat->Obj->Prop}{B1:PM}{O:OL}{m cm:NM}{s:Shared}{o:Obj}{RR:Value->Addr->Result->Shared->Prop}{E:VP}
  (c:aK0 scope env cl PC L) (hcf:∀ x c,env.cells.lookup x=some c->h0.h c=none)
  (S:∀ env',bJ w A h0 env' os B1 ts C I) (hC:C (σ.inn L)) (hlo:∀ v,letOwnedTupleGo target (.ref it) v=pure ()) (hsz:ts.length<=sizeLine)
  (turn:∀ Cm t,t∈ts->∃ σ2,aF6 w A h0 (compEnvC scope cl Cm env) os target (λcm'=>∀ x,(cl.lookup x).isSome=true->cm' x=cm x) (σ.inn L) t σ2/\aP9 w A h0 (compEnvC scope cl Cm env) os σ2 ifs (p t)/\(p t=true->EvE w A h0 (compEnvC scope cl Cm env) os true σ2 elt (f t)))
  (F:Fm w h0 env B1 ((it,o)::O) m cm os s) (R:Rel env σ B1 O m cm) (I0:I 0 o) (self:∀ (s2:Shared) (Q2:VP) (E2:VP),s2.heap.get? it=some o->Q2 (.ref it) s2->wpAny (model pw w) A (pyIter (.ref it)) Q2 E2 s2)
  (fin:∀ B' D Cm oD oC vs s',B1.le B'->isO oD vs->aA6 B' vs ((ts.filter p).map f)->Fm w h0 env B' ((Cm,oC)::(D,oD)::O) m cm os s'->(∃ mm,s'.heap.Ns Cm mm)->RR (.ref D) Cm (.ok .next) s'):
  wpAny (model pw w) A (newList []) (λacc s₃=>wpAny (model pw w) A (newFunctionEnv scope env.globals cl [] env.qual none .none (some env)) (λcenv s₄=>
   codeAny (model pw w) A (.compStart (.ListComp elt [⟨target,iter,ifs,0⟩] scope pos) 0 (.ref it) acc { cenv with scope:=relabel scope env }) (RR acc cenv.locals) s₄) E s₃) E s:=
 aN0 c hcf (λCm D Oi X s R2 oD hR F hD fin=>bC6 (K:=λcm'=>∀ x,(cl.lookup x).isSome=true->cm' x=cm x) (S _) hC hlo hsz (turn _) hR F (λx hx=>if_pos hx) I0 hD fin) F R self fin
end
section
variable {w:World}{A:Around}{h0:aA8}{env:Env}{os:OsState}{σ:Sg}{k:Bool}{scope:Scope}{cl:List (Str×Addr)}{PC:List Addr}{L:List Str}{P:FP}{rest:List Stmt}
noncomputable def cB0 (w:World)(A:Around)(h0:aA8)(env:Env)(os:OsState)(σ:Sg)(scope:Scope)(cl:List (Str×Addr))(target elt:Expr)(ifs:List Expr)(ts:List T)(p:T->Bool)(f:T->T):Prop:=
 ∀ (K:(Str->Option Value)->Prop) (Cm:Addr) (t:T),t∈ts->∃ σ2,aF6 w A h0 (compEnvC scope cl Cm env) os target K σ t σ2/\aP9 w A h0 (compEnvC scope cl Cm env) os σ2 ifs (p t)/\(p t=true->EvE w A h0 (compEnvC scope cl Cm env) os true σ2 elt (f t))
theorem EvE.comp {elt target iter:Expr}{ifs:List Expr}{ts:List T}{p:T->Bool}{f:T->T}{C:Sg->Prop}(pos:Pos)(c:aK0 scope env cl PC L)(hcf:∀ x c,env.cells.lookup x=some c->h0.h c=none)
  (hi:ItC w A h0 env os σ iter ts C) (hC:C (σ.inn L)) (hlo:∀ it v,letOwnedTupleGo target it v=pure ()) (hfs:∀ x,foldedSetIterable iter env x=pure x) (hsz:ts.length<=sizeLine)
  (turn:cB0 w A h0 env os (σ.inn L) scope cl target elt ifs ts p f):EvE w A h0 env os k σ (.ListComp elt [⟨target,iter,ifs,0⟩] scope pos) (.list ((ts.filter p).map f)):=λB O m cm s Q E F R q=>by
 rw [eval_ListComp]
 refine wpAny_comprehension_free (use:=none) rfl hfs c.clos c.kind c.names (hi B O m cm s _ E F R λit o s1 B1 I l1 F1 S I0 self=> ?_)
 refine aQ (RR:=λacc C=>compPost (model pw w) A E none Q acc C) c hcf S hC (hlo _) hsz (turn _) F1 (R.mono l1) I0 self λB' D Cm oD oC vs s' l iD V F7 hn=> ?_
 refine aA3 hn λmm hn=> ?_
 refine ⟨mm,hn,λh' hsb=> ?_⟩
 have F8:Fm w h0 env B' ([]++(D,oD)::O) m cm os { s' with heap:=h',toks:=s'.toks }:=Fm.drop (O:=[]) F7 hsb.extBut s'.toks
 have F9:=F8.freeze
 have ld:B'.le (B'.put D oD):=PM.le_put oD (F8.offO (D,oD) (.head _)).1
 refine q _ _ (B'.put D oD) ((l1.trans l).trans ld) F9 (.of (.list (PM.put_self ..) iD.isL ?_ (V.mono ld)))
 refine aA3 iD λn z1z=> ?_
 try clear iD
 subst z1z
 rfl
theorem ExE.asgComp {elt target iter:Expr}{ifs:List Expr}{ts:List T}{p:T->Bool}{f:T->T}{C:Sg->Prop}{y:Str}{σ':Sg}(py pos spos:Pos)(c:aK0 scope env cl PC L)(hcf:∀ x c,env.cells.lookup x=some c->h0.h c=none)
  (hi:ItC w A h0 env os σ iter ts C) (hC:C (σ.inn L)) (hlo:∀ it v,letOwnedTupleGo target it v=pure ()) (hfs:∀ x,foldedSetIterable iter env x=pure x) (hsz:ts.length<=sizeLine)
  (turn:cB0 w A h0 env os (σ.inn L) scope cl target elt ifs ts p f) (hb:aF5 w A h0 env os (.Name y py) σ (.list ((ts.filter p).map f)) σ') (hsw:swapsWith (.ListComp elt [⟨target,iter,ifs,0⟩] scope pos) (some (.Name y py)) spos.line env=pure true)
  (h:ExE w A h0 env os σ' rest P):ExE w A h0 env os σ (.Assign [.Name y py] (.ListComp elt [⟨target,iter,ifs,0⟩] scope pos) spos::rest) P:=λB O X m cm s Q E F R q=>by
 refine wpAny_execs_cons ?_
 rw [exec_Assign_Name_used _ _ _ _ hsw]
 refine wpAny_bind (wpAny_standAt (wpAny_bind ?_))
 show wpAny _ A (do let _ <-comprehension (.ListComp elt [⟨target,iter,ifs,0⟩] scope pos) scope env _ (PySem.newList []) false (eval iter env) (some (PySem.assign (.Name y py) env))) _ _ s
 refine wpAny_bind (wpAny_mono (wpAny_comprehension_free (use:=some (PySem.assign (.Name y py) env)) (Q:=λ_ s'=>wpAny (model pw w) A (execs rest env) Q E s') rfl hfs c.clos c.kind c.names
  (hi B (O++X) m cm s _ E F (R.rel X) λit o s1 B1 I l1 F1 S I0 self=> ?_)) (λ_ s' hq=>wpAny_pure (wpAny_pure hq)) λ_ _ e=>e)
 refine aQ (RR:=λacc C=>compPost (model pw w) A E (some (PySem.assign (.Name y py) env)) (λ_ s'=>wpAny (model pw w) A (execs rest env) Q E s') acc C) c hcf S hC (hlo _) hsz (turn _) F1 ((R.rel X).mono l1) I0 self λB' D Cm oD oC vs s' l iD V F7 hn=> ?_
 refine aA3 hn λmm hn=> ?_
 have F8:Fm w h0 env B' ([(Cm,oC)]++(D,oD)::(O++X)) m cm os s':=F7
 have ld:B'.le (B'.put D oD):=PM.le_put oD (F8.offO (D,oD) (.tail _ (.head _))).1
 have F9:=(F8.freeze).toX (O:=O)
 have hdict:oD.dict=none:=by obtain ⟨n,rfl⟩:=iD; rfl
 show wpAny _ A (PySem.assign (.Name y py) env (.ref D)) _ _ _
 refine hb (B'.put D oD) O ((Cm,oC)::X) m cm s' (.ref D) (.ref D) _ _ F9 (R.mono ((l1.trans l).trans ld)) (.list (PM.put_self ..) iD.isL hdict (V.mono ld)) λs2 m2 cm2 F10 R10=> ?_
 refine ⟨mm, ?_,λh' hsb=> ?_⟩
 ·refine aC hn λo e=> ?_
  have e1:=F7.opn (Cm,oC) (.head _)
  have e2:=F10.opn (Cm,oC) (List.mem_append.mpr (.inr (.head _)))
  rw [e1] at e; cases e
  exact e2
 ·exact h _ O X m2 cm2 _ Q E (F10.drop hsb.extBut s2.toks) R10 (q.mono ((l1.trans l).trans ld))
end
section
theorem bC7 {ko:Str->Option NameKind}{x:Str}:∀ {bs:List (Str×Value)} {m:NM},x∉bs.map (·.1)->bindL ko bs m x=m x
 | [],_,_=>rfl
 | (n,v)::r,m,h=>by
  rw [List.map_cons,List.mem_cons,not_or] at h
  show bindL ko r _ x=m x
  rw [bC7 h.2]
  split
  ·exact if_neg h.1
  ·rfl
theorem bC8 {ko:Str->Option NameKind}{x:Str}:∀ {bs:List (Str×Value)} {m:NM},x∉bs.map (·.1)->bindC ko bs m x=m x
 | [],_,_=>rfl
 | (n,v)::r,m,h=>by
  rw [List.map_cons,List.mem_cons,not_or] at h
  show bindC ko r _ x=m x
  rw [bC8 h.2]
  split
  ·rfl
  ·exact if_neg h.1
theorem aY2 {ko:Str->Option NameKind}{x:Str}{v:Value}(hk:ko x=some .local):∀ {bs:List (Str×Value)} {m:NM},(bs.map (·.1)).Nodup->bs.lookup x=some v->bindL ko bs m x=some v
 | [],_,_,h=>by cases h
 | (n,u)::r,m,d,h=>by
  rw [List.map_cons,List.nodup_cons] at d
  show bindL ko r _ x=_
  rw [List.lookup_cons] at h
  by_cases q:x=n
  ·subst q
   rw [beq_self_eq_true] at h
   cases h
   rw [bC7 d.1,if_pos hk,if_pos rfl]
  ·rw [beq_eq_false_iff_ne.mpr q] at h
   exact aY2 hk d.2 h
theorem aY3 {ko:Str->Option NameKind}{x:Str}{v:Value}(hk:ko x≠some .local):∀ {bs:List (Str×Value)} {m:NM},(bs.map (·.1)).Nodup->bs.lookup x=some v->bindC ko bs m x=some v
 | [],_,_,h=>by cases h
 | (n,u)::r,m,d,h=>by
  rw [List.map_cons,List.nodup_cons] at d
  show bindC ko r _ x=_
  rw [List.lookup_cons] at h
  by_cases q:x=n
  ·subst q
   rw [beq_self_eq_true] at h
   cases h
   rw [bC8 d.1,if_neg hk,if_pos rfl]
  ·rw [beq_eq_false_iff_ne.mpr q] at h
   exact aY3 hk d.2 h
theorem aT7 {x y:Str}{c:Addr}:∀ {l:List (Str×Addr)},l.Pairwise (λx y=>x.2≠y.2)->(x,c)∈l->(y,c)∈l->x=y
 | [],_,h,_=>by cases h
 | p::l,d,h1,h2=>by
  rw [List.pairwise_cons] at d
  rcases List.mem_cons.mp h1 with rfl | h1<;>rcases List.mem_cons.mp h2 with e | h2
  ·exact (congrArg Prod.fst e).symm
  ·exact absurd (show (x,c).2=(y,c).2 from rfl) (d.1 (y,c) h2)
  ·exact absurd (congrArg Prod.snd e) (λz=>d.1 _ h1 (by rw [<- e]))
  ·exact aT7 d.2 h1 h2
variable {w:World}{os:OsState}
theorem aY4 {n:Nat}{a c:Addr}{o oc:Obj}{fd:FuncData}{body:List Stmt}{as:List T}{t:T}(names:List Str){cvs:Array Value}{tk:Tok}(ho:(H1 w.params).get? a=some o)(hdata:o.data= .func fd)
  (hcd:fd.code= .ref c) (hc:(H1 w.params).get? c=some oc) (hcv:oc.data= .fields cvs) (hcq:cvs[1]? =some (.str fd.qualname tk))
  (hbody:fd.body= .stmts body) (hbind:∀ vs,vs.length=as.length->bindArgs fd ⟨vs,[]⟩=pure (names.zip vs)) (hnl:names.length=as.length) (hnd:names.Nodup)
  (hloc:∀ (L:Addr) x,x∈names->fd.scope.names.lookup x=some .local\/(fd.scope.names.lookup x=some .cell/\((cellsFrom (L+1) fd.scope.names []).lookup x).isSome=true))
  (hco:fd.scope.isCoroutine=false) (hgen:fd.scope.isGenerator=false) (hk:fd.scope.kind= .function) (hcl:fd.closure=[])
  (h:∀ (A:Around) (h0:aA8) (L:Addr),aD6 n A->(∀ x c,(callEnvC fd L a).cells.lookup x=some c->h0.h c=none)->ExE w (A.deeper (callEnvC fd L a)) h0 (callEnvC fd L a) os ⟨λx=>(names.zip as).lookup x,[],λ_=>none⟩ body (λfl σ'=>fl= .ret t)):FnE w os n a as t:=by
 intro A B s vs Q E RA su gl hg hos V q
 have hvl:vs.length=as.length:=V.length
 have fresh:∀ x,s.heap.objs.size<=x->s.heap.get? x=none:=λx hx=>by
  cases e:s.heap.get? x with
  | none=>rfl
  | some o=>exact absurd (Heap.lt_size e) (Nat.not_lt.mpr hx)
 have freshB:∀ x,s.heap.objs.size<=x->B x=none:=λx hx=>by
  cases e:B x with
  | none=>rfl
  | some o=>have:=su _ _ e; rw [fresh x hx] at this; cases this
 refine wpAny_call (codeAny_call_cells (binds:=names.zip vs) (Nat.lt_of_le_of_lt (Nat.le_add_right _ n) (Nat.lt_trans RA.depth (by decide))) (su _ _ (gl _ _ ho)) hdata ?_ ?_ hbody (hbind vs hvl) hcl (λx hx=>hloc _ x.1 (List.of_mem_zip hx).1) (λs₁ I=> ?_) hco hgen hk)
 ·obtain ⟨mc,hn,e⟩:=aV9 w.params; exact ⟨mc,aC hn λo e=>su _ _ (gl _ _ e),e⟩
 ·exact ⟨c,oc,cvs,tk,hcd,su _ _ (gl _ _ hc),hcv,hcq⟩
 ·obtain ⟨⟨h₁,tk₁,rfl⟩,hns,ke,_⟩:=I.toInCall
  have ab:∀ x c,(callEnvC fd s.heap.objs.size a).cells.lookup x=some c->s.heap.objs.size<c:=λx c e=>I.above x c (mem_of_lookup e)
  have F:Fm w ⟨λa=>s.heap.get? a,B⟩ (callEnvC fd s.heap.objs.size a) B ([]++[]) (bindL (callEnvC fd s.heap.objs.size a).kindOf (names.zip vs) λ_=>none) (bindC (callEnvC fd s.heap.objs.size a).kindOf (names.zip vs) λ_=>none) os { s with heap:=h₁,toks:=tk₁ }:=
   ⟨hns,λx c e=>I.cell x c e,ke,λa o e=>ke _ _ (su a o e),λp hp=>absurd hp (List.not_mem_nil),⟨freshB _ (Nat.le_refl _),aA7⟩,λx c e=>⟨freshB c (Nat.le_of_lt (ab x c e)),Nat.ne_of_gt (ab x c e)⟩,λx y c e1 e2=>aT7 I.apart (mem_of_lookup e1) (mem_of_lookup e2),λp hp=>absurd hp (List.not_mem_nil),List.nodup_nil,gl,hg,hos,λa o e=> .inl e⟩
  have R:Rl (callEnvC fd s.heap.objs.size a) ⟨λx=>(names.zip as).lookup x,[],λ_=>none⟩ B [] (bindL (callEnvC fd s.heap.objs.size a).kindOf (names.zip vs) λ_=>none) (bindC (callEnvC fd s.heap.objs.size a).kindOf (names.zip vs) λ_=>none):=by
   refine ⟨λx u hx=> ?_,[],[],rfl, .nil,λa b e=>by cases e⟩
   refine aA1 (aQ8 V names x u hx) λv hv Vv=> ?_
   refine ⟨v, ?_,Vv⟩
   have hm:x∈names:=(List.of_mem_zip (aD7 hx)).1
   have dd:((names.zip vs).map (·.1)).Nodup:=by rw [List.map_fst_zip (by room)]; exact hnd
   rcases hloc s.heap.objs.size x hm with e | ⟨e,_⟩
   ·have e:(callEnvC fd s.heap.objs.size a).kindOf x=some .local:=e
    unfold aB7
    rw [e]
    exact aY2 e dd hv
   ·have e:(callEnvC fd s.heap.objs.size a).kindOf x=some .cell:=e
    unfold aB7
    rw [e]
    exact aY3 (by rw [e]; intro z; cases z) dd hv
  refine h A ⟨λa=>s.heap.get? a,B⟩ s.heap.objs.size RA (λx c e=>fresh c (Nat.le_of_lt (ab x c e))) B [] [] _ _ _ _ _ F R ⟨λfl σ' f s' B' O' m' cm' p r l F' R'=> ?_,λcls args σ' e s' B' Z O' m' cm' p=>by cases p⟩
  subst p
  cases r with
  | ret V'=>exact q _ s' B' l F'.old F'.sub (λx hx hx'=>by
    cases e:B' x with
    | none=>exact absurd e hx'
    | some o=>exact (F'.nw x o e).elim (λz=>by have z:B x=some o:=z; rw [hx] at z; cases z) id) F'.gens F'.oss V'
end
section
variable {w:World}{A:Around}{h0:aA8}{env:Env}{os:OsState}{σ:Sg}{k:Bool}{B:PM}
theorem Fm.extAt {O:OL}{m cm:NM}{s:Shared}(F:Fm w h0 env B O m cm os s){h':Heap}(x:Heap.ExtBut s.heap.objs.size s.heap h')(tk:Nat):Fm w h0 env B O m cm os { s with heap:=h',toks:=tk }:=
 F.grow (λa o e=>x a o (Nat.ne_of_lt (Heap.lt_size e)) e) tk
theorem aF5.tup2 {x y:Str}{t1 t2:T}{n:Nat}(p1 p2 pos:Pos)(W:Own env)(hA:A.handled=none)(hx:env.kindOf x=some .local)(hy:env.kindOf y=some .local)(ox:∀ p∈σ.ow,p.1≠x)(oy:∀ p∈σ.ow,p.1≠y):
  aF5 w A h0 env os (.Tuple [.Name x p1, .Name y p2] n pos) σ (.tup [t1,t2]) ((σ.set x t1).set y t2):=λB O X m cm s v it Q E F R V q=>by
 refine aB0 (Val.tupAt F V) λa vs z1z hT Vs=> ?_
 subst z1z
 cases Vs with
 | cons V1 r=>cases r with
  | cons V2 r=>cases r with
   | nil=>
    refine assign_Tuple_tuple hA hT rfl rfl λh' hx'=> ?_
    have F1:=F.extAt hx' s.toks
    show wpAny _ _ (assignInOrder [assign (.Name x p1) env,assign (.Name y p2) env] [_,_]) _ _ _
    refine wpAny_bind (wpAny_holding ?_)
    refine wpAny_assign_Name (wpAny_storeName_local hx F1.ns (λh2 hn hs=> ?_) (by rw [W.kind]; rfl))
    have F2:=F1.setLocal hn hs (s.toks+1)
    refine wpAny_bind (wpAny_holding ?_)
    refine wpAny_assign_Name (wpAny_storeName_local hy F2.ns (λh3 hn3 hs3=> ?_) (by rw [W.kind]; rfl))
    exact wpAny_pure (q _ _ cm (F2.setLocal hn3 hs3 _) ((R.set hx ox V1).set hy oy V2))
theorem aF6.tup2 {x y:Str}{t1 t2:T}{n:Nat}{K:(Str->Option Value)->Prop}(p1 p2 pos:Pos)(W:Own env)(hA:A.handled=none)(hx:env.kindOf x=some .local)(hy:env.kindOf y=some .local)(ox:∀ p∈σ.ow,p.1≠x)(oy:∀ p∈σ.ow,p.1≠y):
  aF6 w A h0 env os (.Tuple [.Name x p1, .Name y p2] n pos) K σ (.tup [t1,t2]) ((σ.set x t1).set y t2):=λB O X m cm s v Q E kk F R V q=>by
 refine aB0 (Val.tupAt F V) λa vs z1z hT Vs=> ?_
 subst z1z
 cases Vs with
 | cons V1 r=>cases r with
  | cons V2 r=>cases r with
   | nil=>
    refine assign_Tuple_tuple hA hT rfl rfl λh' hx'=> ?_
    have F1:=F.extAt hx' s.toks
    show wpAny _ _ (assignInOrder [assign (.Name x p1) env,assign (.Name y p2) env] [_,_]) _ _ _
    refine wpAny_bind (wpAny_holding ?_)
    refine wpAny_assign_Name (wpAny_storeName_local hx F1.ns (λh2 hn hs=> ?_) (by rw [W.kind]; rfl))
    have F2:=F1.setLocal hn hs (s.toks+1)
    refine wpAny_bind (wpAny_holding ?_)
    refine wpAny_assign_Name (wpAny_storeName_local hy F2.ns (λh3 hn3 hs3=> ?_) (by rw [W.kind]; rfl))
    exact wpAny_pure (q _ _ cm kk (F2.setLocal hn3 hs3 _) ((R.set hx ox V1).set hy oy V2))
theorem TsE.chain {l r1 r2:Expr}{o1 o2:CmpOp}{a b c:T}{k1 k2 k3 x y:Bool}(pos:Pos)(hl:EvE w A h0 env os k1 σ l a)(hr:EvE w A h0 env os k2 σ r1 b)(hr2:EvE w A h0 env os k3 σ r2 c)(h1:aF2 w A h0 env os o1 k1 k2 a b x)(h2:aF2 w A h0 env os o2 k2 k3 b c y)(hm:lastMarks [o1,o2] [r1,r2]=false):
  TsE w A h0 env os σ (.Compare l [o1,o2] [r1,r2] pos) (x && y):=λB O m cm s Q E F R q=>
 isTrue_chain (hl B O m cm s _ E F R λva s1 B1 l1 F1 V1=>test_link (hr B1 O m cm s1 _ E F1 (R.mono l1) λvb s2 B2 l2 F2 V2=>
  h1 B2 O m cm s2 va vb _ E F2 (V1.mono l2) V2 λs3 B3 l3 F3=>wpAny_truthy_bool (by
   cases x with
   | false=>exact q s3 B3 ((l1.trans l2).trans l3) F3
   | true=>
    refine test_last (hr2 B3 O m cm s3 _ E F3 ((R.mono (l1.trans l2)).mono l3) λvc s4 B4 l4 F4 V4=> ?_)
    exact h2 B4 O m cm s4 vb vc _ E F4 ((V2.mono l3).mono l4) V4 λs5 B5 l5 F5=>wpAny_truthy_bool (q s5 B5 ((((l1.trans l2).trans l3).trans l4).trans l5) F5)))) hm
end
noncomputable def cD (gs sw:List Int)(s a:Int):Bool:=a != 7 && gs.getD a.toNat 0 != a && (decide (0<sw.getD a.toNat 0) && decide (sw.getD a.toNat 0<=s))
noncomputable def goD (gs sw:List Int)(s:Int):Nat->Int->Option Int
 | 0,_=>none
 | n+1,a=>if cD gs sw s a then goD gs sw s n (gs.getD a.toNat 0) else some a
noncomputable def aK1 (gs sw:List Int)(s:Int)(p:Int×Nat):List Nat:=
 if p.1=7 then [p.2] else match goD gs sw s 20 p.1 with
  | none=>[]
  | some a=>if a=p.1 then [p.2] else if a≠7 then [aP6 a.toNat] else []
noncomputable def aE9 (gs sw:List Int)(s:Int)(ps:List (Int×Nat)):List Nat:=ps.flatMap (aK1 gs sw s)
noncomputable def aM5 (p:Int×Nat):T:= .tup [.int p.1, .str (ch p.2)]
section
variable {w:World}{A:Around}{h0:aA8}{env:Env}{os:OsState}{σ:Sg}{P:FP}{rest:List Stmt}
theorem ExE.forL {elts:List Expr}{n:Nat}{tp:Pos}{iter:Expr}{body:List Stmt}{ts:List T}(J:Nat->Sg->Prop)(pos:Pos)(hA:A.handled=none)(he:EvE w A h0 env os true σ iter (.list ts))(h0J:J 0 σ)
  (htup:∀ t∈ts,∃ us,t= .tup us) (hfs:∀ x,foldedSetIterable iter env x=pure x)
  (turn:∀ i t σ1,ts[i]? =some t->J i σ1->∃ σ2,aF5 w A h0 env os (.Tuple elts n tp) σ1 t σ2/\ExE w A h0 env os σ2 body (bB7 w A h0 env os (J (i+1)) rest P))
  (fin:∀ σ1,J ts.length σ1->ExE w A h0 env os σ1 rest P):ExE w A h0 env os σ (.For (.Tuple elts n tp) iter body [] pos::rest) P:=by
 refine ExE.forX (C:=λ_=>True) J pos ?_ h0J (λ_ _ _=>trivial) hfs (λ_ _ _ _ _ _ _ _ _ _ _ _ p=>p.elim) turn fin
 refine λB O m cm s Q E F R q=>he B O m cm s _ E F R λv s1 B1 l1 F1 V=> ?_
 have V:Val B1 v (.list ts):=V
 refine bG6 V.inv λal ol vs e hBl il _ Vs=> ?_
 rw [e]
 refine wpAny_pyIter_list ⟨ol,F1.sub _ _ hBl,il.1,il.2⟩ ?_
 refine q _ _ _ B1 (λi o=>o.cls= .type "list_iterator" /\o.data= .fields #[.ref al, .int i 0]) l1 (F1.pushO rfl s1.toks) ?_ ⟨rfl,rfl⟩
 refine ⟨λB' O X m cm s it o i t σ Q E l C R F I ht q=> ?_,λB' O X m cm s it o i σ Q E l C R F I ht q=> ?_⟩
 ·refine aA1 ((Vs.mono l).get ht) λv hv Vv=> ?_
  refine wpAny_pyNext_list_item ⟨o,F.opn _ (List.mem_append.mpr (.inr (.head _))),I.1,I.2⟩ ⟨ol,F.sub _ _ (l _ _ hBl),il.1,il.2⟩ (by simpa using hv) λh' it' hs=> ?_
  refine aC8 (id it') λo' ho' c' d'=> ?_
  refine q v _ o' ⟨c',d'⟩ (aF7 F ho' hs s.toks) Vv λQ2 E2 h=> ?_
  refine aA3 (htup t (List.mem_of_getElem? ht)) λus hu=> ?_
  subst hu
  refine bL4 Vv.inv λtv _ _ e _ _ _=> ?_
  rw [e]
  exact wpAny_letOwnedTupleGo_listiter it' h
 ·refine wpAny_pyNext_list_end hA ⟨o,F.opn _ (List.mem_append.mpr (.inr (.head _))),I.1,I.2⟩ ⟨ol,F.sub _ _ (l _ _ hBl),il.1,il.2⟩ ?_ λh' hs=>q _ (F.drop hs s.toks)
  rw [List.getElem?_toArray,List.getElem?_eq_none_iff,Vs.length]
  exact List.getElem?_eq_none_iff.mp ht
end
theorem bQ6 {gs sw:List Int}{s:Int}(G:aA9 gs):∀ {n:Nat} {a r:Int},0<=a->a<=7->goD gs sw s n a=some r->0<=r/\r<=7
 | 0,_,_,_,_,h=>by cases h
 | n+1,a,r,h0,h1,h=>by
  rw [goD.eq_2] at h
  split at h
  ·rename_i c
   have h7:a≠7:=by
    intro z; subst z
    simp [cD] at c
   have:=G.rng a.toNat (by room)
   exact bQ6 G this.1 this.2 h
  ·cases h; exact ⟨h0,h1⟩
theorem bN6 (gs sw:List Int)(s:Int)(p:Int×Nat):(aK1 gs sw s p).length<=1:=by
 unfold aK1
 split
 ·exact Nat.le_refl _
 ·split
  ·exact Nat.zero_le _
  ·split
   ·exact Nat.le_refl _
   ·split
    ·exact Nat.le_refl _
    ·exact Nat.zero_le _
theorem aQ0 (gs sw:List Int)(s:Int):∀ ps:List (Int×Nat),(aE9 gs sw s ps).length<=ps.length
 | []=>Nat.le_refl _
 | p::ps=>by
  have h1:=aQ0 gs sw s ps
  have h2:=bN6 gs sw s p
  unfold aE9 at h1 ⊢
  rw [List.flatMap_cons,List.length_append,List.length_cons]
  room
theorem bJ5 (gs sw:List Int)(s:Int)(ps:List (Int×Nat))(i:Nat)(p:Int×Nat)(h:ps[i]? =some p):aE9 gs sw s (ps.take (i+1))=aE9 gs sw s (ps.take i)++aK1 gs sw s p:=by
 unfold aE9
 rw [List.take_add_one,h]
 simp
noncomputable abbrev drA (gs sw:List Int)(s:Int)(ps:List (Int×Nat))(i:Nat)(σ:Sg):Prop:=σ.ow=[(u "row",((aE9 gs sw s (ps.take i)).map ch).map T.str)]/\σ.fz (u "goals")=some (.list (gs.map T.int))/\σ.fz (u "sweeps")=some (.list (sw.map T.int))/\σ.fz (u "sweep")=some (.int s)
noncomputable abbrev drB (gs sw:List Int)(s:Int)(ps:List (Int×Nat))(p:Int×Nat)(i:Nat)(fl:Fl)(σ':Sg):Prop:=fl= .next/\∃ r:Int,0<=r/\r<=7/\aK1 gs sw s p=(if r=p.1 then [p.2] else if r≠7 then [aP6 r.toNat] else [])/\σ'.fz (u "at")=some (.int r)/\σ'.fz (u "kind")=some (.int p.1)/\σ'.fz (u "sign")=some (.str (ch p.2))/\
    σ'.ow=[(u "row",((aE9 gs sw s (ps.take i)).map ch).map T.str)]/\σ'.fz (u "goals")=some (.list (gs.map T.int))/\σ'.fz (u "sweeps")=some (.list (sw.map T.int))/\σ'.fz (u "sweep")=some (.int s)
noncomputable abbrev drC (gs sw:List Int)(s:Int)(ps:List (Int×Nat))(p:Int×Nat)(i:Nat)(r:Int)(n:Nat)(σ:Sg):Prop:=∃ a:Int,0<=a/\a<=7/\goD gs sw s n a=some r/\σ.fz (u "at")=some (.int a)/\σ.fz (u "kind")=some (.int p.1)/\σ.fz (u "sign")=some (.str (ch p.2))/\
      σ.ow=[(u "row",((aE9 gs sw s (ps.take i)).map ch).map T.str)]/\σ.fz (u "goals")=some (.list (gs.map T.int))/\σ.fz (u "sweeps")=some (.list (sw.map T.int))/\σ.fz (u "sweep")=some (.int s)
theorem bN7 (w:World)(os:OsState)(gs sw:List Int)(s:Int)(ps:List (Int×Nat))(G:aA9 gs)(hsw:sw.length=8)(hps:ps.length<=1000)(hp:∀ p∈ps,0<=p.1/\p.1<=7/\(p.1≠7->∃ r,goD gs sw s 20 p.1=some r)):
  FnE w os 1 293 [.list (gs.map T.int), .list (sw.map T.int), .list (ps.map aM5), .int s] (.str ⟨(aE9 gs sw s ps).toArray⟩):=by
 refine aB9 (o:=bM2) (fd:=aA2 bM2) (body:=aB1 (aA0 28)) (c:=292) (oc:=cX1) [u "goals",u "sweeps",u "spots",u "sweep"] (by lk) rfl rfl (by lk) rfl rfl rfl
  (al4 λ_ _ _ _=>by lk) rfl (by decide) (by lk) (by lk) rfl rfl rfl rfl λA h0 L RA=> ?_
 have W:Own (callEnv (aA2 bM2) L 293):=⟨rfl,rfl,rfl⟩
 have hA:(A.deeper (callEnv (aA2 bM2) L 293)).handled=none:=RA.handled
 have hz:sizeLine=16777216:=by decide
 have swG:∀ a:Int,0<=a->a<7->(sw.map T.int)[a.toNat]? =some (.int (sw.getD a.toNat 0)):=λa a0 a1=>by
  rw [List.getElem?_map,List.getElem?_eq_getElem (by room:a.toNat<sw.length),List.getD_eq_getElem?_getD,List.getElem?_eq_getElem (by room:a.toNat<sw.length)]
  rfl
 refine ExE.newList _ _ _ W (ts:=[]) .nil (by lk) (by decide) (by lk) (λp hp=>absurd hp List.not_mem_nil) ?_
 refine ExE.forL (ts:=ps.map aM5) (J:=drA gs sw s ps) _ hA ?_ ?_ ?_ ?_ ?_ ?_
 ·exact EvE.nm W
 ·exact ⟨rfl,by lk,by lk,by lk⟩
 ·intro t ht
  refine aA1 (List.mem_map.mp ht) λp _ z1z=> ?_
  subst z1z
  exact ⟨_,rfl⟩
 ·exact λx=>rfl
 ·intro i t σ1 ht w1w
  refine aO7 w1w λj1 j2 j3 j4=> ?_
  try clear w1w
  rw [List.getElem?_map] at ht
  cases hc:ps[i]? with
  | none=>rw [hc] at ht; cases ht
  | some p=>
   rw [hc] at ht
   cases ht
   refine aC5 (hp p (List.mem_of_getElem? hc)) λp0 p7 pr=> ?_
   have hsn:=bJ5 gs sw s ps i p hc
   have hlen:=aQ0 gs sw s (ps.take i)
   have hlen2:(ps.take i).length<=1000:=by rw [List.length_take]; room
   have off:∀ x:Str,u "row" ≠x->∀ q∈σ1.ow,q.1≠x:=λx hx q hq=>by rw [j1] at hq; rw [List.mem_singleton.mp hq]; exact hx
   refine ⟨_,aF5.tup2 _ _ _ W hA (by lk) (by lk) (off _ (by decide)) (off _ (by decide)), ?_⟩
   refine ExE.assign _ _ W (t:= .int p.1) (EvE.nm W) (by lk) (off _ (by decide)) (by lk) ?_
   refine ExE.ite _ (b:=p.1 != 7) (TsE.cmp _ (a:= .int p.1) (k1:=true) (k2:=true) (EvE.nm W) (EvE.int _ _ _) (aE2 _ _ _ _) (by lk)) ?_
   refine ExE.mono (P:=drB gs sw s ps p i) ?_ ?_
   ·by_cases q7:p.1=7
    ·rw [show (p.1 != 7)=false by rw [q7]; rfl]
     refine ExE.nil ⟨rfl,p.1,p0,p7, ?_,by lk,by lk,by lk,j1,(by lk:_=σ1.fz (u "goals")).trans j2,(by lk:_=σ1.fz (u "sweeps")).trans j3,(by lk:_=σ1.fz (u "sweep")).trans j4⟩
     unfold aK1
     rw [if_pos q7,if_pos rfl]
    ·rw [show (p.1 != 7)=true by simp [q7]]
     refine aA3 (pr q7) λr hr=> ?_
     have hrr:=bQ6 G p0 p7 hr
     have hd1:aK1 gs sw s p=(if r=p.1 then [p.2] else if r≠7 then [aP6 r.toNat] else []):=by
      unfold aK1
      rw [if_neg q7,hr]
     refine ExE.while_ (J:=drC gs sw s ps p i r) 20 _ ?_ ?_
     ·exact ⟨p.1,p0,p7,hr,by lk,by lk,by lk,j1,(by lk:_=σ1.fz (u "goals")).trans j2,(by lk:_=σ1.fz (u "sweeps")).trans j3,(by lk:_=σ1.fz (u "sweep")).trans j4⟩
     intro n σ2 w1w
     refine bV8 w1w λa a0 a7 hgo q1 q2 q3 q4 q5 q6 q8=> ?_
     try clear w1w
     refine ⟨cD gs sw s a, ?_, ?_, ?_⟩
     ·unfold cD
      refine TsE.and3 _ ?_ (λh7=> ?_) (λh7 _=> ?_)
      ·refine TsE.cmp _ (k1:=true) (k2:=true) (EvE.nm W q1) (EvE.int _ _ _) (aE2 _ _ _ _) ?_
       lk
      ·have h7:a≠7:=by simpa using h7
       refine TsE.cmp _ (k1:=true) (k2:=true) ?_ (EvE.nm W q1) (aE2 _ _ _ _) ?_
       ·refine EvE.idx _ (k1:=true) (k2:=true) (EvE.nm W q5) (EvE.nm W q1) a0 ?_ (G.get a0 (by room)) ?_
        ·room
        ·exact λo j u=>by lk
       ·lk
      ·have h7:a≠7:=by simpa using h7
       refine TsE.chain _ (k1:=true) (k2:=true) (k3:=true) (EvE.int _ _ _) ?_ (EvE.nm W q8) (aW5 _ _ _ _) (cR3 _ _ _ _) ?_
       ·refine EvE.idx _ (k1:=true) (k2:=true) (EvE.nm W q6) (EvE.nm W q1) a0 ?_ (swG a a0 (by room)) ?_
        ·room
        ·exact λo j u=>by lk
       ·lk
     ·intro hb
      have h7:a≠7:=by
       intro z; subst z
       simp [cD] at hb
      cases n with
      | zero=>cases hgo
      | succ n=>
       rw [goD.eq_2] at hgo
       rw [if_pos hb] at hgo
       refine ExE.assign _ _ W (t:= .int (gs.getD a.toNat 0)) ?_ (by lk) (by rw [q4]; intro q hq; rw [List.mem_singleton.mp hq]; show u "row" ≠u "at"; decide) (by lk) ?_
       ·refine EvE.idx _ (k1:=true) (k2:=true) (EvE.nm W q5) (EvE.nm W q1) a0 ?_ (G.get a0 (by room)) ?_
        ·room
        ·exact λo j u=>by lk
       have:=G.rng a.toNat (by room)
       exact ExE.nil ⟨n,Nat.lt_succ_self _,_,this.1,this.2,hgo,by lk,(by lk:_=σ2.fz (u "kind")).trans q2,(by lk:_=σ2.fz (u "sign")).trans q3,q4,(by lk:_=σ2.fz (u "goals")).trans q5,(by lk:_=σ2.fz (u "sweeps")).trans q6,(by lk:_=σ2.fz (u "sweep")).trans q8⟩
     ·intro hb
      have har:a=r:=by
       cases n with
       | zero=>cases hgo
       | succ n=>
        rw [goD.eq_2] at hgo
        rw [if_neg (by rw [hb]; decide)] at hgo
        exact Option.some.inj hgo
      subst har
      exact ExE.nil ⟨rfl,a,a0,a7,hd1,q1,q2,q3,q4,q5,q6,q8⟩
   intro fl σ2 w1w
   refine aB w1w λz1z h9=>bV8 h9 λr r0 r7 hd1 q1 q2 q3 q4 q5 q6 q8=> ?_
   try clear w1w
   subst z1z
   show ExE _ _ _ _ _ _ _ _
   rw [hd1] at hsn
   refine ExE.ite _ (b:=r == p.1) (TsE.cmp _ (k1:=true) (k2:=true) (EvE.nm W q1) (EvE.nm W q2) (aB4 _ _ _ _) (by lk)) ?_
   by_cases e1:r=p.1
   ·rw [show (r == p.1)=true by simp [e1]]
    rw [if_pos e1] at hsn
    refine ExE.append _ _ _ _ W (x:=u "row") (ts:=((aE9 gs sw s (ps.take i)).map ch).map T.str) (t:= .str (ch p.2)) ?_ (.inl (by lk)) (by lk) (by lk) (EvE.nm W q3) (by rw [List.length_map,List.length_map]; room) (by lk) (by lk) (by lk) (by lk) (by lk) (by lk) (ExE.nil (ExE.nil ?_))
    ·rw [q4]; lk
    ·refine ⟨?_,q5,q6,q8⟩
     show aM9 (u "row") _ σ2.ow=_
     rw [q4,hsn,List.map_append,List.map_append]
     lk
   ·rw [show (r == p.1)=false by simp [e1]]
    rw [if_neg e1] at hsn
    refine ExE.ite _ (b:=r != 7) (TsE.cmp _ (k1:=true) (k2:=true) (EvE.nm W q1) (EvE.int _ _ _) (aE2 _ _ _ _) (by lk)) ?_
    by_cases e7:r=7
    ·rw [show (r != 7)=false by simp [e7]]
     rw [if_neg (by simp [e7]),List.append_nil] at hsn
     refine ExE.nil (ExE.nil (ExE.nil ⟨?_,q5,q6,q8⟩))
     rw [q4,hsn]
    ·rw [show (r != 7)=true by simp [e7]]
     rw [if_pos e7] at hsn
     have e:((r.toNat:Nat):Int)=r:=Int.toNat_of_nonneg (by assumption)
     refine ExE.append _ _ _ _ W (x:=u "row") (ts:=((aE9 gs sw s (ps.take i)).map ch).map T.str) (t:= .str (ch (aP6 r.toNat))) ?_ (.inl (by lk)) (by lk) (by lk) ?_ (by rw [List.length_map,List.length_map]; room) (by lk) (by lk) (by lk) (by lk) (by lk) (by lk) (ExE.nil (ExE.nil (ExE.nil ?_)))
     ·rw [q4]; lk
     ·exact EvE.callF (n:=0) (o:=bE2) (fd:=aA2 bE2) _ _ W RA.deeper (by lk) (by lk) (by lk) (by lk) rfl (by lk) (by lk) (aC4.cons (EvE.nm W (t:= .int (r.toNat:Nat)) (by rw [e]; exact q1)) aC4.nil) (bI3 w os r.toNat (by room))
     ·refine ⟨?_,q5,q6,q8⟩
      show aM9 (u "row") _ σ2.ow=_
      rw [q4,hsn,List.map_append,List.map_append]
      lk
 ·intro σ1 w1w
  refine aB w1w λj1 _=> ?_
  try clear w1w
  rw [List.length_map,List.take_length] at j1
  have hlen:=aQ0 gs sw s ps
  rw [<- bF4]
  refine ExE.ret _ (EvE.join _ _ (k1:=true) (k2:=false) (EvE.strC _ _ _) (EvE.ow W ?_) ?_ (by lk) (by lk) (by lk)) rfl
  ·rw [j1]; lk
  ·have e:(((aE9 gs sw s ps).map ch).map (·.length)).sum<=(aE9 gs sw s ps).length:=by
    rw [List.map_map]
    induction aE9 gs sw s ps with
    | nil=>exact Nat.le_refl _
    | cons a l ih=>rw [List.map_cons,List.sum_cons,List.length_cons]; have:(ch a).length=1:=rfl; simp only [Function.comp] at ih ⊢; room
   rw [show (Str.ofString "").length=0 from rfl]
   room
theorem Cls.same {env:Env}{cl:List (Str×Addr)}(h:env.cells=cl):Cls env cl []:=
 ⟨λx c e=>by rw [h]; exact e,λx c e=> .inl (by rw [<- h]; exact e),λc hc=>absurd hc List.not_mem_nil,List.nodup_nil⟩
theorem aV0 {α β:Type}[BEq α][LawfulBEq α]{l l':List (α×β)}(p:List.Perm l l')(h:(l.map (·.1)).Nodup)(x:α):l.lookup x=l'.lookup x:=by
 cases e:l.lookup x with
 | some b=>exact (aI3 ((p.map (·.1)).nodup_iff.mp h) (p.mem_iff.mp (aD7 e))).symm
 | none=>
  refine (aJ1 λb hb=> ?_).symm
  rw [aI3 h (p.mem_iff.mpr hb)] at e; cases e
theorem Cls.perm {env:Env}{cl:List (Str×Addr)}(p:List.Perm cl env.cells)(h:(cl.map (·.1)).Nodup):Cls env cl []:=
 ⟨λx c e=>(aV0 p h x).symm.trans e,λx c e=> .inl ((aV0 p h x).trans e),λc hc=>absurd hc List.not_mem_nil,List.nodup_nil⟩
section
variable {w:World}{A:Around}{h0:aA8}{env:Env}{os:OsState}{k:Bool}{σ:Sg}
theorem EvE.nc {x:Str}{t:T}{pos:Pos}(W:Own env)(ht:σ.fz x=some t:=by lk)(hc:(env.cells.lookup x).isSome=true:=by lk)(hd:(x == ("__debug__" :Str))=false:=by lk)(hcd:(x == ("__classdict__" :Str))=false:=by lk):EvE w A h0 env os k σ (.Name x pos) t:=
 EvE.name pos W.kind ht (.inr hc) hd hcd
end
noncomputable def lft (sw:List Int)(s k:Int):Bool:=sw.getD k.toNat 0 == 0 || decide (sw.getD k.toNat 0 > s)
noncomputable def onI (p:Int->Bool):T->Bool
 | .int k=>p k
 | _=>false
theorem aJ4 (p:Int->Bool)(l:List Int):(((l.map T.int).filter (onI p)).map id)=(l.filter p).map T.int:=by
 rw [List.map_id,List.filter_map]; rfl
noncomputable def cM1 (ord sw:List Int)(s:Int):List Int:=(ord++[7]).filter (lft sw s)
noncomputable def aY5 (gs ord sw:List Int)(ps:List (Int×Nat))(i:Nat):T:= .tup [.str ⟨(aE9 gs sw ((i:Int)+1) ps).toArray⟩, .list ((cM1 ord sw ((i:Int)+1)).map T.int)]
noncomputable def aO1 (s:Stmt):Scope:=scE (stE (inS (stE (inS (aB1 s) 1)).2 0)).1
noncomputable abbrev duA (gs ord sw:List Int)(ps:List (Int×Nat))(i:Nat)(σ:Sg):Prop:=σ.ow=[(u "due",(List.range i).map (aY5 gs ord sw ps))]/\σ.fz (u "goals")=some (.list (gs.map T.int))/\σ.fz (u "order")=some (.list (ord.map T.int))/\σ.fz (u "sweeps")=some (.list (sw.map T.int))/\σ.fz (u "spots")=some (.list (ps.map aM5))
theorem cS5 (w:World)(os:OsState)(gs ord sw:List Int)(ps:List (Int×Nat))(M:Nat)(G:aA9 gs)(hsw:sw.length=8)(hord:ord.length=7)(hor:∀ k∈ord,0<=k/\k<7)(hps:ps.length<=1000)(hM:(M:Int)∈sw)(hMx:∀ a∈sw,a<=M)(hM2:M<=100)(hp:∀ s:Int,∀ p∈ps,0<=p.1/\p.1<=7/\(p.1≠7->∃ r,goD gs sw s 20 p.1=some r)):
  FnE w os 2 298 [.list (gs.map T.int), .list (ord.map T.int), .list (sw.map T.int), .list (ps.map aM5)] (.list ((List.range M).map (aY5 gs ord sw ps))):=by
 refine aY4 (o:=bH5) (fd:=aA2 bH5) (body:=aB1 (aA0 29)) (c:=297) (oc:=cX2) [u "goals",u "order",u "sweeps",u "spots"] (by lk) rfl rfl (by lk) rfl rfl rfl
  (al4 λ_ _ _ _=>by lk) rfl (by decide) ?_ rfl rfl rfl rfl λA h0 L RA hcf=> ?_
 ·intro L x hx
  have hx:x=u "goals" \/x=u "order" \/x=u "sweeps" \/x=u "spots" :=by simpa using hx
  rcases hx with rfl | rfl | rfl | rfl
  ·exact .inl (by lk)
  ·exact .inl (by lk)
  ·exact .inr ⟨by lk,by lk⟩
  ·exact .inl (by lk)
 have W:Own (callEnvC (aA2 bH5) L 298):=⟨rfl,rfl,rfl⟩
 have hA:(A.deeper (callEnvC (aA2 bH5) L 298)).handled=none:=RA.handled
 have hz:sizeLine=16777216:=by decide
 have swG:∀ a:Int,0<=a->a<=7->(sw.map T.int)[a.toNat]? =some (.int (sw.getD a.toNat 0)):=λa a0 a1=>by
  rw [List.getElem?_map,List.getElem?_eq_getElem (by room:a.toNat<sw.length),List.getD_eq_getElem?_getD,List.getElem?_eq_getElem (by room:a.toNat<sw.length)]
  rfl
 refine ExE.newList _ _ _ W (ts:=[]) .nil (by lk) (by decide) (by lk) (λp hp=>absurd hp List.not_mem_nil) ?_
 refine ExE.for_ (ts:=aB3 1 M) (J:=duA gs ord sw ps) _ ?_ ?_ ?_ ?_ ?_ ?_
 ·have e:((M:Int)+1 - 1).toNat=M:=by room
  rw [<- e]
  refine ItE.range2 (a:=1) (b:=(M:Int)+1) _ _ W hA (by lk) (by lk) (by lk) (by lk) (EvE.int _ _ _) ?_ ?_
  ·refine EvE.add _ (k1:=true) (k2:=true) ?_ (EvE.int _ _ _)
   exact EvE.maxL _ _ W hA (by lk) (by lk) (by lk) (by lk) (by lk) (k1:=true) (EvE.nc W) hM hMx
  ·have:∀ m:Nat,m<101->Builtin.Range.small 1 ((m:Int)+1) 1=true:=by decide +kernel
   exact this M (by room)
 ·exact ⟨rfl,by lk,by lk,by lk,by lk⟩
 ·exact λit v=>rfl
 ·exact λx=>rfl
 ·intro i t σ1 ht w1w
  refine aL1 w1w λj1 j2 j3 j4 j5=> ?_
  try clear w1w
  rw [aD8] at ht
  have hi:i<M:=by
   by_cases hi:i<M
   ·exact hi
   ·rw [if_neg hi] at ht; cases ht
  rw [if_pos hi] at ht
  cases ht
  have e1:(1:Int)+(i:Int)=(i:Int)+1:=by room
  rw [e1]
  have off:∀ x:Str,u "due" ≠x->∀ q∈σ1.ow,q.1≠x:=λx hx q hq=>by rw [j1] at hq; rw [List.mem_singleton.mp hq]; exact hx
  refine ⟨_,aF5.cell (c:=L+2) _ W (by lk) (by lk) (hcf (u "sweep") (L+2) (by lk)) (off _ (by decide)), ?_⟩
  refine ExE.asgComp (cl:=[(u "sweeps",L+1),(u "sweep",L+2)]) (PC:=[]) (L:=[u "sweeps",u "sweep"]) (ts:=(ord++[7]).map T.int) (p:=onI (lft sw ((i:Int)+1))) (f:=id) (C:=λ_=>True) _ _ _ ⟨Cls.perm (List.Perm.swap _ _ _) (show [u "sweeps",u "sweep"].Nodup by decide),by lk,rfl, ?_, ?_, ?_⟩ hcf (ItC.list hA ?_) trivial (λ_ _=>rfl) (λ_=>rfl) ?_ ?_ (aF5.name _ W (by lk) (off _ (by decide))) (by lk) ?_
  ·intro x hx hl
   have:∀ y∈(aO1 (aA0 29)).names,y.2= .local->(aO1 (aA0 29)).names.lookup y.1=some .local:=by decide +kernel
   exact this x hx hl
  ·have:∀ y∈(aO1 (aA0 29)).names,y.2≠ .cell:=by decide +kernel
   exact this
  ·intro x hx
   have hx:x=u "sweeps" \/x=u "sweep" :=by simpa using hx
   rcases hx with rfl | rfl
   ·exact ⟨by lk,by lk,by lk⟩
   ·exact ⟨by lk,by lk,by lk⟩
  ·rw [List.map_append]
   exact EvE.addL _ (k1:=true) (k2:=true) (EvE.nm W ((by lk:_=σ1.fz (u "order")).trans j3)) (EvE.listD _ (.cons (EvE.int _ _ _) .nil) (by lk) (by decide)) (by simp; room)
  ·simp; room
  ·intro K Cm t ht
   refine aA1 (List.mem_map.mp ht) λa ha z1z=> ?_
   subst z1z
   have a07:0<=a/\a<=7:=by
    rcases List.mem_append.mp ha with h | h
    ·have:=hor a h; room
    ·rw [List.mem_singleton.mp h]; room
   have W2:Own (compEnvC (aO1 (aA0 29)) [(u "sweeps",L+1),(u "sweep",L+2)] Cm (callEnvC (aA2 bH5) L 298)):=⟨rfl,rfl,rfl⟩
   have ok:∀ q∈((σ1.set (u "sweep") (.int ((i:Int)+1))).inn [u "sweeps",u "sweep"]).ow,q.1≠u "k" :=λq hq=>off _ (by decide) q (List.mem_filter.mp hq).1
   refine ⟨_,aF6.name _ W2 (by lk) ok,aP9.one (TsE.or2 _ ?_ λ_=> ?_),λ_=>EvE.nm W2⟩
   ·refine TsE.cmp _ (k1:=true) (k2:=true) ?_ (EvE.int _ _ _) (aB4 _ _ _ _) (by lk)
    exact EvE.idx _ (k1:=true) (k2:=true) (EvE.nc W2 ((by lk:_=σ1.fz (u "sweeps")).trans j4)) (EvE.nm W2) a07.1 (by room) (swG a a07.1 a07.2) (λo j u=>by lk)
   ·refine TsE.cmp _ (k1:=true) (k2:=true) ?_ (EvE.nc W2) (bY0 _ _ _ _) (by lk)
    exact EvE.idx _ (k1:=true) (k2:=true) (EvE.nc W2 ((by lk:_=σ1.fz (u "sweeps")).trans j4)) (EvE.nm W2) a07.1 (by room) (swG a a07.1 a07.2) (λo j u=>by lk)
  rw [aJ4]
  refine ExE.append _ _ _ _ W (x:=u "due") (ts:=(List.range i).map (aY5 gs ord sw ps)) (t:=aY5 gs ord sw ps i) ?_ (.inl (by lk)) (by lk) (by lk) ?_ (by simp; room) (by lk) (by lk) (by lk) (by lk) (by lk) (by lk) (ExE.nil ?_)
  ·show σ1.ow.lookup (u "due")=_
   rw [j1]; lk
  ·refine EvE.tupD _ _ (.cons ?_ (.cons (EvE.nm W) .nil)) (by lk) (by show 2<=sizeLine; decide)
   exact EvE.callF (n:=1) (o:=bM2) (fd:=aA2 bM2) _ _ W RA.deeper (by lk) (by lk) (by lk) (by lk) rfl (by lk) (by lk)
    (.cons (EvE.nm W ((by lk:_=σ1.fz (u "goals")).trans j2)) (.cons (EvE.nc W ((by lk:_=σ1.fz (u "sweeps")).trans j4)) (.cons (EvE.nm W ((by lk:_=σ1.fz (u "spots")).trans j5)) (.cons (EvE.nc W) .nil)))) (bN7 w os gs sw _ ps G hsw hps (hp _))
  ·refine ⟨?_,(by lk:_=σ1.fz (u "goals")).trans j2,(by lk:_=σ1.fz (u "order")).trans j3,(by lk:_=σ1.fz (u "sweeps")).trans j4,(by lk:_=σ1.fz (u "spots")).trans j5⟩
   show aM9 (u "due") _ σ1.ow=_
   rw [j1,List.range_succ,List.map_append]
   lk
 ·intro σ1 w1w
  refine aB w1w λj1 _=> ?_
  try clear w1w
  rw [show (aB3 1 M).length=M by simp [aB3]] at j1
  refine ExE.still (x:=u "due") (ts:=(List.range M).map (aY5 gs ord sw ps)) (by rw [j1]; lk) ?_
  exact ExE.ret _ (EvE.nm W (by lk)) rfl
theorem bB2 {M:Model}{A:Around}{E:VP}{s:Shared}{env:Env}{scope:Scope}{cl:List (Str×Addr)}{x:Str}{Q:Env->Shared->Prop}(hc:∀ n acc,cellsFrom n scope.names acc=(x,n)::acc)(hp:∀ h,pushCells h scope.names=h.push { cls:= .type "cell",data:= .cell none })
  (hQ:Q (newEnv scope s.heap.objs.size env.globals ((x,s.heap.objs.size+1)::cl) env.qual none .none (some env) builtinsNs) { s with heap:=(s.heap.push { cls:= .type "dict",data:= .dict #[] }).push { cls:= .type "cell",data:= .cell none } }):
  wpAny M A (newFunctionEnv scope env.globals cl [] env.qual none .none (some env)) Q E s:=by
 simp only [newFunctionEnv,Option.isSome_some,if_true]
 refine wpAny_bind (wpAny_alloc ?_)
 refine wpAny_bind (wpAny_layCells _ (λname kind cells=>by cases hkc:kind == NameKind.cell<;>simp [hkc]) _ _ _ _ ?_)
 rw [hc,hp]
 rw [show ({ s with heap:=s.heap.push { cls:= .type "dict",data:= .dict #[] } }:Shared).heap.objs.size=s.heap.objs.size+1 from Heap.size_push ..]
 rw [List.forIn_nil]
 exact wpAny_bind (wpAny_pure (wpAny_pure hQ))
section
variable {w:World}{A:Around}{h0:aA8}{env:Env}{os:OsState}{σ:Sg}{k:Bool}{scope:Scope}{cl:List (Str×Addr)}{PC:List Addr}{L:List Str}{B:PM}{O:OL}{m cm:NM}{s:Shared}
theorem Fm.addCell {x:Str}{c C:Addr}(F:Fm w h0 (compEnvC scope cl C env) B O m cm os s)(hc:s.heap.IsCell c none)(hB:B c=none)(hC:c≠C)(hx:cl.lookup x=none)(hcl:∀ y,cl.lookup y≠some c)(hO:∀ p∈O,p.1≠c):
  Fm w h0 (compEnvC scope ((x,c)::cl) C env) B O m (λy=>if y=x then none else cm y) os s:=by
 have key:∀ y d,((x,c)::cl).lookup y=some d->(y=x/\d=c)\/(y≠x/\cl.lookup y=some d):=λy d e=>by
  rw [List.lookup_cons] at e
  by_cases q:y=x
  ·subst q; rw [beq_self_eq_true] at e; cases e; exact .inl ⟨rfl,rfl⟩
  ·rw [beq_eq_false_iff_ne.mpr q] at e; exact .inr ⟨q,e⟩
 refine ⟨F.ns,λy d e=> ?_,F.old,F.sub,F.opn,F.offL,λy d e=> ?_,λy z d e1 e2=> ?_,λp hp=> ?_,F.nod,F.gl,F.gens,F.oss,F.nw⟩
 ·rcases key y d e with ⟨rfl,rfl⟩ | ⟨q,e⟩
  ·rw [if_pos rfl]; exact hc
  ·rw [if_neg q]; exact F.cel y d e
 ·rcases key y d e with ⟨rfl,rfl⟩ | ⟨q,e⟩
  ·exact ⟨hB,hC⟩
  ·exact F.offC y d e
 ·rcases key y d e1 with ⟨rfl,rfl⟩ | ⟨q,e⟩<;>rcases key z d e2 with ⟨rfl,e'⟩ | ⟨q',e'⟩
  ·rfl
  ·exact absurd e' (hcl z)
  ·exact absurd (e' ▸ e) (hcl y)
  ·exact F.cinj y z d e e'
 ·refine aO7 (F.offO p hp) λa1 a2 a3 a4=> ?_
  refine ⟨a1,a2,a3,λy d e=> ?_⟩
  rcases key y d e with ⟨rfl,rfl⟩ | ⟨q,e⟩
  ·exact (hO p hp).symm
  ·exact a4 y d e
structure cJ2 (scope:Scope)(env:Env)(cl:List (Str×Addr))(PC:List Addr)(L:List Str)(x:Str):Prop where
 cls:Cls env cl PC
 clos:closureFor scope env=pure cl
 kind:scope.kind= .function
 names:∀ x∈scope.names,x.2= .local->scope.names.lookup x.1=some .local
 ownC:∀ n acc,cellsFrom n scope.names acc=(x,n)::acc
 ownP:∀ h,pushCells h scope.names=h.push { cls:= .type "cell",data:= .cell none }
 new:cl.lookup x=none
 seen:∀ x∈L,(cl.lookup x).isSome=true/\env.kindOf x=some .cell/\(relabel scope env).names.lookup x=some .cell
theorem EvE.compK {elt target iter:Expr}{ifs:List Expr}{ts:List T}{p:T->Bool}{f:T->T}{C:Sg->Prop}{x:Str}(pos:Pos)(c:cJ2 scope env cl PC L x)(hcf:∀ x c,env.cells.lookup x=some c->h0.h c=none)
  (hi:ItC w A h0 env os σ iter ts C) (hC:C (σ.inn L)) (hlo:∀ it v,letOwnedTupleGo target it v=pure ()) (hfs:∀ x,foldedSetIterable iter env x=pure x) (hsz:ts.length<=sizeLine)
  (turn:∀ (K:(Str->Option Value)->Prop) (Cm:Addr),(∀ cm v,K cm->K (λy=>if y=x then some v else cm y))->(∀ y c,((x,Cm+1)::cl).lookup y=some c->h0.h c=none)->∀ t:T,t∈ts->
   ∃ σ2,aF6 w A h0 (compEnvC scope ((x,Cm+1)::cl) Cm env) os target K (σ.inn L) t σ2/\aP9 w A h0 (compEnvC scope ((x,Cm+1)::cl) Cm env) os σ2 ifs (p t)/\(p t=true->EvE w A h0 (compEnvC scope ((x,Cm+1)::cl) Cm env) os true σ2 elt (f t))):
  EvE w A h0 env os k σ (.ListComp elt [⟨target,iter,ifs,0⟩] scope pos) (.list ((ts.filter p).map f)):=λB O m cm s Q E F R q=>by
 rw [eval_ListComp]
 refine wpAny_comprehension_free (use:=none) rfl hfs c.clos c.kind c.names (hi B O m cm s _ E F R λit o s1 B1 I l1 F1 S I0 self=> ?_)
 have R1:=R.mono l1
 refine wpAny_newObj_type (hd:=by size_fits) (bB2 c.ownC c.ownP ?_)
 dsimp only
 have F2:Fm w h0 env B1 ((s1.heap.objs.size,{ cls:= .type "list",dict:=none,data:= .seq ([]:List Value).toArray })::(it,o)::O) m cm os { s1 with heap:=s1.heap.push { cls:= .type "list",dict:=none,data:= .seq ([]:List Value).toArray },toks:=s1.toks }:=F1.pushO rfl s1.toks
 generalize hH2:s1.heap.push { cls:= .type "list",dict:=none,data:= .seq ([]:List Value).toArray }=H2 at F2 ⊢
 refine aA3 (aK3 F2.ns) λoL hL=> ?_
 obtain ⟨PO,hPO,hPOa⟩:=aP7 F2 (PC:=PC) λc' hc=>aA1 (c.cls.pc c' hc) λx hx _=>⟨x,hx⟩
 have hCn:H2.get? H2.objs.size=none:=aA7
 have hKn:H2.get? (H2.objs.size+1)=none:=by
  cases e:H2.get? (H2.objs.size+1) with
  | none=>rfl
  | some o=>exact absurd (Heap.lt_size e) (Nat.not_lt.mpr (Nat.le_succ _))
 have ke:∀ a o,H2.get? a=some o->((H2.push { cls:= .type "dict",data:= .dict #[] }).push { cls:= .type "cell",data:= .cell none }).get? a=some o:=λa o e=>Heap.get?_push_of_some _ (Heap.get?_push_of_some _ e)
 have hns:((H2.push { cls:= .type "dict",data:= .dict #[] }).push { cls:= .type "cell",data:= .cell none }).Ns H2.objs.size (λ_=>none):=(Heap.Ns.new H2 (.type "dict")).keeps (λb o e=>Heap.get?_push_of_some _ e)
 have hck:((H2.push { cls:= .type "dict",data:= .dict #[] }).push { cls:= .type "cell",data:= .cell none }).IsCell (H2.objs.size+1) none:=by
  refine ⟨{ cls:= .type "cell",data:= .cell none }, ?_,rfl⟩
  have:=Heap.get?_push_size (H2.push { cls:= .type "dict",data:= .dict #[] }) (o:={ cls:= .type "cell",data:= .cell none }) rfl
  rwa [Heap.size_push] at this
 have F3:=aP8 (scope:=scope) (cl:=cl) (C:=H2.objs.size) (h1:=(H2.push { cls:= .type "dict",data:= .dict #[] }).push { cls:= .type "cell",data:= .cell none }) (tk:=s1.toks) F2 c.cls hPO hPOa hL hCn hcf hns ke
 refine aL1 (F2.nobody hKn) λn1 n2 n3 n4 n5=> ?_
 have F3':=F3.addCell (x:=x) hck n1 (Nat.succ_ne_self _) c.new (λy e=>n4 y _ (c.cls.sub y _ e) rfl) (λp hp=>by
  rcases List.mem_cons.mp hp with rfl | hp
  ·exact λz=>n3 z.symm
  ·rcases List.mem_append.mp hp with hp | hp
   ·intro z
    have:=hPOa p hp
    rw [z,hKn] at this; cases this
   ·exact n5 p hp)
 have kinds:∀ y∈L,∀ m' cm',(∀ z∈L,cm' z=cm z)->aB7 (compEnvC scope ((x,H2.objs.size+1)::cl) H2.objs.size env) m' cm' y=aB7 env m cm y:=λy hx m' cm' hc=>by
  refine aC5 (c.seen y hx) λa1 a2 a3=> ?_
  have e1:aB7 env m cm y=cm y:=by unfold aB7; rw [a2]
  have a3:Env.kindOf (compEnvC scope ((x,H2.objs.size+1)::cl) H2.objs.size env) y=some .cell:=a3
  have e2:aB7 (compEnvC scope ((x,H2.objs.size+1)::cl) H2.objs.size env) m' cm' y=cm' y:=by unfold aB7; rw [a3]
  rw [e1,e2,hc y hx]
 refine bD6 (Rel.inn (env':=compEnvC scope ((x,H2.objs.size+1)::cl) H2.objs.size env) R1 kinds) λOi O3 pm hR=> ?_
 have F4:=Fm.perm F3' (bQ5 pm)
 have hfr:∀ y c',((x,H2.objs.size+1)::cl).lookup y=some c'->h0.h c'=none:=λy c' e=>by
  rw [List.lookup_cons] at e
  by_cases q:y=x
  ·subst q; rw [beq_self_eq_true] at e; cases e; exact n2
  ·rw [beq_eq_false_iff_ne.mpr q] at e; exact hcf y c' (c.cls.sub y c' e)
 have ne:∀ y,(cl.lookup y).isSome=true->y≠x:=λy h z=>by rw [z,c.new] at h; cases h
 have loop:codeAny (model pw w) A (.compLoop (.ListComp elt [⟨target,iter,ifs,0⟩] scope pos) 0 (.ref it) (.ref s1.heap.objs.size) (compEnvC scope ((x,H2.objs.size+1)::cl) H2.objs.size env)) (compPost (model pw w) A E none Q (.ref s1.heap.objs.size) H2.objs.size) { s1 with heap:=(H2.push { cls:= .type "dict",data:= .dict #[] }).push { cls:= .type "cell",data:= .cell none },toks:=s1.toks }:=by
  refine bC6 (σ:=σ.inn L) (K:=λcm'=>∀ x,(cl.lookup x).isSome=true->cm' x=cm x) (p:=p) (f:=f) (S _) hC (hlo _) hsz (turn _ _ (λcm' v hK y hy=>(if_neg (ne y hy)).trans (hK y hy)) hfr) (λB' m' cm' l hK=>hR B' m' cm' l λy hy=>hK y (c.seen y hy).1) F4 (λy hy=>(if_neg (ne y hy)).trans (if_pos hy)) I0 ⟨_,rfl⟩ λB' oD' vs m' cm' s' l hK iD V F5=> ?_
  have F6:Fm w h0 (compEnvC scope ((x,H2.objs.size+1)::cl) H2.objs.size env) B' ((env.locals,oL)::(PO++((s1.heap.objs.size,oD')::O))) m' cm' os s':=Fm.perm F5 (bJ4 pm)
  obtain ⟨oC,hoC,F7⟩:=aY1 F2 c.cls hPO hPOa hL (λy c' e=>by
   show ((x,H2.objs.size+1)::cl).lookup y=some c'
   rw [List.lookup_cons,beq_eq_false_iff_ne.mpr (ne y (by rw [e]; rfl))]; exact e) F6 λx c e=>hK x (by rw [e]; rfl)
  refine ⟨m',F6.ns,λh' hsb=> ?_⟩
  have F8:Fm w h0 env B' ([]++(s1.heap.objs.size,oD')::O) m cm os { s' with heap:=h',toks:=s'.toks }:=Fm.drop (O:=[]) F7 hsb.extBut s'.toks
  have F9:=F8.freeze
  have ld:B'.le (B'.put s1.heap.objs.size oD'):=PM.le_put oD' (F8.offO (s1.heap.objs.size,oD') (.head _)).1
  refine q _ _ (B'.put s1.heap.objs.size oD') ((l1.trans l).trans ld) F9 (.of (.list (PM.put_self ..) iD.isL ?_ (V.mono ld)))
  refine aA3 iD λn z1z=> ?_
  try clear iD
  subst z1z
  rfl
 exact codeAny_compStart_list loop (self _ _ _ (F4.opn _ (List.mem_append.mpr (.inr (.head _)))) loop)
end
noncomputable def r7:List Int:=[0,1,2,3,4,5,6]
theorem cS6:aB3 0 7=r7.map T.int:=by lk
theorem bQ7 {a:Int}{n:Nat}:a∈(List.range n).map (λi:Nat=>(i:Int))↔0<=a/\a<n:=by
 rw [List.mem_map]
 constructor
 ·intro h
  refine aA1 h λi hi e=> ?_
  rw [<- e]
  exact ⟨Int.natCast_nonneg i,Int.ofNat_lt.mpr (List.mem_range.mp hi)⟩
 ·intro h
  exact ⟨a.toNat,List.mem_range.mpr (by room),Int.toNat_of_nonneg h.1⟩
theorem aL6 {a:Int}:a∈r7↔0<=a/\a<7:=bQ7 (n:=7)
noncomputable def aH8 (gs:List Int)(g:Int):List Int:=r7.filter λj=>j != g && gs.getD j.toNat 0 == g
noncomputable def aQ1 (gs:List Int):List Int:=r7.filter λk=>(aH8 gs k).isEmpty
noncomputable def aW0 (s:Stmt):Scope:=scE (stE (inS (aB1 s) 0)).1
noncomputable def aR7 (s:Stmt):Scope:=scE (inE (inE (stE (inS (aB1 s) 0)).1 0) 0)
theorem bU6 (w:World)(os:OsState)(gs:List Int)(G:aA9 gs):FnE w os 0 303 [.list (gs.map T.int)] (.list ((aQ1 gs).map T.int)):=by
 refine aY4 (o:=bA8) (fd:=aA2 bA8) (body:=aB1 (aA0 30)) (c:=302) (oc:=cX3) [u "goals"] (by lk) rfl rfl (by lk) rfl rfl rfl
  (al1 λ_=>by lk) rfl (by decide) ?_ rfl rfl rfl rfl λA h0 L RA hcf=> ?_
 ·intro L x hx
  rw [List.mem_singleton.mp hx]
  exact .inr ⟨by lk,by lk⟩
 have W:Own (callEnvC (aA2 bA8) L 303):=⟨rfl,rfl,rfl⟩
 have hA:(A.deeper (callEnvC (aA2 bA8) L 303)).handled=none:=RA.handled
 have RD:(A.deeper (callEnvC (aA2 bA8) L 303)).units<cLine:=RA.in_
 have hz:sizeLine=16777216:=by decide
 refine ExE.ret _ (t:= .list (((r7.map T.int).filter (onI λk=>(aH8 gs k).isEmpty)).map id)) ?_ (by rw [aJ4]; rfl)
 refine EvE.compK (cl:=[(u "goals",L+1)]) (PC:=[]) (L:=[u "goals"]) (x:=u "k") (C:=λ_=>True) _ ⟨Cls.same rfl,by lk,rfl, ?_,λn acc=>rfl,λh=>rfl,by lk, ?_⟩ hcf ?_ trivial (λ_ _=>rfl) (λ_=>rfl) (by decide) ?_
 ·have:∀ y∈(aW0 (aA0 30)).names,y.2= .local->(aW0 (aA0 30)).names.lookup y.1=some .local:=by decide +kernel
  exact this
 ·intro x hx
  rw [List.mem_singleton.mp hx]
  exact ⟨by lk,by lk,by lk⟩
 ·rw [<- cS6]
  exact ItC.range1 (n:=7) (k1:=true) _ _ W hA (by lk) (by lk) (by lk) (by lk) (EvE.int _ _ _) (by decide)
 intro K Cm hK hcf2 t ht
 refine aA1 (List.mem_map.mp ht) λa ha z1z=> ?_
 subst z1z
 have W2:Own (compEnvC (aW0 (aA0 30)) [(u "k",Cm+1),(u "goals",L+1)] Cm (callEnvC (aA2 bA8) L 303)):=⟨rfl,rfl,rfl⟩
 refine ⟨_,aF6.cell (c:=Cm+1) _ W2 (by lk) (by lk) (hcf2 (u "k") (Cm+1) (by lk)) (λq hq=>absurd (List.mem_filter.mp hq).1 List.not_mem_nil) hK,aP9.one ?_,λ_=>EvE.nc W2⟩
 show TsE _ _ _ _ _ _ _ (aH8 gs a).isEmpty
 rw [<- aF3 T.int]
 refine TsE.cmp _ (k1:=true) (k2:=true) (a:= .list ((aH8 gs a).map T.int)) ?_ (EvE.listD _ .nil (by lk) (by decide)) (aN9 RD _ _ _) (by lk)
 unfold aH8
 rw [<- aJ4]
 refine EvE.comp (cl:=[(u "k",Cm+1),(u "goals",L+1)]) (PC:=[]) (L:=[u "goals",u "k"]) (C:=λ_=>True) _ ⟨Cls.same rfl,by lk,rfl, ?_, ?_, ?_⟩ hcf2 ?_ trivial (λ_ _=>rfl) (λ_=>rfl) (by decide) ?_
 ·have:∀ y∈(aR7 (aA0 30)).names,y.2= .local->(aR7 (aA0 30)).names.lookup y.1=some .local:=by decide +kernel
  exact this
 ·have:∀ y∈(aR7 (aA0 30)).names,y.2≠ .cell:=by decide +kernel
  exact this
 ·intro x hx
  have hx:x=u "goals" \/x=u "k" :=by simpa using hx
  rcases hx with rfl | rfl
  ·exact ⟨by lk,by lk,by lk⟩
  ·exact ⟨by lk,by lk,by lk⟩
 ·rw [<- cS6]
  exact ItC.range1 (n:=7) (k1:=true) _ _ W2 hA (by lk) (by lk) (by lk) (by lk) (EvE.int _ _ _) (by decide)
 intro K' Cm' t' ht'
 refine aA1 (List.mem_map.mp ht') λb hb z1z=> ?_
 subst z1z
 have hb:=aL6.mp hb
 have W3:Own (compEnvC (aR7 (aA0 30)) [(u "k",Cm+1),(u "goals",L+1)] Cm' (compEnvC (aW0 (aA0 30)) [(u "k",Cm+1),(u "goals",L+1)] Cm (callEnvC (aA2 bA8) L 303))):=⟨rfl,rfl,rfl⟩
 refine ⟨_,aF6.name _ W3 (by lk) (λq hq=>absurd (List.mem_filter.mp (List.mem_filter.mp hq).1).1 List.not_mem_nil),aP9.one (TsE.and2 _ ?_ λ_=> ?_),λ_=>EvE.nm W3⟩
 ·exact TsE.cmp _ (k1:=true) (k2:=true) (EvE.nm W3) (EvE.nc W3) (aE2 _ _ _ _) (by lk)
 ·refine TsE.cmp _ (k1:=true) (k2:=true) ?_ (EvE.nc W3) (aB4 _ _ _ _) (by lk)
  exact EvE.idx _ (k1:=true) (k2:=true) (EvE.nc W3) (EvE.nm W3) hb.1 (by room) (G.get hb.1 hb.2) (λo j u=>by lk)
section
variable {w:World}{A:Around}{h0:aA8}{env:Env}{os:OsState}{k:Bool}{σ:Sg}{P:FP}{rest:List Stmt}{B:PM}{O X:OL}{m cm:NM}{s:Shared}
theorem Rl.ownC {x:Str}{a:Addr}{o:Obj}{vs:List Value}{ts:List T}(R:Rl env σ B O m cm)(hk:env.kindOf x=some .cell)(hx:∀ p∈σ.ow,p.1≠x)(io:isO o vs)(V:aA6 B vs ts):Rl env (σ.own x ts) B ((a,o)::O) m (λz=>if z=x then some (.ref a) else cm z):=by
 refine aB0 R.ow λO1 Y e r p=> ?_
 refine ⟨λy u h=> ?_,(a,o)::O1,Y,by rw [e]; rfl, .cons ?_ io V (r.names λp hp=>aN8 (hx p hp)),p⟩
 ·unfold Sg.own at h
  dsimp only at h
  by_cases q:y=x
  ·rw [if_pos q] at h; cases h
  ·rw [if_neg q] at h; rw [aN8 q]; exact R.fz y u h
 ·unfold aB7; rw [hk]; exact if_pos rfl
theorem ExE.newListC {x:Str}{c:Addr}{es:List Expr}{ts:List T}(p pl pos:Pos)(W:Own env)(he:aC4 w A h0 env os σ es ts)(hs:backTo pl (starEach es env)=es.map λe=>(false,eval e env))(hz:ts.length<=sizeLine)(hk:env.kindOf x=some .cell)(hc:env.cells.lookup x=some c)(hf:h0.h c=none)(hx:∀ p∈σ.ow,p.1≠x)
  (h:ExE w A h0 env os (σ.own x ts) rest P):ExE w A h0 env os σ (.Assign [.Name x p] (.List es pl) pos::rest) P:=λB O X m cm s Q E F R q=>
 wpAny_execs_cons (wpAny_Assign_Name (wpAny_List (by
  rw [hs]
  refine aE4 he B (O++X) m cm s _ E F (R.rel X) λvs s1 B1 l1 F1 V=>⟨by rw [V.length]; exact hz, ?_⟩
  have F2:=F1.pushO (o:={ cls:= .type "list",data:= .seq vs.toArray }) rfl s1.toks
  refine wpAny_storeName_cell W.kind hk hc (F2.cel x c hc) (λh' hn hsb=> ?_)
  exact h B1 ((s1.heap.objs.size,_)::O) X m _ _ Q E (F2.setCell hc hf hn hsb s1.toks) ((R.mono l1).ownC hk hx ⟨_,rfl⟩ V) (q.mono l1))) rfl)
theorem EvE.owc {x:Str}{ts:List T}{pos:Pos}(W:Own env)(ht:σ.ow.lookup x=some ts)(hc:(env.cells.lookup x).isSome=true:=by lk)(hd:(x == ("__debug__" :Str))=false:=by lk)(hcd:(x == ("__classdict__" :Str))=false:=by lk):EvE w A h0 env os false σ (.Name x pos) (.list ts):=
 EvE.own pos W.kind ht (.inr hc) hd hcd
theorem ExE.extendD {x:Str}{es:List Expr}{ts us:List T}(p1 pl pa pc pos:Pos)(W:Own env)(hx:σ.ow.lookup x=some ts)(hc:env.kindOf x=some .local\/(env.cells.lookup x).isSome=true)(hd:(x == ("__debug__" :Str))=false)(hcd:(x == ("__classdict__" :Str))=false)
  (he:aC4 w A h0 env os σ es us) (hse:backTo pl (starEach es env)=es.map λe=>(false,eval e env)) (hz:ts.length+us.length<=100000)
  (ha:attributeBase (.Name x p1) (u "extend") env (eval (.Name x p1) env)=eval (.Name x p1) env)
  (hl:(pa.endLine == pc.line)=true) (hb:backTo pc (starEach [.List es pl] env)=[(false,eval (.List es pl) env)]) (hi:interactive env=false) (hsw:swapsWith (.Call (.Attribute (.Name x p1) (u "extend") pa) [.List es pl] [] pc) none pos.line env=pure false)
  (h:ExE w A h0 env os (σ.grow x (ts++us)) rest P):ExE w A h0 env os σ (.Expr (.Call (.Attribute (.Name x p1) (u "extend") pa) [.List es pl] [] pc) pos::rest) P:=λB O X m cm s Q E F R q=>by
 have hsz:sizeLine=16777216:=by decide
 refine wpAny_execs_cons (wpAny_Expr_any (wpAny_Call_method1_late ha hl hb ?_) hi hsw)
 refine aB0 R.ow λOO Y z1z rr hh=> ?_
 subst z1z
 refine bG7 (rr.turn hx) λO1 a o O2 vs z1z hlk io V up _=> ?_
 subst z1z
 have hmem:(a,o)∈((O1++(a,o)::O2)++Y)++X:=List.mem_append.mpr (.inl (List.mem_append.mpr (.inl (List.mem_append.mpr (.inr (.head _))))))
 refine wpAny_Name (aI F W.kind hlk hc hcd ?_) hd
 refine aA3 io λn z1z=> ?_
 try clear io
 subst z1z
 have ho:=F.opn _ hmem
 refine ⟨"list", "list.extend",PySem.F.plainAttrs_list,PySem.F.slot_list_extend,PySem.F.type_list_extend,⟨_,ho,rfl⟩,λb e=>by cases e; exact ⟨_,ho,rfl⟩, ?_⟩
 refine callWith_builtin rfl (Calls.evalArgs_plain (Calls.spliced_cons (wpAny_List (by
  rw [hse]
  refine aE4 he B _ m cm s _ E F (R.rel X) λus' s1 B1 l1 F1 Vu=>⟨by rw [Vu.length]; room, ?_⟩
  refine Calls.spliced_nil ?_
  have ho1:=F1.opn _ hmem
  have F2:=F1.push (o:={ cls:= .type "list",data:= .seq us'.toArray }) rfl s1.toks
  have ho2:=F2.opn _ hmem
  have hb2:(s1.heap.push { cls:= .type "list",data:= .seq us'.toArray }).get? s1.heap.objs.size=some { cls:= .type "list",data:= .seq us'.toArray }:=Heap.get?_push_size _ rfl
  refine call_meets PySem.F.slot_list_extend ⟨_,ho2,rfl⟩ PySem.F.entry_list_extend (PySem.F.args_list_extend_2 _ _) (PySem.AutoSeq1.list_extend_list_list_0 a vs.toArray n s1.heap.objs.size us'.toArray _ ?_ ?_ ?_) ⟨ho2,hb2, ?_⟩
  ·rw [List.size_toArray,List.size_toArray,V.length,Vu.length]
   have:Builtin.List.listTooLong (ts.length+us.length)=false:=by
    unfold Builtin.List.listTooLong
    simp; room
   rw [this,Bool.and_false]; decide
  ·rw [List.size_toArray,V.length]; room
  ·rw [List.size_toArray,List.size_toArray,V.length,Vu.length]; room
  obtain ⟨n',e⟩:=aL5 (items:=vs.toArray) (n:=n) (f:=λx=>x++us'.toArray) (l:=vs++us') (by simp)
  have hg:((s1.heap.push { cls:= .type "list",data:= .seq us'.toArray }).update a (Obj.mapSeq λx=>x++us'.toArray)).get? a=some { cls:= .type "list",data:= .seq (vs++us').toArray n' }:=by
   rw [Heap.get?_update_self _ ho2 (by rw [e]; rfl),e]
  have le2:B1.le (B1.put s1.heap.objs.size { cls:= .type "list",data:= .seq us'.toArray }):=PM.le_put _ F1.none_of_fresh
  have F3:Fm w h0 env (B1.put s1.heap.objs.size { cls:= .type "list",data:= .seq us'.toArray }) (O1++(a,({ cls:= .type "list",data:= .seq vs.toArray n }:Obj))::(O2++(Y++X))) m cm os { s1 with heap:=s1.heap.push { cls:= .type "list",data:= .seq us'.toArray },toks:=s1.toks }:=by simpa using F2
  have F4:=F3.turn hg (Heap.SameBut.update ..) s1.toks
  have F5:Fm w h0 env (B1.put s1.heap.objs.size { cls:= .type "list",data:= .seq us'.toArray }) ((O1++(a,({ cls:= .type "list",data:= .seq (vs++us').toArray n' }:Obj))::O2)++Y++X) m cm os { s1 with heap:=(s1.heap.push { cls:= .type "list",data:= .seq us'.toArray }).update a (Obj.mapSeq λx=>x++us'.toArray),toks:=s1.toks }:=by simpa using F4
  have R2:Rl env (σ.grow x (ts++us)) (B1.put s1.heap.objs.size { cls:= .type "list",data:= .seq us'.toArray }) (O1++(a,({ cls:= .type "list",data:= .seq (vs++us').toArray n' }:Obj))::O2++Y) m cm:=by
   refine ⟨((R.mono l1).mono le2).fz,_,Y,rfl, ?_,(hh.mono l1).mono le2⟩
   refine bG7 (((rr.mono l1).mono le2).turn hx) λO1' a' o' O2' vs' e1 e2 io' V' up' _=> ?_
   rw [hlk] at e2
   cases e2
   have key:O1=O1'/\O2=O2':=by
    have d:((O1++(a,({ cls:= .type "list",data:= .seq vs.toArray n }:Obj))::O2).map (·.1)).Nodup:=by
     have:=F.nod
     rw [List.map_append,List.map_append] at this
     exact (List.nodup_append.mp (List.nodup_append.mp this).1).1
    exact aQ9 d e1
   rw [key.1,key.2]
   exact up' _ _ _ ⟨n',rfl⟩ (((V.mono l1).append Vu).mono le2)
  exact h _ _ X m cm _ Q E F5 R2 ((q.mono l1).mono le2)))))
end
noncomputable def aR8 (gs dn:List Int)(g:Int):List Int:=r7.filter λj=>j != g && gs.getD j.toNat 0 == g && !(dn.any (· == j))
noncomputable def aG0 (gs dn:List Int)(k:Int):List T:=
 if ((dn.length:Int) == 7)=true then [.tup [.int 7], .tup []] else if (gs.getD k.toNat 0 == k || gs.getD k.toNat 0 == 7)=true then [.tup []]
 else if (aR8 gs dn (gs.getD k.toNat 0)).isEmpty=true then [.tup [.int (gs.getD k.toNat 0)]] else [.tup []]
noncomputable def aC0 (gs sw:List Int)(s:Int)(acc:List Int×List T)(k:Int):List Int×List T:=
 if (sw.getD k.toNat 0 == s)=true then (acc.1++[k],acc.2++aG0 gs (acc.1++[k]) k) else acc
noncomputable def aB2 (gs ord sw:List Int)(n:Nat):List Int×List T:=
 (List.range n).foldl (λacc (i:Nat)=>ord.foldl (aC0 gs sw ((i:Int)+1)) acc) ([],[.list ((aQ1 gs).map T.int)])
theorem bN8 (gs dn:List Int)(k:Int):(aG0 gs dn k).length<=2:=by
 unfold aG0
 repeat' split
 all_goals simp
theorem aQ2 (gs sw:List Int)(s:Int):∀ (l:List Int) (acc:List Int×List T),(l.foldl (aC0 gs sw s) acc).1.length<=acc.1.length+l.length/\(l.foldl (aC0 gs sw s) acc).2.length<=acc.2.length+2 * l.length
 | [],acc=>⟨by simp,by simp⟩
 | k::l,acc=>by
  have h:=aQ2 gs sw s l (aC0 gs sw s acc k)
  have h1:(aC0 gs sw s acc k).1.length<=acc.1.length+1/\(aC0 gs sw s acc k).2.length<=acc.2.length+2:=by
   unfold aC0
   have:=bN8 gs (acc.1++[k]) k
   split<;>simp<;>room
  rw [List.foldl_cons]
  simp only [List.length_cons]
  room
theorem aR9 (gs ord sw:List Int)(h:ord.length=7):∀ n,(aB2 gs ord sw n).1.length<=7 * n/\(aB2 gs ord sw n).2.length<=1+14 * n
 | 0=>by simp [aB2]
 | n+1=>by
  have:=aR9 gs ord sw h n
  have e:aB2 gs ord sw (n+1)=ord.foldl (aC0 gs sw ((n:Int)+1)) (aB2 gs ord sw n):=by
   unfold aB2; rw [List.range_succ,List.foldl_append]; rfl
  rw [e]
  have h2:=aQ2 gs sw ((n:Int)+1) ord (aB2 gs ord sw n)
  room
theorem bB3 (gs ord sw:List Int)(n:Nat):aB2 gs ord sw (n+1)=ord.foldl (aC0 gs sw ((n:Int)+1)) (aB2 gs ord sw n):=by
 unfold aB2; rw [List.range_succ,List.foldl_append]; rfl
noncomputable def aS0 (s:Stmt):Scope:=scE (inE (stE ((stE ((stE (inS (stE (inS (stE (inS (stE (inS (aB1 s) 2)).2 0)).2 0)).2 2)).2.getLastD (.Pass aM3))).2.getLastD (.Pass aM3))).1 0)
noncomputable abbrev gvA (gs ord sw:List Int)(i:Nat)(σ:Sg):Prop:=σ.ow=[(u "done",(aB2 gs ord sw i).1.map T.int),(u "given",(aB2 gs ord sw i).2)]/\σ.fz (u "goals")=some (.list (gs.map T.int))/\σ.fz (u "order")=some (.list (ord.map T.int))/\σ.fz (u "sweeps")=some (.list (sw.map T.int))
noncomputable abbrev gvB (gs ord sw:List Int)(i:Nat)(acc:List Int×List T)(σ:Sg):Prop:=σ.ow=[(u "done",acc.1.map T.int),(u "given",acc.2)]/\
   σ.fz (u "goals")=some (.list (gs.map T.int))/\σ.fz (u "order")=some (.list (ord.map T.int))/\σ.fz (u "sweeps")=some (.list (sw.map T.int))/\σ.fz (u "sweep")=some (.int ((i:Int)+1))
theorem cB1 (w:World)(os:OsState)(gs ord sw:List Int)(M:Nat)(G:aA9 gs)(hsw:sw.length=8)(hord:ord.length=7)(hor:∀ k∈ord,0<=k/\k<7)(hM:(M:Int)∈sw)(hMx:∀ a∈sw,a<=M)(hM2:M<=100):
  FnE w os 1 308 [.list (gs.map T.int), .list (ord.map T.int), .list (sw.map T.int)] (.list (aB2 gs ord sw M).2):=by
 refine aY4 (o:=bE4) (fd:=aA2 bE4) (body:=aB1 (aA0 31)) (c:=307) (oc:=cX4) [u "goals",u "order",u "sweeps"] (by lk) rfl rfl (by lk) rfl rfl rfl
  (al3 λ_ _ _=>by lk) rfl (by decide) ?_ rfl rfl rfl rfl λA h0 L RA hcf=> ?_
 ·intro L x hx
  have hx:x=u "goals" \/x=u "order" \/x=u "sweeps" :=by simpa using hx
  rcases hx with rfl | rfl | rfl
  ·exact .inr ⟨by lk,by lk⟩
  ·exact .inl (by lk)
  ·exact .inl (by lk)
 have W:Own (callEnvC (aA2 bE4) L 308):=⟨rfl,rfl,rfl⟩
 have hA:(A.deeper (callEnvC (aA2 bE4) L 308)).handled=none:=RA.handled
 have RD:(A.deeper (callEnvC (aA2 bE4) L 308)).units<cLine:=RA.in_
 have hz:sizeLine=16777216:=by decide
 have swG:∀ a:Int,0<=a->a<=7->(sw.map T.int)[a.toNat]? =some (.int (sw.getD a.toNat 0)):=λa a0 a1=>by
  rw [List.getElem?_map,List.getElem?_eq_getElem (by room:a.toNat<sw.length),List.getD_eq_getElem?_getD,List.getElem?_eq_getElem (by room:a.toNat<sw.length)]
  rfl
 refine ExE.newList _ _ _ W (ts:=[.list ((aQ1 gs).map T.int)]) ?_ (by lk) (by show 1<=sizeLine; decide) (by lk) (λp hp=>absurd hp List.not_mem_nil) ?_
 ·exact .cons (EvE.callF (n:=0) (o:=bA8) (fd:=aA2 bA8) _ _ W RA.deeper (by lk) (by lk) (by lk) (by lk) rfl (by lk) (by lk) (.cons (EvE.nc W) .nil) (bU6 w os gs G)) .nil
 refine ExE.newListC (c:=L+2) _ _ _ W (ts:=[]) .nil (by lk) (by decide) (by lk) (by lk) (hcf (u "done") (L+2) (by lk)) (λq hq=>by rw [List.mem_singleton.mp hq]; show u "given" ≠u "done"; decide) ?_
 refine ExE.for_ (ts:=aB3 1 M) (J:=gvA gs ord sw) _ ?_ ?_ ?_ ?_ ?_ ?_
 ·have e:((M:Int)+1 - 1).toNat=M:=by room
  rw [<- e]
  refine ItE.range2 (a:=1) (b:=(M:Int)+1) _ _ W hA (by lk) (by lk) (by lk) (by lk) (EvE.int _ _ _) ?_ ?_
  ·refine EvE.add _ (k1:=true) (k2:=true) ?_ (EvE.int _ _ _)
   exact EvE.maxL _ _ W hA (by lk) (by lk) (by lk) (by lk) (by lk) (k1:=true) (EvE.nm W) hM hMx
  ·have:∀ m:Nat,m<101->Builtin.Range.small 1 ((m:Int)+1) 1=true:=by decide +kernel
   exact this M (by room)
 ·exact ⟨rfl,by lk,by lk,by lk⟩
 ·exact λit v=>rfl
 ·exact λx=>rfl
 ·intro i t σ1 ht w1w
  refine aO7 w1w λj1 j2 j3 j4=> ?_
  try clear w1w
  rw [aD8] at ht
  have hi:i<M:=by
   by_cases hi:i<M
   ·exact hi
   ·rw [if_neg hi] at ht; cases ht
  rw [if_pos hi] at ht
  cases ht
  have e1:(1:Int)+(i:Int)=(i:Int)+1:=by room
  rw [e1]
  have off:∀ x:Str,u "done" ≠x->u "given" ≠x->∀ q∈σ1.ow,q.1≠x:=λx hx hx' q hq=>by
   rw [j1] at hq
   rcases List.mem_cons.mp hq with rfl | hq
   ·exact hx
   ·rw [List.mem_singleton.mp hq]; exact hx'
  refine ⟨_,aF5.name _ W (by lk) (off _ (by decide) (by decide)), ?_⟩
  have gl:=aR9 gs ord sw hord i
  refine ExE.for_ (ts:=ord.map T.int) (J:=λj=>gvB gs ord sw i ((ord.take j).foldl (aC0 gs sw ((i:Int)+1)) (aB2 gs ord sw i))) _ ?_ ?_ ?_ ?_ ?_ ?_
  ·exact ItE.list hA (EvE.nm W ((by lk:_=σ1.fz (u "order")).trans j3))
  ·exact ⟨j1,(by lk:_=σ1.fz (u "goals")).trans j2,(by lk:_=σ1.fz (u "order")).trans j3,(by lk:_=σ1.fz (u "sweeps")).trans j4,by lk⟩
  ·exact λit v=>rfl
  ·exact λx=>rfl
  ·intro j t σ2 ht w1w
   refine aL1 w1w λq1 q2 q3 q4 q5=> ?_
   try clear w1w
   rw [List.getElem?_map] at ht
   cases hk:ord[j]? with
   | none=>rw [hk] at ht; cases ht
   | some k=>
   rw [hk] at ht
   cases ht
   have k7:=hor k (List.mem_of_getElem? hk)
   have step:(ord.take (j+1)).foldl (aC0 gs sw ((i:Int)+1)) (aB2 gs ord sw i)=aC0 gs sw ((i:Int)+1) ((ord.take j).foldl (aC0 gs sw ((i:Int)+1)) (aB2 gs ord sw i)) k:=by
    rw [List.take_add_one,hk,List.foldl_append]; rfl
   rw [step]
   have fl:=aQ2 gs sw ((i:Int)+1) (ord.take j) (aB2 gs ord sw i)
   have tl:(ord.take j).length<=7:=by rw [List.length_take]; room
   generalize hacc:(ord.take j).foldl (aC0 gs sw ((i:Int)+1)) (aB2 gs ord sw i)=acc at *
   obtain ⟨D,V⟩:=acc
   dsimp only at q1 fl
   have off:∀ x:Str,u "done" ≠x->u "given" ≠x->∀ q∈σ2.ow,q.1≠x:=λx hx hx' q hq=>by
    rw [q1] at hq
    rcases List.mem_cons.mp hq with rfl | hq
    ·exact hx
    ·rw [List.mem_singleton.mp hq]; exact hx'
   refine ⟨_,aF5.name _ W (by lk) (off _ (by decide) (by decide)), ?_⟩
   refine ExE.ite _ (b:=sw.getD k.toNat 0 == (i:Int)+1) ?_ ?_
   ·refine TsE.cmp _ (k1:=true) (k2:=true) ?_ (EvE.nm W ((by lk:_=σ2.fz (u "sweep")).trans q5)) (aB4 _ _ _ _) (by lk)
    exact EvE.idx _ (k1:=true) (k2:=true) (EvE.nm W ((by lk:_=σ2.fz (u "sweeps")).trans q4)) (EvE.nm W) k7.1 (by room) (swG k k7.1 (by room)) (λo j u=>by lk)
   have hst:aC0 gs sw ((i:Int)+1) (D,V) k=if (sw.getD k.toNat 0 == (i:Int)+1)=true then (D++[k],V++aG0 gs (D++[k]) k) else (D,V):=rfl
   cases hb:sw.getD k.toNat 0 == (i:Int)+1 with
   | false=>
    refine ExE.nil ?_
    show ExE _ _ _ _ _ _ _ _
    refine ExE.nil ⟨?_,(by lk:_=σ2.fz (u "goals")).trans q2,(by lk:_=σ2.fz (u "order")).trans q3,(by lk:_=σ2.fz (u "sweeps")).trans q4,(by lk:_=σ2.fz (u "sweep")).trans q5⟩
    rw [hst,hb,if_neg Bool.false_ne_true]
    exact q1
   | true=>
    rw [hst,hb,if_pos rfl]
    show ExE _ _ _ _ _ _ (_::_) _
    refine ExE.append _ _ _ _ W (x:=u "done") (ts:=D.map T.int) (t:= .int k) ?_ (.inr (by lk)) (by lk) (by lk) (EvE.nm W) (by rw [List.length_map]; room) (by lk) (by lk) (by lk) (by lk) (by lk) (by lk) ?_
    ·show σ2.ow.lookup (u "done")=_
     rw [q1]; lk
    generalize hσ3:(σ2.set (u "k") (T.int k)).grow (u "done") (D.map T.int++[T.int k])=σ3
    have p1:σ3.ow=[(u "done",(D++[k]).map T.int),(u "given",V)]:=by
     rw [<- hσ3]
     show aM9 _ _ σ2.ow=_
     rw [q1,List.map_append]; lk
    have p2:σ3.fz (u "goals")=some (.list (gs.map T.int)):=by rw [<- hσ3]; exact (by lk:_=σ2.fz (u "goals")).trans q2
    have p3:σ3.fz (u "order")=some (.list (ord.map T.int)):=by rw [<- hσ3]; exact (by lk:_=σ2.fz (u "order")).trans q3
    have p4:σ3.fz (u "sweeps")=some (.list (sw.map T.int)):=by rw [<- hσ3]; exact (by lk:_=σ2.fz (u "sweeps")).trans q4
    have p5:σ3.fz (u "sweep")=some (.int ((i:Int)+1)):=by rw [<- hσ3]; exact (by lk:_=σ2.fz (u "sweep")).trans q5
    have p6:σ3.fz (u "k")=some (.int k):=by rw [<- hσ3]; lk
    clear hσ3 q1 q2 q3 q4 q5
    have off3:∀ x:Str,u "done" ≠x->u "given" ≠x->∀ q∈σ3.ow,q.1≠x:=λx hx hx' q hq=>by
     rw [p1] at hq
     rcases List.mem_cons.mp hq with rfl | hq
     ·exact hx
     ·rw [List.mem_singleton.mp hq]; exact hx'
    refine ExE.assignC (c:=L+3) _ _ W (t:= .int (gs.getD k.toNat 0)) ?_ (by lk) (by lk) (hcf (u "goal") (L+3) (by lk)) (off3 _ (by decide) (by decide)) (by lk) ?_
    ·exact EvE.idx _ (k1:=true) (k2:=true) (EvE.nc W p2) (EvE.nm W p6) k7.1 (by room) (G.get k7.1 k7.2) (λo j u=>by lk)
    generalize hg:gs.getD k.toNat 0=g
    have g7:0<=g/\g<=7:=by rw [<- hg]; exact G.rng _ (by room)
    have done_:∀ (us:List T) (σ':Sg),σ'.ow=[(u "done",(D++[k]).map T.int),(u "given",us)]->us=V++aG0 gs (D++[k]) k->σ'.fz=(σ3.set (u "goal") (.int g)).fz->σ'.ow=[(u "done",(D++[k]).map T.int),(u "given",V++aG0 gs (D++[k]) k)]/\σ'.fz (u "goals")=some (.list (gs.map T.int))/\σ'.fz (u "order")=some (.list (ord.map T.int))/\σ'.fz (u "sweeps")=some (.list (sw.map T.int))/\σ'.fz (u "sweep")=some (.int ((i:Int)+1)):=by
     intro us σ' h1 h2 h3
     refine ⟨by rw [h1,h2], ?_, ?_, ?_, ?_⟩
     ·rw [h3]; exact (by lk:_=σ3.fz (u "goals")).trans p2
     ·rw [h3]; exact (by lk:_=σ3.fz (u "order")).trans p3
     ·rw [h3]; exact (by lk:_=σ3.fz (u "sweeps")).trans p4
     ·rw [h3]; exact (by lk:_=σ3.fz (u "sweep")).trans p5
    have hout:aG0 gs (D++[k]) k=if (((D++[k]).length:Int) == 7)=true then [.tup [.int 7], .tup []] else if (g == k || g == 7)=true then [.tup []] else if (aR8 gs (D++[k]) g).isEmpty=true then [.tup [.int g]] else [.tup []]:=by
     unfold aG0; rw [hg]
    have luV:(σ3.set (u "goal") (.int g)).ow.lookup (u "given")=some V:=by
     show σ3.ow.lookup _=_
     rw [p1]; lk
    have grow:∀ us:List T,((σ3.set (u "goal") (.int g)).grow (u "given") us).ow=[(u "done",(D++[k]).map T.int),(u "given",us)]:=λus=>by
     show aM9 _ _ σ3.ow=_
     rw [p1]; lk
    refine ExE.ite _ (b:=((D++[k]).length:Int) == 7) ?_ ?_
    ·refine TsE.cmp _ (k1:=true) (k2:=true) ?_ (EvE.int _ _ _) (aB4 _ _ _ _) (by lk)
     rw [show (((D++[k]).length:Nat):Int)=(((D++[k]).map T.int).length:Int) by rw [List.length_map]]
     refine EvE.lenN W (k1:=false) (EvE.owc W ?_) ?_
     ·show σ3.ow.lookup _=_
      rw [p1]; lk
     ·rw [List.length_map,List.length_append]; simp; room
    cases h7:(((D++[k]).length:Int) == 7) with
    | true=>
     show ExE _ _ _ _ _ _ (_::_) _
     refine ExE.extendD (us:=[.tup [.int 7], .tup []]) _ _ _ _ _ W luV (.inl (by lk)) (by lk) (by lk) ?_ (by lk) (by simp; room) (by lk) (by lk) (by lk) (by lk) (by lk) ?_
     ·exact .cons (EvE.tupD _ _ (.cons (EvE.int _ _ _) .nil) (by lk) (by decide)) (.cons (EvE.tupD _ _ .nil (by lk) (by decide)) .nil)
     refine ExE.nil ?_
     show ExE _ _ _ _ _ _ _ _
     refine ExE.nil ?_
     show ExE _ _ _ _ _ _ _ _
     refine ExE.nil (done_ _ _ (grow _) ?_ rfl)
     rw [hout,h7,if_pos rfl]
    | false=>
     show ExE _ _ _ _ _ _ (_::_) _
     refine ExE.ite _ (b:=g == k || g == 7) ?_ ?_
     ·refine TsE.or2 _ ?_ λ_=> ?_
      ·exact TsE.cmp _ (k1:=true) (k2:=true) (EvE.nc W) (EvE.nm W ((by lk:_=σ3.fz (u "k")).trans p6)) (aB4 _ _ _ _) (by lk)
      ·exact TsE.cmp _ (k1:=true) (k2:=true) (EvE.nc W) (EvE.int _ _ _) (aB4 _ _ _ _) (by lk)
     cases hc:(g == k || g == 7) with
     | true=>
      show ExE _ _ _ _ _ _ (_::_) _
      refine ExE.append _ _ _ _ W (x:=u "given") (ts:=V) (t:= .tup []) luV (.inl (by lk)) (by lk) (by lk) (EvE.tupD _ _ .nil (by lk) (by decide)) (by room) (by lk) (by lk) (by lk) (by lk) (by lk) (by lk) ?_
      iterate 3
       refine ExE.nil ?_
       show ExE _ _ _ _ _ _ _ _
      refine ExE.nil (done_ _ _ (grow _) ?_ rfl)
      rw [hout,h7,hc]; rfl
     | false=>
      show ExE _ _ _ _ _ _ (_::_) _
      have gk:g≠k/\g≠7:=by
       rw [Bool.or_eq_false_iff] at hc
       exact ⟨by simpa using hc.1,by simpa using hc.2⟩
      refine ExE.ite _ (b:=(aR8 gs (D++[k]) g).isEmpty) ?_ ?_
      ·rw [<- aF3 T.int]
       refine TsE.cmp _ (k1:=true) (k2:=true) (a:= .list ((aR8 gs (D++[k]) g).map T.int)) ?_ (EvE.listD _ .nil (by lk) (by decide)) (aN9 RD _ _ _) (by lk)
       unfold aR8
       rw [<- aJ4]
       refine EvE.comp (cl:=[(u "goals",L+1),(u "goal",L+3),(u "done",L+2)]) (PC:=[]) (L:=[u "done",u "goal",u "goals"]) (C:=λ_=>True) _ ⟨Cls.perm ((List.Perm.swap _ _ _).trans ((List.Perm.swap _ _ _).cons _)) (show [u "goals",u "goal",u "done"].Nodup by decide),by lk,rfl, ?_, ?_, ?_⟩ hcf ?_ trivial (λ_ _=>rfl) (λ_=>rfl) (by decide) ?_
       ·have:∀ y∈(aS0 (aA0 31)).names,y.2= .local->(aS0 (aA0 31)).names.lookup y.1=some .local:=by decide +kernel
        exact this
       ·have:∀ y∈(aS0 (aA0 31)).names,y.2≠ .cell:=by decide +kernel
        exact this
       ·intro x hx
        have hx:x=u "done" \/x=u "goal" \/x=u "goals" :=by simpa using hx
        rcases hx with rfl | rfl | rfl
        ·exact ⟨by lk,by lk,by lk⟩
        ·exact ⟨by lk,by lk,by lk⟩
        ·exact ⟨by lk,by lk,by lk⟩
       ·rw [<- cS6]
        exact ItC.range1 (n:=7) (k1:=true) _ _ W hA (by lk) (by lk) (by lk) (by lk) (EvE.int _ _ _) (by decide)
       intro K Cm t ht
       refine aA1 (List.mem_map.mp ht) λb hb' z1z=> ?_
       subst z1z
       have hb':=aL6.mp hb'
       have W2:Own (compEnvC (aS0 (aA0 31)) [(u "goals",L+1),(u "goal",L+3),(u "done",L+2)] Cm (callEnvC (aA2 bE4) L 308)):=⟨rfl,rfl,rfl⟩
       refine ⟨_,aF6.name _ W2 (by lk) (λq hq=>off3 _ (by decide) (by decide) q (List.mem_filter.mp hq).1),aP9.one (TsE.and3 _ ?_ (λ_=> ?_) λ_ _=> ?_),λ_=>EvE.nm W2⟩
       ·exact TsE.cmp _ (k1:=true) (k2:=true) (EvE.nm W2) (EvE.nc W2) (aE2 _ _ _ _) (by lk)
       ·refine TsE.cmp _ (k1:=true) (k2:=true) ?_ (EvE.nc W2) (aB4 _ _ _ _) (by lk)
        exact EvE.idx _ (k1:=true) (k2:=true) (EvE.nc W2 ((by lk:_=σ3.fz (u "goals")).trans p2)) (EvE.nm W2) hb'.1 (by room) (G.get hb'.1 hb'.2) (λo j u=>by lk)
       ·refine TsE.cmp _ (k1:=true) (k2:=false) (EvE.nm W2) (EvE.owc W2 (ts:=(D++[k]).map T.int) ?_) (bB8 _ _ _ _) (by lk)
        show (σ3.ow.filter _).lookup _=_
        rw [p1]; lk
      cases he:(aR8 gs (D++[k]) g).isEmpty with
      | true=>
       show ExE _ _ _ _ _ _ (_::_) _
       refine ExE.append _ _ _ _ W (x:=u "given") (ts:=V) (t:= .tup [.int g]) luV (.inl (by lk)) (by lk) (by lk) (EvE.tupD _ _ (.cons (EvE.nc W) .nil) (by lk) (by show 1<=sizeLine; decide)) (by room) (by lk) (by lk) (by lk) (by lk) (by lk) (by lk) ?_
       iterate 4
        refine ExE.nil ?_
        show ExE _ _ _ _ _ _ _ _
       refine ExE.nil (done_ _ _ (grow _) ?_ rfl)
       rw [hout,h7,hc,he]; rfl
      | false=>
       show ExE _ _ _ _ _ _ (_::_) _
       refine ExE.append _ _ _ _ W (x:=u "given") (ts:=V) (t:= .tup []) luV (.inl (by lk)) (by lk) (by lk) (EvE.tupD _ _ .nil (by lk) (by decide)) (by room) (by lk) (by lk) (by lk) (by lk) (by lk) (by lk) ?_
       iterate 4
        refine ExE.nil ?_
        show ExE _ _ _ _ _ _ _ _
       refine ExE.nil (done_ _ _ (grow _) ?_ rfl)
       rw [hout,h7,hc,he]; rfl
  ·intro σ2 w1w
   refine aL1 w1w λq1 q2 q3 q4 q5=> ?_
   try clear w1w
   refine ExE.nil ⟨?_,q2,q3,q4⟩
   rw [List.length_map,List.take_length] at q1
   rw [bB3]; exact q1
 ·intro σ1 w1w
  refine aB w1w λj1 _=> ?_
  try clear w1w
  rw [show (aB3 1 M).length=M by simp [aB3]] at j1
  refine ExE.still (x:=u "given") (ts:=(aB2 gs ord sw M).2) (by rw [j1]; lk) ?_
  exact ExE.ret _ (EvE.nm W (by lk)) rfl
theorem aE0 {n:Nat}{w:World}{os:OsState}{a c:Addr}{o oc:Obj}{fd:FuncData}{body:List Stmt}{as as':List T}{hp:Hp}{P:Rs->Hp->Prop}(names:List Str){cvs:Array Value}{tk:Tok}(ho:(H1 w.params).get? a=some o)(hdata:o.data= .func fd)
  (hcd:fd.code= .ref c) (hc:(H1 w.params).get? c=some oc) (hcv:oc.data= .fields cvs) (hcq:cvs[1]? =some (.str fd.qualname tk))
  (hbody:fd.body= .stmts body) (hbind:aF4 w fd as names as') (hnl:names.length=as'.length) (hnd:names.Nodup) (hcell:fd.scope.names.all (λx=>x.2 != .cell)=true) (hloc:names.all (λx=>fd.scope.names.lookup x == some .local)=true)
  (hco:fd.scope.isCoroutine=false) (hgen:fd.scope.isGenerator=false) (hk:fd.scope.kind= .function) (hcl:fd.closure=[])
  (h:∀ (A:Around) (h0:aA8) (L:Addr),aD6 n A->Frm A hp->hp L=none->ExE w (A.deeper (callEnv fd L a)) h0 (callEnv fd L a) os ⟨λx=>(names.zip as').lookup x,[],hp⟩ body (fnP P (aA4 hp))):FnH w os n a as hp P:=
 FnH.of_body ho hdata (aV9 _) ⟨c,oc,cvs,tk,hcd,hc,hcv,hcq⟩ hbody hbind hnl hnd
  (λx hx e=>by have:=List.all_eq_true.mp hcell x hx; rw [e] at this; cases this) (λx hx=>eq_of_beq (List.all_eq_true.mp hloc x hx)) hco hgen hk hcl h
theorem aB5 (hp:Hp)(a:Addr)(b:Ob):hp.put a b a=some b:=if_pos rfl
theorem put_ne {hp:Hp}{a x:Addr}(b:Ob)(h:x≠a):hp.put a b x=hp x:=if_neg h
theorem aC2 (x:Str){σ:Sg}(h:σ.ow=[]):∀ p∈σ.ow,p.1≠x:=by rw [h]; exact λp hp=>absurd hp List.not_mem_nil
theorem bU7 (w:World)(os:OsState)(hp:Hp)(x:Addr)(k:Int)(hx:hp x=some (.slt 40 [])):FnH w os 0 36 [.obj x, .int k] hp (λr hp'=>r= .val .none/\∃ l,hp l=none/\∀ y,hp' y=if y=l then some (.lst []) else if y=x then some (.slt 40 [.int k, .int 0, .obj l]) else hp y):=by
 refine aE0 (o:=o36) (fd:=aA2 o36) (body:=aB1 (mAt 4 1)) (c:=35) (oc:=o35) [u "self",u "node"] (by lk) rfl rfl (by lk) rfl rfl rfl
  (aF4.plain (al2 λ_ _=>by lk)) rfl (by decide) (by lk) (by lk) rfl rfl rfl rfl λA h0 L RA FA hL=> ?_
 have W:Own (callEnv (aA2 o36) L 36):=⟨rfl,rfl,rfl⟩
 refine ExE.asgS _ _ (t:= .int k) (k1:=true) ?_ ?_ hx (bC5 _) ?_ ?_ ?_
 ·exact EvE.nm W
 ·exact EvE.nm W
 ·exact Nat.zero_le _
 ·lk
 refine ExE.asgS _ _ (t:= .int 0) (a:=x) (ts:=[.int k]) (k1:=true) ?_ ?_ ?_ (aH6 _) ?_ ?_ ?_
 ·exact EvE.int _ _ _
 ·exact EvE.nm W
 ·exact aB5 _ _ _
 ·exact Nat.le_refl _
 ·lk
 refine ExE.asgSH _ _ (aR2 _) ?_ ?_
 ·lk
 refine EvH.listO (ts:=[]) _ .nil ?_ ?_ λl hl=> ?_
 ·lk
 ·decide
 have hl:(hp.put x (.slt 40 [.int k])).put x (.slt 40 [.int k, .int 0]) l=none:=hl
 have hxl:l≠x:=λz=>by rw [z,aB5] at hl; cases hl
 refine ⟨x,[.int k, .int 0], ?_, ?_, ?_, ?_⟩
 ·exact EvE.nm W
 ·exact (put_ne _ hxl.symm).trans (aB5 _ _ _)
 ·exact Nat.le_refl _
 have hl0:hp l=none:=by
  rwa [put_ne _ hxl,put_ne _ hxl] at hl
 refine ExE.nil ⟨?_,rfl,l,hl0,λy=> ?_⟩
 ·refine aA4.put (aA4.put (aA4.put (aA4.put (aA4.refl _) ?_) ?_) ?_) ?_
  ·exact λo z=>by cases hx.symm.trans z
  ·exact λo z=>by cases (aB5 _ _ _).symm.trans z
  ·exact λo z=>by cases hl.symm.trans z
  ·exact λo z=>by cases ((put_ne _ hxl.symm).trans (aB5 _ _ _)).symm.trans z
 ·show (((hp.put x (.slt 40 [.int k])).put x (.slt 40 [.int k, .int 0])).put l (.lst [])).put x (.slt 40 [.int k, .int 0, .obj l]) y=_
  unfold Hp.put
  by_cases e1:y=l
  ·subst e1
   rw [if_neg hxl,if_pos rfl,if_pos rfl]
  ·by_cases e2:y=x
   ·subst e2
    rw [if_pos rfl,if_neg e1,if_pos rfl]
   ·rw [if_neg e2,if_neg e1,if_neg e2,if_neg e2,if_neg e1,if_neg e2]
structure SD where
 nodes:List Int
 np:Int->Int
 suc:Int->List Int
 rdy:Option (List Int)
 out:Int
 fin:Int
structure SA where
 d:Addr
 n:Addr
 r:Addr
 inf:Int->Addr
 sl:Int->Addr
 ep:Nat
noncomputable def rT (G:SA):Option (List Int)->T
 | none=> .none
 | some _=> .obj G.r
noncomputable def aC3 (G:SA)(S:SD):List (Str×T):=[(u "_node2info", .obj G.n),(u "_ready_nodes",rT G S.rdy),(u "_npassedout", .int S.out),(u "_nfinished", .int S.fin)]
noncomputable def aH (G:SA)(l:List Int):List (Int×T):=l.map λk=>(k, .obj (G.inf k))
structure Srt (hp:Hp)(a:Addr)(G:SA)(S:SD):Prop where
 ins:hp a=some (.ins 137 G.d)
 ns:hp G.d=some (.ns (aC3 G S))
 dct:hp G.n=some (.dct (aH G S.nodes) G.ep)
 inf:∀ k∈S.nodes,hp (G.inf k)=some (.slt 40 [.int k, .int (S.np k), .obj (G.sl k)])
 sl:∀ k∈S.nodes,hp (G.sl k)=some (.lst ((S.suc k).map T.int))
 rdy:∀ l,S.rdy=some l->hp G.r=some (.lst (l.map T.int))
 inj:∀ j∈S.nodes,∀ k∈S.nodes,G.sl j=G.sl k->j=k
 rne:S.rdy≠none->∀ k∈S.nodes,G.sl k≠G.r
 nod:S.nodes.Nodup
noncomputable def aV8 (a:Addr)(G:SA)(S:SD)(y:Addr):Prop:=y=a\/y=G.d\/y=G.n\/(∃ k∈S.nodes,y=G.inf k\/y=G.sl k)\/(S.rdy≠none/\y=G.r)
section
variable {hp hp':Hp}{a:Addr}{G:SA}{S:SD}
theorem Srt.congr (h:Srt hp a G S)(e:∀ y,aV8 a G S y->hp' y=hp y):Srt hp' a G S:=
 ⟨(e _ (.inl rfl)).trans h.ins,(e _ (.inr (.inl rfl))).trans h.ns,(e _ (.inr (.inr (.inl rfl)))).trans h.dct,λk hk=>(e _ (.inr (.inr (.inr (.inl ⟨k,hk, .inl rfl⟩))))).trans (h.inf k hk),λk hk=>(e _ (.inr (.inr (.inr (.inl ⟨k,hk, .inr rfl⟩))))).trans (h.sl k hk),λl hl=>(e _ (.inr (.inr (.inr (.inr ⟨λz=>(by rw [hl] at z; cases z),rfl⟩))))).trans (h.rdy l hl),h.inj,h.rne,h.nod⟩
theorem Srt.foot (h:Srt hp a G S){y:Addr}(f:aV8 a G S y):∃ b,hp y=some b/\∀ o,b≠ .same o:=by
 rcases f with rfl | rfl | rfl | ⟨k,hk,rfl | rfl⟩ | ⟨hr,rfl⟩
 ·exact ⟨_,h.ins,λo z=>by cases z⟩
 ·exact ⟨_,h.ns,λo z=>by cases z⟩
 ·exact ⟨_,h.dct,λo z=>by cases z⟩
 ·exact ⟨_,h.inf k hk,λo z=>by cases z⟩
 ·exact ⟨_,h.sl k hk,λo z=>by cases z⟩
 ·refine aA3 (Option.ne_none_iff_exists'.mp hr) λl hl=> ?_
  exact ⟨_,h.rdy l hl,λo z=>by cases z⟩
noncomputable def Off (hp:Hp)(y:Addr):Prop:=hp y=none\/∃ o,hp y=some (.same o)
theorem Srt.off (h:Srt hp a G S){y z:Addr}(hy:Off hp y)(f:aV8 a G S z):z≠y:=λe=>by
 refine aA1 (h.foot f) λb h1 h2=> ?_
 rw [e] at h1
 rcases hy with hy | ⟨o,hy⟩
 ·rw [hy] at h1; cases h1
 ·rw [hy] at h1; cases h1; exact h2 o rfl
theorem Srt.putOff (h:Srt hp a G S){y:Addr}(b:Ob)(hy:Off hp y):Srt (hp.put y b) a G S:=h.congr λz f=>put_ne _ (h.off hy f)
theorem Srt.delOff (h:Srt hp a G S){y:Addr}(hy:Off hp y):Srt (hp.del y) a G S:=h.congr λz f=>if_neg (h.off hy f)
theorem Srt.notSame (h:Srt hp a G S){y:Addr}(f:aV8 a G S y):∀ o,hp y≠some (.same o):=λo z=>by
 refine aA1 (h.foot f) λb h1 h2=> ?_
 rw [h1] at z; cases z; exact h2 o rfl
theorem Srt.infInj (h:Srt hp a G S){j k:Int}(hj:j∈S.nodes)(hk:k∈S.nodes)(e:G.inf j=G.inf k):j=k:=by
 have h1:=h.inf j hj
 rw [e,h.inf k hk] at h1
 cases h1; rfl
end
theorem Srt.inFrame {hp:Hp}{a L:Addr}{G:SA}{S:SD}{oL:Obj}(h:Srt hp a G S)(hL:hp L=none):Srt (hp.put L (.same oL)) a G S:=h.putOff _ (.inl hL)
theorem dF8 {hp:Hp}{L:Addr}{oL:Obj}:Off (hp.put L (.same oL)) L:= .inr ⟨oL,aB5 _ _ _⟩
noncomputable def upd {β:Type}(f:Int->β)(k:Int)(v:β):Int->β:=λj=>if j=k then v else f j
theorem aF {β:Type}(f:Int->β)(k:Int)(v:β):upd f k v k=v:=if_pos rfl
theorem aE5 {β:Type}{f:Int->β}{k j:Int}(v:β)(h:j≠k):upd f k v j=f j:=if_neg h
noncomputable def SD.touch (S:SD)(k:Int):SD:=if k∈S.nodes then S else { S with nodes:=S.nodes++[k],np:=upd S.np k 0,suc:=upd S.suc k [] }
noncomputable def SD.addNp (S:SD)(k m:Int):SD:={ S with np:=upd S.np k (S.np k+m) }
noncomputable def SD.addSuc (S:SD)(k j:Int):SD:={ S with suc:=upd S.suc k (S.suc k++[j]) }
section
variable {hp hp':Hp}{a:Addr}{G:SA}{S:SD}
theorem Srt.putNp (h:Srt hp a G S){k v:Int}(hk:k∈S.nodes):Srt (hp.put (G.inf k) (.slt 40 [.int k, .int v, .obj (G.sl k)])) a G { S with np:=upd S.np k v }:=by
 refine ⟨?_, ?_, ?_,λj hj=> ?_,λj hj=> ?_,λl hl=> ?_,h.inj,h.rne,h.nod⟩
 ·exact (put_ne _ λz=>by cases (z ▸ h.ins).symm.trans (h.inf k hk)).trans h.ins
 ·exact (put_ne _ λz=>by cases (z ▸ h.ns).symm.trans (h.inf k hk)).trans h.ns
 ·exact (put_ne _ λz=>by cases (z ▸ h.dct).symm.trans (h.inf k hk)).trans h.dct
 ·by_cases e:j=k
  ·subst e; rw [aB5]; show _=some (Ob.slt 40 [.int j, .int (upd S.np j v j), .obj (G.sl j)]); rw [aF]
  ·rw [put_ne _ λz=>e (h.infInj hj hk z)]; show _=some (Ob.slt 40 [.int j, .int (upd S.np k v j), .obj (G.sl j)]); rw [aE5 _ e]; exact h.inf j hj
 ·exact (put_ne _ λz=>by cases (z ▸ h.sl j hj).symm.trans (h.inf k hk)).trans (h.sl j hj)
 ·exact (put_ne _ λz=>by cases (z ▸ h.rdy l hl).symm.trans (h.inf k hk)).trans (h.rdy l hl)
theorem Srt.putSuc (h:Srt hp a G S){k:Int}{l:List Int}(hk:k∈S.nodes):Srt (hp.put (G.sl k) (.lst (l.map T.int))) a G { S with suc:=upd S.suc k l }:=by
 refine ⟨?_, ?_, ?_,λj hj=> ?_,λj hj=> ?_,λl' hl=> ?_,h.inj,h.rne,h.nod⟩
 ·exact (put_ne _ λz=>by cases (z ▸ h.ins).symm.trans (h.sl k hk)).trans h.ins
 ·exact (put_ne _ λz=>by cases (z ▸ h.ns).symm.trans (h.sl k hk)).trans h.ns
 ·exact (put_ne _ λz=>by cases (z ▸ h.dct).symm.trans (h.sl k hk)).trans h.dct
 ·exact (put_ne _ λz=>by cases (z ▸ h.inf j hj).symm.trans (h.sl k hk)).trans (h.inf j hj)
 ·by_cases e:j=k
  ·subst e; rw [aB5]; show _=some (Ob.lst ((upd S.suc j l j).map T.int)); rw [aF]
  ·rw [put_ne _ λz=>e (h.inj j hj k hk z)]; show _=some (Ob.lst ((upd S.suc k l j).map T.int)); rw [aE5 _ e]; exact h.sl j hj
 ·have hr:S.rdy≠none:=by rw [show S.rdy=some l' from hl]; intro z; cases z
  exact (put_ne _ λz=>h.rne hr k hk z.symm).trans (h.rdy l' hl)
theorem Srt.putRdy (h:Srt hp a G S){l l0:List Int}(hr:S.rdy=some l0):Srt (hp.put G.r (.lst (l.map T.int))) a G { S with rdy:=some l }:=by
 have h0:=h.rdy l0 hr
 have hr':S.rdy≠none:=by rw [hr]; intro z; cases z
 refine ⟨?_, ?_, ?_,λj hj=> ?_,λj hj=> ?_,λl' hl=> ?_,h.inj,λ_=>h.rne hr',h.nod⟩
 ·exact (put_ne _ λz=>by cases (z ▸ h.ins).symm.trans h0).trans h.ins
 ·refine (put_ne _ λz=>by cases (z ▸ h.ns).symm.trans h0).trans ?_
  rw [h.ns]
  unfold aC3
  rw [hr]; rfl
 ·exact (put_ne _ λz=>by cases (z ▸ h.dct).symm.trans h0).trans h.dct
 ·exact (put_ne _ λz=>by cases (z ▸ h.inf j hj).symm.trans h0).trans (h.inf j hj)
 ·exact (put_ne _ λz=>h.rne hr' j hj z).trans (h.sl j hj)
 ·cases hl; exact aB5 _ _ _
theorem Srt.putNs (h:Srt hp a G S){out fin:Int}:Srt (hp.put G.d (.ns (aC3 G { S with out:=out,fin:=fin }))) a G { S with out:=out,fin:=fin }:=by
 refine ⟨?_,aB5 _ _ _, ?_,λj hj=> ?_,λj hj=> ?_,λl' hl=> ?_,h.inj,h.rne,h.nod⟩
 ·exact (put_ne _ λz=>by cases (z ▸ h.ins).symm.trans h.ns).trans h.ins
 ·exact (put_ne _ λz=>by cases (z ▸ h.dct).symm.trans h.ns).trans h.dct
 ·exact (put_ne _ λz=>by cases (z ▸ h.inf j hj).symm.trans h.ns).trans (h.inf j hj)
 ·exact (put_ne _ λz=>by cases (z ▸ h.sl j hj).symm.trans h.ns).trans (h.sl j hj)
 ·exact (put_ne _ λz=>by cases (z ▸ h.rdy l' hl).symm.trans h.ns).trans (h.rdy l' hl)
theorem aI7 (G:SA)(k:Int):∀ {l:List Int},dAt (aH G l) k=if k∈l then some (.obj (G.inf k)) else none
 | []=>rfl
 | j::l=>by
  have ih:=aI7 G k (l:=l)
  unfold dAt aH at ih ⊢
  rw [List.map_cons,List.find?_cons]
  by_cases e:j=k
  ·subst e; simp
  ·simp only [e,decide_false,List.mem_cons]
   rw [ih]
   have:(k=j\/k∈l)↔k∈l:=⟨λh=>h.resolve_left λz=>e z.symm, .inr⟩
   simp only [this]
theorem cB2 (G:SA){k:Int}(t:T){l:List Int}(h:k∉l):aV6 (aH G l) k t=aH G l++[(k,t)]:=by
 unfold aV6
 rw [if_neg]
 intro z
 refine aA1 (List.any_eq_true.mp z) λp hp e=> ?_
 refine aA1 (List.mem_map.mp hp) λj hj z1z=> ?_
 subst z1z
 have:j=k:=by simpa using e
 exact h (this ▸ hj)
end
theorem aN1 {S:SD}{k:Int}(h:k∈S.nodes):S.touch k=S:=if_pos h
theorem aG1 {S:SD}{k:Int}(h:k∉S.nodes):S.touch k={ S with nodes:=S.nodes++[k],np:=upd S.np k 0,suc:=upd S.suc k [] }:=if_neg h
theorem Srt.newNode {hp hp':Hp}{a x l:Addr}{G:SA}{S:SD}{k:Int}{ep':Nat}(h:Srt hp a G S)(hk:k∉S.nodes)(hx:hp x=none)(hl:hp l=none)(hxl:x≠l)
  (e:∀ y,hp' y=if y=G.n then some (.dct (aH G S.nodes++[(k, .obj x)]) ep') else if y=l then some (.lst []) else if y=x then some (.slt 40 [.int k, .int 0, .obj l]) else hp y):
  Srt hp' a { G with inf:=upd G.inf k x,sl:=upd G.sl k l,ep:=ep' } (S.touch k):=by
 rw [aG1 hk]
 have ox:∀ {y b},hp y=some b->y≠x:=λ{y b} h z=>by rw [z,hx] at h; cases h
 have ol:∀ {y b},hp y=some b->y≠l:=λ{y b} h z=>by rw [z,hl] at h; cases h
 have st:∀ {y b},hp y=some b->y≠G.n->hp' y=some b:=λ{y b} hy hn=>by rw [e,if_neg hn,if_neg (ol hy),if_neg (ox hy)]; exact hy
 have mem:∀ {j},j∈S.nodes++[k]->j∈S.nodes\/j=k:=λ{j} hj=>by simpa using hj
 have ne:∀ {j},j∈S.nodes->j≠k:=λ{j} hj z=>hk (z ▸ hj)
 refine ⟨?_, ?_, ?_,λj hj=> ?_,λj hj=> ?_,λl' hl'=> ?_,λi hi j hj z=> ?_,λhr j hj=> ?_, ?_⟩
 ·exact st h.ins λz=>by cases (z ▸ h.ins).symm.trans h.dct
 ·exact st h.ns λz=>by cases (z ▸ h.ns).symm.trans h.dct
 ·rw [e,if_pos rfl]
  congr 2
  unfold aH
  rw [List.map_append]
  congr 1
  ·refine List.map_congr_left λj hj=> ?_
   show (j,T.obj (G.inf j))=(j,T.obj (upd G.inf k x j))
   rw [aE5 _ (ne hj)]
  ·show _=[(k,T.obj (upd G.inf k x k))]
   rw [aF]
 ·show hp' (upd G.inf k x j)=some (Ob.slt 40 [.int j, .int (upd S.np k 0 j), .obj (upd G.sl k l j)])
  rcases mem hj with hj | rfl
  ·rw [aE5 _ (ne hj),aE5 _ (ne hj),aE5 _ (ne hj)]
   exact st (h.inf j hj) λz=>by cases (z ▸ h.inf j hj).symm.trans h.dct
  ·rw [aF,aF,aF,e,if_neg (ox h.dct).symm,if_neg hxl,if_pos rfl]
 ·show hp' (upd G.sl k l j)=some (Ob.lst ((upd S.suc k [] j).map T.int))
  rcases mem hj with hj | rfl
  ·rw [aE5 _ (ne hj),aE5 _ (ne hj)]
   exact st (h.sl j hj) λz=>by cases (z ▸ h.sl j hj).symm.trans h.dct
  ·rw [aF,aF,e,if_neg (ol h.dct).symm,if_pos rfl]; rfl
 ·exact st (h.rdy l' hl') λz=>by cases (z ▸ h.rdy l' hl').symm.trans h.dct
 ·have z:upd G.sl k l i=upd G.sl k l j:=z
  rcases mem hi with hi1 | hi1
  ·rcases mem hj with hj1 | hj1
   ·rw [aE5 _ (ne hi1),aE5 _ (ne hj1)] at z; exact h.inj i hi1 j hj1 z
   ·rw [aE5 _ (ne hi1),hj1,aF] at z; exact absurd z (ol (h.sl i hi1))
  ·rcases mem hj with hj1 | hj1
   ·rw [aE5 _ (ne hj1),hi1,aF] at z; exact absurd z.symm (ol (h.sl j hj1))
   ·rw [hi1,hj1]
 ·show upd G.sl k l j≠G.r
  rcases mem hj with hj | rfl
  ·rw [aE5 _ (ne hj)]; exact h.rne hr j hj
  ·rw [aF]
   refine aA3 (Option.ne_none_iff_exists'.mp (show S.rdy≠none from hr)) λl' hl'=> ?_
   exact λz=>ol (h.rdy l' hl') z.symm
 ·rw [List.nodup_append]
  exact ⟨h.nod,by simp,λi hi j hj z=>by rw [List.mem_singleton.mp hj] at z; exact ne hi z⟩
theorem cB3 (w:World)(os:OsState)(hp:Hp)(a:Addr)(G:SA)(S:SD)(k:Int)(h:Srt hp a G S)(hz:S.nodes.length<=100):FnH w os 2 80 [.obj a, .int k] hp (λr hp'=>∃ G',r= .val (.obj (G'.inf k))/\Srt hp' a G' (S.touch k)/\G'.d=G.d):=by
 refine aE0 (o:=o80) (fd:=aA2 o80) (body:=aB1 (mAt 6 1)) (c:=79) (oc:=o79) [u "self",u "node"] (by lk) rfl rfl (by lk) rfl rfl rfl
  (aF4.plain (al2 λ_ _=>by lk)) rfl (by decide) (by lk) (by lk) rfl rfl rfl rfl λA h0 L RA FA hL=> ?_
 have W:Own (callEnv (aA2 o80) L 80):=⟨rfl,rfl,rfl⟩
 refine aA1 FA λlf hlf hlow=> ?_
 try clear FA
 refine ExE.iteW _ _ _ _ _ W (t:=(dAt (aH G S.nodes) k).getD .none) ?_ ?_ ?_ ?_ ?_
 ·refine EvE.dget _ _ (k1:=true) (k2:=true) (d:=G.n) ?_ ?_ h.dct ?_ ?_ ?_
  ·exact EvE.attrI _ (k1:=true) (EvE.nm W) h.ins h.ns (aJ3 _) rfl (by lk)
  ·exact EvE.nm W
  ·lk
  ·lk
  ·lk
 ·lk
 ·exact aC2 _ rfl
 ·lk
 rw [aI7]
 by_cases hk:k∈S.nodes
 ·rw [if_pos hk]
  refine ExE.nil ?_
  show ExE _ _ _ _ _ _ _ _
  refine ExE.ret _ (t:= .obj (G.inf k)) ?_ ⟨aA4.refl _,G,rfl, ?_,rfl⟩
  ·exact EvE.nm W
  ·rw [aN1 hk]; exact h
 ·rw [if_neg hk]
  refine ExE.setD2 _ _ _ W ?_ ?_ ?_ ?_
  ·lk
  ·lk
  ·lk
  refine EvH.newNode (n:=0) (t:= .int k) _ _ W (aD hlf hlow rfl rfl) (aD6.deeper RA) ?_ ?_ ?_ ?_ ?_ ?_
  ·lk
  ·lk
  ·lk
  ·lk
  ·exact EvE.nm W
  intro x oL hx hxL hLL
  refine (bU7 w os _ x k ((put_ne _ hxL).trans (aB5 _ _ _))).mono λr hp' p=> ?_
  refine aB p λz1z h9=>aA1 h9 λl hl e=> ?_
  try clear p
  subst z1z
  have hx:hp x=none:=hx
  have hL':hp L=none:=hLL
  have hlL:l≠L:=λz=>by
   rw [z] at hl
   cases (aB5 _ _ _).symm.trans hl
  have hlx:l≠x:=λz=>by
   rw [z] at hl
   cases ((put_ne _ hxL).trans (aB5 _ _ _)).symm.trans hl
  have hl:hp l=none:=(((put_ne _ hlL).trans (put_ne _ hlx)).symm.trans hl)
  refine ⟨rfl,λkL kp=> ?_⟩
  have e':∀ y,hp'.del L y=if y=l then some (.lst []) else if y=x then some (.slt 40 [.int k, .int 0, .obj l]) else hp y:=λy=>by
   show (if y=L then none else hp' y)=_
   by_cases c:y=L
   ·rw [if_pos c,c,if_neg hlL.symm,if_neg (λz=>hxL z.symm)]; exact hL'.symm
   ·rw [if_neg c,e y]
    by_cases c1:y=l
    ·rw [if_pos c1,if_pos c1]
    ·rw [if_neg c1,if_neg c1]
     by_cases c2:y=x
     ·rw [if_pos c2,if_pos c2]
     ·rw [if_neg c2,if_neg c2]
      exact (put_ne _ c).trans (put_ne _ c2)
  have nl:∀ {y b},hp y=some b->hp'.del L y=some b:=λ{y b} hy=>by
   rw [e' y,if_neg (λz=>by rw [z,hl] at hy; cases hy),if_neg (λz=>by rw [z,hx] at hy; cases hy)]; exact hy
  refine ⟨G.n,aH G S.nodes,G.ep,k, ?_, ?_, ?_, ?_, ?_,λep'=> ?_⟩
  ·exact EvE.attrI _ (k1:=true) (EvE.nm W) (nl h.ins) (nl h.ns) (aJ3 _) rfl (by lk)
  ·exact EvE.nm W
  ·exact nl h.dct
  ·have:sizeLine=16777216:=by decide
   unfold aH; rw [List.length_map]; room
  ·exact aC2 _ rfl
  refine ExE.nil ?_
  show ExE _ _ _ _ _ _ _ _
  have fin:=h.newNode (hp':=(hp'.del L).put G.n (.dct (aH G S.nodes++[(k, .obj x)]) ep')) hk hx hl hlx.symm λy=>by
   by_cases c:y=G.n
   ·rw [c,aB5,if_pos rfl]
   ·rw [put_ne _ c,if_neg c]; exact e' y
  refine ExE.ret _ (t:= .obj x) ?_ ⟨?_,{ G with inf:=upd G.inf k x,sl:=upd G.sl k l,ep:=ep' }, ?_, ?_,rfl⟩
  ·exact EvE.nm W
  ·refine aA4.put ?_ ?_
   ·intro f o hf
    exact nl hf
   ·intro o z
    cases (nl h.dct).symm.trans z
  ·show Rs.val (.obj x)=Rs.val (.obj (upd G.inf k x k))
   rw [aF]
  ·have:=cB2 G (.obj x) hk
   show Srt ((hp'.del L).put G.n (.dct (aV6 (aH G S.nodes) k (.obj x)) ep')) a _ _
   rw [this]; exact fin
noncomputable def SD.addPred (k:Int)(S:SD)(p:Int):SD:=(S.touch p).addSuc p k
noncomputable def SD.add (S:SD)(k:Int)(ps:List Int):SD:=ps.foldl (SD.addPred k) ((S.touch k).addNp k ps.length)
theorem aI0 (S:SD)(k:Int):k∈(S.touch k).nodes:=by
 unfold SD.touch
 split
 ·assumption
 ·simp
theorem aT8 (S:SD)(k:Int):(S.touch k).nodes.length<=S.nodes.length+1:=by
 unfold SD.touch
 split
 ·room
 ·simp
theorem aK8 (S:SD)(k:Int):(S.touch k).rdy=S.rdy:=by
 unfold SD.touch
 split<;>rfl
theorem aN2 (k:Int):∀ (ps:List Int) (S:SD),(ps.foldl (SD.addPred k) S).nodes.length<=S.nodes.length+ps.length
 | [],S=>Nat.le_refl _
 | p::ps,S=>by
  have h1:=aN2 k ps (SD.addPred k S p)
  have h2:(SD.addPred k S p).nodes.length<=S.nodes.length+1:=aT8 S p
  rw [List.foldl_cons,List.length_cons]; room
theorem aV1 (k:Int):∀ (ps:List Int) (S:SD),(ps.foldl (SD.addPred k) S).rdy=S.rdy
 | [],S=>rfl
 | p::ps,S=>by
  rw [List.foldl_cons,aV1 k ps]
  exact aK8 S p
theorem aO2 (S:SD)(k j:Int):((S.touch k).suc j).length<=(S.suc j).length:=by
 unfold SD.touch
 split
 ·exact Nat.le_refl _
 ·show (upd S.suc k [] j).length<=_
  unfold upd
  split
  ·exact Nat.zero_le _
  ·exact Nat.le_refl _
theorem bJ6 (k:Int)(S:SD)(p j:Int):((SD.addPred k S p).suc j).length<=(S.suc j).length+1:=by
 show (upd (S.touch p).suc p ((S.touch p).suc p++[k]) j).length<=_
 have:=aO2 S p j
 unfold upd
 split
 ·rename_i e; subst e; rw [List.length_append]; simp; exact this
 ·room
theorem aN3 (k j:Int):∀ (ps:List Int) (S:SD),((ps.foldl (SD.addPred k) S).suc j).length<=(S.suc j).length+ps.length
 | [],S=>Nat.le_refl _
 | p::ps,S=>by
  have h1:=aN3 k j ps (SD.addPred k S p)
  have h2:=bJ6 k S p j
  rw [List.foldl_cons,List.length_cons]; room
noncomputable abbrev adA (hp:Hp)(a:Addr)(S:SD)(k:Int)(ps:List Int)(i:Nat)(σ:Sg):Prop:=(∃ G',Srt σ.hp a G' ((ps.take i).foldl (SD.addPred k) ((S.touch k).addNp k ps.length)))/\aA4 hp σ.hp/\σ.fz (u "self")=some (.obj a)/\σ.fz (u "node")=some (.int k)/\σ.ow=[]
theorem bN9 (w:World)(os:OsState)(hp:Hp)(a:Addr)(G:SA)(S:SD)(k:Int)(ps:List Int)(h:Srt hp a G S)(hr:S.rdy=none)(hps:ps.length<=1)(hz:S.nodes.length+ps.length+1<=100)(hsz:∀ j,(S.suc j).length<=1000):FnH w os 3 87 ([.obj a, .int k]++ps.map T.int) hp (λr hp'=>r= .val .none/\∃ G',Srt hp' a G' (S.add k ps)):=by
 refine aE0 (o:=o87) (fd:=aA2 o87) (body:=aB1 (mAt 6 2)) (c:=86) (oc:=o86) (as':=[.obj a, .int k]++[.tup (ps.map T.int)]) [u "self",u "node",u "predecessors"] (by lk) rfl rfl (by lk) rfl rfl rfl
  (aF4.star ?_) rfl (by decide) (by lk) (by lk) rfl rfl rfl rfl λA h0 L RA FA hL=> ?_
 ·intro Sg
  exact dJ6 (by rw [List.length_map]; exact hps) (λ_ _=>by lk) (λ_ _ _=>by lk)
 have W:Own (callEnv (aA2 o87) L 87):=⟨rfl,rfl,rfl⟩
 have hA:(A.deeper (callEnv (aA2 o87) L 87)).handled=none:=RA.handled
 refine aA1 FA λlf hlf hlow=> ?_
 try clear FA
 refine ExE.ite _ (b:=false) ?_ ?_
 ·refine TsE.cmp _ (k1:=true) (k2:=true) (a:=rT G S.rdy) (b:= .none) (x:=false) ?_ (EvE.noneC _ _) ?_ ?_
  ·exact EvE.attrI _ (k1:=true) (EvE.nm W) h.ins h.ns (aF1 _) rfl (by lk)
  ·have:=aK (w:=w) (A:=A.deeper (callEnv (aA2 o87) L 87)) (h0:=h0) (env:=callEnv (aA2 o87) L 87) (os:=os) true true (rT G S.rdy)
   rw [hr] at this ⊢
   exact this
  ·lk
 refine ExE.nil ?_
 show ExE _ _ _ _ _ _ _ _
 refine ExE.assignH _ _ W ?_ ?_ ?_
 ·lk
 ·lk
 refine EvH.meth (n:=2) (a:=a) (d:=G.d) (es:=aC3 G S) (as:=[.int k]) (k1:=true) _ _ (aD hlf hlow rfl rfl) (aD6.deeper RA) ?_ h.ins h.ns (bI8 _) ?_ ?_ ?_ ?_ ?_ ?_ ?_
 ·exact EvE.nm W
 ·lk
 ·lk
 ·lk
 ·lk
 ·lk
 ·exact .cons (EvE.nm W) .nil
 intro oL hLL
 refine (cB3 w os _ a G S k (h.inFrame hLL) (by room)).mono λr hp' p kL kp=> ?_
 refine aC8 p λG1 z1z h1 _=> ?_
 try clear p
 subst z1z
 refine ⟨aC2 _ rfl, ?_⟩
 have h1:Srt (hp'.del L) a G1 (S.touch k):=h1.delOff (.inr ⟨oL,kL⟩)
 have hk1:=aI0 S k
 refine ExE.augS _ _ (a:=G1.inf k) (ts:=[.int k, .int ((S.touch k).np k), .obj (G1.sl k)]) (i:=(S.touch k).np k) (j:=(ps.map T.int).length) (k1:=true) (k2:=true) ?_ ?_ (h1.inf k hk1) (aH6 _) rfl (aX4 _ _) ?_
 ·exact EvE.nm W
 ·refine EvE.lenT W (ts:=ps.map T.int) ?_ ?_
  ·exact EvE.nm W
  ·rw [List.length_map]; room
 have h2:Srt ((hp'.del L).put (G1.inf k) (.slt 40 [.int k, .int ((S.touch k).np k+((ps.map T.int).length:Int)), .obj (G1.sl k)])) a G1 ((S.touch k).addNp k ps.length):=by
  rw [List.length_map]; exact h1.putNp hk1
 have kp2:aA4 hp ((hp'.del L).put (G1.inf k) (.slt 40 [.int k, .int ((S.touch k).np k+((ps.map T.int).length:Int)), .obj (G1.sl k)])):=aA4.put kp (h1.notSame (.inr (.inr (.inr (.inl ⟨k,hk1, .inl rfl⟩)))))
 have hlen1:=aT8 S k
 refine ExE.forG (ts:=ps.map T.int) (C:=λ_=>True) (J:=adA hp a S k ps) _ ?_ ?_ ?_ ?_ ?_ ?_ ?_
 ·refine (ItE.tup hA ?_).toG
  exact EvE.nm W
 ·exact ⟨⟨G1,h2⟩,kp2,by lk,by lk,rfl⟩
 ·exact λ_ _ _=>trivial
 ·exact λit v=>rfl
 ·exact λx=>rfl
 ·intro i t σ1 ht w1w
  refine aL1 w1w λz1z kp3 j1 j2 j3=> ?_
  try clear w1w
  refine aA3 z1z λG2 g2=> ?_
  try clear z1z
  rw [List.getElem?_map] at ht
  cases hpi:ps[i]? with
  | none=>rw [hpi] at ht; cases ht
  | some q=>
  rw [hpi] at ht
  cases ht
  have hil:i<ps.length:=(List.getElem?_eq_some_iff.mp hpi).1
  have hlen2:=aN2 k (ps.take i) ((S.touch k).addNp k ps.length)
  have hlen3:((S.touch k).addNp k ps.length).nodes.length=(S.touch k).nodes.length:=rfl
  have hlen4:(ps.take i).length<=i:=by rw [List.length_take]; room
  refine ⟨_,aF5.name _ W (by lk) (aC2 _ j3), ?_⟩
  refine ExE.assignH _ _ W ?_ ?_ ?_
  ·lk
  ·lk
  generalize hS2:(ps.take i).foldl (SD.addPred k) ((S.touch k).addNp k ps.length)=S2 at g2 hlen2
  refine EvH.meth (n:=2) (a:=a) (d:=G2.d) (es:=aC3 G2 S2) (as:=[.int q]) (k1:=true) _ _ (aD hlf (bB0 hlow kp3) rfl rfl) (aD6.deeper RA) ?_ g2.ins g2.ns (bI8 _) ?_ ?_ ?_ ?_ ?_ ?_ ?_
  ·exact EvE.nm W ((by lk:_=σ1.fz (u "self")).trans j1)
  ·lk
  ·lk
  ·lk
  ·lk
  ·lk
  ·exact .cons (EvE.nm W) .nil
  intro oL hLL
  refine (cB3 w os _ a G2 S2 q (g2.inFrame hLL) (by room)).mono λr hp2 p kL2 kp4=> ?_
  refine aC8 p λG3 z1z g3 _=> ?_
  try clear p
  subst z1z
  refine ⟨aC2 _ j3, ?_⟩
  have g3:Srt (hp2.del L) a G3 (S2.touch q):=g3.delOff (.inr ⟨_,kL2⟩)
  have hq:=aI0 S2 q
  refine ExE.appendO _ _ _ (a:=G3.sl q) (ts:=((S2.touch q).suc q).map T.int) (t:= .int k) (k1:=true) ?_ (g3.sl q hq) ?_ ?_ ?_ ?_ ?_ ?_ ?_ ?_ ?_
  ·exact EvE.attrS _ (k1:=true) (EvE.nm W) (g3.inf q hq) (aR2 _) rfl (by lk)
  ·exact EvE.nm W ((by lk:_=σ1.fz (u "node")).trans j2)
  ·have b1:=aO2 S2 q q
   have b2:=aN3 k q (ps.take i) ((S.touch k).addNp k ps.length)
   rw [hS2] at b2
   have b3:(((S.touch k).addNp k ps.length).suc q).length<=(S.suc q).length:=aO2 S k q
   have b4:=hsz q
   have:sizeLine=16777216:=by decide
   rw [List.length_map]; room
  ·lk
  ·lk
  ·lk
  ·lk
  ·lk
  ·lk
  refine ExE.nil ⟨⟨G3, ?_⟩, ?_,(by lk:_=σ1.fz (u "self")).trans j1,(by lk:_=σ1.fz (u "node")).trans j2,j3⟩
  ·have g4:=g3.putSuc (l:=(S2.touch q).suc q++[k]) hq
   rw [List.map_append] at g4
   have e:(ps.take (i+1)).foldl (SD.addPred k) ((S.touch k).addNp k ps.length)=SD.addPred k S2 q:=by
    rw [List.take_add_one,List.foldl_append,hS2,hpi]; rfl
   rw [e]
   exact g4
  ·exact aA4.put (kp3.trans kp4) (g3.notSame (.inr (.inr (.inr (.inl ⟨q,hq, .inr rfl⟩)))))
 ·intro σ1 w1w
  refine aL1 w1w λz1z kp3 j1 j2 j3=> ?_
  try clear w1w
  refine aA3 z1z λG2 g2=> ?_
  try clear z1z
  rw [List.length_map,List.take_length] at g2
  exact ExE.nil ⟨kp3,rfl,G2,g2⟩
noncomputable def SD.zero:SD:=⟨[],λ_=>0,λ_=>[],none,0,0⟩
theorem cJ3 (w:World)(os:OsState)(hp:Hp)(a d:Addr)(ha:hp a=some (.ins 137 d))(hd:hp d=some (.ns [])):FnH w os 0 73 [.obj a] hp (λr hp'=>r= .val .none/\∃ G,Srt hp' a G SD.zero):=by
 refine aE0 (o:=o73) (fd:=aA2 o73) (body:=aB1 (mAt 6 0)) (c:=72) (oc:=o72) (as':=[.obj a]++[.none]) [u "self",u "graph"] (by lk) rfl rfl (by lk) rfl rfl rfl
  (aF4.dflt (v:= .none) (λB=> .none) λS=>al1 λ_=>by lk) rfl (by decide) (by lk) (by lk) rfl rfl rfl rfl λA h0 L RA FA hL=> ?_
 have W:Own (callEnv (aA2 o73) L 73):=⟨rfl,rfl,rfl⟩
 have had:a≠d:=λz=>by rw [z,hd] at ha; cases ha
 refine ExE.asgIH _ _ (aJ3 _) ?_ ?_
 ·lk
 refine EvH.dictO _ λn hn=> ?_
 have hn:hp n=none:=hn
 have hna:a≠n:=λz=>by rw [z,hn] at ha; cases ha
 have hnd:d≠n:=λz=>by rw [z,hn] at hd; cases hd
 refine ⟨a,d,[], ?_, ?_, ?_, ?_, ?_⟩
 ·exact EvE.nm W
 ·exact (put_ne _ hna).trans ha
 ·exact (put_ne _ hnd).trans hd
 ·decide
 refine ExE.asgI _ _ (a:=a) (d:=d) (es:=[(u "_node2info", .obj n)]) (t:= .none) (k1:=true) ?_ ?_ ?_ ?_ (aF1 _) ?_ ?_ ?_
 ·exact EvE.noneC _ _
 ·exact EvE.nm W
 ·exact (put_ne _ had).trans ((put_ne _ hna).trans ha)
 ·exact aB5 _ _ _
 ·simp
 ·lk
 refine ExE.asgI _ _ (a:=a) (d:=d) (es:=[(u "_node2info", .obj n),(u "_ready_nodes", .none)]) (t:= .int 0) (k1:=true) ?_ ?_ ?_ ?_ (bF0 _) ?_ ?_ ?_
 ·exact EvE.int _ _ _
 ·exact EvE.nm W
 ·exact (put_ne _ had).trans ((put_ne _ had).trans ((put_ne _ hna).trans ha))
 ·exact aB5 _ _ _
 ·simp
 ·lk
 refine ExE.asgI _ _ (a:=a) (d:=d) (es:=[(u "_node2info", .obj n),(u "_ready_nodes", .none),(u "_npassedout", .int 0)]) (t:= .int 0) (k1:=true) ?_ ?_ ?_ ?_ (bF1 _) ?_ ?_ ?_
 ·exact EvE.int _ _ _
 ·exact EvE.nm W
 ·exact (put_ne _ had).trans ((put_ne _ had).trans ((put_ne _ had).trans ((put_ne _ hna).trans ha)))
 ·exact aB5 _ _ _
 ·simp
 ·lk
 refine ExE.ite _ (b:=false) ?_ ?_
 ·refine TsE.cmp _ (k1:=true) (k2:=true) (a:= .none) (b:= .none) (x:=false) ?_ (EvE.noneC _ _) (aK _ _ .none) ?_
  ·exact EvE.nm W
  ·lk
 refine ExE.nil ?_
 show ExE _ _ _ _ _ _ _ _
 refine ExE.nil ⟨?_,rfl,⟨d,n,0,λ_=>0,λ_=>0,0⟩, ?_⟩
 ·refine aA4.put (aA4.put (aA4.put (aA4.put (aA4.put (aA4.refl _) ?_) ?_) ?_) ?_) ?_
  ·exact λo z=>by cases hn.symm.trans z
  ·exact λo z=>by cases ((put_ne _ hnd).trans hd).symm.trans z
  ·exact λo z=>by cases (aB5 _ _ _).symm.trans z
  ·exact λo z=>by cases (aB5 _ _ _).symm.trans z
  ·exact λo z=>by cases (aB5 _ _ _).symm.trans z
 ·refine ⟨?_,aB5 _ _ _, ?_,λk hk=>(by cases hk),λk hk=>(by cases hk),λl hl=>(by cases hl),λj hj=>(by cases hj),λhr=>absurd rfl hr,List.nodup_nil⟩
  ·exact (put_ne _ had).trans ((put_ne _ had).trans ((put_ne _ had).trans ((put_ne _ had).trans ((put_ne _ hna).trans ha))))
  ·exact (put_ne _ hnd.symm).trans ((put_ne _ hnd.symm).trans ((put_ne _ hnd.symm).trans ((put_ne _ hnd.symm).trans (aB5 _ _ _))))
noncomputable def aG6 (l:List Int)(f:Int->Int):Int->Int:=λk=>if k∈l then -1 else f k
noncomputable def SD.ready (S:SD)(l:List Int):SD:={ S with np:=aG6 l S.np,rdy:=some [],out:=S.out+l.length }
theorem cJ4 {G:SA}{S:SD}{l:List Int}(h:S.rdy=some l):rT G S.rdy= .obj G.r:=by rw [h]; rfl
theorem aG9 {G:SA}{S:SD}{l:List Int}(h:S.rdy=some l):(aC3 G S).lookup (u "_ready_nodes")=some (.obj G.r):=by
 have e:(aC3 G S).lookup (u "_ready_nodes")=some (rT G S.rdy):=by lk
 rw [e,cJ4 h]
noncomputable abbrev rdA (hp:Hp)(a:Addr)(G:SA)(S:SD)(l:List Int)(i:Nat)(σ:Sg):Prop:=Srt σ.hp a G { S with np:=aG6 (l.take i) S.np }/\aA4 hp σ.hp/\σ.fz (u "self")=some (.obj a)/\σ.fz (u "n2i")=some (.obj G.n)/\σ.fz (u "result")=some (.tup (l.map T.int))/\σ.ow=[]
theorem bJ7 (w:World)(os:OsState)(hp:Hp)(a:Addr)(G:SA)(S:SD)(l:List Int)(h:Srt hp a G S)(hr:S.rdy=some l)(hl:∀ k∈l,k∈S.nodes)(hz:l.length<=1000):FnH w os 0 99 [.obj a] hp (λr hp'=>r= .val (.tup (l.map T.int))/\Srt hp' a G (S.ready l)):=by
 refine aE0 (o:=o99) (fd:=aA2 o99) (body:=aB1 (mAt 6 4)) (c:=98) (oc:=o98) [u "self"] (by lk) rfl rfl (by lk) rfl rfl rfl
  (aF4.plain (al1 λ_=>by lk)) rfl (by decide) (by lk) (by lk) rfl rfl rfl rfl λA h0 L RA FA hL=> ?_
 have W:Own (callEnv (aA2 o99) L 99):=⟨rfl,rfl,rfl⟩
 have hA:(A.deeper (callEnv (aA2 o99) L 99)).handled=none:=RA.handled
 have hsl:sizeLine=16777216:=by decide
 refine ExE.ite _ (b:=false) ?_ ?_
 ·refine TsE.cmp _ (k1:=true) (k2:=true) (a:= .obj G.r) (b:= .none) (x:=false) ?_ (EvE.noneC _ _) (aI5 _ _ (.obj G.r)) ?_
  ·exact EvE.attrI _ (k1:=true) (EvE.nm W) h.ins h.ns (aF1 _) (aG9 hr) (by lk)
  ·lk
 refine ExE.nil ?_
 show ExE _ _ _ _ _ _ _ _
 refine ExE.assign _ _ W (t:= .tup (l.map T.int)) ?_ ?_ ?_ ?_ ?_
 ·refine EvE.tupleL _ _ W (k1:=false) (EvE.lstOf (k1:=true) (a:=G.r) ?_ (h.rdy l hr)) ?_
  ·exact EvE.attrI _ (k1:=true) (EvE.nm W) h.ins h.ns (aF1 _) (aG9 hr) (by lk)
  ·rw [List.length_map]; room
 ·lk
 ·exact aC2 _ rfl
 ·lk
 refine ExE.assign _ _ W (t:= .obj G.n) ?_ ?_ ?_ ?_ ?_
 ·exact EvE.attrI _ (k1:=true) (EvE.nm W) h.ins h.ns (aJ3 _) rfl (by lk)
 ·lk
 ·exact aC2 _ rfl
 ·lk
 refine ExE.forG (ts:=l.map T.int) (C:=λ_=>True) (J:=rdA hp a G S l) _ ?_ ?_ ?_ ?_ ?_ ?_ ?_
 ·refine (ItE.tup hA ?_).toG
  exact EvE.nm W
 ·refine ⟨?_,aA4.refl _,by lk,by lk,by lk,rfl⟩
  have e:aG6 (l.take 0) S.np=S.np:=by funext k; simp [aG6]
  rw [e]; exact h
 ·exact λ_ _ _=>trivial
 ·exact λit v=>rfl
 ·exact λx=>rfl
 ·intro i t σ1 ht w1w
  refine cF w1w λg kp j1 j2 j3 j4=> ?_
  try clear w1w
  rw [List.getElem?_map] at ht
  cases hpi:l[i]? with
  | none=>rw [hpi] at ht; cases ht
  | some q=>
  rw [hpi] at ht
  cases ht
  have hq:q∈S.nodes:=hl q (List.mem_of_getElem? hpi)
  refine ⟨_,aF5.name _ W (by lk) (aC2 _ j4), ?_⟩
  refine ExE.asgS _ _ (a:=G.inf q) (ts:=[.int q, .int (aG6 (l.take i) S.np q), .obj (G.sl q)]) (t:= .int (-1)) (k1:=true) ?_ ?_ (g.inf q hq) (aH6 _) ?_ ?_ ?_
  ·exact EvE.gint _ W (show mgm w.params (u "_NODE_OUT")=some (.int (-1) 197) by lk) (by lk) (by lk)
  ·refine EvE.dix _ (d:=G.n) (k1:=true) (k2:=true) (i:=q) ?_ ?_ g.dct ?_ ?_
   ·exact EvE.nm W ((by lk:_=σ1.fz (u "n2i")).trans j2)
   ·exact EvE.nm W
   ·rw [aI7,if_pos hq]
   ·exact λo j u=>by lk
  ·simp
  ·lk
  refine ExE.nil ⟨?_, ?_,(by lk:_=σ1.fz (u "self")).trans j1,(by lk:_=σ1.fz (u "n2i")).trans j2,(by lk:_=σ1.fz (u "result")).trans j3,j4⟩
  ·have g2:=g.putNp (k:=q) (v:= -1) hq
   have e:aG6 (l.take (i+1)) S.np=upd (aG6 (l.take i) S.np) q (-1):=by
    funext k
    rw [List.take_add_one,hpi]
    unfold aG6 upd
    by_cases e1:k=q
    ·subst e1; simp
    ·simp [e1]
   rw [e]; exact g2
  ·exact aA4.put kp (g.notSame (.inr (.inr (.inr (.inl ⟨q,hq, .inl rfl⟩)))))
 ·intro σ1 w1w
  refine cF w1w λg kp j1 j2 j3 j4=> ?_
  try clear w1w
  rw [List.length_map,List.take_length] at g
  refine ExE.clearO _ _ _ (a:=G.r) (ts:=l.map T.int) (k1:=true) ?_ (g.rdy l hr) ?_ ?_ ?_ ?_ ?_ ?_
  ·exact EvE.attrI _ (k1:=true) (EvE.nm W j1) g.ins g.ns (aF1 _) (aG9 hr) (by lk)
  ·rw [List.length_map]; room
  ·lk
  ·lk
  ·lk
  ·lk
  have g2:=g.putRdy (l:=[]) hr
  refine ExE.augI _ _ (a:=a) (d:=G.d) (es:=aC3 G { S with np:=aG6 l S.np,rdy:=some [] }) (i:=S.out) (j:=(l.map T.int).length) (k1:=true) (k2:=true) ?_ ?_ g2.ins g2.ns (bF0 _) rfl (aX4 _ _) ?_ ?_
  ·exact EvE.nm W j1
  ·refine EvE.lenT W (ts:=l.map T.int) ?_ ?_
   ·exact EvE.nm W j3
   ·rw [List.length_map]; room
  ·simp [aC3]
  have g3:=g2.putNs (out:=S.out+(l.map T.int).length) (fin:=S.fin)
  refine ExE.ret _ (t:= .tup (l.map T.int)) ?_ ⟨?_,rfl, ?_⟩
  ·exact EvE.nm W j3
  ·refine aA4.put (aA4.put kp ?_) ?_
   ·exact g.notSame (.inr (.inr (.inr (.inr ⟨λz=>(by cases hr.symm.trans z),rfl⟩))))
   ·exact g2.notSame (.inr (.inl rfl))
  ·have e:S.ready l={ S with np:=aG6 l S.np,rdy:=some [],out:=S.out+(l.map T.int).length,fin:=S.fin }:=by
    unfold SD.ready; rw [List.length_map]
   rw [e]; exact g3
theorem bU8 (w:World)(os:OsState)(hp:Hp)(a:Addr)(G:SA)(S:SD)(l:List Int)(h:Srt hp a G S)(hr:S.rdy=some l)(hz:l.length<=1000):FnH w os 0 106 [.obj a] hp (λr hp'=>r= .val (.bool (decide (S.fin<S.out) || !l.isEmpty))/\Srt hp' a G S):=by
 refine aE0 (o:=bD8) (fd:=aA2 bD8) (body:=aB1 (mAt 6 5)) (c:=105) (oc:=bS3) [u "self"] (by lk) rfl rfl (by lk) rfl rfl rfl
  (aF4.plain (al1 λ_=>by lk)) rfl (by decide) (by lk) (by lk) rfl rfl rfl rfl λA h0 L RA FA hL=> ?_
 have W:Own (callEnv (aA2 bD8) L 106):=⟨rfl,rfl,rfl⟩
 refine ExE.ite _ (b:=false) ?_ ?_
 ·refine TsE.cmp _ (k1:=true) (k2:=true) (a:= .obj G.r) (b:= .none) (x:=false) ?_ (EvE.noneC _ _) (aI5 _ _ (.obj G.r)) ?_
  ·exact EvE.attrI _ (k1:=true) (EvE.nm W) h.ins h.ns (aF1 _) (aG9 hr) (by lk)
  ·lk
 refine ExE.nil ?_
 show ExE _ _ _ _ _ _ _ _
 refine ExE.ret _ (t:= .bool (decide (S.fin<S.out) || !(l.map T.int).isEmpty)) ?_ ⟨aA4.refl _, ?_,h⟩
 ·refine EvE.orB _ ?_ ?_
  ·refine EvE.cmp _ (k1:=true) (k2:=true) ?_ ?_ (aW5 _ _ _ _) ?_
   ·exact EvE.attrI _ (k1:=true) (EvE.nm W) h.ins h.ns (bF1 _) rfl (by lk)
   ·exact EvE.attrI _ (k1:=true) (EvE.nm W) h.ins h.ns (bF0 _) rfl (by lk)
   ·lk
  ·refine EvE.boolL _ _ W (k1:=false) (EvE.lstOf (k1:=true) (a:=G.r) ?_ (h.rdy l hr)) ?_
   ·exact EvE.attrI _ (k1:=true) (EvE.nm W) h.ins h.ns (aF1 _) (aG9 hr) (by lk)
   ·rw [List.length_map]; room
 ·rw [aF3]
theorem cS7 {w:World}{A:Around}{h0:aA8}{env:Env}{os:OsState}(k1 k2:Bool)(a b:Int):aF2 w A h0 env os .GtE k1 k2 (.int a) (.int b) (decide (a≥b)):=λB O m cm s va vb Q E F V1 V2 q=>by
 obtain ⟨_,rfl⟩:=V1.int; obtain ⟨_,rfl⟩:=V2.int; exact ge_int (q _ B (.refl B) F)
theorem cJ5 (w:World)(os:OsState)(hp:Hp)(a:Addr)(G:SA)(S:SD)(l:List Int)(k:Int)(h:Srt hp a G S)(hr:S.rdy=some l)(hk:k∈S.nodes)(k0:0<=k)(k9:k<100)(hn:0<=S.np k\/S.np k= -2):FnH w os 0 120 [.obj a, .int k] hp (λr hp'=>(∃ args,r= .exc (.type "ValueError") args)/\Srt hp' a G S):=by
 refine aE0 (o:=aM7) (fd:=aA2 aM7) (body:=aB1 (mAt 6 7)) (c:=119) (oc:=bG9) (as':=[.obj a]++[.tup [.int k]]) [u "self",u "nodes"] (by lk) rfl rfl (by lk) rfl rfl rfl
  (aF4.star (ts:=[.obj a]) (us:=[.int k]) λS=>dC9 λ_ _=>by lk) rfl (by decide) (by lk) (by lk) rfl rfl rfl rfl λA h0 L RA FA hL=> ?_
 have W:Own (callEnv (aA2 aM7) L 120):=⟨rfl,rfl,rfl⟩
 have hA:(A.deeper (callEnv (aA2 aM7) L 120)).handled=none:=RA.handled
 refine aA1 FA λlf hlf hlow=> ?_
 try clear FA
 refine ExE.ite _ (b:=false) ?_ ?_
 ·refine TsE.cmp _ (k1:=true) (k2:=true) (a:= .obj G.r) (b:= .none) (x:=false) ?_ (EvE.noneC _ _) (aI5 _ _ (.obj G.r)) ?_
  ·exact EvE.attrI _ (k1:=true) (EvE.nm W) h.ins h.ns (aF1 _) (aG9 hr) (by lk)
  ·lk
 refine ExE.nil ?_
 show ExE _ _ _ _ _ _ _ _
 refine ExE.assign _ _ W (t:= .obj G.n) ?_ ?_ ?_ ?_ ?_
 ·exact EvE.attrI _ (k1:=true) (EvE.nm W) h.ins h.ns (aJ3 _) rfl (by lk)
 ·lk
 ·exact aC2 _ rfl
 ·lk
 refine ExE.forG (ts:=[.int k]) (C:=λ_=>True) (J:=λi σ=>i=0/\σ.hp=hp/\σ.fz (u "n2i")=some (.obj G.n)/\σ.ow=[]) _ ?_ ?_ ?_ ?_ ?_ ?_ ?_
 ·refine (ItE.tup hA ?_).toG
  exact EvE.nm W
 ·exact ⟨rfl,rfl,by lk,rfl⟩
 ·exact λ_ _ _=>trivial
 ·exact λit v=>rfl
 ·exact λx=>rfl
 ·intro i t σ1 ht w1w
  refine aO7 w1w λi0 j1 j2 j4=> ?_
  try clear w1w
  subst i0
  cases ht
  refine ⟨_,aF5.name _ W (by lk) (aC2 _ j4), ?_⟩
  have hs:Srt (σ1.set (u "node") (.int k)).hp a G S:=by rw [show (σ1.set (u "node") (.int k)).hp=hp from j1]; exact h
  have hdA:dAt (aH G S.nodes) k=some (.obj (G.inf k)):=by rw [aI7,if_pos hk]
  refine ExE.iteW _ _ _ _ _ W (t:=(dAt (aH G S.nodes) k).getD .none) ?_ ?_ ?_ ?_ ?_
  ·refine EvE.dget _ _ (k1:=true) (k2:=true) (d:=G.n) ?_ ?_ hs.dct ?_ ?_ ?_
   ·exact EvE.nm W ((by lk:_=σ1.fz (u "n2i")).trans j2)
   ·exact EvE.nm W
   ·lk
   ·lk
   ·lk
  ·lk
  ·exact aC2 _ j4
  ·lk
  rw [hdA]
  refine ExE.nil ?_
  show ExE _ _ _ _ _ _ _ _
  refine ExE.assign _ _ W (t:= .int (S.np k)) ?_ ?_ ?_ ?_ ?_
  ·exact EvE.attrS _ (k1:=true) (EvE.nm W) (hs.inf k hk) (aH6 _) rfl (by lk)
  ·lk
  ·exact aC2 _ j4
  ·lk
  refine ExE.ite _ (b:=(S.np k != -1)) ?_ ?_
  ·refine TsE.cmp _ (k1:=true) (k2:=true) (EvE.nm W) (EvE.gint _ W (show mgm w.params (u "_NODE_OUT")=some (.int (-1) 197) by lk) (by lk) (by lk)) (aE2 _ _ _ _) ?_
   lk
  have hb:(S.np k != -1)=true:=by simp; room
  rw [hb]
  have way:∀ σ3:Sg,σ3.hp=hp->∃ l,aC9 (A.deeper (callEnv (aA2 aM7) L 120)) (callEnv (aA2 aM7) L 120) σ3 l:=λσ3 e=>⟨lf,aD hlf (by rw [e]; exact hlow) rfl rfl⟩
  refine ExE.ite _ (b:=decide (S.np k≥0)) ?_ ?_
  ·refine TsE.cmp _ (k1:=true) (k2:=true) (EvE.nm W) (EvE.int _ _ _) (cS7 _ _ _ _) ?_
   lk
  by_cases hc:S.np k≥0
  ·rw [decide_eq_true hc]
   refine ExE.raiseV _ _ _ W hA (t:= .str _) (EvE.fmt (k1:=true) ?_ k0 k9 ?_ ?_ ?_) ?_ ?_ ?_ ?_ ?_
   ·exact EvE.nm W
   ·decide
   ·decide
   ·lk
   ·lk
   ·lk
   ·lk
   ·lk
   exact ⟨way _ j1,(by show aA4 hp σ1.hp; rw [j1]; exact aA4.refl _),⟨_,rfl⟩,(by show Srt σ1.hp a G S; rw [j1]; exact h)⟩
  ·rw [decide_eq_false hc]
   have hd:S.np k= -2:=by room
   refine ExE.ite _ (b:=(S.np k == -2)) ?_ ?_
   ·refine TsE.cmp _ (k1:=true) (k2:=true) (EvE.nm W) (EvE.gint _ W (show mgm w.params (u "_NODE_DONE")=some (.int (-2) 200) by lk) (by lk) (by lk)) (aB4 _ _ _ _) ?_
    lk
   rw [show (S.np k == -2)=true by simp [hd]]
   refine ExE.raiseV _ _ _ W hA (t:= .str _) (EvE.fmt (k1:=true) ?_ k0 k9 ?_ ?_ ?_) ?_ ?_ ?_ ?_ ?_
   ·exact EvE.nm W
   ·decide
   ·decide
   ·lk
   ·lk
   ·lk
   ·lk
   ·lk
   exact ⟨way _ j1,(by show aA4 hp σ1.hp; rw [j1]; exact aA4.refl _),⟨_,rfl⟩,(by show Srt σ1.hp a G S; rw [j1]; exact h)⟩
 ·intro σ1 w1w
  refine aB w1w λi0 _=> ?_
  try clear w1w
  cases i0
noncomputable def SD.decr (S:SD)(j:Int):SD:={ S with np:=upd S.np j (S.np j - 1),rdy:=if S.np j - 1=0 then S.rdy.map (· ++[j]) else S.rdy }
noncomputable def SD.started (S:SD)(k:Int):SD:={ S with np:=upd S.np k (-2) }
noncomputable def SD.done (S:SD)(k:Int):SD:=
 let S2:=(S.suc k).foldl SD.decr (S.started k)
 { S2 with fin:=S2.fin+1 }
theorem aG2:∀ (js:List Int) (S:SD),(js.foldl SD.decr S).nodes=S.nodes/\(js.foldl SD.decr S).suc=S.suc/\(js.foldl SD.decr S).out=S.out/\(js.foldl SD.decr S).fin=S.fin
 | [],S=>⟨rfl,rfl,rfl,rfl⟩
 | j::js,S=>aG2 js (S.decr j)
theorem aY6:∀ (js:List Int) (S:SD) (l:List Int),S.rdy=some l->∃ l',(js.foldl SD.decr S).rdy=some l'/\l'.length<=l.length+js.length
 | [],S,l,h=>⟨l,h,Nat.le_refl _⟩
 | j::js,S,l,h=>by
  rw [List.foldl_cons]
  by_cases e:S.np j - 1=0
  ·obtain ⟨l',a,b⟩:=aY6 js (S.decr j) (l++[j]) (by unfold SD.decr; dsimp only; rw [if_pos e,h]; rfl)
   refine ⟨l',a, ?_⟩
   rw [List.length_append] at b
   simp at b ⊢; room
  ·obtain ⟨l',a,b⟩:=aY6 js (S.decr j) l (by unfold SD.decr; dsimp only; rw [if_neg e,h])
   refine ⟨l',a, ?_⟩
   simp; room
noncomputable abbrev dnA (hp:Hp)(a:Addr)(G:SA)(S:SD)(k:Int)(i:Nat)(σ:Sg):Prop:=(i=0/\σ.hp=hp/\σ.fz (u "n2i")=some (.obj G.n)/\σ.fz (u "self")=some (.obj a)/\σ.ow=[])\/(i=1/\Srt σ.hp a G (S.done k)/\aA4 hp σ.hp)
noncomputable abbrev dnB (hp:Hp)(a:Addr)(G:SA)(D:SD)(σ:Sg):Prop:=Srt σ.hp a G D/\aA4 hp σ.hp/\σ.fz (u "self")=some (.obj a)/\σ.fz (u "n2i")=some (.obj G.n)/\σ.ow=[]
theorem cJ6 (w:World)(os:OsState)(hp:Hp)(a:Addr)(G:SA)(S:SD)(l:List Int)(k:Int)(h:Srt hp a G S)(hr:S.rdy=some l)(hk:k∈S.nodes)(hn:S.np k= -1)(hs:∀ j∈S.suc k,j∈S.nodes)(hz:l.length+(S.suc k).length<=1000):FnH w os 0 120 [.obj a, .int k] hp (λr hp'=>r= .val .none/\Srt hp' a G (S.done k)):=by
 refine aE0 (o:=aM7) (fd:=aA2 aM7) (body:=aB1 (mAt 6 7)) (c:=119) (oc:=bG9) (as':=[.obj a]++[.tup [.int k]]) [u "self",u "nodes"] (by lk) rfl rfl (by lk) rfl rfl rfl
  (aF4.star (ts:=[.obj a]) (us:=[.int k]) λS=>dC9 λ_ _=>by lk) rfl (by decide) (by lk) (by lk) rfl rfl rfl rfl λA h0 L RA FA hL=> ?_
 have W:Own (callEnv (aA2 aM7) L 120):=⟨rfl,rfl,rfl⟩
 have hA:(A.deeper (callEnv (aA2 aM7) L 120)).handled=none:=RA.handled
 have hsl:sizeLine=16777216:=by decide
 refine ExE.ite _ (b:=false) ?_ ?_
 ·refine TsE.cmp _ (k1:=true) (k2:=true) (a:= .obj G.r) (b:= .none) (x:=false) ?_ (EvE.noneC _ _) (aI5 _ _ (.obj G.r)) ?_
  ·exact EvE.attrI _ (k1:=true) (EvE.nm W) h.ins h.ns (aF1 _) (aG9 hr) (by lk)
  ·lk
 refine ExE.nil ?_
 show ExE _ _ _ _ _ _ _ _
 refine ExE.assign _ _ W (t:= .obj G.n) ?_ ?_ ?_ ?_ ?_
 ·exact EvE.attrI _ (k1:=true) (EvE.nm W) h.ins h.ns (aJ3 _) rfl (by lk)
 ·lk
 ·exact aC2 _ rfl
 ·lk
 refine ExE.forG (ts:=[.int k]) (C:=λ_=>True) (J:=dnA hp a G S k) _ ?_ ?_ ?_ ?_ ?_ ?_ ?_
 ·refine (ItE.tup hA ?_).toG
  exact EvE.nm W
 ·exact .inl ⟨rfl,rfl,by lk,by lk,rfl⟩
 ·exact λ_ _ _=>trivial
 ·exact λit v=>rfl
 ·exact λx=>rfl
 ·intro i t σ1 ht hJ
  rcases hJ with ⟨i0,j1,j2,j3,j4⟩ | ⟨i1,_⟩
  rotate_left
  ·subst i1; cases ht
  subst i0
  cases ht
  refine ⟨_,aF5.name _ W (by lk) (aC2 _ j4), ?_⟩
  have hs1:Srt (σ1.set (u "node") (.int k)).hp a G S:=by rw [show (σ1.set (u "node") (.int k)).hp=hp from j1]; exact h
  have hdA:dAt (aH G S.nodes) k=some (.obj (G.inf k)):=by rw [aI7,if_pos hk]
  refine ExE.iteW _ _ _ _ _ W (t:=(dAt (aH G S.nodes) k).getD .none) ?_ ?_ ?_ ?_ ?_
  ·refine EvE.dget _ _ (k1:=true) (k2:=true) (d:=G.n) ?_ ?_ hs1.dct ?_ ?_ ?_
   ·exact EvE.nm W ((by lk:_=σ1.fz (u "n2i")).trans j2)
   ·exact EvE.nm W
   ·lk
   ·lk
   ·lk
  ·lk
  ·exact aC2 _ j4
  ·lk
  rw [hdA]
  refine ExE.nil ?_
  show ExE _ _ _ _ _ _ _ _
  refine ExE.assign _ _ W (t:= .int (S.np k)) ?_ ?_ ?_ ?_ ?_
  ·exact EvE.attrS _ (k1:=true) (EvE.nm W) (hs1.inf k hk) (aH6 _) rfl (by lk)
  ·lk
  ·exact aC2 _ j4
  ·lk
  refine ExE.ite _ (b:=(S.np k != -1)) ?_ ?_
  ·refine TsE.cmp _ (k1:=true) (k2:=true) (EvE.nm W) (EvE.gint _ W (show mgm w.params (u "_NODE_OUT")=some (.int (-1) 197) by lk) (by lk) (by lk)) (aE2 _ _ _ _) ?_
   lk
  rw [show (S.np k != -1)=false by simp [hn]]
  refine ExE.nil ?_
  show ExE _ _ _ _ _ _ _ _
  refine ExE.asgS _ _ (a:=G.inf k) (ts:=[.int k, .int (S.np k), .obj (G.sl k)]) (t:= .int (-2)) (k1:=true) ?_ ?_ (hs1.inf k hk) (aH6 _) ?_ ?_ ?_
  ·exact EvE.gint _ W (show mgm w.params (u "_NODE_DONE")=some (.int (-2) 200) by lk) (by lk) (by lk)
  ·exact EvE.nm W
  ·simp
  ·lk
  have g0:Srt (hp.put (G.inf k) (.slt 40 [.int k, .int (-2), .obj (G.sl k)])) a G (S.started k):=h.putNp hk
  have kp0:aA4 hp (hp.put (G.inf k) (.slt 40 [.int k, .int (-2), .obj (G.sl k)])):=aA4.put (aA4.refl _) (h.notSame (.inr (.inr (.inr (.inl ⟨k,hk, .inl rfl⟩)))))
  refine aO7 (aG2 (S.suc k) (S.started k)) λh1a h1b h1c h1d=> ?_
  have hrs:(S.started k).rdy=some l:=hr
  refine ExE.forG (ts:=(S.suc k).map T.int) (C:=λσ=>σ.hp (G.sl k)=some (.lst ((S.suc k).map T.int))) (J:=λi=>dnB hp a G (((S.suc k).take i).foldl SD.decr (S.started k))) _ ?_ ?_ ?_ ?_ ?_ ?_ ?_
  ·refine ItG.lst (k1:=true) hA ?_ ?_
   ·refine EvE.attrS _ (a:=G.inf k) (ts:=[.int k, .int (-2), .obj (G.sl k)]) (k1:=true) (EvE.nm W) ?_ (aR2 _) rfl (by lk)
    exact aB5 _ _ _
   ·have:=g0.sl k hk
    show (σ1.hp.put (G.inf k) _) (G.sl k)=_
    rw [j1]; exact this
  ·refine ⟨?_, ?_,(by lk:_=σ1.fz (u "self")).trans j3,(by lk:_=σ1.fz (u "n2i")).trans j2,j4⟩
   ·show Srt (σ1.hp.put (G.inf k) _) a G _
    rw [j1]; exact g0
   ·show aA4 hp (σ1.hp.put (G.inf k) _)
    rw [j1]; exact kp0
  ·intro i σ2 hJ
   refine aC5 (aG2 ((S.suc k).take i) (S.started k)) λb1 b2 _=> ?_
   have:=hJ.1.sl k (by rw [b1]; exact hk)
   rw [b2] at this
   exact this
  ·exact λit v=>rfl
  ·exact λx=>rfl
  ·intro i t σ2 ht w1w
   refine aL1 w1w λg kp q1 q2 q3=> ?_
   try clear w1w
   rw [List.getElem?_map] at ht
   cases hpi:(S.suc k)[i]? with
   | none=>rw [hpi] at ht; cases ht
   | some j=>
   rw [hpi] at ht
   cases ht
   refine aO7 (aG2 ((S.suc k).take i) (S.started k)) λb1 b2 b3 b4=> ?_
   refine aA1 (aY6 ((S.suc k).take i) (S.started k) l hrs) λl2 hl2 hl2z=> ?_
   have hj:j∈(((S.suc k).take i).foldl SD.decr (S.started k)).nodes:=by rw [b1]; exact hs j (List.mem_of_getElem? hpi)
   have e:((S.suc k).take (i+1)).foldl SD.decr (S.started k)=(((S.suc k).take i).foldl SD.decr (S.started k)).decr j:=by
    rw [List.take_add_one,List.foldl_append,hpi]; rfl
   rw [e]
   have htk:((S.suc k).take i).length<=(S.suc k).length:=by rw [List.length_take]; room
   generalize hS2:((S.suc k).take i).foldl SD.decr (S.started k)=S2 at g hj hl2 b1 b2 b3 b4
   refine ⟨_,aF5.name _ W (by lk) (aC2 _ q3), ?_⟩
   refine ExE.assign _ _ W (t:= .obj (G.inf j)) ?_ ?_ ?_ ?_ ?_
   ·refine EvE.dix _ (d:=G.n) (k1:=true) (k2:=true) (i:=j) ?_ ?_ g.dct ?_ ?_
    ·exact EvE.nm W ((by lk:_=σ2.fz (u "n2i")).trans q2)
    ·exact EvE.nm W
    ·rw [aI7,if_pos hj]
    ·exact λo j u=>by lk
   ·lk
   ·exact aC2 _ q3
   ·lk
   refine ExE.augS _ _ (a:=G.inf j) (ts:=[.int j, .int (S2.np j), .obj (G.sl j)]) (i:=S2.np j) (j:=1) (k1:=true) (k2:=true) ?_ ?_ (g.inf j hj) (aH6 _) rfl (bZ8 _ _) ?_
   ·exact EvE.nm W
   ·exact EvE.int _ _ _
   have g2:=g.putNp (k:=j) (v:=S2.np j - 1) hj
   have kp2:aA4 hp (σ2.hp.put (G.inf j) (.slt 40 [.int j, .int (S2.np j - 1), .obj (G.sl j)])):=aA4.put kp (g.notSame (.inr (.inr (.inr (.inl ⟨j,hj, .inl rfl⟩)))))
   refine ExE.ite _ (b:=(S2.np j - 1 == 0)) ?_ ?_
   ·refine TsE.cmp _ (k1:=true) (k2:=true) (a:= .int (S2.np j - 1)) ?_ (EvE.int _ _ _) (aB4 _ _ _ _) ?_
    ·exact EvE.attrS _ (a:=G.inf j) (ts:=[.int j, .int (S2.np j - 1), .obj (G.sl j)]) (k1:=true) (EvE.nm W) (aB5 _ _ _) (aH6 _) rfl (by lk)
    ·lk
   by_cases hc:S2.np j - 1=0
   ·rw [show (S2.np j - 1 == 0)=true by simp [hc]]
    refine ExE.appendO _ _ _ (a:=G.r) (ts:=l2.map T.int) (t:= .int j) (k1:=true) ?_ (g2.rdy l2 hl2) ?_ ?_ ?_ ?_ ?_ ?_ ?_ ?_ ?_
    ·refine EvE.attrI _ (k1:=true) (EvE.nm W ((by lk:_=σ2.fz (u "self")).trans q1)) g2.ins g2.ns (aF1 _) ?_ (by lk)
     exact aG9 (S:={ S2 with np:=upd S2.np j (S2.np j - 1) }) hl2
    ·exact EvE.nm W
    ·rw [List.length_map]; room
    ·lk
    ·lk
    ·lk
    ·lk
    ·lk
    ·lk
    refine ExE.nil (ExE.nil ⟨?_, ?_,(by lk:_=σ2.fz (u "self")).trans q1,(by lk:_=σ2.fz (u "n2i")).trans q2,q3⟩)
    ·have g3:=g2.putRdy (l:=l2++[j]) hl2
     rw [List.map_append] at g3
     have e2:S2.decr j={ S2 with np:=upd S2.np j (S2.np j - 1),rdy:=some (l2++[j]) }:=by
      unfold SD.decr; rw [if_pos hc,hl2]; rfl
     rw [e2]; exact g3
    ·refine aA4.put kp2 (g2.notSame (.inr (.inr (.inr (.inr ⟨λz=> ?_,rfl⟩)))))
     cases hl2.symm.trans z
   ·rw [show (S2.np j - 1 == 0)=false by simp [hc]]
    refine ExE.nil (ExE.nil ⟨?_,kp2,(by lk:_=σ2.fz (u "self")).trans q1,(by lk:_=σ2.fz (u "n2i")).trans q2,q3⟩)
    have e2:S2.decr j={ S2 with np:=upd S2.np j (S2.np j - 1) }:=by
     unfold SD.decr; rw [if_neg hc]
    rw [e2]; exact g2
  ·intro σ2 w1w
   refine aL1 w1w λg kp q1 q2 q3=> ?_
   try clear w1w
   rw [List.length_map,List.take_length] at g
   generalize hS2:(S.suc k).foldl SD.decr (S.started k)=S2 at g
   refine ExE.augI _ _ (a:=a) (d:=G.d) (es:=aC3 G S2) (i:=S2.fin) (j:=1) (k1:=true) (k2:=true) ?_ ?_ g.ins g.ns (bF1 _) rfl (aX4 _ _) ?_ ?_
   ·exact EvE.nm W q1
   ·exact EvE.int _ _ _
   ·simp [aC3]
   refine ExE.nil (.inr ⟨rfl, ?_, ?_⟩)
   ·have g3:=g.putNs (out:=S2.out) (fin:=S2.fin+1)
    have e2:S.done k={ S2 with fin:=S2.fin+1 }:=by unfold SD.done; rw [hS2]
    rw [e2]; exact g3
   ·exact aA4.put kp (g.notSame (.inr (.inl rfl)))
 ·intro σ1 hJ
  rcases hJ with ⟨i0,_⟩ | ⟨_,g,kp⟩
  ·cases i0
  ·exact ExE.nil ⟨kp,rfl,g⟩
theorem bQ8 (w:World)(os:OsState)(hp:Hp)(a:Addr)(G:SA)(S:SD)(l:List Int)(k:Int)(h:Srt hp a G S)(hr:S.rdy=some l)(hk:k∈S.nodes)(k0:0<=k)(k9:k<100)(hn:S.np k= -1\/0<=S.np k\/S.np k= -2)(hs:∀ j∈S.suc k,j∈S.nodes)(hz:l.length+(S.suc k).length<=1000):
  FnH w os 1 336 [.obj a, .int k] hp (λr hp'=>r= .val (.bool (S.np k == -1))/\Srt hp' a G (if S.np k= -1 then S.done k else S)):=by
 refine aE0 (o:=bH7) (fd:=aA2 bH7) (body:=aB1 (aA0 35)) (c:=335) (oc:=cX7) [u "sorter",u "k"] (by lk) rfl rfl (by lk) rfl rfl rfl
  (aF4.plain (al2 λ_ _=>by lk)) rfl (by decide) (by lk) (by lk) rfl rfl rfl rfl λA h0 L RA FA hL=> ?_
 have W:Own (callEnv (aA2 bH7) L 336):=⟨rfl,rfl,rfl⟩
 refine aA1 FA λlf hlf hlow=> ?_
 try clear FA
 refine ExE.tryB (T:= "ValueError") (Xc:= "ValueError") W ?_ ?_ ?_ ?_ ?_ ?_ ?_ ?_
 ·rw [isSubtype_type]; lk
 ·rw [isSubtype_type]; lk
 ·rw [isSubtype_type]; lk
 ·lk
 ·lk
 ·lk
 ·lk
 refine ExE.exprH _ ?_ ?_ ?_
 ·lk
 ·lk
 refine EvH.meth (n:=0) (a:=a) (d:=G.d) (es:=aC3 G S) (as:=[.int k]) (k1:=true) _ _ (aD hlf hlow rfl rfl) (aD6.deeper RA) ?_ h.ins h.ns (bU1 _) ?_ ?_ ?_ ?_ ?_ ?_ ?_
 ·exact EvE.nm W
 ·lk
 ·lk
 ·lk
 ·lk
 ·lk
 ·exact .cons (EvE.nm W) .nil
 intro oL hLL
 by_cases hc:S.np k= -1
 ·refine (cJ6 w os _ a G S l k (h.inFrame hLL) hr hk hc hs hz).mono λr hp' p kL kp=> ?_
  refine aB p λz1z g=> ?_
  try clear p
  subst z1z
  refine ExE.nil ?_
  show ExE _ _ _ _ _ _ _ _
  refine ExE.ret _ (t:= .bool true) (EvE.boolC _ _ _) ⟨kp, ?_, ?_⟩
  ·rw [show (S.np k == -1)=true by simp [hc]]
  ·rw [if_pos hc]; exact g.delOff (.inr ⟨oL,kL⟩)
 ·refine (cJ5 w os _ a G S l k (h.inFrame hLL) hr hk k0 k9 (hn.resolve_left hc)).mono λr hp' p kL kp=> ?_
  refine aB p λz1z g=> ?_
  try clear p
  obtain ⟨args,rfl⟩:=z1z
  refine ⟨rfl,⟨lf,aD hlf (bB0 hlow kp) rfl rfl⟩,λe=> ?_⟩
  refine ExE.ret _ (t:= .bool false) (EvE.boolC _ _ _) ⟨kp, ?_, ?_⟩
  ·rw [show (S.np k == -1)=false by simp [hc]]
  ·rw [if_neg hc]; exact g.delOff (.inr ⟨oL,kL⟩)
noncomputable def adv (suc:Int->List Int):List (Int×Nat)->Option (Int×List (Int×Nat))
 | []=>none
 | (v,i)::r=>match (suc v)[i]? with
  | some x=>some (x,(v,i+1)::r)
  | none=>adv suc r
inductive Out where
 | ring (l:List Int)
 | end_ (seen:List Int)
 | stuck
noncomputable def stk (rs:List (Int×Nat)):List Int:=(rs.map (·.1)).reverse
noncomputable def bF5 (st:List Int)(node:Int):List Int:=st.drop (st.idxOf node)++[node]
noncomputable def aH0 (suc:Int->List Int):Nat->Int->List Int->List (Int×Nat)->Out
 | 0,_,_,_=> .stuck
 | n+1,node,seen,rs=>
  if node∈seen then
   if node∈stk rs then .ring (bF5 (stk rs) node)
   else match adv suc rs with
    | none=> .end_ seen
    | some (x,rs')=>aH0 suc n x seen rs'
  else match adv suc ((node,0)::rs) with
   | none=> .end_ (seen++[node])
   | some (x,rs')=>aH0 suc n x (seen++[node]) rs'
noncomputable def cyc (suc:Int->List Int):List Int->List Int->Option (List Int)
 | [],_=>none
 | r::l,seen=>if r∈seen then cyc suc l seen else match aH0 suc 100 r seen [] with
  | .ring x=>some x
  | .end_ seen'=>cyc suc l seen'
  | .stuck=>none
noncomputable def aQ3 (suc:Int->List Int):List Int->List Int->Prop
 | [],_=>True
 | r::l,seen=>if r∈seen then aQ3 suc l seen else match aH0 suc 100 r seen [] with
  | .ring _=>True
  | .end_ seen'=>aQ3 suc l seen'
  | .stuck=>False
noncomputable def idx (l:List Int):List (Int×T):=l.zipIdx.map λp=>(p.1, .int p.2)
theorem aY7 (l:List Int)(x:Int):idx (l++[x])=idx l++[(x, .int l.length)]:=by
 unfold idx
 rw [List.zipIdx_append]; simp
theorem aY8 (l:List Int):(idx l).map (·.1)=l:=by
 unfold idx
 rw [List.map_map]
 have:((λx:Int×T=>x.1) ∘ λp:Int×Nat=>(p.1,T.int p.2))=Prod.fst:=rfl
 rw [this,List.zipIdx_map_fst]
theorem cB4 {l:List Int}{x:Int}(h:x∉l):aV6 (idx l) x (.int l.length)=idx (l++[x]):=by
 rw [aY7]
 unfold aV6
 rw [if_neg]
 intro z
 refine aA1 (List.any_eq_true.mp z) λp hp e=> ?_
 have e:p.1=x:=by simpa using e
 apply h
 rw [<- e,<-aY8 l]
 exact List.mem_map_of_mem hp
theorem cT6 {l:List Int}{x:Int}(h:x∉l):(idx l).find? (λp=>decide (p.1=x))=none:=by
 rw [List.find?_eq_none]
 intro p hp e
 have e:p.1=x:=by simpa using e
 apply h
 rw [<- e,<-aY8 l]
 exact List.mem_map_of_mem hp
theorem bF6 {x:Int}:∀ (l:List Int),dAt (idx l) x=if x∈l then some (.int (l.idxOf x:Nat)) else none:=by
 intro l
 suffices H:∀ (l:List Int) (n:Nat),(((l.zipIdx n).map λp:Int×Nat=>(p.1,T.int p.2)).find? (λp:Int×T=>decide (p.1=x))).map (λp:Int×T=>p.2)=if x∈l then some (T.int ((l.idxOf x+n:Nat):Int)) else none by
  have:=H l 0
  unfold dAt idx
  exact this
 intro l
 induction l with
 | nil=>intro n; rfl
 | cons y l ih=>
  intro n
  rw [List.zipIdx_cons,List.map_cons,List.find?_cons]
  by_cases e:y=x
  ·subst e; simp
  ·have e':(y == x)=false:=by simpa using e
   simp only [e,decide_false,List.mem_cons]
   rw [ih (n+1)]
   have hx: ¬x=y:=λz=>e z.symm
   simp only [hx,false_or]
   split
   ·rw [List.idxOf_cons,e']
    congr 3
    simp; room
   ·rfl
theorem cB5 {l:List Int}{x:Int}(h:x∉l):bJ3 (idx (l++[x])) x=idx l:=by
 rw [aY7]
 unfold bJ3
 rw [List.filter_append]
 have h1:(idx l).filter (λp=>decide (p.1≠x))=idx l:=by
  refine List.filter_eq_self.mpr λp hp=> ?_
  have:p.1≠x:=λe=>h (by rw [<- e,<-aY8 l]; exact List.mem_map_of_mem hp)
  simpa using this
 rw [h1]
 simp
theorem Srt.putNF {hp:Hp}{a:Addr}{G:SA}{S:SD}(h:Srt hp a G S){y:Addr}(b:Ob)(hy: ¬aV8 a G S y):Srt (hp.put y b) a G S:=h.congr λz f=>put_ne _ λe=>hy (e ▸ f)
theorem Srt.delNF {hp:Hp}{a:Addr}{G:SA}{S:SD}(h:Srt hp a G S){y:Addr}(hy: ¬aV8 a G S y):Srt (hp.del y) a G S:=h.congr λz f=>if_neg (λe:z=y=>hy (e ▸ f))
theorem Srt.notFoot {hp:Hp}{a:Addr}{G:SA}{S:SD}(h:Srt hp a G S){y:Addr}(hy:hp y=none): ¬aV8 a G S y:=λf=>by
 refine aA1 (h.foot f) λb h1 _=> ?_
 rw [hy] at h1; cases h1
theorem Srt.notFootI {hp:Hp}{a:Addr}{G:SA}{S:SD}(h:Srt hp a G S){y l:Addr}{i:Nat}(hy:hp y=some (.itr l i)): ¬aV8 a G S y:=λf=>by
 rcases f with rfl | rfl | rfl | ⟨k,hk,rfl | rfl⟩ | ⟨hr,rfl⟩
 ·cases h.ins.symm.trans hy
 ·cases h.ns.symm.trans hy
 ·cases h.dct.symm.trans hy
 ·cases (h.inf k hk).symm.trans hy
 ·cases (h.sl k hk).symm.trans hy
 ·refine aA3 (Option.ne_none_iff_exists'.mp hr) λl hl=> ?_
  cases (h.rdy l hl).symm.trans hy
structure Pl where
 v:Int
 i:Nat
 it:Addr
 mw:Addr
noncomputable def bB4 (ps:List Pl):List (Int×Nat):=ps.map λp=>(p.v,p.i)
noncomputable def aD1 (ps:List Pl):List Int:=(ps.map (·.v)).reverse
theorem cB6 (ps:List Pl):stk (bB4 ps)=aD1 ps:=by
 unfold stk bB4 aD1; rw [List.map_map]; rfl
structure Cst (hp:Hp)(a:Addr)(G:SA)(S:SD)(sa ia da se:Addr)(seen:List Int)(ps:List Pl):Prop where
 srt:Srt hp a G S
 st:hp sa=some (.lst ((aD1 ps).map T.int))
 it:hp ia=some (.lst (((ps.map (·.mw)).reverse).map T.obj))
 dd:∃ ep,hp da=some (.dct (idx (aD1 ps)) ep)
 sn:∃ f,hp se=some (.set f seen.length)/\∀ j,f j=decide (j∈seen)
 fr:∀ p∈ps,hp p.mw=some (.nxt p.it)/\hp p.it=some (.itr (G.sl p.v) p.i)
 nod:(ps.map (·.it)).Nodup
 nodv:(ps.map (·.v)).Nodup
 inn:∀ p∈ps,p.v∈S.nodes/\p.v∈seen
 sub:∀ v∈seen,v∈S.nodes
 nods:seen.Nodup
 nfs: ¬aV8 a G S sa
 nfi: ¬aV8 a G S ia
 nfd: ¬aV8 a G S da
 nfe: ¬aV8 a G S se
 sia:sa≠ia
structure Nms (σ:Sg)(G:SA)(sa ia da se:Addr):Prop where
 n2i:σ.fz (u "n2i")=some (.obj G.n)
 st:σ.fz (u "stack")=some (.obj sa)
 it:σ.fz (u "itstack")=some (.obj ia)
 sn:σ.fz (u "seen")=some (.obj se)
 dd:σ.fz (u "node2stacki")=some (.obj da)
 ow:σ.ow=[]
theorem Nms.setNode {σ:Sg}{G:SA}{sa ia da se:Addr}(N:Nms σ G sa ia da se)(t:T):Nms (σ.set (u "node") t) G sa ia da se:=
 ⟨(by lk:_=σ.fz (u "n2i")).trans N.n2i,(by lk:_=σ.fz (u "stack")).trans N.st,(by lk:_=σ.fz (u "itstack")).trans N.it,(by lk:_=σ.fz (u "seen")).trans N.sn,(by lk:_=σ.fz (u "node2stacki")).trans N.dd,N.ow⟩
theorem Nms.hp {σ:Sg}{G:SA}{sa ia da se:Addr}(N:Nms σ G sa ia da se)(hp:Hp):Nms ⟨σ.fz,σ.ow,hp⟩ G sa ia da se:=⟨N.n2i,N.st,N.it,N.sn,N.dd,N.ow⟩
theorem cB7 (suc:Int->List Int)(p:Pl)(ps:List Pl):adv suc (bB4 (p::ps))=match (suc p.v)[p.i]? with | some x=>some (x,bB4 ({ p with i:=p.i+1 }::ps)) | none=>adv suc (bB4 ps):=rfl
theorem aI1 (p:Pl)(ps:List Pl):aD1 (p::ps)=aD1 ps++[p.v]:=by unfold aD1; rw [List.map_cons,List.reverse_cons]
section
variable {hp:Hp}{a:Addr}{G:SA}{S:SD}{sa ia da se:Addr}{seen:List Int}{ps:List Pl}
theorem Cst.step {p:Pl}(C:Cst hp a G S sa ia da se seen (p::ps)):Cst (hp.put p.it (.itr (G.sl p.v) (p.i+1))) a G S sa ia da se seen ({ p with i:=p.i+1 }::ps):=by
 have hi:=(C.fr p (.head _)).2
 have ne:∀ {y b},hp y=some b->(∀ l i,b≠ .itr l i)->y≠p.it:=λ{y b} h hb z=>by rw [z,hi] at h; cases h; exact hb _ _ rfl
 have nod:=C.nod
 rw [List.map_cons,List.nodup_cons] at nod
 refine ⟨C.srt.putNF _ (C.srt.notFootI hi), ?_, ?_, ?_, ?_,λq hq=> ?_, ?_, ?_, ?_,C.sub,C.nods,C.nfs,C.nfi,C.nfd,C.nfe,C.sia⟩
 ·exact (put_ne _ (ne C.st λl i z=>by cases z)).trans C.st
 ·exact (put_ne _ (ne C.it λl i z=>by cases z)).trans C.it
 ·refine aA3 C.dd λep h=> ?_
  exact ⟨ep,(put_ne _ (ne h λl i z=>by cases z)).trans h⟩
 ·refine aA1 C.sn λf h h2=> ?_
  exact ⟨f,(put_ne _ (ne h λl i z=>by cases z)).trans h,h2⟩
 ·rcases List.mem_cons.mp hq with rfl | hq
  ·exact ⟨(put_ne _ (ne (C.fr p (.head _)).1 λl i z=>by cases z)).trans (C.fr p (.head _)).1,aB5 _ _ _⟩
  ·refine aB (C.fr q (.tail _ hq)) λh1 h2=> ?_
   refine ⟨(put_ne _ (ne h1 λl i z=>by cases z)).trans h1,(put_ne _ λz=> ?_).trans h2⟩
   exact nod.1 (z ▸ List.mem_map_of_mem (f:=(·.it)) hq)
 ·rw [List.map_cons,List.nodup_cons]; exact nod
 ·exact C.nodv
 ·intro q hq
  rcases List.mem_cons.mp hq with rfl | hq
  ·exact C.inn p (.head _)
  ·exact C.inn q (.tail _ hq)
theorem Cst.popped {p:Pl}{hp':Hp}{ep:Nat}(C:Cst hp a G S sa ia da se seen (p::ps))
  (e:∀ y,hp' y=if y=ia then some (.lst (((ps.map (·.mw)).reverse).map T.obj)) else if y=da then some (.dct (idx (aD1 ps)) ep) else if y=sa then some (.lst ((aD1 ps).map T.int)) else if y=p.it then none else hp y):Cst hp' a G S sa ia da se seen ps:=by
 have hi:=(C.fr p (.head _)).2
 refine aA3 C.dd λepd hd=> ?_
 have sd:sa≠da:=λz=>by have:=C.st; rw [z,hd] at this; cases this
 have idn:ia≠da:=λz=>by have:=C.it; rw [z,hd] at this; cases this
 have nod:=C.nod
 rw [List.map_cons,List.nodup_cons] at nod
 have nodv:=C.nodv
 rw [List.map_cons,List.nodup_cons] at nodv
 have kp:∀ {y},y≠ia->y≠da->y≠sa->y≠p.it->hp' y=hp y:=λ{y} h1 h2 h3 h4=>by rw [e,if_neg h1,if_neg h2,if_neg h3,if_neg h4]
 refine ⟨?_, ?_, ?_, ?_, ?_,λq hq=> ?_,nod.2,nodv.2,λq hq=>C.inn q (.tail _ hq),C.sub,C.nods,C.nfs,C.nfi,C.nfd,C.nfe,C.sia⟩
 ·exact C.srt.congr λy f=>kp (λz=>C.nfi (z ▸ f)) (λz=>C.nfd (z ▸ f)) (λz=>C.nfs (z ▸ f)) (λz=>C.srt.notFootI hi (z ▸ f))
 ·rw [e,if_neg C.sia,if_neg sd,if_pos rfl]
 ·rw [e,if_pos rfl]
 ·exact ⟨ep,by rw [e,if_neg idn.symm,if_pos rfl]⟩
 ·refine aA1 C.sn λf h h2=> ?_
  refine ⟨f,(kp (λz=> ?_) (λz=> ?_) (λz=> ?_) (λz=> ?_)).trans h,h2⟩
  ·rw [z,C.it] at h; cases h
  ·rw [z,hd] at h; cases h
  ·rw [z,C.st] at h; cases h
  ·rw [z,hi] at h; cases h
 ·refine aB (C.fr q (.tail _ hq)) λh1 h2=> ?_
  refine ⟨(kp (λz=> ?_) (λz=> ?_) (λz=> ?_) (λz=> ?_)).trans h1,(kp (λz=> ?_) (λz=> ?_) (λz=> ?_) (λz=> ?_)).trans h2⟩
  ·rw [z,C.it] at h1; cases h1
  ·rw [z,hd] at h1; cases h1
  ·rw [z,C.st] at h1; cases h1
  ·rw [z,hi] at h1; cases h1
  ·rw [z,C.it] at h2; cases h2
  ·rw [z,hd] at h2; cases h2
  ·rw [z,C.st] at h2; cases h2
  ·exact nod.1 (z ▸ List.mem_map_of_mem (f:=(·.it)) hq)
theorem Cst.pushed {v:Int}{it mw:Addr}{hp':Hp}{ep:Nat}{f:Int->Bool}(C:Cst hp a G S sa ia da se seen ps)(hv:v∈S.nodes)(hns:v∉seen)(hit:hp it=none)(hmw:hp mw=none)(him:it≠mw)(hf:∀ j,f j=decide (j∈seen++[v]))
  (e:∀ y,hp' y=if y=sa then some (.lst ((aD1 (⟨v,0,it,mw⟩::ps)).map T.int)) else if y=da then some (.dct (idx (aD1 (⟨v,0,it,mw⟩::ps))) ep) else if y=ia then some (.lst ((((⟨v,0,it,mw⟩::ps:List Pl).map (·.mw)).reverse).map T.obj)) else if y=mw then some (.nxt it) else if y=it then some (.itr (G.sl v) 0) else if y=se then some (.set f (seen.length+1)) else hp y):
  Cst hp' a G S sa ia da se (seen++[v]) (⟨v,0,it,mw⟩::ps):=by
 refine aA3 C.dd λepd hd=> ?_
 refine aA1 C.sn λfs hs hs2=> ?_
 have sd:sa≠da:=λz=>by have:=C.st; rw [z,hd] at this; cases this
 have idn:ia≠da:=λz=>by have:=C.it; rw [z,hd] at this; cases this
 have ss:se≠sa:=λz=>by have:=C.st; rw [<- z,hs] at this; cases this
 have si:se≠ia:=λz=>by have:=C.it; rw [<- z,hs] at this; cases this
 have sdd:se≠da:=λz=>by rw [<- z,hs] at hd; cases hd
 have nn:∀ {y b},hp y=some b->y≠it/\y≠mw:=λ{y b} h=>⟨λz=>(by rw [z,hit] at h; cases h),λz=>(by rw [z,hmw] at h; cases h)⟩
 have kp:∀ {y},y≠sa->y≠da->y≠ia->y≠mw->y≠it->y≠se->hp' y=hp y:=λ{y} h1 h2 h3 h4 h5 h6=>by rw [e,if_neg h1,if_neg h2,if_neg h3,if_neg h4,if_neg h5,if_neg h6]
 have hvp:v∉ps.map (·.v):=λh=>by
  refine aA1 (List.mem_map.mp h) λp hp1 z1z=> ?_
  subst z1z
  exact hns (C.inn p hp1).2
 refine ⟨?_, ?_, ?_, ?_, ?_,λq hq=> ?_, ?_, ?_, ?_, ?_, ?_,C.nfs,C.nfi,C.nfd,C.nfe,C.sia⟩
 ·refine C.srt.congr λy fo=> ?_
  refine aA1 (C.srt.foot fo) λb hb _=> ?_
  exact kp (λz=>C.nfs (z ▸ fo)) (λz=>C.nfd (z ▸ fo)) (λz=>C.nfi (z ▸ fo)) (nn hb).2 (nn hb).1 (λz=>C.nfe (z ▸ fo))
 ·rw [e,if_pos rfl]
 ·rw [e,if_neg C.sia.symm,if_neg idn,if_pos rfl]
 ·exact ⟨ep,by rw [e,if_neg sd.symm,if_pos rfl]⟩
 ·refine ⟨f, ?_,hf⟩
  rw [e,if_neg ss,if_neg sdd,if_neg si,if_neg (nn hs).2,if_neg (nn hs).1,if_pos rfl,List.length_append]; rfl
 ·rcases List.mem_cons.mp hq with rfl | hq
  ·refine ⟨?_, ?_⟩
   ·show hp' mw=some (.nxt it)
    rw [e,if_neg λz=>(nn C.st).2 z.symm,if_neg λz=>(nn hd).2 z.symm,if_neg λz=>(nn C.it).2 z.symm,if_pos rfl]
   ·show hp' it=some (.itr (G.sl v) 0)
    rw [e,if_neg λz=>(nn C.st).1 z.symm,if_neg λz=>(nn hd).1 z.symm,if_neg λz=>(nn C.it).1 z.symm,if_neg him,if_pos rfl]
  ·refine aB (C.fr q hq) λh1 h2=> ?_
   refine ⟨(kp (λz=> ?_) (λz=> ?_) (λz=> ?_) (nn h1).2 (nn h1).1 (λz=> ?_)).trans h1,(kp (λz=> ?_) (λz=> ?_) (λz=> ?_) (nn h2).2 (nn h2).1 (λz=> ?_)).trans h2⟩
   ·rw [z,C.st] at h1; cases h1
   ·rw [z,hd] at h1; cases h1
   ·rw [z,C.it] at h1; cases h1
   ·rw [z,hs] at h1; cases h1
   ·rw [z,C.st] at h2; cases h2
   ·rw [z,hd] at h2; cases h2
   ·rw [z,C.it] at h2; cases h2
   ·rw [z,hs] at h2; cases h2
 ·rw [List.map_cons,List.nodup_cons]
  refine ⟨λh=> ?_,C.nod⟩
  refine aA1 (List.mem_map.mp h) λp hp1 z=> ?_
  have:=(C.fr p hp1).2
  rw [show p.it=it from z,hit] at this; cases this
 ·rw [List.map_cons,List.nodup_cons]; exact ⟨hvp,C.nodv⟩
 ·intro q hq
  rcases List.mem_cons.mp hq with rfl | hq
  ·exact ⟨hv,by simp⟩
  ·exact ⟨(C.inn q hq).1,List.mem_append.mpr (.inl (C.inn q hq).2)⟩
 ·intro x hx
  rcases List.mem_append.mp hx with h | h
  ·exact C.sub x h
  ·rw [List.mem_singleton.mp h]; exact hv
 ·rw [List.nodup_append]
  exact ⟨C.nods,by simp,λx hx y hy z=>by rw [List.mem_singleton.mp hy] at z; exact hns (z ▸ hx)⟩
end
theorem aC1:∀ {l m:List Int},l.Nodup->(∀ x∈l,x∈m)->l.length<=m.length
 | [],m,_,_=>Nat.zero_le _
 | x::l,m,hn,h=>by
  rw [List.nodup_cons] at hn
  have hx:x∈m:=h x (.head _)
  have:=aC1 (l:=l) (m:=m.erase x) hn.2 λy hy=>(List.mem_erase_of_ne (λz:y=x=>hn.1 (z ▸ hy))).mpr (h y (.tail _ hy))
  rw [List.length_erase_of_mem hx] at this
  have:0<m.length:=List.length_pos_of_mem hx
  simp; room
noncomputable abbrev cyA (hp:Hp)(a:Addr)(G:SA)(S:SD)(sa ia da se:Addr)(i:Nat)(σ:Sg):Prop:=Nms σ G sa ia da se/\aA4 hp σ.hp/\∃ seen,Cst σ.hp a G S sa ia da se seen []/\cyc S.suc S.nodes []=cyc S.suc (S.nodes.drop i) seen/\aQ3 S.suc (S.nodes.drop i) seen
noncomputable abbrev cyB (hp:Hp)(a:Addr)(G:SA)(S:SD)(sa ia da se:Addr)(tar:Out)(n:Nat)(σ:Sg):Prop:=Nms σ G sa ia da se/\aA4 hp σ.hp/\∃ node seen2 ps,σ.fz (u "node")=some (.int node)/\node∈S.nodes/\Cst σ.hp a G S sa ia da se seen2 ps/\aH0 S.suc n node seen2 (bB4 ps)=tar
noncomputable abbrev cyC (hp:Hp)(a:Addr)(G:SA)(S:SD)(sa ia da se:Addr)(tar:Out)(n:Nat)(fl:Fl)(σ':Sg):Prop:=(fl= .next/\Nms σ' G sa ia da se/\aA4 hp σ'.hp/\∃ seen3 ps3,Cst σ'.hp a G S sa ia da se seen3 ps3/\(match adv S.suc (bB4 ps3) with | none=>Out.end_ seen3 | some (x,rs')=>aH0 S.suc n x seen3 rs')=tar)\/
 (∃ l,fl= .ret (.list (l.map T.int))/\tar= .ring l/\Srt σ'.hp a G S/\aA4 hp σ'.hp)
noncomputable abbrev cyD (hp:Hp)(a:Addr)(G:SA)(S:SD)(sa ia da se:Addr)(seen3:List Int)(ps3:List Pl)(m:Nat)(σ:Sg):Prop:=Nms σ G sa ia da se/\aA4 hp σ.hp/\∃ ps,m=ps.length/\Cst σ.hp a G S sa ia da se seen3 ps/\adv S.suc (bB4 ps)=adv S.suc (bB4 ps3)
theorem bJ8 (w:World)(os:OsState)(hp:Hp)(a:Addr)(G:SA)(S:SD)(h:Srt hp a G S)(hz:S.nodes.length<=60)(hsuc:∀ v∈S.nodes,∀ j∈S.suc v,j∈S.nodes)(hfine:aQ3 S.suc S.nodes [])(hsb:100<scanBound):
  FnH w os 0 127 [.obj a] hp (λr hp'=>r= .val (aJ2 (cyc S.suc S.nodes []))/\Srt hp' a G S):=by
 refine aE0 (o:=aW3) (fd:=aA2 aW3) (body:=aB1 (mAt 6 8)) (c:=126) (oc:=bH) [u "self"] (by lk) rfl rfl (by lk) rfl rfl rfl
  (aF4.plain (al1 λ_=>by lk)) rfl (by decide) (by lk) (by lk) rfl rfl rfl rfl λA h0 L RA FA hL=> ?_
 have W:Own (callEnv (aA2 aW3) L 127):=⟨rfl,rfl,rfl⟩
 have hA:(A.deeper (callEnv (aA2 aW3) L 127)).handled=none:=RA.handled
 have hsl:sizeLine=16777216:=by decide
 refine aA1 FA λlf hlf hlow=> ?_
 try clear FA
 refine ExE.assign _ _ W (t:= .obj G.n) ?_ ?_ ?_ ?_ ?_
 ·exact EvE.attrI _ (k1:=true) (EvE.nm W) h.ins h.ns (aJ3 _) rfl (by lk)
 ·lk
 ·exact aC2 _ rfl
 ·lk
 refine ExE.assignH _ _ W ?_ ?_ ?_
 ·lk
 ·lk
 refine EvH.listO (ts:=[]) _ .nil ?_ ?_ λsa hsa=>⟨aC2 _ rfl, ?_⟩
 ·lk
 ·decide
 have hsa:hp sa=none:=hsa
 refine ExE.assignH _ _ W ?_ ?_ ?_
 ·lk
 ·lk
 refine EvH.listO (ts:=[]) _ .nil ?_ ?_ λia hia=>⟨aC2 _ rfl, ?_⟩
 ·lk
 ·decide
 have hia:(hp.put sa (.lst [])) ia=none:=hia
 have sia:sa≠ia:=λz=>by rw [<- z,aB5] at hia; cases hia
 have hia0:hp ia=none:=by rwa [put_ne _ sia.symm] at hia
 refine ExE.assignH _ _ W ?_ ?_ ?_
 ·lk
 ·lk
 refine EvH.setO _ _ W ?_ ?_ ?_ λse hse=>⟨aC2 _ rfl, ?_⟩
 ·lk
 ·lk
 ·lk
 have hse:((hp.put sa (.lst [])).put ia (.lst [])) se=none:=hse
 have sei:se≠ia:=λz=>by rw [z,aB5] at hse; cases hse
 rw [put_ne _ sei] at hse
 have ses:se≠sa:=λz=>by rw [z,aB5] at hse; cases hse
 rw [put_ne _ ses] at hse
 refine ExE.assignH _ _ W ?_ ?_ ?_
 ·lk
 ·lk
 refine EvH.dictO _ λda hda=>⟨aC2 _ rfl, ?_⟩
 have hda:(((hp.put sa (.lst [])).put ia (.lst [])).put se (.set (λ_=>false) 0)) da=none:=hda
 have dae:da≠se:=λz=>by rw [z,aB5] at hda; cases hda
 rw [put_ne _ dae] at hda
 have dai:da≠ia:=λz=>by rw [z,aB5] at hda; cases hda
 rw [put_ne _ dai] at hda
 have das:da≠sa:=λz=>by rw [z,aB5] at hda; cases hda
 rw [put_ne _ das] at hda
 have hE:∀ y,(((((hp.put sa (.lst [])).put ia (.lst [])).put se (.set (λ_=>false) 0)).put da (.dct [] 0)) y=if y=da then some (.dct [] 0) else if y=se then some (.set (λ_=>false) 0) else if y=ia then some (.lst []) else if y=sa then some (.lst []) else hp y):=λy=>rfl
 have kp0:aA4 hp ((((hp.put sa (.lst [])).put ia (.lst [])).put se (.set (λ_=>false) 0)).put da (.dct [] 0)):=λf o e=>by
  have n1:f≠da:=λz=>by rw [z,hda] at e; cases e
  have n2:f≠se:=λz=>by rw [z,hse] at e; cases e
  have n3:f≠ia:=λz=>by rw [z,hia0] at e; cases e
  have n4:f≠sa:=λz=>by rw [z,hsa] at e; cases e
  rw [hE,if_neg n1,if_neg n2,if_neg n3,if_neg n4]
  exact e
 have C0:Cst ((((hp.put sa (.lst [])).put ia (.lst [])).put se (.set (λ_=>false) 0)).put da (.dct [] 0)) a G S sa ia da se [] []:=by
  refine ⟨?_, ?_, ?_,⟨0,aB5 _ _ _⟩,⟨λ_=>false, ?_,λj=>rfl⟩,λp hp=>(by cases hp),List.nodup_nil,List.nodup_nil,λp hp=>(by cases hp),λv hv=>(by cases hv),List.nodup_nil,h.notFoot hsa,h.notFoot hia0,h.notFoot hda,h.notFoot hse,sia⟩
  ·exact ((((h.putNF _ (h.notFoot hsa)).putNF _ (h.notFoot hia0)).putNF _ (h.notFoot hse)).putNF _ (h.notFoot hda))
  ·rw [hE,if_neg das.symm,if_neg ses.symm,if_neg sia,if_pos rfl]; rfl
  ·rw [hE,if_neg dai.symm,if_neg sei.symm,if_pos rfl]; rfl
  ·rw [hE,if_neg dae.symm,if_pos rfl]; rfl
 refine ExE.forG (ts:=(aH G S.nodes).map λp=> .int p.1) (C:=λσ=>σ.hp G.n=some (.dct (aH G S.nodes) G.ep)) (J:=cyA hp a G S sa ia da se) _ ?_ ?_ ?_ ?_ ?_ ?_ ?_
 ·refine ItG.keys (k1:=true) hA ?_ C0.srt.dct
  exact EvE.nm W
 ·exact ⟨⟨by lk,by lk,by lk,by lk,by lk,rfl⟩,kp0,[],C0,rfl,hfine⟩
 ·exact λi σ1 hJ=>hJ.2.2.choose_spec.1.srt.dct
 ·exact λit v=>rfl
 ·exact λx=>rfl
 ·intro i t σ1 ht w1w
  refine aC5 w1w λN1 kp1 h9=>aC8 h9 λseen C1 hcyc hfin=> ?_
  try clear w1w
  obtain ⟨r,hri,rfl⟩:∃ r,S.nodes[i]? =some r/\t= .int r:=by
   unfold aH at ht
   rw [List.map_map,List.getElem?_map] at ht
   cases hx:S.nodes[i]? with
   | none=>rw [hx] at ht; cases ht
   | some r=>rw [hx] at ht; cases ht; exact ⟨r,rfl,rfl⟩
  have hrn:r∈S.nodes:=List.mem_of_getElem? hri
  have hdrop:S.nodes.drop i=r::S.nodes.drop (i+1):=by
   refine aA3 (List.getElem?_eq_some_iff.mp hri) λhl he=> ?_
   rw [<- he]; exact List.drop_eq_getElem_cons hl
  rw [hdrop] at hcyc hfin
  refine ⟨_,aF5.name _ W (by lk) (aC2 _ N1.ow), ?_⟩
  have N2:=N1.setNode (.int r)
  refine aA1 C1.sn λf hf hf2=> ?_
  refine ExE.ite _ (b:=f r) ?_ ?_
  ·refine TsE.inS _ (k1:=true) (k2:=true) (EvE.nm W) (EvE.nm W N2.sn) hf ?_
   lk
  rw [hf2 r]
  by_cases hrs:r∈seen
  ·rw [decide_eq_true hrs]
   refine ExE.cont _ ⟨N2,kp1,seen,C1, ?_, ?_⟩
   ·rw [hcyc]; show (if r∈seen then _ else _)=_; rw [if_pos hrs]
   ·have:=hfin; rw [aQ3.eq_2] at this; rwa [if_pos hrs] at this
  ·rw [decide_eq_false hrs]
   refine ExE.nil ?_
   show ExE _ _ _ _ _ _ _ _
   have hcyc2:cyc S.suc S.nodes []=match aH0 S.suc 100 r seen [] with | .ring x=>some x | .end_ seen'=>cyc S.suc (S.nodes.drop (i+1)) seen' | .stuck=>none:=by
    exact hcyc.trans (if_neg hrs)
   have hfin2:match aH0 S.suc 100 r seen [] with | .ring _=>True | .end_ seen'=>aQ3 S.suc (S.nodes.drop (i+1)) seen' | .stuck=>False:=by
    have:=hfin; rw [aQ3.eq_2] at this; rw [if_neg hrs] at this; exact this
   generalize htar:aH0 S.suc 100 r seen []=tar at hcyc2 hfin2
   refine ExE.whileE (J:=cyB hp a G S sa ia da se tar) 100 _ ?_ ?_
   ·exact ⟨N2,kp1,r,seen,[],by lk,hrn,C1,htar⟩
   intro n σ2 w1w
   refine aC5 w1w λN3 kp3 h9=>bL4 h9 λnode seen2 ps hnode hnn C3 hw=> ?_
   try clear w1w
   refine ⟨true, ?_,λ_=> ?_,λq=>by cases q⟩
   ·refine TsE.boolT (k1:=true) (EvE.boolC _ _ _) ?_
    lk
   cases n with
   | zero=>exfalso; rw [<- hw] at hfin2; exact hfin2
   | succ n=>
   refine aA1 C3.sn λf3 hf3 hf4=> ?_
   refine aA3 C3.dd λep3 hd3=> ?_
   refine ExE.ite _ (b:=f3 node) ?_ ?_
   ·refine TsE.inS _ (k1:=true) (k2:=true) (EvE.nm W hnode) (EvE.nm W N3.sn) hf3 ?_
    lk
   rw [hf4 node]
   refine ExE.mono (P:=cyC hp a G S sa ia da se tar n) ?_ ?_
   ·by_cases hns:node∈seen2
    ·rw [decide_eq_true hns]
     refine ExE.ite _ (b:=(dAt (idx (aD1 ps)) node).isSome) ?_ ?_
     ·refine TsE.inD _ (k1:=true) (k2:=true) (EvE.nm W hnode) (EvE.nm W N3.dd) hd3 ?_
      lk
     rw [bF6]
     by_cases hst:node∈aD1 ps
     ·rw [if_pos hst]
      have hlen:(aD1 ps).length<=60:=by
       have h1:(aD1 ps).length=(ps.map (·.v)).length:=by unfold aD1; rw [List.length_reverse]
       have h2:=aC1 (m:=S.nodes) C3.nodv λx hx=>by obtain ⟨q,hq,rfl⟩:=List.mem_map.mp hx; exact (C3.inn q hq).1
       room
      refine ExE.ret _ (t:= .list (((aD1 ps).map T.int).drop (((aD1 ps).idxOf node:Nat):Int).toNat++[.int node])) ?_ (.inr ⟨bF5 (aD1 ps) node, ?_, ?_,C3.srt,kp3⟩)
      ·refine EvE.addL _ (k1:=true) (k2:=true) ?_ ?_ ?_
       ·refine EvE.from_ _ _ (k1:=false) (k2:=true) (EvE.lstOf (k1:=true) (EvE.nm W N3.st) C3.st) ?_ ?_ ?_
        ·refine EvE.dix _ (k1:=true) (k2:=true) (EvE.nm W N3.dd) (EvE.nm W hnode) hd3 ?_ ?_
         ·rw [bF6,if_pos hst]
         ·exact λo j u=>by lk
        ·room
        ·rw [List.length_map]; room
       ·refine EvE.listD _ (.cons (EvE.nm W hnode) .nil) ?_ ?_
        ·lk
        ·simp; room
       ·simp; room
      ·unfold bF5
       rw [Int.toNat_natCast,<-List.map_drop,List.map_append]; rfl
      ·rw [<- hw]
       show (if node∈seen2 then _ else _)=_
       rw [if_pos hns,cB6,if_pos hst]
     ·rw [if_neg hst]
      refine ExE.nil (ExE.nil (.inl ⟨rfl,N3,kp3,seen2,ps,C3, ?_⟩))
      rw [<- hw]
      show _=(if node∈seen2 then _ else _)
      rw [if_pos hns,cB6,if_neg hst]
      all_goals rfl
    ·rw [decide_eq_false hns]
     have hsl3:seen2.length<=60:=Nat.le_trans (aC1 (m:=S.nodes) C3.nods C3.sub) hz
     have hpl3:ps.length<=60:=by
      have h2:=aC1 (m:=S.nodes) C3.nodv λx hx=>by obtain ⟨q,hq,rfl⟩:=List.mem_map.mp hx; exact (C3.inn q hq).1
      rw [List.length_map] at h2; room
     have sd:sa≠da:=λz=>by have:=C3.st; rw [z,hd3] at this; cases this
     have idn:ia≠da:=λz=>by have:=C3.it; rw [z,hd3] at this; cases this
     have ss:se≠sa:=λz=>by have:=C3.st; rw [<- z,hf3] at this; cases this
     have si:se≠ia:=λz=>by have:=C3.it; rw [<- z,hf3] at this; cases this
     have sdd:se≠da:=λz=>by have:=hd3; rw [<- z,hf3] at this; cases this
     refine ExE.addS _ _ _ (k1:=true) (k2:=true) (EvE.nm W N3.sn) hf3 (EvE.nm W hnode) ?_ ?_ ?_ ?_ ?_ ?_ ?_
     ·room
     ·lk
     ·lk
     ·lk
     ·lk
     ·lk
     have g1:=C3.srt.putNF (.set (λj=>f3 j || decide (j=node)) (if f3 node then seen2.length else seen2.length+1)) C3.nfe
     have kq1:aA4 hp (σ2.hp.put se (.set (λj=>f3 j || decide (j=node)) (if f3 node then seen2.length else seen2.length+1))):=aA4.put kp3 λo z=>by cases hf3.symm.trans z
     refine ExE.appendOH _ _ _ (a:=ia) (ts:=((ps.map (·.mw)).reverse).map T.obj) (k1:=true) (EvE.nm W N3.it) ((put_ne _ si.symm).trans C3.it) ?_ ?_ ?_ ?_ ?_ ?_ ?_ ?_
     ·rw [List.length_map,List.length_reverse,List.length_map]; room
     ·lk
     ·lk
     ·lk
     ·lk
     ·lk
     ·lk
     refine EvH.iterNext _ _ _ W (l:=G.sl node) (ts:=(S.suc node).map T.int) (k1:=true) ?_ (g1.sl node hnn) ?_ ?_ ?_ ?_ ?_ ?_
     ·refine EvE.attrS _ (a:=G.inf node) (ts:=[.int node, .int (S.np node), .obj (G.sl node)]) (k1:=true) ?_ (g1.inf node hnn) (aR2 _) rfl (by lk)
      refine EvE.dix _ (d:=G.n) (k1:=true) (k2:=true) (i:=node) (EvE.nm W N3.n2i) (EvE.nm W hnode) g1.dct ?_ ?_
      ·rw [aI7,if_pos hnn]
      ·exact λo j u=>by lk
     ·lk
     ·lk
     ·lk
     ·lk
     ·lk
     intro it mw hit hmw him
     have nn:∀ {y b},(σ2.hp.put se (.set (λj=>f3 j || decide (j=node)) (if f3 node then seen2.length else seen2.length+1))) y=some b->y≠it/\y≠mw:=λ{y b} h=>⟨λz=>(by rw [z] at h; cases hit.symm.trans h),λz=>(by rw [z] at h; cases hmw.symm.trans h)⟩
     have hia1:=(put_ne (.set (λj=>f3 j || decide (j=node)) (if f3 node then seen2.length else seen2.length+1)) si.symm).trans C3.it
     have hsa1:=(put_ne (.set (λj=>f3 j || decide (j=node)) (if f3 node then seen2.length else seen2.length+1)) ss.symm).trans C3.st
     have hda1:=(put_ne (.set (λj=>f3 j || decide (j=node)) (if f3 node then seen2.length else seen2.length+1)) sdd.symm).trans hd3
     refine ⟨(put_ne _ (nn hia1).2).trans ((put_ne _ (nn hia1).1).trans hia1), ?_⟩
     have hsa2:=(put_ne (.lst (((ps.map (·.mw)).reverse).map T.obj++[.obj mw])) C3.sia).trans ((put_ne (.nxt it) (nn hsa1).2).trans ((put_ne (.itr (G.sl node) 0) (nn hsa1).1).trans hsa1))
     have hda2:=(put_ne (.lst (((ps.map (·.mw)).reverse).map T.obj++[.obj mw])) idn.symm).trans ((put_ne (.nxt it) (nn hda1).2).trans ((put_ne (.itr (G.sl node) 0) (nn hda1).1).trans hda1))
     refine ExE.setD1 _ _ (d:=da) (es:=idx (aD1 ps)) (ep:=ep3) (j:=node) (t:= .int (((aD1 ps).map T.int).length:Nat)) (k1:=true) (k2:=true) ?_ (EvE.nm W N3.dd) (EvE.nm W hnode) hda2 ?_ ?_ λep4=> ?_
     ·refine EvE.lenN W (k1:=false) (EvE.lstOf (k1:=true) (EvE.nm W N3.st) hsa2) ?_
      rw [List.length_map]; unfold aD1; rw [List.length_reverse,List.length_map]; room
     ·unfold idx; rw [List.length_map,List.length_zipIdx]; unfold aD1; rw [List.length_reverse,List.length_map]; room
     ·lk
     refine ExE.appendO _ _ _ (a:=sa) (ts:=(aD1 ps).map T.int) (t:= .int node) (k1:=true) (EvE.nm W N3.st) ((put_ne _ sd).trans hsa2) (EvE.nm W hnode) ?_ ?_ ?_ ?_ ?_ ?_ ?_ ?_
     ·rw [List.length_map]; unfold aD1; rw [List.length_reverse,List.length_map]; room
     ·lk
     ·lk
     ·lk
     ·lk
     ·lk
     ·lk
     have hvst:node∉aD1 ps:=λhm=>by
      unfold aD1 at hm
      rw [List.mem_reverse] at hm
      refine aA1 (List.mem_map.mp hm) λq hq z1z=> ?_
      subst z1z
      exact hns (C3.inn q hq).2
     refine ExE.nil (.inl ⟨rfl,⟨N3.n2i,N3.st,N3.it,N3.sn,N3.dd,N3.ow⟩, ?_,seen2++[node],⟨node,0,it,mw⟩::ps, ?_, ?_⟩)
     ·refine aA4.put (aA4.put (aA4.put (aA4.put (aA4.put kq1 ?_) ?_) ?_) ?_) ?_
      ·exact λo z=>by cases hit.symm.trans z
      ·exact λo z=>by cases ((put_ne _ him.symm).trans hmw).symm.trans z
      ·exact λo z=>by cases ((put_ne _ (nn hia1).2).trans ((put_ne _ (nn hia1).1).trans hia1)).symm.trans z
      ·exact λo z=>by cases hda2.symm.trans z
      ·exact λo z=>by cases ((put_ne _ sd).trans hsa2).symm.trans z
     ·have hit0:σ2.hp it=none:=by
       have e1:it≠se:=λz=>by rw [z] at hit; cases (aB5 _ _ _).symm.trans hit
       exact ((put_ne _ e1).symm.trans hit)
      have hmw0:σ2.hp mw=none:=by
       have e1:mw≠se:=λz=>by rw [z] at hmw; cases (aB5 _ _ _).symm.trans hmw
       exact ((put_ne _ e1).symm.trans hmw)
      refine C3.pushed (ep:=ep4) (f:=λj=>f3 j || decide (j=node)) hnn hns hit0 hmw0 him (λj=> ?_) λy=> ?_
      ·show (f3 j || decide (j=node))=_
       rw [hf4 j,Bool.eq_iff_iff]; simp
      ·have eA:(((⟨node,0,it,mw⟩::ps:List Pl).map (·.mw)).reverse).map T.obj=((ps.map (·.mw)).reverse).map T.obj++[.obj mw]:=by
        rw [List.map_cons,List.reverse_cons,List.map_append]; rfl
       have eS:(aD1 (⟨node,0,it,mw⟩::ps)).map T.int=(aD1 ps).map T.int++[.int node]:=by rw [aI1,List.map_append]; rfl
       have eD:idx (aD1 (⟨node,0,it,mw⟩::ps))=aV6 (idx (aD1 ps)) node (.int (((aD1 ps).map T.int).length:Nat)):=by
        rw [aI1,List.length_map]; exact (cB4 hvst).symm
       have e1:f3 node=false:=by rw [hf4]; exact decide_eq_false hns
       have e2:(if f3 node=true then seen2.length else seen2.length+1)=seen2.length+1:=by rw [e1]; rfl
       rw [eA,eS,eD,e2]
       rfl
     ·rw [<- hw]
      show _=(if node∈seen2 then _ else _)
      rw [if_neg hns]
      rfl
   ·intro fl σ3 hh
    rcases hh with ⟨rfl,N4,kp4,seen3,ps3,C4,hw4⟩ | ⟨l,rfl,rfl,g,kp4⟩
    ·show ExE _ _ _ _ _ _ _ _
     refine ExE.whileE (J:=cyD hp a G S sa ia da se seen3 ps3) ps3.length _ ⟨N4,kp4,ps3,rfl,C4,rfl⟩ ?_
     intro m σ4 w1w
     refine aC5 w1w λN5 kp5 h9=>aC8 h9 λps5 hm C5 hadv=> ?_
     try clear w1w
     have hpl5:ps5.length<=60:=by
      have h2:=aC1 (m:=S.nodes) C5.nodv λx hx=>by obtain ⟨q,hq,rfl⟩:=List.mem_map.mp hx; exact (C5.inn q hq).1
      rw [List.length_map] at h2; room
     refine ⟨!((aD1 ps5).map T.int).isEmpty, ?_,λhb=> ?_,λhb=> ?_⟩
     ·refine TsE.lstT (k1:=false) (EvE.lstOf (k1:=true) (EvE.nm W N5.st) C5.st) ?_ ?_
      ·rw [List.length_map]; unfold aD1; rw [List.length_reverse,List.length_map]; room
      ·lk
     ·cases ps5 with
      | nil=>exact absurd hb (by decide)
      | cons p ps6=>
      refine aB (C5.fr p (.head _)) λhmw hit=> ?_
      have hpv:=(C5.inn p (.head _)).1
      refine aA3 C5.dd λep5 hd5=> ?_
      have sd:sa≠da:=λz=>by have:=C5.st; rw [z,hd5] at this; cases this
      have idn:ia≠da:=λz=>by have:=C5.it; rw [z,hd5] at this; cases this
      have his:sa≠p.it:=λz=>by have:=C5.st; rw [z,hit] at this; cases this
      have hii:ia≠p.it:=λz=>by have:=C5.it; rw [z,hit] at this; cases this
      have hdi:da≠p.it:=λz=>by have:=hd5; rw [z,hit] at this; cases this
      have hitl:(((p::ps6:List Pl).map (·.mw)).reverse).map T.obj=((ps6.map (·.mw)).reverse).map T.obj++[.obj p.mw]:=by
       rw [List.map_cons,List.reverse_cons,List.map_append]; rfl
      have hstl:(aD1 (p::ps6)).map T.int=(aD1 ps6).map T.int++[.int p.v]:=by rw [aI1,List.map_append]; rfl
      have hit5:=C5.it
      rw [hitl] at hit5
      have hst5:=C5.st
      rw [hstl] at hst5
      have hvst:p.v∉aD1 ps6:=λhm=>by
       unfold aD1 at hm
       rw [List.mem_reverse] at hm
       have:=C5.nodv
       rw [List.map_cons,List.nodup_cons] at this
       exact this.1 hm
      rw [cB7] at hadv
      refine ExE.tryB (T:= "StopIteration") (Xc:= "StopIteration") W ?_ ?_ ?_ ?_ ?_ ?_ ?_ ?_
      ·rw [isSubtype_type]; lk
      ·rw [isSubtype_type]; lk
      ·rw [isSubtype_type]; lk
      ·lk
      ·lk
      ·lk
      ·lk
      refine ExE.assignH _ _ W ?_ ?_ ?_
      ·lk
      ·lk
      refine EvH.callNext _ hA (mw:=p.mw) (it:=p.it) (l:=G.sl p.v) (i:=p.i) (ts:=(S.suc p.v).map T.int) ?_ hmw hit (C5.srt.sl p.v hpv) ?_ ?_ ?_
      ·refine EvE.last _ (k1:=false) (EvE.lstOf (k1:=true) (EvE.nm W N5.it) hit5) ?_
       exact λo j u=>by lk
      ·lk
      ·intro t ht
       rw [List.getElem?_map] at ht
       cases hx:(S.suc p.v)[p.i]? with
       | none=>rw [hx] at ht; cases ht
       | some x=>
       rw [hx] at ht hadv
       cases ht
       refine ⟨aC2 _ N5.ow, ?_⟩
       refine ExE.brk _ ?_
       show ExE _ _ _ _ _ _ _ _
       refine ExE.nil ⟨n,Nat.lt_succ_self _,(N5.hp _).setNode _, ?_,x,seen3,{ p with i:=p.i+1 }::ps6,by lk,hsuc p.v hpv x (List.mem_of_getElem? hx),C5.step, ?_⟩
       ·exact aA4.put kp5 λo z=>by cases hit.symm.trans z
       ·rw [<- hadv] at hw4; exact hw4
      ·intro ht
       rw [List.getElem?_map] at ht
       cases hx:(S.suc p.v)[p.i]? with
       | some x=>rw [hx] at ht; cases ht
       | none=>
       rw [hx] at hadv
       have kp6:aA4 hp (σ4.hp.del p.it):=λf o e=>by
        have e1:=kp5 f o e
        show (if f=p.it then none else σ4.hp f)=_
        rw [if_neg λz=>by rw [z,hit] at e1; cases e1]; exact e1
       refine ⟨rfl,⟨lf,aD hlf (bB0 hlow kp6) rfl rfl⟩,λex=> ?_⟩
       refine ExE.delD _ _ (d:=da) (k1:=true) (EvE.nm W N5.dd) ?_ rfl
       refine EvH.pop _ _ (a:=sa) (ts:=(aD1 ps6).map T.int) (t:= .int p.v) (k1:=true) (EvE.nm W N5.st) ((if_neg his).trans hst5) ?_ ?_ ?_ ?_
       ·rw [<- hstl,List.length_map]; unfold aD1; rw [List.length_reverse,List.length_map]; room
       ·lk
       ·lk
       refine ⟨idx (aD1 (p::ps6)),ep5,p.v,rfl,(put_ne _ sd.symm).trans ((if_neg hdi).trans hd5), ?_, ?_,λep6=> ?_⟩
       ·rw [bF6,if_pos (by rw [aI1]; simp)]; rfl
       ·unfold idx; rw [List.length_map,List.length_zipIdx]; unfold aD1; rw [List.length_reverse,List.length_map]; room
       refine ExE.exprH _ ?_ ?_ ?_
       ·lk
       ·lk
       refine EvH.pop _ _ (a:=ia) (ts:=((ps6.map (·.mw)).reverse).map T.obj) (t:= .obj p.mw) (k1:=true) (EvE.nm W N5.it) ((put_ne _ idn).trans ((put_ne _ C5.sia.symm).trans ((if_neg hii).trans hit5))) ?_ ?_ ?_ ?_
       ·rw [List.length_append,List.length_map,List.length_reverse,List.length_map]
        simp at hpl5 ⊢; room
       ·lk
       ·lk
       refine ExE.nil ?_
       show ExE _ _ _ _ _ _ _ _
       refine ExE.nil ⟨ps6.length,by rw [hm]; simp,⟨N5.n2i,N5.st,N5.it,N5.sn,N5.dd,N5.ow⟩, ?_,ps6,rfl,C5.popped (ep:=ep6) λy=> ?_,hadv⟩
       ·refine aA4.put (aA4.put (aA4.put kp6 ?_) ?_) ?_
        ·exact λo z=>by cases ((if_neg his).trans hst5).symm.trans z
        ·exact λo z=>by cases ((put_ne _ sd.symm).trans ((if_neg hdi).trans hd5)).symm.trans z
        ·exact λo z=>by cases ((put_ne _ idn).trans ((put_ne _ C5.sia.symm).trans ((if_neg hii).trans hit5))).symm.trans z
       ·rw [<- cB5 hvst,<-aI1]
        rfl
     ·cases ps5 with
      | cons p ps6=>rw [aI1,List.map_append] at hb; simp at hb
      | nil=>
      refine ExE.brk _ ?_
      show ExE _ _ _ _ _ _ _ _
      refine ExE.nil ⟨N5,kp5,seen3,C5, ?_⟩
      have e1:adv S.suc (bB4 ps3)=none:=hadv.symm
      rw [e1] at hw4
      rw [<- hw4] at hcyc2 hfin2
      exact ⟨hcyc2,hfin2⟩
    ·show aA4 hp σ3.hp/\_
     refine ⟨kp4, ?_,g⟩
     rw [hcyc2]; rfl
 ·intro σ1 w1w
  refine aC5 w1w λN1 kp1 h9=>aC8 h9 λseen C1 hcyc hfin=> ?_
  try clear w1w
  have e:((aH G S.nodes).map λp=>T.int p.1).length=S.nodes.length:=by simp [aH]
  rw [e,List.drop_length] at hcyc
  refine ExE.ret _ (t:= .none) (EvE.noneC _ _) ⟨kp1, ?_,C1.srt⟩
  rw [hcyc]; rfl
section
variable {w:World}{A:Around}{h0:aA8}{env:Env}{os:OsState}{k:Bool}{σ:Sg}{P:FP}{rest:List Stmt}{PV:Rs->Sg->Prop}{scope:Scope}{cl:List (Str×Addr)}{PC:List Addr}{L:List Str}
theorem ItC.vals {value:Expr}{d:Addr}{es:List (Int×T)}{ep:Nat}{k1:Bool}(apos pos:Pos)(hA:A.handled=none)(he:EvE w A h0 env os k1 σ value (.obj d))(hd:σ.hp d=some (.dct es ep))
  (hb:attributeBase value (u "values") env (eval value env)=eval value env) (hl:(apos.endLine == pos.line)=true):ItC w A h0 env os σ (.Call (.Attribute value (u "values") apos) [] [] pos) (es.map (·.2)) (λσ=>σ.hp d=some (.dct es ep)):=λB O m cm s Q E F R q=>by
 refine wpAny_Call_method0_late hb hl ?_
 refine he B O m cm s _ E F R λv s1 B1 l1 F1 V1=> ?_
 rw [V1.obj]
 refine aV3 (aR4 F1 (R.mono l1) hd) λkvs0 D0 _ _ hns=> ?_
 refine ⟨"dict", "dict.values",PySem.F.plainAttrs_dict,PySem.F.slot_dict_values,PySem.F.type_dict_values,D0.typeIs,D0.mapOf.noDict, ?_⟩
 refine callWith_builtin rfl (evalArgs_nil3 ?_)
 refine call_meetsIn PySem.F.slot_dict_values D0.typeIs PySem.F.entry_dict_values (PySem.F.args_dict_values_1 _) (meets_dict_values (intKind pw w) d hns) ⟨⟨kvs0,D0⟩, ?_⟩
 have F2:=F1.push (o:={ cls:= .type "dict_values",data:= .fields #[.ref d] }) rfl s1.toks
 have l2:=PM.le_put ({ cls:= .type "dict_values",data:= .fields #[.ref d] }:Obj) F1.none_of_fresh
 refine aV3 (aK6 F2 ((R.mono l1).mono l2) hd) λkvs D h1 h2 _=> ?_
 have hlen:kvs.length=es.length:=by have:=congrArg List.length h1; simpa using this
 refine wpAny_pyIter_values ⟨_,F2.sub _ _ (PM.put_self ..),rfl,rfl⟩ D ?_
 refine q _ _ _ _ (λi o=>o.cls= .type "dict_valueiterator" /\o.data= .fields #[.ref d, .int i 0, .int es.length 0, .int ep 0]) (l1.trans l2) (F2.pushO rfl s1.toks) (λenv'=> ?_) ⟨rfl,by rw [hlen]; rfl⟩ (λs2 Q2 E2 e h=>wpAny_pyIter_valiter ⟨_,e,rfl,rfl⟩ h)
 refine ⟨λB' O X m cm s it o i t σ Q E l C R F I ht q=> ?_,λB' O X m cm s it o i σ Q E l C R F I ht q=> ?_⟩
 ·refine aV3 (aK6 F (R.rel ((it,o)::X)) C) λkvs D h1 h2 hns=> ?_
  have hlen:kvs.length=es.length:=by have:=congrArg List.length h1; simpa using this
  refine aA1 (h2.get ht) λv hv V=> ?_
  rw [List.getElem?_map] at hv
  cases e:kvs[i]? with
  | none=>rw [e] at hv; cases hv
  | some kv=>
   rw [e] at hv
   cases hv
   refine wpAny_pyNext_values_item (k:=kv.1) (v:=kv.2) ⟨o,F.opn _ (List.mem_append.mpr (.inr (.head _))),I.1,by rw [hlen]; exact I.2⟩ D e λh' it' hs=> ?_
   refine aC8 it' λo' ho' c' d'=> ?_
   try clear it'
   exact q _ _ o' ⟨c',by rw [hlen] at d'; exact d'⟩ (aF7 F ho' hs s.toks) V
 ·refine aV3 (aK6 F (R.rel ((it,o)::X)) C) λkvs D h1 h2 hns=> ?_
  have hlen:kvs.length=es.length:=by have:=congrArg List.length h1; simpa using this
  have hv:kvs[i]? =none:=by
   rw [List.getElem?_eq_none_iff]
   rw [List.getElem?_eq_none_iff,List.length_map] at ht
   room
  refine wpAny_pyNext_values_end hA ⟨o,F.opn _ (List.mem_append.mpr (.inr (.head _))),I.1,by rw [hlen]; exact I.2⟩ D hv λh' hs=> ?_
  exact q _ (F.drop hs s.toks)
theorem Rl.off {B:PM}{O X:OL}{m cm:NM}{s:Shared}{D:Addr}{oD:Obj}(F:Fm w h0 env B ((D,oD)::(O++X)) m cm os s)(R:Rl env σ B O m cm):σ.hp D=none:=by
 cases e:σ.hp D with
 | none=>rfl
 | some b=>
  refine aM6 (R.at e) λOa od Ob' z1z _ _=> ?_
  subst z1z
  have:=F.nod
  rw [List.map_cons,List.nodup_cons] at this
  exact absurd (List.mem_map_of_mem (f:=(·.1)) (show (D,od)∈(Oa++(D,od)::Ob')++X from List.mem_append.mpr (.inl (List.mem_append.mpr (.inr (.head _)))))) this.1
theorem EvH.comp {elt target iter:Expr}{ifs:List Expr}{ts:List T}{p:T->Bool}{f:T->T}{C:Sg->Prop}(pos:Pos)(c:aK0 scope env cl PC L)(hcf:∀ x c,env.cells.lookup x=some c->h0.h c=none)
  (hi:ItC w A h0 env os σ iter ts C) (hC:C (σ.inn L)) (hlo:∀ it v,letOwnedTupleGo target it v=pure ()) (hfs:∀ x,foldedSetIterable iter env x=pure x) (hsz:ts.length<=sizeLine)
  (turn:cB0 w A h0 env os (σ.inn L) scope cl target elt ifs ts p f) (h:∀ l,σ.hp l=none->PV (.val (.obj l)) (σ.put l (.lst ((ts.filter p).map f)))):EvH w A h0 env os σ (.ListComp elt [⟨target,iter,ifs,0⟩] scope pos) PV:=λB O X m cm s Q E F R q=>by
 rw [eval_ListComp]
 refine wpAny_comprehension_free (use:=none) rfl hfs c.clos c.kind c.names (hi B (O++X) m cm s _ E F (R.rel X) λit o s1 B1 I l1 F1 S I0 self=> ?_)
 refine aQ (RR:=λacc C=>compPost (model pw w) A E none Q acc C) c hcf S hC (hlo _) hsz (turn _) F1 ((R.mono l1).rel X) I0 self λB' D Cm oD oC vs s' l iD V F7 hn=> ?_
 refine aA3 hn λmm hn=> ?_
 refine ⟨mm,hn,λh' hsb=> ?_⟩
 have F8:Fm w h0 env B' ([]++(D,oD)::(O++X)) m cm os { s' with heap:=h',toks:=s'.toks }:=Fm.drop (O:=[]) F7 hsb.extBut s'.toks
 have R2:=R.mono (l1.trans l)
 exact q.go _ _ _ _ B' _ m cm (h D (Rl.off F8 R2)) (.obj D) (l1.trans l) (Fm.newX F8) (R2.new ⟨vs,iD,V⟩)
theorem TsE.noneT {e:Expr}{k1:Bool}(he:EvE w A h0 env os k1 σ e .none)(ht:isTrue e env (eval e env)=(do let v <-eval e env; standAt e.pos; holding [v] (truthy v))):TsE w A h0 env os σ e false:=λB O m cm s Q E F R q=>
 isTrue_plain (he B O m cm s _ E F R λv s1 B1 l1 F1 V1=>by
  rw [V1.none]
  exact PyProof.Rows.truthy_none (q _ B1 l1 F1)) ht
theorem EvE.fmt0 {a:Str}{na:Nat}{pa pos:Pos}:EvE w A h0 env os k σ (.JoinedStr [.Constant (.str a) na pa] pos) (.str a):=λB O m cm s Q E F R q=>
 JoinedStr_one (EvE.strC a na pa B O m cm s Q E F R q)
theorem bO (P:Params):(H1 P).get? 55=some o55:=by lk
theorem cJ7 (P:Params):(H1 P).isNs 54=true:=by lk
noncomputable def ceM (P:Params):Str->Option Value:=(H1 P).nsMap 54
theorem cM2 (P:Params):(H1 P).Ns 54 (ceM P):=Heap.Ns.of_isNs (cJ7 P)
theorem bJ9 (P:Params):∀ n∈quietNames,ceM P n=none:=by
 intro n hn
 have:n= "__init__" \/n= "__getattribute__" \/n= "__getattr__" \/n= "args" :=by simpa [quietNames] using hn
 rcases this with rfl | rfl | rfl | rfl<;>lk
theorem ExE.raiseC {e e':Expr}{t t':T}(np cpos pos:Pos)(W:Own env)(hA:A.handled=none)(he:EvE w A h0 env os true σ e t)(he':EvE w A h0 env os true σ e' t')(hk:env.kindOf (u "CycleError")=some .globalImplicit)
  (hs:backTo cpos (starEach [e,e'] env)=[(false,eval e env),(false,eval e' env)]) (hP:P (.exc (.ref 55) [t,t']) σ):ExE w A h0 env os σ (.Raise (some (.Call (.Name (u "CycleError") np) [e,e'] [] cpos)) none pos::rest) P:=λB O X m cm s Q E F R q=>
 wpAny_execs_cons (wpAny_Raise_call_sub PySem.F.excBase_ValueError (mN:=ceM w.params) hA (by rw [hs]; rfl) (bJ9 _ _ (.head _)) (aQ7 W F hk (by lk) ⟨rfl,by
  rw [hs]
  refine Calls.evalArgs_plain (Calls.spliced_cons (he B (O++X) m cm s _ E F (R.rel X) λv s1 B1 l1 F1 V1=>Calls.spliced_cons (he' B1 (O++X) m cm s1 _ E F1 ((R.mono l1).rel X) λv' s2 B2 l2 F2 V2=>Calls.spliced_nil ⟨rfl,by show 2<=sizeLine; decide,F2.sub _ _ (F2.gl _ _ (bO _)),aC (cM2 _) (λo e=>F2.sub _ _ (F2.gl _ _ e)),λh' ex hm=> ?_⟩)))
  refine aB0 (aY0 F2 (.cons (Val.mono l2 V1) (.cons V2 .nil)) hm) λB' Z l fly F'=> ?_
  exact q.out _ _ σ ex _ B' Z O m cm hP fly ((l1.trans l2).trans l) F' ((R.mono (l1.trans l2)).mono l)⟩ (by lk)))
end
theorem bU9 (G:SA)(S:SD)(ns:List Int)(l:Addr):aE3 (u "_ready_nodes") (.obj l) (aC3 G S)=aC3 { G with r:=l } { S with rdy:=some ns }:=by lk
theorem Srt.newRdy {hp:Hp}{a l:Addr}{G:SA}{S:SD}(h:Srt hp a G S)(hr:S.rdy=none)(hl:hp l=none)(ns:List Int):
  Srt ((hp.put l (.lst (ns.map T.int))).put G.d (.ns (aE3 (u "_ready_nodes") (.obj l) (aC3 G S)))) a { G with r:=l } { S with rdy:=some ns }:=by
 have nd:∀ {y:Addr} {b:Ob},hp y=some b->y≠l:=λe z=>by rw [z,hl] at e; cases e
 have ne:∀ {y:Addr} {b:Ob},hp y=some b->(∀ es,b≠ .ns es)->y≠G.d:=λe nb z=>by
  rw [z,h.ns] at e; cases e; exact nb _ rfl
 have hd:=nd h.ns
 refine ⟨?_, ?_, ?_,λk hk=> ?_,λk hk=> ?_,λl' hl'=> ?_,h.inj,λ_ k hk z=> ?_,h.nod⟩
 ·rw [put_ne _ (ne h.ins λes z=>by cases z),put_ne _ (nd h.ins)]; exact h.ins
 ·rw [aB5,bU9 G S ns l]
 ·rw [put_ne _ (ne h.dct λes z=>by cases z),put_ne _ (nd h.dct)]; exact h.dct
 ·rw [put_ne _ (ne (h.inf k hk) λes z=>by cases z),put_ne _ (nd (h.inf k hk))]; exact h.inf k hk
 ·rw [put_ne _ (ne (h.sl k hk) λes z=>by cases z),put_ne _ (nd (h.sl k hk))]; exact h.sl k hk
 ·cases hl'
  rw [put_ne _ hd.symm,aB5]
 ·exact nd (h.sl k hk) z
noncomputable def aT9 (G:SA)(S:SD):T->Int
 | .obj a=>(S.nodes.find? λk=>G.inf k == a).getD 0
 | _=>0
theorem bC9 {hp:Hp}{a:Addr}{G:SA}{S:SD}(h:Srt hp a G S){k:Int}(hk:k∈S.nodes):aT9 G S (.obj (G.inf k))=k:=by
 unfold aT9
 cases e:S.nodes.find? λj=>G.inf j == G.inf k with
 | none=>
  have:=List.find?_eq_none.mp e k hk
  simp at this
 | some j=>
  have h1:=List.find?_some e
  show (S.nodes.find? λj=>G.inf j == G.inf k).getD 0=k
  rw [e]
  exact h.infInj (List.mem_of_find?_eq_some e) hk (by simpa using h1)
theorem aS1 {hp:Hp}{a:Addr}{G:SA}{S:SD}(h:Srt hp a G S):∀ (l:List Int),(∀ k∈l,k∈S.nodes)->(((aH G l).map (·.2)).filter λt=>S.np (aT9 G S t) == 0).map (λt=>T.int (aT9 G S t))=(l.filter λk=>S.np k == 0).map T.int
 | [],_=>rfl
 | k::l,hl=>by
  have ih:=aS1 h l λj hj=>hl j (.tail _ hj)
  have e:=bC9 h (hl k (.head _))
  show (((T.obj (G.inf k))::(aH G l).map (·.2)).filter _).map _=_
  rw [List.filter_cons,List.filter_cons,e]
  split
  ·rw [List.map_cons,List.map_cons,ih,e]
  ·exact ih
noncomputable def aO3 (s:Stmt):Scope:=scE (stE (inS (aB1 s) 1)).1
theorem bO0 (w:World)(os:OsState)(hp:Hp)(a:Addr)(G:SA)(S:SD)(h:Srt hp a G S)(hr:S.rdy=none)(hz:S.nodes.length<=60)(hsuc:∀ v∈S.nodes,∀ j∈S.suc v,j∈S.nodes)(hfine:aQ3 S.suc S.nodes [])(hsb:100<scanBound)(hne:∀ l,cyc S.suc S.nodes []=some l->l≠[]/\l.length<=1000):
  FnH w os 1 92 [.obj a] hp (λr hp'=>(match cyc S.suc S.nodes [] with | none=>r= .val .none | some l=>∃ t,r= .exc (.ref 55) [t, .list (l.map T.int)])/\∃ G',Srt hp' a G' { S with rdy:=some (S.nodes.filter λk=>S.np k == 0) }):=by
 refine aE0 (o:=o92) (fd:=aA2 o92) (body:=aB1 (mAt 6 3)) (c:=91) (oc:=o91) [u "self"] (by lk) rfl rfl (by lk) rfl rfl rfl
  (aF4.plain (al1 λ_=>by lk)) rfl (by decide) (by lk) (by lk) rfl rfl rfl rfl λA h0 L RA FA hL=> ?_
 have W:Own (callEnv (aA2 o92) L 92):=⟨rfl,rfl,rfl⟩
 have hA:(A.deeper (callEnv (aA2 o92) L 92)).handled=none:=RA.handled
 have hsl:sizeLine=16777216:=by decide
 refine aA1 FA λlf hlf hlow=> ?_
 try clear FA
 have lk:(aC3 G S).lookup (u "_ready_nodes")=some .none:=by
  have:(aC3 G S).lookup (u "_ready_nodes")=some (rT G S.rdy):=by lk
  rw [this,hr]; rfl
 refine ExE.ite _ (b:=false) ?_ ?_
 ·refine TsE.cmp _ (k1:=true) (k2:=true) (a:= .none) (b:= .none) (x:=false) ?_ (EvE.noneC _ _) (aK _ _ .none) ?_
  ·exact EvE.attrI _ (k1:=true) (EvE.nm W) h.ins h.ns (aF1 _) lk (by lk)
  ·lk
 refine ExE.nil ?_
 show ExE _ _ _ _ _ _ _ _
 refine ExE.asgIH _ _ (aF1 _) ?_ ?_
 ·lk
 refine EvH.comp (cl:=[]) (PC:=[]) (L:=[]) (ts:=(aH G S.nodes).map (·.2)) (p:=λt=>S.np (aT9 G S t) == 0) (f:=λt=>T.int (aT9 G S t)) _ ⟨Cls.same rfl,by lk,rfl, ?_, ?_,λx hx=>absurd hx List.not_mem_nil⟩ (λx c e=>by cases e) (ItC.vals _ _ hA (d:=G.n) (k1:=true) ?_ h.dct ?_ ?_) h.dct (λ_ _=>rfl) (λ_=>rfl) ?_ ?_ ?_
 ·have:∀ y∈(aO3 (mAt 6 3)).names,y.2= .local->(aO3 (mAt 6 3)).names.lookup y.1=some .local:=by decide +kernel
  exact this
 ·have:∀ y∈(aO3 (mAt 6 3)).names,y.2≠ .cell:=by decide +kernel
  exact this
 ·exact EvE.attrI _ (k1:=true) (EvE.nm W) h.ins h.ns (aJ3 _) rfl (by lk)
 ·lk
 ·lk
 ·simp [aH]; room
 ·intro K Cm t ht
  refine aA1 (List.mem_map.mp ht) λp hp' z1z=> ?_
  subst z1z
  refine aA1 (List.mem_map.mp hp') λk hk z1z=> ?_
  subst z1z
  have e:=bC9 h hk
  have W2:Own (compEnvC (aO3 (mAt 6 3)) [] Cm (callEnv (aA2 o92) L 92)):=⟨rfl,rfl,rfl⟩
  refine ⟨_,aF6.name _ W2 (by lk) (λq hq=>absurd hq List.not_mem_nil),aP9.one ?_,λ_=> ?_⟩
  ·dsimp only
   rw [e]
   refine TsE.cmp _ (k1:=true) (k2:=true) ?_ (EvE.int _ _ _) (aB4 _ _ _ _) (by lk)
   exact EvE.attrS _ (k1:=true) (EvE.nm W2) (h.inf k hk) (aH6 _) rfl (by lk)
  ·dsimp only
   rw [e]
   exact EvE.attrS _ (k1:=true) (EvE.nm W2) (h.inf k hk) (bC5 _) rfl (by lk)
 intro l hl
 have hl:hp l=none:=hl
 rw [aS1 h S.nodes λ_ h=>h]
 generalize hns:S.nodes.filter (λk=>S.np k == 0)=ns
 refine ⟨a,G.d,aC3 G S,EvE.nm W, ?_, ?_,by simp [aC3], ?_⟩
 ·exact (put_ne _ λz=>by rw [<- z,h.ins] at hl; cases hl).trans h.ins
 ·exact (put_ne _ λz=>by rw [<- z,h.ns] at hl; cases hl).trans h.ns
 have g:=h.newRdy hr hl ns
 have kp:aA4 hp ((hp.put l (.lst (ns.map T.int))).put G.d (.ns (aE3 (u "_ready_nodes") (.obj l) (aC3 G S)))):=by
  refine aA4.put (aA4.put (aA4.refl _) λo z=>by rw [hl] at z; cases z) λo z=> ?_
  rw [put_ne _ (λz=>by rw [<- z,h.ns] at hl; cases hl),h.ns] at z; cases z
 generalize hh2:(hp.put l (.lst (ns.map T.int))).put G.d (.ns (aE3 (u "_ready_nodes") (.obj l) (aC3 G S)))=hp2 at g kp
 have hg:((⟨λx=>([u "self"].zip [T.obj a]).lookup x,[],hp⟩:Sg).put l (.lst (ns.map T.int))).put G.d (.ns (aE3 (u "_ready_nodes") (.obj l) (aC3 G S)))=⟨λx=>([u "self"].zip [T.obj a]).lookup x,[],hp2⟩:=by rw [<- hh2]; rfl
 rw [hg]
 refine ExE.assignH _ _ W ?_ ?_ ?_
 ·lk
 ·lk
 refine EvH.meth0 (n:=0) (a:=a) (d:=G.d) (es:=aC3 { G with r:=l } { S with rdy:=some ns }) (k1:=true) _ _ (aD hlf (bB0 hlow kp) rfl rfl) (aD6.deeper RA) (EvE.nm W) g.ins g.ns (aX8 _) ?_ ?_ ?_
 ·lk
 ·lk
 intro oL hLL
 refine (bJ8 w os _ a _ { S with rdy:=some ns } (g.inFrame hLL) hz hsuc hfine hsb).mono λr hp' p kL kp'=> ?_
 refine aB p λz1z g'=> ?_
 try clear p
 subst z1z
 have g'':=g'.delOff (.inr ⟨oL,kL⟩)
 refine ⟨λp hp=>absurd hp List.not_mem_nil, ?_⟩
 show ExE _ _ _ _ _ _ _ _
 cases hc:cyc S.suc S.nodes [] with
 | none=>
  refine ExE.ite _ (b:=false) ?_ ?_
  ·exact TsE.noneT (k1:=true) (EvE.nm W) (by lk)
  refine ExE.nil ?_
  show ExE _ _ _ _ _ _ _ _
  exact ExE.nil ⟨kp.trans kp',rfl,_,g''⟩
 | some x=>
  refine aB (hne x hc) λx1 x2=> ?_
  refine ExE.ite _ (b:= !(x.map T.int).isEmpty) ?_ ?_
  ·exact TsE.lstT (k1:=true) (EvE.nm W) (by rw [List.length_map]; room) (by lk)
  have e:(!(x.map T.int).isEmpty)=true:=by
   cases x with
   | nil=>exact absurd rfl x1
   | cons y l=>rfl
  rw [e,if_pos rfl]
  exact ExE.raiseC _ _ _ W hA EvE.fmt0 (EvE.nm W) (by lk) (by lk) ⟨kp.trans kp',⟨_,rfl⟩,_,g''⟩
section
variable {w:World}{A:Around}{h0:aA8}{env:Env}{os:OsState}{k:Bool}{σ:Sg}{P:FP}{rest:List Stmt}
theorem bV {x r:Str}{n1 n2 n3:Nat}{p1 p2 p3 p4 p5 p6:Pos}{B:PM}{O:OL}{m cm:NM}{s:Shared}{e t:Addr}{oe:Obj}{vs:Array Value}{t0 t1:T}{Q:VP}{E:VP}(W:Own env)(hx:env.kindOf x=some .local)(hd:(x == ("__debug__" :Str))=false)(hcd:(x == ("__classdict__" :Str))=false)
  (hst:backTo p6 (starEach [.Constant (.str r) n1 p1, .Subscript (.Attribute (.Name x p2) (u "args") p3) (.Constant (.int 1) n2 p4) p5] env)=[(false,eval (.Constant (.str r) n1 p1) env),(false,eval (.Subscript (.Attribute (.Name x p2) (u "args") p3) (.Constant (.int 1) n2 p4) p5) env)])
  (hss:∀ o j u,subscripted (.Constant (.int 1) n2 p4) false (.ref o) (.int j u)=operate [.ref o, .int j u] (getItem (.ref o) (.int j u)))
  (F4:Fm w h0 env B ((e,oe)::O) m cm os s) (hm:m x=some (.ref e)) (a1:oe.cls= .ref 55) (a2:oe.data= .fields vs) (a3:vs[0]? =some (.ref t)) (a4:Val B (.ref t) (.tup [t0,t1]))
  (q:∀ v s' B',B.le B'->Fm w h0 env B' ((e,oe)::O) m cm os s'->Val B' v (.tup [.str r,t1])->Q v s'):
  wpAny (model pw w) A (eval (.Tuple [.Constant (.str r) n1 p1, .Subscript (.Attribute (.Name x p2) (u "args") p3) (.Constant (.int 1) n2 p4) p5] n3 p6) env) Q E s:=by
 have F5:=F4.tok (s.toks+1)
 refine aB0 (Val.tupAt F5 a4) λta tvs he T V=> ?_
 refine aB0 V.inv λv0 r0 z1 V0 V=> ?_
 refine aB0 V.inv λv1 r1 z2 V1 V=> ?_
 have z3:r1=[]:=V.inv
 subst z3
 subst z2
 subst z1
 cases he
 refine wpAny_Tuple ?_
 rw [hst]
 refine Calls.spliced_cons (Calls.Constant_str ?_)
 refine Calls.spliced_cons (Subscript_ (Attribute_name ?_))
 refine wpAny_Name (aI F5 W.kind (v:= .ref e) (by unfold aB7; rw [hx]; exact hm) (.inl hx) hcd ?_) hd
 refine args_attr_own PySem.F.attrBase_ValueError (F5.sub _ _ (F5.gl _ _ (bO _))) (aC (cM2 _) λo e=>F5.sub _ _ (F5.gl _ _ e)) (bJ9 _) .base (F5.opn (e,oe) (.head _)) a1 a2 a3 ?_
 refine wpAny_Constant_int ?_
 refine tail_any T.typeIs PySem.F.slot_tuple_getitem.lookup (PyProof.Rows.getItem_tuple (j:=1) T (by decide) (by decide) rfl rfl ?_) (hss _ _ _)
 refine Calls.spliced_nil ⟨by show 2<=sizeLine; decide, ?_⟩
 have F7:=F5.tok (s.toks+1+1+1)
 have l8:=PM.le_put ({ cls:= .type "tuple",data:= .seq #[.str r s.toks,v1] }:Obj) F7.none_of_fresh
 exact q _ _ _ l8 (F7.push rfl _) (.tup (PM.put_self ..) ⟨rfl,_,rfl⟩ (.cons (.str _ _) (.cons (Val.mono l8 V1) .nil)))
theorem ExE.tryRing {body:List Stmt}{x r:Str}{n1 n2 n3:Nat}{np p1 p2 p3 p4 p5 p6 p7 hpos pos:Pos}(W:Own env)(hx:env.kindOf x=some .local)(hd:(x == ("__debug__" :Str))=false)(hcd:(x == ("__classdict__" :Str))=false)(hk:env.kindOf (u "CycleError")=some .globalImplicit)
  (hst:backTo p6 (starEach [.Constant (.str r) n1 p1, .Subscript (.Attribute (.Name x p2) (u "args") p3) (.Constant (.int 1) n2 p4) p5] env)=[(false,eval (.Constant (.str r) n1 p1) env),(false,eval (.Subscript (.Attribute (.Name x p2) (u "args") p3) (.Constant (.int 1) n2 p4) p5) env)])
  (hss:∀ o j u,subscripted (.Constant (.int 1) n2 p4) false (.ref o) (.int j u)=operate [.ref o, .int j u] (getItem (.ref o) (.int j u)))
  (h:ExE w A h0 env os σ body (dD w A h0 env os rest (λc us σ'=>∃ t0 t1,c= .ref 55/\us=[t0,t1]/\σ'.ow=[]/\(∃ l,aC9 A env σ' l)/\P (.ret (.tup [.str r,t1])) ⟨λ_=>none,[],σ'.hp⟩) P)):ExE w A h0 env os σ (.Try body [.ExceptHandler (some (.Name (u "CycleError") np)) (some x) [.Return (some (.Tuple [.Constant (.str r) n1 p1, .Subscript (.Attribute (.Name x p2) (u "args") p3) (.Constant (.int 1) n2 p4) p5] n3 p6)) p7] hpos] [] [] pos::rest) P:=λB O X m cm s Q E F R q=>by
 refine wpAny_execs_cons (wpAny_Try_except ?_)
 refine h B O X m cm s _ _ F R ⟨λfl σ' f s' B' O' m' cm' p r l F' R'=> ?_,λcls args σ' e s' B' Z O' m' cm' p fly l F' R'=> ?_⟩
 ·cases r with
  | next=>exact wpAny_execs_nil (p B' O' X m' cm' s' Q E F' R' (q.mono l))
  | brk=>exact q.go .brk σ' _ s' B' O' m' cm' p .brk l F' R'
  | cont=>exact q.go .cont σ' _ s' B' O' m' cm' p .cont l F' R'
  | ret V=>exact q.go (.ret _) σ' _ s' B' O' m' cm' p (.ret V) l F' R'
 ·refine bL3 p λt0 t1 z1z z2z how z3z hP=> ?_
  try clear p
  subst z1z
  subst z2z
  refine aA3 z3z λlf Wy=> ?_
  try clear z3z
  refine bZ1 F' R' Wy fly λs1 oe oT vs ts t tb O1 a1 a2 a3 a4 a5 a6 a7 F1 R1=> ?_
  refine aX0 none F1 a2 a5 a6 a7 λs2 oT2 ts2 c1 c2 F2=> ?_
  refine wpAny_handleBy_cons (codeAny_handlers_test ?_) (by intro q; cases q)
  refine aQ7 (v:= .ref 55) W F2 hk (by lk) ?_ (by lk)
  obtain ⟨hp2,g2,d2,tk2,os2⟩:=s2
  have hC:hp2.get? 55=some o55:=F2.sub _ _ (F2.gl _ _ (bO _))
  refine wpAny_excMatches_sub_self hC (F2.opn (e,oe) (.head _)) a1 (by decide +kernel) ?_
  refine codeAny_handlers_suite_as ?_
  refine aX0 none F2 a2 a5 c1 c2 λs3 oT3 ts3 d1 d2 F3=> ?_
  refine wpAny_storeName_local hx F3.ns (λh4 hn4 hsb4=> ?_) (by rw [W.kind]; rfl)
  have F4:=F3.setLocal hn4 hsb4 (s3.toks+1)
  refine wpAny_execs_cons (wpAny_Return_some ?_)
  refine bV W hx hd hcd hst hss F4 (if_pos rfl) a1 a2 a3 a4 λv s5 B5 l5 F5 V5=> ?_
  have F5:Fm w h0 env B5 ([(e,oe),(tb,oT3)]++(O1++X)) _ cm' os s5:=F5
  dsimp only
  refine wpAny_nameGoes hx F5.ns (by rw [W.kind]; rfl) λh9 m9 hn9 hsb9=> ?_
  refine q.go (.ret (.tup [.str r,t1])) _ _ _ _ _ _ _ hP (.ret V5) (l.trans l5) (F5.forget.setLocal hn9 hsb9 _) ?_
  refine aB0 R1.ow λOa Y e1 e2 e3=> ?_
  rw [how] at e2
  cases e2
  exact ⟨λx t h=>(by cases h),[],Y,e1, .nil,e3.mono l5⟩
end
theorem bK (w:World)(os:OsState)(hp:Hp)(a:Addr)(G:SA)(S:SD)(h:Srt hp a G S)(hr:S.rdy=none)(hz:S.nodes.length<=60)(hsuc:∀ v∈S.nodes,∀ j∈S.suc v,j∈S.nodes)(hfine:aQ3 S.suc S.nodes [])(hsb:100<scanBound)(hne:∀ l,cyc S.suc S.nodes []=some l->l≠[]/\l.length<=1000):
  FnH w os 2 329 [.obj a] hp (λr hp'=>r= .val (match cyc S.suc S.nodes [] with | none=> .none | some l=> .tup [.str (u "ring"), .list (l.map T.int)])/\∃ G',Srt hp' a G' { S with rdy:=some (S.nodes.filter λk=>S.np k == 0) }):=by
 refine aE0 (o:=bT3) (fd:=aA2 bT3) (body:=aB1 (aA0 34)) (c:=328) (oc:=cX6) [u "sorter"] (by lk) rfl rfl (by lk) rfl rfl rfl
  (aF4.plain (al1 λ_=>by lk)) rfl (by decide) (by lk) (by lk) rfl rfl rfl rfl λA h0 L RA FA hL=> ?_
 have W:Own (callEnv (aA2 bT3) L 329):=⟨rfl,rfl,rfl⟩
 refine aA1 FA λlf hlf hlow=> ?_
 try clear FA
 refine ExE.tryRing W (by lk) (by lk) (by lk) (by lk) (by lk) (λo j u=>by lk) ?_
 refine ExE.retH _ ?_
 refine EvH.meth0 (n:=1) (a:=a) (d:=G.d) (es:=aC3 G S) (k1:=true) _ _ (aD hlf hlow rfl rfl) (aD6.deeper RA) (EvE.nm W) h.ins h.ns (bU0 _) ?_ ?_ ?_
 ·lk
 ·lk
 intro oL hLL
 refine (bO0 w os _ a G S (h.inFrame hLL) hr hz hsuc hfine hsb hne).mono λr hp' p kL kp=> ?_
 refine aB p λhres h9=>aA3 h9 λG' g=> ?_
 try clear p
 have g':=g.delOff (.inr ⟨oL,kL⟩)
 cases hc:cyc S.suc S.nodes [] with
 | none=>
  rw [hc] at hres
  obtain rfl:=hres
  exact ⟨kp,rfl,G',g'⟩
 | some x=>
  rw [hc] at hres
  refine aA3 hres λt z1z=> ?_
  try clear hres
  subst z1z
  exact ⟨t, .list (x.map T.int),rfl,rfl,rfl,⟨lf,aD hlf (bB0 hlow kp) rfl rfl⟩,kp,rfl,G',g'⟩
section
variable {elt t0 i0 t1 i1:Expr}{scope:Scope}{pos:Pos}{env:Env}{it acc:Value}{w:World}{A:Around}{R:Result->Shared->Prop}{s:Shared}
noncomputable abbrev lc2 (elt t0 i0 t1 i1:Expr)(scope:Scope)(pos:Pos):Expr:= .ListComp elt [⟨t0,i0,[],0⟩,⟨t1,i1,[],0⟩] scope pos
theorem cJ8:compTurn (lc2 elt t0 i0 t1 i1 scope pos) 1 it acc env=(standAt i1.pos >>= λ_=>pyNext it >>= λr=>match r with
   | none=>pure (.done .next)
   | some v=>letOwnedTupleGo t1 it v >>= λ_=>assign t1 env v >>= λ_=>
    (eval elt env >>= λx=>call (.builtin "list.append") [acc,x] >>= λ_=>pure ()) >>= λ_=>
     again (.compLoop (lc2 elt t0 i0 t1 i1 scope pos) 1 it acc env)):=by rfl
theorem cB8:compTurn (lc2 elt t0 i0 t1 i1 scope pos) 0 it acc env=(standAt i0.pos >>= λ_=>pyNext it >>= λr=>match r with
   | none=>pure (.done .next)
   | some v=>letOwnedTupleGo t0 it v >>= λ_=>assign t0 env v >>= λ_=>
    eval i1 env >>= λx=>standAt i1.pos >>= λ_=>foldedSetIterable i1 env x >>= λx=>holding [x] (pyIter x) >>= λy=>runOwn (.compStart (lc2 elt t0 i0 t1 i1 scope pos) 1 y acc env) env >>= λ_=>
     again (.compLoop (lc2 elt t0 i0 t1 i1 scope pos) 0 it acc env)):=by rfl
theorem bO1 (I:Nat->Shared->Prop)
  (turn:∀ n s,I n s->wpAny (model pw w) A (pyNext it) (λr s₁=>match r with
   | none=>R (.ok .next) s₁
   | some v=>wpAny (model pw w) A (assign t1 env v) (λ_ s₂=>wpAny (model pw w) A (eval elt env) (λx s₃=>
     wpAny (model pw w) A (call (.builtin "list.append") [acc,x]) (λ_ s₄=>∃ m,m<n/\I m s₄) (notedBy (model pw w) A env λe s'=>R (.error e) s') s₃)
     (notedBy (model pw w) A env λe s'=>R (.error e) s') s₂) (notedBy (model pw w) A env λe s'=>R (.error e) s') s₁) (notedBy (model pw w) A env λe s'=>R (.error e) s') s)
  (n:Nat) (h:I n s) (ht:∀ v,letOwnedTupleGo t1 it v=pure ()):codeAny (model pw w) A (.compLoop (lc2 elt t0 i0 t1 i1 scope pos) 1 it acc env) R s:=by
 refine codeAny_loop rfl I (λn s hI=> ?_) n h
 show wpAny _ _ ((compTurn (lc2 elt t0 i0 t1 i1 scope pos) 1 it acc env).onRaise (λx=>do noteFrame x env; theTreesLotGoes x)) _ _ s
 refine wpAny_noted ?_
 rw [cJ8]
 refine wpAny_bind (wpAny_standAt (wpAny_bind (wpAny_mono (turn n s hI) (λr s₁ h₁=> ?_) λ_ _ h'=>h')))
 cases r with
 | none=>exact wpAny_pure h₁
 | some v=>
  refine wpAny_bind (wpAny_of_eq (ht v) ?_)
  exact wpAny_bind (wpAny_mono h₁ (λ_ s₂ h₂=>wpAny_bind (wpAny_bind (wpAny_mono h₂ (λx s₃ h₃=>wpAny_bind (wpAny_mono h₃
   (λ_ s₄ h₄=>wpAny_pure (wpAny_pure ⟨rfl,h₄⟩)) λ_ _ h'=>h')) λ_ _ h'=>h'))) λ_ _ h'=>h')
theorem bK0 (I:Nat->Shared->Prop)
  (turn:∀ n s,I n s->wpAny (model pw w) A (pyNext it) (λr s₁=>match r with
   | none=>R (.ok .next) s₁
   | some v=>wpAny (model pw w) A (assign t0 env v) (λ_ s₂=>wpAny (model pw w) A (eval i1 env) (λx s₃=>wpAny (model pw w) A (pyIter x) (λy s₄=>
     codeAny (model pw w) A (.compStart (lc2 elt t0 i0 t1 i1 scope pos) 1 y acc env) (λr s₅=>match r with | .ok _=>∃ m,m<n/\I m s₅ | .error x=>cameBackBy (model pw w) A env (notedBy (model pw w) A env λe s'=>R (.error e) s') x s₅) s₄)
     (notedBy (model pw w) A env λe s'=>R (.error e) s') s₃) (notedBy (model pw w) A env λe s'=>R (.error e) s') s₂) (notedBy (model pw w) A env λe s'=>R (.error e) s') s₁) (notedBy (model pw w) A env λe s'=>R (.error e) s') s)
  (n:Nat) (h:I n s) (ht:∀ v,letOwnedTupleGo t0 it v=pure ()) (hf:∀ x,foldedSetIterable i1 env x=pure x):codeAny (model pw w) A (.compLoop (lc2 elt t0 i0 t1 i1 scope pos) 0 it acc env) R s:=by
 refine codeAny_loop rfl I (λn s hI=> ?_) n h
 show wpAny _ A ((compTurn (lc2 elt t0 i0 t1 i1 scope pos) 0 it acc env).onRaise (λx=>do noteFrame x env; theTreesLotGoes x)) _ _ s
 refine wpAny_noted ?_
 rw [cB8]
 refine wpAny_bind (wpAny_standAt (wpAny_bind (wpAny_mono (turn n s hI) (λr s₁ h₁=> ?_) λ_ _ h'=>h')))
 cases r with
 | none=>exact wpAny_pure h₁
 | some v=>
  refine wpAny_bind (wpAny_of_eq (ht v) ?_)
  refine wpAny_bind (wpAny_mono h₁ (λ_ s₂ h₂=>wpAny_bind (wpAny_mono h₂ (λx s₃ h₃=>wpAny_bind (wpAny_standAt (wpAny_bind (wpAny_of_eq (hf x) (wpAny_bind (wpAny_holding (wpAny_mono h₃
   (λy s₄ h₄=> ?_) λ_ _ h'=>h'))))))) λ_ _ h'=>h')) λ_ _ h'=>h')
  refine wpAny_bind (wpAny_runOwn (h:=none) ?_)
  rw [Around.mark_none]
  refine codeAny_mono h₄ λr s₅ h₅=> ?_
  cases r with
  | ok f=>exact wpAny_pure ⟨rfl,h₅⟩
  | error x=>exact h₅
theorem aY9 (h0:codeAny (model pw w) A (.compLoop (lc2 elt t0 i0 t1 i1 scope pos) 1 it acc env) R s)
  (h:wpAny (model pw w) A (pyIter it) (λit' s'=>codeAny (model pw w) A (.compLoop (lc2 elt t0 i0 t1 i1 scope pos) 1 it' acc env) R s')
   (notedBy (model pw w) A env λx s'=>R (.error x) s') s):codeAny (model pw w) A (.compStart (lc2 elt t0 i0 t1 i1 scope pos) 1 it acc env) R s:=by
 refine codeAny_of_tree ?_
 show wpAny _ _ ((compStart (lc2 elt t0 i0 t1 i1 scope pos) 1 it acc env).onRaise (λx=>do noteFrame x env; standAt theWindowsPlace)) _ _ s
 refine wpAny_notedAt ?_
 unfold compStart
 show wpAny _ _ (ask >>= _) _ _ s
 refine wpAny_bind (wpAny_askSetting (wpAny_ite ?_))
 split
 ·first
   | exact wpAny_bind (wpAny_pure (wpAny_pure (And.intro rfl h0)))
   | exact wpAny_pure (And.intro rfl h0)
 ·first
   | exact wpAny_bind (wpAny_rule (wpAny_bind (wpAny_standAt (wpAny_bind (wpAny_mono h (λit' s' h'=>wpAny_pure (And.intro rfl h')) λ_ _ x=>x)))))
   | (refine wpAny_bind (wpAny_rule ?_); show wpAny _ _ (standAt i1.pos >>= _) _ _ s; exact wpAny_bind (wpAny_standAt (wpAny_bind (wpAny_mono h (λit' s' h'=>wpAny_pure (And.intro rfl h')) λ_ _ x=>x))))
end
section
variable {elt t0 i0 t1 i1:Expr}{scope:Scope}{pos:Pos}{w:World}{A:Around}{h0:aA8}{env:Env}{os:OsState}{it D:Addr}{C:Sg->Prop}{I:Nat->Obj->Prop}{K:(Str->Option Value)->Prop}{B1:PM}{Oi X:OL}{m cm:NM}{s:Shared}{o oD:Obj}{RR:Result->Shared->Prop}
theorem cJ9 {ts us:List T}{vs0:List Value}{f:T->T}(J:Sg->Prop)(S:bJ w A h0 env os B1 ts C I)(hC:∀ σ,J σ->C σ)(hlo:∀ v,letOwnedTupleGo t1 (.ref it) v=pure ())(hsz:us.length+ts.length<=sizeLine)
  (turn:∀ t∈ts,∀ σ,J σ->∃ σ2,aF6 w A h0 env os t1 K σ t σ2/\J σ2/\EvE w A h0 env os true σ2 elt (f t))
  (R0:∃ σ,J σ/\Rl env σ B1 Oi m cm) (F:Fm w h0 env B1 (Oi++(it,o)::(D,oD)::X) m cm os s) (K0:K cm) (I0:I 0 o) (hD:isO oD vs0) (V0:aA6 B1 vs0 us)
  (fin:∀ B' oD' vs m' cm' s',B1.le B'->K cm'->(∃ σ,J σ/\Rl env σ B' Oi m' cm')->isO oD' vs->aA6 B' vs (us++ts.map f)->Fm w h0 env B' (Oi++(D,oD')::X) m' cm' os s'->RR (.ok .next) s'):
  codeAny (model pw w) A (.compLoop (lc2 elt t0 i0 t1 i1 scope pos) 1 (.ref it) (.ref D) env) RR s:=by
 let Iv:Nat->Shared->Prop:=λn s=>∃ i B' m' cm' o' oD' vs,n=ts.length - i/\i<=ts.length/\B1.le B'/\K cm'/\(∃ σ,J σ/\Rl env σ B' Oi m' cm')/\Fm w h0 env B' (Oi++(it,o')::(D,oD')::X) m' cm' os s/\I i o'/\isO oD' vs/\aA6 B' vs (us++(ts.take i).map f)
 refine bO1 Iv (λn s hI=> ?_) (ts.length - 0) ⟨0,B1,m,cm,o,oD,vs0,rfl,Nat.zero_le _, .refl _,K0,R0,F,I0,hD,by simpa using V0⟩ hlo
 refine cU2 hI λi B2 m2 cm2 o2 oD2 vs2 z1z hi l2 K2 z2z F2 I2 iD V2=> ?_
 try clear hI
 subst z1z
 refine aA1 z2z λσ hJ R2=> ?_
 try clear z2z
 cases ht:ts[i]? with
 | none=>
  have hlen:i=ts.length:=by rw [List.getElem?_eq_none_iff] at ht; room
  refine S.stop B2 Oi ((D,oD2)::X) m2 cm2 s it o2 i σ _ _ l2 (hC σ hJ) R2 F2 I2 ht λs' F'=> ?_
  rw [hlen,List.take_length] at V2
  exact fin B2 oD2 vs2 m2 cm2 s' l2 K2 ⟨σ,hJ,R2⟩ iD V2 F'
 | some t=>
  have hlt:i<ts.length:=by rw [List.getElem?_eq_some_iff] at ht; exact ht.1
  refine aC8 (turn t (List.mem_of_getElem? ht) σ hJ) λσ3 hb hJ3 hel=> ?_
  refine S.next B2 Oi ((D,oD2)::X) m2 cm2 s it o2 i t σ _ _ l2 (hC σ hJ) R2 F2 I2 ht λv s' o3 I3 F3 V3=> ?_
  refine hb B2 Oi ((it,o3)::(D,oD2)::X) m2 cm2 s' v _ _ K2 F3 R2 V3 λs4 m4 cm4 K4 F4 R4=> ?_
  refine hel B2 _ m4 cm4 s4 _ _ F4 (R4.rel _) λy s6 B6 l6 F6 Vy=> ?_
  have tk:us++(ts.take (i+1)).map f=us++(ts.take i).map f++[f t]:=by rw [List.take_add_one,ht,List.map_append,List.append_assoc]; rfl
  refine aA3 iD λn z1z=> ?_
  try clear iD
  subst z1z
  have hlenD:vs2.length<=us.length+ts.length:=by
   rw [V2.length,List.length_append,List.length_map,List.length_take]; room
  refine wpAny_list_append_plain (items:=vs2.toArray) ⟨n,F6.opn (D,_) (List.mem_append.mpr (.inr (.tail _ (.head _))))⟩ (hsz:=by simp; room) λh' hl hs=> ?_
  refine aA3 hl λn' hn'=> ?_
  try clear hl
  have F6':Fm w h0 env B6 ((Oi++[(it,o3)])++(D,{ cls:= .type "list",data:= .seq vs2.toArray n })::X) m4 cm4 os s6:=by rw [List.append_assoc]; exact F6
  have F7:=F6'.turn hn' hs s6.toks
  rw [List.append_assoc] at F7
  refine ⟨ts.length - (i+1),by room,i+1,B6,m4,cm4,o3,_,vs2++[y],rfl,hlt,l2.trans l6,K4,⟨σ3,hJ3,R4.mono l6⟩,F7,I3,⟨n',by simp⟩, ?_⟩
  rw [tk]
  exact (V2.mono l6).snoc Vy
theorem cB9 {ts ts1:List T}{f:T->T->T}(J:Sg->Prop)(J1:T->Sg->Prop)(C1:T->Sg->Prop)(S:bJ w A h0 env os B1 ts C I)(hC:∀ σ,J σ->C σ)(hlo:∀ it v,letOwnedTupleGo t0 it v=pure ())(hlo1:∀ it v,letOwnedTupleGo t1 it v=pure ())(hf:∀ x,foldedSetIterable i1 env x=pure x)(hsz:ts.length * ts1.length<=sizeLine)
  (turn:∀ t∈ts,∀ σ,J σ->∃ σ2,aF6 w A h0 env os t0 K σ t σ2/\J1 t σ2/\ItC w A h0 env os σ2 i1 ts1 (C1 t))
  (hJ1:∀ t σ,J1 t σ->J σ/\C1 t σ) (turn1:∀ t∈ts,∀ t'∈ts1,∀ σ,J1 t σ->∃ σ2,aF6 w A h0 env os t1 K σ t' σ2/\J1 t σ2/\EvE w A h0 env os true σ2 elt (f t t'))
  (R0:∃ σ,J σ/\Rl env σ B1 Oi m cm) (F:Fm w h0 env B1 (Oi++(it,o)::(D,oD)::X) m cm os s) (K0:K cm) (I0:I 0 o) (hD:isO oD [])
  (fin:∀ B' oD' vs m' cm' s',B1.le B'->K cm'->isO oD' vs->aA6 B' vs (ts.flatMap λt=>ts1.map (f t))->Fm w h0 env B' (Oi++(D,oD')::X) m' cm' os s'->RR (.ok .next) s'):
  codeAny (model pw w) A (.compLoop (lc2 elt t0 i0 t1 i1 scope pos) 0 (.ref it) (.ref D) env) RR s:=by
 let Iv:Nat->Shared->Prop:=λn s=>∃ i B' m' cm' o' oD' vs,n=ts.length - i/\i<=ts.length/\B1.le B'/\K cm'/\(∃ σ,J σ/\Rl env σ B' Oi m' cm')/\Fm w h0 env B' (Oi++(it,o')::(D,oD')::X) m' cm' os s/\I i o'/\isO oD' vs/\aA6 B' vs ((ts.take i).flatMap λt=>ts1.map (f t))
 refine bK0 Iv (λn s hI=> ?_) (ts.length - 0) ⟨0,B1,m,cm,o,oD,[],rfl,Nat.zero_le _, .refl _,K0,R0,F,I0,hD, .nil⟩ (hlo _) hf
 refine cU2 hI λi B2 m2 cm2 o2 oD2 vs2 z1z hi l2 K2 z2z F2 I2 iD V2=> ?_
 try clear hI
 subst z1z
 refine aA1 z2z λσ hJ R2=> ?_
 try clear z2z
 cases ht:ts[i]? with
 | none=>
  have hlen:i=ts.length:=by rw [List.getElem?_eq_none_iff] at ht; room
  refine S.stop B2 Oi ((D,oD2)::X) m2 cm2 s it o2 i σ _ _ l2 (hC σ hJ) R2 F2 I2 ht λs' F'=> ?_
  rw [hlen,List.take_length] at V2
  exact fin B2 oD2 vs2 m2 cm2 s' l2 K2 iD V2 F'
 | some t=>
  have hlt:i<ts.length:=by rw [List.getElem?_eq_some_iff] at ht; exact ht.1
  have hmem:=List.mem_of_getElem? ht
  refine aC8 (turn t hmem σ hJ) λσ3 hb hJ3 hit=> ?_
  refine S.next B2 Oi ((D,oD2)::X) m2 cm2 s it o2 i t σ _ _ l2 (hC σ hJ) R2 F2 I2 ht λv s' o3 I3 F3 V3=> ?_
  refine hb B2 Oi ((it,o3)::(D,oD2)::X) m2 cm2 s' v _ _ K2 F3 R2 V3 λs4 m4 cm4 K4 F4 R4=> ?_
  refine hit B2 _ m4 cm4 s4 _ _ F4 (R4.rel _) λit1 o5 s5 B5 I5 l5 F5 S5 I50 self=> ?_
  have F5':Fm w h0 env B5 (Oi++(it1,o5)::(D,oD2)::(it,o3)::X) m4 cm4 os s5:=F5.perm (by
   refine (List.perm_middle (l₁:=Oi)).symm.trans ?_
   exact List.Perm.append_left _ (List.Perm.cons _ (List.Perm.swap _ _ _)))
  have hlenT:((ts.take i).flatMap λt=>ts1.map (f t)).length+ts1.length<=sizeLine:=by
   have e:∀ l:List T,(l.flatMap λt=>ts1.map (f t)).length=l.length * ts1.length:=by
    intro l
    induction l with
    | nil=>simp
    | cons x l ih=>rw [List.flatMap_cons,List.length_append,ih,List.length_map,List.length_cons,Nat.succ_mul]; room
   rw [e,List.length_take,Nat.min_eq_left hi,<-Nat.succ_mul]
   exact Nat.le_trans (Nat.mul_le_mul_right _ hlt) hsz
  have loop:codeAny (model pw w) A (.compLoop (lc2 elt t0 i0 t1 i1 scope pos) 1 (.ref it1) (.ref D) env) (λr s₅=>match r with | .ok _=>∃ m,m<ts.length - i/\Iv m s₅ | .error x=>cameBackBy (model pw w) A env (notedBy (model pw w) A env λe s'=>RR (.error e) s') x s₅) s5:=by
   refine cJ9 (J1 t) (S5 _) (λσ h=>(hJ1 t σ h).2) (hlo1 _) hlenT (λt' ht' σ h=>turn1 t hmem t' ht' σ h) ⟨σ3,hJ3,R4.mono l5⟩ F5' K4 I50 iD (V2.mono l5) λB' oD' vs m' cm' s' l K' ⟨σ',hJ',R'⟩ iD' V' F'=> ?_
   refine ⟨ts.length - (i+1),by room,i+1,B',m',cm',o3,oD',vs,rfl,hlt,(l2.trans l5).trans l,K',⟨σ',(hJ1 t σ' hJ').1,R'⟩,F'.perm (List.Perm.append_left _ (List.Perm.swap _ _ _)),I3,iD', ?_⟩
   rw [List.take_add_one,ht,List.flatMap_append]
   simpa using V'
  exact aY9 loop (self _ _ _ (F5'.opn _ (List.mem_append.mpr (.inr (.head _)))) loop)
end
section
variable {w:World}{A:Around}{h0:aA8}{env:Env}{os:OsState}{k:Bool}{σ:Sg}{scope:Scope}{cl:List (Str×Addr)}{PC:List Addr}{L:List Str}
theorem EvE.mul {l r:Expr}{a b:Int}{k1 k2:Bool}(pos:Pos)(hl:EvE w A h0 env os k1 σ l (.int a))(hr:EvE w A h0 env os k2 σ r (.int b))(hb:Builtin.Int.intBits a<=64):EvE w A h0 env os k σ (.BinOp l .Mult r pos) (.int (a * b)):=
 EvE.bin pos hl hr λB O m cm s va vb Q E F V1 V2 q=>by
  refine aA3 V1.int λ_ z1z=> ?_
  subst z1z
  refine aA3 V2.int λ_ z1z=> ?_
  subst z1z
  exact mul_int (q _ _ B (.refl B) (F.tok _) (.of (.int _ _))) (IntMulOk.of_left hb)
theorem bO2 {B:PM}{a:Int}{n:Nat}{acc:Array Value}(h:ItemsOf (λi v=>∃ t,v= .int (a+i * 1) t) acc n):aA6 B acc.toList (aB3 a n):=by
 refine aB h λh1 h2=> ?_
 try clear h
 have key:∀ (l:List Value) (b:Int),(∀ (j:Nat) v,l[j]? =some v->∃ t,v=Value.int (b+(j:Int)) t)->aA6 B l (aB3 b l.length):=by
  intro l
  induction l with
  | nil=>intro b _; exact .nil
  | cons v l ih=>
   intro b hl
   refine aA3 (hl 0 v rfl) λt z1z=> ?_
   subst z1z
   have e:aB3 b (l.length+1)= .int (b+(0:Nat))::aB3 (b+1) l.length:=by
    unfold aB3
    rw [List.range_succ_eq_map,List.map_cons,List.map_map]
    congr 1
    refine List.map_congr_left λi _=> ?_
    show T.int (b+((i+1:Nat):Int))=T.int (b+1+(i:Int))
    congr 1; room
   rw [List.length_cons,e]
   refine .cons (.int _ _) (ih _ λj v hj=> ?_)
   obtain ⟨t,rfl⟩:=hl (j+1) v (by simpa using hj)
   exact ⟨t,by congr 1; push_cast; room⟩
 have:=key acc.toList a λj v hj=>by
  obtain ⟨t,rfl⟩:=h2 j v (by simpa using hj)
  exact ⟨t,by rw [Int.mul_one]⟩
 rwa [Array.length_toList,h1] at this
theorem EvE.listRange {e e':Expr}{a b:Int}{n:Nat}(np lp rp pos:Pos)(W:Own env)(hA:A.handled=none)(hk:env.kindOf (u "range")=some .globalImplicit)(hk':env.kindOf (u "list")=some .globalImplicit)
  (hs:backTo rp (starEach [e,e'] env)=[(false,eval e env),(false,eval e' env)]) (hs':backTo pos (starEach [.Call (.Name (u "range") np) [e,e'] [] rp] env)=[(false,eval (.Call (.Name (u "range") np) [e,e'] [] rp) env)])
  (he:EvE w A h0 env os true σ e (.int a)) (he':EvE w A h0 env os true σ e' (.int b)) (hsm:Builtin.Range.small a b 1=true) (hn:Builtin.Range.rangeSize a b 1=n) (hn2:n<=2 ^ 24):
  EvE w A h0 env os k σ (.Call (.Name (u "list") lp) [.Call (.Name (u "range") np) [e,e'] [] rp] [] pos) (.list (aB3 a n)):=λB O m cm s Q E F R q=>
 wpAny_Call_NameR (aJ0 W F hk' (by lk) (by lk) (by
  rw [hs']
  refine PySem.callWith_type (T:= "list") rfl (Calls.evalArgs_plain (Calls.spliced_cons (wpAny_Call_NameR (aJ0 W F hk (by lk) (by lk) (by
   rw [hs]
   refine PySem.callWith_type (T:= "range") rfl (Calls.evalArgs_plain (Calls.spliced_cons (he B O m cm s _ E F R λva s1 B1 l1 F1 V1=>Calls.spliced_cons (he' B1 O m cm s1 _ E F1 (R.mono l1) λvb s2 B2 l2 F2 V2=>Calls.spliced_nil ?_))))
   refine aA3 (VR.int V1) λtk z1z=> ?_
   subst z1z
   refine aA3 (VR.int V2) λtk' z1z=> ?_
   subst z1z
   refine call_range_2 ?_
   have F3:=F2.push (o:={ cls:= .type "range",data:= .fields #[.int a tk, .int b tk', .int 1 s2.toks] }) rfl (s2.toks+1)
   have l3:=PM.le_put ({ cls:= .type "range",data:= .fields #[.int a tk, .int b tk', .int 1 s2.toks] }:Obj) F2.none_of_fresh
   refine Calls.spliced_nil ?_
   refine call_list_range hA (F3.sub _ _ (PM.put_self ..)) hsm hn hn2 λh' t' acc c' ke hg hi=> ?_
   have F4:=F3.grow ke t'
   refine aL1 (F3.nobody (a:=(s2.heap.push { cls:= .type "range",data:= .fields #[.int a tk, .int b tk', .int 1 s2.toks] }).objs.size) aA7) λn1 n2 n3 n4 n5=> ?_
   have F5:=F4.know hg n1 n2 n3 n4 n5
   have l5:=PM.le_put ({ cls:= .type "list",dict:=none,data:= .seq acc c',slots:= #[] }:Obj) n1
   exact q _ _ _ (((l1.trans l2).trans l3).trans l5) F5 (.of (.list (PM.put_self ..) ⟨rfl,c',by simp⟩ rfl (bO2 hi)))) (by decide)))))) (by decide))
theorem EvE.comp2 {elt t0 i0 t1 i1:Expr}{ts ts1:List T}{f:T->T->T}{C:Sg->Prop}(J:Sg->Prop)(J1:T->Sg->Prop)(C1:T->Sg->Prop)(pos:Pos)(c:aK0 scope env cl PC L)(hcf:∀ x c,env.cells.lookup x=some c->h0.h c=none)
  (hi:ItC w A h0 env os σ i0 ts C) (hC:∀ σ,J σ->C σ) (hlo:∀ it v,letOwnedTupleGo t0 it v=pure ()) (hlo1:∀ it v,letOwnedTupleGo t1 it v=pure ()) (hfs:∀ x,foldedSetIterable i0 env x=pure x) (hfs1:∀ Cm x,foldedSetIterable i1 (compEnvC scope cl Cm env) x=pure x) (hsz:ts.length * ts1.length<=sizeLine) (hJ0:J (σ.inn L))
  (turn:∀ K Cm,∀ t∈ts,∀ σ,J σ->∃ σ2,aF6 w A h0 (compEnvC scope cl Cm env) os t0 K σ t σ2/\J1 t σ2/\ItC w A h0 (compEnvC scope cl Cm env) os σ2 i1 ts1 (C1 t)) (hJ1:∀ t σ,J1 t σ->J σ/\C1 t σ)
  (turn1:∀ K Cm,∀ t∈ts,∀ t'∈ts1,∀ σ,J1 t σ->∃ σ2,aF6 w A h0 (compEnvC scope cl Cm env) os t1 K σ t' σ2/\J1 t σ2/\EvE w A h0 (compEnvC scope cl Cm env) os true σ2 elt (f t t')):
  EvE w A h0 env os k σ (.ListComp elt [⟨t0,i0,[],0⟩,⟨t1,i1,[],0⟩] scope pos) (.list (ts.flatMap λt=>ts1.map (f t))):=λB O m cm s Q E F R q=>by
 rw [eval_ListComp]
 refine wpAny_comprehension_free (use:=none) rfl hfs c.clos c.kind c.names (hi B O m cm s _ E F R λit o s1 B1 I l1 F1 S I0 self=> ?_)
 refine aN0 (RR:=λacc C=>compPost (model pw w) A E none Q acc C) (us:=ts.flatMap λt=>ts1.map (f t)) c hcf (λCm D Oi X s R2 oD hR F hD fin=> ?_) F1 (R.mono l1) self λB' D Cm oD oC vs s' l iD V F7 hn=> ?_
 ·exact cB9 (K:=λcm'=>∀ x,(cl.lookup x).isSome=true->cm' x=cm x) J J1 C1 (S _) hC hlo hlo1 (hfs1 Cm) hsz (turn _ Cm) hJ1 (turn1 _ Cm) ⟨_,hJ0,hR _ _ _ (.refl _) (λx hx=>if_pos hx)⟩ F (λx hx=>if_pos hx) I0 hD fin
 refine aA3 hn λmm hn=> ?_
 refine ⟨mm,hn,λh' hsb=> ?_⟩
 have F8:Fm w h0 env B' ([]++(D,oD)::O) m cm os { s' with heap:=h',toks:=s'.toks }:=Fm.drop (O:=[]) F7 hsb.extBut s'.toks
 have F9:=F8.freeze
 have ld:B'.le (B'.put D oD):=PM.le_put oD (F8.offO (D,oD) (.head _)).1
 refine q _ _ (B'.put D oD) ((l1.trans l).trans ld) F9 (.of (.list (PM.put_self ..) iD.isL ?_ (V.mono ld)))
 refine aA3 iD λn z1z=> ?_
 try clear iD
 subst z1z
 rfl
end
noncomputable def aZ (a:Int)(n:Nat):List Int:=(List.range n).map λi:Nat=>a+(i:Int)
noncomputable def aE6:List (List Int):=[[173,847,6150,6155,6156,6157,8203,8204,8205,8288,65279]++aZ 65024 16,[32],aZ 64976 32++(aZ 0 17).flatMap λp=>[65534,65535].map λl=>65536 * p+l,[65529,65530,65531,65532,65533],aZ 12272 12,[832,833,8206,8207,8234,8235,8236,8237,8238,8298,8299,8300,8301,8302,8303],[917505]++aZ 917536 96,[33,172,834,12271,64975,65008,65528,917632,31,174,831,846,848,6149,6151,6154,6158,8202,8208,8233,8239,8287,8289,8297,8304,12284,65023,65040,65278,65280,65536,131069,131072,917504,917506,917535,1114109]]
noncomputable def aD4 (d:Int):List Int:=aE6.getD (d.fmod 8).toNat []
noncomputable def aU (d:Int):Int×Nat:=(d.fmod 8,((aD4 d).getD ((d.fdiv 8).fmod (aD4 d).length).toNat 0).toNat)
theorem bK1:∀ r∈aE6,r≠[]/\r.length<=100/\∀ c∈r,0<=c/\c<=1114111:=by decide +kernel
theorem bQ9 (d:Int):0<=d.fmod 8/\d.fmod 8<8:=⟨Int.fmod_nonneg_of_pos _ (by decide),Int.fmod_lt_of_pos _ (by decide)⟩
theorem bD (d:Int):aE6[(d.fmod 8).toNat]? =some (aD4 d)/\aD4 d∈aE6:=by
 have h:=bQ9 d
 have l:aE6.length=8:=by decide +kernel
 have hlt:(d.fmod 8).toNat<aE6.length:=by room
 have e:aD4 d=aE6[(d.fmod 8).toNat]:=by
  unfold aD4
  rw [List.getD_eq_getElem?_getD,List.getElem?_eq_getElem hlt]; rfl
 rw [e]
 exact ⟨List.getElem?_eq_getElem hlt,List.getElem_mem hlt⟩
noncomputable def aK9 (s:Stmt):Scope:=scE (inE (inE (stE (inS (aB1 s) 0)).1 2) 1)
noncomputable def ivT:T->Int
 | .int i=>i
 | _=>0
noncomputable def bO3:T:= .list (aE6.map λr=>T.list (r.map T.int))
noncomputable def aH1 (e:Expr):List Expr:=(exE e).1
noncomputable def aQ4 (e:Expr):Pos:=(exE e).2.2
noncomputable def dE7 (s:List Stmt):Expr×Pos×Pos:=((stE (inS s 0)).1,aQ4 (stX (inS s 0)).2.2.1,(stX (inS s 0)).2.2.2)
noncomputable def dE8 (s:List Stmt):Expr:=(dE7 s).1
noncomputable def bR (s:List Stmt):Pos×Pos:=(dE7 s).2
noncomputable def lOf (e:Expr):Expr:=inE e 0
noncomputable def rOf (e:Expr):Expr:=inE e 1
noncomputable def dK4:Const->Int
 | .int i=>i
 | _=>0
noncomputable def cOf (e:Expr):Int×Nat×Pos:=(dK4 (exX e).2.1,(exX e).2.2,aQ4 e)
noncomputable def cst (e:Expr):Expr:= .Constant (.int (cOf e).1) (cOf e).2.1 (cOf e).2.2
noncomputable def cC (es:List Expr):List Expr×List Int:=(es.map cst,es.map λe=>(cOf e).1)
noncomputable def eE:Expr:=dE8 (aB1 (aA0 23))
noncomputable def eI (i:Nat):Expr:=(aH1 eE).getD i default
section
variable {w:World}{A:Around}{h0:aA8}{env:Env}{os:OsState}{k:Bool}{σ:Sg}
theorem bV0 (es:List Expr):aC4 w A h0 env os σ (es.map cst) ((es.map λe=>(cOf e).1).map T.int):=by
 induction es with
 | nil=>exact .nil
 | cons e es ih=>exact .cons (EvE.int _ _ _) ih
theorem EvE.constsD {e:Expr}{ns:List Int}(hc:cC (aH1 e)=(aH1 e,ns))(he:e= .List (aH1 e) (aQ4 e))(hs:backTo (aQ4 e) (starEach (aH1 e) env)=(aH1 e).map λe=>(false,eval e env))(hz:ns.length<=1000):EvE w A h0 env os k σ e (.list (ns.map T.int)):=by
 have hz':(ns.map T.int).length<=sizeLine:=by rw [List.length_map]; exact Nat.le_trans hz (by decide)
 refine aB (Prod.mk.inj hc) λh1 z1z=> ?_
 subst z1z
 rw [he]
 exact EvE.listD _ (by have:=bV0 (w:=w) (A:=A) (h0:=h0) (env:=env) (os:=os) (σ:=σ) (aH1 e); rw [h1] at this; exact this) hs hz'
theorem EvE.sumD {e:Expr}{a b:List T}(he:e= .BinOp (lOf e) .Add (rOf e) (aQ4 e))(hl:∀ x,x=lOf e->EvE w A h0 env os true σ x (.list a))(hr:∀ x,x=rOf e->EvE w A h0 env os true σ x (.list b))(hz:a.length+b.length<=1000):EvE w A h0 env os k σ e (.list (a++b)):=by
 rw [he]
 exact EvE.addL _ (hl _ rfl) (hr _ rfl) (Nat.le_trans hz (by decide))
end
noncomputable def cC0 (e:Expr):(Pos×Pos×Pos)×(Pos×Pos×Pos)×(Nat×Nat):=
 ((aQ4 (inE e 0),aQ4 (inE (inE e 1) 0),aQ4 (inE e 1)),(aQ4 e,aQ4 (inE (inE e 1) 1),aQ4 (inE (inE e 1) 2)),((exX (inE (inE e 1) 1)).2.2,(exX (inE (inE e 1) 2)).2.2))
noncomputable def dE9 (a b:Int)(q:(Pos×Pos×Pos)×(Pos×Pos×Pos)×(Nat×Nat)):Expr:=
 .Call (.Name (u "list") q.1.1) [.Call (.Name (u "range") q.1.2.1) [.Constant (.int a) q.2.2.1 q.2.1.2.1, .Constant (.int b) q.2.2.2 q.2.1.2.2] [] q.1.2.2] [] q.2.1.1
section
variable (w:World)(os:OsState)(A:Around)(h0:aA8)(L:Addr)(σ:Sg)(k:Bool)
theorem bF7 (a b:Int)(n:Nat)(hA:A.handled=none)(hsm:Builtin.Range.small a b 1=true)(hn:Builtin.Range.rangeSize a b 1=n)(hn2:n<=2 ^ 24)(x:Expr)(hx:x=dE9 a b (cC0 x)):EvE w A h0 (callEnv (aA2 aH3) L 258) os k σ x (.list (aB3 a n)):=by
 generalize cC0 x=q at hx
 subst hx
 exact EvE.listRange _ _ _ _ ⟨rfl,rfl,rfl⟩ hA (by lk) (by lk) (by lk) (by lk) (EvE.int _ _ _) (EvE.int _ _ _) hsm hn hn2
theorem ev0 (hA:A.handled=none)(e:Expr)(he:e=eI 0):EvE w A h0 (callEnv (aA2 aH3) L 258) os k σ e (.list ([173,847,6150,6155,6156,6157,8203,8204,8205,8288,65279].map T.int++aB3 65024 16)):=by
 refine EvE.sumD (by rw [he]; lk) (λx hx=>EvE.constsD (by rw [hx,he]; lk) (by rw [hx,he]; lk) (by rw [hx,he]; lk) (by decide)) (λx hx=>bF7 w os A h0 L σ true 65024 65040 16 hA (by decide) rfl (by decide) x (by rw [hx,he]; lk)) (by decide)
theorem bV1 (hA:A.handled=none):EvE w A h0 (callEnv (aA2 aH3) L 258) os k σ (rOf (eI 2)) (.list ((aB3 0 17).flatMap λt=>([65534,65535].map T.int).map λt'=>T.int (65536 * ivT t+ivT t'))):=by
 have W:Own (callEnv (aA2 aH3) L 258):=⟨rfl,rfl,rfl⟩
 refine EvE.comp2 (cl:=[]) (PC:=[]) (L:=[]) (C:=λ_=>True) (f:=λt t'=>T.int (65536 * ivT t+ivT t')) (λσ=>σ.ow=[]) (λt σ=>σ.ow=[]/\σ.fz (u "plane")=some t) (λ_ _=>True) _ ⟨Cls.same rfl,by lk,rfl, ?_, ?_,λx hx=>absurd hx List.not_mem_nil⟩ (λx c e=>by cases e) (ItC.range1 (n:=17) (k1:=true) _ _ W hA (by lk) (by lk) (by lk) (by lk) (EvE.int _ _ _) (by decide)) (λ_ _=>trivial) (λ_ _=>rfl) (λ_ _=>rfl) (λ_=>rfl) (λ_ _=>rfl) (by decide) (by simp [Sg.inn]) ?_ (λt σ h=>⟨h.1,trivial⟩) ?_
 ·have:∀ y∈(aK9 (aA0 23)).names,y.2= .local->(aK9 (aA0 23)).names.lookup y.1=some .local:=by decide +kernel
  exact this
 ·have:∀ y∈(aK9 (aA0 23)).names,y.2≠ .cell:=by decide +kernel
  exact this
 ·intro K Cm t ht σ hσ
  have W2:Own (compEnvC (aK9 (aA0 23)) [] Cm (callEnv (aA2 aH3) L 258)):=⟨rfl,rfl,rfl⟩
  exact ⟨_,aF6.name _ W2 (by lk) (aC2 _ hσ),⟨hσ,by lk⟩,ItC.list hA (EvE.listD _ (.cons (EvE.int _ _ _) (.cons (EvE.int _ _ _) .nil)) (by lk) (by decide))⟩
 ·intro K Cm t ht t' ht' σ w1w
  refine aB w1w λhσ hp=> ?_
  try clear w1w
  have W2:Own (compEnvC (aK9 (aA0 23)) [] Cm (callEnv (aA2 aH3) L 258)):=⟨rfl,rfl,rfl⟩
  refine aA1 (List.mem_map.mp ht) λi hi z1z=> ?_
  subst z1z
  refine aA1 (List.mem_map.mp ht') λj hj z1z=> ?_
  subst z1z
  have hp':(σ.set (u "low") (T.int j)).fz (u "plane")=some (T.int (0+(i:Int))):=(by lk:_=σ.fz (u "plane")).trans hp
  refine ⟨_,aF6.name _ W2 (by lk) (aC2 _ hσ),⟨hσ,hp'⟩, ?_⟩
  exact EvE.add _ (k1:=true) (k2:=true) (EvE.mul _ (k1:=true) (k2:=true) (EvE.int _ _ _) (EvE.nm W2 hp') (by decide +kernel)) (EvE.nm W2)
theorem ev2 (hA:A.handled=none)(e:Expr)(he:e=eI 2):EvE w A h0 (callEnv (aA2 aH3) L 258) os k σ e (.list (aB3 64976 32++(aB3 0 17).flatMap λt=>([65534,65535].map T.int).map λt'=>T.int (65536 * ivT t+ivT t'))):=
 EvE.sumD (by rw [he]; lk) (λx hx=>bF7 w os A h0 L σ true 64976 65008 32 hA (by decide) rfl (by decide) x (by rw [hx,he]; lk)) (λx hx=>by rw [hx,he]; exact bV1 w os A h0 L σ true hA) (by decide +kernel)
theorem ev6 (hA:A.handled=none)(e:Expr)(he:e=eI 6):EvE w A h0 (callEnv (aA2 aH3) L 258) os k σ e (.list ([917505].map T.int++aB3 917536 96)):=
 EvE.sumD (by rw [he]; lk) (λx hx=>EvE.constsD (by rw [hx,he]; lk) (by rw [hx,he]; lk) (by rw [hx,he]; lk) (by decide)) (λx hx=>bF7 w os A h0 L σ true 917536 917632 96 hA (by decide) rfl (by decide) x (by rw [hx,he]; lk)) (by decide)
theorem ev4 (hA:A.handled=none)(e:Expr)(he:e=eI 4):EvE w A h0 (callEnv (aA2 aH3) L 258) os k σ e (.list (aB3 12272 12)):=
 bF7 w os A h0 L σ k 12272 12284 12 hA (by decide) rfl (by decide) e (by rw [he]; lk)
theorem evC (i:Nat)(ns:List Int)(hc:cC (aH1 (eI i))=(aH1 (eI i),ns))(h:eI i= .List (aH1 (eI i)) (aQ4 (eI i)))(hs:backTo (aQ4 (eI i)) (starEach (aH1 (eI i)) (callEnv (aA2 aH3) L 258))=(aH1 (eI i)).map λe=>(false,eval e (callEnv (aA2 aH3) L 258)))(hz:ns.length<=1000)(e:Expr)(he:e=eI i):EvE w A h0 (callEnv (aA2 aH3) L 258) os k σ e (.list (ns.map T.int)):=by
 subst he
 exact EvE.constsD hc h hs hz
theorem cC1 (hA:A.handled=none)(e:Expr)(he:e=eE):EvE w A h0 (callEnv (aA2 aH3) L 258) os true σ e bO3:=by
 have h:eE= .List [eI 0,eI 1,eI 2,eI 3,eI 4,eI 5,eI 6,eI 7] (aQ4 eE):=by lk
 have hs:backTo (aQ4 eE) (starEach [eI 0,eI 1,eI 2,eI 3,eI 4,eI 5,eI 6,eI 7] (callEnv (aA2 aH3) L 258))=[eI 0,eI 1,eI 2,eI 3,eI 4,eI 5,eI 6,eI 7].map λe=>(false,eval e (callEnv (aA2 aH3) L 258)):=by lk
 have h1:=evC w os A h0 L σ true 1 [32] (by lk) (by lk) (by lk) (by decide)
 have h3:=evC w os A h0 L σ true 3 [65529,65530,65531,65532,65533] (by lk) (by lk) (by lk) (by decide)
 have h5:=evC w os A h0 L σ true 5 [832,833,8206,8207,8234,8235,8236,8237,8238,8298,8299,8300,8301,8302,8303] (by lk) (by lk) (by lk) (by decide)
 have h7:=evC w os A h0 L σ true 7 [33,172,834,12271,64975,65008,65528,917632,31,174,831,846,848,6149,6151,6154,6158,8202,8208,8233,8239,8287,8289,8297,8304,12284,65023,65040,65278,65280,65536,131069,131072,917504,917506,917535,1114109] (by lk) (by lk) (by lk) (by decide)
 have h0':=ev0 w os A h0 L σ true hA
 have h2:=ev2 w os A h0 L σ true hA
 have h4:=ev4 w os A h0 L σ true hA
 have h6:=ev6 w os A h0 L σ true hA
 rw [he,h]
 generalize eI 0=e0 at *
 generalize eI 1=e1 at *
 generalize eI 2=e2 at *
 generalize eI 3=e3 at *
 generalize eI 4=e4 at *
 generalize eI 5=e5 at *
 generalize eI 6=e6 at *
 generalize eI 7=e7 at *
 have es:bO3= .list [T.list ([173,847,6150,6155,6156,6157,8203,8204,8205,8288,65279].map T.int++aB3 65024 16),T.list ([32].map T.int),T.list (aB3 64976 32++(aB3 0 17).flatMap λt=>([65534,65535].map T.int).map λt'=>T.int (65536 * ivT t+ivT t')),T.list ([65529,65530,65531,65532,65533].map T.int),T.list (aB3 12272 12),T.list ([832,833,8206,8207,8234,8235,8236,8237,8238,8298,8299,8300,8301,8302,8303].map T.int),T.list ([917505].map T.int++aB3 917536 96),T.list ([33,172,834,12271,64975,65008,65528,917632,31,174,831,846,848,6149,6151,6154,6158,8202,8208,8233,8239,8287,8289,8297,8304,12284,65023,65040,65278,65280,65536,131069,131072,917504,917506,917535,1114109].map T.int)]:=by lk
 rw [es]
 exact EvE.listD _ (.cons (h0' _ rfl) (.cons (h1 _ rfl) (.cons (h2 _ rfl) (.cons (h3 _ rfl) (.cons (h4 _ rfl) (.cons (h5 _ rfl) (.cons (h6 _ rfl) (.cons (h7 _ rfl) .nil)))))))) hs (by show 8<=sizeLine; decide)
end
theorem cS8:aB1 (aA0 23)= .Assign [.Name (u "signs") (bR (aB1 (aA0 23))).1] eE (bR (aB1 (aA0 23))).2::(aB1 (aA0 23)).tail:=by lk
theorem cC2 (w:World)(os:OsState)(ds:List Int)(hds:ds.length<=12):FnE w os 0 258 [.list (ds.map T.int)] (.list ((ds.map aU).map aM5)):=by
 refine aB9 (o:=aH3) (fd:=aA2 aH3) (body:=aB1 (aA0 23)) (c:=257) (oc:=cP1) [u "draws"] (by lk) rfl rfl (by lk) rfl rfl rfl
  (al1 λ_=>by lk) rfl (by decide) (by lk) (by lk) rfl rfl rfl rfl λA h0 L RA=> ?_
 have W:Own (callEnv (aA2 aH3) L 258):=⟨rfl,rfl,rfl⟩
 have hz:sizeLine=16777216:=by decide
 have hA:(A.deeper (callEnv (aA2 aH3) L 258)).handled=none:=RA.handled
 rw [cS8]
 have sw:swapsWith eE (some (.Name (u "signs") (bR (aB1 (aA0 23))).1)) (bR (aB1 (aA0 23))).2.line (callEnv (aA2 aH3) L 258)=pure false:=by lk
 generalize hE:eE=e0 at *
 replace hE:=hE.symm
 refine ExE.assign (t:=bO3) _ _ ?_ ?_ ?_ ?_ ?_ ?_
 ·exact W
 ·exact cC1 w os _ h0 L _ hA _ hE
 ·lk
 ·exact λp hp=>absurd hp List.not_mem_nil
 ·exact sw
 refine ExE.newList (ts:=[]) _ _ _ ?_ ?_ ?_ ?_ ?_ ?_ ?_
 ·exact W
 ·exact .nil
 ·lk
 ·decide
 ·lk
 ·exact λp hp=>absurd hp List.not_mem_nil
 refine ExE.for_ (ts:=ds.map T.int) (J:=λi σ=>σ.ow=[(u "spots",((ds.take i).map aU).map aM5)]/\σ.fz (u "draws")=some (.list (ds.map T.int))/\σ.fz (u "signs")=some (.list (aE6.map λr=>T.list (r.map T.int)))) _ ?_ ?_ ?_ ?_ ?_ ?_
 ·exact ItE.list hA (EvE.nm W)
 ·exact ⟨rfl,by lk,by lk⟩
 ·exact λit v=>rfl
 ·exact λx=>rfl
 ·intro i t σ1 ht w1w
  refine aC5 w1w λj1 j2 j3=> ?_
  try clear w1w
  rw [List.getElem?_map] at ht
  cases hk:ds[i]? with
  | none=>rw [hk] at ht; cases ht
  | some d=>
  rw [hk] at ht
  cases ht
  have off:∀ x:Str,u "spots" ≠x->∀ q∈σ1.ow,q.1≠x:=λx hx q hq=>by rw [j1] at hq; rw [List.mem_singleton.mp hq]; exact hx
  have m8:=bQ9 d
  refine aB (bD d) λr1 r2=> ?_
  refine aC5 (bK1 _ r2) λs1 s2 s3=> ?_
  have pylong:Builtin.divisionGoesByPylong d 8=false:=by unfold Builtin.divisionGoesByPylong; rfl
  have hil:i<ds.length:=by rw [List.getElem?_eq_some_iff] at hk; exact hk.1
  refine ⟨_,aF5.name _ W (by lk) (off _ (by decide)), ?_⟩
  refine ExE.assign _ _ W (t:= .list ((aD4 d).map T.int)) ?_ (by lk) (off _ (by decide)) (by lk) ?_
  ·refine EvE.idx _ (k1:=true) (k2:=true) (EvE.nm W ((by lk:_=σ1.fz (u "signs")).trans j3)) (EvE.mod _ hA (k1:=true) (k2:=true) (EvE.nm W) (EvE.int _ _ _) (by decide)) m8.1 (by room) (by rw [List.getElem?_map,r1]; rfl) (λo j u=>by lk)
  have hlen:0<(aD4 d).length:=by
   cases h:aD4 d with
   | nil=>exact absurd h s1
   | cons a l=>simp
  have p0:0<=(d.fdiv 8).fmod (aD4 d).length/\(d.fdiv 8).fmod (aD4 d).length<(aD4 d).length:=⟨Int.fmod_nonneg_of_pos _ (by room),Int.fmod_lt_of_pos _ (by room)⟩
  have hpl:((d.fdiv 8).fmod (aD4 d).length).toNat<(aD4 d).length:=by room
  have hget:(aD4 d)[((d.fdiv 8).fmod (aD4 d).length).toNat]? =some ((aD4 d).getD ((d.fdiv 8).fmod (aD4 d).length).toNat 0):=by
   rw [List.getD_eq_getElem?_getD,List.getElem?_eq_getElem hpl]; rfl
  have hc:=s3 _ (List.mem_of_getElem? hget)
  refine ExE.append _ _ _ _ W (x:=u "spots") (ts:=((ds.take i).map aU).map aM5) (t:=aM5 (aU d)) ?_ (.inl (by lk)) (by lk) (by lk) ?_ (by simp; room) (by lk) (by lk) (by lk) (by lk) (by lk) (by lk) (ExE.nil ?_)
  ·show σ1.ow.lookup (u "spots")=_
   rw [j1]; lk
  ·refine EvE.tupD _ _ (.cons (EvE.mod _ hA (k1:=true) (k2:=true) (EvE.nm W) (EvE.int _ _ _) (by decide)) (.cons ?_ .nil)) (by lk) (by show 2<=sizeLine; decide)
   refine EvE.chr _ _ W (by lk) (by lk) (by lk) (by lk) (by lk) (k1:=true) ?_ hc.1 hc.2
   refine EvE.idx _ (k1:=true) (k2:=true) (EvE.nm W) (EvE.mod _ hA (k1:=true) (k2:=true) (EvE.fdiv _ (k1:=true) (k2:=true) (EvE.nm W) (EvE.int _ _ _) (by decide) pylong) (a:=d.fdiv 8) (b:=((aD4 d).length:Int)) ?_ (by room)) p0.1 (by room) (by rw [List.getElem?_map,hget]; rfl) (λo j u=>by lk)
   rw [<- List.length_map (f:=T.int) (as:=aD4 d)]
   exact EvE.lenN W (k1:=true) (EvE.nm W) (by rw [List.length_map]; room)
  ·refine ⟨?_,(by lk:_=σ1.fz (u "draws")).trans j2,(by lk:_=σ1.fz (u "signs")).trans j3⟩
   show aM9 (u "spots") _ σ1.ow=_
   rw [j1,List.take_add_one,hk,List.map_append,List.map_append]
   lk
 ·intro σ1 w1w
  refine aB w1w λj1 _=> ?_
  try clear w1w
  rw [List.length_map,List.take_length] at j1
  refine ExE.still (x:=u "spots") (ts:=(ds.map aU).map aM5) (by rw [j1]; lk) ?_
  exact ExE.ret _ (EvE.nm W (by lk)) rfl
section
variable {w:World}{os:OsState}
theorem bD0 {n:Nat}{a c:Addr}{o oc:Obj}{fd:FuncData}{body:List Stmt}{as:List T}{hp:Hp}{P:Rs->Hp->Prop}(names:List Str){cvs:Array Value}{tk:Tok}(ho:(H1 w.params).get? a=some o)(hdata:o.data= .func fd)
  (hcd:fd.code= .ref c) (hc:(H1 w.params).get? c=some oc) (hcv:oc.data= .fields cvs) (hcq:cvs[1]? =some (.str fd.qualname tk))
  (hbody:fd.body= .stmts body) (hbind:∀ vs,vs.length=as.length->bindArgs fd ⟨vs,[]⟩=pure (names.zip vs)) (hnl:names.length=as.length) (hnd:names.Nodup)
  (hloc:∀ (L:Addr) x,x∈names->fd.scope.names.lookup x=some .local\/(fd.scope.names.lookup x=some .cell/\((cellsFrom (L+1) fd.scope.names []).lookup x).isSome=true))
  (hco:fd.scope.isCoroutine=false) (hgen:fd.scope.isGenerator=false) (hk:fd.scope.kind= .function) (hcl:fd.closure=[])
  (h:∀ (A:Around) (h0:aA8) (L:Addr),aD6 n A->Frm A hp->hp L=none->(∀ x c,(callEnvC fd L a).cells.lookup x=some c->h0.h c=none)->ExE w (A.deeper (callEnvC fd L a)) h0 (callEnvC fd L a) os ⟨λx=>(names.zip as).lookup x,[],hp⟩ body (fnP P (aA4 hp))):FnH w os n a as hp P:=by
 intro A B Y s vs K RA FA su gl hY hh hg hos V q qe
 have hvl:vs.length=as.length:=V.length
 have fresh:∀ x,s.heap.objs.size<=x->s.heap.get? x=none:=λx hx=>by
  cases e:s.heap.get? x with
  | none=>rfl
  | some o=>exact absurd (Heap.lt_size e) (Nat.not_lt.mpr hx)
 have freshB:∀ x,s.heap.objs.size<=x->B x=none:=λx hx=>by
  cases e:B x with
  | none=>rfl
  | some o=>have:=su _ _ e; rw [fresh x hx] at this; cases this
 have ltY:∀ p∈Y,p.1<s.heap.objs.size:=λp hp=>Heap.lt_size (hY.at_ p hp)
 have hpL:hp s.heap.objs.size=none:=by
  cases e:hp s.heap.objs.size with
  | none=>rfl
  | some b=>obtain ⟨o,hm,_⟩:=hh _ _ e; exact absurd (ltY _ hm) (Nat.lt_irrefl _)
 refine codeAny_call_cells (binds:=names.zip vs) (Nat.lt_of_le_of_lt (Nat.le_add_right _ n) (Nat.lt_trans RA.depth (by decide))) (su _ _ (gl _ _ ho)) hdata ?_ ?_ hbody (hbind vs hvl) hcl (λx hx=>hloc _ x.1 (List.of_mem_zip hx).1) (λs₁ I=> ?_) hco hgen hk
 ·obtain ⟨mc,hn,e⟩:=aV9 w.params; exact ⟨mc,aC hn λo e=>su _ _ (gl _ _ e),e⟩
 ·exact ⟨c,oc,cvs,tk,hcd,su _ _ (gl _ _ hc),hcv,hcq⟩
 ·obtain ⟨⟨h₁,tk₁,rfl⟩,hns,ke,_⟩:=I.toInCall
  have ab:∀ x c,(callEnvC fd s.heap.objs.size a).cells.lookup x=some c->s.heap.objs.size<c:=λx c e=>I.above x c (mem_of_lookup e)
  have mfresh:∀ x,s.heap.objs.size<=x->mask s.heap Y x=none:=λx hx=>by
   cases e:mask s.heap Y x with
   | none=>rfl
   | some o=>have:=(aT2 e).1; rw [fresh x hx] at this; cases this
  have F:Fm w ⟨mask s.heap Y,B⟩ (callEnvC fd s.heap.objs.size a) B (Y++[]) (bindL (callEnvC fd s.heap.objs.size a).kindOf (names.zip vs) λ_=>none) (bindC (callEnvC fd s.heap.objs.size a).kindOf (names.zip vs) λ_=>none) os { s with heap:=h₁,toks:=tk₁ }:=by
   rw [List.append_nil]
   exact ⟨hns,λx c e=>I.cell x c e,λa o e=>ke _ _ (aT2 e).1,λa o e=>ke _ _ (su a o e),λp hp=>ke _ _ (hY.at_ p hp),⟨freshB _ (Nat.le_refl _),mfresh _ (Nat.le_refl _)⟩,λx c e=>⟨freshB c (Nat.le_of_lt (ab x c e)),Nat.ne_of_gt (ab x c e)⟩,λx y c e1 e2=>aT7 I.apart (mem_of_lookup e1) (mem_of_lookup e2),λp hp=>⟨hY.off p hp,bC1 hp,Nat.ne_of_lt (ltY p hp),λx c e=>Nat.ne_of_gt (Nat.lt_trans (ltY p hp) (ab x c e))⟩,hY.nod,gl,hg,hos,λa o e=> .inl e⟩
  have R:Rl (callEnvC fd s.heap.objs.size a) ⟨λx=>(names.zip as).lookup x,[],hp⟩ B Y (bindL (callEnvC fd s.heap.objs.size a).kindOf (names.zip vs) λ_=>none) (bindC (callEnvC fd s.heap.objs.size a).kindOf (names.zip vs) λ_=>none):=by
   refine ⟨λx u hx=> ?_,[],Y,rfl, .nil,hh⟩
   refine aA1 (aQ8 V names x u hx) λv hv Vv=> ?_
   refine ⟨v, ?_,Vv⟩
   have hm:x∈names:=(List.of_mem_zip (aD7 hx)).1
   have dd:((names.zip vs).map (·.1)).Nodup:=by rw [List.map_fst_zip (by room)]; exact hnd
   rcases hloc s.heap.objs.size x hm with e | ⟨e,_⟩
   ·have e:(callEnvC fd s.heap.objs.size a).kindOf x=some .local:=e
    unfold aB7
    rw [e]
    exact aY2 e dd hv
   ·have e:(callEnvC fd s.heap.objs.size a).kindOf x=some .cell:=e
    unfold aB7
    rw [e]
    exact aY3 (by rw [e]; intro z; cases z) dd hv
  refine aA1 FA λlf hlf hlow=> ?_
  try clear FA
  refine h A ⟨mask s.heap Y,B⟩ s.heap.objs.size RA ⟨lf,hlf,hlow⟩ hpL (λx c e=>mfresh c (Nat.le_of_lt (ab x c e))) B Y [] _ _ _ _ _ F R ⟨λfl σ' f s' B' O' m' cm' p r l F' R'=> ?_,λcls args σ' e s' B' Z O' m' cm' p fly l F' R'=> ?_⟩
  ·refine aB0 R'.ow λO1 Y' z1z ro hh'=> ?_
   subst z1z
   have nod:=F'.nod
   rw [List.append_nil,List.map_append,List.nodup_append] at nod
   have G:=aW F' l Y' (λp hp=>by simp [hp]) nod.2.1
   refine aB p λk p=> ?_
   cases r with
   | next=>exact q _ _ s' B' Y' _ p k G hh' .none
   | brk=>exact p.elim
   | cont=>exact p.elim
   | ret V'=>exact q _ _ s' B' Y' _ p k G hh' V'
  ·have Wy:aC9 (A.deeper (callEnvC fd s.heap.objs.size a)) (callEnvC fd s.heap.objs.size a) σ' lf:=aD hlf (bB0 hlow p.1) hk rfl
   refine bZ0 F' R' Wy fly λs'' Z' O'' fly' F'' R''=> ?_
   refine aB0 R''.ow λO1 Y' z1z ro hh'=> ?_
   subst z1z
   have nod:=F''.nod
   rw [List.append_nil] at nod
   have nod2:((Z'++Y').map (·.1)).Nodup:=by
    rw [List.map_append,List.map_append,List.nodup_append,List.nodup_append] at nod
    rw [List.map_append,List.nodup_append]
    exact ⟨nod.1,nod.2.1.2.1,λa ha b hb=>nod.2.2 a ha b (List.mem_append.mpr (.inr hb))⟩
   have G:=aW F'' l (Z'++Y') (λp hp=>by
    rcases List.mem_append.mp hp with hp | hp
    ·exact List.mem_append.mpr (.inl hp)
    ·exact List.mem_append.mpr (.inr (List.mem_append.mpr (.inl (List.mem_append.mpr (.inr hp)))))) nod2
   exact qe cls args e s'' B' Y' Z' _ p.2 p.1 G hh' fly'
end
section
variable {w:World}{A:Around}{h0:aA8}{env:Env}{os:OsState}{k:Bool}{σ:Sg}{P:FP}{rest:List Stmt}{PV:Rs->Sg->Prop}
theorem TsH.of {e:Expr}{P:Bool->Sg->Prop}(he:EvH w A h0 env os σ e (λr σ'=>match r with | .val (.bool b)=>P b σ' | _=>False))(ht:isTrue e env (eval e env)=(do let v <-eval e env; standAt e.pos; holding [v] (truthy v))):TsH w A h0 env os σ e P:=λB O X m cm s Q E F R q=>
 isTrue_plain (he B O X m cm s _ E F R ⟨λt σ' v s' B' O' m' cm' p V l F' R'=>by
  cases t with
  | bool b=>
   cases V
   exact wpAny_truthy_bool (q b σ' s' B' O' m' cm' p l F' R')
  | _=>exact p.elim,λcls args σ' e s' B' Z O' m' cm' p=>p.elim⟩) ht
theorem ExE.iteH {c:Expr}{body orelse:List Stmt}(pos:Pos)
  (h:TsH w A h0 env os σ c (λb σ'=>ExE w A h0 env os σ' (if b then body else orelse) (bY4 w A h0 env os rest P))):ExE w A h0 env os σ (.If c body orelse pos::rest) P:=λB O X m cm s Q E F R q=>
 wpAny_execs_cons (wpAny_If (h B O X m cm s _ E F R λb σ1 s1 B1 O1 m1 cm1 hx l1 F1 R1=>by
  have key:wpAny (model pw w) A (execs (if b then body else orelse) env) (λf s'=>match f with | .next=>wpAny (model pw w) A (execs rest env) Q E s' | f=>Q f s') E s1:=
   hx B1 O1 X m1 cm1 s1 _ E F1 R1 ⟨λfl σ' f s' B' O' m' cm' p r l F' R'=>by
    cases r with
    | next=>exact p B' O' X m' cm' s' Q E F' R' (q.mono (l1.trans l))
    | brk=>exact q.go .brk σ' _ s' B' O' m' cm' p .brk (l1.trans l) F' R'
    | cont=>exact q.go .cont σ' _ s' B' O' m' cm' p .cont (l1.trans l) F' R'
    | ret V=>exact q.go (.ret _) σ' _ s' B' O' m' cm' p (.ret V) (l1.trans l) F' R',λcls args σ' e s' B' Z O' m' cm' p r l F' R'=>q.out cls args σ' e s' B' Z O' m' cm' p r (l1.trans l) F' R'⟩
  cases b with
  | true=>rw [if_pos rfl] at key ⊢; exact key
  | false=>rw [if_neg Bool.false_ne_true] at key ⊢; exact key))
theorem ExE.whileH {test:Expr}{body:List Stmt}(J:Nat->Sg->Prop)(n:Nat)(pos:Pos)(h0J:J n σ)
  (turn:∀ i σ1,J i σ1->TsH w A h0 env os σ1 test (λb σ2=>if b then ExE w A h0 env os σ2 body (bB7 w A h0 env os (λσ3=>∃ j,j<i/\J j σ3) rest P) else ExE w A h0 env os σ2 rest P)):ExE w A h0 env os σ (.While test body [] pos::rest) P:=
 ExE.whileX J n pos h0J λi σ1 hJ=>(turn i σ1 hJ).mono λb σ2 h=>by
  cases b with
  | true=>exact h
  | false=>exact ExE.nil h
end
section
variable {prog:Program}{w:World}{A:Around}{E:VP}{s:Shared}
theorem cC3 {t:Addr}{o:Obj}{vs:List Value}{n:Nat}{Q:List Value->Shared->Prop}(ho:s.heap.get? t=some o)(hc:o.cls= .type "tuple")(hd:o.data= .seq vs.toArray n)(hz:vs.length<=1000)
  (h:Q vs { s with heap:=(s.heap.push (seqObj "list" #[] 0)).update s.heap.objs.size (Obj.mapSeq (· ++vs.toArray)) }):wpAny (model prog w) A (collect (.ref t)) Q E s:=by
 have hsl:sizeLine=16777216:=by decide
 have h1:(s.heap.push (seqObj "list" #[] 0)).get? t=some o:=Heap.get?_push_of_some _ ho
 have h2:(s.heap.push (seqObj "list" #[] 0)).get? s.heap.objs.size=some (seqObj "list" #[] 0):=Heap.get?_push_size _ rfl
 have grow:∀ (A:Around) (E:VP),wpAny (model prog w) A (Builtin.List.listExtendWith (.ref s.heap.objs.size) (.ref t) (.ref s.heap.objs.size)) (λfin s'=>fin= .done (.ret (.ref s.heap.objs.size))/\s'={ s with heap:=(s.heap.push (seqObj "list" #[] 0)).update s.heap.objs.size (Obj.mapSeq (· ++vs.toArray)) }) E { s with heap:=s.heap.push (seqObj "list" #[] 0) }:=λA E=>by
  unfold Builtin.List.listExtendWith
  refine wpAny_bind (wpAny_typeOf (T:= "tuple") ⟨o,h1,hc⟩ ?_)
  rw [if_pos (by rw [show (Value.type "tuple" == Value.type "tuple")=true from rfl,Bool.or_true])]
  refine wpAny_bind (listItems_at h1 hd (wpAny_bind (listItems_at h2 rfl ?_)))
  rw [if_neg (by simp)]
  exact wpAny_bind (listUpdate_at h2 rfl (wpAny_pure ⟨rfl,rfl⟩) (Nat.zero_le _) (by simp; room))
 unfold collect
 refine wpAny_bind (wpAny_runValue (codeAny_builtin entry_proto_collect' ?_))
 show wpAny _ _ (newList [] >>= λv=>again (.builtin "list.__iadd__" ⟨[v, .ref t],[]⟩)) _ _ s
 refine wpAny_bind (wpAny_newList (wpAny_pure ⟨Code.quiet_builtin _ (by decide +kernel),codeAny_builtin entry_list_iadd' ?_⟩))
 show wpAny _ _ (Builtin.List.listExtendWith (.ref s.heap.objs.size) (.ref t) (.ref s.heap.objs.size)) _ _ { s with heap:=s.heap.push (seqObj "list" #[] 0) }
 refine wpAny_mono (grow _ _) (λfin s' hf=> ?_) λ_ _ e=>e
 refine aB hf λz1z z2z=> ?_
 try clear hf
 subst z1z
 subst z2z
 show wpAny (model prog w) A (load s.heap.objs.size >>= _) Q E _
 refine wpAny_bind (wpAny_load (get?_update_seq h2 _) ?_)
 have e:((#[]:Array Value)++vs.toArray).toList=vs:=by simp
 show wpAny _ _ (pure ((#[]:Array Value)++vs.toArray).toList) Q E _
 rw [e]; exact wpAny_pure h
theorem bO4 {t:Addr}{o:Obj}{vs:List Value}{ns:List Int}{n:Nat}{Q:VP}(ho:s.heap.get? t=some o)(hc:o.cls= .type "tuple")(hd:o.data= .seq vs.toArray n)(hI:IntsAre vs ns)(h64:vs.length<64)
  (h:∀ (out:Array Value) (ns':List Int),IntsAre out.toList ns'->ns'.Perm ns->ns'.Pairwise (· <= ·)->Q (.ref (s.heap.objs.size+1)) { s with heap:=sortedAll s.heap vs out }):
  wpAny (model prog w) A (call (.builtin "sorted") [.ref t]) Q E s:=by
 have hz:((s.heap.push (seqObj "list" #[] 0)).update s.heap.objs.size (Obj.mapSeq (· ++vs.toArray))).objs.size=s.heap.objs.size+1:=by rw [Heap.size_update,size_push']
 refine Calls.call_function_entry kind_sorted plain_sorted entry_sorted (args_sorted1 _) ?_
 unfold Builtin.«sorted»
 refine wpAny_bind (m:=checkCount "sorted" 1 1 _) (wpAny_pure (wpAny_bind (cC3 ho hc hd (by room) (wpAny_bind (wpAny_newList ?_)))))
 have hl:(((s.heap.push (seqObj "list" #[] 0)).update s.heap.objs.size (Obj.mapSeq (· ++vs.toArray))).push (seqObj "list" vs.toArray 0)).get? (s.heap.objs.size+1)=some (seqObj "list" vs.toArray 0):=by
  rw [<- hz]; exact Heap.get?_push_size _ rfl
 dsimp only
 rw [hz]
 refine wpAny_bind (wpAny_holding (wpAny_call_entry slot_list_sort ⟨_,hl,rfl⟩ entry_list_sort (list_sort_tree hl hI h64 λout ns' a1 a2 a3=>⟨_,rfl, ?_⟩) (args_list_sort _)))
 exact wpAny_pure ⟨_,rfl,h out ns' a1 a2 a3⟩
end
theorem bK2 {a b:List Int}(p:a.Perm b)(ha:a.Pairwise (· <= ·))(hb:b.Pairwise (· <= ·)):a=b:=
 p.eq_of_pairwise (λx y _ _ h1 h2=>Int.le_antisymm h1 h2) ha hb
theorem IntsAre.vals {B:PM}{vs:List Value}{ns:List Int}(h:IntsAre vs ns):aA6 B vs (ns.map T.int):=by
 induction h with
 | nil=>exact .nil
 | cons _ t h ih=>exact .cons (.int _ t) ih
section
variable {w:World}{A:Around}{h0:aA8}{env:Env}{os:OsState}{σ:Sg}{PV:Rs->Sg->Prop}
theorem EvH.sorted {e:Expr}(np pos:Pos)(W:Own env)(hk:env.kindOf (u "sorted")=some .globalImplicit)(hs:backTo pos (starEach [e] env)=[(false,eval e env)])
  (he:EvH w A h0 env os σ e (λr σ'=>∃ ns ns':List Int,r= .val (.tup (ns.map T.int))/\ns.length<64/\ns'.Perm ns/\ns'.Pairwise (· <= ·)/\PV (.val (.list (ns'.map T.int))) σ')):EvH w A h0 env os σ (.Call (.Name (u "sorted") np) [e] [] pos) PV:=λB O X m cm s Q E F R q=>
 wpAny_Call_NameR (aJ0 (v:= .builtin "sorted") W F hk (by lk) (by lk) (by
  rw [hs]
  refine callWith_builtin rfl (Calls.evalArgs_plain (Calls.spliced_cons (he B O X m cm s _ E F R ⟨λt σ' v s1 B1 O1 m1 cm1 p V l1 F1 R1=>Calls.spliced_nil ?_,λcls args σ' e s' B' Z O' m' cm' p=> ?_⟩)))
  ·refine bL3 p λns ns' hr h64 hp hpw hPV=> ?_
   try clear p
   cases hr
   cases V with
   | @tup a o vs ts hB hT Vs=>
    refine aB hT λhc h9=>aA3 h9 λn hd=> ?_
    try clear hT
    have hl:vs.length=ns.length:=by rw [Vs.length,List.length_map]
    refine bO4 (F1.sub _ _ hB) hc hd Vs.ints (by room) λout ns2 a1 a2 a3=> ?_
    have e2:ns2=ns':=bK2 (a2.trans hp.symm) a3 hpw
    subst e2
    refine aA3 (sortedAll_at s1.heap vs out) λep hat=> ?_
    have F2:=F1.grow (h':=sortedAll s1.heap vs out) (λ_ _ e=>sortedAll_old e) s1.toks
    obtain ⟨n1,n2,n3,n4,n5⟩:=F1.nobody (a:=s1.heap.objs.size+1) (by
     cases e:s1.heap.get? (s1.heap.objs.size+1) with
     | none=>rfl
     | some o=>exact absurd (Heap.lt_size e) (Nat.not_lt.mpr (Nat.le_succ _)))
    have F3:=F2.know hat n1 n2 n3 n4 n5
    have l3:=PM.le_put (seqObj "list" out ep) n1
    exact q.go _ _ _ _ _ _ _ _ hPV (.list (PM.put_self ..) ⟨rfl,ep,by simp [seqObj]⟩ rfl (IntsAre.vals a1)) (l1.trans l3) F3 (R1.mono l3)
  ·obtain ⟨ns,ns',hr,_⟩:=p; cases hr) (by decide))
end
noncomputable def EvK (w:World)(A:Around)(h0:aA8)(env:Env)(os:OsState)(σ:Sg)(e:Expr)(P:T->Sg->Prop):Prop:=
 ∀ (B:PM) (O X:OL) (m cm:NM) (s:Shared) (Q:VP) (E:VP),Fm w h0 env B (O++X) m cm os s->Rl env σ B O m cm->
  (∀ t σ' v s' B' O',P t σ'->Val B' v t->B.le B'->Fm w h0 env B' (O'++X) m cm os s'->Rl env σ' B' O' m cm->Q v s')->wpAny (model pw w) A (eval e env) Q E s
section
variable {w:World}{A:Around}{h0:aA8}{env:Env}{os:OsState}{σ:Sg}
theorem EvK.callF {n:Nat}{f:Str}{a:Addr}{o:Obj}{fd:FuncData}{e:Expr}{es:List Expr}{as:List T}{P:T->Sg->Prop}(np pos:Pos)(W:Own env)(Fa:Frm A σ.hp)(RA:aD6 n A)(hk:env.kindOf f=some .globalImplicit)(hv:mgm w.params f=some (.ref a))(hd:(f == ("__debug__" :Str))=false)
  (ho:(H1 w.params).get? a=some o) (hdat:o.data= .func fd) (hs:backTo pos (starEach (e::es) env)=(e::es).map λe=>(false,eval e env)) (hst:starEach (e::es) env=(false,eval e env)::starEach es env)
  (he:aC4 w A h0 env os σ (e::es) as) (hf:FnH w os n a as σ.hp (λr hp'=>∃ t,r= .val t/\(aA4 σ.hp hp'->P t ⟨σ.fz,σ.ow,hp'⟩))):EvK w A h0 env os σ (.Call (.Name f np) (e::es) [] pos) P:=λB O X m cm s Q E F R q=>
 wpAny_Call_NameR (aQ7 W F hk hv (callWith_def hdat (by
  rw [hs]
  refine aE4 he B (O++X) m cm s _ E F (R.rel X) λvs s1 B1 l1 F1 V1=>⟨F1.sub _ _ (F1.gl _ _ ho), ?_⟩
  have R1:=R.mono l1
  refine aB0 R1.ow λO1 Y z1z ro hh=> ?_
  subst z1z
  have inY:∀ {p},p∈Y->p∈(O1++Y)++X:=λh=>List.mem_append.mpr (.inl (List.mem_append.mpr (.inr h)))
  have nod:=F1.nod
  have nodY:(Y.map (·.1)).Nodup:=by
   rw [List.map_append,List.map_append,List.nodup_append,List.nodup_append] at nod
   exact nod.1.2.1
  have hY:Yh B1 Y s1:=⟨λp hp=>F1.opn p (inY hp),λp hp=>(F1.offO p (inY hp)).1,nodY⟩
  refine wpAny_call (hf A B1 _ s1 vs _ RA Fa F1.sub F1.gl hY hh F1.gens F1.oss V1 (λt v s' B' Y' hp' p k G hps Vt=> ?_) λcls args e s' B' Y' Z hp' p k G hps fly=>by obtain ⟨t,h,_⟩:=p; cases h)
  refine aA1 p λt' h p=> ?_
  cases h
  refine q t _ v s' B' (O1++Y') (p k) Vt (l1.trans G.le) ((F1.calledK G).perm ?_) ⟨fzm R1.fz G.le,O1,_,rfl,ro.mono G.le,hps⟩
  rw [<- List.append_assoc]
  exact (List.perm_append_comm).append_right _) hst) hd)
theorem bO5 {elt target iter:Expr}{scope:Scope}{pos:Pos}{it D:Addr}{ts:List T}{f:T->T}{I:Nat->Obj->Prop}{B1:PM}{O1 X:OL}{m cm:NM}{s:Shared}{o oD:Obj}{RR:Result->Shared->Prop}(J:Nat->Sg->Prop)
  (S:bJ w A h0 env os B1 ts (λ_=>True) I) (hlo:∀ v,letOwnedTupleGo target (.ref it) v=pure ()) (hsz:ts.length<=sizeLine)
  (turn:∀ i t σ,ts[i]? =some t->J i σ->∃ σ2,aF6 w A h0 env os target (λcm'=>cm'=cm) σ t σ2/\EvK w A h0 env os σ2 elt (λt' σ3=>t'=f t/\J (i+1) σ3))
  (F:Fm w h0 env B1 (O1++(it,o)::(D,oD)::X) m cm os s) (R:Rl env σ B1 O1 m cm) (J0:J 0 σ) (I0:I 0 o) (hD:isO oD [])
  (fin:∀ B' O' oD' vs m' σ' s',B1.le B'->J ts.length σ'->Rl env σ' B' O' m' cm->isO oD' vs->aA6 B' vs (ts.map f)->Fm w h0 env B' (O'++(D,oD')::X) m' cm os s'->RR (.ok .next) s'):
  codeAny (model pw w) A (.compLoop (.ListComp elt [⟨target,iter,[],0⟩] scope pos) 0 (.ref it) (.ref D) env) RR s:=by
 let Iv:Nat->Shared->Prop:=λn s=>∃ i B' O' m' o' oD' vs σ',n=ts.length - i/\i<=ts.length/\B1.le B'/\J i σ'/\Rl env σ' B' O' m' cm/\Fm w h0 env B' (O'++(it,o')::(D,oD')::X) m' cm os s/\I i o'/\isO oD' vs/\aA6 B' vs ((ts.take i).map f)
 refine codeAny_compLoop_list Iv (λn s hI=> ?_) (ts.length - 0) ⟨0,B1,O1,m,o,oD,[],σ,rfl,Nat.zero_le _, .refl _,J0,R,F,I0,hD, .nil⟩ hlo
 refine dG3 hI λi B2 O2 m2 o2 oD2 vs2 σ2 z1z hi l2 hJ R2 F2 I2 iD V2=> ?_
 try clear hI
 subst z1z
 cases ht:ts[i]? with
 | none=>
  have hlen:i=ts.length:=by rw [List.getElem?_eq_none_iff] at ht; room
  refine S.stop B2 O2 ((D,oD2)::X) m2 cm s it o2 i σ2 _ _ l2 trivial R2 F2 I2 ht λs' F'=> ?_
  rw [hlen,List.take_length] at V2
  exact fin B2 O2 oD2 vs2 m2 σ2 s' l2 (hlen ▸ hJ) R2 iD V2 F'
 | some t=>
  have hlt:i<ts.length:=by rw [List.getElem?_eq_some_iff] at ht; exact ht.1
  refine aA1 (turn i t σ2 ht hJ) λσ3 hb hel=> ?_
  refine S.next B2 O2 ((D,oD2)::X) m2 cm s it o2 i t σ2 _ _ l2 trivial R2 F2 I2 ht λv s' o3 I3 F3 V3=> ?_
  refine hb B2 O2 ((it,o3)::(D,oD2)::X) m2 cm s' v _ _ rfl F3 R2 V3 λs4 m4 cm4 K4 F4 R4=> ?_
  subst K4
  refine hel B2 O2 ((it,o3)::(D,oD2)::X) m4 cm4 s4 _ _ F4 R4 λt' σ4 y s6 B6 O6 ⟨he,hJ4⟩ Vy l6 F6 R6=> ?_
  subst he
  have tk:(ts.take (i+1)).map f=(ts.take i).map f++[f t]:=by rw [List.take_add_one,ht,List.map_append]; rfl
  refine aT6 F6 iD (V2.mono l6) Vy (N:=ts.length) (by rw [List.length_map,List.length_take]; room) hsz λs7 oD7 iD7 V7 F7=> ?_
  refine ⟨ts.length - (i+1),by room,i+1,B6,O6,m4,o3,_,vs2++[y],σ4,rfl,hlt,l2.trans l6,hJ4,R6,F7,I3,iD7, ?_⟩
  rw [tk]
  exact V7
end
section
variable {w:World}{A:Around}{h0:aA8}{env env':Env}{os:OsState}{σ:Sg}{B B':PM}{O O':OL}{m cm m' cm':NM}{s s':Shared}
theorem bK3 {oL:Obj}{sl:Array (Option Value)}(F:Fm w h0 env B O m cm os s)(hL:s.heap.get? env.locals=some oL)(hcl:∀ x c,env.cells.lookup x=some c->env'.cells.lookup x=some c)
  (G:Fm w h0 env' B' ((env.locals,{ oL with slots:=sl })::O') m' cm' os s') (hcm:∀ x c,env.cells.lookup x=some c->cm' x=cm x):∃ oC,s'.heap.get? env'.locals=some oC/\Fm w h0 env B' ((env'.locals,oC)::O') m cm os s':=by
 refine aA3 (aK3 G.ns) λoC hC=> ?_
 have nod:=G.nod
 rw [List.map_cons,List.nodup_cons] at nod
 refine ⟨oC,hC, ?_,λx c e=> ?_,G.old,G.sub,λp hp=> ?_,⟨(G.offO _ (.head _)).1,F.offL.2⟩,λx c e=>⟨(G.offC x c (hcl x c e)).1,(F.offC x c e).2⟩,F.cinj,λp hp=> ?_, ?_,G.gl,G.gens,G.oss,G.nw⟩
 ·refine aM6 F.ns λo es ep ho hd r=> ?_
  rw [hL] at ho; cases ho
  exact ⟨_,es,ep,G.opn _ (.head _),hd,r⟩
 ·have:=G.cel x c (hcl x c e)
  rw [hcm x c e] at this
  exact this
 ·rcases List.mem_cons.mp hp with rfl | hp
  ·exact hC
  ·exact G.opn p (.tail _ hp)
 ·rcases List.mem_cons.mp hp with rfl | hp
  ·exact ⟨G.offL.1,G.offL.2,(G.offO _ (.head _)).2.2.1.symm,λx c e=>(G.offC x c (hcl x c e)).2⟩
  ·refine aO7 (G.offO p (.tail _ hp)) λa1 a2 a3 a4=> ?_
   exact ⟨a1,a2,λz=>nod.1 (z ▸ List.mem_map_of_mem (f:=(·.1)) hp),λx c e=>a4 x c (hcl x c e)⟩
 ·rw [List.map_cons,List.nodup_cons]
  refine ⟨λh=> ?_,nod.2⟩
  refine aA1 (List.mem_map.mp h) λp hp z=> ?_
  exact (G.offO p (.tail _ hp)).2.2.1 z
end
section
variable {w:World}{A:Around}{h0:aA8}{env:Env}{os:OsState}{σ:Sg}{PV:Rs->Sg->Prop}{scope:Scope}{cl:List (Str×Addr)}{L:List Str}
theorem EvH.compH {elt target iter:Expr}{ts:List T}{f:T->T}(J:Obj->Nat->Sg->Prop)(pos:Pos)(c:aK0 scope env cl [] L)(hcf:∀ x c,env.cells.lookup x=some c->h0.h c=none)(how:σ.ow=[])
  (hi:ItC w A h0 env os σ iter ts (λ_=>True)) (hlo:∀ it v,letOwnedTupleGo target it v=pure ()) (hfs:∀ x,foldedSetIterable iter env x=pure x) (hsz:ts.length<=sizeLine)
  (hJ:∀ oL i σ',J oL i σ'->σ'.hp env.locals=some (.same oL)) (J0:∀ oL,(∀ vs,oL.data≠ .fields vs)->σ.hp env.locals=none->J oL 0 ⟨λx=>if L.contains x then σ.fz x else none,[],σ.hp.put env.locals (.same oL)⟩)
  (turn:∀ Cm cm oL i t σ',(∀ vs,oL.data≠ .fields vs)->ts[i]? =some t->J oL i σ'->∃ σ2,aF6 w A h0 (compEnvC scope cl Cm env) os target (λcm'=>cm'=cm) σ' t σ2/\EvK w A h0 (compEnvC scope cl Cm env) os σ2 elt (λt' σ3=>t'=f t/\J oL (i+1) σ3))
  (fin:∀ oL σ',J oL ts.length σ'->PV (.val (.list (ts.map f))) ⟨σ.fz,[],σ'.hp.del env.locals⟩):EvH w A h0 env os σ (.ListComp elt [⟨target,iter,[],0⟩] scope pos) PV:=λB O X m cm s Q E F R q=>by
 rw [eval_ListComp]
 refine wpAny_comprehension_free (use:=none) rfl hfs c.clos c.kind c.names (hi B (O++X) m cm s _ E F (R.rel X) λit o s1 B1 I l1 F1 S I0 self=> ?_)
 have R1:=R.mono l1
 refine aB0 R1.ow λO1 Y hO ro hh=> ?_
 rw [how] at ro
 cases ro
 have hO:O=Y:=hO
 subst hO
 refine wpAny_newObj_type (hd:=by size_fits) (wpAny_newFunctionEnv c.nocell (by intro y hy; simp at hy) (λh₁ hns₁ hsb₁=> ?_) c.kind)
 dsimp only at hns₁ hsb₁ ⊢
 have F2:Fm w h0 env B1 ((s1.heap.objs.size,{ cls:= .type "list",dict:=none,data:= .seq ([]:List Value).toArray })::(it,o)::(O++X)) m cm os { s1 with heap:=s1.heap.push { cls:= .type "list",dict:=none,data:= .seq ([]:List Value).toArray },toks:=s1.toks }:=F1.pushO rfl s1.toks
 generalize hH2:s1.heap.push { cls:= .type "list",dict:=none,data:= .seq ([]:List Value).toArray }=H2 at hns₁ hsb₁ F2 ⊢
 refine aM6 F2.ns λoL es ep hL hdL _=> ?_
 have hnf:∀ vs,oL.data≠ .fields vs:=λvs z=>by rw [hdL] at z; cases z
 have hpL:σ.hp env.locals=none:=by
  cases e:σ.hp env.locals with
  | none=>rfl
  | some b=>
   refine aA1 (hh _ _ e) λo' hm _=> ?_
   exact absurd rfl (F1.offO _ (.tail _ (List.mem_append.mpr (.inl hm)))).2.2.1
 have hCn:H2.get? H2.objs.size=none:=aA7
 have ke:∀ a o,H2.get? a=some o->h₁.get? a=some o:=λa o e=>hsb₁.extBut a o (Nat.ne_of_lt (Heap.lt_size e)) (Heap.get?_push_of_some _ e)
 have F3:=aP8 (scope:=scope) (cl:=cl) (C:=H2.objs.size) (h1:=h₁) (PO:=[]) (tk:=s1.toks+([]:List (Str×Value)).length) F2 c.cls rfl (λp hp=>absurd hp List.not_mem_nil) hL hCn hcf hns₁ ke
 have F4:Fm w h0 (compEnvC scope cl H2.objs.size env) B1 (((env.locals,oL)::O)++(it,o)::(s1.heap.objs.size,{ cls:= .type "list",dict:=none,data:= .seq ([]:List Value).toArray })::X) (λ_=>none) (λx=>if (cl.lookup x).isSome then cm x else none) os { s1 with heap:=h₁,toks:=s1.toks+([]:List (Str×Value)).length }:=F3.perm (by
  refine List.Perm.cons _ ?_
  refine (List.Perm.swap _ _ _).trans ?_
  refine (List.Perm.cons _ (List.perm_middle (l₁:=O)).symm).trans ?_
  exact (List.perm_middle (l₁:=O)).symm)
 have R4:Rl (compEnvC scope cl H2.objs.size env) ⟨λx=>if L.contains x then σ.fz x else none,[],σ.hp.put env.locals (.same oL)⟩ B1 ((env.locals,oL)::O) (λ_=>none) (λx=>if (cl.lookup x).isSome then cm x else none):=by
  refine ⟨λx t e=> ?_,[],_,rfl, .nil,hh.new ⟨oL.slots,rfl⟩⟩
  dsimp only at e
  split at e
  ·rename_i hx
   obtain ⟨a1,a2,a3⟩:=c.seen x (by simpa using hx)
   refine aA1 (R1.fz x t e) λv hv V=> ?_
   refine ⟨v, ?_,V⟩
   have e1:aB7 env m cm x=cm x:=by unfold aB7; rw [a2]
   have a3:Env.kindOf (compEnvC scope cl H2.objs.size env) x=some .cell:=a3
   unfold aB7
   rw [a3]
   show (if (cl.lookup x).isSome then cm x else none)=some v
   rw [if_pos a1,<-e1]; exact hv
  ·cases e
 have loop:codeAny (model pw w) A (.compLoop (.ListComp elt [⟨target,iter,[],0⟩] scope pos) 0 (.ref it) (.ref s1.heap.objs.size) (compEnvC scope cl H2.objs.size env)) (compPost (model pw w) A E none Q (.ref s1.heap.objs.size) H2.objs.size) { s1 with heap:=h₁,toks:=s1.toks+([]:List (Str×Value)).length }:=by
  refine bO5 (J oL) (S _) (hlo _) hsz (turn _ _ oL · · · hnf) F4 R4 (J0 oL hnf hpL) I0 ⟨_,rfl⟩ λB' O' oD' vs m' σ' s' l hJe R' iD V F5=> ?_
  refine aB0 R'.ow λOa Y' z1z ro' hh'=> ?_
  subst z1z
  refine aA1 (hh' _ _ (hJ _ _ _ hJe)) λoL' hm h9=>aA3 h9 λsl z1z=> ?_
  subst z1z
  refine bD5 (List.append_of_mem hm) λY1 Y2 z1z=> ?_
  subst z1z
  have F6:Fm w h0 (compEnvC scope cl H2.objs.size env) B' ((env.locals,{ oL with slots:=sl })::((s1.heap.objs.size,oD')::((Oa++(Y1++Y2))++X))) m' (λx=>if (cl.lookup x).isSome then cm x else none) os s':=F5.perm (by
   have e:(Oa++(Y1++(env.locals,({ oL with slots:=sl }:Obj))::Y2))++(s1.heap.objs.size,oD')::X=(Oa++Y1)++(env.locals,({ oL with slots:=sl }:Obj))::(Y2++(s1.heap.objs.size,oD')::X):=by simp
   rw [e]
   refine List.perm_middle.trans (List.Perm.cons _ ?_)
   have e2:(Oa++Y1)++(Y2++(s1.heap.objs.size,oD')::X)=(Oa++(Y1++Y2))++(s1.heap.objs.size,oD')::X:=by simp
   rw [e2]
   exact List.perm_middle)
  obtain ⟨oC,hoC,F7⟩:=bK3 (s:={ s1 with heap:=H2,toks:=s1.toks }) F2 hL (λx c' e=>by
   rcases c.cls.all x c' e with h | h
   ·exact h
   ·exact absurd h List.not_mem_nil) F6 (λx c' e=>by
   rcases c.cls.all x c' e with h | h
   ·show (if (cl.lookup x).isSome then cm x else none)=cm x
    rw [h]; rfl
   ·exact absurd h List.not_mem_nil)
  refine ⟨m',F6.ns,λh' hsb=> ?_⟩
  have F8:Fm w h0 env B' ([]++(s1.heap.objs.size,oD')::((Oa++(Y1++Y2))++X)) m cm os { s' with heap:=h',toks:=s'.toks }:=Fm.drop (O:=[]) F7 hsb.extBut s'.toks
  have F9:=F8.freeze
  have ld:B'.le (B'.put s1.heap.objs.size oD'):=PM.le_put oD' (F8.offO (s1.heap.objs.size,oD') (.head _)).1
  refine q.go _ _ _ _ _ (Oa++(Y1++Y2)) m cm (fin oL σ' hJe) (.list (PM.put_self ..) iD.isL ?_ (V.mono ld)) ((l1.trans l).trans ld) F9 ⟨fzm R.fz ((l1.trans l).trans ld),[],_,rfl, .nil,λb ob e=> ?_⟩
  ·refine aA3 iD λn z1z=> ?_
   try clear iD
   subst z1z
   rfl
  ·unfold Hp.del at e
   dsimp only at e
   split at e
   ·cases e
   ·rename_i ne
    refine aA1 (hh' b ob e) λox hx hb=> ?_
    refine ⟨ox,List.mem_append.mpr (.inr ?_),ob.mono _ _ _ ld hb⟩
    rcases List.mem_append.mp hx with h | h
    ·exact List.mem_append.mpr (.inl h)
    ·rcases List.mem_cons.mp h with h | h
     ·cases h; exact absurd rfl ne
     ·exact List.mem_append.mpr (.inr h)
 exact codeAny_compStart_list loop (self _ _ _ (F4.opn _ (List.mem_append.mpr (.inr (.head _)))) loop)
theorem EvH.tupLast {es:List Expr}{e:Expr}{ts:List T}(n:Nat)(pos:Pos)(hes:aC4 w A h0 env os σ es ts)(hs:backTo pos (starEach (es++[e]) env)=(es.map λe=>(false,eval e env))++[(false,eval e env)])(hz:ts.length+1<=1000)
  (he:EvH w A h0 env os σ e (λr σ'=>∃ t,r= .val t/\PV (.val (.tup (ts++[t]))) σ')):EvH w A h0 env os σ (.Tuple (es++[e]) n pos) PV:=λB O X m cm s Q E F R q=>by
 have hsl:sizeLine=16777216:=by decide
 refine wpAny_Tuple ?_
 rw [hs]
 refine bB6 hes B (O++X) m cm s _ E F (R.rel X) λvs s1 B1 l1 F1 V1=> ?_
 refine Calls.spliced_cons (he B1 O X m cm s1 _ E F1 (R.mono l1) ⟨λt σ' v s2 B2 O2 m2 cm2 ⟨t',ht,p⟩ V2 l2 F2 R2=> ?_,λcls args σ' e s' B' Z O' m' cm' ⟨t',ht,p⟩=>by cases ht⟩)
 cases ht
 refine Calls.spliced_nil ⟨by rw [List.length_append,V1.length]; simp; room, ?_⟩
 have F3:=F2.push (o:={ cls:= .type "tuple",data:= .seq (vs++[v]).toArray }) rfl s2.toks
 have l3:=PM.le_put ({ cls:= .type "tuple",data:= .seq (vs++[v]).toArray }:Obj) F2.none_of_fresh
 exact q.go _ _ _ _ _ O2 m2 cm2 p (.tup (PM.put_self ..) ⟨rfl,_,rfl⟩ (((V1.mono l2).append (.cons V2 .nil)).mono l3)) ((l1.trans l2).trans l3) F3 (R2.mono l3)
end
noncomputable def r8:List Int:=[0,1,2,3,4,5,6,7]
theorem aG3 {a:Int}:a∈r8↔0<=a/\a<=7:=(bQ7 (n:=8)).trans (and_congr Iff.rfl (Int.lt_add_one_iff (a:=a) (b:=7)))
theorem bF8:r7.Nodup:=by decide
theorem aZ0:r8.Nodup:=by decide
noncomputable abbrev gl (gs:List Int)(a:Int):Int:=gs.getD a.toNat 0
noncomputable def pdX (gs:List Int)(v:Int):List Int:=if v=7 then r7 else aH8 gs v
noncomputable def scX (gs:List Int)(v:Int):List Int:=if v=7 then [] else if gl gs v=v\/gl gs v=7 then [7] else [7,gl gs v]
theorem bO6 (gs:List Int)(v:Int):(pdX gs v).Nodup:=by
 unfold pdX aH8
 split
 ·exact bF8
 ·exact bF8.filter _
theorem aE {gs:List Int}{v j:Int}:j∈pdX gs v↔(0<=j/\j<7)/\(v=7\/(j≠v/\gl gs j=v)):=by
 unfold pdX aH8
 by_cases h:v=7
 ·rw [if_pos h,aL6]; simp [h]
 ·rw [if_neg h,List.mem_filter,aL6]; simp [h]
theorem bF9 {gs:List Int}{v j:Int}(hj:0<=j/\j<7):v∈scX gs j↔j∈pdX gs v:=by
 have h7:j≠7:=by room
 rw [aE]
 unfold scX
 rw [if_neg h7]
 split
 ·rename_i h
  simp only [List.mem_singleton]
  constructor
  ·rintro rfl; exact ⟨hj, .inl rfl⟩
  ·rintro ⟨_,rfl | ⟨h1,h2⟩⟩
   ·rfl
   ·rcases h with h | h
    ·exact absurd (h.symm.trans h2) h1
    ·exact h2.symm.trans h
 ·rename_i h
  simp only [List.mem_cons,List.not_mem_nil,or_false]
  constructor
  ·rintro (rfl | rfl)
   ·exact ⟨hj, .inl rfl⟩
   ·exact ⟨hj, .inr ⟨λz=>h (.inl z.symm),rfl⟩⟩
  ·rintro ⟨_,rfl | ⟨h1,h2⟩⟩
   ·exact .inl rfl
   ·exact .inr h2.symm
theorem aU0 (gs:List Int)(v:Int):(scX gs v).Nodup:=by
 unfold scX
 split
 ·exact List.nodup_nil
 ·split
  ·simp
  ·rename_i h
   simp
   exact λz=>h (.inr z.symm)
theorem aL7 {gs:List Int}(G:aA9 gs){v j:Int}(hv:0<=v/\v<=7)(h:j∈scX gs v):0<=j/\j<=7:=by
 unfold scX at h
 split at h
 ·cases h
 ·rename_i h7
  split at h
  ·rw [List.mem_singleton.mp h]; decide
  ·rcases List.mem_cons.mp h with rfl | h
   ·decide
   ·rw [List.mem_singleton.mp h]
    exact G.rng _ (by room)
noncomputable def rmX (gs D:List Int)(v:Int):List Int:=(pdX gs v).filter λj=> !(D.any (· == j))
noncomputable def npX (gs D:List Int)(v:Int):Int:=if v∈D then -2 else if rmX gs D v=[] then -1 else (rmX gs D v).length
noncomputable def aZ1 (gs D:List Int):Int:=(r8.filter λv=>decide (npX gs D v<0)).length
noncomputable def aI9 (gs D:List Int)(k:Int):List Int:=(scX gs k).filter λj=>decide ((rmX gs D j).length=1)
noncomputable def stU (gs ns D:List Int):SD:=⟨ns,npX gs D,scX gs,some [],aZ1 gs D,D.length⟩
structure DOk (gs D:List Int):Prop where
 nod:D.Nodup
 rng:∀ x∈D,0<=x/\x<=7
 cl:∀ x∈D,∀ j∈pdX gs x,j∈D
theorem aG4 {gs D:List Int}{v j:Int}:j∈rmX gs D v↔j∈pdX gs v/\j∉D:=by
 unfold rmX
 rw [List.mem_filter]
 simp
 exact λ_=>⟨λh hj=>h j hj rfl,λh x hx e=>h (e ▸ hx)⟩
theorem bR0 (gs D:List Int)(v k:Int):rmX gs (D++[k]) v=(rmX gs D v).filter λj=>decide (j≠k):=by
 unfold rmX
 rw [List.filter_filter]
 congr 1
 funext j
 rw [List.any_append,Bool.not_or,Bool.and_comm]
 congr 1
 by_cases h:j=k
 ·subst h; simp
 ·have h':k≠j:=λz=>h z.symm
  simp [h,h']
theorem cS9 {gs D:List Int}{v k:Int}(h:k∉pdX gs v):rmX gs (D++[k]) v=rmX gs D v:=by
 rw [bR0]
 refine List.filter_eq_self.mpr λj hj=>decide_eq_true λz=>h (z ▸ (aG4.mp hj).1)
theorem cT {gs D:List Int}{v k:Int}(h:k∈pdX gs v)(hk:k∉D):(rmX gs (D++[k]) v).length+1=(rmX gs D v).length:=by
 have hm:k∈rmX gs D v:=aG4.mpr ⟨h,hk⟩
 have nd:(rmX gs D v).Nodup:=(bO6 gs v).filter _
 rw [bR0]
 have e:((rmX gs D v).filter λj=>decide (j≠k))=(rmX gs D v).erase k:=by
  rw [nd.erase_eq_filter]
  congr 1
  funext j
  by_cases h:j=k
  ·subst h; simp
  ·simp [h]
 rw [e,List.length_erase_of_mem hm]
 have:=List.length_pos_of_mem hm
 room
theorem DOk.snoc {gs D:List Int}{k:Int}(d:DOk gs D)(hk:0<=k/\k<=7)(hn:npX gs D k= -1):k∉D/\rmX gs D k=[]/\DOk gs (D++[k]):=by
 unfold npX at hn
 split at hn
 ·cases hn
 ·rename_i h
  split at hn
  ·rename_i h2
   refine ⟨h,h2, ?_,λx hx=> ?_,λx hx j hj=> ?_⟩
   ·rw [List.nodup_append]
    exact ⟨d.nod,by simp,λa ha b hb=>by rw [List.mem_singleton.mp hb]; exact λz=>h (z ▸ ha)⟩
   ·rcases List.mem_append.mp hx with hx | hx
    ·exact d.rng x hx
    ·rw [List.mem_singleton.mp hx]; exact hk
   ·rcases List.mem_append.mp hx with hx | hx
    ·exact List.mem_append.mpr (.inl (d.cl x hx j hj))
    ·rw [List.mem_singleton.mp hx] at hj
     by_cases hD:j∈D
     ·exact List.mem_append.mpr (.inl hD)
     ·have:j∈rmX gs D k:=aG4.mpr ⟨hj,hD⟩
      rw [h2] at this; cases this
  ·room
theorem aZ2 {l rl:List Int}{p p':Int->Bool}(hl:l.Nodup)(hr:rl.Nodup)(hs:∀ v∈rl,v∈l/\p v=false)(h:∀ v∈l,p' v=true↔p v=true\/v∈rl):(l.filter p').length=(l.filter p).length+rl.length:=by
 have pm:(l.filter p').Perm (l.filter p++rl):=by
  refine (List.perm_ext_iff_of_nodup (hl.filter _) ?_).mpr λv=> ?_
  ·rw [List.nodup_append]
   exact ⟨hl.filter _,hr,λa ha b hb z=>by
    have:=(List.mem_filter.mp ha).2
    rw [z,(hs b hb).2] at this; cases this⟩
  ·rw [List.mem_append,List.mem_filter,List.mem_filter]
   constructor
   ·intro w1w
    refine aB w1w λa b=> ?_
    try clear w1w
    rcases (h v a).mp b with c | c
    ·exact .inl ⟨a,c⟩
    ·exact .inr c
   ·rintro (⟨a,b⟩ | a)
    ·exact ⟨a,(h v a).mpr (.inl b)⟩
    ·exact ⟨(hs v a).1,(h v (hs v a).1).mpr (.inr a)⟩
 rw [pm.length_eq,List.length_append]
section
variable {gs D:List Int}{k:Int}
theorem aQ5 (d:DOk gs D)(hk:0<=k/\k<=7)(hD:k∉D){j:Int}(hj:j∈scX gs k):j∉D/\j≠k/\npX gs D j=(rmX gs D j).length/\1<=(rmX gs D j).length/\(rmX gs (D++[k]) j).length+1=(rmX gs D j).length:=by
 have k7:0<=k/\k<7:=by
  refine ⟨hk.1, ?_⟩
  by_cases h:k=7
  ·rw [h] at hj; unfold scX at hj; rw [if_pos rfl] at hj; cases hj
  ·room
 have hp:k∈pdX gs j:=(bF9 k7).mp hj
 have h1:j∉D:=λh=>hD (d.cl j h k hp)
 have h2:j≠k:=λz=>by
  rw [z] at hp
  rcases (aE.mp hp).2 with h | h
  ·room
  ·exact h.1 rfl
 have hl:=cT hp hD
 refine ⟨h1,h2, ?_,by room,hl⟩
 unfold npX
 rw [if_neg h1,if_neg λz=>by rw [z] at hl; simp at hl]
theorem bR1 (d:DOk gs D)(hk:0<=k/\k<=7)(hn:npX gs D k= -1)(v:Int):
  npX gs (D++[k]) v=if v=k then -2 else if v∈scX gs k then (if (rmX gs D v).length=1 then -1 else npX gs D v - 1) else npX gs D v:=by
 refine aC5 (d.snoc hk hn) λhD hrm _=> ?_
 by_cases h1:v=k
 ·rw [if_pos h1]
  unfold npX
  rw [if_pos (by rw [h1]; simp)]
 ·rw [if_neg h1]
  by_cases h2:v∈scX gs k
  ·rw [if_pos h2]
   refine aL1 (aQ5 d hk hD h2) λa1 a2 a3 a4 a5=> ?_
   rw [a3]
   unfold npX
   rw [if_neg (by simp [a1,h1])]
   by_cases h3:(rmX gs D v).length=1
   ·rw [if_pos h3,if_pos (List.length_eq_zero_iff.mp (by room))]
   ·rw [if_neg h3,if_neg (λz=>by rw [z] at a5; simp at a5; room)]
    room
  ·rw [if_neg h2]
   have hk7:k∉pdX gs v:=λh=>h2 ((bF9 (aE.mp h).1).mpr h)
   unfold npX
   rw [cS9 hk7]
   have e:v∈D++[k]↔v∈D:=by simp [h1]
   by_cases h3:v∈D
   ·rw [if_pos h3,if_pos (e.mpr h3)]
   ·rw [if_neg h3,if_neg (λz=>h3 (e.mp z))]
theorem cC4 (G:aA9 gs)(d:DOk gs D)(hk:0<=k/\k<=7)(hn:npX gs D k= -1):aZ1 gs (D++[k])=aZ1 gs D+(aI9 gs D k).length:=by
 refine aC5 (d.snoc hk hn) λhD hrm _=> ?_
 unfold aZ1
 rw [aZ2 (p:=λv=>decide (npX gs D v<0)) (rl:=aI9 gs D k) aZ0 ((aU0 gs k).filter _) (λv hv=> ?_) (λv hv=> ?_)]
 ·push_cast; rfl
 ·refine aB (List.mem_filter.mp hv) λh1 h2=> ?_
  refine aL1 (aQ5 d hk hD h1) λa1 a2 a3 a4 a5=> ?_
  refine ⟨aG3.mpr (aL7 G hk h1),decide_eq_false ?_⟩
  room
 ·simp only [decide_eq_true_eq]
  rw [bR1 d hk hn v]
  unfold aI9
  rw [List.mem_filter,decide_eq_true_eq]
  by_cases h1:v=k
  ·rw [if_pos h1,h1,hn]; simp
  ·rw [if_neg h1]
   by_cases h2:v∈scX gs k
   ·rw [if_pos h2]
    refine aL1 (aQ5 d hk hD h2) λa1 a2 a3 a4 a5=> ?_
    by_cases h3:(rmX gs D v).length=1
    ·rw [if_pos h3]; simp [h2,h3]
    ·rw [if_neg h3]
     simp only [h2,h3,and_false,or_false]
     room
   ·rw [if_neg h2]; simp [h2]
end
theorem Srt.ext {hp:Hp}{a:Addr}{G:SA}{S S':SD}(h:Srt hp a G S)(hn:S'.nodes=S.nodes)(hnp:∀ k∈S.nodes,S'.np k=S.np k)(hs:∀ k∈S.nodes,S'.suc k=S.suc k)(hr:S'.rdy=S.rdy)(ho:S'.out=S.out)(hf:S'.fin=S.fin):Srt hp a G S':=by
 refine ⟨h.ins, ?_, ?_,λk hk=> ?_,λk hk=> ?_,λl hl=>h.rdy l (hr ▸ hl), ?_, ?_, ?_⟩
 ·rw [h.ns]; unfold aC3; rw [hr,ho,hf]
 ·rw [h.dct,hn]
 ·rw [hn] at hk; rw [h.inf k hk,hnp k hk]
 ·rw [hn] at hk; rw [h.sl k hk,hs k hk]
 ·rw [hn]; exact h.inj
 ·rw [hn,hr]; exact h.rne
 ·rw [hn]; exact h.nod
theorem aU1:∀ (l:List Int) (S:SD),l.Nodup->(∀ v,(l.foldl SD.decr S).np v=if v∈l then S.np v - 1 else S.np v)/\∀ r,S.rdy=some r->(l.foldl SD.decr S).rdy=some (r++l.filter λj=>decide (S.np j - 1=0))
 | [],S,_=>⟨λv=>by simp,λr hr=>by simpa using hr⟩
 | j::l,S,nd=>by
  have nd':=List.nodup_cons.mp nd
  refine aB (aU1 l (S.decr j) nd'.2) λh1 h2=> ?_
  have e:∀ v,(S.decr j).np v=if v=j then S.np j - 1 else S.np v:=λv=>rfl
  refine ⟨λv=> ?_,λr hr=> ?_⟩
  ·rw [List.foldl_cons,h1 v,e v]
   by_cases q:v=j
   ·subst q
    rw [if_neg nd'.1,if_pos rfl,if_pos (List.mem_cons_self)]
   ·rw [if_neg q]
    by_cases q2:v∈l
    ·rw [if_pos q2,if_pos (List.mem_cons_of_mem _ q2)]
    ·rw [if_neg q2,if_neg (by simp [q,q2])]
  ·have hc:l.filter (λi=>decide ((S.decr j).np i - 1=0))=l.filter λi=>decide (S.np i - 1=0):=by
    refine List.filter_congr λi hi=> ?_
    rw [e i,if_neg (show ¬i=j from λz=>nd'.1 (z ▸ hi))]
   rw [List.foldl_cons]
   by_cases q:S.np j - 1=0
   ·have hr':(S.decr j).rdy=some (r++[j]):=by
     show (if S.np j - 1=0 then S.rdy.map (· ++[j]) else S.rdy)=_
     rw [if_pos q,hr]; rfl
    rw [h2 _ hr',hc,List.filter_cons,if_pos (decide_eq_true q)]; simp
   ·have hr':(S.decr j).rdy=some r:=by
     show (if S.np j - 1=0 then S.rdy.map (· ++[j]) else S.rdy)=_
     rw [if_neg q,hr]
    rw [h2 _ hr',hc,List.filter_cons,if_neg (by simp [q])]
section
variable {gs ns D:List Int}{k:Int}
theorem cC5 (d:DOk gs D)(hk:0<=k/\k<=7)(hn:npX gs D k= -1):((stU gs ns D).done k).rdy=some (aI9 gs D k):=by
 refine aC5 (d.snoc hk hn) λhD _ _=> ?_
 have h:=(aU1 (scX gs k) ((stU gs ns D).started k) (aU0 gs k)).2 [] rfl
 show ((scX gs k).foldl SD.decr ((stU gs ns D).started k)).rdy=_
 rw [h,List.nil_append]
 unfold aI9
 congr 1
 refine List.filter_congr λj hj=> ?_
 refine aL1 (aQ5 d hk hD hj) λa1 a2 a3 a4 a5=> ?_
 have e:((stU gs ns D).started k).np j=npX gs D j:=if_neg a2
 rw [e,a3]
 by_cases q:(rmX gs D j).length=1
 ·rw [decide_eq_true q]; simp [q]
 ·rw [decide_eq_false q,decide_eq_false (by room)]
theorem bV2 (G:aA9 gs)(d:DOk gs D)(hk:0<=k/\k<=7)(hn:npX gs D k= -1){hp:Hp}{a:Addr}{SA':SA}(h:Srt hp a SA' (((stU gs ns D).done k).ready (aI9 gs D k))):Srt hp a SA' (stU gs ns (D++[k])):=by
 refine aC5 (d.snoc hk hn) λhD _ _=> ?_
 refine aO7 (aG2 (scX gs k) ((stU gs ns D).started k)) λk1 k2 k3 k4=> ?_
 have hnp:=(aU1 (scX gs k) ((stU gs ns D).started k) (aU0 gs k)).1
 have en:(((stU gs ns D).done k).ready (aI9 gs D k)).nodes=ns:=k1
 refine h.ext en.symm (λv hv=> ?_) (λv hv=> ?_) rfl ?_ ?_
 ·show npX gs (D++[k]) v=if v∈aI9 gs D k then -1 else ((scX gs k).foldl SD.decr ((stU gs ns D).started k)).np v
  rw [hnp v,bR1 d hk hn v]
  have e:((stU gs ns D).started k).np v=if v=k then -2 else npX gs D v:=rfl
  rw [e]
  by_cases h1:v=k
  ·have:v∉aI9 gs D k:=λz=>(aQ5 d hk hD (List.mem_filter.mp z).1).2.1 h1
   have h2:v∉scX gs k:=λz=>(aQ5 d hk hD z).2.1 h1
   rw [if_pos h1,if_neg this,if_neg h2,if_pos h1]
  ·rw [if_neg h1,if_neg h1]
   have em:v∈aI9 gs D k↔v∈scX gs k/\(rmX gs D v).length=1:=by unfold aI9; rw [List.mem_filter,decide_eq_true_eq]
   by_cases h2:v∈scX gs k
   ·rw [if_pos h2,if_pos h2]
    by_cases h3:(rmX gs D v).length=1
    ·rw [if_pos h3,if_pos (em.mpr ⟨h2,h3⟩)]
    ·rw [if_neg h3,if_neg λz=>h3 (em.mp z).2]
   ·rw [if_neg h2,if_neg h2,if_neg λz=>h2 (em.mp z).1]
 ·exact (congrFun k2 v).symm
 ·show aZ1 gs (D++[k])=((scX gs k).foldl SD.decr ((stU gs ns D).started k)).out+((aI9 gs D k).length:Int)
  rw [k3,cC4 G d hk hn]; rfl
 ·show ((D++[k]).length:Int)=((scX gs k).foldl SD.decr ((stU gs ns D).started k)).fin+1
  rw [k4,List.length_append]
  show ((D.length+1:Nat):Int)=(D.length:Int)+1
  room
end
noncomputable def npG (S:SD)(v:Int):Int:=if v∈S.nodes then S.np v else 0
noncomputable def scG (S:SD)(v:Int):List Int:=if v∈S.nodes then S.suc v else []
theorem aL8 (S:SD)(k v:Int):v∈(S.touch k).nodes↔v∈S.nodes\/v=k:=by
 by_cases h:k∈S.nodes
 ·rw [aN1 h]
  exact ⟨.inl,λz=>z.elim id λe=>e ▸ h⟩
 ·rw [aG1 h]; simp
theorem cC6 (S:SD)(k v:Int):npG (S.touch k) v=npG S v:=by
 by_cases h:k∈S.nodes
 ·rw [aN1 h]
 ·unfold npG
  by_cases e:v=k
  ·subst e
   rw [if_pos (aI0 S v),if_neg h,aG1 h]; exact aF _ _ _
  ·by_cases h2:v∈S.nodes
   ·rw [if_pos ((aL8 S k v).mpr (.inl h2)),if_pos h2,aG1 h]; exact aE5 _ e
   ·rw [if_neg h2,if_neg λz=>((aL8 S k v).mp z).elim h2 e]
theorem bO7 (S:SD)(k v:Int):scG (S.touch k) v=scG S v:=by
 by_cases h:k∈S.nodes
 ·rw [aN1 h]
 ·unfold scG
  by_cases e:v=k
  ·subst e
   rw [if_pos (aI0 S v),if_neg h,aG1 h]; exact aF _ _ _
  ·by_cases h2:v∈S.nodes
   ·rw [if_pos ((aL8 S k v).mpr (.inl h2)),if_pos h2,aG1 h]; exact aE5 _ e
   ·rw [if_neg h2,if_neg λz=>((aL8 S k v).mp z).elim h2 e]
theorem bG {S:SD}(k:Int)(h:S.nodes.Nodup):(S.touch k).nodes.Nodup:=by
 by_cases q:k∈S.nodes
 ·rw [aN1 q]; exact h
 ·rw [aG1 q]
  show (S.nodes++[k]).Nodup
  rw [List.nodup_append]
  exact ⟨h,by simp,λa ha b hb=>by rw [List.mem_singleton.mp hb]; exact λz=>q (z ▸ ha)⟩
structure dF (S S':SD)(k:Int)(ps:List Int):Prop where
 mem:∀ v,v∈S'.nodes↔v∈S.nodes\/v=k\/v∈ps
 np:∀ v,npG S' v=npG S v+if v=k then (ps.length:Int) else 0
 sc:∀ v,scG S' v=scG S v++if v∈ps then [k] else []
 nod:S.nodes.Nodup->S'.nodes.Nodup
 rdy:S'.rdy=S.rdy
 out:S'.out=S.out
 fin:S'.fin=S.fin
theorem aO4 (S:SD)(k:Int):(S.touch k).out=S.out/\(S.touch k).fin=S.fin:=by
 unfold SD.touch
 split<;>exact ⟨rfl,rfl⟩
theorem cM3 (S:SD)(k m:Int):∀ v,npG ((S.touch k).addNp k m) v=npG S v+if v=k then m else 0:=by
 intro v
 rw [<- cC6 S k v]
 unfold npG
 show (if v∈(S.touch k).nodes then upd (S.touch k).np k ((S.touch k).np k+m) v else 0)=_
 by_cases h:v∈(S.touch k).nodes
 ·rw [if_pos h,if_pos h]
  by_cases e:v=k
  ·subst e; rw [aF,if_pos rfl]
  ·rw [aE5 _ e,if_neg e,Int.add_zero]
 ·rw [if_neg h,if_neg h,if_neg (show ¬v=k from λe=>h (e ▸ aI0 S k))]; rfl
theorem cC7 (S:SD)(k:Int):dF S (S.add k []) k []:=by
 refine ⟨λv=> ?_,λv=>cM3 S k 0 v,λv=> ?_,λh=>bG k h,aK8 S k,(aO4 S k).1,(aO4 S k).2⟩
 ·rw [show (S.add k []).nodes=(S.touch k).nodes from rfl,aL8]; simp
 ·rw [if_neg List.not_mem_nil,List.append_nil]
  exact bO7 S k v
theorem bK4 (S:SD)(k p:Int):dF S (S.add k [p]) k [p]:=by
 have e:S.add k [p]=((((S.touch k).addNp k 1).touch p).addSuc p k):=rfl
 have hp:p∈(((S.touch k).addNp k 1).touch p).nodes:=aI0 _ _
 rw [e]
 refine ⟨λv=> ?_,λv=> ?_,λv=> ?_,λh=>bG p (bG k h), ?_, ?_, ?_⟩
 ·rw [show ((((S.touch k).addNp k 1).touch p).addSuc p k).nodes=(((S.touch k).addNp k 1).touch p).nodes from rfl,aL8,show ((S.touch k).addNp k 1).nodes=(S.touch k).nodes from rfl,aL8,List.mem_singleton,or_assoc]
 ·rw [show npG ((((S.touch k).addNp k 1).touch p).addSuc p k) v=npG (((S.touch k).addNp k 1).touch p) v from rfl,cC6,cM3]; rfl
 ·rw [show scG S v=scG (((S.touch k).addNp k 1).touch p) v by rw [bO7]; exact (bO7 S k v).symm]
  unfold scG
  show (if v∈(((S.touch k).addNp k 1).touch p).nodes then upd (((S.touch k).addNp k 1).touch p).suc p ((((S.touch k).addNp k 1).touch p).suc p++[k]) v else [])=_
  have em:v∈[p]↔v=p:=List.mem_singleton
  by_cases h:v∈(((S.touch k).addNp k 1).touch p).nodes
  ·rw [if_pos h,if_pos h]
   by_cases e:v=p
   ·rw [if_pos (em.mpr e),e,aF]
   ·rw [aE5 _ e,if_neg λz=>e (em.mp z),List.append_nil]
  ·rw [if_neg h,if_neg h,if_neg λz=>h (em.mp z ▸ hp)]; rfl
 ·rw [show ((((S.touch k).addNp k 1).touch p).addSuc p k).rdy=(((S.touch k).addNp k 1).touch p).rdy from rfl,aK8]; exact aK8 S k
 ·rw [show ((((S.touch k).addNp k 1).touch p).addSuc p k).out=(((S.touch k).addNp k 1).touch p).out from rfl,(aO4 _ _).1]; exact (aO4 S k).1
 ·rw [show ((((S.touch k).addNp k 1).touch p).addSuc p k).fin=(((S.touch k).addNp k 1).touch p).fin from rfl,(aO4 _ _).2]; exact (aO4 S k).2
noncomputable def aH9 (gs:List Int)(S:SD)(k:Int):SD:=
 if gl gs k != k && gl gs k != 7 then ((S.add k []).add 7 [k]).add (gl gs k) [k] else (S.add k []).add 7 [k]
noncomputable def aA (gs:List Int):Nat->SD
 | 0=>SD.zero
 | n+1=>aH9 gs (aA gs n) n
structure Bld (gs:List Int)(n:Nat)(S:SD):Prop where
 nod:S.nodes.Nodup
 mem:∀ v,v∈S.nodes↔∃ j:Int,0<=j/\j<n/\(v=j\/v∈scX gs j)
 np:∀ v,npG S v=((pdX gs v).filter λj=>decide (j<(n:Int))).length
 sc:∀ v,scG S v=if 0<=v/\v<n then scX gs v else []
 rdy:S.rdy=none
 out:S.out=0
 fin:S.fin=0
theorem cC8 {l:List Int}(nd:l.Nodup)(n:Nat):(l.filter λj=>decide (j<((n+1:Nat):Int))).length=(l.filter λj=>decide (j<(n:Int))).length+if (n:Int)∈l then 1 else 0:=by
 by_cases h:(n:Int)∈l
 ·rw [if_pos h]
  refine aZ2 (rl:=[(n:Int)]) nd (List.pairwise_singleton _ _) (λv hv=> ?_) (λv hv=> ?_)
  ·rw [List.mem_singleton.mp hv]; exact ⟨h,by simp⟩
  ·simp only [decide_eq_true_eq,List.mem_singleton]; room
 ·rw [if_neg h,Nat.add_zero]
  congr 1
  refine List.filter_congr λv hv=> ?_
  have:v≠n:=λz=>h (z ▸ hv)
  by_cases q:v<(n:Int)
  ·rw [decide_eq_true q,decide_eq_true (by room)]
  ·rw [decide_eq_false q,decide_eq_false (by room)]
theorem bld {gs:List Int}(G:aA9 gs):∀ n:Nat,n<=7->Bld gs n (aA gs n)
 | 0,_=>by
  refine ⟨List.nodup_nil,λv=> ?_,λv=> ?_,λv=> ?_,rfl,rfl,rfl⟩
  ·constructor
   ·intro h; cases h
   ·rintro ⟨j,h1,h2,_⟩; room
  ·have:(pdX gs v).filter (λj=>decide (j<((0:Nat):Int)))=[]:=by
    refine List.filter_eq_nil_iff.mpr λj hj=> ?_
    have:=(aE.mp hj).1
    simp; room
   rw [this]; rfl
  ·rw [if_neg (by room)]; rfl
 | n+1,hn=>by
  have b:=bld G n (by room)
  have A1:=cC7 (aA gs n) n
  have A2:=bK4 ((aA gs n).add n []) 7 n
  have A3:=bK4 (((aA gs n).add n []).add 7 [(n:Int)]) (gl gs n) n
  have n7:(n:Int)≠7:=by room
  have key:∀ S':SD,(∀ v,v∈S'.nodes↔v∈(aA gs n).nodes\/v=n\/v∈scX gs n)->(∀ v,npG S' v=npG (aA gs n) v+if v∈scX gs n then 1 else 0)->(∀ v,scG S' v=scG (aA gs n) v++if v=n then scX gs n else [])->S'.nodes.Nodup->S'.rdy=none->S'.out=0->S'.fin=0->Bld gs (n+1) S':=by
   intro S' h1 h2 h3 h4 h5 h6 h7
   refine ⟨h4,λv=> ?_,λv=> ?_,λv=> ?_,h5,h6,h7⟩
   ·rw [h1,b.mem]
    constructor
    ·rintro (⟨j,a1,a2,a3⟩ | h)
     ·exact ⟨j,a1,by room,a3⟩
     ·exact ⟨n,by room,by room,h⟩
    ·intro w1w
     refine aC8 w1w λj a1 a2 a3=> ?_
     try clear w1w
     by_cases e:j=n
     ·exact .inr (e ▸ a3)
     ·exact .inl ⟨j,a1,by room,a3⟩
   ·rw [h2,b.np,cC8 (bO6 gs v)]
    have e:v∈scX gs n↔(n:Int)∈pdX gs v:=bF9 (by room)
    by_cases q:(n:Int)∈pdX gs v
    ·rw [if_pos q,if_pos (e.mpr q)]; push_cast; rfl
    ·rw [if_neg q,if_neg λz=>q (e.mp z)]; simp
   ·rw [h3,b.sc]
    by_cases e:v=n
    ·rw [if_pos e,if_neg (by room),if_pos (by room),e]; rfl
    ·rw [if_neg e,List.append_nil]
     by_cases q:0<=v/\v<n
     ·rw [if_pos q,if_pos (by room)]
     ·rw [if_neg q,if_neg (by room)]
  show Bld gs (n+1) (aH9 gs (aA gs n) n)
  unfold aH9
  split
  ·rename_i h
   rw [Bool.and_eq_true,bne_iff_ne,bne_iff_ne] at h
   have es:scX gs n=[7,gl gs n]:=by unfold scX; rw [if_neg n7,if_neg λz=>z.elim h.1 h.2]
   refine key _ (λv=> ?_) (λv=> ?_) (λv=> ?_) (A3.nod (A2.nod (A1.nod b.nod))) ?_ ?_ ?_
   ·rw [A3.mem,A2.mem,A1.mem,es]
    simp only [List.mem_cons,List.not_mem_nil,or_false]
    constructor
    ·rintro (((a | a) | a | a) | a | a)
     ·exact .inl a
     ·exact .inr (.inl a)
     ·exact .inr (.inr (.inl a))
     ·exact .inr (.inl a)
     ·exact .inr (.inr (.inr a))
     ·exact .inr (.inl a)
    ·rintro (a | a | a | a)
     ·exact .inl (.inl (.inl a))
     ·exact .inl (.inl (.inr a))
     ·exact .inl (.inr (.inl a))
     ·exact .inr (.inl a)
   ·rw [A3.np,A2.np,A1.np,es]
    simp only [List.mem_cons,List.not_mem_nil,or_false,List.length_nil,List.length_singleton]
    have h2:=h.2
    generalize gl gs (n:Int)=g at h2 ⊢
    by_cases e1:v=7
    ·subst e1
     have h3: ¬(7:Int)=g:=λz=>h2 z.symm
     simp [h3]
    ·by_cases e2:v=g
     ·subst e2
      simp [e1]
     ·simp [e1,e2]
   ·rw [A3.sc,A2.sc,A1.sc,es]
    simp only [List.mem_singleton,List.not_mem_nil,if_false,List.append_nil]
    by_cases e:v=n
    ·simp [e]
    ·simp [e]
   ·rw [A3.rdy,A2.rdy,A1.rdy,b.rdy]
   ·rw [A3.out,A2.out,A1.out,b.out]
   ·rw [A3.fin,A2.fin,A1.fin,b.fin]
  ·rename_i h
   have h':gl gs n=n\/gl gs n=7:=by
    by_cases a:gl gs n=n
    ·exact .inl a
    ·by_cases b:gl gs n=7
     ·exact .inr b
     ·exact absurd (by rw [Bool.and_eq_true,bne_iff_ne,bne_iff_ne]; exact ⟨a,b⟩) h
   have es:scX gs n=[7]:=by unfold scX; rw [if_neg n7,if_pos h']
   refine key _ (λv=> ?_) (λv=> ?_) (λv=> ?_) (A2.nod (A1.nod b.nod)) ?_ ?_ ?_
   ·rw [A2.mem,A1.mem,es]
    simp only [List.mem_cons,List.not_mem_nil,or_false]
    constructor
    ·rintro ((a | a) | a | a)
     ·exact .inl a
     ·exact .inr (.inl a)
     ·exact .inr (.inr a)
     ·exact .inr (.inl a)
    ·rintro (a | a | a)
     ·exact .inl (.inl a)
     ·exact .inl (.inr a)
     ·exact .inr (.inl a)
   ·rw [A2.np,A1.np,es]
    simp
   ·rw [A2.sc,A1.sc,es]
    simp
   ·rw [A2.rdy,A1.rdy,b.rdy]
   ·rw [A2.out,A1.out,b.out]
   ·rw [A2.fin,A1.fin,b.fin]
theorem aD6.le {n m:Nat}{A:Around}(h:aD6 n A)(l:m<=n):aD6 m A:=⟨by have:=h.depth; room,by have:=h.units; room,h.handled⟩
section
variable {n:Nat}{w:World}{A:Around}{h0:aA8}{env:Env}{os:OsState}{σ:Sg}{P:FP}{rest:List Stmt}
theorem EvK.meth0 {value:Expr}{x:Str}{a d f:Addr}{es:List (Str×T)}{k1:Bool}{PV:T->Sg->Prop}{l:List Env}(apos pos:Pos)(Wy:aC9 A env σ l)(RA:aD6 n A)(hv:EvE w A h0 env os k1 σ value (.obj a))(ha:σ.hp a=some (.ins 137 d))(hd:σ.hp d=some (.ns es))(hm:aX5 w.params x f)(hn:es.lookup x=none)
  (he:eval (.Call (.Attribute value x apos) [] [] pos) env=(do let ov <-eval value env; standAt apos.atName; let (f,first) <-holding [ov] (getMethod ov x (do return (<- importBound value env).getD true)); callWith pos f first (backTo pos (starEach [] env)) []))
  (hf:∀ oL,σ.hp env.locals=none->FnH w os n f [.obj a] (σ.hp.put env.locals (.same oL)) (λr hp'=>hp' env.locals=some (.same oL)->aA4 σ.hp (hp'.del env.locals)->∃ t,r= .val t/\PV t ⟨σ.fz,σ.ow,hp'.del env.locals⟩)):EvK w A h0 env os σ (.Call (.Attribute value x apos) [] [] pos) PV:=λB O X m cm s Q E F R q=>by
 refine MethodCall_ ?_ he
 refine hv B (O++X) m cm s _ E F (R.rel X) λov s1 B1 l1 F1 V1=> ?_
 rw [V1.obj]
 refine aX9 F1 ((R.mono l1).rel X) ha hd hm hn ?_
 refine callWith_K0 F1.k0 hm.keep ?_
 refine wpAny_call (bQ (P:=λr σ'=>∃ t,r= .val t/\PV t σ') F1 (R.mono l1) Wy RA (.cons (.obj a) .nil) hf ⟨λt σ' v s' B' O' p V l F' R'=> ?_,λcls args σ' e s' B' Z O' p=> ?_⟩)
 ·refine aA1 p λt' e p=> ?_
  cases e
  exact q t σ' v s' B' O' p V (l1.trans l) F' R'
 ·obtain ⟨t',e,p⟩:=p; cases e
theorem ExE.appendK {x:Str}{e:Expr}{ts:List T}(p1 pa pc pos:Pos)(W:Own env)(hx:σ.ow.lookup x=some ts)(hc:env.kindOf x=some .local\/(env.cells.lookup x).isSome=true)(hd:(x == ("__debug__" :Str))=false)(hcd:(x == ("__classdict__" :Str))=false)(hz:ts.length<=sizeLine)
  (ha:attributeBase (.Name x p1) (u "append") env (eval (.Name x p1) env)=eval (.Name x p1) env)
  (hs:(((List.all (backTo pc (starEach [e] env)) λx=> !x.fst) && List.all (backToKw pc (keywordEach [] env)) λx=>Option.isSome x.fst) && decide ((List.length [e]+List.length ([]:List Keyword)+if List.isEmpty ([]:List Keyword)=true then 0 else 1)<30))=true)
  (hl:(pa.endLine == pc.line)=true) (hb:backTo pc (starEach [e] env)=[(false,eval e env)]) (hi:interactive env=false) (hsw:swapsWith (.Call (.Attribute (.Name x p1) (u "append") pa) [e] [] pc) none pos.line env=pure false)
  (he:EvK w A h0 env os σ e (λt σ1=>σ1.ow.lookup x=some ts/\ExE w A h0 env os (σ1.grow x (ts++[t])) rest P)):ExE w A h0 env os σ (.Expr (.Call (.Attribute (.Name x p1) (u "append") pa) [e] [] pc) pos::rest) P:=λB O X m cm s Q E F R q=>by
 refine wpAny_execs_cons (wpAny_Expr_any (wpAny_Call_append ha hs hl hb ?_) hi hsw)
 obtain ⟨a0,n0,vs0,hlk0,ho0⟩:∃ a n vs,aB7 env m cm x=some (.ref a)/\s.heap.get? a=some { cls:= .type "list",data:= .seq vs n }:=by
  refine aB0 R.ow λOO Y z1z rr hh=> ?_
  subst z1z
  refine bG7 (rr.turn hx) λO1 a o O2 vs z1z hlk z2z V up _=> ?_
  subst z1z
  refine aA3 z2z λn z1z=> ?_
  try clear z2z
  subst z1z
  exact ⟨a,n,vs.toArray,hlk,F.opn _ (List.mem_append.mpr (.inl (List.mem_append.mpr (.inl (List.mem_append.mpr (.inr (.head _)))))))⟩
 refine wpAny_Name (aI F W.kind hlk0 hc hcd ?_) hd
 refine ⟨a0,vs0,rfl,⟨_,n0,ho0,rfl,rfl,rfl⟩, ?_⟩
 refine he B O X m cm s _ E F R λt σ1 v s1 B1 O' ⟨hx1,hrest⟩ Vt l1 F1 R1=> ?_
 refine aB0 R1.ow λOO Y z1z rr hh=> ?_
 subst z1z
 refine bG7 (rr.turn hx1) λO1 a o O2 vs z1z hlk io V up _=> ?_
 subst z1z
 rw [hlk0] at hlk
 cases hlk
 refine aA3 io λn z1z=> ?_
 try clear io
 subst z1z
 have hmem:(a0,({ cls:= .type "list",data:= .seq vs.toArray n }:Obj))∈((O1++(a0,({ cls:= .type "list",data:= .seq vs.toArray n }:Obj))::O2)++Y)++X:=List.mem_append.mpr (.inl (List.mem_append.mpr (.inl (List.mem_append.mpr (.inr (.head _))))))
 refine wpAny_list_append_plain ⟨n,F1.opn _ hmem⟩ (λh' hP hS=> ?_) (by rw [List.size_toArray,V.length]; exact hz)
 refine aA3 hP λn' hP=> ?_
 rw [show vs.toArray.push v=(vs++[v]).toArray by simp] at hP
 have F1':Fm w h0 env B1 (O1++(a0,({ cls:= .type "list",data:= .seq vs.toArray n }:Obj))::(O2++(Y++X))) m cm os s1:=by simpa using F1
 have F2:=Fm.turn F1' hP hS s1.toks
 have R2:Rl env (σ1.grow x (ts++[t])) B1 (O1++(a0,({ cls:= .type "list",data:= .seq (vs++[v]).toArray n' }:Obj))::O2++Y) m cm:=
  ⟨R1.fz,_,Y,rfl,up _ _ _ ⟨n',rfl⟩ (V.append (.cons Vt .nil)),hh⟩
 exact hrest B1 _ X m cm _ Q E (by simpa using F2) R2 (q.mono l1)
theorem ExE.newList1 {x:Str}{e:Expr}(p pl pos:Pos)(W:Own env)(hs:backTo pl (starEach [e] env)=[(false,eval e env)])(hk:env.kindOf x=some .local)
  (he:EvH w A h0 env os σ e (λr σ1=>∃ t,r= .val t/\(∀ p∈σ1.ow,p.1≠x)/\ExE w A h0 env os (σ1.own x [t]) rest P)):ExE w A h0 env os σ (.Assign [.Name x p] (.List [e] pl) pos::rest) P:=λB O X m cm s Q E F R q=>
 wpAny_execs_cons (wpAny_Assign_Name (wpAny_List (by
  rw [hs]
  refine Calls.spliced_cons (he B O X m cm s _ E F R ⟨λt σ1 v s1 B1 O1 m1 cm1 p V l1 F1 R1=>Calls.spliced_nil ⟨by show 1<=sizeLine; decide, ?_⟩,λcls args σ' e s' B' Z O' m' cm' p=>by obtain ⟨t,h,_⟩:=p; cases h⟩)
  refine aC8 p λt' h hx h2=> ?_
  try clear p
  cases h
  have F2:=F1.pushO (o:={ cls:= .type "list",data:= .seq [v].toArray }) rfl s1.toks
  refine wpAny_storeName_local hk F2.ns (λh' hn hsb=> ?_) (by rw [W.kind]; rfl)
  exact h2 B1 ((s1.heap.objs.size,_)::O1) X _ cm1 _ Q E (F2.setLocal hn hsb _) (R1.own hk hx ⟨_,rfl⟩ (.cons V .nil)) (q.mono l1))) rfl)
end
section
variable {gs:List Int}
theorem aK2 (G:aA9 gs){v:Int}:v∈(aA gs 7).nodes↔0<=v/\v<=7:=by
 rw [(bld G 7 (Nat.le_refl _)).mem]
 constructor
 ·rintro ⟨j,a,b,rfl | h⟩
  ·room
  ·exact aL7 G (by room) h
 ·intro h
  by_cases e:v=7
  ·refine ⟨0,by decide,by decide, .inr ?_⟩
   rw [bF9 (by decide),aE]
   exact ⟨by decide, .inl e⟩
  ·exact ⟨v,h.1,by room, .inl rfl⟩
theorem bO8 (G:aA9 gs){v:Int}(h:v∈(aA gs 7).nodes):(aA gs 7).suc v=scX gs v:=by
 have b:=(bld G 7 (Nat.le_refl _)).sc v
 have r:=(aK2 G).mp h
 unfold scG at b
 rw [if_pos h] at b
 rw [b]
 by_cases e:v=7
 ·rw [if_neg (by room),e]; rfl
 ·rw [if_pos (by room)]
theorem cC9 (G:aA9 gs){v:Int}(h:v∈(aA gs 7).nodes):(aA gs 7).np v=(pdX gs v).length:=by
 have b:=(bld G 7 (Nat.le_refl _)).np v
 unfold npG at b
 rw [if_pos h] at b
 rw [b,List.filter_eq_self.mpr λj hj=>decide_eq_true (by have:=(aE.mp hj).1; room)]
theorem cM4 (G:aA9 gs):∀ v∈(aA gs 7).nodes,∀ j∈(aA gs 7).suc v,j∈(aA gs 7).nodes:=λv hv j hj=>by
 rw [bO8 G hv] at hj
 exact (aK2 G).mpr (aL7 G ((aK2 G).mp hv) hj)
theorem cK (G:aA9 gs):(aA gs 7).nodes.Perm r8:=
 (List.perm_ext_iff_of_nodup (bld G 7 (Nat.le_refl _)).nod aZ0).mpr λv=>by rw [aK2 G,aG3]
noncomputable def fr7 (gs:List Int):List Int:=(aA gs 7).nodes.filter λk=>(aA gs 7).np k == 0
theorem bG0 (G:aA9 gs){v:Int}:v∈fr7 gs↔(0<=v/\v<=7)/\pdX gs v=[]:=by
 unfold fr7
 rw [List.mem_filter]
 constructor
 ·intro w1w
  refine aB w1w λa b=> ?_
  try clear w1w
  rw [cC9 G a,beq_iff_eq] at b
  exact ⟨(aK2 G).mp a,List.length_eq_zero_iff.mp (by room)⟩
 ·intro w1w
  refine aB w1w λa b=> ?_
  try clear w1w
  have a':=(aK2 G).mpr a
  refine ⟨a', ?_⟩
  rw [cC9 G a',b]; rfl
theorem bD1 (G:aA9 gs):(aQ1 gs).Perm (fr7 gs)/\(aQ1 gs).Pairwise (· <= ·):=by
 refine ⟨(List.perm_ext_iff_of_nodup (bF8.filter _) ((bld G 7 (Nat.le_refl _)).nod.filter _)).mpr λv=> ?_,List.Pairwise.filter _ (by decide)⟩
 rw [show v∈(aA gs 7).nodes.filter (λk=>(aA gs 7).np k == 0)↔_ from bG0 G,List.mem_filter,aL6,List.isEmpty_iff]
 unfold pdX
 constructor
 ·intro w1w
  refine aB w1w λa b=> ?_
  try clear w1w
  exact ⟨by room,by rw [if_neg (by room)]; exact b⟩
 ·intro w1w
  refine aB w1w λa b=> ?_
  try clear w1w
  by_cases e:v=7
  ·rw [if_pos e] at b; cases b
  ·rw [if_neg e] at b; exact ⟨by room,b⟩
theorem bR2 (gs:List Int)(v:Int):npX gs [] v=if pdX gs v=[] then (-1:Int) else ((pdX gs v).length:Int):=by
 have e:rmX gs [] v=pdX gs v:=List.filter_eq_self.mpr λj hj=>rfl
 unfold npX
 rw [if_neg List.not_mem_nil,e]
theorem bO9 (G:aA9 gs){hp:Hp}{a:Addr}{SA':SA}(h:Srt hp a SA' (SD.ready { aA gs 7 with rdy:=some (fr7 gs) } (fr7 gs))):Srt hp a SA' (stU gs (aA gs 7).nodes []):=by
 have b:=bld G 7 (Nat.le_refl _)
 refine h.ext rfl (λv hv=> ?_) (λv hv=>(bO8 G hv).symm) rfl ?_ b.fin.symm
 ·have hv:v∈(aA gs 7).nodes:=hv
  show npX gs [] v=if v∈fr7 gs then -1 else (aA gs 7).np v
  rw [bR2,cC9 G hv]
  have e:=bG0 G (v:=v)
  by_cases q:pdX gs v=[]
  ·rw [if_pos q,if_pos (e.mpr ⟨(aK2 G).mp hv,q⟩)]
  ·rw [if_neg q,if_neg λz=>q (e.mp z).2]
 ·show aZ1 gs []=(aA gs 7).out+((fr7 gs).length:Int)
  rw [b.out,Int.zero_add]
  unfold aZ1
  congr 1
  have e:(r8.filter λv=>decide (npX gs [] v<0)).Perm (fr7 gs):=by
   refine (List.perm_ext_iff_of_nodup (aZ0.filter _) ((bld G 7 (Nat.le_refl _)).nod.filter _)).mpr λv=> ?_
   rw [show v∈(aA gs 7).nodes.filter (λk=>(aA gs 7).np k == 0)↔_ from bG0 G,List.mem_filter,aG3,bR2,decide_eq_true_eq]
   by_cases q:pdX gs v=[]
   ·rw [if_pos q]; simp [q]
   ·rw [if_neg q]; simp [q]
  exact e.length_eq
theorem DOk.nil (gs:List Int):DOk gs []:=⟨List.nodup_nil,λx h=>(by cases h),λx h=>(by cases h)⟩
theorem DOk.len {D:List Int}(d:DOk gs D):D.length<=8:=by
 have:=aC1 (m:=r8) d.nod λx hx=>aG3.mpr (d.rng x hx)
 exact this
theorem aU2 (gs D:List Int)(v:Int):npX gs D v= -1\/0<=npX gs D v\/npX gs D v= -2:=by
 unfold npX
 split
 ·exact .inr (.inr rfl)
 ·split
  ·exact .inl rfl
  ·exact .inr (.inl (by room))
end
structure RS where
 D:List Int
 txt:List Nat
 giv:List T
 left:List Int
 log:List T
noncomputable def RS.one (P:Params)(gs:List Int)(y:RS)(k:Int):RS:=
 if npX gs y.D k= -1 then { y with D:=y.D++[k],txt:=if k=7 then y.txt else aE7 P k.toNat (gl gs k).toNat y.txt,giv:=y.giv++[.tup ((aI9 gs y.D k).map T.int)] } else { y with left:=y.left++[k] }
noncomputable def RS.end_ (z:RS):RS:={ z with log:=z.log++[.tup [.str ⟨z.txt.toArray⟩, .list (z.left.map T.int)]] }
noncomputable def RS.sweep (P:Params)(gs:List Int)(y:RS):RS:=(y.left.foldl (RS.one P gs) { y with left:=[] }).end_
noncomputable def rn (P:Params)(gs ord:List Int)(cs:List Nat):Nat->RS
 | 0=>⟨[],cs,[.list ((aQ1 gs).map T.int)],ord++[7],[]⟩
 | n+1=>(rn P gs ord cs n).sweep P gs
structure aZ3 (P:Params)(gs:List Int)(N:Nat)(y:RS):Prop where
 d:DOk gs y.D
 txt:y.txt.length<=N
 giv:y.giv.length=1+y.D.length
 left:∀ k∈y.left,0<=k/\k<=7
theorem bK5 (P:Params)(k g:Nat)(cs:List Nat):(aE7 P k g cs).length<=cs.length:=by
 unfold aE7
 split
 ·exact Nat.le_refl _
 ·exact aO0 P k g cs
theorem aZ3.one {P:Params}{gs:List Int}{N:Nat}{y:RS}(h:aZ3 P gs N y){k:Int}(hk:0<=k/\k<=7):aZ3 P gs N (y.one P gs k):=by
 unfold RS.one
 split
 ·rename_i hn
  refine ⟨(h.d.snoc hk hn).2.2, ?_,by simp [h.giv]; room,h.left⟩
  show (if k=7 then y.txt else aE7 P k.toNat (gl gs k).toNat y.txt).length<=N
  split
  ·exact h.txt
  ·exact Nat.le_trans (bK5 _ _ _ _) h.txt
 ·exact ⟨h.d,h.txt,h.giv,λj hj=>(List.mem_append.mp hj).elim (h.left j) λz=>by rw [List.mem_singleton.mp z]; exact hk⟩
theorem aZ3.fold {P:Params}{gs:List Int}{N:Nat}:∀ (l:List Int) {y:RS},aZ3 P gs N y->(∀ k∈l,0<=k/\k<=7)->aZ3 P gs N (l.foldl (RS.one P gs) y)
 | [],_,h,_=>h
 | k::l,_,h,hl=>aZ3.fold l (h.one (hl k (.head _))) λj hj=>hl j (.tail _ hj)
theorem cD0 {P:Params}{gs:List Int}{y:RS}{k:Int}:(y.one P gs k).left.length<=y.left.length+1/\(y.one P gs k).log=y.log:=by
 unfold RS.one
 split
 ·exact ⟨Nat.le_succ _,rfl⟩
 ·simp
theorem aO5 {P:Params}{gs:List Int}:∀ (l:List Int) (y:RS),(l.foldl (RS.one P gs) y).left.length<=y.left.length+l.length/\(l.foldl (RS.one P gs) y).log=y.log
 | [],y=>⟨by simp,rfl⟩
 | k::l,y=>by
  refine aB (aO5 (P:=P) (gs:=gs) l (y.one P gs k)) λh1 h2=> ?_
  refine aB (cD0 (P:=P) (gs:=gs) (y:=y) (k:=k)) λh3 h4=> ?_
  rw [List.foldl_cons]
  exact ⟨by simp only [List.length_cons]; room,h2.trans h4⟩
theorem cM5 (P:Params)(gs ord:List Int)(cs:List Nat)(ho:∀ k∈ord,0<=k/\k<7)(hl:ord.length=7):∀ n,aZ3 P gs cs.length (rn P gs ord cs n)/\(rn P gs ord cs n).left.length<=8/\(rn P gs ord cs n).log.length=n
 | 0=>⟨⟨DOk.nil gs,Nat.le_refl _,rfl,λk hk=>by
   rcases List.mem_append.mp hk with h | h
   ·have:=ho k h; room
   ·rw [List.mem_singleton.mp h]; decide⟩,by simp [rn.eq_1,hl],rfl⟩
 | n+1=>by
  refine aC5 (cM5 P gs ord cs ho hl n) λh h1 h2=> ?_
  have f:=aZ3.fold (P:=P) (gs:=gs) (N:=cs.length) (rn P gs ord cs n).left (y:={ rn P gs ord cs n with left:=[] }) ⟨h.d,h.txt,h.giv,λk hk=>by cases hk⟩ h.left
  refine aB (aO5 (P:=P) (gs:=gs) (rn P gs ord cs n).left { rn P gs ord cs n with left:=[] }) λg1 g2=> ?_
  refine ⟨⟨f.d,f.txt,f.giv,f.left⟩, ?_, ?_⟩
  ·show ((rn P gs ord cs n).left.foldl (RS.one P gs) { rn P gs ord cs n with left:=[] }).left.length<=8
   refine Nat.le_trans g1 ?_
   show 0+_<=8
   room
  ·show (((rn P gs ord cs n).left.foldl (RS.one P gs) { rn P gs ord cs n with left:=[] }).log++[_]).length=n+1
   rw [g2,List.length_append]
   show (rn P gs ord cs n).log.length+1=n+1
   room
noncomputable def aS2 (s:Stmt):Scope:=scE (inE (stE ((aB1 s).getLastD (.Pass aM3))).1 4)
noncomputable def aO9 (x:Option (List Int)):T:=match x with | none=> .none | some l=> .tup [.str (u "ring"), .list (l.map T.int)]
noncomputable abbrev aL (gs:List Int):Option (List Int):=cyc (aA gs 7).suc (aA gs 7).nodes []
theorem aI8 (S:SD)(k:Int)(ps:List Int):(S.add k ps).rdy=S.rdy:=by
 unfold SD.add
 rw [aV1]
 exact aK8 S k
theorem aL9 (S:SD)(k:Int)(ps:List Int):(S.add k ps).nodes.length<=S.nodes.length+1+ps.length:=by
 unfold SD.add
 refine Nat.le_trans (aN2 k ps _) (Nat.add_le_add_right ?_ _)
 exact aT8 S k
theorem aM (S:SD)(k:Int)(ps:List Int)(j:Int):((S.add k ps).suc j).length<=(S.suc j).length+ps.length:=by
 unfold SD.add
 refine Nat.le_trans (aN3 k j ps _) (Nat.add_le_add_right ?_ _)
 exact aO2 S k j
theorem aZ4 (gs:List Int):∀ n,(aA gs n).rdy=none/\(aA gs n).nodes.length<=5 * n/\∀ j,((aA gs n).suc j).length<=2 * n
 | 0=>⟨rfl,Nat.le_refl _,λj=>Nat.le_refl _⟩
 | n+1=>by
  refine aC5 (aZ4 gs n) λa b c=> ?_
  show (aH9 gs (aA gs n) n).rdy=none/\(aH9 gs (aA gs n) n).nodes.length<=_/\∀ j,((aH9 gs (aA gs n) n).suc j).length<=_
  unfold aH9
  split
  ·refine ⟨by rw [aI8,aI8,aI8,a], ?_,λj=> ?_⟩
   ·have h1:=aL9 (((aA gs n).add n []).add 7 [(n:Int)]) (gl gs n) [(n:Int)]
    have h2:=aL9 ((aA gs n).add n []) 7 [(n:Int)]
    have h3:=aL9 (aA gs n) n []
    simp only [List.length_nil,List.length_singleton] at h1 h2 h3
    room
   ·have h1:=aM (((aA gs n).add n []).add 7 [(n:Int)]) (gl gs n) [(n:Int)] j
    have h2:=aM ((aA gs n).add n []) 7 [(n:Int)] j
    have h3:=aM (aA gs n) n [] j
    have:=c j
    simp only [List.length_nil,List.length_singleton] at h1 h2 h3
    room
  ·refine ⟨by rw [aI8,aI8,a], ?_,λj=> ?_⟩
   ·have h2:=aL9 ((aA gs n).add n []) 7 [(n:Int)]
    have h3:=aL9 (aA gs n) n []
    simp only [List.length_nil,List.length_singleton] at h2 h3
    room
   ·have h2:=aM ((aA gs n).add n []) 7 [(n:Int)] j
    have h3:=aM (aA gs n) n [] j
    have:=c j
    simp only [List.length_nil,List.length_singleton] at h2 h3
    room
noncomputable abbrev ruA (hp:Hp)(gs ord:List Int)(cs:List Nat)(a:Addr)(i:Nat)(σ:Sg):Prop:=(∃ G',Srt σ.hp a G' (aA gs i))/\aA4 hp σ.hp/\σ.fz (u "goals")=some (.list (gs.map T.int))/\σ.fz (u "order")=some (.list (ord.map T.int))/\σ.fz (u "text")=some (.str ⟨cs.toArray⟩)/\σ.fz (u "sorter")=some (.obj a)/\σ.ow=[]
noncomputable abbrev ruB (w:World)(hp:Hp)(gs ord:List Int)(cs:List Nat)(M:Nat)(ns:List Int)(a:Addr)(m:Nat)(σ:Sg):Prop:=∃ i,i+m=M/\(∃ G',Srt σ.hp a G' (stU gs ns (rn w.params gs ord cs i).D))/\aA4 hp σ.hp/\σ.ow=[(u "given",(rn w.params gs ord cs i).giv),(u "log",(rn w.params gs ord cs i).log)]/\σ.fz (u "goals")=some (.list (gs.map T.int))/\σ.fz (u "text")=some (.str ⟨(rn w.params gs ord cs i).txt.toArray⟩)/\σ.fz (u "sorter")=some (.obj a)/\
   σ.fz (u "left")=some (.list ((rn w.params gs ord cs i).left.map T.int))/\σ.fz (u "ring")=some (aJ2 (aL gs))/\σ.fz (u "prepared")=some (aO9 (aL gs))
noncomputable abbrev ruC (hp:Hp)(gs ns:List Int)(a:Addr)(y z:RS)(σ:Sg):Prop:=(∃ G',Srt σ.hp a G' (stU gs ns z.D))/\aA4 hp σ.hp/\σ.ow=[(u "stay",z.left.map T.int),(u "given",z.giv),(u "log",y.log)]/\σ.fz (u "goals")=some (.list (gs.map T.int))/\
    σ.fz (u "text")=some (.str ⟨z.txt.toArray⟩)/\σ.fz (u "sorter")=some (.obj a)/\σ.fz (u "ring")=some (aJ2 (aL gs))/\σ.fz (u "prepared")=some (aO9 (aL gs))
noncomputable abbrev ruD (gs:List Int)(a:Addr)(y z:RS)(tx:List Nat)(hq7:Hp)(fl:Fl)(σ6:Sg):Prop:=fl= .next/\σ6.hp=hq7/\σ6.ow=[(u "stay",z.left.map T.int),(u "given",z.giv),(u "log",y.log)]/\σ6.fz (u "goals")=some (.list (gs.map T.int))/\σ6.fz (u "text")=some (.str ⟨tx.toArray⟩)/\σ6.fz (u "sorter")=some (.obj a)/\σ6.fz (u "ring")=some (aJ2 (aL gs))/\σ6.fz (u "prepared")=some (aO9 (aL gs))
theorem cT0 (w:World)(os:OsState)(hp:Hp)(gs ord:List Int)(cs:List Nat)(M:Nat)(G:aA9 gs)(hord:ord.length=7)(hor:∀ k∈ord,0<=k/\k<7)(hcs:cs.length<=1000)(hM:M<=100)
  (hfine:aQ3 (aA gs 7).suc (aA gs 7).nodes []) (hne:∀ l,aL gs=some l->l≠[]/\l.length<=1000) (hsb:100<scanBound)
  (hact:∀ i,i<=M->decide (((rn w.params gs ord cs i).D.length:Int)<aZ1 gs (rn w.params gs ord cs i).D)=decide (i<M)) (hend:∀ k:Int,0<=k->k<=7->npX gs (rn w.params gs ord cs M).D k≠ -1):
  FnH w os 4 341 [.list (gs.map T.int), .list (ord.map T.int), .str ⟨cs.toArray⟩] hp (λr hp'=>r= .val (.tup [aJ2 (aL gs),aO9 (aL gs), .list (rn w.params gs ord cs M).log, .list (rn w.params gs ord cs M).giv, .list ((List.range 8).map λ_=>T.bool false)])):=by
 refine bD0 (o:=aF9) (fd:=aA2 aF9) (body:=aB1 (aA0 36)) (c:=340) (oc:=cX8) [u "goals",u "order",u "text"] (by lk) rfl rfl (by lk) rfl rfl rfl
  (al3 λ_ _ _=>by lk) rfl (by decide) ?_ rfl rfl rfl rfl λA h0 L RA FA hL hcf=> ?_
 ·intro L x hx
  have hx:x=u "goals" \/x=u "order" \/x=u "text" :=by simpa using hx
  rcases hx with rfl | rfl | rfl
  ·exact .inl (by lk)
  ·exact .inl (by lk)
  ·exact .inl (by lk)
 have W:Own (callEnvC (aA2 aF9) L 341):=⟨rfl,rfl,rfl⟩
 have hA:(A.deeper (callEnvC (aA2 aF9) L 341)).handled=none:=RA.handled
 have RD:aD6 3 (A.deeper (callEnvC (aA2 aF9) L 341)):=RA.deeper
 have hz:sizeLine=16777216:=by decide
 refine aA1 FA λlf hlf hlow=> ?_
 try clear FA
 have way:∀ σ:Sg,aA4 hp σ.hp->aC9 (A.deeper (callEnvC (aA2 aF9) L 341)) (callEnvC (aA2 aF9) L 341) σ lf:=λσ kp=>aD hlf (bB0 hlow kp) rfl rfl
 refine ExE.assignHC (c:=L+1) _ _ W ?_ ?_ ?_ ?_ ?_
 ·lk
 ·lk
 ·exact hcf (u "sorter") (L+1) (by lk)
 ·lk
 refine EvH.newSorter (n:=0) _ _ W (way _ (aA4.refl _)) (RD.le (by decide)) ?_ λa d oL ha hd had haL hdL hLL=> ?_
 ·lk
 refine (cJ3 w os _ a d (by rw [put_ne _ haL,aB5]) (by rw [put_ne _ hdL,put_ne _ had.symm,aB5])).mono λr hp' ⟨hr,G0,g0⟩=>⟨hr,λkL kp0=>⟨λp hp=>absurd hp List.not_mem_nil, ?_⟩⟩
 have g0:=g0.delOff (.inr ⟨oL,kL⟩)
 have kp:aA4 hp (hp'.del (callEnvC (aA2 aF9) L 341).locals):=(aA4.put (aA4.put (aA4.refl _) λo z=>by
   have hd:hp d=none:=hd
   rw [hd] at z; cases z) λo z=>by
   have ha:hp a=none:=ha
   rw [put_ne _ had,ha] at z; cases z).trans kp0
 clear kp0 hr kL
 generalize hp'.del (callEnvC (aA2 aF9) L 341).locals=hq at g0 kp
 refine ExE.forG (ts:=aB3 0 7) (C:=λ_=>True) (J:=ruA hp gs ord cs a) _ ?_ ?_ ?_ ?_ ?_ ?_ ?_
 ·exact ItE.toG (ItE.range1 (n:=7) (k1:=true) _ _ W hA (by lk) (by lk) (by lk) (by lk) (EvE.int _ _ _) (by decide))
 ·exact ⟨⟨G0,g0⟩,kp,by lk,by lk,by lk,by lk,rfl⟩
 ·exact λ_ _ _=>trivial
 ·exact λit v=>rfl
 ·exact λx=>rfl
 ·intro i t σ1 ht w1w
  refine cT7 w1w λz1z kp1 j1 j2 j3 j4 j5=> ?_
  try clear w1w
  refine aA3 z1z λG1 g1=> ?_
  try clear z1z
  rw [aD8] at ht
  have hi:i<7:=by
   by_cases hi:i<7
   ·exact hi
   ·rw [if_neg hi] at ht; cases ht
  rw [if_pos hi] at ht
  cases ht
  have e0:(0:Int)+(i:Int)=i:=by room
  rw [e0]
  refine aC5 (aZ4 gs i) λb1 b2 b3=> ?_
  refine ⟨_,aF5.name _ W (by lk) (aC2 _ j5), ?_⟩
  refine ExE.exprH _ (by lk) (by lk) ?_
  refine EvH.meth (n:=3) (a:=a) (d:=G1.d) (es:=aC3 G1 (aA gs i)) (as:=[.int i]) (k1:=true) _ _ (way _ kp1) RD ?_ g1.ins g1.ns (aX6 _) ?_ ?_ ?_ ?_ ?_ ?_ ?_
  ·exact EvE.nc W ((by lk:_=σ1.fz (u "sorter")).trans j4)
  ·lk
  ·lk
  ·lk
  ·lk
  ·lk
  ·exact .cons (EvE.nm W) .nil
  intro oL2 hLL2
  refine (bN9 w os _ a G1 (aA gs i) i [] (g1.inFrame hLL2) b1 (by decide) (by simp; room) (λj=>by have:=b3 j; room)).mono λr hp2 w1w kL2 kp2=> ?_
  refine aB w1w λhr h9=>aA3 h9 λG2 g2=> ?_
  try clear w1w
  subst hr
  have g2:=g2.delOff (.inr ⟨oL2,kL2⟩)
  have kp2:=kp1.trans kp2
  clear kL2
  generalize hp2.del (callEnvC (aA2 aF9) L 341).locals=hq2 at g2 kp2
  have b1':((aA gs i).add i []).rdy=none:=by rw [aI8]; exact b1
  have b2':((aA gs i).add i []).nodes.length<=5 * i+1:=by have:=aL9 (aA gs i) i []; simp only [List.length_nil] at this; room
  have b3':∀ j,(((aA gs i).add i []).suc j).length<=2 * i:=λj=>by have:=aM (aA gs i) i [] j; have:=b3 j; simp only [List.length_nil] at *; room
  show ExE _ _ _ _ _ _ (_::_) _
  refine ExE.exprH _ (by lk) (by lk) ?_
  refine EvH.meth (n:=3) (a:=a) (d:=G2.d) (es:=aC3 G2 ((aA gs i).add i [])) (as:=[.int 7, .int i]) (k1:=true) _ _ (way _ kp2) RD ?_ g2.ins g2.ns (aX6 _) ?_ ?_ ?_ ?_ ?_ ?_ ?_
  ·exact EvE.nc W ((by lk:_=σ1.fz (u "sorter")).trans j4)
  ·lk
  ·lk
  ·lk
  ·lk
  ·lk
  ·exact .cons (EvE.int _ _ _) (.cons (EvE.nm W) .nil)
  intro oL3 hLL3
  refine (bN9 w os _ a G2 ((aA gs i).add i []) 7 [(i:Int)] (g2.inFrame hLL3) b1' (by simp) (by simp; room) (λj=>by have:=b3' j; room)).mono λr hp3 w1w kL3 kp3=> ?_
  refine aB w1w λhr h9=>aA3 h9 λG3 g3=> ?_
  try clear w1w
  subst hr
  have g3:=g3.delOff (.inr ⟨oL3,kL3⟩)
  have kp3:=kp2.trans kp3
  clear kL3
  generalize hp3.del (callEnvC (aA2 aF9) L 341).locals=hq3 at g3 kp3
  have b1'':(((aA gs i).add i []).add 7 [(i:Int)]).rdy=none:=by rw [aI8]; exact b1'
  have b2'':(((aA gs i).add i []).add 7 [(i:Int)]).nodes.length<=5 * i+3:=by have:=aL9 ((aA gs i).add i []) 7 [(i:Int)]; simp only [List.length_singleton] at this; room
  have b3'':∀ j,((((aA gs i).add i []).add 7 [(i:Int)]).suc j).length<=2 * i+1:=λj=>by have:=aM ((aA gs i).add i []) 7 [(i:Int)] j; have:=b3' j; simp only [List.length_singleton] at *; room
  have gi:gs.getD ((i:Int)).toNat 0=gl gs i:=rfl
  have eg:∀ {k:Bool} {σ:Sg} {p1 p2 p3:Pos},σ.fz (u "goals")=some (.list (gs.map T.int))->σ.fz (u "k")=some (.int i)->EvE w (A.deeper (callEnvC (aA2 aF9) L 341)) h0 (callEnvC (aA2 aF9) L 341) os k σ (.Subscript (.Name (u "goals") p1) (.Name (u "k") p2) p3) (.int (gl gs i)):=λq1 q2=>
   EvE.idx _ (k1:=true) (k2:=true) (EvE.nm W q1) (EvE.nm W q2) (by room) (by room) (G.get (by room) (by room)) (λo j u=>by lk)
  have f1:(σ1.set (u "k") (.int i)).fz (u "goals")=some (.list (gs.map T.int)):=(by lk:_=σ1.fz (u "goals")).trans j1
  have f2:(σ1.set (u "k") (.int i)).fz (u "k")=some (.int i):=by lk
  have nj:∀ (σ':Sg),σ'.fz=(σ1.set (u "k") (.int i)).fz->σ'.ow=σ1.ow->(∃ G',Srt σ'.hp a G' (aA gs (i+1)))->aA4 hp σ'.hp->(∃ G',Srt σ'.hp a G' (aA gs (i+1)))/\aA4 hp σ'.hp/\σ'.fz (u "goals")=some (.list (gs.map T.int))/\σ'.fz (u "order")=some (.list (ord.map T.int))/\σ'.fz (u "text")=some (.str ⟨cs.toArray⟩)/\σ'.fz (u "sorter")=some (.obj a)/\σ'.ow=[]:=by
   intro σ' q1 q2 q3 q4
   rw [q1,q2]
   exact ⟨q3,q4,f1,(by lk:_=σ1.fz (u "order")).trans j2,(by lk:_=σ1.fz (u "text")).trans j3,(by lk:_=σ1.fz (u "sorter")).trans j4,j5⟩
  have eb:aA gs (i+1)=if (gl gs i != (i:Int) && gl gs i != 7)=true then (((aA gs i).add i []).add 7 [(i:Int)]).add (gl gs i) [(i:Int)] else ((aA gs i).add i []).add 7 [(i:Int)]:=rfl
  show ExE _ _ _ _ _ _ (_::_) _
  refine ExE.ite _ (b:=gl gs i != (i:Int) && gl gs i != 7) ?_ ?_
  ·refine TsE.and2 _ ?_ λ_=> ?_
   ·exact TsE.cmp _ (k1:=true) (k2:=true) (eg f1 f2) (EvE.nm W f2) (aE2 _ _ _ _) (by lk)
   ·exact TsE.cmp _ (k1:=true) (k2:=true) (eg f1 f2) (EvE.int _ _ _) (aE2 _ _ _ _) (by lk)
  cases hb:(gl gs i != (i:Int) && gl gs i != 7) with
  | false=>
   rw [hb,if_neg Bool.false_ne_true] at eb
   refine ExE.nil ?_
   show ExE _ _ _ _ _ _ _ _
   exact ExE.nil (nj _ rfl rfl ⟨G3,eb ▸ g3⟩ kp3)
  | true=>
   rw [hb,if_pos rfl] at eb
   show ExE _ _ _ _ _ _ (_::_) _
   refine ExE.exprH _ (by lk) (by lk) ?_
   refine EvH.meth (n:=3) (a:=a) (d:=G3.d) (es:=aC3 G3 (((aA gs i).add i []).add 7 [(i:Int)])) (as:=[.int (gl gs i), .int i]) (k1:=true) _ _ (way _ kp3) RD ?_ g3.ins g3.ns (aX6 _) ?_ ?_ ?_ ?_ ?_ ?_ ?_
   ·exact EvE.nc W ((by lk:_=σ1.fz (u "sorter")).trans j4)
   ·lk
   ·lk
   ·lk
   ·lk
   ·lk
   ·exact .cons (eg f1 f2) (.cons (EvE.nm W) .nil)
   intro oL4 hLL4
   refine (bN9 w os _ a G3 (((aA gs i).add i []).add 7 [(i:Int)]) (gl gs i) [(i:Int)] (g3.inFrame hLL4) b1'' (by simp) (by simp; room) (λj=>by have:=b3'' j; room)).mono λr hp4 w1w kL4 kp4=> ?_
   refine aB w1w λhr h9=>aA3 h9 λG4 g4=> ?_
   try clear w1w
   subst hr
   have g4:=g4.delOff (.inr ⟨oL4,kL4⟩)
   refine ExE.nil ?_
   show ExE _ _ _ _ _ _ _ _
   exact ExE.nil (nj _ rfl rfl ⟨G4,eb ▸ g4⟩ (kp3.trans kp4))
 ·intro σ1 w1w
  refine cT7 w1w λz1z kp1 j1 j2 j3 j4 j5=> ?_
  try clear w1w
  refine aA3 z1z λG1 g1=> ?_
  try clear z1z
  rw [show (aB3 0 7).length=7 by simp [aB3]] at g1
  refine aC5 (aZ4 gs 7) λb1 b2 b3=> ?_
  generalize hns:(aA gs 7).nodes=ns at *
  have hmem:∀ v,v∈ns↔0<=v/\v<=7:=λv=>hns ▸ aK2 G
  refine ExE.assignH _ _ W (by lk) (by lk) ?_
  refine EvH.meth0 (n:=0) (a:=a) (d:=G1.d) (es:=aC3 G1 (aA gs 7)) (k1:=true) _ _ (way _ kp1) (RD.le (by decide)) (EvE.nc W j4) g1.ins g1.ns (aX8 _) (by lk) (by lk) ?_
  intro oL2 hLL2
  refine (bJ8 w os _ a G1 (aA gs 7) (g1.inFrame hLL2) (by rw [hns]; room) (cM4 G) (by rw [hns]; exact hfine) hsb).mono λr hp2 w1w kL2 kp2=> ?_
  refine aB w1w λhr g2=> ?_
  try clear w1w
  subst hr
  have g2:=g2.delOff (.inr ⟨oL2,kL2⟩)
  have kp2:=kp1.trans kp2
  clear kL2
  generalize hp2.del (callEnvC (aA2 aF9) L 341).locals=hq2 at g2 kp2
  refine ⟨aC2 _ j5, ?_⟩
  show ExE _ _ _ _ _ _ (_::_) _
  refine ExE.assignH _ _ W (by lk) (by lk) ?_
  refine EvH.callF (n:=2) (a:=329) (o:=bT3) (fd:=aA2 bT3) (as:=[.obj a]) _ _ W (way _ kp2) (RD.le (by decide)) (by lk) (by lk) (by lk) (by lk) rfl (by lk) (by lk) ?_ ?_
  ·exact .cons (EvE.nc W ((by lk:_=σ1.fz (u "sorter")).trans j4)) .nil
  intro oL3 hLL3
  refine (bK w os _ a G1 (aA gs 7) (g2.inFrame hLL3) b1 (by rw [hns]; room) (cM4 G) (by rw [hns]; exact hfine) hsb hne).mono λr hp3 w1w kL3 kp3=> ?_
  refine aB w1w λhr h9=>aA3 h9 λG3 g3=> ?_
  try clear w1w
  have hr:r= .val (aO9 (aL gs)):=hr
  subst hr
  have g3:=g3.delOff (.inr ⟨oL3,kL3⟩)
  have kp3:=kp2.trans kp3
  clear kL3
  generalize hp3.del (callEnvC (aA2 aF9) L 341).locals=hq3 at g3 kp3
  refine ⟨aC2 _ j5, ?_⟩
  show ExE _ _ _ _ _ _ (_::_) _
  refine ExE.newList _ _ _ W (ts:=[]) .nil (by lk) (by decide) (by lk) (aC2 _ j5) ?_
  have ow1:∀ (l:List T) (x:Str),u "log" ≠x->∀ p∈[(u "log",l)],p.1≠x:=λl x hx p hp=>by rw [List.mem_singleton.mp hp]; exact hx
  refine ExE.assign _ _ W (t:= .list ((ord++[7]).map T.int)) ?_ (by lk) (λp hp=>by
   have hp:p∈(u "log",[])::σ1.ow:=hp
   rw [j5] at hp; exact ow1 _ _ (by decide) p hp) (by lk) ?_
  ·rw [List.map_append]
   refine EvE.addL _ (k1:=true) (k2:=true) (EvE.nm W ((by lk:_=σ1.fz (u "order")).trans j2)) (EvE.listD _ (.cons (EvE.int _ _ _) .nil) (by lk) (by decide)) (by simp; room)
  generalize hs2:Sg.set _ (u "left") (T.list ((ord++[7]).map T.int))=σ2
  have q1:σ2.fz (u "goals")=some (.list (gs.map T.int)):=by rw [<- hs2]; exact (by lk:_=σ1.fz (u "goals")).trans j1
  have q2:σ2.fz (u "text")=some (.str ⟨cs.toArray⟩):=by rw [<- hs2]; exact (by lk:_=σ1.fz (u "text")).trans j3
  have q3:σ2.fz (u "sorter")=some (.obj a):=by rw [<- hs2]; exact (by lk:_=σ1.fz (u "sorter")).trans j4
  have q4:σ2.fz (u "ring")=some (aJ2 (aL gs)):=by rw [<- hs2]; lk
  have q5:σ2.fz (u "prepared")=some (aO9 (aL gs)):=by rw [<- hs2]; lk
  have q6:σ2.fz (u "left")=some (.list ((ord++[7]).map T.int)):=by rw [<- hs2]; lk
  have q7:σ2.ow=[(u "log",[])]:=by rw [<- hs2]; show (u "log",[])::σ1.ow=_; rw [j5]
  have g4:Srt σ2.hp a G3 { aA gs 7 with rdy:=some (fr7 gs) }:=by rw [<- hs2]; exact g3
  have kp4:aA4 hp σ2.hp:=by rw [<- hs2]; exact kp3
  clear hs2 g3 kp3 g2 kp2 g1 kp1 j1 j2 j3 j4 j5
  refine ExE.newList1 _ _ _ W (by lk) (by lk) ?_
  refine EvH.sorted _ _ W (by lk) (by lk) ?_
  refine EvH.meth0 (n:=0) (a:=a) (d:=G3.d) (es:=aC3 G3 { aA gs 7 with rdy:=some (fr7 gs) }) (k1:=true) _ _ (way _ kp4) (RD.le (by decide)) (EvE.nc W q3) g4.ins g4.ns (aX7 _) (by lk) (by lk) ?_
  intro oL5 hLL5
  have frl:(fr7 gs).length<=8:=by
   have:=List.length_filter_le (λk=>(aA gs 7).np k == 0) (aA gs 7).nodes
   have h8:(aA gs 7).nodes.length=8:=(cK G).length_eq
   unfold fr7; room
  refine (bJ7 w os _ a G3 _ (fr7 gs) (g4.inFrame hLL5) rfl (λk hk=>(List.mem_filter.mp hk).1) (by room)).mono λr hp5 w1w kL5 kp5=> ?_
  refine aB w1w λhr g5=> ?_
  try clear w1w
  have g5:=bO9 G (g5.delOff (.inr ⟨oL5,kL5⟩))
  rw [hns] at g5
  have kp5:=kp4.trans kp5
  clear kL5
  generalize hp5.del (callEnvC (aA2 aF9) L 341).locals=hq5 at g5 kp5
  refine ⟨fr7 gs,aQ1 gs,hr,by room,(bD1 G).1,(bD1 G).2,_,rfl,λp hp=>by rw [q7] at hp; exact ow1 _ _ (by decide) p hp, ?_⟩
  have roff:∀ (l l':List T) (x:Str),u "log" ≠x->u "given" ≠x->∀ p∈[(u "given",l'),(u "log",l)],p.1≠x:=λl l' x h1 h2 p hp=>by
   rcases List.mem_cons.mp hp with rfl | hp
   ·exact h2
   ·rw [List.mem_singleton.mp hp]; exact h1
  show ExE _ _ _ _ _ _ (_::_) _
  refine ExE.whileH (J:=ruB w hp gs ord cs M ns a) M _ ?_ ?_
  ·exact ⟨0,by room,⟨G3,g5⟩,kp5,by show (_,_)::σ2.ow=_; rw [q7]; rfl,(by lk:_=σ2.fz (u "goals")).trans q1,(by lk:_=σ2.fz (u "text")).trans q2,(by lk:_=σ2.fz (u "sorter")).trans q3,(by lk:_=σ2.fz (u "left")).trans q6,(by lk:_=σ2.fz (u "ring")).trans q4,(by lk:_=σ2.fz (u "prepared")).trans q5⟩
  intro m σ3 w1w
  refine bV8 w1w λi him z1z kp6 p1 p2 p3 p4 p5 p6 p7=> ?_
  try clear w1w
  refine aA3 z1z λG4 g6=> ?_
  try clear z1z
  refine aC5 (cM5 w.params gs ord cs hor hord i) λrk rk1 rk2=> ?_
  refine TsH.of (EvH.meth0 (n:=0) (a:=a) (d:=G4.d) (es:=aC3 G4 (stU gs ns (rn w.params gs ord cs i).D)) (k1:=true) _ _ (way _ kp6) (RD.le (by decide)) (EvE.nc W p4) g6.ins g6.ns (bI9 _) (by lk) (by lk) ?_) (by lk)
  intro oL6 hLL6
  refine (bU8 w os _ a G4 _ [] (g6.inFrame hLL6) rfl (by decide)).mono λr hp6 w1w kL6 kp7=> ?_
  refine aB w1w λhr g7=> ?_
  try clear w1w
  have g7:=g7.delOff (.inr ⟨oL6,kL6⟩)
  have kp7:=kp6.trans kp7
  clear kL6
  generalize hp6.del (callEnvC (aA2 aF9) L 341).locals=hq6 at g7 kp7
  have hb:(decide ((stU gs ns (rn w.params gs ord cs i).D).fin<(stU gs ns (rn w.params gs ord cs i).D).out) || !([]:List Int).isEmpty)=decide (i<M):=by
   rw [<- hact i (by room)]; exact Bool.or_false _
  rw [hb] at hr
  subst hr
  show if decide (i<M)=true then _ else _
  by_cases hlt:i<M
  ·rw [if_pos (decide_eq_true hlt)]
   generalize hy:rn w.params gs ord cs i=y at *
   have hy1:rn w.params gs ord cs (i+1)=(y.left.foldl (RS.one w.params gs) { y with left:=[] }).end_:=by rw [<- hy]; rfl
   have yl:∀ (l l' l3:List T) (x:Str),u "stay" ≠x->u "log" ≠x->u "given" ≠x->∀ p∈[(u "stay",l3),(u "given",l'),(u "log",l)],p.1≠x:=λl l' l3 x h0 h1 h2 p hp=>by
    rcases List.mem_cons.mp hp with rfl | hp
    ·exact h0
    ·exact roff l l' x h1 h2 p hp
   have glen:y.giv.length<=9:=by have:=rk.giv; have:=rk.d.len; room
   refine ExE.newList _ _ _ W (ts:=[]) .nil (by lk) (by decide) (by lk) (λp hp=>by
    have hp:p∈σ3.ow:=hp
    rw [p1] at hp; exact roff _ _ _ (by decide) (by decide) p hp) ?_
   refine ExE.forG (ts:=y.left.map T.int) (C:=λ_=>True) (J:=λj=>ruC hp gs ns a y ((y.left.take j).foldl (RS.one w.params gs) { y with left:=[] })) _ ?_ ?_ ?_ ?_ ?_ ?_ ?_
   ·exact ItE.toG (ItE.list hA (EvE.nm W ((by lk:_=σ3.fz (u "left")).trans p5)))
   ·exact ⟨⟨G4,g7⟩,kp7,by show (_,_)::σ3.ow=_; rw [p1]; rfl,(by lk:_=σ3.fz (u "goals")).trans p2,(by lk:_=σ3.fz (u "text")).trans p3,(by lk:_=σ3.fz (u "sorter")).trans p4,(by lk:_=σ3.fz (u "ring")).trans p6,(by lk:_=σ3.fz (u "prepared")).trans p7⟩
   ·exact λ_ _ _=>trivial
   ·exact λit v=>rfl
   ·exact λx=>rfl
   ·intro j t σ4 ht w1w
    refine cM7 w1w λz1z kp8 r1 r2 r3 r4 r5 r6=> ?_
    try clear w1w
    refine aA3 z1z λG5 g8=> ?_
    try clear z1z
    rw [List.getElem?_map] at ht
    cases hk:y.left[j]? with
    | none=>rw [hk] at ht; cases ht
    | some k=>
    rw [hk] at ht
    cases ht
    have k8:=rk.left k (List.mem_of_getElem? hk)
    have step:(y.left.take (j+1)).foldl (RS.one w.params gs) { y with left:=[] }=RS.one w.params gs ((y.left.take j).foldl (RS.one w.params gs) { y with left:=[] }) k:=by
     rw [List.take_add_one,hk,List.foldl_append]; rfl
    rw [step]
    have zk:aZ3 w.params gs cs.length ((y.left.take j).foldl (RS.one w.params gs) { y with left:=[] }):=aZ3.fold _ ⟨rk.d,rk.txt,rk.giv,λk hk=>by cases hk⟩ λk hk=>rk.left k (List.mem_of_mem_take hk)
    have zl:=(aO5 (P:=w.params) (gs:=gs) (y.left.take j) { y with left:=[] }).1
    have zl:((y.left.take j).foldl (RS.one w.params gs) { y with left:=[] }).left.length<=8:=by
     refine Nat.le_trans zl ?_
     rw [List.length_take]
     show 0+_<=8
     room
    generalize (y.left.take j).foldl (RS.one w.params gs) { y with left:=[] }=z at *
    have zg:z.giv.length<=9:=by have:=zk.giv; have:=zk.d.len; room
    have hkn:k∈ns:=(hmem k).mpr k8
    refine ⟨_,aF5.name _ W (by lk) (λp hp=>by rw [r1] at hp; exact yl _ _ _ _ (by decide) (by decide) (by decide) p hp), ?_⟩
    refine ExE.iteH _ (TsH.of (EvH.callF (n:=1) (a:=336) (o:=bH7) (fd:=aA2 bH7) (as:=[.obj a, .int k]) _ _ W (way _ kp8) (RD.le (by decide)) (by lk) (by lk) (by lk) (by lk) rfl (by lk) (by lk) ?_ ?_) (by lk))
    ·exact .cons (EvE.nc W ((by lk:_=σ4.fz (u "sorter")).trans r4)) (.cons (EvE.nm W) .nil)
    intro oL7 hLL7
    refine (bQ8 w os _ a G5 (stU gs ns z.D) [] k (g8.inFrame hLL7) rfl hkn k8.1 (by room) (aU2 gs z.D k) (λj hj=>(hmem j).mpr (aL7 G k8 hj)) ?_).mono λr hp7 ⟨hr,g9⟩ kL7 kp9=> ?_
    ·have:=aC1 (m:=r8) (aU0 gs k) λx hx=>aG3.mpr (aL7 G k8 hx)
     have h8:r8.length=8:=rfl
     show 0+(scX gs k).length<=1000
     room
    subst hr
    have g9:=g9.delOff (.inr ⟨oL7,kL7⟩)
    have kp9:=kp8.trans kp9
    clear kL7
    generalize hp7.del (callEnvC (aA2 aF9) L 341).locals=hq7 at g9 kp9
    have s1:(σ4.set (u "k") (.int k)).fz (u "goals")=some (.list (gs.map T.int)):=(by lk:_=σ4.fz (u "goals")).trans r2
    have s2:(σ4.set (u "k") (.int k)).fz (u "text")=some (.str ⟨z.txt.toArray⟩):=(by lk:_=σ4.fz (u "text")).trans r3
    have s3:(σ4.set (u "k") (.int k)).fz (u "sorter")=some (.obj a):=(by lk:_=σ4.fz (u "sorter")).trans r4
    have s4:(σ4.set (u "k") (.int k)).fz (u "ring")=some (aJ2 (aL gs)):=(by lk:_=σ4.fz (u "ring")).trans r5
    have s5:(σ4.set (u "k") (.int k)).fz (u "prepared")=some (aO9 (aL gs)):=(by lk:_=σ4.fz (u "prepared")).trans r6
    have s6:(σ4.set (u "k") (.int k)).fz (u "k")=some (.int k):=by lk
    have s7:(σ4.set (u "k") (.int k)).ow=[(u "stay",z.left.map T.int),(u "given",z.giv),(u "log",y.log)]:=r1
    generalize hf4:σ4.set (u "k") (.int k)=σ5 at s1 s2 s3 s4 s5 s6 s7
    show ExE _ _ _ _ _ ⟨σ5.fz,σ5.ow,hq7⟩ _ _
    have en:(stU gs ns z.D).np k=npX gs z.D k:=rfl
    rw [en] at g9 ⊢
    have e1:RS.one w.params gs z k=if npX gs z.D k= -1 then { z with D:=z.D++[k],txt:=if k=7 then z.txt else aE7 w.params k.toNat (gl gs k).toNat z.txt,giv:=z.giv++[.tup ((aI9 gs z.D k).map T.int)] } else { z with left:=z.left++[k] }:=rfl
    by_cases hn:npX gs z.D k= -1
    ·rw [if_pos hn] at g9 e1
     rw [e1,show (npX gs z.D k == -1)=true by rw [hn]; rfl,if_pos rfl]
     have hrdy:=cC5 (ns:=ns) zk.d k8 hn
     refine ExE.ite _ (b:=k != 7) (TsE.cmp _ (k1:=true) (k2:=true) (EvE.nm W s6) (EvE.int _ _ _) (aE2 _ _ _ _) (by lk)) ?_
     refine ExE.mono (P:=ruD gs a y z (if k=7 then z.txt else aE7 w.params k.toNat (gl gs k).toNat z.txt) hq7) ?_ ?_
     ·by_cases k7:k=7
      ·rw [show (k != 7)=false by simp [k7],if_neg Bool.false_ne_true,if_pos k7]
       exact ExE.nil ⟨rfl,rfl,s7,s1,s2,s3,s4,s5⟩
      ·rw [show (k != 7)=true by simp [k7],if_pos rfl,if_neg k7]
       have kt:((k.toNat:Nat):Int)=k:=by room
       have gr:0<=gl gs k/\gl gs k<=7:=G.rng k.toNat (by room)
       have gt:(((gl gs k).toNat:Nat):Int)=gl gs k:=by have:=gr.1; room
       have hw:=bU5 w os k.toNat (gl gs k).toNat z.txt (by room) (by have:=gr.2; room) (Nat.le_trans zk.txt hcs)
       rw [kt,gt] at hw
       refine ExE.assign _ _ W (t:= .str ⟨(aE7 w.params k.toNat (gl gs k).toNat z.txt).toArray⟩) ?_ (by lk) (λp hp=>by
        have hp:p∈σ5.ow:=hp
        rw [s7] at hp; exact yl _ _ _ _ (by decide) (by decide) (by decide) p hp) (by lk) (ExE.nil ⟨rfl,rfl,s7,(by lk:_=σ5.fz (u "goals")).trans s1,by lk,(by lk:_=σ5.fz (u "sorter")).trans s3,(by lk:_=σ5.fz (u "ring")).trans s4,(by lk:_=σ5.fz (u "prepared")).trans s5⟩)
       refine EvE.callF (n:=2) (o:=bM3) (fd:=aA2 bM3) _ _ W (RD.le (by decide)) (by lk) (by lk) (by lk) (by lk) rfl (by lk) (by lk) ?_ hw
       exact .cons (EvE.nm W s6) (.cons (EvE.idx _ (k1:=true) (k2:=true) (EvE.nm W s1) (EvE.nm W s6) k8.1 (by room) (G.get k8.1 (by room)) (λo j u=>by lk)) (.cons (EvE.nm W s2) .nil))
     intro fl σ6 w1w
     refine cM7 w1w λz1z t0 t1 t2 t3 t4 t5 t6=> ?_
     try clear w1w
     subst z1z
     rw [<- t0] at g9 kp9
     show ExE _ _ _ _ _ σ6 (_::_) _
     have enod:((stU gs ns z.D).done k).nodes=ns:=(aG2 (scX gs k) ((stU gs ns z.D).started k)).1
     have nl:(aI9 gs z.D k).length<=8:=by
      have h1:=List.length_filter_le (λj=>decide ((rmX gs z.D j).length=1)) (scX gs k)
      have h2:=aC1 (m:=r8) (aU0 gs k) λx hx=>aG3.mpr (aL7 G k8 hx)
      have h8:r8.length=8:=rfl
      unfold aI9; room
     refine ExE.appendK (x:=u "given") (ts:=z.giv) _ _ _ _ W (by rw [t1]; lk) (.inl (by lk)) (by lk) (by lk) (by room) (by lk) (by lk) (by lk) (by lk) (by lk) (by lk) ?_
     refine EvK.meth0 (n:=0) (a:=a) (d:=G5.d) (es:=aC3 G5 ((stU gs ns z.D).done k)) (k1:=true) _ _ (way _ kp9) (RD.le (by decide)) (EvE.nc W t4) g9.ins g9.ns (aX7 _) (by lk) (by lk) ?_
     intro oL8 hLL8
     refine (bJ7 w os _ a G5 _ (aI9 gs z.D k) (g9.inFrame hLL8) hrdy (λj hj=>by rw [enod]; exact (hmem j).mpr (aL7 G k8 (List.mem_filter.mp hj).1)) (by room)).mono λr hp8 w1w kL8 kp10=> ?_
     refine aB w1w λhr g10=> ?_
     try clear w1w
     have g10:=bV2 G zk.d k8 hn (g10.delOff (.inr ⟨oL8,kL8⟩))
     refine ⟨_,hr,by show σ6.ow.lookup _=_; rw [t1]; lk, ?_⟩
     refine ExE.nil ?_
     show ExE _ _ _ _ _ _ _ _
     refine ExE.nil ⟨⟨G5,g10⟩,kp9.trans kp10, ?_,t2,t3,t4,t5,t6⟩
     show aM9 _ _ σ6.ow=_
     rw [t1]; lk
    ·rw [if_neg hn] at g9 e1
     rw [e1,show (npX gs z.D k == -1)=false by simp [hn],if_neg Bool.false_ne_true]
     refine ExE.append _ _ _ _ W (x:=u "stay") (ts:=z.left.map T.int) (t:= .int k) ?_ (.inl (by lk)) (by lk) (by lk) (EvE.nm W s6) (by rw [List.length_map]; room) (by lk) (by lk) (by lk) (by lk) (by lk) (by lk) ?_
     ·show σ5.ow.lookup _=_
      rw [s7]; lk
     refine ExE.nil ?_
     show ExE _ _ _ _ _ _ _ _
     refine ExE.nil ⟨⟨G5,g9⟩,kp9, ?_,s1,s2,s3,s4,s5⟩
     show aM9 _ _ σ5.ow=_
     rw [s7,List.map_append]; lk
   ·intro σ4 w1w
    refine cM7 w1w λz1z kp8 r1 r2 r3 r4 r5 r6=> ?_
    try clear w1w
    refine aA3 z1z λG5 g8=> ?_
    try clear z1z
    rw [List.length_map,List.take_length] at g8 r1 r3
    have zl:=(aO5 (P:=w.params) (gs:=gs) y.left { y with left:=[] })
    have zl2:=zl.2
    have zl:(y.left.foldl (RS.one w.params gs) { y with left:=[] }).left.length<=8:=by
     refine Nat.le_trans zl.1 ?_
     show 0+_<=8
     room
    generalize y.left.foldl (RS.one w.params gs) { y with left:=[] }=z at *
    have zl2:z.log=y.log:=zl2
    refine ExE.still (x:=u "stay") (ts:=z.left.map T.int) (by rw [r1]; lk) ?_
    have o1:(σ4.still (u "stay") (z.left.map T.int)).ow=[(u "given",z.giv),(u "log",y.log)]:=by
     show rem _ σ4.ow=_
     rw [r1]; lk
    refine ExE.assign _ _ W (t:= .list (z.left.map T.int)) (EvE.nm W (by lk)) (by lk) (λp hp=>by rw [o1] at hp; exact roff _ _ _ (by decide) (by decide) p hp) (by lk) ?_
    refine ExE.append _ _ _ _ W (x:=u "log") (ts:=y.log) (t:= .tup [.str ⟨z.txt.toArray⟩, .list (z.left.map T.int)]) ?_ (.inl (by lk)) (by lk) (by lk) ?_ (by rw [rk2]; room) (by lk) (by lk) (by lk) (by lk) (by lk) (by lk) ?_
    ·show (σ4.still (u "stay") (z.left.map T.int)).ow.lookup _=_
     rw [o1]; lk
    ·exact EvE.tupD _ _ (.cons (EvE.nm W ((by lk:_=σ4.fz (u "text")).trans r3)) (.cons (EvE.nm W (by lk)) .nil)) (by lk) (by show 2<=sizeLine; decide)
    refine ExE.nil ⟨m - 1,by room,i+1,by room, ?_⟩
    rw [hy1]
    refine ⟨⟨G5,g8⟩,kp8, ?_,(by lk:_=σ4.fz (u "goals")).trans r2,(by lk:_=σ4.fz (u "text")).trans r3,(by lk:_=σ4.fz (u "sorter")).trans r4,by lk,(by lk:_=σ4.fz (u "ring")).trans r5,(by lk:_=σ4.fz (u "prepared")).trans r6⟩
    show aM9 _ _ (σ4.still (u "stay") (z.left.map T.int)).ow=[(u "given",z.giv),(u "log",z.log++[_])]
    rw [o1,zl2]; lk
  ·rw [if_neg (by simp [hlt])]
   have eM:i=M:=by room
   subst eM
   generalize hy:rn w.params gs ord cs i=y at *
   refine ExE.still (x:=u "given") (ts:=y.giv) (by show σ3.ow.lookup _=_; rw [p1]; lk) ?_
   refine ExE.still (x:=u "log") (ts:=y.log) (by show (rem _ σ3.ow).lookup _=_; rw [p1]; lk) ?_
   generalize hs7:Sg.still _ (u "log") y.log=σ7
   have v1:σ7.fz (u "ring")=some (aJ2 (aL gs)):=by rw [<- hs7]; exact (by lk:_=σ3.fz (u "ring")).trans p6
   have v2:σ7.fz (u "prepared")=some (aO9 (aL gs)):=by rw [<- hs7]; exact (by lk:_=σ3.fz (u "prepared")).trans p7
   have v3:σ7.fz (u "log")=some (.list y.log):=by rw [<- hs7]; lk
   have v4:σ7.fz (u "given")=some (.list y.giv):=by rw [<- hs7]; lk
   have v5:σ7.fz (u "sorter")=some (.obj a):=by rw [<- hs7]; exact (by lk:_=σ3.fz (u "sorter")).trans p4
   have v6:σ7.ow=[]:=by rw [<- hs7]; show rem _ (rem _ σ3.ow)=_; rw [p1]; lk
   have g7:Srt σ7.hp a G4 (stU gs ns y.D):=by rw [<- hs7]; exact g7
   have kp7:aA4 hp σ7.hp:=by rw [<- hs7]; exact kp7
   clear hs7
   refine ExE.retH _ ?_
   refine EvH.tupLast (es:=[_,_,_,_]) (ts:=[aJ2 (aL gs),aO9 (aL gs), .list y.log, .list y.giv]) _ _ (.cons (EvE.nm W v1) (.cons (EvE.nm W v2) (.cons (EvE.nm W v3) (.cons (EvE.nm W v4) .nil)))) (by lk) (by show 4+1<=1000; decide) ?_
   refine EvH.compH (cl:=[(u "sorter",L+1)]) (L:=[u "sorter"]) (ts:=aB3 0 8) (f:=λ_=>T.bool false) (J:=λoL i σ'=>σ'.hp (callEnvC (aA2 aF9) L 341).locals=some (.same oL)/\(∃ G',Srt σ'.hp a G' (stU gs ns y.D))/\aA4 (σ7.hp.put (callEnvC (aA2 aF9) L 341).locals (.same oL)) σ'.hp/\σ'.fz (u "sorter")=some (.obj a)/\σ'.ow=[]) _ ⟨Cls.same rfl,by lk,rfl, ?_, ?_, ?_⟩ hcf v6 (ItC.range1 (n:=8) (k1:=true) _ _ W hA (by lk) (by lk) (by lk) (by lk) (EvE.int _ _ _) (by decide)) (λ_ _=>rfl) (λ_=>rfl) (by decide) (λoL i σ' h=>h.1) (λoL hnf hLL=> ?_) (λCm cm oL i t σ' hnf ht hJ=> ?_) (λoL σ' hJ=> ?_)
   ·have:∀ y∈(aS2 (aA0 36)).names,y.2= .local->(aS2 (aA0 36)).names.lookup y.1=some .local:=by decide +kernel
    exact this
   ·have:∀ y∈(aS2 (aA0 36)).names,y.2≠ .cell:=by decide +kernel
    exact this
   ·intro x hx
    rw [List.mem_singleton.mp hx]
    exact ⟨by lk,by lk,by lk⟩
   ·exact ⟨aB5 _ _ _,⟨G4,g7.putOff _ (.inl hLL)⟩,aA4.refl _,by show (if [u "sorter"].contains (u "sorter") then σ7.fz (u "sorter") else none)=_; rw [if_pos (by decide)]; exact v5,rfl⟩
   ·refine aL1 hJ λh1 z1z h3 h4 h5=> ?_
    try clear hJ
    refine aA3 z1z λG5 g8=> ?_
    try clear z1z
    rw [aD8] at ht
    have hi:i<8:=by
     by_cases hi:i<8
     ·exact hi
     ·rw [if_neg hi] at ht; cases ht
    rw [if_pos hi] at ht
    cases ht
    have e0:(0:Int)+(i:Int)=i:=by room
    rw [e0]
    have W2:Own (compEnvC (aS2 (aA0 36)) [(u "sorter",L+1)] Cm (callEnvC (aA2 aF9) L 341)):=⟨rfl,rfl,rfl⟩
    have i8:0<=(i:Int)/\(i:Int)<=7:=by room
    have hp':σ7.hp (callEnvC (aA2 aF9) L 341).locals=none->aA4 σ7.hp σ'.hp:=λhn f o e=>h3 f o (by rw [put_ne _ (λz=>by rw [z,hn] at e; cases e)]; exact e)
    refine ⟨_,aF6.name _ W2 (by lk) (aC2 _ h5), ?_⟩
    refine EvK.callF (n:=1) (a:=336) (o:=bH7) (fd:=aA2 bH7) (as:=[.obj a, .int i]) _ _ W2 ?_ (RD.le (by decide)) (by lk) (by lk) (by lk) (by lk) rfl (by lk) (by lk) ?_ ?_
    ·refine ⟨(callEnvC (aA2 aF9) L 341)::lf,(way _ kp7).fr,λe he=> ?_⟩
     rcases List.mem_cons.mp he with rfl | he
     ·exact ⟨(way _ kp7).kind,L,oL,rfl,h1,hnf⟩
     ·refine aB (hlow e he) λc h9=>aB0 h9 λf o d1 d2 d3=> ?_
      refine ⟨c,f,o,d1,h3 f o ?_,d3⟩
      rw [put_ne _ (λz=>by
       rw [z] at d2
       have:hp L=some (.same o):=d2
       rw [hL] at this; cases this)]
      exact kp7 f o d2
    ·exact .cons (EvE.nc W2 ((by lk:_=σ'.fz (u "sorter")).trans h4)) (.cons (EvE.nm W2) .nil)
    ·have hn:npX gs y.D (i:Int)≠ -1:=hend _ i8.1 i8.2
     refine (bQ8 w os _ a G5 (stU gs ns y.D) [] i g8 rfl ((hmem _).mpr i8) i8.1 (by room) (aU2 gs y.D i) (λj hj=>(hmem j).mpr (aL7 G i8 hj)) ?_).mono λr hp9 ⟨hr,g9⟩=> ?_
     ·have:=aC1 (m:=r8) (aU0 gs i) λx hx=>aG3.mpr (aL7 G i8 hx)
      have h8:r8.length=8:=rfl
      show 0+(scX gs i).length<=1000
      room
     ·have en:(stU gs ns y.D).np i=npX gs y.D i:=rfl
      rw [en,if_neg hn] at g9
      refine ⟨_,hr,λkp9=>⟨?_,kp9 _ _ h1,⟨G5,g9⟩,h3.trans kp9,(by lk:_=σ'.fz (u "sorter")).trans h4,h5⟩⟩
      rw [en,show (npX gs y.D (i:Int) == -1)=false by simp [hn]]
   ·refine aL1 hJ λh1 z1z h3 h4 h5=> ?_
    try clear hJ
    refine aA3 z1z λG5 g8=> ?_
    try clear z1z
    refine ⟨_,rfl,λf o e=> ?_, ?_⟩
    ·have ne:f≠(callEnvC (aA2 aF9) L 341).locals:=λz=>by
      rw [z] at e
      have:hp L=some (.same o):=e
      rw [hL] at this; cases this
     show (if f=_ then none else σ'.hp f)=_
     rw [if_neg ne]
     exact h3 f o (by rw [put_ne _ ne]; exact kp7 f o e)
    ·have:(aB3 0 8).map (λ_=>T.bool false)=(List.range 8).map λ_=>T.bool false:=by rfl
     rw [this]; rfl
mutual
noncomputable def dT:T->Nat
 | .list l=>dTs l+1
 | .tup l=>dTs l+1
 | _=>0
noncomputable def dTs:List T->Nat
 | []=>0
 | t::l=>max (dT t) (dTs l)
end
theorem aM0 {l:List T}{n:Nat}(h:dTs l<=n):dT (.list l)<=n+1:=Nat.succ_le_succ h
theorem cD1 {l:List T}{n:Nat}(h:dTs l<=n):dT (.tup l)<=n+1:=Nat.succ_le_succ h
theorem aS3 {n:Nat}:dTs []<=n:=Nat.zero_le n
theorem aE1 {t:T}{l:List T}{n:Nat}(h:dT t<=n)(k:dTs l<=n):dTs (t::l)<=n:=Nat.max_le.mpr ⟨h,k⟩
theorem cK0 {a b:List T}{n:Nat}(h:dTs a<=n)(k:dTs b<=n):dTs (a++b)<=n:=by
 induction a with
 | nil=>exact k
 | cons t a ih=>exact aE1 (Nat.le_trans (Nat.le_max_left _ _) h) (ih (Nat.le_trans (Nat.le_max_right _ _) h))
theorem bG1 {α:Type}(f:α->T){n:Nat}(h:∀ i,dT (f i)<=n)(l:List α):dTs (l.map f)<=n:=by
 induction l with
 | nil=>exact aS3
 | cons t l ih=>exact aE1 (h t) ih
theorem aS4 {n:Nat}(l:List Int):dTs (l.map T.int)<=n:=bG1 _ (λ_=>Nat.zero_le _) l
theorem aS5:∀ l:List Nat,(l.all λ_=>true)=true
 | []=>rfl
 | _::l=>aS5 l
open PySem.SeqAt in
theorem eqV {B:PM}{s:Shared}(su:∀ a o,B a=some o->s.heap.get? a=some o){vs:List Value}{ts:List T}(h:aA6 B vs ts):∀ (A:Around) (vs':List Value),aA6 B vs' ts->A.units+dTs ts<cLine->∀ (j:Nat) (h1:j<vs.length) (h2:j<vs'.length),EqAt A s vs[j] vs'[j] true:=by
 refine aA6.rec (motive_1:=λv t _=>∀ (A:Around) (v':Value),Val B v' t->A.units+dT t<cLine->EqAt A s v v' true) (motive_2:=λvs ts _=>∀ (A:Around) (vs':List Value),aA6 B vs' ts->A.units+dTs ts<cLine->∀ (j:Nat) (h1:j<vs.length) (h2:j<vs'.length),EqAt A s vs[j] vs'[j] true)
  ?_ ?_ ?_ ?_ ?_ ?_ ?_ ?_ ?_ h
 ·intro A v' h _; rw [show v'=_ from h.inv]; exact EqAt.same _
 ·intro b A v' h _; rw [show v'=_ from h.inv]; exact EqAt.same _
 ·intro i k A v' h _
  refine aA3 h.inv λk' e=> ?_
  have:=EqAt.int_int (A:=A) (s:=s) i k i k'
  rw [beq_self_eq_true] at this; rw [e]; exact this
 ·intro i k A v' h _
  refine aA3 h.inv λk' e=> ?_
  have:=EqAt.str_str (A:=A) (s:=s) i k i k'
  rw [beq_self_eq_true] at this; rw [e]; exact this
 ·intro a A v' h _; rw [show v'=_ from h.inv]; exact EqAt.same _
 ·intro a o vs ts h i d V ih A v' h' hu
  refine bG6 h'.inv λb o' vs' e h' i' d' V'=> ?_
  have hu:A.units+(dTs ts+1)<cLine:=hu
  rw [e]
  by_cases e:a=b
  ·rw [e]; exact EqAt.same _
  ·have hl:=V.length.trans V'.length.symm
   have:=RcAt.lists (A:=A) (s:=s) (e:=λ_=>true) ⟨_,su _ _ h,i.1,i.2⟩ ⟨_,su _ _ h',i'.1,i'.2⟩ (by simpa using hl) (by room) λj h1 h2=>by
    simpa using ih A.in1 _ V' (by show A.units+1+dTs ts<cLine; room) j (by simpa using h1) (by simpa using h2)
   rw [aS5] at this
   exact EqAt.of_refs e this
 ·intro a o vs ts h i V ih A v' h' hu
  refine bL4 h'.inv λb o' vs' e h' i' V'=> ?_
  have hu:A.units+(dTs ts+1)<cLine:=hu
  rw [e]
  by_cases e:a=b
  ·rw [e]; exact EqAt.same _
  ·have hl:=V.length.trans V'.length.symm
   have:=RcAt.tuples (A:=A) (s:=s) (e:=λ_=>true) ⟨_,su _ _ h,i.1,i.2⟩ ⟨_,su _ _ h',i'.1,i'.2⟩ (by room) λj h1 h2=>by
    simpa using ih A.in1 _ V' (by show A.units+1+dTs ts<cLine; room) j (by simpa using h1) (by simpa using h2)
   rw [aS5,show (vs.toArray.size == _)=true from by simpa using hl] at this
   exact EqAt.of_refs e this
 ·intro A vs' _ _ j h1; exact absurd h1 (Nat.not_lt_zero _)
 ·intro v t vs ts hv r iv ir A vs' h' hu j h1 h2
  refine aB0 h'.inv λv' r' z1z a b=> ?_
  subst z1z
  cases j with
  | zero=>exact iv A v' a (Nat.lt_of_le_of_lt (Nat.add_le_add_left (Nat.le_max_left _ _) _) hu)
  | succ j=>exact ir A r' b (Nat.lt_of_le_of_lt (Nat.add_le_add_left (Nat.le_max_right _ _) _) hu) j (Nat.lt_of_succ_lt_succ h1) (Nat.lt_of_succ_lt_succ h2)
open PySem.SeqAt in
theorem bV3 {w:World}{A:Around}{h0:aA8}{env:Env}{os:OsState}(ts:List T)(hu:A.units+dTs ts+1<cLine):aF2 w A h0 env os .Eq true true (.tup ts) (.tup ts) true:=λB O m cm s va vb Q E F V1 V2 q=>by
 refine aB0 (Val.tupAt F V1) λa vs z1z i1 W1=> ?_
 subst z1z
 refine aB0 (Val.tupAt F V2) λb us z1z i2 W2=> ?_
 subst z1z
 have hl:=W1.length.trans W2.length.symm
 have:=RcAt.tuples (A:=A) (s:=s) (e:=λ_=>true) i1 i2 (by room) λj h1 h2=>by
  simpa using eqV F.sub W1 A.in1 _ W2 (by show A.units+1+dTs ts<cLine; room) j (by simpa using h1) (by simpa using h2)
 rw [aS5,show (vs.toArray.size == _)=true from by simpa using hl] at this
 exact this _ _ _ _ (q _ B (.refl B) F)
section
variable {w:World}{A:Around}{h0:aA8}{env:Env}{os:OsState}{k:Bool}{σ:Sg}{scope:Scope}{cl:List (Str×Addr)}{PC:List Addr}{L:List Str}
theorem bP {elts:List Expr}{n:Nat}{tp:Pos}{elt iter:Expr}{pos:Pos}{it D al:Addr}{ol:Obj}{vs0:List Value}{ts:List T}{f:T->T}{K:(Str->Option Value)->Prop}{B1:PM}{Oi X:OL}{m cm:NM}{s:Shared}{oD:Obj}{RR:Result->Shared->Prop}
  (hA:A.handled=none) (hBl:B1 al=some ol) (il:isL ol vs0) (Vs:aA6 B1 vs0 ts) (hsz:ts.length<=sizeLine)
  (turn:∀ t∈ts,(∃ us,t= .tup us)/\∃ σ2,aF6 w A h0 env os (.Tuple elts n tp) K σ t σ2/\EvE w A h0 env os true σ2 elt (f t))
  (R0:∀ B' m' cm',B1.le B'->K cm'->Rl env σ B' Oi m' cm') (F:Fm w h0 env B1 (Oi++(it,{ cls:= .type "list_iterator",data:= .fields #[.ref al, .int 0 0] })::(D,oD)::X) m cm os s) (K0:K cm) (hD:isO oD [])
  (fin:∀ B' oD' vs m' cm' s',B1.le B'->K cm'->isO oD' vs->aA6 B' vs (ts.map f)->Fm w h0 env B' (Oi++(D,oD')::X) m' cm' os s'->RR (.ok .next) s'):
  codeAny (model pw w) A (.compLoop (.ListComp elt [⟨.Tuple elts n tp,iter,[],0⟩] scope pos) 0 (.ref it) (.ref D) env) RR s:=by
 let I:Nat->Obj->Prop:=λi o=>o.cls= .type "list_iterator" /\o.data= .fields #[.ref al, .int i 0]
 let Iv:Nat->Shared->Prop:=λn s=>∃ i B' m' cm' o' oD' vs,n=ts.length - i/\i<=ts.length/\B1.le B'/\K cm'/\Fm w h0 env B' (Oi++(it,o')::(D,oD')::X) m' cm' os s/\I i o'/\isO oD' vs/\aA6 B' vs ((ts.take i).map f)
 refine LCp.codeAny_compLoop_pair Iv (λn s hI=> ?_) (ts.length - 0) ⟨0,B1,m,cm,_,oD,[],rfl,Nat.zero_le _, .refl _,K0,F,⟨rfl,rfl⟩,hD, .nil⟩
 refine cU1 hI λi B2 m2 cm2 o2 oD2 vs2 z1z hi l2 K2 F2 I2 iD V2=> ?_
 try clear hI
 subst z1z
 have hl:s.heap.IsList al vs0.toArray:=⟨ol,F2.sub _ _ (l2 _ _ hBl),il.1,il.2⟩
 have hitr:s.heap.IsListIter it al i:=⟨o2,F2.opn _ (List.mem_append.mpr (.inr (.head _))),I2.1,I2.2⟩
 cases ht:ts[i]? with
 | none=>
  have hlen:i=ts.length:=by rw [List.getElem?_eq_none_iff] at ht; room
  have hv:vs0.toArray[i]? =none:=by
   rw [List.getElem?_toArray,List.getElem?_eq_none_iff]
   rw [Vs.length]; room
  refine wpAny_pyNext_list_end hA hitr hl hv λh' hs=> ?_
  rw [hlen,List.take_length] at V2
  exact fin B2 oD2 vs2 m2 cm2 _ l2 K2 iD V2 (F2.drop hs s.toks)
 | some t=>
  have hlt:i<ts.length:=by
   rw [List.getElem?_eq_some_iff] at ht; exact ht.1
  refine aB (turn t (List.mem_of_getElem? ht)) λz1z h9=>aA1 h9 λσ3 hb hel=> ?_
  refine aA3 z1z λus z1z=> ?_
  subst z1z
  refine aA1 ((Vs.mono l2).get ht) λv hv Vv=> ?_
  refine wpAny_pyNext_list_item hitr hl (by simpa using hv) λh' it' hs=> ?_
  refine aC8 (id it') λo3 ho' c' d'=> ?_
  have F3:=aF7 F2 ho' hs s.toks
  have hvr:∃ tv,v= .ref tv:=by cases Vv with | tup h i vs=>exact ⟨_,rfl⟩
  refine aA3 hvr λtv z1z=> ?_
  try clear hvr
  subst z1z
  refine wpAny_letOwnedTupleGo_listiter it' ?_
  refine hb B2 Oi ((it,o3)::(D,oD2)::X) m2 cm2 _ (.ref tv) _ _ K2 F3 (R0 _ _ _ l2 K2) Vv λs4 m4 cm4 K4 F4 R4=> ?_
  refine hel B2 _ m4 cm4 s4 _ _ F4 (R4.rel _) λy s6 B6 l6 F6 Vy=> ?_
  refine aT6 F6 iD (V2.mono l6) Vy (N:=ts.length) (by rw [List.length_map,List.length_take]; room) hsz λs7 oD7 iD7 V7 F7=> ?_
  refine ⟨ts.length - (i+1),by room,i+1,B6,m4,cm4,o3,_,vs2++[y],rfl,hlt,l2.trans l6,K4,F7,⟨c',d'⟩,iD7, ?_⟩
  rw [List.take_add_one,ht,List.map_append]
  exact V7
theorem EvE.compP {elts:List Expr}{n:Nat}{tp:Pos}{elt iter:Expr}{ts:List T}{f:T->T}(pos:Pos)(c:aK0 scope env cl PC L)(hcf:∀ x c,env.cells.lookup x=some c->h0.h c=none)(hA:A.handled=none)
  (he:EvE w A h0 env os true σ iter (.list ts)) (hfs:∀ x,foldedSetIterable iter env x=pure x) (hsz:ts.length<=sizeLine)
  (turn:∀ (K:(Str->Option Value)->Prop) (Cm:Addr),∀ t∈ts,(∃ us,t= .tup us)/\∃ σ2,aF6 w A h0 (compEnvC scope cl Cm env) os (.Tuple elts n tp) K (σ.inn L) t σ2/\EvE w A h0 (compEnvC scope cl Cm env) os true σ2 elt (f t)):
  EvE w A h0 env os k σ (.ListComp elt [⟨.Tuple elts n tp,iter,[],0⟩] scope pos) (.list (ts.map f)):=λB O m cm s Q E F R q=>by
 rw [eval_ListComp]
 refine wpAny_comprehension_free (use:=none) rfl hfs c.clos c.kind c.names (he B O m cm s _ E F R λv s1 B1 l1 F1 V=> ?_)
 refine aB0 (VR.list F1 V) λa vs z1z Lt Vs=> ?_
 subst z1z
 have hB:∃ o,B1 a=some o/\isL o vs:=by
  cases V with
  | list h i d vs'=>
   refine aC8 Lt λo ho hc h9=>aA3 h9 λn hd=> ?_
   try clear Lt
   have e:=F1.sub _ _ h
   rw [ho] at e; cases e
   exact ⟨_,h,hc,n,hd⟩
 refine aA1 hB λol hBl il=> ?_
 try clear hB
 refine wpAny_pyIter_list Lt ?_
 have F1':=F1.pushO (o:={ cls:= .type "list_iterator",data:= .fields #[.ref a, .int 0 0] }) rfl s1.toks
 refine aN0 (RR:=λacc C=>compPost (model pw w) A E none Q acc C) (us:=ts.map f) c hcf (λCm D Oi X s R2 oD hR F hD fin=> ?_) F1' (R.mono l1) (λs2 Q2 E2 e h=>wpAny_pyIter_listiter (l:=a) (i:=0) ⟨_,e,rfl,rfl⟩ h) λB' D Cm oD oC vs s' l iD V F7 hn=> ?_
 ·exact bP (K:=λcm'=>∀ x,(cl.lookup x).isSome=true->cm' x=cm x) hA hBl il Vs hsz (turn _ Cm) hR F (λx hx=>if_pos hx) hD fin
 refine aA3 hn λmm hn=> ?_
 refine ⟨mm,hn,λh' hsb=> ?_⟩
 have F8:Fm w h0 env B' ([]++(D,oD)::O) m cm os { s' with heap:=h',toks:=s'.toks }:=Fm.drop (O:=[]) F7 hsb.extBut s'.toks
 have F9:=F8.freeze
 have ld:B'.le (B'.put D oD):=PM.le_put oD (F8.offO (D,oD) (.head _)).1
 refine q _ _ (B'.put D oD) ((l1.trans l).trans ld) F9 (.of (.list (PM.put_self ..) iD.isL ?_ (V.mono ld)))
 refine aA3 iD λn z1z=> ?_
 try clear iD
 subst z1z
 rfl
end
noncomputable def nxt (gs:List Int)(a:Int):Int:=if gs.getD a.toNat 0 == a then 7 else gs.getD a.toNat 0
noncomputable def aU3 (gs:List Int)(a:Int):Bool:=((aB6 gs).getD a.toNat []).isEmpty
noncomputable def aU4 (gs ord:List Int):Nat->Int->Int->List Int->List Int
 | 0,_,_,sw=>sw
 | n+1,a,s,sw=>if a != 7 && aU3 gs a then
   aU4 gs ord n (nxt gs a) (if nxt gs a != 7 && decide (((ord.idxOf (nxt gs a):Nat):Int)<(ord.idxOf a:Nat)) then s+1 else s)
    (sw.set a.toNat (if s > sw.getD a.toNat 0 then s else sw.getD a.toNat 0))
  else sw
noncomputable def sw7 (gs ord:List Int):Nat->List Int
 | 0=>[0,0,0,0,0,0,0]
 | k+1=>aU4 gs ord 8 k 1 (sw7 gs ord k)
theorem bK6 (gs ord:List Int):∀ n a s sw,(aU4 gs ord n a s sw).length=sw.length
 | 0,_,_,_=>rfl
 | n+1,a,s,sw=>by
  rw [aU4.eq_2]
  split
  ·rw [bK6]; simp
  ·rfl
theorem aG7 (gs ord:List Int):∀ k,(sw7 gs ord k).length=7
 | 0=>rfl
 | k+1=>by rw [sw7.eq_2]; rw [bK6]; exact aG7 gs ord k
noncomputable def aL0:List Int->Int
 | []=>0
 | [a]=>a
 | a::l=>if aL0 l > a then aL0 l else a
noncomputable def aA5 (gs ord:List Int):List Int:=sw7 gs ord 7++[if (sw7 gs ord 7).any (· == 0) then 0 else aL0 (sw7 gs ord 7)]
theorem aM1:∀ l:List Int,l≠[]->aL0 l∈l/\∀ a∈l,a<=aL0 l
 | [],h=>absurd rfl h
 | [a],_=>by simp [aL0.eq_2]
 | a::b::l,_=>by
  obtain ⟨h1,h2⟩:=aM1 (b::l) (by simp)
  have e:aL0 (a::b::l)=if aL0 (b::l) > a then aL0 (b::l) else a:=rfl
  rw [e]
  split
  ·refine ⟨.tail _ h1,λx hx=> ?_⟩
   rcases List.mem_cons.mp hx with rfl | hx
   ·room
   ·exact h2 x hx
  ·refine ⟨.head _,λx hx=> ?_⟩
   rcases List.mem_cons.mp hx with rfl | hx
   ·room
   ·have:=h2 x hx; room
structure aZ5 (ord:List Int):Prop where
 all:∀ a:Int,0<=a->a<7->a∈ord
 len:ord.length=7
 lay:PyData.layable0 (.list (ord.map .int))=true
noncomputable abbrev swA (gs ord:List Int)(a:Addr)(i:Nat)(σ:Sg):Prop:=σ.fz (u "goals")=some (.list (gs.map T.int))/\σ.fz (u "order")=some (.list (ord.map T.int))/\σ.fz (u "rings")=some (aJ8 gs)/\σ.fz (u "sweeps")=some (.obj a)/\σ.ow=[]/\σ.hp a=some (obL ((sw7 gs ord i).map T.int))
noncomputable abbrev swB (gs ord:List Int)(a:Addr)(i n:Nat)(σ:Sg):Prop:=∃ j at_ sw s,j+n=8/\(at_=7\/(at_=it gs j i/\∀ i',i'<j->Mid gs (it gs i' i)))/\0<=at_/\at_<=7/\sw.length=7/\aU4 gs ord n at_ s sw=aU4 gs ord 8 i 1 (sw7 gs ord i)/\σ.fz (u "at")=some (.int at_)/\σ.fz (u "sweep")=some (.int s)/\
    σ.fz (u "goals")=some (.list (gs.map T.int))/\σ.fz (u "order")=some (.list (ord.map T.int))/\σ.fz (u "rings")=some (aJ8 gs)/\σ.fz (u "sweeps")=some (.obj a)/\σ.ow=[]/\σ.hp a=some (obL (sw.map T.int))
noncomputable abbrev swC (gs ord:List Int)(a:Addr)(at_ s:Int)(sw':List Int)(fl:Fl)(σ':Sg):Prop:=fl= .next/\σ'.fz (u "goal")=some (.int (nxt gs at_))/\σ'.fz (u "at")=some (.int at_)/\σ'.fz (u "sweep")=some (.int s)/\σ'.fz (u "goals")=some (.list (gs.map T.int))/\σ'.fz (u "order")=some (.list (ord.map T.int))/\
     σ'.fz (u "rings")=some (aJ8 gs)/\σ'.fz (u "sweeps")=some (.obj a)/\σ'.ow=[]/\σ'.hp a=some (obL (sw'.map T.int))
noncomputable abbrev swD (gs ord:List Int)(a:Addr)(at_ s1:Int)(sw':List Int)(fl:Fl)(σ':Sg):Prop:=fl= .next/\σ'.fz (u "goal")=some (.int (nxt gs at_))/\σ'.fz (u "sweep")=some (.int s1)/\σ'.fz (u "goals")=some (.list (gs.map T.int))/\σ'.fz (u "order")=some (.list (ord.map T.int))/\
     σ'.fz (u "rings")=some (aJ8 gs)/\σ'.fz (u "sweeps")=some (.obj a)/\σ'.ow=[]/\σ'.hp a=some (obL (sw'.map T.int))
theorem bV4 (w:World)(os:OsState)(gs ord:List Int)(G:aA9 gs)(Or:aZ5 ord):FnE w os 0 286 [.list (gs.map T.int), .list (ord.map T.int),aJ8 gs] (.list ((aA5 gs ord).map T.int)):=by
 refine aB9 (o:=bH4) (fd:=aA2 bH4) (body:=aB1 (aA0 27)) (c:=285) (oc:=cX) [u "goals",u "order",u "rings"] (by lk) rfl rfl (by lk) rfl rfl rfl
  (al3 λ_ _ _=>by lk) rfl (by decide) (by lk) (by lk) rfl rfl rfl rfl λA h0 L RA=> ?_
 have W:Own (callEnv (aA2 bH4) L 286):=⟨rfl,rfl,rfl⟩
 have hz:sizeLine=16777216:=by decide
 have hA:(A.deeper (callEnv (aA2 bH4) L 286)).handled=none:=RA.handled
 have RD:(A.deeper (callEnv (aA2 bH4) L 286)).units<cLine:=RA.in_
 refine ExE.newL _ _ _ W (ts:=[0,0,0,0,0,0,0].map T.int) ?_ ?_ ?_ ?_ ?_ λa ha=> ?_
 ·iterate 7 (refine aC4.cons (EvE.int _ _ _) ?_)
  exact aC4.nil
 ·lk
 ·decide
 ·lk
 ·exact λp hp=>absurd hp List.not_mem_nil
 refine ExE.for_ (ts:=aB3 0 7) (J:=swA gs ord a) _ ?_ ?_ ?_ ?_ ?_ ?_
 ·exact ItE.range1 (n:=7) (k1:=true) _ _ W hA (by lk) (by lk) (by lk) (by lk) (EvE.int _ _ _) (by decide)
 ·exact ⟨by lk,by lk,by lk,by lk,rfl,if_pos rfl⟩
 ·exact λit v=>rfl
 ·exact λx=>rfl
 ·intro i t σ1 ht w1w
  refine cF w1w λj1 j2 j3 j4 j5 j6=> ?_
  try clear w1w
  rw [aD8] at ht
  by_cases hi:i<7
  ·rw [if_pos hi] at ht
   cases ht
   have e0:0+(i:Int)=i:=by room
   rw [e0]
   have hno:∀ x:Str,∀ p∈σ1.ow,p.1≠x:=by rw [j5]; exact λx p hp=>absurd hp List.not_mem_nil
   refine ⟨_,aF5.name _ W (by lk) (hno _), ?_⟩
   refine ExE.assign _ _ W (t:= .int i) (EvE.nm W) ?_ ?_ ?_ ?_
   ·lk
   ·exact hno _
   ·lk
   refine ExE.assign _ _ W (t:= .int 1) (EvE.int _ _ _) ?_ ?_ ?_ ?_
   ·lk
   ·exact hno _
   ·lk
   refine ExE.while_ (J:=swB gs ord a i) 8 _ ?_ ?_
   ·refine ⟨0,i,sw7 gs ord i,1,rfl, .inr ⟨rfl,λi' h=>absurd h (Nat.not_lt_zero _)⟩,by room,by room,aG7 _ _ _,rfl,by lk,by lk,(by lk:_=σ1.fz (u "goals")).trans j1,(by lk:_=σ1.fz (u "order")).trans j2,(by lk:_=σ1.fz (u "rings")).trans j3,(by lk:_=σ1.fz (u "sweeps")).trans j4,j5,j6⟩
   intro n σ2 w1w
   refine cU w1w λj at_ sw s hj hpa a0 a7 hsl hgo q1 q2 q3 q4 q5 q6 q7 q8=> ?_
   try clear w1w
   have hgt:∀ {σ:Sg} {x:Str},σ.fz (u "goals")=some (.list (gs.map T.int))->True:=λ_=>trivial
   refine ⟨at_ != 7 && aU3 gs at_, ?_, ?_, ?_⟩
   ·refine TsE.and2 _ ?_ (λh7=> ?_)
    ·refine TsE.cmp _ (k1:=true) (k2:=true) (EvE.nm W q1) (EvE.int _ _ _) (aE2 _ _ _ _) ?_
     lk
    ·have h7:at_≠7:=by simpa using h7
     unfold aU3
     rw [<- aF3 T.int]
     refine TsE.cmp _ (k1:=true) (k2:=true) ?_ (EvE.listD _ .nil ?_ ?_) (aN9 RD _ _ _) ?_
     ·refine EvE.idx _ (k1:=true) (k2:=true) (EvE.nm W q5) (EvE.nm W q1) a0 ?_ (aL4 gs a0 (by room)) ?_
      ·room
      ·exact λo j u=>by lk
     ·lk
     ·decide
     ·lk
   ·intro hb
    have hb':=hb
    rw [Bool.and_eq_true] at hb
    have h7:at_≠7:=by simpa using hb.1
    have hlt:at_<7:=by room
    cases n with
    | zero=>
     exfalso
     rcases hpa with h | ⟨h,hm⟩
     ·exact h7 h
     ·have:=aR0 G (k:=i) (by room) (by room) hm
      room
    | succ n=>
    have hswt:(sw.map T.int)[at_.toNat]? =some (.int (sw.getD at_.toNat 0)):=by
     rw [List.getElem?_map,List.getElem?_eq_getElem (by room:at_.toNat<sw.length),List.getD_eq_getElem?_getD,List.getElem?_eq_getElem (by room:at_.toNat<sw.length)]
     rfl
    refine ExE.setL _ _ _ W (a:=a) (ts:=sw.map T.int) (n:=at_) (k2:=true) (t:= .int (if s > sw.getD at_.toNat 0 then s else sw.getD at_.toNat 0)) q6 q8 ?_ (EvE.nm W q1) a0 ?_ ?_ ?_ ?_ ?_ ?_ ?_
    ·refine EvE.max2 _ _ W hA ?_ ?_ ?_ ?_ ?_ (k1:=true) (k2:=true) ?_ (EvE.nm W q2)
     ·lk
     ·lk
     ·lk
     ·lk
     ·lk
     ·refine EvE.idx _ (k1:=false) (k2:=true) (EvE.objL W q8 q6) (EvE.nm W q1) a0 ?_ hswt ?_
      ·room
      ·exact λo j u=>by lk
    ·room
    ·simp; room
    ·lk
    ·lk
    ·lk
    ·lk
    have hn2:∀ x:Str,∀ p∈σ2.ow,p.1≠x:=by rw [q7]; exact λx p hp=>absurd hp List.not_mem_nil
    refine ExE.assign _ _ W (t:= .int (gs.getD at_.toNat 0)) ?_ ?_ ?_ ?_ ?_
    ·refine EvE.idx _ (k1:=true) (k2:=true) (EvE.nm W q3) (EvE.nm W q1) a0 ?_ (G.get a0 hlt) ?_
     ·room
     ·exact λo j u=>by lk
    ·lk
    ·exact hn2 _
    ·lk
    generalize hsw':sw.set at_.toNat (if s > sw.getD at_.toNat 0 then s else sw.getD at_.toNat 0)=sw'
    have hset:(sw.map T.int).set at_.toNat (.int (if s > sw.getD at_.toNat 0 then s else sw.getD at_.toNat 0))=sw'.map T.int:=by rw [<- hsw',List.map_set]
    rw [hset]
    refine ExE.ite _ (b:=gs.getD at_.toNat 0 == at_) ?_ ?_
    ·refine TsE.cmp _ (k1:=true) (k2:=true) (EvE.nm W) (EvE.nm W ((by lk:_=σ2.fz (u "at")).trans q1)) (aB4 _ _ _ _) ?_
     lk
    refine ExE.mono (P:=swC gs ord a at_ s sw') ?_ ?_
    ·cases hc:(gs.getD at_.toNat 0 == at_) with
     | true=>
      refine ExE.assign _ _ W (t:= .int 7) (EvE.int _ _ _) ?_ ?_ ?_ ?_
      ·lk
      ·exact hn2 _
      ·lk
      refine ExE.nil ⟨rfl, ?_,(by lk:_=σ2.fz (u "at")).trans q1,(by lk:_=σ2.fz (u "sweep")).trans q2,(by lk:_=σ2.fz (u "goals")).trans q3,(by lk:_=σ2.fz (u "order")).trans q4,(by lk:_=σ2.fz (u "rings")).trans q5,(by lk:_=σ2.fz (u "sweeps")).trans q6,q7,if_pos rfl⟩
      unfold nxt
      rw [hc,if_pos rfl]
      lk
     | false=>
      refine ExE.nil ⟨rfl, ?_,(by lk:_=σ2.fz (u "at")).trans q1,(by lk:_=σ2.fz (u "sweep")).trans q2,(by lk:_=σ2.fz (u "goals")).trans q3,(by lk:_=σ2.fz (u "order")).trans q4,(by lk:_=σ2.fz (u "rings")).trans q5,(by lk:_=σ2.fz (u "sweeps")).trans q6,q7,if_pos rfl⟩
      unfold nxt
      rw [hc,if_neg (by decide)]
      lk
    intro fl σ3 w1w
    refine cT8 w1w λz1z r1 r2 r3 r4 r5 r6 r7 r8 r9=> ?_
    try clear w1w
    subst z1z
    show ExE _ _ _ _ _ _ _ _
    have hg:=G.rng at_.toNat (by room)
    have hnx:0<=nxt gs at_/\nxt gs at_<=7:=by unfold nxt; split<;>room
    have hn3:∀ x:Str,∀ p∈σ3.ow,p.1≠x:=by rw [r8]; exact λx p hp=>absurd hp List.not_mem_nil
    refine ExE.ite _ (b:=nxt gs at_ != 7 && decide (((ord.idxOf (nxt gs at_):Nat):Int)<(ord.idxOf at_:Nat))) ?_ ?_
    ·refine TsE.and2 _ ?_ (λh7'=> ?_)
     ·refine TsE.cmp _ (k1:=true) (k2:=true) (EvE.nm W r1) (EvE.int _ _ _) (aE2 _ _ _ _) ?_
      lk
     ·have h7':nxt gs at_≠7:=by simpa using h7'
      refine TsE.cmp _ (k1:=true) (k2:=true) ?_ ?_ (aW5 _ _ _ _) ?_
      ·refine EvE.index _ _ (k2:=true) (EvE.nm W r5) (EvE.nm W r1) (Or.all _ hnx.1 (by room)) Or.lay ?_ ?_ ?_
       ·lk
       ·lk
       ·lk
      ·refine EvE.index _ _ (k2:=true) (EvE.nm W r5) (EvE.nm W r2) (Or.all _ a0 hlt) Or.lay ?_ ?_ ?_
       ·lk
       ·lk
       ·lk
      ·lk
    generalize hbk:(nxt gs at_ != 7 && decide (((ord.idxOf (nxt gs at_):Nat):Int)<(ord.idxOf at_:Nat)))=bk
    refine ExE.mono (P:=swD gs ord a at_ (if bk then s+1 else s) sw') ?_ ?_
    ·cases bk with
     | true=>
      refine ExE.assign _ _ W (t:= .int (s+1)) ?_ ?_ ?_ ?_ ?_
      ·exact EvE.add _ (k1:=true) (k2:=true) (EvE.nm W r3) (EvE.int _ _ _)
      ·lk
      ·exact hn3 _
      ·lk
      exact ExE.nil ⟨rfl,(by lk:_=σ3.fz (u "goal")).trans r1,by lk,(by lk:_=σ3.fz (u "goals")).trans r4,(by lk:_=σ3.fz (u "order")).trans r5,(by lk:_=σ3.fz (u "rings")).trans r6,(by lk:_=σ3.fz (u "sweeps")).trans r7,r8,r9⟩
     | false=>exact ExE.nil ⟨rfl,r1,r3,r4,r5,r6,r7,r8,r9⟩
    intro fl σ4 w1w
    refine dF9 w1w λz1z p1 p3 p4 p5 p6 p7 p8 p9=> ?_
    try clear w1w
    subst z1z
    show ExE _ _ _ _ _ _ _ _
    refine ExE.assign _ _ W (t:= .int (nxt gs at_)) (EvE.nm W p1) ?_ ?_ ?_ ?_
    ·lk
    ·rw [p8]; exact λp hp=>absurd hp List.not_mem_nil
    ·lk
    refine ExE.nil ⟨n,Nat.lt_succ_self _,j+1,nxt gs at_,sw',(if bk then s+1 else s),by room, ?_,hnx.1,hnx.2,by rw [<- hsw']; simpa using hsl, ?_,by lk,(by lk:_=σ4.fz (u "sweep")).trans p3,(by lk:_=σ4.fz (u "goals")).trans p4,(by lk:_=σ4.fz (u "order")).trans p5,(by lk:_=σ4.fz (u "rings")).trans p6,(by lk:_=σ4.fz (u "sweeps")).trans p7,p8,p9⟩
    ·rcases hpa with h | ⟨h,hm⟩
     ·exact absurd h h7
     ·by_cases hs:gs.getD at_.toNat 0=at_
      ·refine .inl ?_
       unfold nxt; rw [if_pos (by rw [hs]; simp)]
      ·refine .inr ?_
       have hst:st gs at_=gs.getD at_.toNat 0:=by unfold st; rw [if_neg h7]
       have hx:nxt gs at_=gs.getD at_.toNat 0:=by unfold nxt; rw [if_neg (by simpa using hs)]
       refine ⟨by rw [aD9,<-h,hst,hx],λi' hi'=> ?_⟩
       rcases Nat.lt_succ_iff_lt_or_eq.mp hi' with q | q
       ·exact hm i' q
       ·rw [q,<-h]; exact ⟨h7,(aD5 G a0 hlt).mp hb.2,by rw [hst]; exact hs⟩
    ·rw [<- hgo,<-hbk,<-hsw']
     rw [show aU4 gs ord (n+1) at_ s sw=if at_ != 7 && aU3 gs at_ then aU4 gs ord n (nxt gs at_) (if nxt gs at_ != 7 && decide (((ord.idxOf (nxt gs at_):Nat):Int)<(ord.idxOf at_:Nat)) then s+1 else s)
      (sw.set at_.toNat (if s > sw.getD at_.toNat 0 then s else sw.getD at_.toNat 0)) else sw from rfl,if_pos hb']
   ·intro hb
    have hend:aU4 gs ord 8 i 1 (sw7 gs ord i)=sw:=by
     rw [<- hgo]
     cases n with
     | zero=>rfl
     | succ n=>unfold aU4; rw [if_neg (by rw [hb]; decide)]
    refine ExE.nil ⟨q3,q4,q5,q6,q7, ?_⟩
    rw [q8]
    show some (obL (sw.map T.int))=some (obL ((aU4 gs ord 8 i 1 (sw7 gs ord i)).map T.int))
    rw [hend]
  ·rw [if_neg hi] at ht; cases ht
 ·intro σ1 w1w
  refine cF w1w λj1 j2 j3 j4 j5 j6=> ?_
  try clear w1w
  have hl:=aG7 gs ord 7
  obtain ⟨m1,m2⟩:=aM1 (sw7 gs ord 7) (by intro h; rw [h] at hl; cases hl)
  refine ExE.ret _ (t:= .list ((sw7 gs ord 7).map T.int++[.int (if (sw7 gs ord 7).any (· == 0) then 0 else aL0 (sw7 gs ord 7))])) ?_ ?_
  ·refine EvE.addL _ (k1:=false) (k2:=true) (EvE.objL W j6 j4) (EvE.listD _ (.cons ?_ .nil) ?_ ?_) ?_
   ·refine EvE.ite _ (b:=(sw7 gs ord 7).any (· == 0)) ?_ (λh=> ?_) (λh=> ?_)
    ·refine TsE.cmp _ (k1:=true) (k2:=false) (EvE.int _ _ _) (EvE.objL W j6 j4) (cR4 _ _ _ _) ?_
     lk
    ·rw [if_pos h]; exact EvE.int _ _ _
    ·rw [if_neg (by rw [h]; decide)]
     refine EvE.maxL _ _ W hA ?_ ?_ ?_ ?_ ?_ (k1:=false) (EvE.objL W j6 j4) m1 m2
     ·lk
     ·lk
     ·lk
     ·lk
     ·lk
   ·lk
   ·simp; room
   ·simp; room
  ·show Fl.ret _=Fl.ret _
   simp [aA5]
structure LawOk (P:Params)(gs ord:List Int)(ps:List (Int×Nat))(cs:List Nat)(M:Nat):Prop where
 G:aA9 gs
 Or:aZ5 ord
 hor:∀ k∈ord,0<=k/\k<7
 hcs:cs=ps.map (·.2)
 hps:ps.length<=1000
 hM:(M:Int)∈aA5 gs ord
 hMx:∀ a∈aA5 gs ord,a<=M
 hM2:M<=100
 goes:∀ s:Int,∀ p∈ps,0<=p.1/\p.1<=7/\(p.1≠7->∃ r,goD gs (aA5 gs ord) s 20 p.1=some r)
 fine:aQ3 (aA gs 7).suc (aA gs 7).nodes []
 ne:∀ l,aL gs=some l->l≠[]/\l.length<=1000
 act:∀ i,i<=M->decide (((rn P gs ord cs i).D.length:Int)<aZ1 gs (rn P gs ord cs i).D)=decide (i<M)
 end_:∀ k:Int,0<=k->k<=7->npX gs (rn P gs ord cs M).D k≠ -1
 told:aL gs=aD0 gs (List.range 7)
 log:(rn P gs ord cs M).log=(List.range M).map (aY5 gs ord (aA5 gs ord) ps)
 giv:(rn P gs ord cs M).giv=(aB2 gs ord (aA5 gs ord) M).2
noncomputable def goalsOf (ns:List Int):List Int:=((aD2 ns).take 7).map λd=>d.fmod 8
noncomputable def ordOf (ns:List Int):List Int:=aC7 ((aD2 ns).take 7) 7
noncomputable def spotsOf (ns:List Int):List (Int×Nat):=((aD2 ns).drop 7).map aU
theorem aU5 (ns:List Int):(aD2 ns).length=12:=by
 unfold aD2 dflt
 simp
 room
noncomputable def aH2 (i:Nat)(s:Stmt):Scope:=scE (if i=10 then inE (inE (stE (inS (aB1 s) i)).1 3) 1 else (stE (inS (aB1 s) i)).1)
theorem aZ6 {α:Type}(l:List α):l.filter (λ_=>true)=l:=List.filter_eq_self.mpr λ_ _=>rfl
theorem cK1 {α:Type}{c:Prop}[Decidable c](p:α->Prop){a b:α}(h:p a)(k:p b):p (if c then a else b):=by
 by_cases e:c
 ·rw [if_pos e]; exact h
 ·rw [if_neg e]; exact k
theorem cD2 (gs dn:List Int)(k:Int):dTs (aG0 gs dn k)<=2:=
 cK1 (dTs · <=2) (Nat.le_of_ble_eq_true rfl) (cK1 (dTs · <=2) (Nat.le_of_ble_eq_true rfl) (cK1 (dTs · <=2) (Nat.le_of_ble_eq_true rfl) (Nat.le_of_ble_eq_true rfl)))
theorem cK2 (gs sw:List Int)(s:Int)(l:List Int):∀ (acc:List Int×List T),dTs acc.2<=2->dTs (l.foldl (aC0 gs sw s) acc).2<=2:=by
 induction l with
 | nil=>exact λ_ h=>h
 | cons k l ih=>exact λacc h=>ih _ (cK1 (λx:List Int×List T=>dTs x.2<=2) (cK0 h (cD2 _ _ _)) h)
theorem cT1 {gs ord sw:List Int}(n:Nat):dTs (aB2 gs ord sw n).2<=2:=by
 have:∀ (l:List Nat) (acc:List Int×List T),dTs acc.2<=2->dTs (l.foldl (λacc (i:Nat)=>ord.foldl (aC0 gs sw ((i:Int)+1)) acc) acc).2<=2:=by
  intro l
  induction l with
  | nil=>exact λ_ h=>h
  | cons a l ih=>exact λacc h=>ih _ (cK2 gs sw _ ord acc h)
 exact this _ _ (aE1 (aM0 (n:=1) (aS4 _)) aS3)
theorem law_fn (w:World)(os:OsState)(ns:List Int)(hn:ns.length<=63)(M:Nat)(cs:List Nat)(K:LawOk w.params (goalsOf ns) (ordOf ns) (spotsOf ns) cs M)(hsb:100<scanBound):FnH w os 5 346 [.list (ns.map T.int)] (λ_=>none) (λr hp'=>r= .val (.bool true)):=by
 refine bD0 (o:=bE5) (fd:=aA2 bE5) (body:=aB1 (aA0 37)) (c:=345) (oc:=cX9) [u "script"] (by lk) rfl rfl (by lk) rfl rfl rfl
  (al1 λ_=>by lk) rfl (by decide) ?_ rfl rfl rfl rfl λA h0 L RA FA hL hcf=> ?_
 ·intro L x hx
  rw [List.mem_singleton.mp hx]
  exact .inl (by lk)
 have W:Own (callEnvC (aA2 bE5) L 346):=⟨rfl,rfl,rfl⟩
 have hA:(A.deeper (callEnvC (aA2 bE5) L 346)).handled=none:=RA.handled
 have RD:aD6 4 (A.deeper (callEnvC (aA2 bE5) L 346)):=RA.deeper
 have hz:sizeLine=16777216:=by decide
 have hdl:=aU5 ns
 refine aA1 FA λlf hlf hlow=> ?_
 try clear FA
 have no:∀ {σ:Sg} (x:Str),σ.ow=[]->∀ p∈σ.ow,p.1≠x:=λx h p hp=>by rw [h] at hp; cases hp
 refine ExE.assign _ _ W (t:= .list ((aD2 ns).map T.int)) ?_ (by lk) (λp hp=>by cases hp) (by lk) ?_
 ·exact EvE.callF (n:=0) (o:=bM1) (fd:=aA2 bM1) _ _ W (RD.le (by decide)) (by lk) (by lk) (by lk) (by lk) rfl (by lk) (by lk) (.cons (EvE.nm W) .nil) (bY7 w os ns hn)
 refine ExE.assignC (c:=L+1) _ _ W (t:= .list ((goalsOf ns).map T.int)) ?_ (by lk) (by lk) (hcf (u "goals") (L+1) (by lk)) (λp hp=>by cases hp) (by lk) ?_
 ·have e:(goalsOf ns).map T.int=((((aD2 ns).map T.int).take 7).filter λ_=>true).map λt=>T.int ((ivT t).fmod 8):=by
   unfold goalsOf
   rw [aZ6,<-List.map_take,List.map_map,List.map_map]; rfl
  rw [e]
  refine EvE.comp (cl:=[]) (PC:=[L+1]) (L:=[]) (C:=λ_=>True) _ ⟨?_,by lk,rfl, ?_, ?_,λx hx=>absurd hx List.not_mem_nil⟩ hcf (ItC.list hA (EvE.upto _ _ (k1:=true) (k2:=true) (EvE.nm W) (EvE.int _ _ _) (by decide) (by rw [List.length_map]; room))) trivial (λ_ _=>rfl) (λ_=>rfl) (by simp; room) ?_
  ·refine ⟨λx c h=>(by cases h),λx c h=> .inr ?_,λc hc=> ?_,by simp⟩
   ·have h:[(u "goals",L+1)].lookup x=some c:=h
    have:=aD7 h
    rw [List.mem_singleton] at this
    cases this; exact .head _
   ·rw [List.mem_singleton.mp hc]
    exact ⟨u "goals",by lk,rfl⟩
  ·have:∀ y∈(aH2 1 (aA0 37)).names,y.2= .local->(aH2 1 (aA0 37)).names.lookup y.1=some .local:=by decide +kernel
   exact this
  ·have:∀ y∈(aH2 1 (aA0 37)).names,y.2≠ .cell:=by decide +kernel
   exact this
  ·intro K' Cm t ht
   rw [<- List.map_take] at ht
   refine aA1 (List.mem_map.mp ht) λi hi z1z=> ?_
   subst z1z
   have W2:Own (compEnvC (aH2 1 (aA0 37)) [] Cm (callEnvC (aA2 bE5) L 346)):=⟨rfl,rfl,rfl⟩
   exact ⟨_,aF6.name _ W2 (by lk) (λq hq=>absurd (List.mem_filter.mp hq).1 List.not_mem_nil),aP9.nil,λ_=>EvE.mod _ hA (k1:=true) (k2:=true) (EvE.nm W2) (EvE.int _ _ _) (by decide)⟩
 refine ExE.assign _ _ W (t:= .list ((ordOf ns).map T.int)) ?_ (by lk) (λp hp=>by cases hp) (by lk) ?_
 ·refine EvE.callF (n:=0) (o:=bH2) (fd:=aA2 bH2) _ _ W (RD.le (by decide)) (by lk) (by lk) (by lk) (by lk) rfl (by lk) (by lk) (as:=[.list (((aD2 ns).take 7).map T.int)]) (.cons ?_ .nil) (bY9 w os _ (by rw [List.length_take]; room))
  rw [List.map_take]
  exact EvE.upto _ _ (k1:=true) (k2:=true) (EvE.nm W) (EvE.int _ _ _) (by decide) (by rw [List.length_map]; room)
 refine ExE.assign _ _ W (t:= .list ((spotsOf ns).map aM5)) ?_ (by lk) (λp hp=>by cases hp) (by lk) ?_
 ·refine EvE.callF (n:=0) (o:=aH3) (fd:=aA2 aH3) _ _ W (RD.le (by decide)) (by lk) (by lk) (by lk) (by lk) rfl (by lk) (by lk) (as:=[.list (((aD2 ns).drop 7).map T.int)]) (.cons ?_ .nil) (cC2 w os _ (by rw [List.length_drop]; room))
  rw [List.map_drop]
  exact EvE.from_ _ _ (k1:=true) (k2:=true) (EvE.nm W) (EvE.int _ _ _) (by decide) (by rw [List.length_map]; room)
 have hgs:=K.G
 have hlo:(ordOf ns).length=7:=aP2 _ 7
 generalize goalsOf ns=gs at *
 generalize ordOf ns=ord at *
 generalize spotsOf ns=ps at *
 have hsw8:(aA5 gs ord).length=8:=by unfold aA5; rw [List.length_append,aG7]; rfl
 have cw:∀ (x:Str),u "goals" ≠x->True:=λ_ _=>trivial
 refine ExE.asgComp (cl:=[(u "goals",L+1)]) (PC:=[]) (L:=[u "goals"]) (ts:=aB3 0 7) (p:=λ_=>true) (f:=λt=>T.list ((aE8 gs (ivT t).toNat).map T.int)) (C:=λ_=>True) _ _ _ ⟨Cls.same rfl,by lk,rfl, ?_, ?_, ?_⟩ hcf (ItC.range1 (n:=7) (k1:=true) _ _ W hA (by lk) (by lk) (by lk) (by lk) (EvE.int _ _ _) (by decide)) trivial (λ_ _=>rfl) (λ_=>rfl) (by decide) ?_ (aF5.name _ W (by lk) (λp hp=>by cases hp)) (by lk) ?_
 ·have:∀ y∈(aH2 4 (aA0 37)).names,y.2= .local->(aH2 4 (aA0 37)).names.lookup y.1=some .local:=by decide +kernel
  exact this
 ·have:∀ y∈(aH2 4 (aA0 37)).names,y.2≠ .cell:=by decide +kernel
  exact this
 ·intro x hx
  rw [List.mem_singleton.mp hx]
  exact ⟨by lk,by lk,by lk⟩
 ·intro K' Cm t ht
  refine aA1 (List.mem_map.mp ht) λi hi z1z=> ?_
  subst z1z
  have hi:=List.mem_range.mp hi
  have W2:Own (compEnvC (aH2 4 (aA0 37)) [(u "goals",L+1)] Cm (callEnvC (aA2 bE5) L 346)):=⟨rfl,rfl,rfl⟩
  have e0:(0:Int)+(i:Int)=i:=by room
  rw [e0]
  refine ⟨_,aF6.name _ W2 (by lk) (λq hq=>absurd (List.mem_filter.mp hq).1 List.not_mem_nil),aP9.nil,λ_=> ?_⟩
  exact EvE.callF (n:=0) (o:=bH3) (fd:=aA2 bH3) _ _ W2 (RD.le (by decide)) (by lk) (by lk) (by lk) (by lk) rfl (by lk) (by lk) (.cons (EvE.nc W2) (.cons (EvE.nm W2) .nil)) (cH8 w os gs hgs i (by room))
 have er:T.list (((aB3 0 7).filter λ_=>true).map λt=>T.list ((aE8 gs (ivT t).toNat).map T.int))=aJ8 gs:=by
  rw [aZ6]
  unfold aJ8 aB6 aB3
  rw [List.map_map,List.map_map]
  refine congrArg T.list (List.map_congr_left λk _=> ?_)
  show T.list ((aE8 gs ((0:Int)+(k:Int)).toNat).map T.int)=_
  rw [Int.zero_add]; rfl
 rw [er]
 refine ExE.assign _ _ W (t:= .list ((aA5 gs ord).map T.int)) ?_ (by lk) (λp hp=>by cases hp) (by lk) ?_
 ·exact EvE.callF (n:=0) (o:=bH4) (fd:=aA2 bH4) _ _ W (RD.le (by decide)) (by lk) (by lk) (by lk) (by lk) rfl (by lk) (by lk) (.cons (EvE.nc W) (.cons (EvE.nm W) (.cons (EvE.nm W) .nil))) (bV4 w os gs ord hgs K.Or)
 refine ExE.assign _ _ W (t:=aJ2 (aD0 gs (List.range 7))) ?_ (by lk) (λp hp=>by cases hp) (by lk) ?_
 ·exact EvE.callF (n:=0) (o:=bE3) (fd:=aA2 bE3) _ _ W (RD.le (by decide)) (by lk) (by lk) (by lk) (by lk) rfl (by lk) (by lk) (.cons (EvE.nc W) (.cons (EvE.nm W) .nil)) (cH9 w os gs hgs)
 refine ExE.assign _ _ W (t:= .list ((List.range M).map (aY5 gs ord (aA5 gs ord) ps))) ?_ (by lk) (λp hp=>by cases hp) (by lk) ?_
 ·exact EvE.callF (n:=2) (o:=bH5) (fd:=aA2 bH5) _ _ W (RD.le (by decide)) (by lk) (by lk) (by lk) (by lk) rfl (by lk) (by lk) (.cons (EvE.nc W) (.cons (EvE.nm W) (.cons (EvE.nm W) (.cons (EvE.nm W) .nil)))) (cS5 w os gs ord _ ps M hgs hsw8 hlo K.hor K.hps K.hM K.hMx K.hM2 K.goes)
 refine ExE.assign _ _ W (t:= .list (aB2 gs ord (aA5 gs ord) M).2) ?_ (by lk) (λp hp=>by cases hp) (by lk) ?_
 ·exact EvE.callF (n:=1) (o:=bE4) (fd:=aA2 bE4) _ _ W (RD.le (by decide)) (by lk) (by lk) (by lk) (by lk) rfl (by lk) (by lk) (.cons (EvE.nc W) (.cons (EvE.nm W) (.cons (EvE.nm W) .nil))) (cB1 w os gs ord _ M hgs hsw8 hlo K.hor K.hM K.hMx K.hM2)
 refine ExE.assign _ _ W (t:= .list ((List.range 8).map λ_=>T.bool false)) ?_ (by lk) (λp hp=>by cases hp) (by lk) ?_
 ·exact EvE.listD _ (.cons (EvE.boolC _ _ _) (.cons (EvE.boolC _ _ _) (.cons (EvE.boolC _ _ _) (.cons (EvE.boolC _ _ _) (.cons (EvE.boolC _ _ _) (.cons (EvE.boolC _ _ _) (.cons (EvE.boolC _ _ _) (.cons (EvE.boolC _ _ _) .nil)))))))) (by lk) (by decide)
 generalize hs9:Sg.set _ (u "refused") _=σ9
 have v1:σ9.fz (u "goals")=some (.list (gs.map T.int)):=by rw [<- hs9]; lk
 have v2:σ9.fz (u "order")=some (.list (ord.map T.int)):=by rw [<- hs9]; lk
 have v3:σ9.fz (u "spots")=some (.list (ps.map aM5)):=by rw [<- hs9]; lk
 have v4:σ9.fz (u "ring")=some (aJ2 (aD0 gs (List.range 7))):=by rw [<- hs9]; lk
 have v5:σ9.fz (u "due")=some (.list ((List.range M).map (aY5 gs ord (aA5 gs ord) ps))):=by rw [<- hs9]; lk
 have v6:σ9.fz (u "given")=some (.list (aB2 gs ord (aA5 gs ord) M).2):=by rw [<- hs9]; lk
 have v7:σ9.fz (u "refused")=some (.list ((List.range 8).map λ_=>T.bool false)):=by rw [<- hs9]; lk
 have v8:σ9.ow=[]:=by rw [<- hs9]; rfl
 have v9:σ9.hp=λ_=>none:=by rw [<- hs9]; rfl
 clear hs9
 refine ExE.assignH _ _ W (by lk) (by lk) ?_
 refine EvH.callF (n:=4) (a:=341) (o:=aF9) (fd:=aA2 aF9) (as:=[.list (gs.map T.int), .list (ord.map T.int), .str ⟨cs.toArray⟩]) _ _ W (aD hlf (bB0 hlow λ_ _ e=>by cases e) rfl rfl) RD (by lk) (by lk) (by lk) (by lk) rfl (by lk) (by lk) ?_ ?_
 ·refine .cons (EvE.nc W v1) (.cons (EvE.nm W v2) (.cons ?_ .nil))
  rw [K.hcs,<-bF4]
  refine EvE.join _ _ (k1:=true) (k2:=true) (EvE.strC _ _ _) ?_ ?_ (by lk) (by lk) (by lk)
  ·have e:(((ps.map (·.2)).map ch).map T.str)=(ps.map aM5).map λt=>match t with | .tup [_,s]=>s | _=> .none:=by
    rw [List.map_map,List.map_map,List.map_map]; rfl
   rw [e]
   refine EvE.compP (cl:=[]) (PC:=[L+1]) (L:=[]) _ ⟨?_,by lk,rfl, ?_, ?_,λx hx=>absurd hx List.not_mem_nil⟩ hcf hA (EvE.nm W v3) (λ_=>rfl) (by rw [List.length_map]; have:=K.hps; room) ?_
   ·refine ⟨λx c h=>(by cases h),λx c h=> .inr ?_,λc hc=> ?_,by simp⟩
    ·have h:[(u "goals",L+1)].lookup x=some c:=h
     have:=aD7 h
     rw [List.mem_singleton] at this
     cases this; exact .head _
    ·rw [List.mem_singleton.mp hc]
     exact ⟨u "goals",by lk,rfl⟩
   ·have:∀ y∈(aH2 10 (aA0 37)).names,y.2= .local->(aH2 10 (aA0 37)).names.lookup y.1=some .local:=by decide +kernel
    exact this
   ·have:∀ y∈(aH2 10 (aA0 37)).names,y.2≠ .cell:=by decide +kernel
    exact this
   ·intro K' Cm t ht
    refine aA1 (List.mem_map.mp ht) λp hp z1z=> ?_
    subst z1z
    have W2:Own (compEnvC (aH2 10 (aA0 37)) [] Cm (callEnvC (aA2 bE5) L 346)):=⟨rfl,rfl,rfl⟩
    have ow2:∀ q∈(σ9.inn []).ow,False:=λq hq=>by
     have:=(List.mem_filter.mp hq).1
     rw [v8] at this; cases this
    exact ⟨⟨_,rfl⟩,_,aF6.tup2 _ _ _ W2 hA (by lk) (by lk) (λq hq=>(ow2 q hq).elim) (λq hq=>(ow2 q hq).elim),EvE.nm W2 (by lk)⟩
  ·have h1:∀ l:List Nat,((l.map ch).map (·.length)).sum=l.length:=by
    intro l
    induction l with
    | nil=>rfl
    | cons a l ih=>simp only [List.map_cons,List.sum_cons,List.length_cons,ih]; show 1+l.length=l.length+1; room
   rw [h1]
   have:(u "").length=0:=rfl
   rw [this,Nat.mul_zero,List.length_map]
   have:=K.hps
   room
 intro oL hLL
 have hrun:=λhp=>cT0 w os hp gs ord cs M hgs hlo K.hor (by rw [K.hcs,List.length_map]; exact K.hps) K.hM2 K.fine K.ne hsb K.act K.end_
 refine FnH.mono (hrun _) ?_
 intro r hp' hr kL kp
 have hr:r=_:=hr
 subst hr
 refine ⟨λp hp=>(by have hp:p∈σ9.ow:=hp; rw [v8] at hp; cases hp), ?_⟩
 rw [K.log,K.giv,K.told]
 refine ExE.ret _ (EvE.cmp (k1:=true) (k2:=true) _ (EvE.nm W rfl) (EvE.tupD _ _ (.cons (EvE.nm W v4) (.cons ?_ (.cons (EvE.nm W v5) (.cons (EvE.nm W v6) (.cons (EvE.nm W v7) .nil))))) (by lk) (show 5<=sizeLine by decide)) (bV3 _ ?_) (by lk)) ⟨λf o h=>(by cases h),rfl⟩
 ·refine EvE.ite (b:=aH7 (aJ2 (aD0 gs (List.range 7)))) _ (.cmp _ (k1:=true) (k2:=true) (EvE.nm W v4) (EvE.noneC _ _) (aI5 _ _ _) (by lk)) (λh=> ?_) (λh=> ?_)
  ·revert h
   cases aD0 gs (List.range 7) with
   | none=>exact λ_=>EvE.noneC _ _
   | some l=>exact λh=>by cases h
  ·have v4':=v4
   revert h v4'
   cases aD0 gs (List.range 7) with
   | none=>exact λh=>by cases h
   | some l=>exact λ_ v4'=>EvE.tupD _ _ (.cons (EvE.strC _ _ _) (.cons (EvE.nm W v4') .nil)) (by lk) (show 2<=sizeLine by decide)
 ·have hu:=RD.units
  have d1:dT (aJ2 (aD0 gs (List.range 7)))<=3:=by
   cases aD0 gs (List.range 7) with
   | none=>exact Nat.zero_le _
   | some l=>exact aM0 (aS4 l)
  have d2:dT (aO9 (aD0 gs (List.range 7)))<=3:=by
   cases aD0 gs (List.range 7) with
   | none=>exact Nat.zero_le _
   | some l=>exact cD1 (aE1 (Nat.zero_le _) (aE1 (aM0 (aS4 l)) aS3))
  refine Nat.lt_of_le_of_lt (Nat.add_le_add_right (Nat.add_le_add_left (aE1 d1 (aE1 d2 (aE1 (aM0 (bG1 _ (λ_=>cD1 (aE1 (Nat.zero_le _) (aE1 (aM0 (aS4 _)) aS3))) _)) (aE1 (aM0 (cT1 _)) (aE1 (aM0 (bG1 _ (λ_=>Nat.zero_le _) _)) aS3))))) _) 1) ?_
  clear d1 d2
  room
theorem ff {b:Bool}{C:Prop}(e:b=false)(h:b=true):C:=absurd (e.symm.trans h) Bool.false_ne_true
theorem cK3 {R:WRecords}{d:WData}(h:WShape.has R d .int=true):∃ i,d= .int i:=by
 cases d with
 | int i=>exact ⟨i,rfl⟩
 | _=>exact ff (by lk) h
theorem cK4 {R:WRecords}{xs:List WData}:WShape.hasItems R xs .int=true->∃ ns:List Int,xs=ns.map WData.int:=by
 induction xs with
 | nil=>exact λ_=>⟨[],rfl⟩
 | cons x xs ih=>
  intro h
  rw [WShape.hasItems,Bool.and_eq_true] at h
  refine aA3 (ih h.2) λns e=> ?_
  refine aA3 (cK3 h.1) λi e'=> ?_
  exact ⟨i::ns,e ▸ e' ▸ rfl⟩
noncomputable def dK5 (P:Params)(h:Heap)(v:Value):WData->Prop
 | .int i=>∃ tk,v= .int i tk
 | .list xs=>∃ a vs,v= .ref a/\h.get? a=some { cls:= .type "list",data:= .seq vs.toArray }/\WellAll P h vs xs
 | _=>True
theorem bK7 {P:Params}{h:Heap}{v:Value}{d:WData}(x:Well P h v d):dK5 P h v d:=by
 cases x with
 | int i t=>exact ⟨t,rfl⟩
 | list e r=>exact ⟨_,_,rfl,e,r⟩
 | _=>trivial
noncomputable def dF0 (P:Params)(h:Heap)(vs:List Value):List WData->Prop
 | []=>vs=[]
 | d::ds=>∃ v r,vs=v::r/\Well P h v d/\WellAll P h r ds
theorem aJ5 {P:Params}{h:Heap}{vs:List Value}{ds:List WData}(x:WellAll P h vs ds):dF0 P h vs ds:=by
 cases x with
 | nil=>rfl
 | cons a r=>exact ⟨_,_,rfl,a,r⟩
theorem bV5 {P:Params}{h:Heap}{ns:List Int}:∀ {vs:List Value},WellAll P h vs (ns.map WData.int)->∀ B,aA6 B vs (ns.map T.int):=by
 induction ns with
 | nil=>exact λ{vs} x B=>(aJ5 x:vs=[]) ▸ aA6.nil
 | cons i ns ih=>
  intro vs x B
  refine aB0 (aJ5 x) λv r e y z=> ?_
  refine aA3 (bK7 y) λtk e'=> ?_
  rw [e,e']
  exact .cons (.int i tk) (ih z B)
theorem args_of {w:World}{h:Heap}{args:List WData}{vals:List Value}(hpre:PySem.Challenge.rw_nb0248_01.row.claim.pre args=true)(wl:WellAll w.params h vals args):
  ∃ ns:List Int,ns.length<=63/\args=[.list (ns.map WData.int)]/\∃ a vs,vals=[.ref a]/\h.get? a=some { cls:= .type "list",data:= .seq vs.toArray }/\∀ B,aA6 B vs (ns.map T.int):=by
 refine aB (pre_splitW hpre) λh1 h2=> ?_
 refine aB0 (hasAllW_cons h1) λd r z1z h3 h4=> ?_
 subst z1z
 cases r with
 | cons=>exact ff (by lk) h4
 | nil=>
 refine aB0 (aJ5 wl) λv1 r1 e1 w1 w2=> ?_
 have w2:r1=[]:=aJ5 w2
 subst w2
 cases d with
 | list xs=>
  have h3:WShape.hasItems PySem.Challenge.rw_nb0248_01.row.records xs .int=true:=(Bool.or_false _).symm.trans h3
  refine aA3 (cK4 h3) λns z1z=> ?_
  subst z1z
  refine ⟨ns, ?_,rfl, ?_⟩
  ·have h2:WTm.holds _ (.and (.not (.lt (.lit (.int 63)) (.len (.arg 0)))) (.lit (.bool true))) { args:=[.list (ns.map WData.int)] }=true:=h2
   by_cases q:(63:Int)<((ns.map WData.int).length:Int)
   ·rw [List.length_map] at q
    have hv:∀ R,WTm.value R (.and (.not (.lt (.lit (.int 63)) (.len (.arg 0)))) (.lit (.bool true))) { args:=[.list (ns.map WData.int)] }=some (.bool false):=λR=>by
     simp [WTm.value,less?,Num.less?,q]
    rw [WTm.holds,hv] at h2
    cases h2
   ·rw [List.length_map] at q
    room
  ·refine aB0 (bK7 w1) λa vs e2 e r=> ?_
   exact ⟨a,vs,e1.trans (e2 ▸ rfl),e,bV5 r⟩
 | _=>exact ff (by lk) h3
theorem dF1:OpenLaw.wellSaid PySem.Challenge.rw_nb0248_01=true:=by
 unfold OpenLaw.wellSaid OpenRow.wellSaid OpenRow.partSaid looksOpen
 rw [PySem.W.Fast.te8377067652309620493,PySem.W.Fast.te8326940854005059898,PySem.W.Fast.te17119622794617984870,PySem.W.Fast.te8179353310426384613,PySem.W.Fast.te16286561074155671207,PySem.W.Fast.named_eq]
 repeat' (with_reducible refine look_both ?_ ?_)
 all_goals lk
theorem holds_of (hK:∀ (P:Params) (ns:List Int),ns.length<=63->∃ cs M,Mine.LawOk P (Mine.goalsOf ns) (Mine.ordOf ns) (Mine.spotsOf ns) cs M):PySem.Challenge.rw_nb0248_01.Holds:=by
 refine holds_law dF1 λsaid=> ?_
 refine holds_open (q:=Mine.qv) (loose:=Mine.loose) (Xt:=λ_=>true) (XP:=λ_ _=>True) (Yf:=λs=>s.heap) (Ya:=λw=>Mine.H1 w.params)
  (YP:=λw h=>∀ b o,(Mine.H1 w.params).get? b=some o->h.get? b=some o) (N:=20000) Mine.left (λw s e b o hb=> ?_) (λw h h' y k b o hb=>k b o (y b o hb)) (λ_ _=>trivial) (λ_ _ _ _ _=>trivial)
  (by rfl) (by rfl) (by rfl) ?_ (by rfl) (by assumption) (by decide +kernel) ⟨rfl,rfl,rfl,rfl,rfl,by decide +kernel⟩ ?_ ?_
 ·exact e ▸ hb
 ·exact λs _=>recFacts_of (s:=s) (by rfl)
 ·exact ⟨[.list []],by decide +kernel,by decide +kernel⟩
 ·intro w s₀ s₁ mg mb G Y fa o pm cd doc dV kV ho hd hcd hD hmg hg args vals as hpre hlay hrd hwl hlo
  clear hD hcd hd
  refine aC8 (Mine.args_of hpre hwl) λns hn z1z h9=>aB0 h9 λa vs z2z ha hV=> ?_
  subst z1z
  subst z2z
  have e1:mg=Mine.mgm w.params:=by
   rw [G.T.g.eq_nsMap]
   exact ((aC (Heap.Ns.of_isNs (Mine.isNs_main w.params)) λo e=>Y _ _ e).eq_nsMap).symm
  have e2:fa=346:=by
   have h:Mine.mgm w.params (Mine.u "law")=some (.ref fa):=e1 ▸ hmg
   have h':Mine.mgm w.params (Mine.u "law")=some (.ref 346):=by lk
   rw [h'] at h
   cases h; rfl
  subst e2
  clear hmg
  refine bD5 (hK w.params ns hn) λcs M K=> ?_
  show wpAny (model Mine.pw w) callerA (call (.ref 346) [.ref a]) _ _ s₁
  refine wpAny_call (Mine.law_fn w s₁.os ns hn M cs K (by decide) callerA (λb=>s₁.heap.get? b) [] s₁ [.ref a] _ ⟨by decide,by decide,rfl⟩ ⟨[],rfl,λe h=>(by cases h)⟩ (λ_ _ h=>h) (λb o h=>Y b o h) ⟨λp h=>(by cases h),λp h=>(by cases h),List.nodup_nil⟩ (λa b e=>(by cases e)) hg rfl (.cons (.list ha ⟨rfl,_,rfl⟩ rfl (hV _)) .nil) ?_ ?_)
  ·intro t v s' B' Y' hp' p _ Go _ V
   have p:Mine.Rs.val t= .val (.bool true):=p
   cases p
   cases V
   exact ⟨.inl ⟨_, .bool true,[],rfl,λcls=>rfl, .bool true,postW_of (by wrow_shape) (by wtm_val) (by w_fin),λ_=>⟨List.nodup_nil,λa h=>(by cases h)⟩⟩, .of_keep λb o h=>Go.keep b o h λp hp=>(by cases hp),Go.oss, .of_eq Go.gens⟩
  ·intro cls args e s' B' Y' Z hp' p
   cases p
section
variable {gs ord:List Int}
noncomputable def bk (ord:List Int)(a b:Int):Int:=if (ord.idxOf b:Nat)<ord.idxOf a then 1 else 0
noncomputable def okP (gs:List Int)(a:Int):Bool:=a != 7 && aU3 gs a
noncomputable def nxS (gs ord:List Int)(x:Int×Int):Int×Int:=(nxt gs x.1,if nxt gs x.1=7 then x.2 else x.2+bk ord x.1 (nxt gs x.1))
noncomputable def pt (gs ord:List Int):Nat->Int×Int->Int×Int
 | 0,x=>x
 | n+1,x=>pt gs ord n (nxS gs ord x)
theorem aJ6 (n:Nat):∀ x,pt gs ord (n+1) x=nxS gs ord (pt gs ord n x):=by
 induction n with
 | zero=>intro x; rfl
 | succ n ih=>intro x; exact ih (nxS gs ord x)
noncomputable def vis (gs ord:List Int):Nat->Int×Int->List (Int×Int)
 | 0,_=>[]
 | n+1,x=>if okP gs x.1 then x::vis gs ord n (nxS gs ord x) else []
theorem aM2:∀ (n:Nat) (x z:Int×Int),z∈vis gs ord n x↔∃ i,i<n/\z=pt gs ord i x/\∀ j,j<=i->okP gs (pt gs ord j x).1=true
 | 0,x,z=>⟨λh=>(by cases h),λ⟨i,h,_⟩=>absurd h (Nat.not_lt_zero _)⟩
 | n+1,x,z=>by
  rw [vis.eq_2]
  by_cases h:okP gs x.1=true
  ·rw [if_pos h,List.mem_cons,aM2 n (nxS gs ord x) z]
   constructor
   ·rintro (rfl | ⟨i,h1,h2,h3⟩)
    ·exact ⟨0,by room,rfl,λj hj=>by rw [Nat.le_zero.mp hj]; exact h⟩
    ·refine ⟨i+1,by room,h2,λj hj=> ?_⟩
     cases j with
     | zero=>exact h
     | succ j=>exact h3 j (by room)
   ·intro w1w
    refine aC8 w1w λi h1 h2 h3=> ?_
    try clear w1w
    cases i with
    | zero=>exact .inl h2
    | succ i=>exact .inr ⟨i,by room,h2,λj hj=>h3 (j+1) (by room)⟩
  ·rw [if_neg h]
   exact ⟨λh=>(by cases h),λ⟨i,h1,h2,h3⟩=>absurd (h3 0 (Nat.zero_le _)) h⟩
noncomputable def upS (sw:List Int)(x:Int×Int):List Int:=sw.set x.1.toNat (if x.2 > sw.getD x.1.toNat 0 then x.2 else sw.getD x.1.toNat 0)
theorem bK8:∀ (n:Nat) (a s:Int) (sw:List Int),aU4 gs ord n a s sw=(vis gs ord n (a,s)).foldl upS sw
 | 0,_,_,_=>rfl
 | n+1,a,s,sw=>by
  rw [aU4.eq_2,vis.eq_2]
  show (if okP gs a=true then _ else _)=_
  by_cases h:okP gs a=true
  ·rw [if_pos h,if_pos h,List.foldl_cons,bK8 n]
   have e:nxS gs ord (a,s)=(nxt gs a,if nxt gs a != 7 && decide (((ord.idxOf (nxt gs a):Nat):Int)<(ord.idxOf a:Nat)) then s+1 else s):=by
    unfold nxS bk
    dsimp only
    by_cases h1:nxt gs a=7
    ·rw [if_pos h1,h1]; rfl
    ·rw [if_neg h1]
     by_cases h2:(ord.idxOf (nxt gs a):Nat)<ord.idxOf a
     ·rw [if_pos h2,if_pos (by simp [h1]; room)]
     ·rw [if_neg h2,if_neg (by simp [h1]; room),Int.add_zero]
   rw [e]; rfl
  ·rw [if_neg h,if_neg h]; rfl
noncomputable def VV (gs ord:List Int):Nat->List (Int×Int)
 | 0=>[]
 | k+1=>VV gs ord k++vis gs ord 8 (k,1)
theorem cD3:∀ k,sw7 gs ord k=(VV gs ord k).foldl upS [0,0,0,0,0,0,0]
 | 0=>rfl
 | k+1=>by
  rw [sw7.eq_2,VV.eq_2]
  rw [List.foldl_append,<-cD3 k,bK8]
theorem aQ6:∀ (k:Nat) (z:Int×Int),z∈VV gs ord k↔∃ j:Nat,j<k/\z∈vis gs ord 8 ((j:Int),1)
 | 0,z=>⟨λh=>(by cases h),λ⟨j,h,_⟩=>absurd h (Nat.not_lt_zero _)⟩
 | k+1,z=>by
  rw [VV.eq_2]
  rw [List.mem_append,aQ6 k]
  constructor
  ·rintro (⟨j,h1,h2⟩ | h)
   ·exact ⟨j,by room,h2⟩
   ·exact ⟨k,by room,h⟩
  ·intro w1w
   refine aA1 w1w λj h1 h2=> ?_
   try clear w1w
   by_cases e:j=k
   ·exact .inr (e ▸ h2)
   ·exact .inl ⟨j,by room,h2⟩
theorem cK5 (sw:List Int)(x:Int×Int)(a:Int)(ha:0<=a/\a<7)(hx:0<=x.1/\x.1<7)(hl:sw.length=7):(upS sw x).getD a.toNat 0=if x.1=a then max x.2 (sw.getD a.toNat 0) else sw.getD a.toNat 0:=by
 unfold upS
 rw [List.getD_eq_getElem?_getD,List.getElem?_set]
 by_cases e:x.1=a
 ·subst e
  rw [if_pos rfl,if_pos (by room),if_pos rfl]
  show (if _ then _ else _)=_
  split<;>room
 ·rw [if_neg (by room),if_neg e,<-List.getD_eq_getElem?_getD]
theorem cK6 (sw:List Int)(x:Int×Int):(upS sw x).length=sw.length:=by unfold upS; simp
theorem bR3 (a:Int)(ha:0<=a/\a<7):∀ (V:List (Int×Int)) (sw:List Int),(∀ x∈V,0<=x.1/\x.1<7)->sw.length=7->
  sw.getD a.toNat 0<=(V.foldl upS sw).getD a.toNat 0/\(∀ s,(a,s)∈V->s<=(V.foldl upS sw).getD a.toNat 0)/\((V.foldl upS sw).getD a.toNat 0=sw.getD a.toNat 0\/(a,(V.foldl upS sw).getD a.toNat 0)∈V)
 | [],sw,_,_=>⟨Int.le_refl _,λs h=>(by cases h), .inl rfl⟩
 | x::V,sw,hV,hl=>by
  refine aC5 (bR3 a ha V (upS sw x) (λy hy=>hV y (.tail _ hy)) ((cK6 sw x).trans hl)) λh1 h2 h3=> ?_
  rw [cK5 sw x a ha (hV x (.head _)) hl] at h1 h3
  rw [List.foldl_cons]
  by_cases e:x.1=a
  ·rw [if_pos e] at h1 h3
   refine ⟨by room,λs hs=> ?_, ?_⟩
   ·rcases List.mem_cons.mp hs with h | h
    ·subst h; dsimp only at h1; room
    ·exact h2 s h
   ·rcases h3 with h | h
    ·by_cases q:x.2 > sw.getD a.toNat 0
     ·refine .inr (List.mem_cons.mpr (.inl ?_))
      rw [h,show max x.2 (sw.getD a.toNat 0)=x.2 by room,<-e]
     ·exact .inl (h.trans (by room))
    ·exact .inr (.tail _ h)
  ·rw [if_neg e] at h1 h3
   refine ⟨h1,λs hs=> ?_, ?_⟩
   ·rcases List.mem_cons.mp hs with h | h
    ·rw [<- h] at e; exact absurd rfl e
    ·exact h2 s h
   ·rcases h3 with h | h
    ·exact .inl h
    ·exact .inr (.tail _ h)
theorem aN4 (G:aA9 gs){a:Int}(ha:0<=a/\a<=7):okP gs a=true↔a≠7/\ ¬Cyc gs a:=by
 unfold okP aU3
 rw [Bool.and_eq_true,bne_iff_ne]
 constructor
 ·intro w1w
  refine aB w1w λh1 h2=> ?_
  try clear w1w
  exact ⟨h1,(aD5 G ha.1 (by room)).mp h2⟩
 ·intro w1w
  refine aB w1w λh1 h2=> ?_
  try clear w1w
  exact ⟨h1,(aD5 G ha.1 (by room)).mpr h2⟩
theorem bR4 (G:aA9 gs){a:Int}(ha:0<=a/\a<7):0<=nxt gs a/\nxt gs a<=7:=by
 unfold nxt
 split
 ·decide
 ·exact G.rng _ (by room)
theorem bP0 (G:aA9 gs){x:Int×Int}(hx:0<=x.1/\x.1<=7):∀ i,(∀ j,j<i->okP gs (pt gs ord j x).1=true)->0<=(pt gs ord i x).1/\(pt gs ord i x).1<=7
 | 0,_=>hx
 | i+1,h=>by
  have r:=bP0 G hx i λj hj=>h j (by room)
  have o:=(aN4 G r).mp (h i (by room))
  rw [aJ6]
  exact bR4 G (by room)
theorem dF2 (a b:Int):bk ord a b=0\/bk ord a b=1:=by unfold bk; split<;>simp
theorem bR5 (G:aA9 gs){z:Int×Int}(h:z∈VV gs ord 7):(0<=z.1/\z.1<7)/\ ¬Cyc gs z.1/\1<=z.2/\z.2<=8:=by
 refine aA1 ((aQ6 7 z).mp h) λk hk h=> ?_
 refine aC8 ((aM2 8 _ _).mp h) λi hi z1z ho=> ?_
 subst z1z
 have r:=bP0 G (x:=((k:Int),1)) (by room) i λj hj=>ho j (by room)
 have o:=(aN4 G r).mp (ho i (Nat.le_refl _))
 have key:∀ i,1<=(pt gs ord i ((k:Int),1)).2/\(pt gs ord i ((k:Int),1)).2<=1+i:=by
  intro i
  induction i with
  | zero=>exact ⟨Int.le_refl _,show (1:Int)<=1+((0:Nat):Int) by decide⟩
  | succ i ih=>
   rw [aJ6]
   unfold nxS
   dsimp only
   have:=dF2 (ord:=ord) (pt gs ord i ((k:Int),1)).1 (nxt gs (pt gs ord i ((k:Int),1)).1)
   split<;>room
 have:=key i
 exact ⟨by room,o.2,this.1,by room⟩
theorem cD4 (G:aA9 gs){k:Int}(hk:0<=k/\k<7)(h: ¬Cyc gs k):(k,1)∈VV gs ord 7:=by
 refine (aQ6 7 _).mpr ⟨k.toNat,by room,(aM2 8 _ _).mpr ⟨0,by decide, ?_,λj hj=> ?_⟩⟩
 ·show (k,(1:Int))=(((k.toNat:Nat):Int),1)
  rw [show ((k.toNat:Nat):Int)=k by room]
 ·rw [Nat.le_zero.mp hj]
  show okP gs ((k.toNat:Nat):Int)=true
  rw [show ((k.toNat:Nat):Int)=k by room]
  exact (aN4 G (by room)).mpr ⟨by room,h⟩
theorem cK7 {b s:Int}(h:(b,s)∈VV gs ord 7):s=1\/∃ a s',(a,s')∈VV gs ord 7/\nxt gs a=b/\s=s'+bk ord a b:=by
 refine aA1 ((aQ6 7 _).mp h) λk hk h=> ?_
 refine aC8 ((aM2 8 _ _).mp h) λi hi e ho=> ?_
 cases i with
 | zero=>exact .inl (congrArg Prod.snd e)
 | succ i=>
  rw [aJ6] at e
  have hb:=ho (i+1) (Nat.le_refl _)
  rw [aJ6] at hb
  refine .inr ⟨(pt gs ord i ((k:Int),1)).1,(pt gs ord i ((k:Int),1)).2,(aQ6 7 _).mpr ⟨k,hk,(aM2 8 _ _).mpr ⟨i,by room,rfl,λj hj=>ho j (by room)⟩⟩,(congrArg Prod.fst e).symm, ?_⟩
  have e2:=congrArg Prod.snd e
  have e1:=congrArg Prod.fst e
  unfold nxS at e2 e1 hb
  dsimp only at e1 e2 hb
  have h7:nxt gs (pt gs ord i ((k:Int),1)).1≠7:=by
   unfold okP at hb
   rw [Bool.and_eq_true,bne_iff_ne] at hb
   exact hb.1
  rw [if_neg h7] at e2
  rw [e1]; exact e2
theorem cK8 (G:aA9 gs){a s:Int}(h:(a,s)∈VV gs ord 7)(h7:nxt gs a≠7)(hc: ¬Cyc gs (nxt gs a)):(nxt gs a,s+bk ord a (nxt gs a))∈VV gs ord 7:=by
 refine aA1 ((aQ6 7 _).mp h) λk hk h=> ?_
 refine aC8 ((aM2 8 _ _).mp h) λi hi e ho=> ?_
 have e1:=congrArg Prod.fst e
 have e2:=congrArg Prod.snd e
 dsimp only at e1 e2
 have rng:∀ j,j<=i->0<=(pt gs ord j ((k:Int),1)).1/\(pt gs ord j ((k:Int),1)).1<=7:=λj hj=>bP0 G (x:=((k:Int),1)) (by room) j λj' hj'=>ho j' (by room)
 have nxs:∀ j,j<=i->nxt gs (pt gs ord j ((k:Int),1)).1≠7:=λj hj=>by
  by_cases q:j=i
  ·rw [q,<-e1]; exact h7
  ·have r:=rng (j+1) (by room)
   have o:=(aN4 G r).mp (ho (j+1) (by room))
   rw [aJ6] at o
   exact o.1
 have stp:∀ j,j<=i->(pt gs ord j ((k:Int),1)).1=it gs j k:=by
  intro j
  induction j with
  | zero=>intro _; rfl
  | succ j ih=>
   intro hj
   have h1:=ih (by room)
   have o:=(aN4 G (rng j (by room))).mp (ho j (by room))
   have n:=nxs j (by room)
   rw [aJ6,aD9,<-h1]
   show nxt gs _=st gs _
   unfold st
   rw [if_neg o.1]
   unfold nxt at n ⊢
   split
   ·rename_i q; rw [if_pos q] at n; exact absurd rfl n
   ·rfl
 have mid:∀ j,j<i+1->Mid gs (it gs j k):=λj hj=>by
  have o:=(aN4 G (rng j (by room))).mp (ho j (by room))
  have n:=nxs j (by room)
  rw [stp j (by room)] at o n
  refine ⟨o.1,o.2,λz=> ?_⟩
  unfold st at z
  rw [if_neg o.1] at z
  unfold nxt at n
  rw [if_pos (by simpa using z)] at n
  exact n rfl
 have few:=aR0 G (k:=(k:Int)) (by room) (by room) mid
 refine (aQ6 7 _).mpr ⟨k,hk,(aM2 8 _ _).mpr ⟨i+1,by room, ?_,λj hj=> ?_⟩⟩
 ·rw [aJ6,<-e]
  unfold nxS
  dsimp only
  rw [if_neg h7]
 ·by_cases q:j=i+1
  ·rw [q,aJ6,<-e]
   have r:=rng i (Nat.le_refl _)
   rw [<- e1] at r
   have o:=(aN4 G r).mp (by rw [e1]; exact ho i (Nat.le_refl _))
   exact (aN4 G (bR4 G (by room))).mpr ⟨h7,hc⟩
  ·exact ho j (by room)
end
section
variable {gs ord:List Int}
theorem aZ7 {a:Int}(h:Cyc gs a):Cyc gs (st gs a):=by
 refine aC5 h λh7 hs h9=>aA1 h9 λj hj e=> ?_
 try clear h
 obtain ⟨i,rfl⟩:∃ i,j=i+1:=⟨j - 1,by room⟩
 have e1:it gs i (st gs a)=a:=e
 refine ⟨λz=> ?_,λz=> ?_,i+1,by room, ?_⟩
 ·rw [z,aK4] at e1; exact h7 e1.symm
 ·have:∀ n,it gs n (st gs a)=st gs a:=λn=>by
   induction n with
   | zero=>rfl
   | succ n ih=>rw [aD9,ih,z]
  rw [this] at e1; exact hs e1
 ·rw [aD9,e1]
theorem bP1 {a:Int}(h:Cyc gs a):∀ n,Cyc gs (it gs n a)
 | 0=>h
 | n+1=>by rw [aD9]; exact aZ7 (bP1 h n)
theorem cD5 {v:Int}(h:Cyc gs v):∃ p,Cyc gs p/\st gs p=v/\p≠v/\∃ n,p=it gs n v:=by
 refine aC5 h λh7 hs h9=>aA1 h9 λj hj e=> ?_
 try clear h
 obtain ⟨i,rfl⟩:∃ i,j=i+1:=⟨j - 1,by room⟩
 rw [aD9] at e
 refine ⟨it gs i v,bP1 ⟨h7,hs,i+1,hj,by rw [aD9]; exact e⟩ i,e,λz=> ?_,i,rfl⟩
 rw [z] at e; exact hs e
noncomputable abbrev tS (gs ord:List Int)(v:Int):Int:=(aA5 gs ord).getD v.toNat 0
noncomputable abbrev pS (ord:List Int)(v:Int):Nat:=(ord++[7]).idxOf v
theorem cD6 {v:Int}(hv:0<=v/\v<7):tS gs ord v=(sw7 gs ord 7).getD v.toNat 0:=by
 unfold tS aA5
 rw [List.getD_eq_getElem?_getD,List.getElem?_append_left (by rw [aG7]; room),<-List.getD_eq_getElem?_getD]
theorem dF3:tS gs ord 7=if (sw7 gs ord 7).any (· == 0) then 0 else aL0 (sw7 gs ord 7):=by
 unfold tS aA5
 have e:(7:Int).toNat=7:=rfl
 rw [e,List.getD_eq_getElem?_getD,List.getElem?_append_right (by rw [aG7]; decide),aG7]; rfl
theorem z7:∀ n:Nat,([0,0,0,0,0,0,0]:List Int).getD n 0=0
 | 0 | 1 | 2 | 3 | 4 | 5 | 6=>rfl
 | n+7=>rfl
theorem bD2 (G:aA9 gs){v:Int}(hv:0<=v/\v<7):(∀ s,(v,s)∈VV gs ord 7->s<=tS gs ord v)/\(tS gs ord v=0\/(v,tS gs ord v)∈VV gs ord 7):=by
 refine aC5 (bR3 v hv (VV gs ord 7) [0,0,0,0,0,0,0] (λx hx=>(bR5 G hx).1) rfl) λh1 h2 h3=> ?_
 rw [<- cD3,<-cD6 hv] at h2 h3
 rw [z7] at h3
 exact ⟨h2,h3⟩
theorem aW1 (G:aA9 gs){v:Int}(hv:0<=v/\v<7)(h:Cyc gs v):tS gs ord v=0:=
 (bD2 G hv).2.resolve_right λz=>(bR5 G z).2.1 h
theorem cD7 (G:aA9 gs){v:Int}(hv:0<=v/\v<7)(h: ¬Cyc gs v):1<=tS gs ord v/\(v,tS gs ord v)∈VV gs ord 7:=by
 have u:=bD2 (ord:=ord) G hv
 have h1:=u.1 1 (cD4 G hv h)
 exact ⟨h1,u.2.resolve_left (by room)⟩
theorem cD8 (G:aA9 gs){v:Int}(hv:0<=v/\v<7):0<=tS gs ord v/\tS gs ord v<=8:=by
 rcases (bD2 (ord:=ord) G hv).2 with h | h
 ·rw [h]; decide
 ·have:=bR5 G h
  dsimp only at this
  room
theorem aS6 (v:Int):v∈sw7 gs ord 7↔∃ a,(0<=a/\a<7)/\tS gs ord a=v:=by
 constructor
 ·intro h
  obtain ⟨i,hi,e⟩:=List.mem_iff_getElem.mp h
  have hi':=hi
  rw [aG7] at hi'
  refine ⟨(i:Int),by room, ?_⟩
  rw [cD6 (by room),List.getD_eq_getElem?_getD,Int.toNat_natCast,List.getElem?_eq_getElem hi]; exact e
 ·intro w1w
  refine aA1 w1w λa ha e=> ?_
  try clear w1w
  have hl:a.toNat<(sw7 gs ord 7).length:=by rw [aG7]; room
  rw [cD6 ha,List.getD_eq_getElem?_getD,List.getElem?_eq_getElem hl] at e
  exact e ▸ List.getElem_mem hl
theorem aS7:(tS gs ord 7=0/\∃ a,(0<=a/\a<7)/\tS gs ord a=0)\/((∀ a,0<=a/\a<7->tS gs ord a≠0/\tS gs ord a<=tS gs ord 7)/\∃ a,(0<=a/\a<7)/\tS gs ord a=tS gs ord 7):=by
 rw [dF3]
 split
 ·rename_i h
  refine aA1 (List.any_eq_true.mp h) λx hx e=> ?_
  have e:x=0:=by simpa using e
  subst e
  exact .inl ⟨rfl,(aS6 0).mp hx⟩
 ·rename_i h
  have hm:=aM1 (sw7 gs ord 7) (λz=>by have:=aG7 gs ord 7; rw [z] at this; cases this)
  refine .inr ⟨λa ha=>⟨λz=>h (List.any_eq_true.mpr ⟨0,(aS6 0).mpr ⟨a,ha,z⟩,rfl⟩),hm.2 _ ((aS6 _).mpr ⟨a,ha,rfl⟩)⟩,(aS6 _).mp hm.1⟩
theorem aP {p:Int}(hp:0<=p/\p<7):st gs p=gl gs p:=by unfold st; rw [if_neg (by room)]
theorem dF4 (G:aA9 gs){v:Int}(hv:0<=v/\v<=7)(h:tS gs ord v=0):∃ p∈pdX gs v,tS gs ord p=0:=by
 by_cases e:v=7
 ·subst e
  rcases aS7 (gs:=gs) (ord:=ord) with ⟨_,a,ha,e⟩ | ⟨h1,a,ha,e⟩
  ·exact ⟨a,aE.mpr ⟨ha, .inl rfl⟩,e⟩
  ·exact absurd (e.trans h) (h1 a ha).1
 ·have hv':0<=v/\v<7:=by room
  have hc:Cyc gs v:=Classical.byContradiction λz=>by have:=(cD7 (ord:=ord) G hv' z).1; room
  refine aV3 (cD5 hc) λp h1 h2 h3 h9=>aA3 h9 λn z1z=> ?_
  subst z1z
  have r:=aL2 G n hv.1 hv.2
  have hp:0<=it gs n v/\it gs n v<7:=by have:=h1.1; room
  exact ⟨_,aE.mpr ⟨hp, .inr ⟨h3,(aP hp).symm.trans h2⟩⟩,aW1 G hp h1⟩
theorem aZ8 {v:Int}(h:v∈ord):pS ord v=ord.idxOf v:=by unfold pS; rw [List.idxOf_append,if_pos h]
theorem dF5 {p v:Int}(h:p∈pdX gs v)(e:v≠7):(0<=p/\p<7)/\p≠v/\gl gs p=v/\nxt gs p=v:=by
 refine aB (aE.mp h) λh1 h2=> ?_
 refine aB (h2.resolve_left e) λh3 h4=> ?_
 refine ⟨h1,h3,h4, ?_⟩
 unfold nxt
 have h4':gs.getD p.toNat 0=v:=h4
 rw [h4',if_neg (by simpa using λz=>h3 z.symm)]
theorem cT2 (O:aZ5 ord){p v:Int}(hp:0<=p/\p<7)(hv:0<=v/\v<7)(h:p≠v):ord.idxOf p≠ord.idxOf v:=λz=>by
 have h1:=List.getElem_idxOf (List.idxOf_lt_length_of_mem (O.all p hp.1 hp.2))
 have h2:=List.getElem_idxOf (List.idxOf_lt_length_of_mem (O.all v hv.1 hv.2))
 refine h (h1.symm.trans (Eq.trans ?_ h2))
 congr 1
theorem dK6 (hor:∀ k∈ord,0<=k/\k<7)(O:aZ5 ord):pS ord 7=7:=by
 unfold pS
 rw [List.idxOf_append,if_neg (λz=>by have:=hor 7 z; room),O.len]
 simp
theorem dF6 (G:aA9 gs)(O:aZ5 ord)(hor:∀ k∈ord,0<=k/\k<7){v p:Int}(hv:0<=v/\v<=7)(h:1<=tS gs ord v)(hp:p∈pdX gs v):1<=tS gs ord p/\(tS gs ord p<tS gs ord v\/(tS gs ord p=tS gs ord v/\pS ord p<pS ord v)):=by
 by_cases e:v=7
 ·subst e
  have r:=(aE.mp hp).1
  rcases aS7 (gs:=gs) (ord:=ord) with ⟨z,_⟩ | ⟨h1,_⟩
  ·room
  ·have h2:=h1 p r
   have h3:=cD8 (ord:=ord) G r
   have h4:=aZ8 (O.all p r.1 r.2)
   have h5:=List.idxOf_lt_length_of_mem (O.all p r.1 r.2)
   rw [O.len] at h5
   have h6:=dK6 hor O
   exact ⟨by room,by room⟩
 ·refine aO7 (dF5 hp e) λr h1 h2 h3=> ?_
  have hv':0<=v/\v<7:=by room
  have hc: ¬Cyc gs v:=λz=>by have:=aW1 (ord:=ord) G hv' z; room
  have hcp: ¬Cyc gs p:=λz=>hc (by have:=aZ7 z; rwa [aP r,h2] at this)
  refine aB (cD7 (ord:=ord) G r hcp) λm1 m2=> ?_
  have m3:=cK8 G m2 (by rw [h3]; exact e) (by rw [h3]; exact hc)
  rw [h3] at m3
  have m4:=(bD2 (ord:=ord) G hv').1 _ m3
  rw [aZ8 (O.all p r.1 r.2),aZ8 (O.all v hv'.1 hv'.2)]
  have ne:=cT2 O r hv' h1
  refine ⟨m1, ?_⟩
  unfold bk at m4
  split at m4<;>room
theorem dK7 (G:aA9 gs)(O:aZ5 ord)(hor:∀ k∈ord,0<=k/\k<7){v:Int}(hv:0<=v/\v<=7)(h:1<tS gs ord v):∃ p∈pdX gs v,tS gs ord v<=tS gs ord p\/(tS gs ord v=tS gs ord p+1/\pS ord v<pS ord p):=by
 by_cases e:v=7
 ·subst e
  rcases aS7 (gs:=gs) (ord:=ord) with ⟨z,_⟩ | ⟨_,a,ha,e⟩
  ·room
  ·exact ⟨a,aE.mpr ⟨ha, .inl rfl⟩, .inl (by room)⟩
 ·have hv':0<=v/\v<7:=by room
  have hm:=(bD2 (ord:=ord) G hv').2.resolve_left (by room)
  rcases cK7 hm with z | ⟨a,s',h1,h2,h3⟩
  ·room
  ·have r:=(bR5 G h1).1
   dsimp only at r
   have hs:=(bD2 (ord:=ord) G r).1 _ h1
   have hg:gl gs a=v/\a≠v:=by
    unfold nxt at h2
    split at h2
    ·exact absurd h2.symm e
    ·rename_i q
     exact ⟨h2,λz=>q (by simpa using h2.trans z.symm)⟩
   refine ⟨a,aE.mpr ⟨r, .inr ⟨hg.2,hg.1⟩⟩, ?_⟩
   rw [aZ8 (O.all a r.1 r.2),aZ8 (O.all v hv'.1 hv'.2)]
   unfold bk at h3
   split at h3<;>room
theorem cK9 (G:aA9 gs){v:Int}(hv:0<=v/\v<=7):0<=tS gs ord v/\tS gs ord v<=8:=by
 by_cases e:v=7
 ·subst e
  rcases aS7 (gs:=gs) (ord:=ord) with ⟨z,_⟩ | ⟨_,a,ha,e⟩
  ·room
  ·have:=cD8 (ord:=ord) G ha; room
 ·exact cD8 G (by room)
theorem bP2 (v:Int):v∈aA5 gs ord↔∃ a,(0<=a/\a<=7)/\tS gs ord a=v:=by
 unfold aA5
 rw [List.mem_append,aS6,List.mem_singleton,<-dF3]
 constructor
 ·rintro (⟨a,ha,e⟩ | e)
  ·exact ⟨a,by room,e⟩
  ·exact ⟨7,by decide,e.symm⟩
 ·intro w1w
  refine aA1 w1w λa ha e=> ?_
  try clear w1w
  by_cases q:a=7
  ·subst q; exact .inr e.symm
  ·exact .inl ⟨a,by room,e⟩
end
section
variable {gs ord:List Int}
theorem aU6 {D:List Int}{v:Int}:npX gs D v= -1↔v∉D/\∀ p∈pdX gs v,p∈D:=by
 unfold npX
 have e:rmX gs D v=[]↔∀ p∈pdX gs v,p∈D:=by
  rw [List.eq_nil_iff_forall_not_mem]
  exact ⟨λh p hp=>Classical.byContradiction λz=>h p (aG4.mpr ⟨hp,z⟩),λh p hp=>(aG4.mp hp).2 (h p (aG4.mp hp).1)⟩
 by_cases h:v∈D
 ·rw [if_pos h]
  exact ⟨λz=>by room,λz=>absurd h z.1⟩
 ·rw [if_neg h]
  by_cases q:rmX gs D v=[]
  ·rw [if_pos q]
   exact ⟨λ_=>⟨h,e.mp q⟩,λ_=>rfl⟩
  ·rw [if_neg q]
   exact ⟨λz=>by room,λz=>absurd (e.mpr z.2) q⟩
theorem bP3 {D:List Int}{v:Int}:npX gs D v<0↔v∈D\/npX gs D v= -1:=by
 by_cases h:v∈D
 ·unfold npX
  rw [if_pos h]
  exact ⟨λ_=> .inl h,λ_=>by room⟩
 ·rcases aU2 gs D v with e | e | e
  ·rw [e]; exact ⟨λ_=> .inr rfl,λ_=>by room⟩
  ·exact ⟨λz=>by room,λz=>z.elim (λz=>absurd z h) λz=>by room⟩
  ·unfold npX at e
   rw [if_neg h] at e
   split at e<;>room
theorem cL {D:List Int}(d:DOk gs D):(D.length:Int)<aZ1 gs D↔∃ v,(0<=v/\v<=7)/\npX gs D v= -1:=by
 unfold aZ1
 have nd:(r8.filter λv=>decide (npX gs D v<0)).Nodup:=aZ0.filter _
 constructor
 ·intro h
  refine Classical.byContradiction λz=> ?_
  have:=aC1 (m:=D) nd λx hx=>by
   refine aB (List.mem_filter.mp hx) λh1 h2=> ?_
   rcases bP3.mp (of_decide_eq_true h2) with q | q
   ·exact q
   ·exact absurd ⟨x,aG3.mp h1,q⟩ z
  room
 ·intro w1w
  refine aA1 w1w λv hv e=> ?_
  try clear w1w
  have hn:=(aU6.mp e).1
  have:=aC1 (l:=D++[v]) (m:=r8.filter λv=>decide (npX gs D v<0)) (List.nodup_append.mpr ⟨d.nod,by simp,λa ha b hb=>by rw [List.mem_singleton.mp hb]; exact λz=>hn (z ▸ ha)⟩) λx hx=>by
   rcases List.mem_append.mp hx with q | q
   ·exact List.mem_filter.mpr ⟨aG3.mpr (d.rng x q),decide_eq_true (bP3.mpr (.inl q))⟩
   ·rw [List.mem_singleton.mp q]
    exact List.mem_filter.mpr ⟨aG3.mpr hv,decide_eq_true (bP3.mpr (.inr e))⟩
  rw [List.length_append] at this
  simp only [List.length_cons,List.length_nil] at this
  room
structure aS8 (gs ord:List Int):Prop where
 G:aA9 gs
 O:aZ5 ord
 hor:∀ k∈ord,0<=k/\k<7
 nod:ord.Nodup
theorem aS8.row (H:aS8 gs ord):(ord++[7]).Nodup:=List.nodup_append.mpr ⟨H.nod,by simp,λa ha b hb=>by
 rw [List.mem_singleton.mp hb]
 have:=H.hor a ha
 room⟩
theorem aS8.mem (H:aS8 gs ord)(v:Int):v∈ord++[7]↔0<=v/\v<=7:=by
 rw [List.mem_append,List.mem_singleton]
 constructor
 ·rintro (h | h)
  ·have:=H.hor v h; room
  ·room
 ·intro h
  by_cases e:v=7
  ·exact .inr e
  ·exact .inl (H.O.all v h.1 (by room))
theorem cD9 {r1 r2:List Int}{k p:Int}(e:ord++[7]=r1++k::r2)(nd:(ord++[7]).Nodup):pS ord p<pS ord k↔p∈r1:=by
 unfold pS
 rw [e] at nd ⊢
 have hk:k∉r1:=λz=>(List.nodup_append.mp nd).2.2 k z k (.head _) rfl
 rw [List.idxOf_append,List.idxOf_append,if_neg hk,List.idxOf_cons_self]
 by_cases h:p∈r1
 ·rw [if_pos h]
  have:=List.idxOf_lt_length_of_mem h
  exact ⟨λ_=>h,λ_=>by room⟩
 ·rw [if_neg h]
  exact ⟨λz=>by room,λz=>absurd z h⟩
def InD (gs ord:List Int)(s:Int)(r D:List Int):Prop:=∀ v,v∈D↔(0<=v/\v<=7)/\1<=tS gs ord v/\(tS gs ord v<s\/(tS gs ord v=s/\v∈r))
theorem cT3 (H:aS8 gs ord){s:Int}(hs:1<=s){r1 r2 D:List Int}{k:Int}(e:ord++[7]=r1++k::r2)(h:InD gs ord s r1 D)(hk:tS gs ord k=0\/s<=tS gs ord k):npX gs D k= -1↔tS gs ord k=s:=by
 have kr:0<=k/\k<=7:=(H.mem k).mp (by rw [e]; simp)
 have nd:=H.row
 have kn:k∉r1:=λz=>by
  rw [e] at nd
  exact (List.nodup_append.mp nd).2.2 k z k (.head _) rfl
 rw [aU6]
 constructor
 ·intro w1w
  refine aB w1w λh1 h2=> ?_
  try clear w1w
  rcases hk with hk | hk
  ·refine aA1 (dF4 H.G kr hk) λp hp z=> ?_
   have:=((h p).mp (h2 p hp)).2.1
   room
  ·rcases Int.lt_or_eq_of_le hk with q | q
   ·exfalso
    obtain ⟨p,hp,z⟩:=dK7 H.G H.O H.hor kr (by room)
    refine aC5 ((h p).mp (h2 p hp)) λ_ m1 m2=> ?_
    rcases z with z | ⟨z1,z2⟩
    ·room
    ·have hp1:p∈r1:=(m2.resolve_left (by room)).2
     have:=(cD9 e nd).mpr hp1
     room
   ·exact q.symm
 ·intro q
  refine ⟨λz=> ?_,λp hp=>(h p).mpr ?_⟩
  ·refine aC5 ((h k).mp z) λ_ m1 m2=> ?_
   rcases m2 with m2 | m2
   ·room
   ·exact kn m2.2
  ·obtain ⟨m1,m2⟩:=dF6 H.G H.O H.hor kr (by room) hp
   refine ⟨?_,m1, ?_⟩
   ·have:=(aE.mp hp).1; room
   ·rw [q] at m2
    exact m2.imp id λm=>⟨m.1,(cD9 e nd).mp m.2⟩
theorem bR6 (H:aS8 gs ord){i:Int}(hi:0<=i){D:List Int}(h:InD gs ord (i+1) [] D):(∃ v,(0<=v/\v<=7)/\npX gs D v= -1)↔∃ v,(0<=v/\v<=7)/\i<tS gs ord v:=by
 have hm:∀ v,v∈D↔(0<=v/\v<=7)/\1<=tS gs ord v/\tS gs ord v<=i:=λv=>(h v).trans ⟨λ⟨a,b,c⟩=>⟨a,b,by
  rcases c with c | c
  ·room
  ·cases c.2⟩,λ⟨a,b,c⟩=>⟨a,b, .inl (by room)⟩⟩
 constructor
 ·intro w1w
  refine aA1 w1w λv hv e=> ?_
  try clear w1w
  refine aB (aU6.mp e) λh1 h2=> ?_
  refine ⟨v,hv,Classical.byContradiction λz=> ?_⟩
  by_cases q:tS gs ord v=0
  ·refine aA1 (dF4 H.G hv q) λp hp y=> ?_
   have:=((hm p).mp (h2 p hp)).2.1
   room
  ·have:=cK9 (ord:=ord) H.G hv
   exact h1 ((hm v).mpr ⟨hv,by room,by room⟩)
 ·intro w1w
  refine aA1 w1w λv hv e=> ?_
  try clear w1w
  have key:∀ (n:Nat) (v:Int),(tS gs ord v).toNat * 100+pS ord v<=n->(0<=v/\v<=7)->i<tS gs ord v->∃ v,(0<=v/\v<=7)/\npX gs D v= -1:=by
   intro n
   induction n with
   | zero=>intro v a1 a2 a3; exact absurd a1 (by room)
   | succ n ih=>
    intro v a1 a2 a3
    by_cases q:∀ p∈pdX gs v,p∈D
    ·exact ⟨v,a2,aU6.mpr ⟨λz=>by have:=((hm v).mp z).2; room,q⟩⟩
    ·refine aA3 (Classical.not_forall.mp q) λp hp=> ?_
     refine aB (Classical.not_imp.mp hp) λhp hD=> ?_
     obtain ⟨m1,m2⟩:=dF6 H.G H.O H.hor a2 (by room) hp
     have pr:=(aE.mp hp).1
     have l1:pS ord p<8:=by
      have:=List.idxOf_lt_length_of_mem ((H.mem p).mpr (by room))
      rw [List.length_append,H.O.len] at this
      exact this
     refine ih p ?_ (by room) ?_
     ·rcases m2 with m2 | m2<;>room
     ·exact Classical.byContradiction λz=>hD ((hm p).mpr ⟨by room,m1,by room⟩)
  exact key _ v (Nat.le_refl _) hv e
end
theorem tbl (P:Params):((List.range 8).all λi=>(aE6.getD i []).all λc=>(List.range 7).all λj=>aI6 P j c.toNat == (j == i))=true:=by lk
theorem dK8:((List.range 7).all λi=>(aE6.getD i []).contains (bB.getD i 0))=true:=by lk
theorem cE (P:Params){i j:Nat}{c:Int}(hi:i<8)(hj:j<7)(hc:c∈aE6.getD i []):aI6 P j c.toNat=(j == i):=by
 have h1:=List.all_eq_true.mp (tbl P) i (List.mem_range.mpr hi)
 have h2:=List.all_eq_true.mp h1 c hc
 have h3:=List.all_eq_true.mp h2 j (List.mem_range.mpr hj)
 exact eq_of_beq h3
theorem bK9 {i:Nat}(hi:i<7):bB.getD i 0∈aE6.getD i []:=by
 have h1:=List.all_eq_true.mp dK8 i (List.mem_range.mpr hi)
 simpa using h1
section
variable {gs D:List Int}
def Cn (gs D:List Int)(a:Int):Prop:=a≠7/\gl gs a≠a/\a∈D
noncomputable def goF (gs D:List Int):Nat->Int->Int
 | 0,a=>a
 | n+1,a=>if a≠7/\gl gs a≠a/\a∈D then goF gs D n (gl gs a) else a
structure aS9 (gs D:List Int)(a b:Int)(m:Nat):Prop where
 on:∀ i,i<m->Cn gs D (it gs i a)
 at_:it gs m a=b
 off: ¬Cn gs D b
theorem bR7 {a:Int}(h:a≠7):st gs a=gl gs a:=by unfold st; rw [if_neg h]
theorem aS9.tl {a b:Int}{m:Nat}(h:aS9 gs D a b (m+1)):aS9 gs D (gl gs a) b m:=by
 have e:=bR7 (gs:=gs) (h.on 0 (by room)).1
 change st gs a=_ at e
 exact ⟨λi hi=>e ▸ h.on (i+1) (by room),e ▸ h.at_,h.off⟩
theorem aT:∀ (m n:Nat) {a b:Int},aS9 gs D a b m->m<=n->goF gs D n a=b
 | 0,0,a,b,h,_=>h.at_
 | 0,n+1,a,b,h,_=>by
  have e:a=b:=h.at_
  rw [goF.eq_2]
  rw [if_neg (e ▸ h.off)]; exact e
 | m+1,0,a,b,h,l=>absurd l (by room)
 | m+1,n+1,a,b,h,l=>by
  rw [goF.eq_2]
  have h1:a≠7/\gl gs a≠a/\a∈D:=h.on 0 (by room)
  rw [if_pos h1]
  exact aT m n h.tl (by room)
theorem bR8 {sw:List Int}{s:Int}(G:aA9 gs)(hc:∀ a,0<=a/\a<=7->(cD gs sw s a=true↔Cn gs D a)):∀ (m n:Nat) {a b:Int},(0<=a/\a<=7)->aS9 gs D a b m->m<n->goD gs sw s n a=some b
 | m,0,a,b,r,h,l=>absurd l (by room)
 | 0,n+1,a,b,r,h,_=>by
  have e:a=b:=h.at_
  rw [goD.eq_2]
  rw [if_neg (λz=>h.off (e ▸ (hc a r).mp z))]; exact congrArg some e
 | m+1,n+1,a,b,r,h,l=>by
  rw [goD.eq_2]
  have h1:=h.on 0 (by room)
  change Cn gs D a at h1
  rw [if_pos ((hc a r).mpr h1)]
  refine bR8 G hc m n ?_ h.tl (by room)
  have:=aW8 G r.1 r.2
  rw [bR7 h1.1] at this
  exact this
theorem cE0 (G:aA9 gs)(hD:∀ x∈D,x≠7-> ¬Cyc gs x){a:Int}(ha:0<=a/\a<=7):∃ b m,m<=7/\aS9 gs D a b m:=by
 have key:∀ n,(∃ b m,m<n/\aS9 gs D a b m)\/∀ i,i<n->Cn gs D (it gs i a):=by
  intro n
  induction n with
  | zero=>exact .inr λi h=>absurd h (by room)
  | succ n ih=>
   rcases ih with ⟨b,m,h1,h2⟩ | h
   ·exact .inl ⟨b,m,by room,h2⟩
   ·by_cases q:Cn gs D (it gs n a)
    ·refine .inr λi hi=> ?_
     by_cases e:i=n
     ·exact e ▸ q
     ·exact h i (by room)
    ·exact .inl ⟨_,n,by room,h,rfl,q⟩
 rcases key 8 with ⟨b,m,h1,h2⟩ | h
 ·exact ⟨b,m,by room,h2⟩
 ·have:=aR0 G ha.1 ha.2 (n:=8) λi hi=>by
   refine aC5 (h i hi) λc1 c2 c3=> ?_
   exact ⟨c1,hD _ c3 c1,by rw [bR7 c1]; exact c2⟩
  room
noncomputable def img (gs D:List Int)(p:Int×Nat):List Nat:=
 if p.1=7 then [p.2] else if goF gs D 20 p.1=p.1 then [p.2] else if goF gs D 20 p.1≠7 then [aP6 (goF gs D 20 p.1).toNat] else []
def bL (p:Int×Nat):Prop:=(0<=p.1/\p.1<=7)/\∃ c∈aE6.getD p.1.toNat [],p.2=c.toNat
theorem bD3 {sw:List Int}{s:Int}(G:aA9 gs)(hc:∀ a,0<=a/\a<=7->(cD gs sw s a=true↔Cn gs D a))(hD:∀ x∈D,x≠7-> ¬Cyc gs x){p:Int×Nat}(hp:bL p):aK1 gs sw s p=img gs D p/\∃ r,goD gs sw s 20 p.1=some r:=by
 refine bD6 (cE0 G hD hp.1) λb m hm he=> ?_
 have e1:=aT m 20 he (by room)
 have e2:=bR8 G hc m 20 hp.1 he (by room)
 refine ⟨?_,b,e2⟩
 unfold aK1 img
 rw [e1,e2]
theorem bR9 {k:Int}{p:Int×Nat}(h:k=7\/gl gs k=k):img gs (D++[k]) p=img gs D p:=by
 have:∀ (n:Nat) (a:Int),goF gs (D++[k]) n a=goF gs D n a:=by
  intro n
  induction n with
  | zero=>intro a; rfl
  | succ n ih=>
   intro a
   rw [goF.eq_2,goF.eq_2]
   have e:(a≠7/\gl gs a≠a/\a∈D++[k])↔(a≠7/\gl gs a≠a/\a∈D):=by
    rw [List.mem_append,List.mem_singleton]
    constructor
    ·rintro ⟨h1,h2,h3 | rfl⟩
     ·exact ⟨h1,h2,h3⟩
     ·rcases h with h | h
      ·exact absurd h h1
      ·exact absurd h h2
    ·exact λ⟨h1,h2,h3⟩=>⟨h1,h2, .inl h3⟩
   by_cases q:a≠7/\gl gs a≠a/\a∈D
   ·rw [if_pos q,if_pos (e.mpr q),ih]
   ·rw [if_neg q,if_neg (λz=>q (e.mp z))]
 unfold img
 rw [this]
theorem cT4 (P:Params)(G:aA9 gs)(d:DOk gs D)(hD:∀ x∈D,x≠7-> ¬Cyc gs x){k:Int}(hk:0<=k/\k<7)(hn:k∉D)(hg:gl gs k≠k){p:Int×Nat}(hp:bL p):
  (img gs D p).flatMap (aO8 P k.toNat (gl gs k).toNat)=img gs (D++[k]) p:=by
 have gr:=G.rng k.toNat (by room)
 change 0<=gl gs k/\gl gs k<=7 at gr
 have gn:gl gs k=7\/gl gs k∉D++[k]:=by
  by_cases q:gl gs k=7
  ·exact .inl q
  ·refine .inr λz=> ?_
   rcases List.mem_append.mp z with z | z
   ·exact hn (d.cl _ z k (aE.mpr ⟨hk, .inr ⟨λy=>hg y.symm,rfl⟩⟩))
   ·exact hg (List.mem_singleton.mp z)
 refine aB hp λhr h9=>aA1 h9 λc hc e2=> ?_
 try clear hp
 have hh:∀ (b:Int) (x:Int),0<=b/\b<=7->x∈aE6.getD b.toNat []->aI6 P k.toNat x.toNat=decide (b=k):=λb x hb hx=>by
  rw [cE P (i:=b.toNat) (j:=k.toNat) (by room) (by room) hx]
  by_cases q:b=k
  ·rw [q]; simp
  ·rw [decide_eq_false q]
   exact beq_eq_false_iff_ne.mpr (by room)
 by_cases h7:p.1=7
 ·have hx:=hh p.1 c hr hc
  rw [decide_eq_false (by room),<-e2] at hx
  unfold img
  rw [if_pos h7,if_pos h7,List.flatMap_cons,List.flatMap_nil,List.append_nil]
  unfold aO8
  rw [if_pos hx]
 ·refine bD6 (cE0 G hD hr) λb m hm he=> ?_
  have e1:=aT m 20 he (by room)
  have br:=aL2 G m hr.1 hr.2
  rw [he.at_] at br
  have on':∀ i,i<m->Cn gs (D++[k]) (it gs i p.1):=λi hi=>let ⟨a1,a2,a3⟩:=he.on i hi; ⟨a1,a2,List.mem_append_left _ a3⟩
  by_cases hb:b=k
  ·-- it goes on
   have he':aS9 gs (D++[k]) p.1 (gl gs k) (m+1):=by
    refine ⟨λi hi=> ?_, ?_,λz=> ?_⟩
    ·by_cases q:i=m
     ·rw [q,he.at_,hb]
      exact ⟨by room,hg,by simp⟩
     ·exact on' i (by room)
    ·rw [aD9,he.at_,hb,bR7 (by room)]
    ·rcases gn with q | q
     ·exact z.1 q
     ·exact q z.2.2
   have e3:=aT (m+1) 20 he' (by room)
   have ne:gl gs k≠p.1:=λz=>by
    rcases gn with q | q
    ·exact h7 (z.symm.trans q)
    ·cases m with
     | zero=>
      have:p.1=b:=he.at_
      exact hg (z.trans (this.trans hb))
     | succ m=>exact q (z ▸ (on' 0 (by room)).2.2)
   have hL:∃ x∈aE6.getD k.toNat [],img gs D p=[x.toNat]:=by
    unfold img
    rw [if_neg h7,e1]
    by_cases q:b=p.1
    ·rw [if_pos q]
     exact ⟨c,by rw [<- hb,q]; exact hc,by rw [e2]⟩
    ·rw [if_neg q,if_pos (by room),hb]
     exact ⟨_,bK9 (by room),rfl⟩
   refine aA1 hL λx hx eL=> ?_
   try clear hL
   have h1:=hh k x (by room) hx
   rw [decide_eq_true rfl] at h1
   rw [eL]
   unfold img
   rw [if_neg h7,e3,if_neg ne,List.flatMap_cons,List.flatMap_nil,List.append_nil]
   unfold aO8
   rw [if_neg (by rw [h1]; decide)]
   by_cases q:gl gs k=7
   ·rw [if_neg (by rw [q]; decide),if_neg (by rw [q]; decide)]
   ·rw [if_pos (by room),if_pos q]
  ·have he':aS9 gs (D++[k]) p.1 b m:=⟨on',he.at_,λz=>he.off ⟨z.1,z.2.1,(List.mem_append.mp z.2.2).resolve_right λy=>hb (List.mem_singleton.mp y)⟩⟩
   have e3:=aT m 20 he' (by room)
   unfold img
   rw [if_neg h7,if_neg h7,e1,e3]
   have one:∀ x∈aE6.getD b.toNat [],([x.toNat]:List Nat).flatMap (aO8 P k.toNat (gl gs k).toNat)=[x.toNat]:=λx hx=>by
    have h1:=hh b x br hx
    rw [decide_eq_false hb] at h1
    rw [List.flatMap_cons,List.flatMap_nil,List.append_nil]
    unfold aO8
    rw [if_pos h1]
   by_cases q:b=p.1
   ·rw [if_pos q,e2]
    exact one c (by rw [q]; exact hc)
   ·rw [if_neg q]
    by_cases q7:b=7
    ·rw [if_neg (λz=>z q7)]; rfl
    ·rw [if_pos q7]
     exact one _ (bK9 (by room))
theorem aN5 {α β:Type}{f g:α->List β}:∀ {l:List α},(∀ x∈l,f x=g x)->l.flatMap f=l.flatMap g
 | [],_=>rfl
 | a::l,h=>by rw [List.flatMap_cons,List.flatMap_cons,h a (.head _),aN5 λx hx=>h x (.tail _ hx)]
theorem cE1 (P:Params)(G:aA9 gs)(d:DOk gs D)(hD:∀ x∈D,x≠7-> ¬Cyc gs x){k:Int}(hk:0<=k/\k<7)(hn:k∉D){ps:List (Int×Nat)}(hp:∀ p∈ps,bL p):
  aE7 P k.toNat (gl gs k).toNat (ps.flatMap (img gs D))=ps.flatMap (img gs (D++[k])):=by
 have gr:=G.rng k.toNat (by room)
 change 0<=gl gs k/\gl gs k<=7 at gr
 unfold aE7
 by_cases q:gl gs k=k
 ·rw [if_pos (by rw [q])]
  exact aN5 λp _=>(bR9 (.inr q)).symm
 ·rw [if_neg (by room)]
  unfold aK7
  rw [List.flatMap_assoc]
  exact aN5 λp hx=>cT4 P G d hD hk hn q (hp p hx)
theorem cL0 {p:Int×Nat}:img gs [] p=[p.2]:=by
 have:goF gs [] 20 p.1=p.1:=by
  rw [goF.eq_2]
  rw [if_neg (λz=>by cases z.2.2)]
 unfold img
 rw [this]
 simp
end
section
variable {gs ord D:List Int}
theorem aW2 (d:DOk gs D)(h7:7∉D):(rmX gs D 7).length+D.length=7:=by
 have e:pdX gs 7=r7:=by unfold pdX; rw [if_pos rfl]
 have n1:(rmX gs D 7++D).Nodup:=List.nodup_append.mpr ⟨(by unfold rmX; exact (bO6 gs 7).filter _),d.nod,λa ha b hb z=>(aG4.mp ha).2 (z ▸ hb)⟩
 have h1:=aC1 (m:=r7) n1 λx hx=>by
  rcases List.mem_append.mp hx with q | q
  ·rw [<- e]; exact (aG4.mp q).1
  ·have:=d.rng x q
   have:x≠7:=λz=>h7 (z ▸ q)
   exact aL6.mpr (by room)
 have h2:=aC1 (m:=rmX gs D 7++D) bF8 λx hx=>by
  by_cases q:x∈D
  ·exact List.mem_append_right _ q
  ·exact List.mem_append_left _ (aG4.mpr ⟨by rw [e]; exact hx,q⟩)
 rw [List.length_append] at h1 h2
 have:r7.length=7:=rfl
 room
theorem cL1 (D:List Int){g:Int}(h:g≠7):aR8 gs D g=rmX gs D g:=by
 unfold aR8 rmX pdX aH8
 rw [if_neg h,List.filter_filter]
 refine List.filter_congr λx _=> ?_
 rw [Bool.and_comm]
theorem bV6 (G:aA9 gs)(d:DOk gs D){k:Int}(hk:0<=k/\k<7)(hD:k∉D)(h7:7∉D):
  aG0 gs (D++[k]) k=[.tup ((aI9 gs D k).map T.int)]++if (D++[k]).length=7 then [.tup []] else []:=by
 have hl:=aW2 d h7
 have e7:k≠7:=by room
 have hg:gl gs k≠k->gl gs k≠7->gl gs k∉D:=λh1 h2 z=>hD (d.cl _ z k (aE.mpr ⟨hk, .inr ⟨λy=>h1 y.symm,rfl⟩⟩))
 unfold aG0 aI9 scX
 rw [if_neg e7]
 have hlen:(D++[k]).length=D.length+1:=by simp
 change (if _ then _ else if (gl gs k == k || gl gs k == 7)=true then _ else if (aR8 gs (D++[k]) (gl gs k)).isEmpty=true then [T.tup [.int (gl gs k)]] else _)=_
 by_cases q:D.length=6
 ·have h77:(D++[k]).length=7:=by room
  rw [if_pos (by rw [hlen,q]; decide),if_pos h77]
  have q2:gl gs k=k\/gl gs k=7:=by
   refine Classical.byContradiction λz=> ?_
   have z1:gl gs k≠k:=λy=>z (.inl y)
   have z2:gl gs k≠7:=λy=>z (.inr y)
   have gn:=hg z1 z2
   have gr:=G.rng k.toNat (by room)
   change 0<=gl gs k/\gl gs k<=7 at gr
   have:=aC1 (l:=D++[k,gl gs k]) (m:=r7) (List.nodup_append.mpr ⟨d.nod,by simp; exact λy=>z1 y.symm,λa ha b hb y=>by
    rcases List.mem_cons.mp hb with e | e
    ·exact hD (by rw [<- e,<-y]; exact ha)
    ·exact gn (by rw [<- List.mem_singleton.mp e,<-y]; exact ha)⟩) λx hx=>by
    rcases List.mem_append.mp hx with y | y
    ·have:=d.rng x y
     have:x≠7:=λw=>h7 (w ▸ y)
     exact aL6.mpr (by room)
    ·rcases List.mem_cons.mp y with e | e
     ·exact aL6.mpr (by room)
     ·rw [List.mem_singleton.mp e]; exact aL6.mpr (by room)
   rw [List.length_append] at this
   have e7:r7.length=7:=rfl
   simp only [List.length_cons,List.length_nil] at this
   room
  rw [if_pos q2,List.filter_cons,if_pos (by rw [decide_eq_true_eq]; room)]
  rfl
 ·have h77: ¬(D++[k]).length=7:=by room
  rw [if_neg (by rw [hlen]; intro z; have z:=eq_of_beq z; room),if_neg h77,List.append_nil]
  have n7: ¬decide ((rmX gs D 7).length=1)=true:=by rw [decide_eq_true_eq]; room
  by_cases q2:gl gs k=k\/gl gs k=7
  ·rw [if_pos (by simpa using q2),if_pos q2,List.filter_cons,if_neg n7]
   rfl
  ·rw [if_neg (by simpa using q2),if_neg q2,List.filter_cons,if_neg n7]
   have z1:gl gs k≠k:=λy=>q2 (.inl y)
   have z2:gl gs k≠7:=λy=>q2 (.inr y)
   have hs:gl gs k∈scX gs k:=by unfold scX; rw [if_neg e7,if_neg q2]; simp
   obtain ⟨_,_,_,_,n5⟩:=aQ5 d (by room) hD hs
   rw [cL1 _ z2,List.filter_cons]
   by_cases q3:(rmX gs D (gl gs k)).length=1
   ·rw [if_pos (decide_eq_true q3),if_pos (by rw [List.isEmpty_iff]; exact List.length_eq_zero_iff.mp (by room))]
    rfl
   ·rw [if_neg (by rw [List.isEmpty_iff]; intro z; rw [z] at n5; simp only [List.length_nil] at n5; room),if_neg (by rw [decide_eq_true_eq]; exact q3)]
    rfl
structure Sim (gs ord:List Int)(ps:List (Int×Nat))(s:Int)(r:List Int)(y:RS)(acc:List Int×List T):Prop where
 d:DOk gs y.D
 mem:InD gs ord s r y.D
 txt:y.txt=ps.flatMap (img gs y.D)
 a1:acc.1=y.D.filter (· != 7)
 a2:acc.2=y.giv++if y.D.length=7 then [.tup []] else []
theorem InD.nc (H:aS8 gs ord){s:Int}{r:List Int}(h:InD gs ord s r D):∀ x∈D,x≠7-> ¬Cyc gs x:=λx hx h7 z=>by
 refine aC5 ((h x).mp hx) λh1 h2 _=> ?_
 have:=aW1 (ord:=ord) H.G (by room) z
 room
theorem aO6 {s k:Int}:lft (aA5 gs ord) s k=true↔tS gs ord k=0\/s<tS gs ord k:=by
 unfold lft
 rw [Bool.or_eq_true,beq_iff_eq,decide_eq_true_eq]
theorem Sim.one (P:Params)(H:aS8 gs ord){ps:List (Int×Nat)}(hp:∀ p∈ps,bL p){s:Int}(hs:1<=s){r1 r2:List Int}{k:Int}{y:RS}{acc:List Int×List T}(e:ord++[7]=r1++k::r2)(S:Sim gs ord ps s r1 y acc):
  Sim gs ord ps s (r1++[k]) (if lft (aA5 gs ord) (s - 1) k then y.one P gs k else y) (if k=7 then acc else aC0 gs (aA5 gs ord) s acc k)/\
  (if lft (aA5 gs ord) (s - 1) k then y.one P gs k else y).left=y.left++(if lft (aA5 gs ord) s k then [k] else [])/\(if lft (aA5 gs ord) (s - 1) k then y.one P gs k else y).log=y.log:=by
 have kr:0<=k/\k<=7:=(H.mem k).mp (by rw [e]; simp)
 have t0:=cK9 (ord:=ord) H.G kr
 have gvn:tS gs ord k≠s->(if k=7 then acc else aC0 gs (aA5 gs ord) s acc k)=acc:=λh=>by
  by_cases q:k=7
  ·rw [if_pos q]
  ·rw [if_neg q]
   unfold aC0
   exact if_neg λz=>h (eq_of_beq z)
 have memn:tS gs ord k≠s->InD gs ord s (r1++[k]) y.D:=λh v=>(S.mem v).trans ⟨λ⟨a,b,c⟩=>⟨a,b,c.imp id λc=>⟨c.1,List.mem_append_left _ c.2⟩⟩,λ⟨a,b,c⟩=>⟨a,b,c.imp id λc=>⟨c.1,(List.mem_append.mp c.2).resolve_right λz=>h (by rw [<- List.mem_singleton.mp z]; exact c.1)⟩⟩⟩
 by_cases c1:tS gs ord k=0\/s - 1<tS gs ord k
 ·have hd:=cT3 H hs e S.mem (by room)
  rw [if_pos (aO6.mpr c1)]
  by_cases c2:tS gs ord k=s
  ·have hn:=hd.mpr c2
   refine aC5 (S.d.snoc kr hn) λhk _ d'=> ?_
   have m':InD gs ord s (r1++[k]) (y.D++[k]):=λv=>by
    rw [List.mem_append,List.mem_singleton,List.mem_append,List.mem_singleton,S.mem v]
    constructor
    ·rintro (⟨a,b,c⟩ | rfl)
     ·exact ⟨a,b,c.imp id λc=>⟨c.1, .inl c.2⟩⟩
     ·exact ⟨kr,by room, .inr ⟨c2, .inr rfl⟩⟩
    ·rintro ⟨a,b,c | ⟨c,c' | c'⟩⟩
     ·exact .inl ⟨a,b, .inl c⟩
     ·exact .inl ⟨a,b, .inr ⟨c,c'⟩⟩
     ·exact .inr c'
   have e1:y.one P gs k={ y with D:=y.D++[k],txt:=if k=7 then y.txt else aE7 P k.toNat (gl gs k).toNat y.txt,giv:=y.giv++[.tup ((aI9 gs y.D k).map T.int)] }:=by
    unfold RS.one; rw [if_pos hn]
   have l0:lft (aA5 gs ord) s k=false:=by
    rw [<- Bool.not_eq_true,aO6]; room
   rw [e1,l0]
   refine ⟨?_,by simp,rfl⟩
   by_cases q:k=7
   ·subst q
    rw [if_pos rfl,if_pos rfl]
    have sub:∀ p∈pdX gs 7,p∈y.D:=(aU6.mp hn).2
    have l7:=aW2 S.d hk
    have r0:rmX gs y.D 7=[]:=List.eq_nil_iff_forall_not_mem.mpr λx hx=>(aG4.mp hx).2 (sub x (aG4.mp hx).1)
    rw [r0] at l7
    simp only [List.length_nil,Nat.zero_add] at l7
    refine ⟨d',m', ?_, ?_, ?_⟩
    ·show y.txt=_
     rw [S.txt]
     exact aN5 λp _=>(bR9 (.inl rfl)).symm
    ·show acc.1=(y.D++[7]).filter _
     rw [List.filter_append,S.a1]; simp
    ·show acc.2=(y.giv++_)++if (y.D++[7]).length=7 then _ else _
     rw [S.a2,if_pos l7,if_neg (by simp; room),List.append_nil]
     have:aI9 gs y.D 7=[]:=by unfold aI9 scX; rw [if_pos rfl]; rfl
     rw [this]; rfl
   ·have k7:0<=k/\k<7:=by room
    rw [if_neg q,if_neg q]
    have h7:7∉y.D:=λz=>hk (S.d.cl 7 z k (aE.mpr ⟨k7, .inl rfl⟩))
    have f7:y.D.filter (· != 7)=y.D:=List.filter_eq_self.mpr λx hx=>by
     rw [bne_iff_ne]; exact λz=>h7 (z ▸ hx)
    have a1:=S.a1
    rw [f7] at a1
    have l6:y.D.length<=6:=by
     have:=aW2 S.d h7
     have hr:1<=(rmX gs y.D 7).length:=List.length_pos_of_mem (aG4.mpr ⟨aE.mpr ⟨k7, .inl rfl⟩,hk⟩)
     room
    have a2:=S.a2
    rw [if_neg (by room),List.append_nil] at a2
    have ge:aC0 gs (aA5 gs ord) s acc k=(y.D++[k],y.giv++aG0 gs (y.D++[k]) k):=by
     unfold aC0
     rw [if_pos (beq_iff_eq.mpr c2),a1,a2]
    rw [ge]
    refine ⟨d',m', ?_, ?_, ?_⟩
    ·show aE7 P k.toNat (gl gs k).toNat y.txt=_
     rw [S.txt]
     exact cE1 P H.G S.d (S.mem.nc H) k7 hk hp
    ·show y.D++[k]=(y.D++[k]).filter _
     rw [List.filter_append,f7,List.filter_cons,if_pos (by rw [bne_iff_ne]; exact q)]; rfl
    ·show y.giv++aG0 gs (y.D++[k]) k=(y.giv++_)++_
     rw [bV6 H.G S.d k7 hk h7,List.append_assoc]
  ·have e1:y.one P gs k={ y with left:=y.left++[k] }:=by
    unfold RS.one; rw [if_neg λz=>c2 (hd.mp z)]
   have n2:lft (aA5 gs ord) s k=true:=aO6.mpr (by room)
   rw [e1,if_pos n2,gvn c2]
   exact ⟨⟨S.d,memn c2,S.txt,S.a1,S.a2⟩,rfl,rfl⟩
 ·have n1: ¬lft (aA5 gs ord) (s - 1) k=true:=λz=>c1 (aO6.mp z)
  have n2: ¬lft (aA5 gs ord) s k=true:=λz=>c1 (by have:=aO6.mp z; room)
  rw [if_neg n1,if_neg n2,gvn (by room),List.append_nil]
  exact ⟨⟨S.d,memn (by room),S.txt,S.a1,S.a2⟩,rfl,rfl⟩
theorem Sim.fold (P:Params)(H:aS8 gs ord){ps:List (Int×Nat)}(hp:∀ p∈ps,bL p){s:Int}(hs:1<=s):∀ (r2 r1:List Int) {y:RS} {acc:List Int×List T},ord++[7]=r1++r2->Sim gs ord ps s r1 y acc->
  Sim gs ord ps s (r1++r2) (r2.foldl (λy k=>if lft (aA5 gs ord) (s - 1) k then y.one P gs k else y) y) (r2.foldl (λacc k=>if k=7 then acc else aC0 gs (aA5 gs ord) s acc k) acc)/\
  (r2.foldl (λy k=>if lft (aA5 gs ord) (s - 1) k then y.one P gs k else y) y).left=y.left++r2.filter (lft (aA5 gs ord) s)/\(r2.foldl (λy k=>if lft (aA5 gs ord) (s - 1) k then y.one P gs k else y) y).log=y.log
 | [],r1,y,acc,e,S=>⟨by rw [List.append_nil]; exact S,(List.append_nil _).symm,rfl⟩
 | k::r2,r1,y,acc,e,S=>by
  refine aC5 (Sim.one P H hp hs e S) λS1 l1 g1=> ?_
  obtain ⟨S2,l2,g2⟩:=Sim.fold P H hp hs r2 (r1++[k]) (by rw [e,List.append_assoc]; rfl) S1
  rw [List.append_assoc] at S2
  refine ⟨S2, ?_,g2.trans g1⟩
  rw [List.foldl_cons,l2,l1,List.append_assoc,List.filter_cons]
  by_cases q:lft (aA5 gs ord) s k=true
  ·rw [if_pos q,if_pos q]; rfl
  ·rw [if_neg q,if_neg q]; rfl
theorem cE2 {s:Int}{sw:List Int}:∀ (l:List Int) (acc:List Int×List T),(∀ k∈l,k≠7)->(l++[7]).foldl (λacc k=>if k=7 then acc else aC0 gs sw s acc k) acc=l.foldl (aC0 gs sw s) acc
 | [],acc,_=>by simp
 | k::l,acc,h=>by
  rw [List.cons_append,List.foldl_cons,List.foldl_cons,if_neg (h k (.head _))]
  exact cE2 l _ λx hx=>h x (.tail _ hx)
theorem cL2 (sw:List Int)(n:Nat):aB2 gs ord sw (n+1)=ord.foldl (aC0 gs sw ((n:Int)+1)) (aB2 gs ord sw n):=by
 unfold aB2
 rw [List.range_succ,List.foldl_append]; rfl
theorem cT5 (H:aS8 gs ord){s:Int}(h:InD gs ord (s+1) [] D)(a:Int)(ha:0<=a/\a<=7):cD gs (aA5 gs ord) s a=true↔Cn gs D a:=by
 unfold cD Cn
 rw [h a,Bool.and_eq_true,Bool.and_eq_true,Bool.and_eq_true,bne_iff_ne,bne_iff_ne,decide_eq_true_eq,decide_eq_true_eq]
 constructor
 ·intro w1w
  refine aC5 w1w λz1z h3 h4=> ?_
  try clear w1w
  refine aB z1z λh1 h2=> ?_
  try clear z1z
  exact ⟨h1,h2,ha,h3, .inl (by have h4:tS gs ord a<=s:=h4; room)⟩
 ·rintro ⟨h1,h2,_,h3,h4 | h4⟩
  ·exact ⟨⟨h1,h2⟩,h3,(by room:tS gs ord a<=s)⟩
  ·cases h4.2
theorem InD.nxt {s:Int}(H:aS8 gs ord)(h:InD gs ord s (ord++[7]) D):InD gs ord (s+1) [] D:=λv=>by
 rw [h v]
 constructor
 ·intro w1w
  refine aC5 w1w λa b c=> ?_
  try clear w1w
  exact ⟨a,b, .inl (by room)⟩
 ·rintro ⟨a,b,c | c⟩
  ·refine ⟨a,b, ?_⟩
   by_cases q:tS gs ord v=s
   ·exact .inr ⟨q,(H.mem v).mpr a⟩
   ·exact .inl (by room)
  ·cases c.2
theorem cE3 (P:Params)(H:aS8 gs ord){ps:List (Int×Nat)}(hp:∀ p∈ps,bL p){cs:List Nat}(hcs:cs=ps.map (·.2)):∀ n:Nat,Sim gs ord ps ((n:Int)+1) [] (rn P gs ord cs n) (aB2 gs ord (aA5 gs ord) n)/\
  (rn P gs ord cs n).left=(ord++[7]).filter (lft (aA5 gs ord) n)/\(rn P gs ord cs n).log=(List.range n).map (aY5 gs ord (aA5 gs ord) ps)
 | 0=>by
  refine ⟨⟨DOk.nil gs,λv=>⟨λh=>(by cases h),λ⟨a,b,c⟩=> ?_⟩, ?_,rfl,rfl⟩, ?_,rfl⟩
  ·rcases c with c | c
   ·have c:tS gs ord v<(0:Int)+1:=c
    room
   ·cases c.2
  ·show cs=_
   rw [hcs]
   have:∀ l:List (Int×Nat),l.map (·.2)=l.flatMap (img gs []):=λl=>by
    induction l with
    | nil=>rfl
    | cons a l ih=>rw [List.map_cons,List.flatMap_cons,ih,cL0]; rfl
   exact this ps
  ·show ord++[7]=_
   refine (List.filter_eq_self.mpr λk hk=>aO6.mpr ?_).symm
   have:=cK9 (ord:=ord) H.G ((H.mem k).mp hk)
   show _\/(0:Int)<_
   room
 | n+1=>by
  refine aC5 (cE3 P H hp hcs n) λS hl hg=> ?_
  obtain ⟨y0,h0⟩:∃ y0:RS,y0={ rn P gs ord cs n with left:=[] }:=⟨_,rfl⟩
  have S':Sim gs ord ps ((n:Int)+1) [] y0 (aB2 gs ord (aA5 gs ord) n):=by
   rw [h0]; exact ⟨S.d,S.mem,S.txt,S.a1,S.a2⟩
  obtain ⟨S2,l2,g2⟩:=Sim.fold P H hp (by room) (ord++[7]) [] rfl S'
  rw [cE2 ord _ (λk hk=>by have:=H.hor k hk; room),<-cL2] at S2
  have e:(rn P gs ord cs (n+1))=((ord++[7]).foldl (λ(y:RS) k=>if lft (aA5 gs ord) ((n:Int)+1 - 1) k then y.one P gs k else y) y0).end_:=by
   show (rn P gs ord cs n).sweep P gs=_
   unfold RS.sweep
   rw [hl,List.foldl_filter,show (n:Int)+1 - 1=n by room,h0]
  have l0:y0.left=[]:=by rw [h0]
  have g0:y0.log=(rn P gs ord cs n).log:=by rw [h0]
  rw [l0,List.nil_append] at l2
  rw [g0] at g2
  rw [e]
  generalize (ord++[7]).foldl (λ(y:RS) k=>if lft (aA5 gs ord) ((n:Int)+1 - 1) k then y.one P gs k else y) y0=z at *
  have m':=S2.mem.nxt H
  have ec:((n+1:Nat):Int)=(n:Int)+1:=by room
  rw [ec]
  refine ⟨⟨S2.d,m',S2.txt,S2.a1,S2.a2⟩,l2, ?_⟩
  show z.log++[.tup [.str ⟨z.txt.toArray⟩, .list (z.left.map T.int)]]=_
  rw [g2,List.range_succ,List.map_append]
  refine congr (congrArg _ hg) ?_
  show [T.tup [.str ⟨z.txt.toArray⟩, .list (z.left.map T.int)]]=[aY5 gs ord (aA5 gs ord) ps n]
  have e1:aE9 gs (aA5 gs ord) ((n:Int)+1) ps=z.txt:=by
   rw [S2.txt]
   exact aN5 λp hx=>(bD3 H.G (cT5 H m') (m'.nc H) (hp p hx)).1
  have e2:cM1 ord (aA5 gs ord) ((n:Int)+1)=z.left:=l2.symm
  unfold aY5
  rw [e1,e2]
end
section
variable {gs:List Int}{suc:Int->List Int}
def NoR (gs:List Int)(v:Int):Prop:=∀ i, ¬Cyc gs (it gs i v)
theorem NoR.fwd {v:Int}(h:NoR gs v)(n:Nat):NoR gs (it gs n v):=λi=>by rw [<- aD3]; exact h (i+n)
theorem NoR.seven:NoR gs 7:=λi h=>by rw [aK4] at h; exact h.1 rfl
theorem NoR.back {r:Int}{m:Nat}(h:NoR gs (it gs m r)):NoR gs r:=λi hc=>by
 by_cases q:m<=i
 ·have:=h (i - m)
  rw [<- aD3,show i - m+m=i by room] at this
  exact this hc
 ·have:=bP1 hc (m - i)
  rw [<- aD3,show m - i+i=m by room] at this
  exact h 0 this
theorem aZ9:∀ {rs:List (Int×Nat)},(∀ x∈rs,(suc x.1)[x.2]? =none)->adv suc rs=none
 | [],_=>rfl
 | (v,i)::r,h=>by
  have h1:=h (v,i) (.head _)
  rw [adv.eq_2]
  dsimp only at h1
  rw [h1]
  exact aZ9 λx hx=>h x (.tail _ hx)
theorem bG2:∀ {m j:Nat} {r:Int},(way gs m r).Nodup->j<m->(way gs m r).idxOf (it gs j r)=j:=λ{m j r} nd hj=>by
 have hl:j<(way gs m r).length:=by rw [aL3]; exact hj
 have e:(way gs m r)[j]=it gs j r:=by simp [way]
 rw [<- e]
 exact nd.idxOf_getElem j hl
theorem bL0 (m j:Nat)(r:Int):(way gs m r).drop j=way gs (m - j) (it gs j r):=by
 refine List.ext_getElem? λi=> ?_
 rw [List.getElem?_drop]
 unfold way
 rw [List.getElem?_map,List.getElem?_map]
 by_cases q:j+i<m
 ·rw [List.getElem?_range q,List.getElem?_range (by room)]
  show some (it gs (j+i) r)=some (it gs i (it gs j r))
  rw [<- aD3,Nat.add_comm]
 ·rw [List.getElem?_eq_none (by simp; room),List.getElem?_eq_none (by simp; room)]; rfl
theorem bG3 {m:Nat}{r:Int}(nd:(way gs m r).Nodup){i j:Nat}(hi:i<m)(hj:j<m)(e:it gs i r=it gs j r):i=j:=by
 rw [<- bG2 nd hi,<-bG2 nd hj,e]
theorem cL3 (G:aA9 gs){x:Int}(hx:0<=x/\x<7){q:Nat}(hq:1<=q)(nd:(way gs q x).Nodup)(e:it gs q x=x)(hs:st gs x≠x):Cyc gs x/\aE8 gs x.toNat=way gs q x++[x]:=by
 have hc:Cyc gs x:=⟨by room,hs,q,hq,e⟩
 have ex:((x.toNat:Nat):Int)=x:=by room
 refine ⟨hc, ?_⟩
 rcases aP3 G (k:=x.toNat) (by room) with ⟨p,_,h1,h2,h3,_⟩ | ⟨_,h⟩
 ·rw [ex] at h1 h2 h3
  have:p+1=q:=by
   rcases Nat.lt_trichotomy (p+1) q with l | l | l
   ·have:=bG3 nd (i:=p+1) (j:=0) l (by room) h3
    room
   ·exact l
   ·have:=bG3 h2 (i:=q) (j:=0) l (by room) e
    room
  rw [h1,this]
 ·rw [ex] at h; exact absurd hc h
structure bD4 (gs:List Int)(r:Int)(j:Nat):Prop where
 on:Cyc gs (it gs j r)
 off:∀ i,i<j-> ¬Cyc gs (it gs i r)
theorem cE4 {r:Int}{m j:Nat}(nd:(way gs m r).Nodup)(hj:j<m)(e:it gs m r=it gs j r)(hc:Cyc gs (it gs j r)):bD4 gs r j:=by
 refine ⟨hc,λi hi c=> ?_⟩
 refine aC5 c λ_ _ h9=>aA1 h9 λP hP eP=> ?_
 try clear c
 have h1:=bE9 eP j
 have hle:j - i<=P * j:=by
  have:j<=P * j:=Nat.le_mul_of_pos_left j hP
  room
 have e0:P * j - (j - i)+j=P * j+i:=by rw [<- Nat.sub_add_comm hle,Nat.add_sub_assoc (Nat.sub_le j i),Nat.sub_sub_self (Nat.le_of_lt hi)]
 have back:∀ x,it gs j r=x->it gs (P * j - (j - i)) x=it gs i r:=λx hx=>by
  rw [<- hx,<-aD3,e0,aD3,h1]
 have e2:=back _ rfl
 rw [<- e,<-aD3] at e2
 rw [show P * j - (j - i)+m=(m - j)+(P * j+i) by rw [<- e0,Nat.add_left_comm,Nat.sub_add_cancel (Nat.le_of_lt hj)],aD3,aD3,h1,<-aD3] at e2
 have:=bG3 nd (i:=m - j+i) (j:=i) (by room) (by room) e2
 room
theorem bS (G:aA9 gs)(hs:∀ v,0<=v/\v<=7->suc v=scX gs v){r:Int}(hr:0<=r/\r<7):∀ (q m n:Nat) (seen:List Int) (rs:List (Int×Nat)),m+q=8->17<=n+2 * m->stk rs=way gs m r->(∀ x∈rs,(suc x.1)[x.2]? =none)->(way gs m r).Nodup->(∀ x∈way gs m r,x∈seen/\(0<=x/\x<7)/\gl gs x≠x/\gl gs x≠7)->(∀ v∈seen,v∈way gs m r\/NoR gs v)->
  (NoR gs r/\∃ seen',aH0 suc n (it gs m r) seen rs= .end_ seen'/\∀ v∈seen',NoR gs v)\/(∃ j,bD4 gs r j/\aH0 suc n (it gs m r) seen rs= .ring (aE8 gs (it gs j r).toNat))
 | 0,m,n,seen,rs,hq,hn,hk,hx,nd,hw,hv=>by
  have:=few 7 _ nd λx hx=>(hw x hx).2.1
  rw [aL3] at this
  room
 | q+1,m,n,seen,rs,hq,hn,hk,hx,nd,hw,hv=>by
  obtain ⟨n,rfl⟩:∃ n',n=n'+1:=⟨n - 1,by room⟩
  have xr:0<=it gs m r/\it gs m r<7:=by
   have h1:=aL2 G m hr.1 (by room)
   have h2:it gs m r≠7:=by
    cases m with
    | zero=>show r≠7; room
    | succ m=>
     have h3:=hw (it gs m r) (aO.mpr ⟨m,by room,rfl⟩)
     rw [aD9,aP h3.2.1]; exact h3.2.2.2
   room
  have nor:NoR gs (it gs m r)->∀ v∈seen,NoR gs v:=λh v hv'=>by
   rcases hv v hv' with h1 | h1
   ·refine aA1 (aO.mp h1) λi _ e=> ?_
    exact e ▸ h.back.fwd i
   ·exact h1
  by_cases a1:it gs m r∈way gs m r
  ·-- a ring
   refine .inr ?_
   refine aA1 (aO.mp a1) λj hj e=> ?_
   have ej:=(hw _ a1).2.2
   have hst:st gs (it gs j r)≠it gs j r:=by
    rw [e,aP xr]; exact ej.1
   have nd2:(way gs (m - j) (it gs j r)).Nodup:=by
    rw [<- bL0]; exact nd.sublist (List.drop_sublist _ _)
   obtain ⟨c1,c2⟩:=cL3 G (x:=it gs j r) (by rw [e]; exact xr) (q:=m - j) (by room) nd2 (by rw [<- aD3,show m - j+j=m by room,e]) hst
   refine ⟨j,cE4 nd hj e.symm c1, ?_⟩
   rw [aH0.eq_2]
   rw [if_pos (hw _ a1).1,hk,if_pos a1,c2]
   unfold bF5
   rw [<- e,bG2 nd hj,bL0]
  ·by_cases a2:it gs m r∈seen
   ·refine .inl ?_
    have hN:=(hv _ a2).resolve_left a1
    refine ⟨hN.back,seen, ?_,nor hN⟩
    rw [aH0.eq_2]
    rw [if_pos a2,hk,if_neg a1,aZ9 hx]
   ·-- on
    have e1:=hs (it gs m r) (by room)
    have e7:suc 7=[]:=by rw [hs 7 (by decide)]; unfold scX; rw [if_pos rfl]
    have w1:aH0 suc (n+1) (it gs m r) seen rs=match adv suc ((it gs m r,0)::rs) with
      | none=> .end_ (seen++[it gs m r])
      | some (x,rs')=>aH0 suc n x (seen++[it gs m r]) rs':=by
     conv=>lhs; rw [aH0.eq_2]
     rw [if_neg a2]
     all_goals (generalize adv suc ((it gs m r,0)::rs)=z; cases z<;>rfl)
    have wy:way gs (m+1) r=way gs m r++[it gs m r]:=aR gs m r
    have a7:adv suc ((it gs m r,0)::rs)=some (7,(it gs m r,1)::rs):=by
     rw [adv.eq_2]
     rw [e1]
     unfold scX
     rw [if_neg (by room)]
     by_cases c:gl gs (it gs m r)=it gs m r\/gl gs (it gs m r)=7
     ·rw [if_pos c]; rfl
     ·rw [if_neg c]; rfl
    have n7:7∉stk ((it gs m r,1)::rs):=by
     have:stk ((it gs m r,1)::rs)=stk rs++[it gs m r]:=by unfold stk; simp
     rw [this,hk]
     intro z
     rcases List.mem_append.mp z with z | z
     ·have:=(hw _ z).2.1; room
     ·have:=List.mem_singleton.mp z; room
    obtain ⟨n,rfl⟩:∃ n',n=n'+1:=⟨n - 1,by have:=few 7 _ nd λx hx=>(hw x hx).2.1; rw [aL3] at this; room⟩
    have w2:∃ sn,(sn=seen++[it gs m r]\/sn=seen++[it gs m r]++[7])/\aH0 suc (n+1) 7 (seen++[it gs m r]) ((it gs m r,1)::rs)=match adv suc ((it gs m r,1)::rs) with
      | none=> .end_ sn
      | some (x,rs')=>aH0 suc n x sn rs':=by
     by_cases b:7∈seen++[it gs m r]
     ·refine ⟨_, .inl rfl, ?_⟩
      conv=>lhs; rw [aH0.eq_2]
      rw [if_pos b,if_neg n7]
      all_goals (generalize adv suc ((it gs m r,1)::rs)=z; cases z<;>rfl)
     ·refine ⟨_, .inr rfl, ?_⟩
      have:adv suc ((7,0)::(it gs m r,1)::rs)=adv suc ((it gs m r,1)::rs):=by
       conv=>lhs; rw [adv.eq_2]
       rw [e7]; rfl
      conv=>lhs; rw [aH0.eq_2]
      rw [if_neg b,this]
      all_goals (generalize adv suc ((it gs m r,1)::rs)=z; cases z<;>rfl)
    refine aA1 w2 λsn hsn w2=> ?_
    have sn_mem:∀ v,v∈sn->v∈seen\/v=it gs m r\/v=7:=λv h=>by
     rcases hsn with rfl | rfl
     ·rcases List.mem_append.mp h with h | h
      ·exact .inl h
      ·exact .inr (.inl (List.mem_singleton.mp h))
     ·rcases List.mem_append.mp h with h | h
      ·rcases List.mem_append.mp h with h | h
       ·exact .inl h
       ·exact .inr (.inl (List.mem_singleton.mp h))
      ·exact .inr (.inr (List.mem_singleton.mp h))
    have sn_in:∀ v,v∈seen\/v=it gs m r->v∈sn:=λv h=>by
     rcases hsn with rfl | rfl<;>rcases h with h | h<;>simp [h]
    rw [w1,a7]
    dsimp only
    rw [w2]
    by_cases c:gl gs (it gs m r)=it gs m r\/gl gs (it gs m r)=7
    ·have hN:NoR gs (it gs m r):=by
      have h0: ¬Cyc gs (it gs m r):=λz=>by
       rcases c with c | c
       ·exact z.2.1 (by rw [aP xr]; exact c)
       ·have:=aZ7 z
        rw [aP xr,c] at this
        exact this.1 rfl
      intro i
      cases i with
      | zero=>exact h0
      | succ i=>
       show ¬Cyc gs (it gs i (st gs (it gs m r)))
       rw [aP xr]
       rcases c with c | c
       ·rw [c]
        have:∀ i,it gs i (it gs m r)=it gs m r:=λi=>by
         induction i with
         | zero=>rfl
         | succ i ih=>rw [aD9,ih,aP xr,c]
        rw [this]; exact h0
       ·rw [c]; exact NoR.seven i
     refine .inl ⟨hN.back,sn, ?_,λv h=> ?_⟩
     ·rw [aZ9]
      intro x hx'
      rcases List.mem_cons.mp hx' with e | e
      ·rw [e]
       show (suc (it gs m r))[1]? =none
       rw [e1]; unfold scX; rw [if_neg (by room),if_pos c]; rfl
      ·exact hx x e
     ·rcases sn_mem v h with h | h | h
      ·exact nor hN v h
      ·rw [h]; exact hN
      ·rw [h]; exact NoR.seven
    ·have c1:gl gs (it gs m r)≠it gs m r:=λz=>c (.inl z)
     have c2:gl gs (it gs m r)≠7:=λz=>c (.inr z)
     have es:suc (it gs m r)=[7,gl gs (it gs m r)]:=by
      rw [e1]; unfold scX; rw [if_neg (by room),if_neg c]
     have a8:adv suc ((it gs m r,1)::rs)=some (it gs (m+1) r,(it gs m r,2)::rs):=by
      rw [adv.eq_2]
      rw [es,aD9,aP xr]; rfl
     rw [a8]
     dsimp only
     refine bS G hs hr q (m+1) n sn ((it gs m r,2)::rs) (by room) (by room) ?_ ?_ ?_ ?_ ?_
     ·have:stk ((it gs m r,2)::rs)=stk rs++[it gs m r]:=by unfold stk; simp
      rw [this,hk,wy]
     ·intro x hx'
      rcases List.mem_cons.mp hx' with e | e
      ·rw [e]
       show (suc (it gs m r))[2]? =none
       rw [es]; rfl
      ·exact hx x e
     ·rw [wy]
      exact List.nodup_append.mpr ⟨nd,by simp,λa ha b hb z=>a1 (by rw [<- List.mem_singleton.mp hb,<-z]; exact ha)⟩
     ·intro x hx'
      rw [wy] at hx'
      rcases List.mem_append.mp hx' with h | h
      ·have:=hw x h
       exact ⟨sn_in x (.inl this.1),this.2⟩
      ·have h:=List.mem_singleton.mp h
       rw [h]
       exact ⟨sn_in _ (.inr rfl),xr,c1,c2⟩
     ·intro v h
      rw [wy]
      rcases sn_mem v h with h | h | h
      ·exact (hv v h).imp (List.mem_append_left _) id
      ·exact .inl (by rw [h]; simp)
      ·exact .inr (by rw [h]; exact NoR.seven)
end
section
variable {gs:List Int}{suc:Int->List Int}
noncomputable def t1 (gs:List Int)(k:Int):Option (List Int):=
 if aC6 gs 7 k != 7 && !((aB6 gs).getD (aC6 gs 7 k).toNat []).isEmpty then some ((aB6 gs).getD (aC6 gs 7 k).toNat []) else none
noncomputable def tR (gs:List Int):List Int->Option (List Int)
 | []=>none
 | k::l=>(t1 gs k).or (tR gs l)
theorem bG4:∀ l:List Nat,aD0 gs l=tR gs (l.map λn:Nat=>(n:Int))
 | []=>rfl
 | k::l=>by
  show _=(t1 gs k).or (tR gs (l.map λn:Nat=>(n:Int)))
  rw [<- bG4 l]
  have e:aD0 gs (k::l)=if (aC6 gs 7 k != 7 && !((aB6 gs).getD (aC6 gs 7 k).toNat []).isEmpty)=true then some ((aB6 gs).getD (aC6 gs 7 k).toNat []) else aD0 gs l:=rfl
  rw [e]
  unfold t1
  split<;>rfl
theorem bP4:∀ l l':List Int,tR gs (l++l')=(tR gs l).or (tR gs l')
 | [],l'=>rfl
 | k::l,l'=>by
  show (t1 gs k).or (tR gs (l++l'))=((t1 gs k).or (tR gs l)).or _
  rw [bP4 l l',Option.or_assoc]
theorem bS0:∀ {l:List Int},tR gs l=none->∀ k∈l,t1 gs k=none
 | [],_,k,h=>by cases h
 | x::l,e,k,h=>by
  have e:(t1 gs x).or (tR gs l)=none:=e
  rw [Option.or_eq_none_iff] at e
  rcases List.mem_cons.mp h with rfl | h
  ·exact e.1
  ·exact bS0 e.2 k h
theorem bL1 (G:aA9 gs):∀ (j n:Nat) {r:Int},(0<=r/\r<=7)->bD4 gs r j->j<=n->aC6 gs n r=it gs j r
 | 0,0,r,_,_,_=>rfl
 | 0,n+1,r,hr,h,_=>by
  have hc:Cyc gs r:=h.on
  have l7:r<7:=by have:=hc.1; room
  have: ¬((aB6 gs).getD r.toNat []).isEmpty=true:=λz=>(aD5 G hr.1 l7).mp z hc
  rw [aC6.eq_2]
  rw [if_neg (by simp at this ⊢; intro _ z; exact absurd z this)]; rfl
 | j+1,0,r,_,_,l=>absurd l (by room)
 | j+1,n+1,r,hr,h,l=>by
  have h0: ¬Cyc gs r:=h.off 0 (by room)
  have h7:r≠7:=λz=>by
   have:=h.on
   rw [z,aK4] at this
   exact this.1 rfl
  have hs:st gs r≠r:=λz=>by
   have:∀ i,it gs i r=r:=λi=>by
    induction i with
    | zero=>rfl
    | succ i ih=>rw [aD9,ih,z]
   have h2:=h.on
   rw [this] at h2
   exact h0 h2
  have e:st gs r=gs.getD r.toNat 0:=by unfold st; rw [if_neg h7]
  have he:=(aD5 G hr.1 (by room)).mpr h0
  rw [aC6.eq_2]
  rw [if_pos (by rw [he,<-e]; simp; exact ⟨h7,hs⟩),<-e]
  exact bL1 G j n (aW8 G hr.1 hr.2) ⟨h.on,λi hi=>h.off (i+1) (by room)⟩ (by room)
theorem cE5 (G:aA9 gs):∀ (n:Nat) {r:Int},(0<=r/\r<=7)->NoR gs r->NoR gs (aC6 gs n r)/\(0<=aC6 gs n r/\aC6 gs n r<=7)
 | 0,r,hr,h=>⟨h,hr⟩
 | n+1,r,hr,h=>by
  rw [aC6.eq_2]
  split
  ·rename_i q
   simp only [Bool.and_eq_true,bne_iff_ne] at q
   have e:st gs r=gs.getD r.toNat 0:=by unfold st; rw [if_neg q.1.1]
   rw [<- e]
   exact cE5 G n (aW8 G hr.1 hr.2) (h.fwd 1)
  ·exact ⟨h,hr⟩
theorem bA (G:aA9 gs){r:Int}(hr:0<=r/\r<=7)(h:NoR gs r):t1 gs r=none:=by
 refine aB (cE5 G 7 hr h) λh1 h2=> ?_
 unfold t1
 refine if_neg λz=> ?_
 rw [Bool.and_eq_true,bne_iff_ne,Bool.not_eq_true'] at z
 have:=(aD5 G h2.1 (by room)).mpr (h1 0)
 rw [this] at z
 exact absurd z.2 (by decide)
theorem bV7 (G:aA9 gs){r:Int}(hr:0<=r/\r<=7){j:Nat}(h:bD4 gs r j):j<=7:=by
 refine aR0 G hr.1 hr.2 λi hi=>⟨λz=> ?_,h.off i hi,λz=> ?_⟩
 ·have:=h.on
  rw [show j=(j - i)+i by room,aD3,z,aK4] at this
  exact this.1 rfl
 ·have h2:∀ t,it gs (t+i) r=it gs i r:=λt=>by
   induction t with
   | zero=>rw [Nat.zero_add]
   | succ t ih=>rw [show t+1+i=(t+i)+1 by room,aD9,ih,z]
  have:=h.on
  rw [show j=(j - i)+i by room,h2] at this
  exact h.off i hi this
theorem bA0 (G:aA9 gs){r:Int}(hr:0<=r/\r<=7){j:Nat}(h:bD4 gs r j):t1 gs r=some (aE8 gs (it gs j r).toNat)/\(0<=it gs j r/\it gs j r<7):=by
 have e:=bL1 G j 7 hr h (bV7 G hr h)
 have r0:=aL2 G j hr.1 hr.2
 have n7:=h.on.1
 have l7:it gs j r<7:=by room
 refine ⟨?_,r0.1,l7⟩
 have ne: ¬((aB6 gs).getD (it gs j r).toNat []).isEmpty=true:=λz=>(aD5 G r0.1 l7).mp z h.on
 unfold t1
 rw [e,if_pos (by rw [Bool.and_eq_true,bne_iff_ne]; exact ⟨n7,by simpa using ne⟩),bB9 gs (by room)]
theorem bA1 {r:Int}:∀ (n i:Nat),i<=n->Cyc gs (it gs i r)->∃ j,bD4 gs r j
 | 0,i,hi,h=>⟨i,h,λi' hi'=>absurd hi' (by room)⟩
 | n+1,i,hi,h=>by
  by_cases q:∃ i',i'<i/\Cyc gs (it gs i' r)
  ·refine aA1 q λi' h1 h2=> ?_
   try clear q
   exact bA1 n i' (by room) h2
  ·exact ⟨i,h,λi' hi' z=>q ⟨i',hi',z⟩⟩
theorem bS1 (G:aA9 gs){r:Int}(hr:0<=r/\r<=7):t1 gs r=none↔NoR gs r:=by
 refine ⟨λh i hc=> ?_,bA G hr⟩
 refine aA3 (bA1 i i (Nat.le_refl _) hc) λj hj=> ?_
 rw [(bA0 G hr hj).1] at h
 cases h
theorem cE6 (G:aA9 gs)(hs:∀ v,0<=v/\v<=7->suc v=scX gs v):∀ (l seen:List Int),(∀ r∈l,0<=r/\r<=7)->(∀ v∈seen,NoR gs v)->aQ3 suc l seen/\cyc suc l seen=tR gs l
 | [],seen,_,_=>⟨trivial,rfl⟩
 | r::l,seen,hl,hv=>by
  have hr:=hl r (.head _)
  have ih:=λseen hv=>cE6 G hs l seen (λx hx=>hl x (.tail _ hx)) hv
  rw [aQ3.eq_2,cyc.eq_2]
  by_cases a:r∈seen
  ·rw [if_pos a,if_pos a]
   have e:tR gs (r::l)=tR gs l:=by
    show (t1 gs r).or _=_
    rw [bA G hr (hv r a)]; rfl
   rw [e]
   exact ih seen hv
  ·rw [if_neg a,if_neg a]
   have step:∀ seen',aH0 suc 100 r seen []= .end_ seen'->NoR gs r->(∀ v∈seen',NoR gs v)->(match aH0 suc 100 r seen [] with | .ring _=>True | .end_ s=>aQ3 suc l s | .stuck=>False)/\(match aH0 suc 100 r seen [] with | .ring x=>some x | .end_ s=>cyc suc l s | .stuck=>none)=tR gs (r::l):=λseen' e h1 h2=>by
    have e2:tR gs (r::l)=tR gs l:=by
     show (t1 gs r).or _=_
     rw [bA G hr h1]; rfl
    rw [e,e2]
    exact ih seen' h2
   by_cases b:r=7
   ·subst b
    refine step (seen++[7]) ?_ NoR.seven λv h=> ?_
    ·have e7:suc 7=[]:=by rw [hs 7 (by decide)]; unfold scX; rw [if_pos rfl]
     rw [aH0.eq_2]
     rw [if_neg a]
     have:adv suc [(7,0)]=none:=by rw [adv.eq_2]; rw [e7]; rfl
     rw [this]
    ·rcases List.mem_append.mp h with h | h
     ·exact hv v h
     ·rw [List.mem_singleton.mp h]; exact NoR.seven
   ·rcases bS G hs (r:=r) (by room) 8 0 100 seen [] rfl (by decide) rfl (λx h=>by cases h) List.nodup_nil (λx h=>by cases h) (λv h=> .inr (hv v h)) with ⟨h1,seen',h2,h3⟩ | ⟨j,h1,h2⟩
    ·exact step seen' h2 h1 h3
    ·have h2:aH0 suc 100 r seen []=_:=h2
     rw [h2]
     refine ⟨trivial, ?_⟩
     show some _=(t1 gs r).or _
     rw [(bA0 G hr h1).1]; rfl
noncomputable def tn (l:List Int)(k:Int):List Int:=if k∈l then l else l++[k]
theorem aV2 (l:List Int)(k:Int):tR gs (tn l k)=(tR gs l).or (t1 gs k):=by
 unfold tn
 split
 ·rename_i h
  cases e:tR gs l with
  | some z=>rfl
  | none=>rw [bS0 e k h]; rfl
 ·rw [bP4]
  show (tR gs l).or ((t1 gs k).or none)=_
  rw [Option.or_none]
theorem bP5 (S:SD)(k:Int):(S.touch k).nodes=tn S.nodes k:=by
 unfold SD.touch tn
 split<;>rfl
theorem bS2 (S:SD)(k:Int):(S.add k []).nodes=tn S.nodes k:=bP5 S k
theorem bG5 (S:SD)(k p:Int):(S.add k [p]).nodes=tn (tn S.nodes k) p:=by
 show (((S.touch k).addNp k 1).touch p).nodes=_
 rw [bP5]
 exact congrArg (λl=>tn l p) (bP5 S k)
theorem bL2 (G:aA9 gs):∀ n:Nat,n<=7->tR gs (aA gs n).nodes=tR gs ((List.range n).map λn:Nat=>(n:Int))
 | 0,_=>rfl
 | n+1,hn=>by
  have ih:=bL2 G n (by room)
  rw [List.range_succ,List.map_append,bP4,<-ih]
  have e2:tR gs ([n].map λn:Nat=>(n:Int))=t1 gs n:=Option.or_none
  rw [e2]
  have hr:0<=(n:Int)/\(n:Int)<=7:=by room
  have gr:=G.rng n (by room)
  have e7:t1 gs 7=none:=bA G (by decide) NoR.seven
  have eg:t1 gs n=none->t1 gs (gl gs n)=none:=λh=>by
   have hN:=(bS1 G hr).mp h
   have:=hN.fwd 1
   have e:it gs 1 (n:Int)=gl gs n:=aP (by room)
   rw [e] at this
   refine (bS1 G ?_).mpr this
   show 0<=gs.getD (n:Int).toNat 0/\gs.getD (n:Int).toNat 0<=7
   rw [Int.toNat_natCast]; exact gr
  show tR gs (aH9 gs (aA gs n) n).nodes=_
  unfold aH9
  split
  ·rw [bG5,bG5,bS2,aV2,aV2,aV2,aV2,aV2,e7]
   cases tR gs (aA gs n).nodes with
   | some z=>rfl
   | none=>cases h:t1 gs n with
    | some z=>rfl
    | none=>rw [eg h]; rfl
  ·rw [bG5,bS2,aV2,aV2,aV2,e7]
   cases tR gs (aA gs n).nodes with
   | some z=>rfl
   | none=>cases h:t1 gs n<;>rfl
theorem bA2 (G:aA9 gs):aQ3 (aA gs 7).suc (aA gs 7).nodes []/\cyc (aA gs 7).suc (aA gs 7).nodes []=aD0 gs (List.range 7):=by
 have:=cE6 G (λv hv=>bO8 G ((aK2 G).mpr hv)) (aA gs 7).nodes [] (λr hr=>(aK2 G).mp hr) (λv h=>by cases h)
 rw [bG4,<-bL2 G 7 (Nat.le_refl _)]
 exact this
theorem cM6 (G:aA9 gs):∀ (l:List Int) (x:List Int),(∀ r∈l,0<=r/\r<=7)->tR gs l=some x->x≠[]/\x.length<=1000
 | [],x,_,h=>by cases h
 | r::l,x,hl,h=>by
  have h:(t1 gs r).or (tR gs l)=some x:=h
  have hr:=hl r (.head _)
  by_cases q:NoR gs r
  ·rw [bA G hr q] at h
   exact cM6 G l x (λy hy=>hl y (.tail _ hy)) h
  ·refine aA3 (Classical.not_forall.mp q) λi hi=> ?_
   refine aA3 (bA1 i i (Nat.le_refl _) (Classical.not_not.mp hi)) λj hj=> ?_
   refine aB (bA0 G hr hj) λe r0=> ?_
   rw [e] at h
   have h:some (aE8 gs (it gs j r).toNat)=some x:=h
   cases h
   have ek:(((it gs j r).toNat:Nat):Int)=it gs j r:=by room
   rcases aP3 G (k:=(it gs j r).toNat) (by room) with ⟨p,_,h1,h2,_⟩ | ⟨_,h2⟩
   ·rw [h1]
    refine ⟨by simp, ?_⟩
    have:=aC1 (m:=r8) h2 λy hy=>by
     refine aA1 (aO.mp hy) λi _ e=> ?_
     rw [<- e]
     exact aG3.mpr (aL2 G i (by room) (by room))
    have l8:r8.length=8:=rfl
    rw [List.length_append]
    simp only [List.length_cons,List.length_nil]
    room
   ·rw [ek] at h2; exact absurd hj.on h2
theorem cL4 (G:aA9 gs)(x:List Int)(h:aD0 gs (List.range 7)=some x):x≠[]/\x.length<=1000:=by
 rw [bG4] at h
 refine cM6 G _ x (λr hr=> ?_) h
 refine aA1 (List.mem_map.mp hr) λi hi z1z=> ?_
 subst z1z
 have:=List.mem_range.mp hi
 room
end
theorem cE7 (ns:List Int):aA9 (goalsOf ns):=by
 have hl:((aD2 ns).take 7).length=7:=by rw [List.length_take,aU5]; rfl
 refine ⟨by unfold goalsOf; rw [List.length_map,hl],λi hi=> ?_⟩
 unfold goalsOf
 rw [List.getD_eq_getElem?_getD,List.getElem?_map,List.getElem?_eq_getElem (by room)]
 have:=bQ9 (((aD2 ns).take 7)[i]'(by room))
 show 0<=(((aD2 ns).take 7)[i]'(by room)).fmod 8/\(((aD2 ns).take 7)[i]'(by room)).fmod 8<=7
 room
theorem bA3 (ds:List Int):∀ n,(∀ v,v∈aC7 ds n↔0<=v/\v<n)/\(aC7 ds n).Nodup
 | 0=>⟨λv=>⟨λh=>(by cases h),λh=>by room⟩,List.nodup_nil⟩
 | n+1=>by
  refine aB (bA3 ds n) λh1 h2=> ?_
  have e:∀ i:Nat,((aC7 ds n).take i++[(n:Int)]++(aC7 ds n).drop i).Perm ((n:Int)::aC7 ds n):=λi=>by
   rw [List.append_assoc]
   refine (List.perm_middle (a:=(n:Int)) (l₁:=(aC7 ds n).take i) (l₂:=(aC7 ds n).drop i)).trans ?_
   rw [List.take_append_drop]
  have e:=e (((ds.getD n 0).fdiv 8).fmod (n+1)).toNat
  change (aC7 ds (n+1)).Perm _ at e
  refine ⟨λv=> ?_,e.nodup_iff.mpr (List.nodup_cons.mpr ⟨λz=> ?_,h2⟩)⟩
  ·rw [e.mem_iff,List.mem_cons,h1]; room
  ·have:=(h1 _).mp z; room
theorem cE8 {l:List Int}(h:∀ k∈l,0<=k/\k<((7:Nat):Int))(hl:l.length=7):PyData.layable0 (.list (l.map .int))=true:=by
 have h1:∀ l:List Int,PyData.canLayAll0 (l.map .int)=true:=λl=>by
  induction l with
  | nil=>rfl
  | cons a l ih=>rw [List.map_cons,PyData.canLayAll0,ih]; rfl
 have h2:∀ l:List Int,PyData.depthAll (l.map .int)=0:=λl=>by
  induction l with
  | nil=>rfl
  | cons a l ih=>rw [List.map_cons,PyData.depthAll,ih]; rfl
 have hw:∀ k:Int,0<=k/\k<((7:Nat):Int)->PyData.weight (.int k)<=3:=λk hk=>by
  have:k=0\/k=1\/k=2\/k=3\/k=4\/k=5\/k=6:=by room
  rcases this with rfl | rfl | rfl | rfl | rfl | rfl | rfl<;>decide
 have h3:∀ l:List Int,(∀ k∈l,0<=k/\k<((7:Nat):Int))->PyData.weightAll (l.map .int)<=4 * l.length:=λl=>by
  induction l with
  | nil=>exact λ_=>Nat.le_refl _
  | cons a l ih=>
   intro hh
   have i1:=ih λk hk=>hh k (.tail _ hk)
   have i2:=hw a (hh a (.head _))
   rw [List.map_cons,PyData.weightAll,List.length_cons]; room
 have h4:=h3 l h
 unfold PyData.layable0
 rw [PyData.canLay0,PyData.depth,PyData.weight,h1,h2,Bool.and_eq_true,Bool.and_eq_true]
 refine ⟨⟨rfl,by decide⟩,decide_eq_true ?_⟩
 have:28<=2 ^ 20:=by decide
 room
theorem cL5 (ns:List Int):aS8 (goalsOf ns) (ordOf ns):=by
 refine aB (bA3 ((aD2 ns).take 7) 7) λh1 h2=> ?_
 have hl:(ordOf ns).length=7:=aP2 _ 7
 refine ⟨cE7 ns,⟨λa h0 h7=>(h1 a).mpr ⟨h0,h7⟩,hl, ?_⟩,λk hk=>(h1 k).mp hk,h2⟩
 exact cE8 (l:=ordOf ns) (λk hk=>(h1 k).mp hk) hl
theorem cE9 (ns:List Int):∀ p∈spotsOf ns,bL p:=λp hp=>by
 refine aA1 (List.mem_map.mp hp) λd _ z1z=> ?_
 subst z1z
 have h8:=bQ9 d
 refine aB (bD d) λ_ hm=> ?_
 refine aC5 (bK1 _ hm) λhne _ _=> ?_
 have hpos:=List.length_pos_iff.mpr hne
 have hi:((d.fdiv 8).fmod (aD4 d).length).toNat<(aD4 d).length:=by
  have h1:=Int.fmod_nonneg_of_pos (d.fdiv 8) (b:=(aD4 d).length) (by room)
  have h2:=Int.fmod_lt_of_pos (d.fdiv 8) (b:=(aD4 d).length) (by room)
  room
 refine ⟨⟨h8.1,by show d.fmod 8<=7; room⟩,(aD4 d).getD ((d.fdiv 8).fmod (aD4 d).length).toNat 0, ?_,rfl⟩
 show _∈aD4 d
 rw [List.getD_eq_getElem?_getD,List.getElem?_eq_getElem hi]
 exact List.getElem_mem hi
theorem cL6 {gs ord:List Int}(H:aS8 gs ord)(s:Int){p:Int×Nat}(hp:bL p):∃ r,goD gs (aA5 gs ord) s 20 p.1=some r:=by
 have hm:∀ a,a∈r8.filter (λa=>decide (0<tS gs ord a) && decide (tS gs ord a<=s))↔(0<=a/\a<=7)/\0<tS gs ord a/\tS gs ord a<=s:=λa=>by
  rw [List.mem_filter,aG3,Bool.and_eq_true,decide_eq_true_eq,decide_eq_true_eq]
 refine (bD3 H.G (D:=r8.filter λa=>decide (0<tS gs ord a) && decide (tS gs ord a<=s)) (λa ha=> ?_) (λx hx h7 z=> ?_) hp).2
 ·unfold cD Cn
  rw [hm,Bool.and_eq_true,Bool.and_eq_true,Bool.and_eq_true,bne_iff_ne,bne_iff_ne,decide_eq_true_eq,decide_eq_true_eq]
  exact ⟨λ⟨⟨h1,h2⟩,h3,h4⟩=>⟨h1,h2,ha,h3,h4⟩,λ⟨h1,h2,_,h3,h4⟩=>⟨⟨h1,h2⟩,h3,h4⟩⟩
 ·refine aC5 ((hm x).mp hx) λh1 h2 _=> ?_
  have:=aW1 (ord:=ord) H.G (by room) z
  room
theorem law_ok (P:Params)(ns:List Int)(hn:ns.length<=63):∃ cs M,LawOk P (goalsOf ns) (ordOf ns) (spotsOf ns) cs M:=by
 have H:=cL5 ns
 have hsp:=cE9 ns
 have hpl:(spotsOf ns).length<=1000:=by
  unfold spotsOf
  rw [List.length_map,List.length_drop,aU5]; decide
 generalize goalsOf ns=gs at *
 generalize ordOf ns=ord at *
 generalize spotsOf ns=ps at *
 have hsne:aA5 gs ord≠[]:=λz=>by
  have:=(bP2 (gs:=gs) (ord:=ord) (tS gs ord 0)).mpr ⟨0,by decide,rfl⟩
  rw [z] at this; cases this
 refine aB (aM1 _ hsne) λm1 m2=> ?_
 refine aA1 ((bP2 _).mp m1) λa ha ea=> ?_
 have a0:=cK9 (ord:=ord) H.G ha
 obtain ⟨M,hM⟩:∃ M:Nat,(M:Int)=aL0 (aA5 gs ord):=⟨(aL0 (aA5 gs ord)).toNat,by room⟩
 rw [<- hM] at m1 m2 ea
 have tM:∀ v,0<=v/\v<=7->tS gs ord v<=M:=λv hv=>m2 _ ((bP2 _).mpr ⟨v,hv,rfl⟩)
 obtain ⟨cs,hcs⟩:∃ cs,cs=ps.map (·.2):=⟨_,rfl⟩
 have sim:=cE3 P H hsp hcs
 have hend:∀ k:Int,0<=k->k<=7->npX gs (rn P gs ord cs M).D k≠ -1:=λk h0 h7 z=>by
  obtain ⟨v,hv,l⟩:=(bR6 H (by room) (sim M).1.mem).mp ⟨k,⟨h0,h7⟩,z⟩
  have:=tM v hv
  room
 refine ⟨cs,M,H.G,H.O,H.hor,hcs,hpl,m1,m2,by room,λs p hp=>⟨(hsp p hp).1.1,(hsp p hp).1.2,λ_=>cL6 H s (hsp p hp)⟩,(bA2 H.G).1,λl hl=>cL4 H.G l ((bA2 H.G).2.symm.trans hl),λi hi=> ?_,hend,(bA2 H.G).2,(sim M).2.2, ?_⟩
 ·have h1:=cL (sim i).1.d
  rw [bR6 H (by room) (sim i).1.mem] at h1
  rw [decide_eq_decide,h1]
  constructor
  ·intro w1w
   refine aA1 w1w λv hv l=> ?_
   try clear w1w
   have:=tM v hv
   room
  ·intro l
   exact ⟨a,ha,by room⟩
 ·refine aC5 (sim M) λS _ _=> ?_
  have h7: ¬(rn P gs ord cs M).D.length=7:=λz=>by
   by_cases q:(7:Int)∈(rn P gs ord cs M).D
   ·have:=aC1 (m:=(rn P gs ord cs M).D) aZ0 λx hx=>by
     have hx:=aG3.mp hx
     by_cases e:x=7
     ·rw [e]; exact q
     ·exact S.d.cl 7 q x (aE.mpr ⟨by room, .inl rfl⟩)
    rw [z] at this
    exact absurd this (by decide)
   ·have l:=aW2 S.d q
    have r0:rmX gs (rn P gs ord cs M).D 7=[]:=List.length_eq_zero_iff.mp (by room)
    refine hend 7 (by decide) (by decide) (aU6.mpr ⟨q,λp hp=>Classical.byContradiction λy=> ?_⟩)
    have:=aG4.mpr ⟨hp,y⟩
    rw [r0] at this
    cases this
  have:=S.a2
  rw [if_neg h7,List.append_nil] at this
  exact this.symm
end Mine
theorem PySem.Challenge.cw_nb0248_01_holds : PySem.Challenge.rw_nb0248_01.Holds := by
 exact Mine.holds_of λP ns hn=>Mine.law_ok P ns hn
