import PyProof.Rows.All
import Wide.All
import OpenK.AllK
import Wide.FinOn
import KE.KNestM
import KE.BitLaws
import Lean
import PySem.Challenge.RW_sh0056_03
set_option Elab.async false
set_option autoImplicit false
set_option linter.unusedVariables false
set_option maxRecDepth 1000000
set_option maxHeartbeats 8000000
set_option genInjectivity false
set_option genSizeOf false
set_option tactic.hygienic false
local macro_rules
 | `(tactic| cases $e:term)=>do
  if e.raw.isOfKind ``Lean.Parser.Term.paren && e.raw[1].isOfKind ``Lean.Parser.Term.paren then Lean.Macro.throwUnsupported
  let r:=Lean.mkIdent `rfl
  let f1:=Lean.mkIdent `Mine.IsD.iInt
  let f2:=Lean.mkIdent `Mine.IsD.iStr
  let f3:=Lean.mkIdent `Mine.IsD.iBool
  let f4:=Lean.mkIdent `Mine.IsDs.iNil
  `(tactic| first
   | obtain $r:ident:=$e
   | (injection $e; done)
   | (injection $e with e1 e2 e3 e4; cases e1; cases e2; cases e3; cases e4)
   | (injection $e with e1 e2 e3; cases e1; cases e2; cases e3)
   | (injection $e with e1 e2; cases e1; cases e2)
   | (injection $e with e1; cases e1)
   | obtain ⟨t,$r:ident⟩:=$f1 $e
   | obtain ⟨t,$r:ident⟩:=$f2 $e
   | obtain $r:ident:=$f3 $e
   | obtain $r:ident:=$f4 $e
   | cases (($e)))
theorem Mine.o0_2 {p q:Prop} {G:Prop} (h:p/\q) (k:p->q->G):G:=k h.1 h.2
theorem Mine.o0_3 {p q r:Prop} {G:Prop} (h:p/\q/\r) (k:p->q->r->G):G:=Mine.o0_2 h.2 (k h.1)
theorem Mine.o0_4 {p q r s:Prop} {G:Prop} (h:p/\q/\r/\s) (k:p->q->r->s->G):G:=Mine.o0_3 h.2 (k h.1)
theorem Mine.o0_5 {p q r s t:Prop} {G:Prop} (h:p/\q/\r/\s/\t) (k:p->q->r->s->t->G):G:=Mine.o0_4 h.2 (k h.1)
theorem Mine.o0_6 {p q r s t u:Prop} {G:Prop} (h:p/\q/\r/\s/\t/\u) (k:p->q->r->s->t->u->G):G:=Mine.o0_5 h.2 (k h.1)
theorem Mine.o0_7 {p q r s t u v:Prop} {G:Prop} (h:p/\q/\r/\s/\t/\u/\v) (k:p->q->r->s->t->u->v->G):G:=Mine.o0_6 h.2 (k h.1)
theorem Mine.o1_1 {A:Sort _} {p:A->Prop} {G:Prop} (h:∃ a,p a) (k:∀ a,p a->G):G:=h.elim k
theorem Mine.o1_2 {A:Sort _} {p q:A->Prop} {G:Prop} (h:∃ a,p a/\q a) (k:∀ a,p a->q a->G):G:=h.elim fun x h=>Mine.o0_2 h (k x)
theorem Mine.o1_3 {A:Sort _} {p q r:A->Prop} {G:Prop} (h:∃ a,p a/\q a/\r a) (k:∀ a,p a->q a->r a->G):G:=h.elim fun x h=>Mine.o0_3 h (k x)
theorem Mine.o1_4 {A:Sort _} {p q r s:A->Prop} {G:Prop} (h:∃ a,p a/\q a/\r a/\s a) (k:∀ a,p a->q a->r a->s a->G):G:=h.elim fun x h=>Mine.o0_4 h (k x)
theorem Mine.o1_5 {A:Sort _} {p q r s t:A->Prop} {G:Prop} (h:∃ a,p a/\q a/\r a/\s a/\t a) (k:∀ a,p a->q a->r a->s a->t a->G):G:=h.elim fun x h=>Mine.o0_5 h (k x)
theorem Mine.o1_6 {A:Sort _} {p q r s t u:A->Prop} {G:Prop} (h:∃ a,p a/\q a/\r a/\s a/\t a/\u a) (k:∀ a,p a->q a->r a->s a->t a->u a->G):G:=h.elim fun x h=>Mine.o0_6 h (k x)
theorem Mine.o2_1 {A B:Sort _} {p:A->B->Prop} {G:Prop} (h:∃ a b,p a b) (k:∀ a b,p a b->G):G:=h.elim fun x h=>Mine.o1_1 h (k x)
theorem Mine.o2_2 {A B:Sort _} {p q:A->B->Prop} {G:Prop} (h:∃ a b,p a b/\q a b) (k:∀ a b,p a b->q a b->G):G:=h.elim fun x h=>Mine.o1_2 h (k x)
theorem Mine.o2_3 {A B:Sort _} {p q r:A->B->Prop} {G:Prop} (h:∃ a b,p a b/\q a b/\r a b) (k:∀ a b,p a b->q a b->r a b->G):G:=h.elim fun x h=>Mine.o1_3 h (k x)
theorem Mine.o2_4 {A B:Sort _} {p q r s:A->B->Prop} {G:Prop} (h:∃ a b,p a b/\q a b/\r a b/\s a b) (k:∀ a b,p a b->q a b->r a b->s a b->G):G:=h.elim fun x h=>Mine.o1_4 h (k x)
theorem Mine.o2_5 {A B:Sort _} {p q r s t:A->B->Prop} {G:Prop} (h:∃ a b,p a b/\q a b/\r a b/\s a b/\t a b) (k:∀ a b,p a b->q a b->r a b->s a b->t a b->G):G:=h.elim fun x h=>Mine.o1_5 h (k x)
theorem Mine.o2_6 {A B:Sort _} {p q r s t u:A->B->Prop} {G:Prop} (h:∃ a b,p a b/\q a b/\r a b/\s a b/\t a b/\u a b) (k:∀ a b,p a b->q a b->r a b->s a b->t a b->u a b->G):G:=h.elim fun x h=>Mine.o1_6 h (k x)
theorem Mine.o3_1 {A B C:Sort _} {p:A->B->C->Prop} {G:Prop} (h:∃ a b c,p a b c) (k:∀ a b c,p a b c->G):G:=h.elim fun x h=>Mine.o2_1 h (k x)
theorem Mine.o3_2 {A B C:Sort _} {p q:A->B->C->Prop} {G:Prop} (h:∃ a b c,p a b c/\q a b c) (k:∀ a b c,p a b c->q a b c->G):G:=h.elim fun x h=>Mine.o2_2 h (k x)
theorem Mine.o3_3 {A B C:Sort _} {p q r:A->B->C->Prop} {G:Prop} (h:∃ a b c,p a b c/\q a b c/\r a b c) (k:∀ a b c,p a b c->q a b c->r a b c->G):G:=h.elim fun x h=>Mine.o2_3 h (k x)
theorem Mine.o3_4 {A B C:Sort _} {p q r s:A->B->C->Prop} {G:Prop} (h:∃ a b c,p a b c/\q a b c/\r a b c/\s a b c) (k:∀ a b c,p a b c->q a b c->r a b c->s a b c->G):G:=h.elim fun x h=>Mine.o2_4 h (k x)
theorem Mine.o4_1 {A B C D:Sort _} {p:A->B->C->D->Prop} {G:Prop} (h:∃ a b c d,p a b c d) (k:∀ a b c d,p a b c d->G):G:=h.elim fun x h=>Mine.o3_1 h (k x)
theorem Mine.o4_2 {A B C D:Sort _} {p q:A->B->C->D->Prop} {G:Prop} (h:∃ a b c d,p a b c d/\q a b c d) (k:∀ a b c d,p a b c d->q a b c d->G):G:=h.elim fun x h=>Mine.o3_2 h (k x)
theorem Mine.o4_3 {A B C D:Sort _} {p q r:A->B->C->D->Prop} {G:Prop} (h:∃ a b c d,p a b c d/\q a b c d/\r a b c d) (k:∀ a b c d,p a b c d->q a b c d->r a b c d->G):G:=h.elim fun x h=>Mine.o3_3 h (k x)
theorem Mine.o4_4 {A B C D:Sort _} {p q r s:A->B->C->D->Prop} {G:Prop} (h:∃ a b c d,p a b c d/\q a b c d/\r a b c d/\s a b c d) (k:∀ a b c d,p a b c d->q a b c d->r a b c d->s a b c d->G):G:=h.elim fun x h=>Mine.o3_4 h (k x)
theorem Mine.o5_1 {A B C D E:Sort _} {p:A->B->C->D->E->Prop} {G:Prop} (h:∃ a b c d e,p a b c d e) (k:∀ a b c d e,p a b c d e->G):G:=h.elim fun x h=>Mine.o4_1 h (k x)
theorem Mine.o5_2 {A B C D E:Sort _} {p q:A->B->C->D->E->Prop} {G:Prop} (h:∃ a b c d e,p a b c d e/\q a b c d e) (k:∀ a b c d e,p a b c d e->q a b c d e->G):G:=h.elim fun x h=>Mine.o4_2 h (k x)
theorem Mine.o5_3 {A B C D E:Sort _} {p q r:A->B->C->D->E->Prop} {G:Prop} (h:∃ a b c d e,p a b c d e/\q a b c d e/\r a b c d e) (k:∀ a b c d e,p a b c d e->q a b c d e->r a b c d e->G):G:=h.elim fun x h=>Mine.o4_3 h (k x)
theorem Mine.o6_1 {A B C D E F:Sort _} {p:A->B->C->D->E->F->Prop} {G:Prop} (h:∃ a b c d e f,p a b c d e f) (k:∀ a b c d e f,p a b c d e f->G):G:=h.elim fun x h=>Mine.o5_1 h (k x)
theorem Mine.o6_2 {A B C D E F:Sort _} {p q:A->B->C->D->E->F->Prop} {G:Prop} (h:∃ a b c d e f,p a b c d e f/\q a b c d e f) (k:∀ a b c d e f,p a b c d e f->q a b c d e f->G):G:=h.elim fun x h=>Mine.o5_2 h (k x)
local macro_rules
 | `(tactic| obtain $pt:rcasesPatMed:=$e:term)=>do
  let step (s:Lean.Syntax):Lean.Syntax:=match s with
   | .node _ _ as =>
    let as:=as.filter fun a=>!(a.isOfKind Lean.nullKind && a.getNumArgs == 0)
    if as.size == 1 then as[0]! else s
   | s=>s
  let leaf (s:Lean.Syntax):Lean.Syntax:=(List.range 20).foldl (fun s _=>step s) s
  let tp:=leaf pt.raw
  if !tp.isOfKind ``Lean.Parser.Tactic.rcasesPat.tuple then Lean.Macro.throwUnsupported
  let ps:Array Lean.Syntax:=tp[1].getSepArgs
  let n:=ps.size
  if n < 2 then Lean.Macro.throwUnsupported
  let mut xs:Array (Lean.TSyntax `ident):=#[]
  let mut more:Array (Array (Lean.TSyntax `tactic)):=#[]
  let mut i:=0
  for p in ps do
   let l:=leaf p
   if l.isIdent && l.getId.eraseMacroScopes != `rfl then
    xs:=xs.push ⟨l⟩
    more:=more.push #[]
   else
    let x:=Lean.mkIdent (<- Lean.Macro.addMacroScope (Lean.Name.mkSimple ("o" ++ toString i)))
    xs:=xs.push x
    if l.isOfKind ``Lean.Parser.Tactic.rcasesPat.ignore then more:=more.push #[]
    else
     let q:Lean.TSyntax ``Lean.Parser.Tactic.rcasesPatMed:=⟨p[0]⟩
     more:=more.push #[<- `(tactic| obtain $q:rcasesPatMed:=$x:ident)]
   i:=i + 1
  let rr:=Lean.mkIdent (<- Lean.Macro.addMacroScope `r)
  let shad:=e.raw.isIdent && xs.any (fun x=>x.getId == e.raw.getId)
  let tmp:=Lean.mkIdent (<- Lean.Macro.addMacroScope `tmp)
  let pre:Lean.TSyntax `tactic <- if shad then `(tactic| (revert $(⟨e.raw⟩):ident; intro $tmp:ident)) else `(tactic| skip)
  let e':Lean.Term <- if shad then `($tmp) else `($e)
  let cl:Lean.TSyntax `tactic <- if e.raw.isIdent then `(tactic| try clear $(⟨e'.raw⟩):ident) else `(tactic| skip)
  let mut alts:Array (Lean.TSyntax `tactic):=#[]
  for d in [0:n-1] do
   let m:=n - d
   if m > 8 then continue
   for a in [0:min 7 m] do
    let f:=Lean.mkIdent (`_root_.Mine ++ Lean.Name.mkSimple (s!"o{a}_{m-a}"))
    if d == 0 then
     let ts:=more.foldl (· ++ ·) #[]
     alts:=alts.push (<- `(tactic| ($pre:tactic; refine $f $e' fun $xs*=>?_; $cl:tactic; ($[$ts]*))))
    else
     let ys:=xs[0:m-1].toArray.push rr
     let ts:=more[0:m-1].toArray.foldl (· ++ ·) #[]
     let rest:Lean.Syntax:=tp.setArg 1 (Lean.mkNullNode (Lean.mkSepArray (ps[m-1:n].toArray) (Lean.mkAtom ",")))
     let q:Lean.TSyntax ``Lean.Parser.Tactic.rcasesPatMed:=⟨pt.raw.setArg 0 (pt.raw[0].setArg 0 rest)⟩
     alts:=alts.push (<- `(tactic| ($pre:tactic; refine $f $e' fun $ys*=>?_; $cl:tactic; ($[$ts]*); obtain $q:rcasesPatMed:=$rr:ident)))
  alts:=alts.push (<- `(tactic| rcases $e:term with $pt:rcasesPatMed))
  `(tactic| first $[| $alts:tactic]*)
local macro_rules
 | `(tactic| omega)=>`(tactic| first
  | assumption
  | with_reducible exact Nat.le_of_lt (by assumption)
  | with_reducible exact Int.natCast_nonneg _
  | with_reducible exact Nat.sub_lt_sub_left (by assumption) (Nat.lt_add_one _)
  | with_reducible exact Nat.lt_of_lt_of_le (by assumption) (by assumption)
  | with_reducible exact Nat.lt_of_le_of_lt (by assumption) (by assumption)
  | with_reducible exact Nat.le_trans (by assumption) (by assumption)
  | lia
  | omega +splitDisjunctions)
@[elab_as_elim] theorem Mine.rwE {α:Sort _} {motive:α -> Prop} {a b:α} (h:a = b) (m:motive b):motive a:=h ▸ m
theorem Mine.nnS {α:Type _} {o:Option α} {a:α} (h:o = some a):o ≠ none:=fun r=>nomatch h.symm.trans r
section
open PySem PySem.W PyProof.Rows PySem.Calls
namespace Mine
local macro_rules
 | `(tactic| rw [$rs,*])=>do
  let ts <- rs.getElems.mapM fun r=>do
   if (r.raw.find? fun z=>z.isOfKind ``Lean.Parser.Term.byTactic || z.isOfKind ``Lean.Parser.Term.syntheticHole).isSome then `(tactic| rewrite [$r])
   else match r with
   | `(Lean.Parser.Tactic.rwRule| $e:term)=>`(tactic| first | refine Mine.rwE $e ?_ | refine Mine.rwE ($e ..) ?_ | rewrite [$e:term])
   | `(Lean.Parser.Tactic.rwRule| <- $e:term)=>`(tactic| first | refine Mine.rwE (Eq.symm $e) ?_ | refine Mine.rwE (Eq.symm ($e ..)) ?_ | rewrite [<- $e:term])
   | _=>Lean.Macro.throwUnsupported
  `(tactic| ($[$ts]*; try (with_reducible rfl)))
section
theorem and_t {a b:Bool} (h:(a && b) = true):a = true /\ b = true:=by
 cases a with
 | true=>exact ⟨rfl,h⟩
 | false=>cases h
theorem nilGet {α:Type _} {j:Nat} {a:α} {P:Prop} (h:([]:List α)[j]? = some a):P:=nomatch List.getElem?_nil.symm.trans h
theorem and2 {a b:Bool} {P:Prop} (h:(a && b) = true) (k:a = true -> b = true -> P):P:=k (and_t h).1 (and_t h).2
theorem and3 {a b c:Bool} {P:Prop} (h:(a && b && c) = true) (k:a = true -> b = true -> c = true -> P):P:=and2 h fun h1 h2=>and2 h1 fun h3 h4=>k h3 h4 h2
theorem and4 {a b c d:Bool} {P:Prop} (h:(a && b && c && d) = true) (k:a = true -> b = true -> c = true -> d = true -> P):P:=and2 h fun h1 h2=>and3 h1 fun h3 h4 h5=>k h3 h4 h5 h2
theorem and5 {a b c d e:Bool} {P:Prop} (h:(a && b && c && d && e) = true) (k:a = true -> b = true -> c = true -> d = true -> e = true -> P):P:=and2 h fun h1 h2=>and4 h1 fun h3 h4 h5 h6=>k h3 h4 h5 h6 h2
theorem and6 {a b c d e f:Bool} {P:Prop} (h:(a && b && c && d && e && f) = true) (k:a = true -> b = true -> c = true -> d = true -> e = true -> f = true -> P):P:=and2 h fun h1 h2=>and5 h1 fun h3 h4 h5 h6 h7=>k h3 h4 h5 h6 h7 h2
theorem and7 {a b c d e f g:Bool} {P:Prop} (h:(a && b && c && d && e && f && g) = true) (k:a = true -> b = true -> c = true -> d = true -> e = true -> f = true -> g = true -> P):P:=and2 h fun h1 h2=>and6 h1 fun h3 h4 h5 h6 h7 h8=>k h3 h4 h5 h6 h7 h8 h2
theorem and8 {a b c d e f g i:Bool} {P:Prop} (h:(a && b && c && d && e && f && g && i) = true) (k:a = true -> b = true -> c = true -> d = true -> e = true -> f = true -> g = true -> i = true -> P):P:=and2 h fun h1 h2=>and7 h1 fun h3 h4 h5 h6 h7 h8 h9=>k h3 h4 h5 h6 h7 h8 h9 h2
theorem and9 {a1 a2 a3 a4 a5 a6 a7 a8 a9:Bool} {P:Prop} (h:(a1 && a2 && a3 && a4 && a5 && a6 && a7 && a8 && a9) = true) (k:a1 = true -> a2 = true -> a3 = true -> a4 = true -> a5 = true -> a6 = true -> a7 = true -> a8 = true -> a9 = true -> P):P:=and2 h fun h1 h2=>and8 h1 fun x1 x2 x3 x4 x5 x6 x7 x8=>k x1 x2 x3 x4 x5 x6 x7 x8 h2
theorem and10 {a1 a2 a3 a4 a5 a6 a7 a8 a9 a10:Bool} {P:Prop} (h:(a1 && a2 && a3 && a4 && a5 && a6 && a7 && a8 && a9 && a10) = true) (k:a1 = true -> a2 = true -> a3 = true -> a4 = true -> a5 = true -> a6 = true -> a7 = true -> a8 = true -> a9 = true -> a10 = true -> P):P:=and2 h fun h1 h2=>and9 h1 fun x1 x2 x3 x4 x5 x6 x7 x8 x9=>k x1 x2 x3 x4 x5 x6 x7 x8 x9 h2
theorem and11 {a1 a2 a3 a4 a5 a6 a7 a8 a9 a10 a11:Bool} {P:Prop} (h:(a1 && a2 && a3 && a4 && a5 && a6 && a7 && a8 && a9 && a10 && a11) = true) (k:a1 = true -> a2 = true -> a3 = true -> a4 = true -> a5 = true -> a6 = true -> a7 = true -> a8 = true -> a9 = true -> a10 = true -> a11 = true -> P):P:=and2 h fun h1 h2=>and10 h1 fun x1 x2 x3 x4 x5 x6 x7 x8 x9 x10=>k x1 x2 x3 x4 x5 x6 x7 x8 x9 x10 h2
theorem and12 {a1 a2 a3 a4 a5 a6 a7 a8 a9 a10 a11 a12:Bool} {P:Prop} (h:(a1 && a2 && a3 && a4 && a5 && a6 && a7 && a8 && a9 && a10 && a11 && a12) = true) (k:a1 = true -> a2 = true -> a3 = true -> a4 = true -> a5 = true -> a6 = true -> a7 = true -> a8 = true -> a9 = true -> a10 = true -> a11 = true -> a12 = true -> P):P:=and2 h fun h1 h2=>and11 h1 fun x1 x2 x3 x4 x5 x6 x7 x8 x9 x10 x11=>k x1 x2 x3 x4 x5 x6 x7 x8 x9 x10 x11 h2
theorem and13 {a1 a2 a3 a4 a5 a6 a7 a8 a9 a10 a11 a12 a13:Bool} {P:Prop} (h:(a1 && a2 && a3 && a4 && a5 && a6 && a7 && a8 && a9 && a10 && a11 && a12 && a13) = true) (k:a1 = true -> a2 = true -> a3 = true -> a4 = true -> a5 = true -> a6 = true -> a7 = true -> a8 = true -> a9 = true -> a10 = true -> a11 = true -> a12 = true -> a13 = true -> P):P:=and2 h fun h1 h2=>and12 h1 fun x1 x2 x3 x4 x5 x6 x7 x8 x9 x10 x11 x12=>k x1 x2 x3 x4 x5 x6 x7 x8 x9 x10 x11 x12 h2
theorem and26 {a1 a2 a3 a4 a5 a6 a7 a8 a9 a10 a11 a12 a13 a14 a15 a16 a17 a18 a19 a20 a21 a22 a23 a24 a25 a26:Bool} {P:Prop} (h:(a1 && a2 && a3 && a4 && a5 && a6 && a7 && a8 && a9 && a10 && a11 && a12 && a13 && a14 && a15 && a16 && a17 && a18 && a19 && a20 && a21 && a22 && a23 && a24 && a25 && a26) = true) (k:a1 = true -> a2 = true -> a3 = true -> a4 = true -> a5 = true -> a6 = true -> a7 = true -> a8 = true -> a9 = true -> a10 = true -> a11 = true -> a12 = true -> a13 = true -> a14 = true -> a15 = true -> a16 = true -> a17 = true -> a18 = true -> a19 = true -> a20 = true -> a21 = true -> a22 = true -> a23 = true -> a24 = true -> a25 = true -> a26 = true -> P):P:=and2 h fun h r26=>and2 h fun h r25=>and2 h fun h r24=>and2 h fun h r23=>and2 h fun h r22=>and2 h fun h r21=>and2 h fun h r20=>and2 h fun h r19=>and2 h fun h r18=>and2 h fun h r17=>and2 h fun h r16=>and2 h fun h r15=>and2 h fun h r14=>and13 h fun r1 r2 r3 r4 r5 r6 r7 r8 r9 r10 r11 r12 r13=>k r1 r2 r3 r4 r5 r6 r7 r8 r9 r10 r11 r12 r13 r14 r15 r16 r17 r18 r19 r20 r21 r22 r23 r24 r25 r26
inductive D where
 | none
 | bool (b:Bool)
 | int (i:Int)
 | str (s:Str)
 | tup (l:List D)
 | lst (l:List D)
 | ws (n nt:Int) (cnt:List Int) (b:Int)
deriving Inhabited
structure Cx where
 prog:Program
 w:World
 h0:Heap
 mg:Str -> Option Value
 mb:Str -> Option Value
 tabs:List (Addr × Addr)
 qn:Addr -> Nat -> Nat -> Str
 os:OsState
 cW:Addr
noncomputable def Cx.T (C:Cx):List Addr:=C.tabs.map (·.2)
noncomputable abbrev Cx.M (C:Cx):Model:=model C.prog C.w
structure Cx.Good (C:Cx):Prop where
 g:C.h0.Ns mainGlobals C.mg
 b:C.h0.Ns builtinsNs C.mb
 lim:C.h0.NoLimit
 bl:∀ x:Str,x ≠ "__name__" -> C.mb x = bootBuiltins x
 bmain:∃ bm ob,C.mg "__builtins__" = some (.ref bm) /\ bm ≠ builtinsNs /\ C.h0.get? bm = some ob /\ ob.cls = .type "module" /\ ob.dict = some builtinsNs /\ ob.data = .plain
 code:∀ q ∈ C.tabs,CodeHd C.h0 q.1 q.2
 notab:∀ b ∈ C.T,C.h0.get? b = none
 nodup:C.T.Nodup
noncomputable def TabOk (C:Cx) (P:Addr) (h:Heap):Prop :=
 ∃ ps,h.get? P = some (tabObj ps) /\ TriplesOk ps.toList /\
  ∀ pos cv,codeAmong pos ps.toList = some cv -> ∃ c,cv = .ref c /\ c ∉ C.T /\ h.CodeRec (.ref c) (C.qn P pos.line pos.col)
structure OK (C:Cx) (s:Shared):Prop where
 good:C.Good
 keep:∀ b o,C.h0.get? b = some o -> s.heap.get? b = some o
 tab:∀ b ∈ C.T,TabOk C b s.heap
 gens:s.gens = #[]
 os:s.os = C.os
structure Ext (C:Cx) (s s':Shared):Prop where
 ok:OK C s'
 keep:∀ b o,b ∉ C.T -> s.heap.get? b = some o -> s'.heap.get? b = some o
theorem Ext.refl {C:Cx} {s:Shared} (h:OK C s):Ext C s s:=⟨h,fun _ _ _ e=>e⟩
theorem Ext.trans {C:Cx} {s s' s'':Shared} (h:Ext C s s') (h':Ext C s' s''):Ext C s s'' :=
 ⟨h'.ok,fun b o n e=>h'.keep b o n (h.keep b o n e)⟩
theorem TabOk.keeps {C:Cx} {P:Addr} {h h':Heap} (x:TabOk C P h) (hP:h'.get? P = h.get? P) (k:∀ b o,b ∉ C.T -> h.get? b = some o -> h'.get? b = some o):TabOk C P h':=by
 obtain ⟨ps,h1,h2,h3⟩:=x
 refine ⟨ps,hP.trans h1,h2,fun pos cv e=>?_⟩
 obtain ⟨c,e1,e2,c',o,vs,t,e3,e4,e5⟩:=h3 pos cv e
 cases e3
 exact ⟨c,e1,e2,c,o,vs,t,rfl,k _ _ e2 e4,e5⟩
theorem Ext.of_keeps {C:Cx} {s:Shared} {h':Heap} {tk:Nat} {dr:Drawn} (x:OK C s) (k:∀ b o,s.heap.get? b = some o -> h'.get? b = some o) :
  Ext C s { heap:=h',gens:=s.gens,drawn:=dr,toks:=tk,os:=s.os } :=
 ⟨⟨x.good,fun b o e=>k b o (x.keep b o e),fun b hb=>by
   have:=x.tab b hb
   exact this.keeps (by obtain ⟨ps,h1,_⟩:=this; rw [h1,k _ _ h1]) fun b o _ e=>k b o e,x.gens,x.os⟩,fun b o _ e=>k b o e⟩
theorem Ext.tok {C:Cx} {s:Shared} {tk:Nat} (x:OK C s):Ext C s { heap:=s.heap,gens:=s.gens,drawn:=s.drawn,toks:=tk,os:=s.os } :=
 .of_keeps x fun _ _ e=>e
theorem Ext.push {C:Cx} {s:Shared} {o:Obj} {tk:Nat} (x:OK C s):Ext C s { heap:=s.heap.push o,gens:=s.gens,drawn:=s.drawn,toks:=tk,os:=s.os } :=
 .of_keeps x fun _ _ e=>Heap.get?_push_of_some _ e
noncomputable abbrev Lst (h:Heap) (a:Addr) (vs:List Value):Prop:=∃ n,h.get? a = some { cls:=.type "list",data:=.seq vs.toArray n }
noncomputable abbrev Tpl (h:Heap) (a:Addr) (vs:List Value):Prop:=∃ n,h.get? a = some { cls:=.type "tuple",data:=.seq vs.toArray n }
theorem Lst.is {h:Heap} {a:Addr} {vs:List Value} (x:Lst h a vs):h.IsList a vs.toArray:=let ⟨n,e⟩:=x; ⟨_,e,rfl,n,rfl⟩
theorem Tpl.is {h:Heap} {a:Addr} {vs:List Value} (x:Tpl h a vs):IsTup h a vs.toArray:=let ⟨n,e⟩:=x; ⟨_,e,rfl,n,rfl⟩
theorem Lst.kept {h h':Heap} {a:Addr} {vs:List Value} (x:Lst h a vs) (k:∀ o,h.get? a = some o -> h'.get? a = some o):Lst h' a vs:=let ⟨n,e⟩:=x; ⟨n,k _ e⟩
theorem Tpl.kept {h h':Heap} {a:Addr} {vs:List Value} (x:Tpl h a vs) (k:∀ o,h.get? a = some o -> h'.get? a = some o):Tpl h' a vs:=let ⟨n,e⟩:=x; ⟨n,k _ e⟩
theorem Lst.lt {h:Heap} {a:Addr} {vs:List Value} (x:Lst h a vs):a < h.objs.size:=let ⟨_,e⟩:=x; Heap.lt_size e
noncomputable def wsMs:List Str:=["longest_run_of_spaces","indent_level","not_equal_witness"]
noncomputable abbrev attrIs (h:Heap) (dx:Addr) (x:Str) (v:Value):Prop:=∃ m,h.Ns dx m /\ m x = some v /\ (wsMs.all fun y=>(m y).isNone) = true
mutual
inductive IsD (C:Cx) (Z:Addr -> Prop) (h:Heap):Value -> D -> Prop
 | none:IsD C Z h .none .none
 | bool (b):IsD C Z h (.bool b) (.bool b)
 | int (i t):IsD C Z h (.int i t) (.int i)
 | str (s t):IsD C Z h (.str s t) (.str s)
 | tup (a vs ds):Tpl h a vs -> ¬ Z a -> IsDs C Z h vs ds -> IsD C Z h (.ref a) (.tup ds)
 | lst (a vs ds):Lst h a vs -> ¬ Z a -> IsDs C Z h vs ds -> IsD C Z h (.ref a) (.lst ds)
 | ws (a dx t u n nt cnt b tn tt tb) (vs:List Value):h.get? a = some { cls:=.ref C.cW,dict:=some dx,data:=.plain } -> ¬ Z a -> ¬ Z dx -> ¬ Z t -> ¬ Z u ->
   attrIs h dx "n" (.int n tn) -> attrIs h dx "nt" (.int nt tt) -> attrIs h dx "norm" (.ref t) -> Tpl h t [.ref u,.int b tb] -> Tpl h u vs -> IntsAre vs cnt ->
   IsD C Z h (.ref a) (.ws n nt cnt b)
inductive IsDs (C:Cx) (Z:Addr -> Prop) (h:Heap):List Value -> List D -> Prop
 | nil:IsDs C Z h [] []
 | cons {v d vs ds}:IsD C Z h v d -> IsDs C Z h vs ds -> IsDs C Z h (v :: vs) (d :: ds)
end
section
variable {C:Cx} {Z:Addr -> Prop} {h:Heap} {v:Value} {vs:List Value} {d:D} {ds:List D}
theorem IsD.iInt {n:Int} (x:IsD C Z h v (.int n)):∃ t,v = .int n t:=by cases ((x)); exact ⟨_,rfl⟩
theorem IsD.iStr {n:Str} (x:IsD C Z h v (.str n)):∃ t,v = .str n t:=by cases ((x)); exact ⟨_,rfl⟩
theorem IsD.iBool {n:Bool} (x:IsD C Z h v (.bool n)):v = .bool n:=by cases ((x)); rfl
theorem IsD.iTup (x:IsD C Z h v (.tup ds)):∃ a vs,v = .ref a /\ Tpl h a vs /\ ¬ Z a /\ IsDs C Z h vs ds:=by cases ((x)); exact ⟨_,_,rfl,‹_›,‹_›,‹_›⟩
theorem IsD.iLst (x:IsD C Z h v (.lst ds)):∃ a vs,v = .ref a /\ Lst h a vs /\ ¬ Z a /\ IsDs C Z h vs ds:=by cases ((x)); exact ⟨_,_,rfl,‹_›,‹_›,‹_›⟩
theorem IsDs.iCons (x:IsDs C Z h vs (d :: ds)):∃ v vs',vs = v :: vs' /\ IsD C Z h v d /\ IsDs C Z h vs' ds:=by cases ((x)); exact ⟨_,_,rfl,‹_›,‹_›⟩
theorem IsDs.iNil (x:IsDs C Z h vs []):vs = []:=by cases ((x)); rfl
end
noncomputable def NoCell (o:Obj):Prop:=∀ v,o.data ≠ .cell v
theorem NoCell.seq {o:Obj} {vs:Array Value} {n:Nat} (h:o.data = .seq vs n):NoCell o:=fun v q=>by rw [h] at q; cases q
theorem NoCell.dict {o:Obj} {vs:Array DictEntry} {n:Nat} (h:o.data = .dict vs n):NoCell o:=fun v q=>by rw [h] at q; cases q
theorem NoCell.plain {o:Obj} (h:o.data = .plain):NoCell o:=fun v q=>by rw [h] at q; cases q
section
variable {C:Cx} {Z Z':Addr -> Prop} {h h':Heap} {a dx:Addr} {vs:List Value} {x:Str} {v:Value} (k:∀ b o,¬ Z b -> NoCell o -> h.get? b = some o -> h'.get? b = some o) (z:∀ b o,¬ Z b -> NoCell o -> h.get? b = some o -> ¬ Z' b)
include k in
theorem Tpl.kc (t:Tpl h a vs) (n:¬ Z a):Tpl h' a vs:=let ⟨m,e⟩:=t; ⟨m,k a _ n (.seq rfl) e⟩
include k in
theorem Lst.kc (t:Lst h a vs) (n:¬ Z a):Lst h' a vs:=let ⟨m,e⟩:=t; ⟨m,k a _ n (.seq rfl) e⟩
include z in
theorem Tpl.zc (t:Tpl h a vs) (n:¬ Z a):¬ Z' a:=let ⟨m,e⟩:=t; z a _ n (.seq rfl) e
include z in
theorem Lst.zc (t:Lst h a vs) (n:¬ Z a):¬ Z' a:=let ⟨m,e⟩:=t; z a _ n (.seq rfl) e
include k in
theorem attrIs.kc (t:attrIs h dx x v) (n:¬ Z dx):attrIs h' dx x v:=let ⟨m,⟨o,es,ep,g,d,r⟩,q⟩:=t; ⟨m,⟨o,es,ep,k _ _ n (.dict d) g,d,r⟩,q⟩
include z in
theorem attrIs.zc (t:attrIs h dx x v) (n:¬ Z dx):¬ Z' dx:=let ⟨m,⟨o,es,ep,g,d,r⟩,q⟩:=t; z _ _ n (.dict d) g
include k z in
theorem IsD.monoC {v:Value} {d:D} (x:IsD C Z h v d):IsD C Z' h' v d :=
 IsD.rec (motive_1:=fun v d _=>IsD C Z' h' v d) (motive_2:=fun v d _=>IsDs C Z' h' v d) .none .bool .int .str (fun a vs ds t n _ ih=>.tup a vs ds (t.kc k n) (t.zc z n) ih) (fun a vs ds t n _ ih=>.lst a vs ds (t.kc k n) (t.zc z n) ih)
  (fun a dx t u n nt cnt b tn tt tb vs e1 z1 z2 z3 z4 x2 x3 x4 t5 t6 e7=>.ws a dx t u n nt cnt b tn tt tb vs (k _ _ z1 (.plain rfl) e1) (z _ _ z1 (.plain rfl) e1) (x2.zc z z2) (t5.zc z z3) (t6.zc z z4) (x2.kc k z2) (x3.kc k z2) (x4.kc k z2) (t5.kc k z3) (t6.kc k z4) e7)
  .nil (fun _ _ a b=>.cons a b) x
include k z in
theorem IsDs.monoC:∀ {vs:List Value} {ds:List D},IsDs C Z h vs ds -> IsDs C Z' h' vs ds
 | vs,[],x=>x.iNil ▸ .nil
 | vs,d :: ds,x=>x.iCons.elim fun v r=>r.elim fun ws r=>r.1 ▸ .cons (r.2.1.monoC k z) (IsDs.monoC r.2.2)
end
theorem IsD.mono {C:Cx} {Z Z':Addr -> Prop} {h h':Heap} (k:∀ b o,¬ Z b -> h.get? b = some o -> h'.get? b = some o) (z:∀ b o,¬ Z b -> h.get? b = some o -> ¬ Z' b) {v:Value} {d:D} (x:IsD C Z h v d):IsD C Z' h' v d :=
 x.monoC (fun b o n _=>k b o n) fun b o n _=>z b o n
theorem IsDs.mono {C:Cx} {Z Z':Addr -> Prop} {h h':Heap} (k:∀ b o,¬ Z b -> h.get? b = some o -> h'.get? b = some o) (z:∀ b o,¬ Z b -> h.get? b = some o -> ¬ Z' b) {v:List Value} {d:List D} (x:IsDs C Z h v d):IsDs C Z' h' v d :=
 x.monoC (fun b o n _=>k b o n) fun b o n _=>z b o n
theorem IsD.ext {C:Cx} {Z:Addr -> Prop} {s s':Shared} {v:Value} {d:D} (x:IsD C Z s.heap v d) (e:Ext C s s') (tz:∀ b ∈ C.T,Z b):IsD C Z s'.heap v d :=
 x.mono (fun b o n g=>e.keep b o (fun q=>n (tz b q)) g) fun _ _ n _=>n
theorem IsDs.ext {C:Cx} {Z:Addr -> Prop} {s s':Shared} {v:List Value} {d:List D} (x:IsDs C Z s.heap v d) (e:Ext C s s') (tz:∀ b ∈ C.T,Z b):IsDs C Z s'.heap v d :=
 x.mono (fun b o n g=>e.keep b o (fun q=>n (tz b q)) g) fun _ _ n _=>n
section
variable {C:Cx} {Z:Addr -> Prop} {h:Heap}
theorem IsDs.length:∀ {ds:List D} {vs:List Value},IsDs C Z h vs ds -> vs.length = ds.length
 | [],vs,x=>x.iNil ▸ rfl
 | d :: ds,vs,x=>x.iCons.elim fun v r=>r.elim fun ws r=>r.1 ▸ congrArg (· + 1) (IsDs.length r.2.2)
theorem IsDs.appendA {ws:List Value} {es:List D} (y:IsDs C Z h ws es):∀ {ds:List D} {vs:List Value},IsDs C Z h vs ds -> IsDs C Z h (vs ++ ws) (ds ++ es)
 | [],vs,x=>x.iNil ▸ y
 | d :: ds,vs,x=>x.iCons.elim fun v r=>r.elim fun ws r=>r.1 ▸ .cons r.2.1 (IsDs.appendA y r.2.2)
theorem IsDs.append {vs ws:List Value} {ds es:List D} (x:IsDs C Z h vs ds) (y:IsDs C Z h ws es):IsDs C Z h (vs ++ ws) (ds ++ es):=.appendA y x
theorem IsDs.snoc {vs ds v d} (a:IsDs C Z h vs ds) (b:IsD C Z h v d):IsDs C Z h (vs ++ [v]) (ds ++ [d]):=a.append (.cons b .nil)
theorem IsDs.get:∀ {ds:List D} {vs:List Value},IsDs C Z h vs ds -> ∀ (i:Nat) {d},ds[i]? = some d -> ∃ v,vs[i]? = some v /\ IsD C Z h v d
 | [],vs,x,i,d,e=>nomatch e
 | d :: ds,vs,x,0,d',e=>x.iCons.elim fun v r=>r.elim fun ws r=>r.1 ▸ ⟨v,rfl,Option.some.inj e ▸ r.2.1⟩
 | d :: ds,vs,x,i+1,d',e=>x.iCons.elim fun v r=>r.elim fun ws r=>r.1 ▸ IsDs.get r.2.2 i e
theorem IsDs.get':∀ {ds:List D} {vs:List Value},IsDs C Z h vs ds -> ∀ (i:Nat) {v},vs[i]? = some v -> ∃ d,ds[i]? = some d /\ IsD C Z h v d
 | [],vs,x,i,v,e=>nomatch (x.iNil ▸ e:([]:List Value)[i]? = some v)
 | d :: ds,vs,x,0,v',e=>x.iCons.elim fun v r=>r.elim fun ws r=>⟨d,rfl,Option.some.inj (r.1 ▸ e:(v :: ws)[0]? = some v') ▸ r.2.1⟩
 | d :: ds,vs,x,i+1,v',e=>x.iCons.elim fun v r=>r.elim fun ws r=>IsDs.get' r.2.2 i (r.1 ▸ e:(v :: ws)[i+1]? = some v')
theorem IsDs.take:∀ {ds:List D} {vs:List Value},IsDs C Z h vs ds -> ∀ n,IsDs C Z h (vs.take n) (ds.take n)
 | ds,vs,x,0=>.nil
 | [],vs,x,n+1=>x.iNil ▸ .nil
 | d :: ds,vs,x,n+1=>x.iCons.elim fun v r=>r.elim fun ws r=>r.1 ▸ .cons r.2.1 (IsDs.take r.2.2 n)
theorem IsDs.drop:∀ {ds:List D} {vs:List Value},IsDs C Z h vs ds -> ∀ n,IsDs C Z h (vs.drop n) (ds.drop n)
 | ds,vs,x,0=>x
 | [],vs,x,n+1=>x.iNil ▸ .nil
 | d :: ds,vs,x,n+1=>x.iCons.elim fun v r=>r.elim fun ws r=>r.1 ▸ IsDs.drop r.2.2 n
theorem IsDs.ints:∀ {ns:List Int} {vs:List Value},IsDs C Z h vs (ns.map .int) -> IntsAre vs ns
 | [],vs,x=>x.iNil ▸ .nil
 | n :: ns,vs,x=>(IsDs.iCons x).elim fun v r=>r.elim fun ws r=>r.2.1.iInt.elim fun t e=>r.1 ▸ e ▸ .cons _ _ (IsDs.ints r.2.2)
theorem IsDs.of_ints {vs:List Value} {ns:List Int} (x:IntsAre vs ns):IsDs C Z h vs (ns.map .int):=by
 induction x with
 | nil=>exact .nil
 | cons _ _ _ ih=>exact .cons (.int _ _) ih
end
end
section
structure LexA where
 lx:Addr
 dx:Addr
 pl:Addr
 al:Addr
 st:Addr
 txt:Str
structure LexSt where
 rest:List Nat
 line:Int
 pb:List Str
structure LexE where
 (h1 h2 h3 h4:Int)
 (t1 t2 t3 t4 tl tw:Tok)
 n:Nat
noncomputable def LexE.es (e:LexE) (line:Int) (st pl:Addr):List DictEntry:=[⟨e.h1,.str "lineno" e.t1,.int line e.tl⟩,⟨e.h2,.str "instream" e.t2,.ref st⟩,⟨e.h3,.str "whitespace" e.t3,.str "\n\t\r " e.tw⟩,⟨e.h4,.str "pushback" e.t4,.ref pl⟩]
noncomputable def LexMut (L:LexA) (st:LexSt) (h:Heap):Prop :=
 (∃ e:LexE,h.get? L.dx = some (dictOf (e.es st.line L.st L.pl) e.n)) /\
 (∃ vs,Lst h L.pl vs /\ StrsAre vs st.pb) /\
 (∃ (n:Nat) (t:Tok),Lst h L.al [.int n t] /\ n <= L.txt.length /\ st.rest = L.txt.cps.toList.drop n)
theorem LexMut.kept {L:LexA} {st:LexSt} {h h':Heap} (x:LexMut L st h) (k:∀ b,b = L.dx \/ b = L.pl \/ b = L.al -> ∀ o,h.get? b = some o -> h'.get? b = some o):LexMut L st h':=by
 obtain ⟨⟨enn,g⟩,⟨vs,e1,e2⟩,n,t,e3,e4⟩:=x
 exact ⟨⟨enn,k _ (.inl rfl) _ g⟩,⟨vs,e1.kept (k _ (.inr (.inl rfl))),e2⟩,n,t,e3.kept (k _ (.inr (.inr rfl))),e4⟩
inductive AV where
 | no | emp
 | d (x:D)
 | sd (x:D)
 | own (l:List D)
 | val (v:Value)
 | lex (L:LexA) (st:LexSt)
noncomputable abbrev Vars:=List AV
inductive Tag where
 | loc | cell (i:Nat) | own (i:Nat) | oth (n:Nat)
structure Base where
 get:Addr -> Option Obj
structure EnvOk (env:Env):Prop where
 kind:env.scope.kind = .function
 glob:env.globals = mainGlobals
 blt:env.builtins = builtinsNs
 nodup:(env.scope.names.map (·.1)).Nodup
noncomputable abbrev Own:=Addr -> Option Tag
noncomputable def Zf (U:Addr -> Prop) (O:Own):Addr -> Prop:=fun b=>U b \/ O b ≠ none
noncomputable def Own.put (O:Own) (a:Addr) (t:Option Tag):Own:=fun b=>if b = a then t else O b
noncomputable def HoldsO (env:Env) (m:Str -> Option Value) (h:Heap) (O:Own) (i:Nat) (x:Str) (k:NameKind) (v:Value):Prop :=
 (k = .local /\ m x = some v) \/ (k = .cell /\ ∃ c,env.cells.lookup x = some c /\ O c = some (.cell i) /\ h.IsCell c (some v))
noncomputable def VarOk (C:Cx) (B:Base) (U:Addr -> Prop) (O:Own) (env:Env) (m:Str -> Option Value) (h:Heap) (i:Nat) (x:Str) (k:NameKind):AV -> Prop
 | .no=>True
 | .emp=>k = .cell /\ ∃ c w,env.cells.lookup x = some c /\ O c = some (.cell i) /\ h.IsCell c w
 | .d d=>∃ v,HoldsO env m h O i x k v /\ IsD C (Zf U O) h v d
 | .sd d=>(k = .cell \/ k = .free) /\ ∃ c v,env.cells.lookup x = some c /\ (∃ o,B.get c = some o /\ o.data = .cell (some v)) /\ IsD C (Zf U O) h v d
 | .own l=>∃ a vs,HoldsO env m h O i x k (.ref a) /\ O a = some (.own i) /\ Lst h a vs /\ IsDs C (Zf U O) h vs l
 | .lex L st=>(HoldsO env m h O i x k (.ref L.lx) \/ ((k = .cell \/ k = .free) /\ ∃ c o,env.cells.lookup x = some c /\ (B.get c = some o \/ C.h0.get? c = some o) /\ o.data = .cell (some (.ref L.lx)))) /\
   O L.dx = some (.oth i) /\ O L.pl = some (.oth i) /\ O L.al = some (.oth i) /\ LexMut L st h
 | .val u=>HoldsO env m h O i x k u \/ ((k = .cell \/ k = .free) /\ ∃ c o,env.cells.lookup x = some c /\ C.h0.get? c = some o /\ o.data = .cell (some u))
structure SimO (C:Cx) (B:Base) (U:Addr -> Prop) (O:Own) (env:Env) (σ:Vars) (s:Shared):Prop where
 ok:OK C s
 ev:EnvOk env
 tu:∀ b ∈ C.T,U b
 bt:∀ b ∈ C.T,B.get b = none
 keepB:∀ b o,B.get b = some o -> s.heap.get? b = some o
 lt:∀ b,Zf U O b -> ∃ o,s.heap.get? b = some o
 ob:∀ b,O b ≠ none -> B.get b = none /\ ¬ U b
 oh:∀ b,O b ≠ none -> C.h0.get? b = none
 hL:O env.locals = some .loc
 vars:∃ m,s.heap.Ns env.locals m /\ ∀ i x k av,env.scope.names[i]? = some (x,k) -> σ[i]? = some av -> VarOk C B U O env m s.heap i x k av
theorem OK.frT {C:Cx} {s:Shared} {b:Addr} (K:OK C s) (h:s.heap.get? b = none):b ∉ C.T:=fun q=>(K.tab b q).elim fun _ r=>nomatch h.symm.trans r.1
theorem OK.frH {C:Cx} {s:Shared} {b:Addr} (K:OK C s) (h:s.heap.get? b = none):C.h0.get? b = none:=by
 cases q:C.h0.get? b with
 | none=>rfl
 | some o=>exact nomatch h.symm.trans (K.keep b o q)
theorem SimO.frU {C:Cx} {B:Base} {U:Addr -> Prop} {O:Own} {env:Env} {σ:Vars} {s:Shared} {b:Addr} (S:SimO C B U O env σ s) (h:s.heap.get? b = none):¬ U b:=fun q=>(S.lt b (.inl q)).elim fun _ r=>nomatch h.symm.trans r
theorem SimO.frO {C:Cx} {B:Base} {U:Addr -> Prop} {O:Own} {env:Env} {σ:Vars} {s:Shared} {b:Addr} (S:SimO C B U O env σ s) (h:s.heap.get? b = none):O b = none:=by
 cases q:O b with
 | none=>rfl
 | some t=>exact (S.lt b (.inr fun r=>nomatch q.symm.trans r)).elim fun _ r=>nomatch h.symm.trans r
theorem SimO.frB {C:Cx} {B:Base} {U:Addr -> Prop} {O:Own} {env:Env} {σ:Vars} {s:Shared} {b:Addr} (S:SimO C B U O env σ s) (h:s.heap.get? b = none):B.get b = none:=by
 cases q:B.get b with
 | none=>rfl
 | some o=>exact nomatch h.symm.trans (S.keepB b o q)
theorem SimO.boO {C:Cx} {B:Base} {U:Addr -> Prop} {O:Own} {env:Env} {σ:Vars} {s:Shared} {b:Addr} {o:Obj} (S:SimO C B U O env σ s) (h:B.get b = some o):O b = none:=by
 cases q:O b with
 | none=>rfl
 | some t=>exact nomatch (S.ob b fun r=>nomatch q.symm.trans r).1.symm.trans h
theorem SimO.uo {C:Cx} {B:Base} {U:Addr -> Prop} {O:Own} {env:Env} {σ:Vars} {s:Shared} {b:Addr} (S:SimO C B U O env σ s) (h:U b):O b = none:=by
 cases q:O b with
 | none=>rfl
 | some t=>exact absurd h (S.ob b fun r=>nomatch q.symm.trans r).2
theorem IsCell.kept {h h':Heap} {c:Addr} {v:Option Value} (x:h.IsCell c v) (k:∀ o,h.get? c = some o -> h'.get? c = some o):h'.IsCell c v :=
 let ⟨o,e,r⟩:=x; ⟨o,k o e,r⟩
theorem Ext.ex {C:Cx} {s s':Shared} (e:Ext C s s') {b:Addr} (h:∃ o,s.heap.get? b = some o):∃ o,s'.heap.get? b = some o:=by
 by_cases hb:b ∈ C.T
 ·obtain ⟨ps,g,_⟩:=e.ok.tab b hb; exact ⟨_,g⟩
 ·obtain ⟨o,g⟩:=h; exact ⟨o,e.keep b o hb g⟩
section
variable {C:Cx} {B:Base} {U U':Addr -> Prop} {O O':Own} {env:Env} {σ:Vars} {s s':Shared} {m m':Str -> Option Value} {h h':Heap} {i:Nat} {x:Str} {k:NameKind} {av:AV}
theorem HoldsO.step {v:Value} (hm:k = .local -> m' x = m x)
  (hcell:∀ c,O c = some (.cell i) -> O' c = some (.cell i) /\ (∀ o,h.get? c = some o -> h'.get? c = some o)) (y:HoldsO env m h O i x k v):HoldsO env m' h' O' i x k v:=by
 rcases y with ⟨e,r⟩ | ⟨e,c,e1,e2,e3⟩
 ·exact .inl ⟨e,(hm e).trans r⟩
 ·exact .inr ⟨e,c,e1,(hcell c e2).1,IsCell.kept e3 (hcell c e2).2⟩
theorem VarOk.step (hm:k = .local -> m' x = m x)
  (hcell:∀ c,O c = some (.cell i) -> O' c = some (.cell i) /\ (∀ o,h.get? c = some o -> h'.get? c = some o))
  (hown:∀ c,O c = some (.own i) -> O' c = some (.own i) /\ (∀ o,h.get? c = some o -> h'.get? c = some o))
  (hoth:∀ c,O c = some (.oth i) -> O' c = some (.oth i) /\ (∀ o,h.get? c = some o -> h'.get? c = some o))
  (hd:∀ b o,¬ Zf U O b -> h.get? b = some o -> h'.get? b = some o /\ ¬ Zf U' O' b)
  (y:VarOk C B U O env m h i x k av):VarOk C B U' O' env m' h' i x k av:=by
 cases av with
 | no=>trivial
 | emp=>obtain ⟨e,c,w,e1,e2,e3⟩:=y; exact ⟨e,c,w,e1,(hcell c e2).1,IsCell.kept e3 (hcell c e2).2⟩
 | d d=>obtain ⟨v,e1,e2⟩:=y; exact ⟨v,e1.step hm hcell,e2.mono (fun b o n g=>(hd b o n g).1) fun b o n g=>(hd b o n g).2⟩
 | sd d=>obtain ⟨e,c,v,e1,e2,e3⟩:=y; exact ⟨e,c,v,e1,e2,e3.mono (fun b o n g=>(hd b o n g).1) fun b o n g=>(hd b o n g).2⟩
 | own l=>obtain ⟨a,vs,e1,e2,e3,e4⟩:=y; exact ⟨a,vs,e1.step hm hcell,(hown a e2).1,Lst.kept e3 (hown a e2).2,e4.mono (fun b o n g=>(hd b o n g).1) fun b o n g=>(hd b o n g).2⟩
 | val u=>exact y.imp (HoldsO.step hm hcell) id
 | lex L st=>exact ⟨y.1.imp (HoldsO.step hm hcell) id,(hoth _ y.2.1).1,(hoth _ y.2.2.1).1,(hoth _ y.2.2.2.1).1,y.2.2.2.2.kept fun b hb=>by
   rcases hb with rfl | rfl | rfl
   ·exact (hoth _ y.2.1).2
   ·exact (hoth _ y.2.2.1).2
   ·exact (hoth _ y.2.2.2.1).2⟩
theorem SimO.nT (S:SimO C B U O env σ s) {b:Addr} (hb:O b ≠ none):b ∉ C.T:=fun q=>(S.ob b hb).2 (S.tu b q)
theorem SimO.zt (S:SimO C B U O env σ s):∀ b ∈ C.T,Zf U O b:=fun b q=>.inl (S.tu b q)
theorem SimO.ext (S:SimO C B U O env σ s) (e:Ext C s s'):SimO C B U O env σ s':=by
 obtain ⟨m,hm,hv⟩:=S.vars
 have kO:∀ c,O c ≠ none -> ∀ o,s.heap.get? c = some o -> s'.heap.get? c = some o:=fun c hc o g=>e.keep c o (S.nT hc) g
 refine ⟨e.ok,S.ev,S.tu,S.bt,fun b o g=>e.keep b o (fun q=>by rw [S.bt b q] at g; cases g) (S.keepB b o g),fun b hb=>e.ex (S.lt b hb),S.ob,S.oh,S.hL,m,?_,fun i x k av e1 e2=>?_⟩
 ·obtain ⟨o,es,ep,g,r⟩:=hm
  exact ⟨o,es,ep,kO _ (nnS S.hL) o g,r⟩
 ·exact (hv i x k av e1 e2).step (fun _=>rfl) (fun c hc=>⟨hc,kO c (nnS hc)⟩) (fun c hc=>⟨hc,kO c (nnS hc)⟩) (fun c hc=>⟨hc,kO c (nnS hc)⟩)
   fun b o n g=>⟨e.keep b o (fun q=>n (S.zt b q)) g,n⟩
theorem SimO.extAvoid (S:SimO C B U O env σ s) (e:Ext C s s') {I:Addr} (fr:s.heap.get? I = none) (ex:∃ o,s'.heap.get? I = some o):SimO C B (fun b=>U b \/ b = I) O env σ s':=by
 obtain ⟨m,hm,hv⟩:=S.vars
 have kO:∀ c,O c ≠ none -> ∀ o,s.heap.get? c = some o -> s'.heap.get? c = some o:=fun c hc o g=>e.keep c o (S.nT hc) g
 have nI:∀ b o,s.heap.get? b = some o -> b ≠ I:=fun b o g q=>by rw [q,fr] at g; cases g
 refine ⟨e.ok,S.ev,fun b hb=>.inl (S.tu b hb),S.bt,fun b o g=>e.keep b o (fun q=>by rw [S.bt b q] at g; cases g) (S.keepB b o g),fun b hb=>?_,fun b hb=>⟨(S.ob b hb).1,fun q=>q.elim (S.ob b hb).2 fun q=>?_⟩,S.oh,S.hL,m,?_,fun i x k av e1 e2=>?_⟩
 ·rcases hb with (hb | rfl) | hb
  ·exact e.ex (S.lt b (.inl hb))
  ·exact ex
  ·exact e.ex (S.lt b (.inr hb))
 ·obtain ⟨o,g⟩:=S.lt b (.inr hb); exact nI _ _ g q
 ·obtain ⟨o,es,ep,g,r⟩:=hm
  exact ⟨o,es,ep,kO _ (nnS S.hL) o g,r⟩
 ·refine (hv i x k av e1 e2).step (fun _=>rfl) (fun c hc=>⟨hc,kO c (nnS hc)⟩) (fun c hc=>⟨hc,kO c (nnS hc)⟩) (fun c hc=>⟨hc,kO c (nnS hc)⟩)
   fun b o n g=>⟨e.keep b o (fun q=>n (S.zt b q)) g,fun q=>?_⟩
  rcases q with (q | q) | q
  ·exact n (.inl q)
  ·exact nI _ _ g q
  ·exact n (.inr q)
theorem zn {U:Addr -> Prop} {O:Own} {b:Addr} (n:¬ Zf U O b):O b = none:=by
 cases q:O b with
 | none=>rfl
 | some t=>exact absurd (.inr (nnS q)) n
noncomputable abbrev Kb (O:Own) (s s':Shared):Prop:=∀ b o,O b = none -> s.heap.get? b = some o -> s'.heap.get? b = some o
theorem IsD.kb {U:Addr -> Prop} {O:Own} {s s':Shared} {v:Value} {d:D} (x:IsD C (Zf U O) s.heap v d) (k:Kb O s s'):IsD C (Zf U O) s'.heap v d:=x.mono (fun b o n g=>k b o (zn n) g) fun _ _ n _=>n
theorem IsDs.kb {U:Addr -> Prop} {O:Own} {s s':Shared} {v:List Value} {d:List D} (x:IsDs C (Zf U O) s.heap v d) (k:Kb O s s'):IsDs C (Zf U O) s'.heap v d:=x.mono (fun b o n g=>k b o (zn n) g) fun _ _ n _=>n
noncomputable def IsVar (sc:Scope) (x:Str) (i:Nat):Prop:=(sc.names[i]?).map (·.1) = some x
theorem lookup_of_get {α:Type}:∀ {l:List (Str × α)} {i:Nat} {x:Str} {k:α},(l.map (·.1)).Nodup -> l[i]? = some (x,k) -> l.lookup x = some k
 | [],i,_,_,_,e=>by simp at e
 | (y,k') :: r,0,x,k,_,e=>by simp at e; obtain ⟨rfl,rfl⟩:=e; simp
 | (y,k') :: r,i+1,x,k,hn,e=>by
  rw [List.getElem?_cons_succ] at e
  simp only [List.map_cons,List.nodup_cons] at hn
  have hm:(x,k) ∈ r:=List.mem_of_getElem? e
  have hne:x ≠ y:=fun q=>hn.1 (q ▸ List.mem_map_of_mem (f:=(·.1)) hm)
  rw [List.lookup_cons,beq_eq_false_iff_ne.mpr hne]
  exact lookup_of_get hn.2 e
theorem IsVar.get {sc:Scope} {x:Str} {i:Nat} (h:IsVar sc x i):∃ k,sc.names[i]? = some (x,k):=by
 unfold IsVar at h
 cases e:sc.names[i]? with
 | none=>rw [e] at h; cases h
 | some p=>rw [e] at h; cases h; exact ⟨p.2,rfl⟩
theorem IsVar.kind {env:Env} {x:Str} {i:Nat} (E:EnvOk env) (h:IsVar env.scope x i):∃ k,env.scope.names[i]? = some (x,k) /\ env.kindOf x = some k :=
 let ⟨k,e⟩:=h.get; ⟨k,e,lookup_of_get E.nodup e⟩
theorem IsVar.inj {env:Env} {x y:Str} {i j:Nat} {k k':NameKind} (E:EnvOk env) (h:env.scope.names[i]? = some (x,k)) (h':env.scope.names[j]? = some (y,k')) (e:x = y):i = j:=by
 subst e
 have l1:i < (env.scope.names.map (·.1)).length:=by rw [List.length_map]; exact (List.getElem?_eq_some_iff.mp h).1
 have l2:j < (env.scope.names.map (·.1)).length:=by rw [List.length_map]; exact (List.getElem?_eq_some_iff.mp h').1
 have q:(env.scope.names.map (·.1))[i] = (env.scope.names.map (·.1))[j]:=by
  simp only [List.getElem_map]
  rw [(List.getElem?_eq_some_iff.mp h).2,(List.getElem?_eq_some_iff.mp h').2]
 have P:=List.pairwise_iff_getElem.mp E.nodup
 rcases Nat.lt_trichotomy i j with l | l | l
 ·exact absurd q (P i j l1 l2 l)
 ·exact l
 ·exact absurd q.symm (P j i l2 l1 l)
structure Room (k:Nat) (A:Around):Prop where
 hd:A.handled = none
 dep:A.depth + k <= 800
 un:A.units + 40 * k <= 9000
theorem Room.le {k k':Nat} {A:Around} (r:Room k A) (h:k' <= k):Room k' A:=⟨r.hd,by have:=r.dep; omega,by have:=r.un; omega⟩
noncomputable def ZOk (C:Cx) (Z:Addr -> Prop) (s:Shared):Prop:=(∀ b ∈ C.T,Z b) /\ ∀ b,Z b -> ∃ o,s.heap.get? b = some o
theorem ZOk.ext {C:Cx} {Z:Addr -> Prop} {s s':Shared} (z:ZOk C Z s) (e:Ext C s s'):ZOk C Z s':=⟨z.1,fun b hb=>e.ex (z.2 b hb)⟩
theorem ZOk.fresh {C:Cx} {Z:Addr -> Prop} {s:Shared} {a:Addr} (z:ZOk C Z s) (h:s.heap.get? a = none):¬ Z a:=fun q=>by obtain ⟨o,e⟩:=z.2 _ q; rw [h] at e; cases e
theorem ZOk.new {C:Cx} {Z:Addr -> Prop} {s:Shared} (z:ZOk C Z s):¬ Z s.heap.objs.size:=z.fresh (Heap.get?_none_of_le (Nat.le_refl _))
noncomputable def EvP (C:Cx) (k:Nat) (env:Env) (σ:Vars) (t:Sem Value) (d:D):Prop :=
 ∀ B U O A s,Room k A -> SimO C B U O env σ s -> wpAny C.M A t (fun v s'=>Ext C s s' /\ IsD C (Zf U O) s'.heap v d) (fun _ _=>False) s
noncomputable abbrev Ev (C:Cx) (k:Nat) (env:Env) (σ:Vars) (e:Expr) (d:D):Prop:=EvP C k env σ (eval e env) d
noncomputable def EvT (C:Cx) (k:Nat) (env:Env) (σ:Vars) (t:Sem Bool) (b:Bool):Prop :=
 ∀ B U O A s,Room k A -> SimO C B U O env σ s -> wpAny C.M A t (fun v s'=>Ext C s s' /\ v = b) (fun _ _=>False) s
noncomputable abbrev Te (C:Cx) (k:Nat) (env:Env) (σ:Vars) (e:Expr) (b:Bool):Prop:=EvT C k env σ (isTrue e env (eval e env)) b
theorem Ev.name {kk:Nat} {pos:Pos} {d:D} (hx:IsVar env.scope x i) (hs:σ[i]? = some (.d d)) (hb:(x == ("__debug__":Str)) = false):Ev C kk env σ (.Name x pos) d:=by
 intro B U O A s R S
 obtain ⟨k,e1,e2⟩:=hx.kind S.ev
 obtain ⟨m,hm,hv⟩:=S.vars
 obtain ⟨v,h1,h2⟩:=hv i x k _ e1 hs
 refine wpAny_Name ?_ hb
 rcases h1 with ⟨rfl,q⟩ | ⟨rfl,c,c1,c2,c3⟩
 ·exact wpAny_loadName_local S.ev.kind e2 hm q ⟨.refl S.ok,h2⟩
 ·exact wpAny_loadName_cell S.ev.kind e2 c1 c3 ⟨.refl S.ok,h2⟩
theorem Ev.names {kk:Nat} {pos:Pos} {d:D} (hx:IsVar env.scope x i) (hs:σ[i]? = some (.sd d)) (hb:(x == ("__debug__":Str)) = false) (hc:(x == ("__classdict__":Str)) = false):Ev C kk env σ (.Name x pos) d:=by
 intro B U O A s R S
 obtain ⟨k,e1,e2⟩:=hx.kind S.ev
 obtain ⟨m,hm,hv⟩:=S.vars
 obtain ⟨hk,c,v,h1,⟨o,h2,h3⟩,h4⟩:=hv i x k _ e1 hs
 have hcell:s.heap.IsCell c (some v):=⟨o,S.keepB c o h2,h3⟩
 refine wpAny_Name ?_ hb
 rcases hk with rfl | rfl
 ·exact wpAny_loadName_cell S.ev.kind e2 h1 hcell ⟨.refl S.ok,h4⟩
 ·exact wpAny_loadName_free S.ev.kind e2 h1 hcell ⟨.refl S.ok,h4⟩ hc
theorem SimO.loadVal (S:SimO C B U O env σ s) {kk:Nat} {pos:Pos} {u:Value} {A:Around} {Q:Value -> Shared -> Prop} (hx:IsVar env.scope x i) (hs:σ[i]? = some (.val u)) (hb:(x == ("__debug__":Str)) = false) (hc:(x == ("__classdict__":Str)) = false) (hQ:Q u s):wpAny C.M A (PySem.eval (.Name x pos) env) Q (fun _ _=>False) s:=by
 obtain ⟨k,e1,e2⟩:=hx.kind S.ev
 obtain ⟨m,hm,hv⟩:=S.vars
 refine wpAny_Name ?_ hb
 rcases hv i x k _ e1 hs with (⟨rfl,q⟩ | ⟨rfl,c,c1,c2,c3⟩) | ⟨hk,c,o,c1,c2,c3⟩
 ·exact wpAny_loadName_local S.ev.kind e2 hm q hQ
 ·exact wpAny_loadName_cell S.ev.kind e2 c1 c3 hQ
 ·have hcell:s.heap.IsCell c (some u):=⟨o,S.ok.keep c o c2,c3⟩
  rcases hk with rfl | rfl
  ·exact wpAny_loadName_cell S.ev.kind e2 c1 hcell hQ
  ·exact wpAny_loadName_free S.ev.kind e2 c1 hcell hQ hc
theorem Ev.int {kk:Nat} {n:Int} {c:Nat} {pos:Pos}:Ev C kk env σ (.Constant (.int n) c pos) (.int n) :=
 fun B U O A s R S=>show wpAny _ _ (mkInt n) _ _ _ from wpAny_mkInt ⟨.tok S.ok,.int _ _⟩
theorem Ev.str {kk:Nat} {n:Str} {c:Nat} {pos:Pos}:Ev C kk env σ (.Constant (.str n) c pos) (.str n) :=
 fun B U O A s R S=>show wpAny _ _ (mkText n) _ _ _ from wpAny_mkText ⟨.tok S.ok,.str _ _⟩
theorem Ev.bool {kk:Nat} {n:Bool} {c:Nat} {pos:Pos}:Ev C kk env σ (.Constant (.bool n) c pos) (.bool n) :=
 fun B U O A s R S=>show wpAny _ _ (pure _) _ _ _ from wpAny_pure ⟨.refl S.ok,.bool _⟩
end
end
section
noncomputable def Op2 (C:Cx) (f:Value -> Value -> Sem Value) (a b d:D):Prop :=
 ∀ Z A s va vb,Room 0 A -> OK C s -> ZOk C Z s -> IsD C Z s.heap va a -> IsD C Z s.heap vb b -> wpAny C.M A (f va vb) (fun v s'=>Ext C s s' /\ IsD C Z s'.heap v d) (fun _ _=>False) s
noncomputable def Op1 (C:Cx) (f:Value -> Sem Value) (a d:D):Prop :=
 ∀ Z A s va,Room 0 A -> OK C s -> ZOk C Z s -> IsD C Z s.heap va a -> wpAny C.M A (f va) (fun v s'=>Ext C s s' /\ IsD C Z s'.heap v d) (fun _ _=>False) s
noncomputable def Tr1 (C:Cx) (f:Value -> Sem Bool) (a:D) (b:Bool):Prop :=
 ∀ Z A s va,Room 0 A -> OK C s -> ZOk C Z s -> IsD C Z s.heap va a -> wpAny C.M A (f va) (fun v s'=>Ext C s s' /\ v = b) (fun _ _=>False) s
section
variable {C:Cx} {env:Env} {σ:Vars} {k:Nat}
variable {B:Base} {U:Addr -> Prop} {O:Own} {s:Shared}
theorem SimO.zok (S:SimO C B U O env σ s):ZOk C (Zf U O) s:=⟨S.zt,S.lt⟩
theorem Room.zero {A:Around} (r:Room k A):Room 0 A:=r.le (Nat.zero_le _)
theorem Room.line {A:Around} (r:Room 0 A):A.units + 100 < cLine:=by have:=r.un; unfold cLine; omega
noncomputable abbrev nf:Value -> Shared -> Prop:=fun _ _=>False
theorem wpT {M:Model} {A:Around} {α:Type} {t:Sem α} {P Q:α -> Shared -> Prop} {s:Shared} (h:wpAny M A t P nf s) (f:∀ v s',P v s' -> Q v s'):wpAny M A t Q nf s:=wpAny_mono h f fun _ _ x=>x
theorem Ev.bin {l r:Expr} {op:Operator} {pos:Pos} {a b d:D} (hl:Ev C k env σ l a) (hr:Ev C k env σ r b) (h:Op2 C (binaryOp op) a b d):Ev C k env σ (.BinOp l op r pos) d:=by
 intro B U O A s R S
 refine wpAny_BinOp (wpT (hl B U O A s R S) fun va s₁ ⟨e1,i1⟩=>wpT (hr B U O A s₁ R (S.ext e1)) fun vb s₂ hZ2=>?_); obtain ⟨e2,i2⟩:=hZ2
 have S2:=(S.ext e1).ext e2
 exact wpT (h _ A s₂ va vb R.zero S2.ok S2.zok (i1.ext e2 S.zt) i2) fun v s₃ hY1=>⟨(e1.trans e2).trans hY1.1,hY1.2⟩
theorem Ev.cmp {l r:Expr} {op:CmpOp} {pos:Pos} {a b d:D} (hl:Ev C k env σ l a) (hr:Ev C k env σ r b) (h:Op2 C (compareOp op) a b d)
  (hm:behindInMarks op r = false:=by with_unfolding_all rfl):Ev C k env σ (.Compare l [op] [r] pos) d:=by
 intro B U O A s R S
 refine wpAny_Compare1 (wpT (hl B U O A s R S) fun va s₁ ⟨e1,i1⟩=>wpT (hr B U O A s₁ R (S.ext e1)) fun vb s₂ hZ2=>?_) hm; obtain ⟨e2,i2⟩:=hZ2
 have S2:=(S.ext e1).ext e2
 exact wpT (h _ A s₂ va vb R.zero S2.ok S2.zok (i1.ext e2 S.zt) i2) fun v s₃ hY3=>⟨(e1.trans e2).trans hY3.1,hY3.2⟩
theorem Te.cmp {l r:Expr} {op:CmpOp} {pos:Pos} {a b:D} {t:Bool} (hl:Ev C k env σ l a) (hr:Ev C k env σ r b) (h:Op2 C (compareOp op) a b (.bool t))
  (hm:behindInMarks op r = false:=by with_unfolding_all rfl):Te C k env σ (.Compare l [op] [r] pos) t:=by
 intro B U O A s R S
 refine wpAny_isTrue_Compare1 (wpT (hl B U O A s R S) fun va s₁ ⟨e1,i1⟩=>wpT (hr B U O A s₁ R (S.ext e1)) fun vb s₂ hZ2=>?_) hm; obtain ⟨e2,i2⟩:=hZ2
 have S2:=(S.ext e1).ext e2
 refine wpT (h _ A s₂ va vb R.zero S2.ok S2.zok (i1.ext e2 S.zt) i2) fun v s₃ hZ2=>?_; obtain ⟨e3,i3⟩:=hZ2
 cases i3
 exact wpAny_truthy_bool ⟨(e1.trans e2).trans e3,rfl⟩
theorem Te.plain {e:Expr} {d:D} {t:Bool} (he:Ev C k env σ e d) (h:Tr1 C truthy d t)
  (hw:PySem.isTrue e env (eval e env) = (do let v <- eval e env; standAt e.pos; holding [v] (truthy v)):=by with_unfolding_all rfl):Te C k env σ e t:=by
 intro B U O A s R S
 refine isTrue_plain (wpT (he B U O A s R S) fun va s₁ hZ2=>?_) hw; obtain ⟨e1,i1⟩:=hZ2
 have S1:=S.ext e1
 exact wpT (h _ A s₁ va R.zero S1.ok S1.zok i1) fun v s₂ hY7=>⟨e1.trans hY7.1,hY7.2⟩
theorem Tr1.bool {b:Bool}:Tr1 C truthy (.bool b) b:=by
 intro Z A s va R K z i
 cases i
 exact wpAny_truthy_bool ⟨.refl K,rfl⟩
theorem Te.and2 {e₁ e₂:Expr} {pos:Pos} {a b:Bool} (h1:Te C k env σ e₁ a) (h2:a = true -> Te C k env σ e₂ b):Te C k env σ (.BoolOp .And [e₁,e₂] pos) (a && b):=by
 intro B U O A s R S
 show wpAny _ _ (allTrue .And [e₁,e₂] env) _ _ _
 rw [arm_allTrue_cons]
 refine wpAny_bind (wpT (h1 B U O A s R S) fun x s₁ hZ2=>?_); obtain ⟨x1,i1⟩:=hZ2
 subst i1
 cases x with
 | false=>exact wpAny_pure ⟨x1,rfl⟩
 | true =>
  show wpAny _ _ (allTrue .And [e₂] env) _ _ _
  rw [arm_allTrue_cons]
  refine wpAny_bind (wpT (h2 rfl B U O A s₁ R (S.ext x1)) fun y s₂ hZ2=>?_); obtain ⟨x2,i2⟩:=hZ2
  subst i2
  cases y with
  | false=>exact wpAny_pure ⟨x1.trans x2,rfl⟩
  | true=>exact wpAny_pure ⟨x1.trans x2,rfl⟩
theorem Ev.ifExp {c a b:Expr} {pos:Pos} {t:Bool} {d:D} (hc:Te C k env σ c t) (ha:t = true -> Ev C k env σ a d) (hb:t = false -> Ev C k env σ b d):Ev C k env σ (.IfExp c a b pos) d:=by
 intro B U O A s R S
 show wpAny _ _ (do if <- PySem.isTrue c env (eval c env) then eval a env else eval b env) _ _ _
 refine wpAny_bind (wpT (hc B U O A s R S) fun x s₁ hZ2=>?_); obtain ⟨x1,i1⟩:=hZ2
 subst i1
 cases x with
 | true=>exact wpT (ha rfl B U O A s₁ R (S.ext x1)) fun v s₂ hY11=>⟨x1.trans hY11.1,hY11.2⟩
 | false=>exact wpT (hb rfl B U O A s₁ R (S.ext x1)) fun v s₂ hY12=>⟨x1.trans hY12.1,hY12.2⟩
noncomputable def EvL (C:Cx) (k:Nat) (env:Env) (σ:Vars):List Expr -> List D -> Prop
 | [],[]=>True
 | e :: es,d :: ds=>(Ev C k env σ e d /\ isStarred e = false) /\ EvL C k env σ es ds
 | _,_=>False
theorem star_cons {e:Expr} {es:List Expr} (h:isStarred e = false):starEach (e :: es) env = (false,eval e env) :: starEach es env:=by
 cases e <;> first | rfl | cases h
theorem EvL.noStar:∀ {es:List Expr} {ds:List D} (pos:Pos),EvL C k env σ es ds -> (backTo pos (starEach es env)).any (·.1) = false
 | [],[],_,_=>rfl
 | e :: es,d :: ds,pos,⟨⟨h1,h2⟩,h3⟩=>by
  rw [star_cons h2]
  show (false || (backTo pos (starEach es env)).any (·.1)) = false
  rw [noStar pos h3]; rfl
theorem EvL.spliced:∀ {es:List Expr} {ds:List D} (pos:Pos),EvL C k env σ es ds -> ∀ {A:Around} {s:Shared},Room k A -> SimO C B U O env σ s ->
  wpAny C.M A (spliced (backTo pos (starEach es env))) (fun vs s'=>Ext C s s' /\ IsDs C (Zf U O) s'.heap vs ds) nf s
 | [],[],_,_,A,s,R,S=>wpAny_pure ⟨.refl S.ok,.nil⟩
 | e :: es,d :: ds,pos,⟨⟨h1,h2⟩,h3⟩,A,s,R,S=>by
  rw [star_cons h2]
  refine spliced_cons (wpT (h1 B U O A s R S) fun v s₁ hY13=>wpT (spliced pos h3 R (S.ext hY13.1)) fun vs s₂ hY14=>⟨hY13.1.trans hY14.1,.cons (hY13.2.ext hY14.1 S.zt) hY14.2⟩)
theorem Ev.tuple {es:List Expr} {ds:List D} {n:Nat} {pos:Pos} (h:EvL C k env σ es ds) (hl:ds.length <= 1000000:=by (try simp only [List.length_cons,List.length_nil]); omega):Ev C k env σ (.Tuple es n pos) (.tup ds):=by
 intro B U O A s R S
 refine Tuple_ (wpT (h.spliced pos R S) fun vs s₁ hZ2=>?_); obtain ⟨x1,i1⟩:=hZ2
 have S1:=S.ext x1
 have hn:=S1.zok.new
 have hlen:=i1.length
 have x2:Ext C s₁ { heap:=s₁.heap.push { cls:=.type "tuple",data:=.seq vs.toArray },gens:=s₁.gens,drawn:=s₁.drawn,toks:=s₁.toks,os:=s₁.os }:=Ext.push S1.ok
 refine wpAny_newObj_type ⟨x1.trans x2,.tup _ vs ds ⟨0,Heap.get?_push_size _ rfl⟩ hn (i1.ext x2 S.zt)⟩ (by show vs.toArray.size <= sizeLine; rw [List.size_toArray,sizeLine_eq]; omega)
theorem Ev.list {es:List Expr} {ds:List D} {pos:Pos} (h:EvL C k env σ es ds) (hl:ds.length <= 1000000:=by (try simp only [List.length_cons,List.length_nil]); omega):Ev C k env σ (.List es pos) (.lst ds):=by
 intro B U O A s R S
 refine List_ (wpT (h.spliced pos R S) fun vs s₁ hZ2=>?_); obtain ⟨x1,i1⟩:=hZ2
 have S1:=S.ext x1
 have hn:=S1.zok.new
 have hlen:=i1.length
 have x2:Ext C s₁ { heap:=s₁.heap.push { cls:=.type "list",data:=.seq vs.toArray },gens:=s₁.gens,drawn:=s₁.drawn,toks:=s₁.toks,os:=s₁.os }:=Ext.push S1.ok
 refine wpAny_newObj_type ⟨x1.trans x2,.lst _ vs ds ⟨0,Heap.get?_push_size _ rfl⟩ hn (i1.ext x2 S.zt)⟩ (by show vs.toArray.size <= sizeLine; rw [List.size_toArray,sizeLine_eq]; omega)
end
end
section
section
variable {C:Cx} {env:Env} {σ:Vars} {k:Nat}
noncomputable abbrev bits (a:Int):Nat:=Builtin.Int.intBits a
theorem Op2.add {a b:Int}:Op2 C (binaryOp .Add) (.int a) (.int b) (.int (a + b)):=by
 intro Z A s va vb R K z ia ib; cases ia; cases ib; exact add_int ⟨.tok K,.int _ _⟩
theorem Op2.sub {a b:Int}:Op2 C (binaryOp .Sub) (.int a) (.int b) (.int (a - b)):=by
 intro Z A s va vb R K z ia ib; cases ia; cases ib; exact sub_int ⟨.tok K,.int _ _⟩
theorem Op2.mul {a b:Int} (h:IntMulOk a b):Op2 C (binaryOp .Mult) (.int a) (.int b) (.int (a * b)):=by
 intro Z A s va vb R K z ia ib; cases ia; cases ib; exact mul_int ⟨.tok K,.int _ _⟩ h
theorem Op2.div {a b:Int} (h:b ≠ 0) (hp:Builtin.divisionGoesByPylong a b = false):Op2 C (binaryOp .FloorDiv) (.int a) (.int b) (.int (a.fdiv b)):=by
 intro Z A s va vb R K z ia ib; cases ia; cases ib; exact floordiv_int h ⟨.tok K,.int _ _⟩ (.inl hp)
theorem Op2.mod {a b:Int} (h:b ≠ 0):Op2 C (binaryOp .Mod) (.int a) (.int b) (.int (a.fmod b)):=by
 intro Z A s va vb R K z ia ib; cases ia; cases ib; exact mod_int' h ⟨.tok K,.int _ _⟩
theorem Op2.pow {a n:Int} (h:0 <= n) (h':(bits a:Int) * n <= 2 ^ 27):Op2 C (binaryOp .Pow) (.int a) (.int n) (.int (a ^ n.toNat)):=by
 intro Z A s va vb R K z ia ib; cases ia; cases ib; exact pow_int h h' ⟨.tok K,.int _ _⟩
theorem Op2.shr {a n:Int} (h:0 <= n):Op2 C (binaryOp .RShift) (.int a) (.int n) (.int (a.fdiv (2 ^ n.toNat))):=by
 intro Z A s va vb R K z ia ib; cases ia; cases ib; exact rshift_int h ⟨.tok K,.int _ _⟩
theorem Op2.shl {a n:Int} (h:0 <= n) (h':(bits a:Int) + n <= 2 ^ 27):Op2 C (binaryOp .LShift) (.int a) (.int n) (.int (a * 2 ^ n.toNat)):=by
 intro Z A s va vb R K z ia ib; cases ia; cases ib
 exact lshift_int_or R.hd (fun q=>absurd h (by omega)) (fun _=>h') fun _=>⟨.tok K,.int _ _⟩
theorem Op2.and {a b:Int}:Op2 C (binaryOp .BitAnd) (.int a) (.int b) (.int (Builtin.bitAnd a b)):=by
 intro Z A s va vb R K z ia ib; cases ia; cases ib; exact and_int ⟨.tok K,.int _ _⟩
theorem Op2.xor {a b:Int}:Op2 C (binaryOp .BitXor) (.int a) (.int b) (.int (Builtin.bitXor a b)):=by
 intro Z A s va vb R K z ia ib; cases ia; cases ib; exact xor_int ⟨.tok K,.int _ _⟩
theorem Op2.lt {a b:Int}:Op2 C (compareOp .Lt) (.int a) (.int b) (.bool (decide (a < b))):=by
 intro Z A s va vb R K z ia ib; cases ia; cases ib; exact lt_int ⟨.refl K,.bool _⟩
theorem Op2.le {a b:Int}:Op2 C (compareOp .LtE) (.int a) (.int b) (.bool (decide (a <= b))):=by
 intro Z A s va vb R K z ia ib; cases ia; cases ib; exact le_int ⟨.refl K,.bool _⟩
theorem Op2.gt {a b:Int}:Op2 C (compareOp .Gt) (.int a) (.int b) (.bool (decide (b < a))):=by
 intro Z A s va vb R K z ia ib; cases ia; cases ib; exact gt_int ⟨.refl K,.bool _⟩
theorem Op2.ge {a b:Int}:Op2 C (compareOp .GtE) (.int a) (.int b) (.bool (decide (b <= a))):=by
 intro Z A s va vb R K z ia ib; cases ia; cases ib; exact ge_int ⟨.refl K,.bool _⟩
theorem Op2.addS {a b:Str} (h:a.length + b.length <= 16777216:=by size_fits):Op2 C (binaryOp .Add) (.str a) (.str b) (.str (a ++ b)):=by
 intro Z A s va vb R K z ia ib; cases ia; cases ib; exact add_str (fun t' tk=>⟨.tok K,.str _ _⟩) (by rw [sizeLine_eq]; exact h)
theorem Op2.mulS {a:Str} {n:Int} (h:MulOk a n):Op2 C (binaryOp .Mult) (.str a) (.int n) (.str (Txt.mul a n)):=by
 intro Z A s va vb R K z ia ib; cases ia; cases ib; exact SB.mul h fun t' tk=>⟨.tok K,.str _ _⟩
theorem Op2.inS {a b:Str}:Op2 C (compareOp .In) (.str b) (.str a) (.bool (!(Builtin.Str.occurrences a b 0 a.length 1).isEmpty)):=by
 intro Z A s va vb R K z ia ib; cases ia; cases ib; exact in_str ⟨.refl K,.bool _⟩
theorem Op2.addL {a b:List D} (h:a.length + b.length <= 1000000):Op2 C (binaryOp .Add) (.lst a) (.lst b) (.lst (a ++ b)):=by
 intro Z A s va vb R K z ia ib
 replace ia:=ia.iLst; obtain ⟨l,vs,hqq,h1,z1,i1⟩:=ia; cases hqq
 replace ib:=ib.iLst; obtain ⟨m,ws,hqq,h2,z2,i2⟩:=ib; cases hqq
 have l1:=i1.length
 have l2:=i2.length
 obtain ⟨n1,g1⟩:=h1
 obtain ⟨n2,g2⟩:=h2
 have x2:Ext C s { heap:=s.heap.push { cls:=.type "list",data:=.seq (vs ++ ws).toArray },gens:=s.gens,drawn:=s.drawn,toks:=s.toks,os:=s.os }:=Ext.push K
 refine concat_meets ⟨_,g1,rfl⟩ ⟨_,g2,rfl⟩ noFill_list_add seq_list_add PySem.F.slot_list_add PySem.F.entry_list_add (PySem.F.args_list_add_2 _ _) (AutoSeq1.list___add___list_list_0 l vs.toArray n1 m ws.toArray n2 (by rw [sizeLine_eq]; simp; omega)) ⟨g1,g2,?_⟩
 have e:vs.toArray ++ ws.toArray = (vs ++ ws).toArray:=by simp
 rw [e]
 exact ⟨x2,.lst _ (vs ++ ws) _ ⟨0,Heap.get?_push_size _ rfl⟩ z.new ((i1.append i2).ext x2 z.1)⟩
theorem foldl_rep {α:Type} (items:List α):∀ (n:Nat) (acc:Array α),(List.foldl (fun x1 x2=>x1 ++ x2) acc (List.replicate n items.toArray)) = acc ++ (List.replicate n items).flatten.toArray
 | 0,acc=>by simp
 | n + 1,acc=>by rw [List.replicate_succ,List.foldl_cons,foldl_rep items n,List.replicate_succ,List.flatten_cons]; simp
theorem IsDs.rep {Z:Addr -> Prop} {h:Heap} {vs:List Value} {ds:List D} (i:IsDs C Z h vs ds):∀ n,IsDs C Z h (List.replicate n vs).flatten (List.replicate n ds).flatten
 | 0=>.nil
 | n + 1=>by rw [List.replicate_succ,List.replicate_succ,List.flatten_cons,List.flatten_cons]; exact i.append (i.rep n)
theorem Op2.mulL {a:List D} {n:Int} (h:a.length * n.toNat <= 1000000) (hn:n < 1000000) (hn':-1000000 < n):Op2 C (binaryOp .Mult) (.lst a) (.int n) (.lst (List.replicate n.toNat a).flatten):=by
 intro Z A s va vb R K z ia ib
 replace ia:=ia.iLst; obtain ⟨l,vs,hqq,h1,z1,i1⟩:=ia; cases hqq
 replace ib:=ib.iInt; obtain ⟨u,hqq⟩:=ib; cases hqq
 have l1:=i1.length
 rw [<- l1] at h
 obtain ⟨n1,g1⟩:=h1
 have x2:Ext C s { heap:=s.heap.push { cls:=.type "list",data:=.seq (List.replicate n.toNat vs).flatten.toArray },gens:=s.gens,drawn:=s.drawn,toks:=s.toks,os:=s.os }:=Ext.push K
 have e:(List.foldl (fun x1 x2=>x1 ++ x2) #[] (List.replicate (if vs.toArray.isEmpty = true then 0 else n.toNat) vs.toArray)) = (List.replicate n.toNat vs).flatten.toArray:=by
  cases vs with
  | nil=>simp
  | cons v vs=>rw [if_neg (by simp),foldl_rep]; simp
 exact wpAny_binaryOp_repeat_ref (T:="list") (U:="int") (by decide) ⟨_,g1,rfl⟩ (fun s'=>typeIs_int s' n u) noFill_list_mul PySem.F.fills_int_mul PySem.F.slot_int_rmul repeat_list PySem.F.slot_int_index.lookup
  (call_meets PySem.F.slot_int_rmul (typeIs_int s n u) PySem.F.entry_int_rmul (PySem.F.args_int_rmul_2 _ _) (int___rmul___int_list n u l vs.toArray n1)
   ⟨g1,rfl,⟨_,g1,rfl⟩,call_meets PySem.F.slot_list_mul ⟨_,g1,rfl⟩ PySem.F.entry_list_mul (PySem.F.args_list_mul_2 _ _)
    (AutoListH.list___mul___list_int_3 l vs.toArray n1 n u (by simp [Builtin.List.listFitsIndex]; omega) (by simp; omega) (by simp [Builtin.List.listTooLong,sizeLine]; omega))
    ⟨g1,by
     rw [e]
     exact ⟨x2,.lst _ _ _ ⟨0,Heap.get?_push_size _ rfl⟩ z.new ((i1.rep n.toNat).ext x2 z.1)⟩⟩⟩)
theorem Tr1.int {a:Int}:Tr1 C truthy (.int a) (a != 0):=by
 intro Z A s va R K z i; cases i; exact truthy_int ⟨.refl K,rfl⟩
theorem Tr1.str {a:Str} (h:a.length <= 16777216:=by size_fits):Tr1 C truthy (.str a) ((a.length:Int) != 0):=by
 intro Z A s va R K z i; cases i; exact PySem.P.truthy_str (by omega) ⟨.tok K,rfl⟩
theorem Tr1.lst {a:List D} (h:a.length <= 1000000):Tr1 C truthy (.lst a) (!a.isEmpty):=by
 intro Z A s va R K z i
 replace i:=i.iLst; obtain ⟨l,vs,hqq,h1,z1,i1⟩:=i; cases hqq
 have l1:=i1.length
 refine wpAny_truthy_list h1.is (by simp; omega) ⟨.tok K,?_⟩
 cases a <;> cases vs <;> first | rfl | (simp at l1) | simp
end
end
section
noncomputable def PSpec (C:Cx) (k:Nat) (fv:Value) (ds:List D) (d:D):Prop :=
 ∀ Z A s vs,Room k A -> OK C s -> ZOk C Z s -> IsDs C Z s.heap vs ds -> wpAny C.M A (call fv vs []) (fun v s'=>Ext C s s' /\ IsD C Z s'.heap v d) nf s
noncomputable def EvV (C:Cx) (k:Nat) (env:Env) (σ:Vars) (e:Expr) (v:Value):Prop :=
 ∀ B U O A s,Room k A -> SimO C B U O env σ s -> wpAny C.M A (eval e env) (fun v' s'=>Ext C s s' /\ v' = v) nf s
noncomputable def Kp (C:Cx) (fv:Value):Prop :=
 ∃ P:Heap -> Prop,(∀ s,OK C s -> P s.heap) /\ ∀ h,P h -> ∃ k,(k = Keeper.frame \/ k = Keeper.machine \/ k = Keeper.boundFrame) /\ Looks C.M h (keeperOf fv) k
noncomputable def IsGlob (sc:Scope) (x:Str):Prop:=sc.names.lookup x = some .globalImplicit
theorem PSpec.le {C:Cx} {k k':Nat} {fv:Value} {ds:List D} {d:D} (h:PSpec C k fv ds d) (l:k <= k'):PSpec C k' fv ds d:=fun Z A s vs R=>h Z A s vs (R.le l)
section
variable {C:Cx} {env:Env} {σ:Vars} {k:Nat}
variable {B:Base} {U:Addr -> Prop} {O:Own} {s:Shared}
theorem Kp.builtin {id:String}:Kp C (.builtin id):=⟨fun _=>True,fun _ _=>trivial,fun h _=>⟨.machine,.inr (.inl rfl),.of_pure rfl⟩⟩
theorem Kp.type {id:String}:Kp C (.type id):=⟨fun _=>True,fun _ _=>trivial,fun h _=>⟨.machine,.inr (.inl rfl),.of_pure rfl⟩⟩
theorem Kp.fn {a:Addr} {o:Obj} {fd:FuncData} (h:C.h0.get? a = some o) (hd:o.data = .func fd):Kp C (.ref a) :=
 ⟨FnAt a,fun s K=>⟨_,_,fd,_,(K.keep _ _ h).trans (by rw [<- hd])⟩,fun h X=>keeps_F h X⟩
theorem EvV.glob {x:Str} {pos:Pos} {v:Value} (hk:IsGlob env.scope x) (hm:C.mg x = some v) (hb:(x == ("__debug__":Str)) = false):EvV C k env σ (.Name x pos) v:=by
 intro B U O A s R S
 exact Name_function_global S.ev.kind hk (loadGlobal_global (env:=env) (by rw [S.ev.glob]; exact S.ok.good.g.keeps S.ok.keep) hm ⟨.refl S.ok,rfl⟩) hb
theorem EvV.bltn {x:Str} {pos:Pos} {v:Value} (hk:IsGlob env.scope x) (hm:C.mg x = none) (hv:bootBuiltins x = some v) (hn:x ≠ "__name__") (hb:(x == ("__debug__":Str)) = false):EvV C k env σ (.Name x pos) v:=by
 intro B U O A s R S
 exact Name_function_global S.ev.kind hk (loadGlobal_builtin (env:=env) (by rw [S.ev.glob]; exact S.ok.good.g.keeps S.ok.keep) hm (by rw [S.ev.blt]; exact S.ok.good.b.keeps S.ok.keep) ((S.ok.good.bl x hn).trans hv) ⟨.refl S.ok,rfl⟩) hb
theorem EvL.args {f:Value}:∀ {es:List Expr} {ds:List D} (pos:Pos),EvL C k env σ es ds -> ∀ {A:Around} {s:Shared},Room k A -> SimO C B U O env σ s ->
  wpAny C.M A (evalArgs f true (backTo pos (starEach es env)) []) (fun a s'=>Ext C s s' /\ a.kw = [] /\ IsDs C (Zf U O) s'.heap a.pos ds) nf s
 | [],[],_,_,A,s,R,S=>evalArgs_nil3 ⟨.refl S.ok,rfl,.nil⟩
 | e :: es,d :: ds,pos,h,A,s,R,S=>by
  have q:=h.spliced pos R S
  obtain ⟨⟨h1,h2⟩,h3⟩:=h
  rw [star_cons h2] at q ⊢
  exact evalArgs_plain (wpT q fun vs s₁ hY17=>⟨hY17.1,rfl,hY17.2⟩)
theorem callWith_D {fv:Value} {first:List Value} {fds:List D} {es:List Expr} {ds:List D} {d:D} {pos:Pos} {A:Around} (hk:Kp C fv) (ha:EvL C k env σ es ds) (hs:PSpec C k fv (fds ++ ds) d) (R:Room k A) (S:SimO C B U O env σ s)
  (hf:IsDs C (Zf U O) s.heap first fds):wpAny C.M A (callWith pos fv first (backTo pos (starEach es env)) []) (fun v s'=>Ext C s s' /\ IsD C (Zf U O) s'.heap v d) nf s:=by
 obtain ⟨P,P1,P2⟩:=hk
 refine callWith_of (P:=P) (by rw [ha.noStar pos]; rfl) P2 (wpT (ha.args pos R S) fun a s₁ hZ2=>?_); obtain ⟨x1,hkw,i1⟩:=hZ2
 have S1:=S.ext x1
 refine ⟨P1 _ S1.ok,?_⟩
 rw [hkw]
 exact wpT (hs _ A s₁ (first ++ a.pos) R S1.ok S1.zok ((hf.ext x1 S.zt).append i1)) fun v s₂ hY19=>⟨x1.trans hY19.1,hY19.2⟩
theorem Ev.call {f:Str} {fp pos:Pos} {es:List Expr} {ds:List D} {d:D} {fv:Value} (hf:EvV C k env σ (.Name f fp) fv) (hk:Kp C fv) (ha:EvL C k env σ es ds) (hs:PSpec C k fv ds d) :
  Ev C k env σ (.Call (.Name f fp) es [] pos) d:=by
 intro B U O A s R S
 show wpAny _ _ (do callWith pos (<- eval (.Name f fp) env) [] (backTo pos (starEach es env)) []) _ _ _
 refine wpAny_bind (wpT (hf B U O A s R S) fun v s₁ hZ2=>?_); obtain ⟨x1,e1⟩:=hZ2
 subst e1
 exact wpT (callWith_D (first:=[]) (fds:=[]) hk ha hs R (S.ext x1) .nil) fun v s₂ hY21=>⟨x1.trans hY21.1,hY21.2⟩
noncomputable def MethOf (C:Cx) (d:D) (name:Str) (id:String):Prop :=
 ∀ Z A s v pl,OK C s -> IsD C Z s.heap v d -> wpAny C.M A (getMethod v name pl) (fun fx s'=>fx = (.builtin id,[v]) /\ s' = s) nf s
noncomputable def MethR (C:Cx) (d:D) (name:Str) (fv:Value):Prop :=
 ∀ Z A s v pl,OK C s -> IsD C Z s.heap v d -> wpAny C.M A (getMethod v name pl) (fun fx s'=>fx = (fv,[v]) /\ Ext C s s') nf s
theorem Ev.methR {o:Expr} {name:Str} {ap pos:Pos} {es:List Expr} {d0:D} {ds:List D} {d:D} {fv:Value} {pl:Sem Bool} (ho:Ev C k env σ o d0) (hm:MethR C d0 name fv) (hk:Kp C fv) (ha:EvL C k env σ es ds) (hs:PSpec C k fv (d0 :: ds) d)
  (he:eval (.Call (.Attribute o name ap) es [] pos) env = (do
   let ov <- eval o env
   standAt ap.atName
   let (f,first) <- holding [ov] (getMethod ov name pl)
   callWith pos f first (backTo pos (starEach es env)) []):=by with_unfolding_all rfl) :
  Ev C k env σ (.Call (.Attribute o name ap) es [] pos) d:=by
 intro B U O A s R S
 refine MethodCall_ (pl:=pl) (wpT (ho B U O A s R S) fun v s₁ hZ2=>?_) he; obtain ⟨x1,i1⟩:=hZ2
 have S1:=S.ext x1
 refine wpT (hm _ A s₁ v pl S1.ok i1) fun fx s₂ hZ2=>?_; obtain ⟨e1,x2⟩:=hZ2
 subst e1
 exact wpT (callWith_D (fds:=[d0]) hk ha hs R (S1.ext x2) (.cons (i1.ext x2 S1.zt) .nil)) fun v s₂ hY24=>⟨(x1.trans x2).trans hY24.1,hY24.2⟩
theorem Ev.meth {o:Expr} {name:Str} {ap pos:Pos} {es:List Expr} {d0:D} {ds:List D} {d:D} {id:String} {pl:Sem Bool} (ho:Ev C k env σ o d0) (hm:MethOf C d0 name id) (ha:EvL C k env σ es ds) (hs:PSpec C k (.builtin id) (d0 :: ds) d)
  (he:eval (.Call (.Attribute o name ap) es [] pos) env = (do
   let ov <- eval o env
   standAt ap.atName
   let (f,first) <- holding [ov] (getMethod ov name pl)
   callWith pos f first (backTo pos (starEach es env)) []):=by with_unfolding_all rfl) :
  Ev C k env σ (.Call (.Attribute o name ap) es [] pos) d:=by
 intro B U O A s R S
 refine MethodCall_ (pl:=pl) (wpT (ho B U O A s R S) fun v s₁ hZ2=>?_) he; obtain ⟨x1,i1⟩:=hZ2
 have S1:=S.ext x1
 refine wpT (hm _ A s₁ v pl S1.ok i1) fun fx s₂ hZ2=>?_; obtain ⟨e1,e2⟩:=hZ2
 subst e1 e2
 exact wpT (callWith_D (fds:=[d0]) Kp.builtin ha hs R S1 (.cons i1 .nil)) fun v s₂ hY27=>⟨x1.trans hY27.1,hY27.2⟩
theorem MethOf.str {x:Str} {name:Str} {id:String} (slot:Slot "str" name id) (hty:typeOf (.builtin id) = pure (.type "method_descriptor")):MethOf C (.str x) name id:=by
 intro Z A s v pl K i
 cases i
 exact getMethod_builtin (typeIs_str s x _) PySem.F.plainAttrs_str slot hty (fun a e=>nomatch e) ⟨rfl,rfl⟩
theorem MethOf.int {x:Int} {name:Str} {id:String} (slot:Slot "int" name id) (hty:typeOf (.builtin id) = pure (.type "method_descriptor")):MethOf C (.int x) name id:=by
 intro Z A s v pl K i
 cases i
 exact getMethod_builtin (typeIs_int s x _) PySem.F.plainAttrs_int slot hty (fun a e=>nomatch e) ⟨rfl,rfl⟩
theorem MethOf.lst {l:List D} {name:Str} {id:String} (slot:Slot "list" name id) (hty:typeOf (.builtin id) = pure (.type "method_descriptor")):MethOf C (.lst l) name id:=by
 intro Z A s v pl K i
 replace i:=i.iLst; obtain ⟨a,vs,hqq,h1,z1,i1⟩:=i; cases hqq
 obtain ⟨n,e⟩:=h1
 exact getMethod_builtin ⟨_,e,rfl⟩ PySem.F.plainAttrs_list slot hty (fun b q=>by cases q; exact ⟨_,e,rfl⟩) ⟨rfl,rfl⟩
theorem Ev.sub {e i:Expr} {pos:Pos} {a b d:D} (h1:Ev C k env σ e a) (h2:Ev C k env σ i b)
  (h:∀ Z A s va vb,Room 0 A -> OK C s -> ZOk C Z s -> IsD C Z s.heap va a -> IsD C Z s.heap vb b -> wpAny C.M A (subscriptTail e i va vb) (fun v s'=>Ext C s s' /\ IsD C Z s'.heap v d) nf s) :
  Ev C k env σ (.Subscript e i pos) d:=by
 intro B U O A s R S
 refine Subscript_ (wpT (h1 B U O A s R S) fun va s₁ ⟨e1,i1⟩=>wpT (h2 B U O A s₁ R (S.ext e1)) fun vb s₂ hZ2=>?_); obtain ⟨e2,i2⟩:=hZ2
 have S2:=(S.ext e1).ext e2
 exact wpT (h _ A s₂ va vb R.zero S2.ok S2.zok (i1.ext e2 S.zt) i2) fun v s₃ hY29=>⟨(e1.trans e2).trans hY29.1,hY29.2⟩
end
end
section
inductive Fl where
 | next | brk | cont
 | ret (d:D)
noncomputable def FlR (C:Cx) (Z:Addr -> Prop) (h:Heap):Flow -> Fl -> Prop
 | .next,.next=>True
 | .brk,.brk=>True
 | .cont,.cont=>True
 | .ret v,.ret d=>IsD C Z h v d
 | _,_=>False
noncomputable def Post (C:Cx) (B:Base) (U:Addr -> Prop) (env:Env) (Q:Fl -> Vars -> Prop) (f:Flow) (s':Shared):Prop :=
 ∃ O' σ' fl,SimO C B U O' env σ' s' /\ FlR C (Zf U O') s'.heap f fl /\ Q fl σ'
noncomputable def ExG (C:Cx) (k:Nat) (env:Env) (σ:Vars) (t:Sem Flow) (Q:Fl -> Vars -> Prop):Prop :=
 ∀ B U A s,Room k A -> (∃ O,SimO C B U O env σ s) -> wpAny C.M A t (Post C B U env Q) nf s
noncomputable abbrev Ex (C:Cx) (k:Nat) (env:Env) (σ:Vars) (ss:List Stmt) (Q:Fl -> Vars -> Prop):Prop:=ExG C k env σ (execs ss env) Q
noncomputable abbrev ExS (C:Cx) (k:Nat) (env:Env) (σ:Vars) (st:Stmt) (Q:Fl -> Vars -> Prop):Prop:=ExG C k env σ (exec st env) Q
noncomputable def AV.sto:NameKind -> AV -> Bool
 | .local,.sd _=>false
 | .local,_=>true
 | .cell,.emp=>true
 | .cell,.d _=>true
 | .cell,.own _=>true
 | _,_=>false
noncomputable def IsSto (sc:Scope) (σ:Vars) (x:Str) (i:Nat):Prop:=∃ k av,sc.names[i]? = some (x,k) /\ σ[i]? = some av /\ av.sto k = true
section
variable {C:Cx} {env:Env} {σ σ':Vars} {k:Nat}
variable {B:Base} {U:Addr -> Prop} {O O':Own} {s:Shared} {h':Heap}
theorem OK.but {a:Addr} {oa:Obj} {tk:Nat} {dr:Drawn} (K:OK C s) (h0:C.h0.get? a = none) (hT:a ∉ C.T) (ha:s.heap.get? a = some oa) (hnf:∀ vs,oa.data ≠ .fields vs)
  (hk:∀ b o,b ≠ a -> s.heap.get? b = some o -> h'.get? b = some o):OK C { heap:=h',gens:=s.gens,drawn:=dr,toks:=tk,os:=s.os }:=by
 refine ⟨K.good,fun b o e=>hk b o (fun q=>by rw [q,h0] at e; cases e) (K.keep b o e),fun P hP=>?_,K.gens,K.os⟩
 obtain ⟨ps,h1,h2,h3⟩:=K.tab P hP
 refine ⟨ps,hk _ _ (fun q=>hT (q ▸ hP)) h1,h2,fun pos cv e=>?_⟩
 obtain ⟨c,e1,e2,e3⟩:=h3 pos cv e
 exact ⟨c,e1,e2,e3.keepsBut hk ha hnf⟩
theorem SimO.change (S:SimO C B U O env σ s) {a:Addr} {oa:Obj} {tk:Nat} {dr:Drawn} (hO:O a ≠ none) (ha:s.heap.get? a = some oa) (hnf:∀ vs,oa.data ≠ .fields vs)
  (hk:∀ b o,b ≠ a -> s.heap.get? b = some o -> h'.get? b = some o) (hex:∃ o,h'.get? a = some o)
  (hv:∃ m,h'.Ns env.locals m /\ ∀ i x k av,env.scope.names[i]? = some (x,k) -> σ'[i]? = some av -> VarOk C B U O env m h' i x k av) :
  SimO C B U O env σ' { heap:=h',gens:=s.gens,drawn:=dr,toks:=tk,os:=s.os } :=
 ⟨S.ok.but (S.oh a hO) (S.nT hO) ha hnf hk,S.ev,S.tu,S.bt,fun b o e=>hk b o (fun q=>by rw [q,(S.ob a hO).1] at e; cases e) (S.keepB b o e),
  fun b hb=>by
   by_cases q:b = a
   ·rw [q]; exact hex
   ·obtain ⟨o,g⟩:=S.lt b hb; exact ⟨o,hk b o q g⟩,S.ob,S.oh,S.hL,hv⟩
theorem SimO.store_av (S:SimO C B U O env σ s) {x:Str} {i:Nat} {v:Value} {av:AV} (hx:IsSto env.scope σ x i)
  {A:Around} {Q:Unit -> Shared -> Prop}
  (hav:∀ m h',(∀ b o,¬ Zf U O b -> s.heap.get? b = some o -> h'.get? b = some o) -> (∀ b j,O b = some (.own j) -> ∀ o,s.heap.get? b = some o -> h'.get? b = some o) -> ∀ k,HoldsO env m h' O i x k v -> VarOk C B U O env m h' i x k av)
  (hQ:∀ s',SimO C B U O env (σ.set i av) s' -> Kb O s s' -> Q () s'):wpAny C.M A (storeName env x v) Q nf s:=by
 obtain ⟨k,av0,e1,e2,e3⟩:=hx
 have hlook:=lookup_of_get S.ev.nodup e1
 obtain ⟨m,hm,hv⟩:=S.vars
 have hi:i < σ.length:=(List.getElem?_eq_some_iff.mp e2).1
 cases k with
 | «local» =>
  refine wpAny_storeName_local hlook hm (fun h' hn hs=>?_) (by rw [S.ev.kind]; rfl)
  obtain ⟨oL,es,ep,gL,dL,r⟩:=id hm
  have hk:∀ b o,b ≠ env.locals -> s.heap.get? b = some o -> h'.get? b = some o:=fun b o n e=>(hs.2 b n).trans e
  have kd:∀ b o,¬ Zf U O b -> s.heap.get? b = some o -> h'.get? b = some o:=fun b o n g=>hk b o (fun q=>n (.inr (by rw [q,S.hL]; simp))) g
  have kw:∀ b j,O b = some (.own j) -> ∀ o,s.heap.get? b = some o -> h'.get? b = some o:=fun b j hc o g=>hk b o (fun q=>by rw [q,S.hL] at hc; cases hc) g
  refine hQ _ ?_ (fun b o n g=>hk b o (fun q=>by rw [q,S.hL] at n; cases n) g)
  refine S.change (nnS S.hL) gL (fun vs q=>by rw [dL] at q; cases q) hk (let ⟨o,_,_,e,_⟩:=hn; ⟨o,e⟩) ⟨_,hn,fun j y k' av' g1 g2=>?_⟩
  by_cases hj:j = i
  ·subst hj
   rw [List.getElem?_set_self hi] at g2
   cases g2
   rw [e1] at g1
   cases g1
   exact hav _ _ kd kw _ (.inl ⟨rfl,by simp⟩)
  ·rw [List.getElem?_set_ne (Ne.symm hj)] at g2
   refine (hv j y k' av' g1 g2).step (fun _=>?_) (fun c hc=>⟨hc,fun o g=>hk c o (fun q=>by rw [q,S.hL] at hc; cases hc) g⟩) (fun c hc=>⟨hc,kw c j hc⟩) (fun c hc=>⟨hc,fun o g=>hk c o (fun q=>by rw [q,S.hL] at hc; cases hc) g⟩) fun b o n g=>⟨kd b o n g,n⟩
   have hne:y ≠ x:=fun q=>hj (IsVar.inj S.ev g1 e1 q)
   simp [hne]
 | cell =>
  have hkind:env.kindOf x = some .cell:=hlook
  have old:=hv i x _ av0 e1 e2
  have key:∃ c w,env.cells.lookup x = some c /\ O c = some (.cell i) /\ s.heap.IsCell c w:=by
   cases av0 with
   | no=>cases e3
   | sd d=>cases e3
   | emp=>exact old.2
   | d d =>
    obtain ⟨w,r,_⟩:=old
    rcases r with ⟨q,_⟩ | ⟨_,c,c1,c2,c3⟩
    ·cases q
    exact ⟨c,_,c1,c2,c3⟩
   | own l =>
    obtain ⟨a,vs,r,_⟩:=old
    rcases r with ⟨q,_⟩ | ⟨_,c,c1,c2,c3⟩
    ·cases q
    exact ⟨c,_,c1,c2,c3⟩
   | val u=>cases e3
   | lex L st=>cases e3
  obtain ⟨c,w,c1,c2,c3⟩:=key
  refine wpAny_storeName_cell S.ev.kind hkind c1 c3 fun h' hc' hs=>?_
  obtain ⟨oc,gc,dc⟩:=id c3
  have hk:∀ b o,b ≠ c -> s.heap.get? b = some o -> h'.get? b = some o:=fun b o n e=>(hs.2 b n).trans e
  have kd:∀ b o,¬ Zf U O b -> s.heap.get? b = some o -> h'.get? b = some o:=fun b o n g=>hk b o (fun q=>n (.inr (by rw [q,c2]; simp))) g
  have kw:∀ b j,O b = some (.own j) -> ∀ o,s.heap.get? b = some o -> h'.get? b = some o:=fun b j hc o g=>hk b o (fun q=>by rw [q,c2] at hc; cases hc) g
  have hLc:env.locals ≠ c:=fun q=>by have:=S.hL; rw [q,c2] at this; cases this
  refine hQ _ ?_ (fun b o n g=>hk b o (fun q=>by rw [q,c2] at n; cases n) g)
  refine S.change (nnS c2) gc (fun vs q=>by rw [dc] at q; cases q) hk (let ⟨o,e,_⟩:=hc'; ⟨o,e⟩) ⟨m,hm.sameBut hs hLc,fun j y k' av' g1 g2=>?_⟩
  by_cases hj:j = i
  ·subst hj
   rw [List.getElem?_set_self hi] at g2
   cases g2
   rw [e1] at g1
   cases g1
   exact hav _ _ kd kw _ (.inr ⟨rfl,c,c1,c2,hc'⟩)
  ·rw [List.getElem?_set_ne (Ne.symm hj)] at g2
   exact (hv j y k' av' g1 g2).step (fun _=>rfl) (fun c' hc2=>⟨hc2,fun o g=>hk c' o (fun q=>by rw [q,c2] at hc2; cases hc2; exact hj rfl) g⟩) (fun c' hc2=>⟨hc2,kw c' j hc2⟩) (fun c' hc2=>⟨hc2,fun o g=>hk c' o (fun q=>by rw [q,c2] at hc2; cases hc2) g⟩) fun b o n g=>⟨kd b o n g,n⟩
 | _=>cases e3
theorem SimO.store (S:SimO C B U O env σ s) {x:Str} {i:Nat} {v:Value} {d:D} (hx:IsSto env.scope σ x i) (hd:IsD C (Zf U O) s.heap v d)
  {A:Around} {Q:Unit -> Shared -> Prop} (hQ:∀ s',SimO C B U O env (σ.set i (.d d)) s' -> Kb O s s' -> Q () s'):wpAny C.M A (storeName env x v) Q nf s :=
 S.store_av (av:=.d d) hx (fun m h' kd kw k hh=>⟨v,hh,hd.mono kd fun b o n g=>n⟩) hQ
end
end
section
section
variable {C:Cx} {env:Env} {σ σ':Vars} {k:Nat}
variable {B:Base} {U:Addr -> Prop} {O O':Own} {s:Shared} {h':Heap}
theorem ExG.mono {t:Sem Flow} {Q Q':Fl -> Vars -> Prop} (h:ExG C k env σ t Q) (f:∀ fl σ',Q fl σ' -> Q' fl σ'):ExG C k env σ t Q' :=
 fun B U A s R S=>wpT (h B U A s R S) fun v s' ⟨O',σ',fl,a,b,c⟩=>⟨O',σ',fl,a,b,f _ _ c⟩
theorem Ex.nil {Q:Fl -> Vars -> Prop} (h:Q .next σ):Ex C k env σ [] Q :=
 fun B U A s R ⟨O,S⟩=>wpAny_execs_nil ⟨O,σ,.next,S,trivial,h⟩
theorem Ex.cons {st:Stmt} {ss:List Stmt} {Q:Fl -> Vars -> Prop} (h:ExS C k env σ st fun fl σ'=>match fl with | .next=>Ex C k env σ' ss Q | fl=>Q fl σ'):Ex C k env σ (st :: ss) Q:=by
 intro B U A s R S
 refine wpAny_execs_cons (wpT (h B U A s R S) fun f s' hZ2=>?_); obtain ⟨O',σ',fl,S',hf,q⟩:=hZ2
 cases f <;> cases fl <;> first
  | exact q B U A s' R ⟨O',S'⟩
  | exact hf.elim
  | exact ⟨O',σ',_,S',hf,q⟩
theorem ExS.assign {x:Str} {i:Nat} {px pos:Pos} {e:Expr} {d:D} {Q:Fl -> Vars -> Prop} (he:Ev C k env σ e d) (hx:IsSto env.scope σ x i) (hQ:Q .next (σ.set i (.d d)))
  (hs:swapsWith e (some (.Name x px)) pos.line env = pure false:=by with_unfolding_all rfl):ExS C k env σ (.Assign [.Name x px] e pos) Q:=by
 intro B U A s R ⟨O,S⟩
 refine wpAny_Assign_Name (wpT (he B U O A s R S) fun v s₁ hY31=>(S.ext hY31.1).store hx hY31.2 fun s₂ S₂ _=>⟨O,_,.next,S₂,trivial,hQ⟩) hs
theorem ExS.ret {e:Expr} {pos:Pos} {d:D} {Q:Fl -> Vars -> Prop} (he:Ev C k env σ e d) (hQ:Q (.ret d) σ):ExS C k env σ (.Return (some e) pos) Q :=
 fun B U A s R ⟨O,S⟩=>wpAny_Return_some (wpT (he B U O A s R S) fun v s₁ hY32=>⟨O,σ,.ret d,S.ext hY32.1,hY32.2,hQ⟩)
theorem ExS.if_ {c:Expr} {a b:List Stmt} {pos:Pos} {t:Bool} {Q:Fl -> Vars -> Prop} (hc:Te C k env σ c t) (ha:t = true -> Ex C k env σ a Q) (hb:t = false -> Ex C k env σ b Q):ExS C k env σ (.If c a b pos) Q:=by
 intro B U A s R ⟨O,S⟩
 refine wpAny_If (wpT (hc B U O A s R S) fun x s₁ hZ2=>?_); obtain ⟨x1,e1⟩:=hZ2
 subst e1
 cases x with
 | true=>exact ha rfl B U A s₁ R ⟨O,S.ext x1⟩
 | false=>exact hb rfl B U A s₁ R ⟨O,S.ext x1⟩
theorem ExS.assert_ {c:Expr} {pos:Pos} {Q:Fl -> Vars -> Prop} (hc:Te C k env σ c true) (hQ:Q .next σ):ExS C k env σ (.Assert c none pos) Q:=by
 intro B U A s R ⟨O,S⟩
 refine wpAny_Assert_new R.hd (wpT (hc B U O A s R S) fun x s₁ hZ2=>?_); obtain ⟨x1,e1⟩:=hZ2
 subst e1
 exact ⟨O,σ,.next,S.ext x1,trivial,hQ⟩
theorem ExS.brk {pos:Pos} {Q:Fl -> Vars -> Prop} (hQ:Q .brk σ):ExS C k env σ (.Break pos) Q :=
 fun B U A s R ⟨O,S⟩=>show wpAny _ _ (do standAt pos; pure Flow.brk) _ _ _ from wpAny_bind (wpAny_standAt (wpAny_pure ⟨O,σ,.brk,S,trivial,hQ⟩))
theorem SimO.loadName (S:SimO C B U O env σ s) {x:Str} {i:Nat} {d:D} {A:Around} (hx:IsVar env.scope x i) (hs:σ[i]? = some (.d d)) :
  wpAny C.M A (loadName env x) (fun v s'=>Ext C s s' /\ IsD C (Zf U O) s'.heap v d) nf s:=by
 obtain ⟨k,e1,e2⟩:=hx.kind S.ev
 obtain ⟨m,hm,hv⟩:=S.vars
 obtain ⟨v,h1,h2⟩:=hv i x k _ e1 hs
 rcases h1 with ⟨rfl,q⟩ | ⟨rfl,c,c1,c2,c3⟩
 ·exact wpAny_loadName_local S.ev.kind e2 hm q ⟨.refl S.ok,h2⟩
 ·exact wpAny_loadName_cell S.ev.kind e2 c1 c3 ⟨.refl S.ok,h2⟩
theorem ExS.aug {x:Str} {i:Nat} {px pos:Pos} {op:Operator} {e:Expr} {a b d:D} {Q:Fl -> Vars -> Prop} (hv:IsVar env.scope x i) (ha:σ[i]? = some (.d a)) (he:Ev C k env σ e b) (ho:Op2 C (inplaceOp op) a b d)
  (hx:IsSto env.scope σ x i) (hQ:Q .next (σ.set i (.d d))):ExS C k env σ (.AugAssign (.Name x px) op e pos) Q:=by
 intro B U A s R ⟨O,S⟩
 refine wpAny_AugAssign_Name (wpT (S.loadName hv ha) fun va s₁ ⟨x1,i1⟩=>wpT (he B U O A s₁ R (S.ext x1)) fun vb s₂ hZ2=>?_); obtain ⟨x2,i2⟩:=hZ2
 have S2:=(S.ext x1).ext x2
 refine wpT (ho _ A s₂ va vb R.zero S2.ok S2.zok (i1.ext x2 S.zt) i2) fun v s₃ hZ2=>?_; obtain ⟨x3,i3⟩:=hZ2
 exact (S2.ext x3).store hx i3 fun s₄ S₄ _=>⟨O,_,.next,S₄,trivial,hQ⟩
theorem Op2.iadd {a b:Int}:Op2 C (inplaceOp .Add) (.int a) (.int b) (.int (a + b)):=by
 intro Z A s va vb R K z ia ib; cases ia; cases ib; exact iadd_int ⟨.tok K,.int _ _⟩
theorem Op2.isub {a b:Int}:Op2 C (inplaceOp .Sub) (.int a) (.int b) (.int (a - b)):=by
 intro Z A s va vb R K z ia ib; cases ia; cases ib; exact AutoIntOps.isub_0 (show _ from ⟨.tok K,.int _ _⟩)
theorem SimO.assignName (S:SimO C B U O env σ s) {x:Str} {i:Nat} {px:Pos} {v:Value} {d:D} (hx:IsSto env.scope σ x i) (hd:IsD C (Zf U O) s.heap v d)
  {A:Around} {Q:Unit -> Shared -> Prop} (hQ:∀ s',SimO C B U O env (σ.set i (.d d)) s' -> Kb O s s' -> Q () s'):wpAny C.M A (assign (.Name x px) env v) Q nf s :=
 assign_Name (S.store hx hd hQ)
theorem ExS.multi3 {x y z:Str} {i j l:Nat} {p1 p2 p3 pos:Pos} {e:Expr} {d:D} {Q:Fl -> Vars -> Prop} (he:Ev C k env σ e d) (hx:IsSto env.scope σ x i) (hy:IsSto env.scope (σ.set i (.d d)) y j) (hz:IsSto env.scope ((σ.set i (.d d)).set j (.d d)) z l)
  (hQ:Q .next (((σ.set i (.d d)).set j (.d d)).set l (.d d))) (hw:swappedStores [.Name x p1,.Name y p2,.Name z p3] e env = pure none:=by with_unfolding_all rfl) :
  ExS C k env σ (.Assign [.Name x p1,.Name y p2,.Name z p3] e pos) Q:=by
 intro B U A s R ⟨O,S⟩
 refine wpAny_Assign_three (wpT (he B U O A s R S) fun v s₁ ⟨x1,i1⟩=>(S.ext x1).assignName hx i1 fun s₂ S₂ k2=>?_) rfl hw
 have i2:IsD C (Zf U O) s₂.heap v d:=i1.kb k2
 refine S₂.assignName hy i2 fun s₃ S₃ k3=>S₃.assignName hz (i2.kb k3) fun s₄ S₄ _=>⟨O,_,.next,S₄,trivial,hQ⟩
theorem SimO.pair (S:SimO C B U O env σ s) {x y:Str} {i j n:Nat} {p1 p2 tp:Pos} {v:Value} {a b:D} {A:Around} (R:Room k A) (hd:IsD C (Zf U O) s.heap v (.tup [a,b])) (hx:IsSto env.scope σ x i) (hy:IsSto env.scope (σ.set i (.d a)) y j)
  {Q:Unit -> Shared -> Prop} (hQ:∀ s',SimO C B U O env ((σ.set i (.d a)).set j (.d b)) s' -> Kb O s s' -> Q () s') :
  wpAny C.M A (assign (.Tuple [.Name x p1,.Name y p2] n tp) env v) Q nf s:=by
 replace hd:=hd.iTup; obtain ⟨t,vs,hqq,h1,z1,i1⟩:=hd; cases hqq
 replace i1:=i1.iCons; obtain ⟨_,_,hqq,ia,i1⟩:=i1; cases hqq
 replace i1:=i1.iCons; obtain ⟨_,_,hqq,ib,i1⟩:=i1; cases hqq
 cases i1.iNil
 rename_i va vb
 refine wpAny_assign_Tuple R.hd h1.is rfl rfl fun h' hx'=>?_
 have x2:Ext C s { heap:=h',gens:=s.gens,drawn:=s.drawn,toks:=s.toks,os:=s.os }:=.of_keeps S.ok fun b o e=>hx' b o (Nat.ne_of_lt (Heap.lt_size e)) e
 have kk:∀ b o,O b = none -> s.heap.get? b = some o -> h'.get? b = some o:=fun b o _ e=>hx' b o (Nat.ne_of_lt (Heap.lt_size e)) e
 show wpAny _ _ (do holding [vb] (assign (.Name x p1) env va); assignInOrder [assign (.Name y p2) env] [vb]) _ _ _
 refine wpAny_bind (wpAny_holding ((S.ext x2).assignName hx (ia.ext x2 S.zt) fun s₂ S₂ k2=>?_))
 show wpAny _ _ (do holding [] (assign (.Name y p2) env vb); pure ()) _ _ _
 exact wpAny_bind (wpAny_holding (S₂.assignName hy ((ib.ext x2 S.zt).kb k2) fun s₃ S₃ k3=>wpAny_pure (hQ _ S₃ fun b o n e=>k3 b o n (k2 b o n (kk b o n e)))))
theorem ExS.tup2 {x y:Str} {i j n:Nat} {p1 p2 tp pos:Pos} {e:Expr} {a b:D} {Q:Fl -> Vars -> Prop} (he:Ev C k env σ e (.tup [a,b])) (hx:IsSto env.scope σ x i) (hy:IsSto env.scope (σ.set i (.d a)) y j)
  (hQ:Q .next ((σ.set i (.d a)).set j (.d b)))
  (hs:swapsWithSole [.Tuple [.Name x p1,.Name y p2] n tp] e pos.line env = pure false:=by with_unfolding_all rfl)
  (hw:swappedStores [.Tuple [.Name x p1,.Name y p2] n tp] e env = pure none:=by with_unfolding_all rfl):ExS C k env σ (.Assign [.Tuple [.Name x p1,.Name y p2] n tp] e pos) Q:=by
 intro B U A s R ⟨O,S⟩
 exact Assign_Tuple (wpT (he B U O A s R S) fun v s₁ hY37=>(S.ext hY37.1).pair R hY37.2 hx hy fun s₂ S₂ _=>⟨O,_,.next,S₂,trivial,hQ⟩) hs hw
theorem ExS.swap2 {x y:Str} {i j n:Nat} {p1 p2 tp pos:Pos} {e:Expr} {a b:D} {Q:Fl -> Vars -> Prop} (he:Ev C k env σ e (.tup [a,b])) (hy:IsSto env.scope σ y j) (hx:IsSto env.scope (σ.set j (.d b)) x i)
  (hQ:Q .next ((σ.set j (.d b)).set i (.d a)))
  (hs:swapsWithSole [.Tuple [.Name x p1,.Name y p2] n tp] e pos.line env = pure false:=by with_unfolding_all rfl)
  (hw:swappedStores [.Tuple [.Name x p1,.Name y p2] n tp] e env = pure (some [x,y]):=by with_unfolding_all rfl):ExS C k env σ (.Assign [.Tuple [.Name x p1,.Name y p2] n tp] e pos) Q:=by
 intro B U A s R ⟨O,S⟩
 refine Assign_Tuple_swapped (wpT (he B U O A s R S) fun v s₁ hZ2=>?_) hs hw; obtain ⟨x1,i1⟩:=hZ2
 have S1:=S.ext x1
 replace i1:=i1.iTup; obtain ⟨t,vs,hqq,h1,z1,i1⟩:=i1; cases hqq
 replace i1:=i1.iCons; obtain ⟨_,_,hqq,ia,i1⟩:=i1; cases hqq
 replace i1:=i1.iCons; obtain ⟨_,_,hqq,ib,i1⟩:=i1; cases hqq
 cases i1.iNil
 rename_i va vb
 show wpAny _ _ (unpackItems (.ref t) ([va,vb]:List Value).toArray.size none) _ _ _
 refine wpAny_unpackItems_tuple R.hd h1.is fun h' hx'=>?_
 have x2:Ext C s₁ { heap:=h',gens:=s₁.gens,drawn:=s₁.drawn,toks:=s₁.toks,os:=s₁.os }:=.of_keeps S1.ok fun b o e=>hx' b o (Nat.ne_of_lt (Heap.lt_size e)) e
 show wpAny _ _ (do holding [va] (bindName env y vb); assignInOrder [bindName env x] [va]) _ _ _
 refine wpAny_bind (wpAny_holding (wpAny_bindName ((S1.ext x2).store hy (ib.ext x2 S.zt) fun s₂ S₂ k2=>?_)))
 show wpAny _ _ (do holding [] (bindName env x va); pure ()) _ _ _
 exact wpAny_bind (wpAny_holding (wpAny_bindName (S₂.store hx ((ia.ext x2 S.zt).kb k2) fun s₃ S₃ _=>wpAny_pure ⟨O,_,.next,S₃,trivial,hQ⟩)))
end
end
section
noncomputable def pairIters:List String:=["enumerate","zip","dict_itemiterator","dict_reverseitemiterator","odict_iterator","itertools.zip_longest","itertools.pairwise"]
structure OkObj (o:Obj):Prop where
 nc:∀ v,o.data ≠ .cell v
 nf:∀ vs,o.data = .fields vs -> ∀ q t,vs[1]? ≠ some (.str q t)
 np:∀ n,o.cls = .type n -> pairIters.contains n = false
theorem okObj_fields {o:Obj} {vs:Array Value} {T:String} (h:o.data = .fields vs) (hv:∀ q t,vs[1]? ≠ some (.str q t)) (hc:o.cls = .type T) (hb:pairIters.contains T = false:=by decide):OkObj o :=
 ⟨fun v q=>(by rw [h] at q; cases q),fun vs' q q' t=>(by rw [h] at q; cases q; exact hv q' t),fun n q=>(by rw [hc] at q; cases q; exact hb)⟩
theorem okObj_seq {o:Obj} {vs:Array Value} {n:Nat} {T:String} (h:o.data = .seq vs n) (hc:o.cls = .type T) (hb:pairIters.contains T = false:=by decide):OkObj o :=
 ⟨fun v q=>(by rw [h] at q; cases q),fun vs' q q' t=>(by rw [h] at q; cases q),fun n q=>(by rw [hc] at q; cases q; exact hb)⟩
structure ItAt (C:Cx) (Z:Addr -> Prop) (s s₂:Shared) (I:Addr) (fp:List Addr) (items:List D) (P:Nat -> Value -> Prop) (St:Nat -> Heap -> Prop):Prop where
 walks:∀ A:Around,A.handled = none -> Walks C.prog C.w A I fp [I] items.length P St
 st:St 0 s₂.heap
 fresh:s.heap.get? I = none
 shape:∀ i h,St i h -> ∀ b ∈ fp,∃ o,h.get? b = some o /\ OkObj o
 fpz:∀ b ∈ fp,b = I \/ (¬ Z b /\ b ≠ I)
 mem:I ∈ fp
 val:∀ i v,i < items.length -> P i v -> ∃ d,items[i]? = some d /\ IsD C (fun b=>Z b \/ b = I) s₂.heap v d
noncomputable def EvIt (C:Cx) (k:Nat) (env:Env) (σ:Vars) (e:Expr) (items:List D):Prop :=
 ∀ B U O A s,Room k A -> SimO C B U O env σ s -> wpAny C.M A (eval e env) (fun x s₁=>wpAny C.M A (pyIter x) (fun it s₂=>Ext C s s₂ /\ ∃ I fp P St,it = .ref I /\ ItAt C (Zf U O) s s₂ I fp items P St) nf s₁) nf s
noncomputable def AsG (C:Cx) (k:Nat) (env:Env) (σ:Vars) (target:Expr) (d:D) (K:Vars -> Prop):Prop :=
 ∀ B U O A s v it,Room k A -> SimO C B U O env σ s -> IsD C (Zf U O) s.heap v d -> (∃ o,s.heap.get? it = some o /\ OkObj o) ->
  wpAny C.M A (letOwnedTupleGo target (.ref it) v) (fun _ s₁=>wpAny C.M A (assign target env v) (fun _ s₂=>∃ σ',SimO C B U O env σ' s₂ /\ Kb O s s₂ /\ K σ') nf s₁) nf s
section
variable {C:Cx} {env:Env} {σ σ':Vars} {k:Nat}
variable {B:Base} {U:Addr -> Prop} {O O':Own} {s s₂:Shared} {h':Heap}
theorem EvIt.lst {e:Expr} {l:List D} (he:Ev C k env σ e (.lst l)):EvIt C k env σ e l:=by
 intro B U O A s R S
 refine wpT (he B U O A s R S) fun v s₁ hZ2=>?_; obtain ⟨x1,i1⟩:=hZ2
 have S1:=S.ext x1
 replace i1:=i1.iLst; obtain ⟨a,vs,hqq,h1,z1,i1⟩:=i1; cases hqq
 have hlen:=i1.length
 have hlt:=h1.lt
 have x2:Ext C s₁ { heap:=s₁.heap.push { cls:=.type "list_iterator",data:=.fields #[.ref a,.int 0 0] },gens:=s₁.gens,drawn:=s₁.drawn,toks:=s₁.toks,os:=s₁.os }:=Ext.push S1.ok
 have fr:s.heap.get? s₁.heap.objs.size = none:=by
  cases q:s.heap.get? s₁.heap.objs.size with
  | none=>rfl
  | some o =>
   by_cases hT:s₁.heap.objs.size ∈ C.T
   ·obtain ⟨ps,g,_⟩:=S1.ok.tab _ hT; exact absurd (Heap.lt_size g) (Nat.lt_irrefl _)
   ·exact absurd (Heap.lt_size (x1.keep _ _ hT q)) (Nat.lt_irrefl _)
 refine wpAny_pyIter_list h1.is ⟨x1.trans x2,s₁.heap.objs.size,[s₁.heap.objs.size,a],fun i v=>vs.toArray[i]? = some v,fun i h=>h.IsListIter s₁.heap.objs.size a i /\ h.IsList a vs.toArray,rfl,⟨fun A' hA=>(by
   have:=Walks.list (prog:=C.prog) (w:=C.w) hA s₁.heap.objs.size a (Nat.ne_of_lt hlt) vs.toArray
   rw [<- hlen]; simpa using this),⟨⟨_,Heap.get?_push_size _ rfl,rfl,rfl⟩,h1.is.push _⟩,fr,?_,?_,by simp,?_⟩⟩
 ·rintro i h ⟨⟨o,e1,e2,e3⟩,⟨o',f1,f2,n,f3⟩⟩ b hb
  rcases List.mem_cons.mp hb with rfl | hb
  ·exact ⟨o,e1,okObj_fields e3 (by simp) e2⟩
  ·rcases List.mem_cons.mp hb with rfl | hb
   ·exact ⟨o',f1,okObj_seq f3 f2⟩
   ·cases hb
 ·intro b hb
  rcases List.mem_cons.mp hb with rfl | hb
  ·exact .inl rfl
  ·rcases List.mem_cons.mp hb with rfl | hb
   ·exact .inr ⟨z1,Nat.ne_of_lt hlt⟩
   ·cases hb
 ·intro i v _ hv
  obtain ⟨d,g1,g2⟩:=i1.get' i (v:=v) (by simpa using hv)
  exact ⟨d,g1,g2.mono (fun b o n g=>Heap.get?_push_of_some _ g) fun b o n g q=>q.elim n fun q=>by rw [q] at g; exact absurd (Heap.lt_size g) (Nat.lt_irrefl _)⟩
noncomputable def chs (x:Str):List D:=x.cps.toList.map fun c=>.str ⟨#[c]⟩
theorem EvIt.str {e:Expr} {x:Str} (he:Ev C k env σ e (.str x)):EvIt C k env σ e (chs x):=by
 intro B U O A s R S
 refine wpT (he B U O A s R S) fun v s₁ hZ2=>?_; obtain ⟨x1,i1⟩:=hZ2
 have S1:=S.ext x1
 replace i1:=i1.iStr; obtain ⟨tk,hqq⟩:=i1; cases hqq
 have fr:s.heap.get? s₁.heap.objs.size = none:=by
  cases q:s.heap.get? s₁.heap.objs.size with
  | none=>rfl
  | some o =>
   by_cases hT:s₁.heap.objs.size ∈ C.T
   ·obtain ⟨ps,g,_⟩:=S1.ok.tab _ hT; exact absurd (Heap.lt_size g) (Nat.lt_irrefl _)
   ·exact absurd (Heap.lt_size (x1.keep _ _ hT q)) (Nat.lt_irrefl _)
 have hval:∀ (Z:Addr -> Prop) (h:Heap) (i:Nat) (v:Value),SignAt x i v -> ∃ d,(chs x)[i]? = some d /\ IsD C Z h v d:=fun Z h i v ⟨c,u,e1,e2⟩=>by
  subst e2
  refine ⟨_,?_,.str _ _⟩
  unfold chs
  rw [List.getElem?_map,Array.getElem?_toList,e1]; rfl
 have len:(chs x).length = x.cps.size:=by unfold chs; rw [List.length_map,Array.length_toList]
 cases ha:x.cps.all (· < 128)
 ·refine wpAny_pyIter_wide ha ⟨x1.trans (Ext.push S1.ok),s₁.heap.objs.size,[s₁.heap.objs.size],SignAt x,fun i h=>h.IsStrIter s₁.heap.objs.size "str_iterator" x tk i,rfl,⟨fun A' hA=>(by rw [len]; exact Walks.strWide hA _ x tk),⟨_,Heap.get?_push_size _ rfl,rfl,rfl⟩,fr,?_,fun b hb=>.inl (List.mem_singleton.mp hb),List.mem_singleton.mpr rfl,fun i v _ hv=>hval _ _ i v hv⟩⟩
  rintro i h ⟨o,e1,e2,e3⟩ b hb
  cases List.mem_singleton.mp hb
  exact ⟨o,e1,okObj_fields e3 (by simp) e2⟩
 ·refine wpAny_pyIter_ascii ha ⟨x1.trans (Ext.push S1.ok),s₁.heap.objs.size,[s₁.heap.objs.size],SignAt x,fun i h=>h.IsStrIter s₁.heap.objs.size "str_ascii_iterator" x tk i,rfl,⟨fun A' hA=>(by rw [len]; exact Walks.strAscii hA _ x tk),⟨_,Heap.get?_push_size _ rfl,rfl,rfl⟩,fr,?_,fun b hb=>.inl (List.mem_singleton.mp hb),List.mem_singleton.mpr rfl,fun i v _ hv=>hval _ _ i v hv⟩⟩
  rintro i h ⟨o,e1,e2,e3⟩ b hb
  cases List.mem_singleton.mp hb
  exact ⟨o,e1,okObj_fields e3 (by simp) e2⟩
noncomputable def rng (a:Int) (n:Nat):List D:=(List.range n).map fun (i:Nat)=>.int (a + (i:Int))
theorem EvIt.rangeCore {a:Int} {n:Nat} {r:Addr} {b:Int} {t u v:Tok} {A:Around} (S:SimO C B U O env σ s) {s₁:Shared} (x1:Ext C s s₁)
  (hr:IsRange s₁.heap r a b 1 t u v) (hn:n = (b - a).toNat) (ha:-1000000000 <= a /\ a <= 1000000000) (hb:-1000000000 <= b /\ b <= 1000000000) :
  wpAny C.M A (pyIter (.ref r)) (fun it s₂=>Ext C s s₂ /\ ∃ I fp P St,it = .ref I /\ ItAt C (Zf U O) s s₂ I fp (rng a n) P St) nf s₁:=by
 have S1:=S.ext x1
 have fr:s.heap.get? s₁.heap.objs.size = none:=by
  cases q:s.heap.get? s₁.heap.objs.size with
  | none=>rfl
  | some o =>
   by_cases hT:s₁.heap.objs.size ∈ C.T
   ·obtain ⟨ps,g,_⟩:=S1.ok.tab _ hT; exact absurd (Heap.lt_size g) (Nat.lt_irrefl _)
   ·exact absurd (Heap.lt_size (x1.keep _ _ hT q)) (Nat.lt_irrefl _)
 have hsz:Builtin.Range.rangeSize a b 1 = (n:Int):=by
  unfold Builtin.Range.rangeSize
  rw [if_pos (by decide)]
  split <;> omega
 have len:(rng a n).length = n:=by unfold rng; simp
 refine wpAny_pyIter_range hr ?_ ⟨x1.trans (Ext.push S1.ok),s₁.heap.objs.size,[s₁.heap.objs.size],fun i v=>∃ t,v = .int (a + (i:Int) * 1) t,fun i h=>IsRangeIter h s₁.heap.objs.size (a + (i:Nat) * 1) ((n:Int) - (i:Nat)) 1,rfl,
  ⟨fun A' hA=>(by rw [len]; exact Walks.range hA _ a 1 n),?_,fr,?_,fun b hb=>.inl (List.mem_singleton.mp hb),List.mem_singleton.mpr rfl,?_⟩⟩
 ·have:∀ x:Int,-10000000000 <= x -> x <= 10000000000 -> Builtin.Range.rangeFitsLong x = true:=fun x h1 h2=>by
   unfold Builtin.Range.rangeFitsLong; simp only [Bool.and_eq_true,decide_eq_true_eq]; omega
  unfold Builtin.Range.small
  rw [hsz,this a (by omega) (by omega),this b (by omega) (by omega),this 1 (by omega) (by omega),this n (by omega) (by omega),if_pos (by decide),this (b + (1 - 1)) (by omega) (by omega)]
  simp
 ·rw [hsz]
  have e:(s₁.heap.push { cls:=.type "range_iterator",data:=.fields #[rawInt a,rawInt (n:Int),rawInt 1] }).get? s₁.heap.objs.size = _:=Heap.get?_push_size _ rfl
  show IsRangeIter _ _ _ _ _
  unfold IsRangeIter
  rw [e]; simp
 ·rintro i h e1 b hb
  cases List.mem_singleton.mp hb
  exact ⟨_,e1,okObj_fields rfl (by simp [rawInt]) rfl⟩
 ·rintro i v hi ⟨t,rfl⟩
  rw [len] at hi
  refine ⟨_,?_,.int _ _⟩
  unfold rng
  rw [List.getElem?_map,List.getElem?_range hi]
  simp
theorem EvIt.range1 {f:Expr} {e:Expr} {fp pos:Pos} {b:Int} (hf:EvV C k env σ (.Name "range" fp) (.type "range")) (he:Ev C k env σ e (.int b)) (hst:isStarred e = false) (hb:-1000000000 <= b /\ b <= 1000000000) :
  EvIt C k env σ (.Call (.Name "range" fp) [e] [] pos) (rng 0 b.toNat):=by
 intro B U O A s R S
 show wpAny _ _ (do callWith pos (<- eval (.Name "range" fp) env) [] (backTo pos (starEach [e] env)) []) _ _ _
 refine wpAny_bind (wpT (hf B U O A s R S) fun v s₁ hZ2=>?_); obtain ⟨x1,e1⟩:=hZ2
 subst e1
 have hl:EvL C k env σ [e] [.int b]:=⟨⟨he,hst⟩,trivial⟩
 refine callWith_of (P:=fun _=>True) (by rw [hl.noStar pos]; rfl) (fun h _=>⟨.machine,.inr (.inl rfl),.of_pure rfl⟩) (wpT (hl.args pos R (S.ext x1)) fun a s₂ ⟨x2,hkw,i2⟩=>⟨trivial,?_⟩)
 obtain ⟨pos',kw⟩:=a
 cases hkw
 replace i2:=i2.iCons; obtain ⟨_,_,hqq,ia,i2⟩:=i2; cases hqq
 cases i2.iNil
 cases ia
 refine call_range_1 ?_
 have S2:=(S.ext x1).ext x2
 have hn:b.toNat = (b - 0).toNat:=by omega
 exact EvIt.rangeCore S ((x1.trans x2).trans (Ext.push S2.ok)) (IsRange.new ..) hn (by omega) hb
theorem EvIt.range2 {e1 e2:Expr} {fp pos:Pos} {a b:Int} (hf:EvV C k env σ (.Name "range" fp) (.type "range")) (he1:Ev C k env σ e1 (.int a)) (he2:Ev C k env σ e2 (.int b)) (hst1:isStarred e1 = false) (hst2:isStarred e2 = false)
  (ha:-1000000000 <= a /\ a <= 1000000000) (hb:-1000000000 <= b /\ b <= 1000000000) :
  EvIt C k env σ (.Call (.Name "range" fp) [e1,e2] [] pos) (rng a (b - a).toNat):=by
 intro B U O A s R S
 show wpAny _ _ (do callWith pos (<- eval (.Name "range" fp) env) [] (backTo pos (starEach [e1,e2] env)) []) _ _ _
 refine wpAny_bind (wpT (hf B U O A s R S) fun v s₁ hZ2=>?_); obtain ⟨x1,e1⟩:=hZ2
 subst e1
 have hl:EvL C k env σ [e1,e2] [.int a,.int b]:=⟨⟨he1,hst1⟩,⟨he2,hst2⟩,trivial⟩
 refine callWith_of (P:=fun _=>True) (by rw [hl.noStar pos]; rfl) (fun h _=>⟨.machine,.inr (.inl rfl),.of_pure rfl⟩) (wpT (hl.args pos R (S.ext x1)) fun a s₂ ⟨x2,hkw,i2⟩=>⟨trivial,?_⟩)
 obtain ⟨pos',kw⟩:=a
 cases hkw
 replace i2:=i2.iCons; obtain ⟨_,_,hqq,ia,i2⟩:=i2; cases hqq
 replace i2:=i2.iCons; obtain ⟨_,_,hqq,ib,i2⟩:=i2; cases hqq
 cases i2.iNil
 cases ia
 cases ib
 refine call_range_2 ?_
 have S2:=(S.ext x1).ext x2
 exact EvIt.rangeCore S ((x1.trans x2).trans (Ext.push S2.ok)) (IsRange.new ..) rfl ha hb
theorem lot_name {x:Str} {p:Pos} {it v:Value}:letOwnedTupleGo (.Name x p) it v = pure ():=rfl
theorem AsG.name {x:Str} {px:Pos} {i:Nat} {d:D} {K:Vars -> Prop} (hx:IsSto env.scope σ x i) (hK:K (σ.set i (.d d))):AsG C k env σ (.Name x px) d K:=by
 intro B U O A s v it R S hd _
 refine wpAny_of_eq lot_name ?_
 refine assign_Name (S.store hx hd fun s₂ S₂ k1=>⟨_,S₂,k1,hK⟩)
theorem SimO.rebase (S:SimO C B U O env σ s) {B':Base} (h1:∀ b o,B.get b = some o -> B'.get b = some o) (h2:∀ b o,B'.get b = some o -> s.heap.get? b = some o) (h3:∀ b o,B'.get b = some o -> O b = none /\ b ∉ C.T):SimO C B' U O env σ s:=by
 obtain ⟨m,hm,hv⟩:=S.vars
 refine ⟨S.ok,S.ev,S.tu,fun b hb=>?_,h2,S.lt,fun b hb=>⟨?_,(S.ob b hb).2⟩,S.oh,S.hL,m,hm,fun i x k av e1 e2=>?_⟩
 ·cases q:B'.get b with
  | none=>rfl
  | some o=>exact absurd hb (h3 b o q).2
 ·cases q:B'.get b with
  | none=>rfl
  | some o=>exact absurd (h3 b o q).1 hb
 ·have:=hv i x k av e1 e2
  cases av with
  | sd d=>obtain ⟨a,c,v,e1,⟨o,e2,e3⟩,e4⟩:=this; exact ⟨a,c,v,e1,⟨o,h1 _ _ e2,e3⟩,e4⟩
  | lex L st=>exact ⟨this.1.imp id fun ⟨a,c,o,e1,e2,e3⟩=>⟨a,c,o,e1,e2.imp (h1 _ _) id,e3⟩,this.2⟩
  | _=>exact this
theorem SimO.unbase {B':Base} (S:SimO C B' U O env σ s) (h1:∀ b o,B.get b = some o -> B'.get b = some o) (h2:∀ b o,B'.get b = some o -> (∃ v,o.data = .cell v) -> B.get b = some o):SimO C B U O env σ s:=by
 obtain ⟨m,hm,hv⟩:=S.vars
 refine ⟨S.ok,S.ev,S.tu,fun b hb=>?_,fun b o e=>S.keepB b o (h1 b o e),S.lt,fun b hb=>⟨?_,(S.ob b hb).2⟩,S.oh,S.hL,m,hm,fun i x k av e1 e2=>?_⟩
 ·cases q:B.get b with
  | none=>rfl
  | some o=>have:=S.bt b hb; rw [h1 b o q] at this; cases this
 ·cases q:B.get b with
  | none=>rfl
  | some o=>have:=(S.ob b hb).1; rw [h1 b o q] at this; cases this
 ·have:=hv i x k av e1 e2
  cases av with
  | sd d=>obtain ⟨a,c,v,e1,⟨o,e2,e3⟩,e4⟩:=this; exact ⟨a,c,v,e1,⟨o,h2 _ _ e2 ⟨_,e3⟩,e3⟩,e4⟩
  | lex L st=>exact ⟨this.1.imp id fun ⟨a,c,o,e1,e2,e3⟩=>⟨a,c,o,e1,e2.imp (fun w=>h2 _ _ w ⟨_,e3⟩) id,e3⟩,this.2⟩
  | _=>exact this
structure OverB (C:Cx) (B:Base) (U:Addr -> Prop) (O:Own) (env:Env) (σ:Vars) (s:Shared) (X:Addr -> Prop) (B':Base):Prop where
 inv:∀ b o,B'.get b = some o -> (s.heap.get? b = some o /\ NoCell o /\ O b = none /\ b ∉ C.T /\ X b) \/ B.get b = some o
 put:∀ b o,s.heap.get? b = some o -> NoCell o -> O b = none -> b ∉ C.T -> X b -> B'.get b = some o
 sim:SimO C B' U O env σ s
 back:∀ {O'' σ'' s''},SimO C B' U O'' env σ'' s'' -> SimO C B U O'' env σ'' s''
theorem over_base (S:SimO C B U O env σ s) (X:Addr -> Prop):∃ B',OverB C B U O env σ s X B':=by
 classical
 have inv:∀ b o,(if ∃ o,s.heap.get? b = some o /\ NoCell o /\ O b = none /\ b ∉ C.T /\ X b then s.heap.get? b else B.get b) = some o -> (s.heap.get? b = some o /\ NoCell o /\ O b = none /\ b ∉ C.T /\ X b) \/ B.get b = some o:=fun b o g=>by
  split at g
  ·rename_i q
   obtain ⟨o',q1,q2⟩:=q
   rw [q1] at g; cases g
   exact .inl ⟨q1,q2⟩
  ·exact .inr g
 have h1:∀ b o,B.get b = some o -> (if ∃ o,s.heap.get? b = some o /\ NoCell o /\ O b = none /\ b ∉ C.T /\ X b then s.heap.get? b else B.get b) = some o:=fun b o g=>by
  split
  ·exact S.keepB b o g
  ·exact g
 refine ⟨⟨fun b=>if ∃ o,s.heap.get? b = some o /\ NoCell o /\ O b = none /\ b ∉ C.T /\ X b then s.heap.get? b else B.get b⟩,inv,fun b o g nc n1 n2 n3=>?_,S.rebase h1 (fun b o g=>(inv b o g).elim (·.1) (S.keepB b o)) fun b o g=>(inv b o g).elim (fun w=>⟨w.2.2.1,w.2.2.2.1⟩) fun g'=>⟨S.boO g',fun q=>nomatch (S.bt b q).symm.trans g'⟩,fun S''=>S''.unbase h1 fun b o g w=>(inv b o g).elim (fun q=>w.elim fun v hv=>absurd hv (q.2.1 v)) id⟩
 show (if ∃ o,s.heap.get? b = some o /\ NoCell o /\ O b = none /\ b ∉ C.T /\ X b then s.heap.get? b else B.get b) = some o
 rw [if_pos ⟨o,g,nc,n1,n2,n3⟩]; exact g
set_option tactic.hygienic true in
theorem AsG.pair {x y:Str} {i j n:Nat} {p1 p2 tp:Pos} {a b:D} {K:Vars -> Prop} (hx:IsSto env.scope σ x i) (hy:IsSto env.scope (σ.set i (.d a)) y j) (hK:K ((σ.set i (.d a)).set j (.d b))) :
  AsG C k env σ (.Tuple [.Name x p1,.Name y p2] n tp) (.tup [a,b]) K:=by
 intro B U O A s v it R S hd ⟨o,ho,ok⟩
 have main:wpAny C.M A (assign (.Tuple [.Name x p1,.Name y p2] n tp) env v) (fun _ s₂=>∃ σ',SimO C B U O env σ' s₂ /\ Kb O s s₂ /\ K σ') nf s :=
  S.pair R hd hx hy fun s₂ S₂ k2=>⟨_,S₂,k2,hK⟩
 replace hd:=hd.iTup; obtain ⟨t,vs,hqq,h1,z1,i1⟩:=hd; cases hqq
 unfold letOwnedTupleGo
 refine wpAny_bind (wpAny_load ho ?_)
 split
 ·rename_i n' vs' e1 e2
  have hb:=ok.np n' e1
  unfold pairIters at hb
  rw [hb]
  exact wpAny_pure main
 ·exact wpAny_pure main
theorem ExS.for_ {target iter:Expr} {body:List Stmt} {pos:Pos} {items:List D} {Q:Fl -> Vars -> Prop} (hit:EvIt C k env σ iter items) (J:Nat -> Vars -> Prop) (h0:J 0 σ)
  (turn:∀ i d σ₁,items[i]? = some d -> J i σ₁ -> AsG C k env σ₁ target d fun σ₂=>Ex C k env σ₂ body fun fl σ₃=>match fl with
   | .next | .cont=>J (i + 1) σ₃
   | .brk=>Q .next σ₃
   | .ret d=>Q (.ret d) σ₃)
  (hQ:∀ σ₁,J items.length σ₁ -> Q .next σ₁) (hs:∀ x,foldedSetIterable iter env x = pure x:=by intro _; with_unfolding_all rfl):ExS C k env σ (.For target iter body [] pos) Q:=by
 intro B U A s R ⟨O,S⟩
 refine wpAny_For (wpT (hit B U O A s R S) fun x s₁ h1=>wpT h1 fun it s₂ hZ2=>?_) hs; obtain ⟨x2,I,fp,P,St,e,W⟩:=hZ2
 subst e
 have Wk:=W.walks A R.hd
 obtain ⟨oI,gI,kI⟩:=W.shape 0 _ W.st I W.mem
 let U':Addr -> Prop:=fun b=>U b \/ b = I
 have S2:SimO C B U' O env σ s₂:=S.extAvoid x2 W.fresh ⟨oI,gI⟩
 have hfin:∀ {O' σ' s'},SimO C B U' O' env σ' s' -> SimO C B U O' env σ' s':=fun {O' σ' s'} S'=>by
  obtain ⟨m,hm,hv⟩:=S'.vars
  refine ⟨S'.ok,S'.ev,S.tu,S'.bt,S'.keepB,fun b hb=>S'.lt b (hb.imp .inl id),fun b hb=>⟨(S'.ob b hb).1,fun q=>(S'.ob b hb).2 (.inl q)⟩,S'.oh,S'.hL,m,hm,fun i x k av e1 e2=>?_⟩
  exact (hv i x k av e1 e2).step (fun _=>rfl) (fun c hc=>⟨hc,fun _ g=>g⟩) (fun c hc=>⟨hc,fun _ g=>g⟩) (fun c hc=>⟨hc,fun _ g=>g⟩) fun b o n g=>⟨g,fun q=>n (q.imp .inl id)⟩
 obtain ⟨Rv,mk,el⟩:∃ Rv:Nat -> Shared -> Prop,(∀ n s',(∃ i O' σ',n = items.length - i /\ i <= items.length /\ SimO C B U' O' env σ' s' /\ St i s'.heap /\ J i σ' /\ (∀ b o,s₂.heap.get? b = some o -> NoCell o -> b ≠ I -> ¬ Zf U' O b -> s'.heap.get? b = some o /\ ¬ Zf U' O' b) /\ (∀ b ∈ fp,O' b = none)) -> Rv n s') /\ ∀ n s',Rv n s' -> ∃ i O' σ',n = items.length - i /\ i <= items.length /\ SimO C B U' O' env σ' s' /\ St i s'.heap /\ J i σ' /\ (∀ b o,s₂.heap.get? b = some o -> NoCell o -> b ≠ I -> ¬ Zf U' O b -> s'.heap.get? b = some o /\ ¬ Zf U' O' b) /\ (∀ b ∈ fp,O' b = none):=⟨_,fun _ _ h=>h,fun _ _ h=>h⟩
 refine codeAny_forLoop_any Rv ?_ items.length (mk _ _ ⟨0,O,σ,by simp,Nat.zero_le _,S2,W.st,h0,fun b o g _ _ n=>⟨g,n⟩,fun b hb=>?_⟩)
 rotate_left
 ·rcases W.fpz b hb with rfl | ⟨n,_⟩
  ·cases q:O b with
   | none=>rfl
   | some t=>obtain ⟨o,g⟩:=S.lt b (.inr (nnS q)); rw [W.fresh] at g; cases g
  ·exact zn n
 intro n s' hRv
 obtain ⟨i,O',σ',rfl,hi,S',hst,hJ,hkeep,hfp⟩:=el n s' hRv
 have stepI:∀ {h₁:Heap} {tk₁:Nat} (V:Addr -> Prop),(∀ b ∈ C.T,V b) -> (∀ b,V b -> U' b) -> (V I -> ∃ o,h₁.get? I = some o) -> (∀ b o,b ∉ [I] -> s'.heap.get? b = some o -> h₁.get? b = some o) ->
   SimO C B V O' env σ' { heap:=h₁,gens:=s'.gens,drawn:=s'.drawn,toks:=tk₁,os:=s'.os }:=fun {h₁ tk₁} V hV1 hV2 hex hk=>by
  have hk':∀ b o,b ≠ I -> s'.heap.get? b = some o -> h₁.get? b = some o:=fun b o nb g=>hk b o (by simpa using nb) g
  obtain ⟨oI',gI',kI'⟩:=W.shape i _ hst I W.mem
  have OI:O' I = none:=hfp I W.mem
  have BI:B.get I = none:=S.frB W.fresh
  have TI:I ∉ C.T:=S.ok.frT W.fresh
  have HI:C.h0.get? I = none:=S.ok.frH W.fresh
  obtain ⟨m,hm,hv⟩:=S'.vars
  have nO:∀ c,O' c ≠ none -> c ≠ I:=fun c hc q=>hc (q ▸ OI)
  refine ⟨⟨S'.ok.good,fun b o e=>hk' b o (fun q=>by rw [q,HI] at e; cases e) (S'.ok.keep b o e),fun b hb=>?_,S'.ok.gens,S'.ok.os⟩,S'.ev,hV1,S'.bt,fun b o e=>hk' b o (fun q=>by rw [q,BI] at e; cases e) (S'.keepB b o e),fun b hb=>?_,fun b hb=>⟨(S'.ob b hb).1,fun q=>(S'.ob b hb).2 (hV2 b q)⟩,S'.oh,S'.hL,m,?_,fun i x k av e1 e2=>?_⟩
  ·obtain ⟨ps,g1,g2,g3⟩:=S'.ok.tab b hb
   refine ⟨ps,hk' _ _ (fun q=>TI (q ▸ hb)) g1,g2,fun pos cv e=>?_⟩
   obtain ⟨c,e1,e2,c',o,vs,t,e3,e4,e5,e6⟩:=g3 pos cv e
   cases e3
   refine ⟨c,e1,e2,c,o,vs,t,rfl,hk' _ _ (fun q=>?_) e4,e5,e6⟩
   rw [q,gI'] at e4; cases e4
   exact kI'.nf _ e5 _ _ e6
  ·by_cases q:b = I
   ·rw [q] at hb ⊢
    rcases hb with hb | hb
    ·exact hex hb
    ·exact absurd OI hb
   ·obtain ⟨o,g⟩:=S'.lt b (hb.imp (hV2 b) id); exact ⟨o,hk' b o q g⟩
  ·obtain ⟨o,es,ep,g,r⟩:=hm
   exact ⟨o,es,ep,hk' _ _ (nO _ (nnS S'.hL)) g,r⟩
  ·refine (hv i x k av e1 e2).step (fun _=>rfl) (fun c hc=>⟨hc,fun o g=>hk' c o (nO c (nnS hc)) g⟩) (fun c hc=>⟨hc,fun o g=>hk' c o (nO c (nnS hc)) g⟩) (fun c hc=>⟨hc,fun o g=>hk' c o (nO c (nnS hc)) g⟩) fun b o n g=>⟨hk' b o (fun q=>n (.inl (.inr q))) g,fun q=>n (q.imp (hV2 b) id)⟩
 by_cases hlt:i < items.length
 ·refine Wk.item i s' _ _ hlt hst fun v h₁ tk₁ hP hst₁ hk₁=>?_
  obtain ⟨oI₁,gI₁,kI₁⟩:=W.shape _ _ hst₁ I W.mem
  have S₁:=stepI (tk₁:=tk₁) U' S'.tu (fun _ q=>q) (fun _=>⟨oI₁,gI₁⟩) hk₁
  obtain ⟨d,hd,iv⟩:=W.val i v hlt hP
  have nz:∀ b,¬ (Zf U O b \/ b = I) -> ¬ Zf U' O b:=fun b n q=>by
   rcases q with (q | q) | q
   ·exact n (.inl (.inl q))
   ·exact n (.inr q)
   ·exact n (.inl (.inr q))
  have iv':IsD C (Zf U' O') h₁ v d:=iv.monoC (fun b o n nc g=>hk₁ b o (by simpa using fun q=>n (.inr q)) (hkeep b o g nc (fun q=>n (.inr q)) (nz b n)).1) fun b o n nc g=>(hkeep b o g nc (fun q=>n (.inr q)) (nz b n)).2
  obtain ⟨B',OB⟩:=over_base S₁ fun _=>True
  have hBT:∀ b ∈ fp,b ∉ C.T:=fun b hb q=>by
   rcases W.fpz b hb with rfl | ⟨n,_⟩
   ·obtain ⟨ps,g,_⟩:=S.ok.tab b q; rw [W.fresh] at g; cases g
   ·exact n (.inl (S.tu b q))
  have SB:=OB.sim
  have hback:=fun {O'' σ'' s''}=>OB.back (O'':=O'') (σ'':=σ'') (s'':=s'')
  have hall:∀ {O'' σ'' s''},SimO C B' U' O'' env σ'' s'' -> ∀ b o,h₁.get? b = some o -> NoCell o -> O' b = none -> b ∉ C.T -> s''.heap.get? b = some o /\ O'' b = none:=fun {O'' σ'' s''} S'' b o g nc n1 n2=>by
   have q:=OB.put b o g nc n1 n2 trivial
   exact ⟨S''.keepB b o q,S''.boO q⟩
  have asn:=turn i d σ' hd hJ B' U' O' A _ v I R SB iv' ⟨oI₁,gI₁,kI₁⟩
  have hE:PassesOwn C.M A env nf:=PassesOwn.never
  refine wpAny_passesOwn hE (wpT asn fun _ s₃ h3=>wpAny_passesOwn hE (wpT h3 fun _ s₄ ⟨σ₂,S4,kb,hbody⟩=>wpAny_passesOwn hE (wpT (hbody B' U' A s₄ R ⟨O',S4⟩) fun f s₅ hZ2=>?_))); obtain ⟨O'',σ₃,fl,S5,hf,hq⟩:=hZ2
  have again:J (i + 1) σ₃ -> ∃ m,m < items.length - i /\ Rv m s₅:=fun hJ'=>by
   have hfp5:∀ b ∈ fp,∀ o,h₁.get? b = some o -> s₅.heap.get? b = some o /\ O'' b = none:=fun b hb o g=>by
    obtain ⟨o',f1,f2⟩:=W.shape _ _ hst₁ b hb
    rw [g] at f1; cases f1
    exact hall S5 b o g f2.nc (hfp b hb) (hBT b hb)
   refine ⟨items.length - (i + 1),by omega,mk _ _ ⟨i + 1,O'',σ₃,rfl,hlt,hback S5,Wk.frame _ _ _ hst₁ fun b hb o g=>(hfp5 b hb o g).1,hJ',fun b o g nc nI n=>?_,fun b hb=>?_⟩⟩
   ·obtain ⟨g1,g2⟩:=hkeep b o g nc nI n
    have hT:b ∉ C.T:=fun q=>g2 (S'.zt b q)
    obtain ⟨g3,g4⟩:=hall S5 b o (hk₁ b o (by simpa using nI) g1) nc (zn g2) hT
    refine ⟨g3,fun q=>?_⟩
    rcases q with q | q
    ·exact g2 (.inl q)
    ·exact q g4
   ·obtain ⟨o,f1,f2⟩:=W.shape _ _ hst₁ b hb
    exact (hfp5 b hb o f1).2
  have done:SimO C B U O'' env σ₃ s₅:=hfin (hback S5)
  cases f <;> cases fl <;> first
   | exact again hq
   | exact hf.elim
   | exact ⟨O'',σ₃,.next,done,trivial,hq⟩
   | exact ⟨O'',σ₃,.ret _,done,(show IsD C (Zf U' O'') s₅.heap _ _ from hf).mono (fun b o n g=>g) (fun b o n g q=>n (q.imp .inl id)),hq⟩
 ·have hin:i = items.length:=by omega
  refine Wk.done s' _ _ (hin ▸ hst) fun h₁ tk₁ hk₁=>?_
  have UI:¬ U I:=S.frU W.fresh
  exact wpAny_execs_nil ⟨O',σ',.next,stepI (tk₁:=tk₁) U S.tu (fun _ q=>.inl q) (fun q=>absurd q UI) hk₁,trivial,hQ σ' (hin ▸ hJ)⟩
end
end
section
section
variable {C:Cx} {env:Env} {σ σ':Vars} {k:Nat}
variable {B:Base} {U:Addr -> Prop} {O O':Own} {s s₂:Shared} {h':Heap}
theorem SimO.pokeV {V:Addr -> Prop} (S:SimO C B U O env σ s) {a:Addr} {oa:Obj} {tk:Nat} {dr:Drawn} (hVT:∀ b ∈ C.T,V b) (hV:∀ b,V b -> U b) (hO:O a = none) (hU:U a) (hB:B.get a = none) (h0:C.h0.get? a = none) (hT:a ∉ C.T) (ga:s.heap.get? a = some oa)
  (nf:∀ vs,oa.data = .fields vs -> ∀ q t,vs[1]? ≠ some (.str q t)) (hk:∀ b o,b ≠ a -> s.heap.get? b = some o -> h'.get? b = some o) (hex:V a -> ∃ o,h'.get? a = some o) :
  SimO C B V O env σ { heap:=h',gens:=s.gens,drawn:=dr,toks:=tk,os:=s.os }:=by
 obtain ⟨m,hm,hv⟩:=S.vars
 have nO:∀ c,O c ≠ none -> c ≠ a:=fun c hc q=>hc (q ▸ hO)
 refine ⟨⟨S.ok.good,fun b o e=>hk b o (fun q=>by rw [q,h0] at e; cases e) (S.ok.keep b o e),fun b hb=>?_,S.ok.gens,S.ok.os⟩,S.ev,hVT,S.bt,fun b o e=>hk b o (fun q=>by rw [q,hB] at e; cases e) (S.keepB b o e),fun b hb=>?_,fun b hb=>⟨(S.ob b hb).1,fun q=>(S.ob b hb).2 (hV b q)⟩,S.oh,S.hL,m,?_,fun i x k av e1 e2=>?_⟩
 ·obtain ⟨ps,g1,g2,g3⟩:=S.ok.tab b hb
  refine ⟨ps,hk _ _ (fun q=>hT (q ▸ hb)) g1,g2,fun pos cv e=>?_⟩
  obtain ⟨c,e1,e2,c',o,vs,t,e3,e4,e5,e6⟩:=g3 pos cv e
  cases e3
  refine ⟨c,e1,e2,c,o,vs,t,rfl,hk _ _ (fun q=>?_) e4,e5,e6⟩
  rw [q,ga] at e4; cases e4
  exact nf _ e5 _ _ e6
 ·by_cases q:b = a
  ·rw [q] at hb ⊢
   rcases hb with hb | hb
   ·exact hex hb
   ·exact absurd hO hb
  ·obtain ⟨o,g⟩:=S.lt b (hb.imp (hV b) id); exact ⟨o,hk b o q g⟩
 ·obtain ⟨o,es,ep,g,r⟩:=hm
  exact ⟨o,es,ep,hk _ _ (nO _ (nnS S.hL)) g,r⟩
 ·exact (hv i x k av e1 e2).step (fun _=>rfl) (fun c hc=>⟨hc,fun o g=>hk c o (nO c (nnS hc)) g⟩) (fun c hc=>⟨hc,fun o g=>hk c o (nO c (nnS hc)) g⟩) (fun c hc=>⟨hc,fun o g=>hk c o (nO c (nnS hc)) g⟩) fun b o n g=>⟨hk b o (fun q=>n (.inl (q ▸ hU))) g,fun q=>n (q.imp (hV b) id)⟩
theorem SimO.poke (S:SimO C B U O env σ s) {a:Addr} {oa:Obj} {tk:Nat} {dr:Drawn} (hO:O a = none) (hU:U a) (hB:B.get a = none) (h0:C.h0.get? a = none) (hT:a ∉ C.T) (ga:s.heap.get? a = some oa)
  (nf:∀ vs,oa.data = .fields vs -> ∀ q t,vs[1]? ≠ some (.str q t)) (hk:∀ b o,b ≠ a -> s.heap.get? b = some o -> h'.get? b = some o) (hex:∃ o,h'.get? a = some o) :
  SimO C B U O env σ { heap:=h',gens:=s.gens,drawn:=dr,toks:=tk,os:=s.os } :=
 S.pokeV S.tu (fun _ q=>q) hO hU hB h0 hT ga nf hk fun _=>hex
theorem SimO.lessU {V:Addr -> Prop} (S:SimO C B U O env σ s) (hT:∀ b ∈ C.T,V b) (hV:∀ b,V b -> U b):SimO C B V O env σ s:=by
 obtain ⟨m,hm,hv⟩:=S.vars
 refine ⟨S.ok,S.ev,hT,S.bt,S.keepB,fun b hb=>S.lt b (hb.imp (hV b) id),fun b hb=>⟨(S.ob b hb).1,fun q=>(S.ob b hb).2 (hV b q)⟩,S.oh,S.hL,m,hm,fun i x k av e1 e2=>?_⟩
 exact (hv i x k av e1 e2).step (fun _=>rfl) (fun c hc=>⟨hc,fun _ g=>g⟩) (fun c hc=>⟨hc,fun _ g=>g⟩) (fun c hc=>⟨hc,fun _ g=>g⟩) fun b o n g=>⟨g,fun q=>n (q.imp (hV b) id)⟩
theorem closureFor_some {scope:Scope} (h:∀ x k,(x,k) ∈ scope.names -> k = .free -> (env.cells.lookup x).isSome = true) :
  ∃ cl,closureFor scope env = pure cl /\ (∀ x c,(x,.free) ∈ scope.names -> env.cells.lookup x = some c -> cl.lookup x = some c) /\ (∀ x,x ∈ cl.map (·.1) -> (x,NameKind.free) ∈ scope.names):=by
 have key:∀ (names:List (Str × NameKind)) (acc:List (Str × Addr)),(∀ x k,(x,k) ∈ names -> k = .free -> (env.cells.lookup x).isSome = true) -> (∀ x c,acc.lookup x = some c -> env.cells.lookup x = some c) ->
   ∃ cl,(forIn names acc (fun (p:Str × NameKind) (cs:List (Str × Addr))=>(match p with | (name,kind)=>if (kind == NameKind.free) = true then (do let a <- cellOf env name; pure (ForInStep.yield ((name,a) :: cs))) else pure (ForInStep.yield cs):Sem (ForInStep (List (Str × Addr))))) = pure cl) /\
    (∀ x c,(x,NameKind.free) ∈ names \/ acc.lookup x = some c -> env.cells.lookup x = some c -> cl.lookup x = some c) /\ (∀ x,x ∈ cl.map (·.1) -> (x,NameKind.free) ∈ names \/ x ∈ acc.map (·.1)):=by
  intro names
  induction names with
  | nil=>intro acc _ ha; exact ⟨acc,rfl,fun x c h1 h2=>h1.elim (fun q=>nomatch q) id,fun x h=>.inr h⟩
  | cons p r ih =>
   intro acc hn ha
   obtain ⟨y,kind⟩:=p
   have hn':∀ x k,(x,k) ∈ r -> k = .free -> (env.cells.lookup x).isSome = true:=fun x k hm=>hn x k (.tail _ hm)
   by_cases hk:kind = .free
   ·subst hk
    obtain ⟨c0,hc0⟩:=Option.isSome_iff_exists.mp (hn y .free (.head _) rfl)
    obtain ⟨cl,e1,e2,e3⟩:=ih ((y,c0) :: acc) hn' (fun x c hx=>by
     rw [List.lookup_cons] at hx
     by_cases q:x = y
     ·subst q; simp at hx; subst hx; exact hc0
     ·rw [beq_eq_false_iff_ne.mpr q] at hx; exact ha x c hx)
    refine ⟨cl,?_,fun x c h1 h2=>?_,fun x hx=>?_⟩
    ·rw [List.forIn_cons]
     simp only [beq_self_eq_true,if_true]
     have:cellOf env y = pure c0:=by unfold cellOf; rw [hc0]
     rw [this]
     simpa using e1
    ·by_cases q:x = y
     ·subst q
      rw [hc0] at h2; cases h2
      exact e2 x _ (.inr (by simp)) hc0
     ·rcases h1 with h1 | h1
      ·rcases List.mem_cons.mp h1 with h1 | h1
       ·cases h1; exact absurd rfl q
       ·exact e2 x c (.inl h1) h2
      ·exact e2 x c (.inr (by rw [List.lookup_cons,beq_eq_false_iff_ne.mpr q]; exact h1)) h2
    ·rcases e3 x hx with h | h
     ·exact .inl (.tail _ h)
     ·rcases List.mem_cons.mp h with h | h
      ·cases h; exact .inl (.head _)
      ·exact .inr h
   ·obtain ⟨cl,e1,e2,e3⟩:=ih acc hn' ha
    refine ⟨cl,?_,fun x c h1 h2=>e2 x c (h1.elim (fun h=>by
     rcases List.mem_cons.mp h with h | h
     ·cases h; exact absurd rfl hk
     ·exact .inl h) .inr) h2,fun x hx=>(e3 x hx).imp (.tail _) id⟩
    rw [List.forIn_cons]
    have:(kind == NameKind.free) = false:=by simpa using hk
    simp only [this,Bool.false_eq_true,if_false,pure_bind]
    exact e1
 obtain ⟨cl,e1,e2,e3⟩:=key scope.names [] h (fun x c hx=>nomatch hx)
 refine ⟨cl,?_,fun x c h1 h2=>e2 x c (.inl h1) h2,fun x hx=>(e3 x hx).elim id (fun q=>nomatch q)⟩
 simp only [closureFor]
 rw [show (forIn scope.names ([]:List (Str × Addr)) _:Sem (List (Str × Addr))) = pure cl from e1]
 rfl
end
end
section
structure AtSc (env:Env) (sc:Scope):Prop where
 names:∃ f:Str -> NameKind -> NameKind,env.scope.names = sc.names.map (fun p=>(p.1,f p.1 p.2)) /\ (∀ n k,k ≠ .free -> f n k = k) /\ ∀ n,f n .free = .free \/ f n .free = .cell
theorem AtSc.refl {env:Env} {sc:Scope} (h:env.scope = sc):AtSc env sc:=⟨fun _ k=>k,by rw [h]; simp,fun _ _ _=>rfl,fun _=>.inl rfl⟩
theorem AtSc.relabel {env cenv:Env} {sc:Scope} (h:cenv.scope = relabel sc env):AtSc cenv sc:=by
 refine ⟨fun n k=>if (k == .free && env.scope.kind == .function && env.kindOf n == some .cell) then .cell else k,?_,fun n k hk=>?_,fun n=>?_⟩
 ·rw [h]
  unfold PySem.relabel
  apply List.map_congr_left
  intro p _
  obtain ⟨n,k⟩:=p
  dsimp only
  split <;> rfl
 ·dsimp only; rw [if_neg]; simp [hk]
 ·dsimp only; split
  ·exact .inr rfl
  ·exact .inl rfl
theorem AtSc.get {env:Env} {sc:Scope} (h:AtSc env sc) {i:Nat} {x:Str} {k:NameKind} (e:sc.names[i]? = some (x,k)):∃ k',env.scope.names[i]? = some (x,k') /\ (k ≠ .free -> k' = k) /\ (k = .free -> k' = .free \/ k' = .cell):=by
 obtain ⟨f,h1,h2,h3⟩:=h.names
 refine ⟨f x k,by rw [h1,List.getElem?_map,e]; rfl,h2 x k,fun q=>by subst q; exact h3 x⟩
theorem AtSc.isVar {env:Env} {sc:Scope} (h:AtSc env sc) {i:Nat} {x:Str} (e:IsVar sc x i):IsVar env.scope x i:=by
 obtain ⟨k,e⟩:=e.get
 obtain ⟨k',e',_⟩:=h.get e
 unfold IsVar; rw [e']; rfl
theorem lookup_mapSnd {f:Str -> NameKind -> NameKind}:∀ (l:List (Str × NameKind)) (x:Str),(l.map (fun p=>(p.1,f p.1 p.2))).lookup x = (l.lookup x).map (f x)
 | [],x=>rfl
 | (y,k) :: r,x=>by
  rw [List.map_cons,List.lookup_cons,List.lookup_cons]
  by_cases q:x = y
  ·subst q; simp
  ·rw [beq_eq_false_iff_ne.mpr q]; exact lookup_mapSnd r x
theorem AtSc.isGlob {env:Env} {sc:Scope} (h:AtSc env sc) {x:Str} (e:IsGlob sc x):IsGlob env.scope x:=by
 obtain ⟨f,h1,h2,h3⟩:=h.names
 unfold IsGlob at *
 rw [h1,lookup_mapSnd,e]
 show some (f x .globalImplicit) = _
 rw [h2 x _ (by decide)]
theorem AtSc.isSto {env:Env} {sc:Scope} (h:AtSc env sc) {σ:Vars} {i:Nat} {x:Str} (e:IsSto sc σ x i):IsSto env.scope σ x i:=by
 obtain ⟨k,av,e1,e2,e3⟩:=e
 obtain ⟨k',e',h1,h2⟩:=h.get e1
 have hk:k ≠ .free:=fun q=>by subst q; cases av <;> cases e3
 exact ⟨k',av,e',e2,by rw [h1 hk]; exact e3⟩
noncomputable def ownO (L:Addr) (names:List (Str × NameKind)) (own:List (Str × Addr)):Own:=fun b =>
 open Classical in
 if b = L then some .loc else if h:∃ j x,names[j]? = some (x,NameKind.cell) /\ own.lookup x = some b then some (.cell h.choose) else none
section
variable {L:Addr} {names:List (Str × NameKind)} {own:List (Str × Addr)}
theorem ownO_L:ownO L names own L = some .loc:=by unfold ownO; rw [if_pos rfl]
theorem ownO_cell (nd:(names.map (·.1)).Nodup) (ap:own.Pairwise fun x y=>x.2 ≠ y.2) {j:Nat} {x:Str} {c:Addr} (e1:names[j]? = some (x,NameKind.cell)) (e2:own.lookup x = some c) (hL:c ≠ L):ownO L names own c = some (.cell j):=by
 unfold ownO
 have h:∃ j x,names[j]? = some (x,NameKind.cell) /\ own.lookup x = some c:=⟨j,x,e1,e2⟩
 rw [if_neg hL,dif_pos h]
 obtain ⟨x',f1,f2⟩:=h.choose_spec
 have q:=name_of_addr ap (mem_of_lookup e2) (mem_of_lookup f2)
 subst q
 have:j = h.choose:=by
  have l1:j < (names.map (·.1)).length:=by rw [List.length_map]; exact (List.getElem?_eq_some_iff.mp e1).1
  have l2:h.choose < (names.map (·.1)).length:=by rw [List.length_map]; exact (List.getElem?_eq_some_iff.mp f1).1
  have q:(names.map (·.1))[j] = (names.map (·.1))[h.choose]:=by
   simp only [List.getElem_map]
   rw [(List.getElem?_eq_some_iff.mp e1).2,(List.getElem?_eq_some_iff.mp f1).2]
  have P:=List.pairwise_iff_getElem.mp nd
  rcases Nat.lt_trichotomy j h.choose with l | l | l
  ·exact absurd q (P _ _ l1 l2 l)
  ·exact l
  ·exact absurd q.symm (P _ _ l2 l1 l)
 rw [<- this]
theorem ownO_some {b:Addr} (h:ownO L names own b ≠ none):b = L \/ ∃ x,own.lookup x = some b:=by
 unfold ownO at h
 split at h
 ·exact .inl ‹_›
 ·split at h
  ·rename_i q
   obtain ⟨j,x,e1,e2⟩:=q
   exact .inr ⟨x,e2⟩
  ·exact absurd rfl h
end
theorem cellsFrom_acc:∀ (names:List (Str × NameKind)) (n:Nat) (acc:List (Str × Addr)),cellsFrom n names acc = cellsFrom n names [] ++ acc
 | [],_,_=>rfl
 | (y,k) :: r,n,acc=>by
  unfold cellsFrom
  split
  ·rw [cellsFrom_acc r (n + 1) ((y,n) :: acc),cellsFrom_acc r (n + 1) [(y,n)]]; simp
  ·exact cellsFrom_acc r n acc
theorem cellsFrom_mem:∀ (names:List (Str × NameKind)) (n:Nat) {x:Str},(x,NameKind.cell) ∈ names -> ∃ c,(cellsFrom n names []).lookup x = some c
 | [],_,_,h=>nomatch h
 | (y,k) :: r,n,x,h=>by
  unfold cellsFrom
  rcases List.mem_cons.mp h with h | h
  ·have e:=(Prod.mk.inj h).1
   have ek:=(Prod.mk.inj h).2
   subst ek
   subst e
   rw [if_pos (by simp),cellsFrom_acc]
   cases q:(cellsFrom (n + 1) r []).lookup x with
   | some c=>exact ⟨c,by rw [List.lookup_append,q]; rfl⟩
   | none=>exact ⟨n,by rw [List.lookup_append,q]; simp⟩
  ·obtain ⟨c,hc⟩:=cellsFrom_mem r (if k == .cell then n + 1 else n) h
   split
   ·rename_i hk
    rw [if_pos hk] at hc
    exact ⟨c,by rw [cellsFrom_acc,List.lookup_append,hc]; rfl⟩
   ·rename_i hk
    rw [if_neg hk] at hc
    exact ⟨c,hc⟩
theorem cellsFrom_key:∀ (names:List (Str × NameKind)) (n:Nat) {x:Str} {c:Addr},(x,c) ∈ cellsFrom n names [] -> (x,NameKind.cell) ∈ names
 | [],_,_,_,h=>nomatch h
 | (y,k) :: r,n,x,c,h=>by
  unfold cellsFrom at h
  split at h
  ·rename_i hk
   rw [cellsFrom_acc] at h
   rcases List.mem_append.mp h with h | h
   ·exact .tail _ (cellsFrom_key r _ h)
   ·cases List.mem_singleton.mp h
    rw [beq_iff_eq.mp hk]; exact .head _
  ·exact .tail _ (cellsFrom_key r _ h)
theorem newEnv_comp {M:Model} {A:Around} {E:Value -> Shared -> Prop} {s:Shared} {scope:Scope} {globals:Addr} {cl:List (Str × Addr)} {qual:Str} {env:Env} {Q:Env -> Shared -> Prop}
  (hQ:Q { scope,locals:=s.heap.objs.size,globals,cells:=cellsFrom (s.heap.objs.size + 1) scope.names [] ++ cl,qual,func:=none,code:=env.code,frame:=env.frame,builtins:=env.builtins }
   {s with heap:=pushCells (s.heap.push { cls:=.type "dict",data:=.dict #[] }) scope.names }) :
  wpAny M A (newFunctionEnv scope globals cl [] qual none .none (some env)) Q E s:=by
 simp only [newFunctionEnv,Option.isSome_some,if_true]
 refine wpAny_bind (wpAny_alloc ?_)
 refine wpAny_bind (wpAny_layCells _ (fun name kind cells=>by cases kind == NameKind.cell <;> simp) _ _ _ _ ?_)
 rw [show ({ s with heap:=s.heap.push { cls:=.type "dict",data:=.dict #[] } }:Shared).heap.objs.size = s.heap.objs.size + 1 from Heap.size_push ..,cellsFrom_acc]
 rw [List.forIn_nil]
 exact wpAny_bind (wpAny_pure (wpAny_pure hQ))
end
section
structure AccAt (C:Cx) (B:Base) (U:Addr -> Prop) (O:Own) (env:Env) (σ:Vars) (Ac:Addr) (ys:List D) (s:Shared):Prop where
 sim:SimO C B U O env σ s
 o:O Ac = none
 u:U Ac
 b:B.get Ac = none
 h0:C.h0.get? Ac = none
 t:Ac ∉ C.T
 lst:∃ vs,Lst s.heap Ac vs /\ IsDs C (Zf U O) s.heap vs ys
noncomputable def EmP (C:Cx) (k:Nat) (env:Env) (σ:Vars) (t:Value -> Sem Unit) (outs:List D) (J:Vars -> Prop):Prop :=
 ∀ B U O A s Ac ys,Room k A -> AccAt C B U O env σ Ac ys s -> ys.length + outs.length <= 1000000 -> wpAny C.M A (t (.ref Ac)) (fun _ s'=>∃ σ',AccAt C B U O env σ' Ac (ys ++ outs) s' /\ J σ') nf s
section
variable {C:Cx} {env:Env} {σ σ':Vars} {k:Nat}
variable {B:Base} {U:Addr -> Prop} {O O':Own} {s s' s₂:Shared} {h':Heap} {Ac:Addr} {ys:List D}
theorem AccAt.ext (X:AccAt C B U O env σ Ac ys s) (e:Ext C s s'):AccAt C B U O env σ Ac ys s' :=
 ⟨X.sim.ext e,X.o,X.u,X.b,X.h0,X.t,let ⟨vs,h1,h2⟩:=X.lst; ⟨vs,h1.kept fun o g=>e.keep Ac o X.t g,h2.ext e X.sim.zt⟩⟩
theorem append_lst {A:Around} {l:Addr} {vs:List Value} {x:Value} {Q:Value -> Shared -> Prop} (hl:Lst s.heap l vs) (hsz:vs.length <= 1000000)
  (hQ:∀ h',Lst h' l (vs ++ [x]) -> Heap.SameBut l s.heap h' -> Q .none { s with heap:=h' }):wpAny C.M A (call (.builtin "list.append") [.ref l,x]) Q nf s:=by
 obtain ⟨n,e⟩:=hl
 refine call_meets PySem.F.slot_list_append ⟨_,e,rfl⟩ PySem.F.entry_list_append (PySem.F.args_list_append_2 _ _) (AutoListH.list_append_list_val_0 l vs.toArray n x (by rw [sizeLine_eq]; simp; omega)) ⟨e,?_⟩
 refine hQ _ ?_ (Heap.SameBut.update ..)
 refine ⟨if (vs.toArray.push x).size == vs.toArray.size then n else n + 1,?_⟩
 rw [Heap.get?_update_self (Obj.mapSeq (·.push x)) e (by simp [Obj.mapSeq,Obj.isFreed])]
 simp [Obj.mapSeq]
theorem EmP.emit {elt:Expr} {d:D} {J:Vars -> Prop} (he:Ev C k env σ elt d) (hJ:J σ):EmP C k env σ (fun acc=>do let _ <- call (.builtin "list.append") [acc,<- eval elt env]) [d] J:=by
 intro B U O A s Ac ys R X hl
 refine wpAny_bind (wpT (he B U O A s R X.sim) fun v s₁ hZ2=>?_); obtain ⟨x1,i1⟩:=hZ2
 have X1:=X.ext x1
 obtain ⟨vs,h1,h2⟩:=X1.lst
 have hlen:=h2.length
 simp only [List.length_singleton] at hl
 refine wpAny_bind (append_lst h1 (by omega) fun h' hl' hs=>wpAny_pure ?_)
 obtain ⟨n,e⟩:=h1
 have hk:∀ b o,b ≠ Ac -> s₁.heap.get? b = some o -> h'.get? b = some o:=fun b o n e=>(hs.2 b n).trans e
 have S':SimO C B U O env σ { s₁ with heap:=h' }:=X1.sim.poke (tk:=s₁.toks) (dr:=s₁.drawn) X.o X.u X.b X.h0 X.t e (fun vs q=>by cases q) hk (let ⟨n',e'⟩:=hl'; ⟨_,e'⟩)
 have nD:∀ b,¬ Zf U O b -> b ≠ Ac:=fun b n q=>n (.inl (q ▸ X.u))
 exact ⟨σ,⟨S',X.o,X.u,X.b,X.h0,X.t,vs ++ [v],hl',(h2.mono (fun b o n g=>hk b o (nD b n) g) fun _ _ n _=>n).snoc (i1.mono (fun b o n g=>hk b o (nD b n) g) fun _ _ n _=>n)⟩,hJ⟩
noncomputable def TsOk (C:Cx) (k:Nat) (env:Env) (σ:Vars):List Expr -> Bool -> Prop
 | [],b=>b = true
 | c :: cs,b=>∃ b1,Te C k env σ c b1 /\ (if b1 = true then TsOk C k env σ cs b else b = false)
noncomputable abbrev runTests (ifs:List Expr) (env:Env):Sem Bool:=forIn ifs true fun c r=>if r = true then do let ok <- isTrue c env (eval c env); pure (ForInStep.yield ok) else pure (ForInStep.yield r)
theorem tests_false {A:Around} {Q:Bool -> Shared -> Prop}:∀ (ifs:List Expr) {s:Shared},Q false s -> wpAny C.M A (forIn ifs false fun c r=>if r = true then do let ok <- isTrue c env (eval c env); pure (ForInStep.yield ok) else pure (ForInStep.yield r)) Q nf s
 | [],s,h=>by rw [List.forIn_nil]; exact wpAny_pure h
 | c :: cs,s,h=>by
  rw [List.forIn_cons]
  refine wpAny_bind ?_
  rw [if_neg (by decide)]
  exact wpAny_pure (tests_false cs h)
theorem TsOk.run {A:Around} (R:Room k A):∀ {ifs:List Expr} {b:Bool} {s:Shared},TsOk C k env σ ifs b -> SimO C B U O env σ s -> wpAny C.M A (runTests ifs env) (fun v s'=>Ext C s s' /\ v = b) nf s
 | [],b,s,h,S=>by
  show wpAny _ _ (forIn [] true _) _ _ _
  rw [List.forIn_nil]; exact wpAny_pure ⟨.refl S.ok,h.symm⟩
 | c :: cs,b,s,⟨b1,h1,h2⟩,S=>by
  show wpAny _ _ (forIn (c :: cs) true _) _ _ _
  rw [List.forIn_cons]
  refine wpAny_bind ?_
  rw [if_pos rfl]
  refine wpAny_bind (wpT (h1 B U O A s R S) fun v s₁ ⟨x1,e1⟩=>wpAny_pure ?_)
  subst e1
  cases v with
  | true=>exact wpT (TsOk.run R h2 (S.ext x1)) fun v s₂ hY46=>⟨x1.trans hY46.1,hY46.2⟩
  | false=>exact tests_false cs ⟨x1,by simpa using h2.symm⟩
theorem EmP.tests {ifs:List Expr} {t:Value -> Sem Unit} {b:Bool} {outs:List D} {J:Vars -> Prop} (h1:TsOk C k env σ ifs b) (h2:b = true -> EmP C k env σ t outs J) (h3:b = false -> outs = [] /\ J σ) :
  EmP C k env σ (fun acc=>do let ok <- runTests ifs env; if ok = true then t acc else pure ()) outs J:=by
 intro B U O A s Ac ys R X hl
 refine wpAny_bind (wpT (h1.run R X.sim) fun v s₁ hZ2=>?_); obtain ⟨x1,e1⟩:=hZ2
 subst e1
 have X1:=X.ext x1
 cases v with
 | true=>exact h2 rfl B U O A s₁ Ac ys R X1 hl
 | false =>
  obtain ⟨e,hJ⟩:=h3 rfl
  subst e
  exact wpAny_pure ⟨σ,by simpa using X1,hJ⟩
theorem EmP.mono {t t':Value -> Sem Unit} {outs:List D} {J J':Vars -> Prop} (h:EmP C k env σ t outs J) (ht:∀ v,t' v = t v) (hJ:∀ σ,J σ -> J' σ):EmP C k env σ t' outs J' :=
 fun B U O A s Ac ys R X hl=>by rw [ht]; exact wpT (h B U O A s Ac ys R X hl) fun _ s' ⟨σ',a,b⟩=>⟨σ',a,hJ _ b⟩
end
end
section
section
variable {C:Cx} {env:Env} {σ σ':Vars} {k:Nat}
variable {B:Base} {U:Addr -> Prop} {O O':Own} {s s' s₂:Shared} {h':Heap} {Ac:Addr} {ys:List D}
structure ItIn (C:Cx) (B:Base) (U:Addr -> Prop) (O:Own) (Ac:Addr) (s₂:Shared) (I:Addr) (fp:List Addr) (items:List D) (P:Nat -> Value -> Prop) (St:Nat -> Heap -> Prop):Prop where
 walks:∀ A:Around,A.handled = none -> Walks C.prog C.w A I fp [I] items.length P St
 shape:∀ i h,St i h -> ∀ b ∈ fp,∃ o,h.get? b = some o /\ OkObj o
 fpo:∀ b ∈ fp,O b = none /\ b ∉ C.T /\ b ≠ Ac
 mem:I ∈ fp
 u:U I
 b:B.get I = none
 h0:C.h0.get? I = none
 val:∀ i v,i < items.length -> P i v -> ∃ d,items[i]? = some d /\ IsD C (Zf U O) s₂.heap v d
noncomputable def outsTo (outs:Nat -> List D):Nat -> List D
 | 0=>[]
 | n + 1=>outsTo outs n ++ outs n
theorem comp_loop {elt:Expr} {gens:List Comprehension} {scope:Scope} {cpos:Pos} {depth:Nat} {target:Expr} {p:Pos} {body:Value -> Sem Unit} {items:List D}
  (hturn:∀ it acc,compTurn (.ListComp elt gens scope cpos) depth it acc env = (standAt p >>= fun _=>pyNext it >>= fun r=>match r with
   | none=>pure (.done .next)
   | some v=>letOwnedTupleGo target it v >>= fun _=>assign target env v >>= fun _=>body acc >>= fun _=>again (.compLoop (.ListComp elt gens scope cpos) depth it acc env)))
  (J:Nat -> Vars -> Prop) (outs:Nat -> List D)
  (hbody:∀ i d σ₁,items[i]? = some d -> J i σ₁ -> AsG C k env σ₁ target d fun σ₂=>EmP C k env σ₂ body (outs i) (J (i + 1)))
  {A:Around} (R:Room k A) (X:AccAt C B U O env σ Ac ys s₂) (hJ:J 0 σ) {I:Addr} {fp:List Addr} {P:Nat -> Value -> Prop} {St:Nat -> Heap -> Prop} (W:ItIn C B U O Ac s₂ I fp items P St) (hst:St 0 s₂.heap)
  (hl:ys.length + (outsTo outs items.length).length <= 1000000) {RR:Result -> Shared -> Prop}
  (hR:∀ s' σ',AccAt C B (fun b=>U b /\ b ≠ I) O env σ' Ac (ys ++ outsTo outs items.length) s' -> J items.length σ' -> (∀ b o,s₂.heap.get? b = some o -> NoCell o -> O b = none -> b ∉ C.T -> b ≠ I -> b ≠ Ac -> s'.heap.get? b = some o) -> RR (.ok .next) s') :
  codeAny C.M A (.compLoop (.ListComp elt gens scope cpos) depth (.ref I) (.ref Ac) env) RR s₂:=by
 have Wk:=W.walks A R.hd
 have hmon:∀ i j,i <= j -> (outsTo outs i).length <= (outsTo outs j).length:=fun i j h=>by
  induction h with
  | refl=>exact Nat.le_refl _
  | step _ ih=>exact Nat.le_trans ih (by rw [outsTo,List.length_append]; omega)
 obtain ⟨Rv,mk,el⟩:∃ Rv:Nat -> Shared -> Prop,(∀ n s',(∃ i σ',n = items.length - i /\ i <= items.length /\ AccAt C B U O env σ' Ac (ys ++ outsTo outs i) s' /\ St i s'.heap /\ J i σ' /\ (∀ b o,s₂.heap.get? b = some o -> NoCell o -> O b = none -> b ∉ C.T -> b ≠ I -> b ≠ Ac -> s'.heap.get? b = some o)) -> Rv n s') /\ ∀ n s',Rv n s' -> ∃ i σ',n = items.length - i /\ i <= items.length /\ AccAt C B U O env σ' Ac (ys ++ outsTo outs i) s' /\ St i s'.heap /\ J i σ' /\ (∀ b o,s₂.heap.get? b = some o -> NoCell o -> O b = none -> b ∉ C.T -> b ≠ I -> b ≠ Ac -> s'.heap.get? b = some o):=⟨_,fun _ _ h=>h,fun _ _ h=>h⟩
 refine codeAny_loop rfl Rv ?_ items.length (mk _ _ ⟨0,σ,by simp,Nat.zero_le _,by simpa [outsTo] using X,hst,hJ,fun b o g _ _ _ _ _=>g⟩)
 intro n s' hRv
 obtain ⟨i,σ',rfl,hi,X',hst,hJ,hkeep⟩:=el n s' hRv
 show wpAny _ A ((compTurn (.ListComp elt gens scope cpos) depth (.ref I) (.ref Ac) env).onRaise (fun x=>do noteFrame x env; theTreesLotGoes x)) _ _ s'
 refine wpAny_noted ?_
 rw [hturn]
 obtain ⟨oI',gI',kI'⟩:=W.shape i _ hst I W.mem
 have ⟨OI,TI,IA⟩:=W.fpo I W.mem
 refine wpAny_mono (Q:=fun fin s''=>match fin with | .done f=>RR (.ok f) s'' | .again c'=>c' = .compLoop (.ListComp elt gens scope cpos) depth (.ref I) (.ref Ac) env /\ ∃ m,m < items.length - i /\ Rv m s'') (E:=nf) ?_ (fun _ _ q=>q) fun _ _ q=>q.elim
 refine wpAny_bind (wpAny_standAt (wpAny_bind ?_))
 by_cases hlt:i < items.length
 ·refine Wk.item i s' _ _ hlt hst fun v h₁ tk₁ hP hst₁ hk₁=>?_
  have hk₁':∀ b o,b ≠ I -> s'.heap.get? b = some o -> h₁.get? b = some o:=fun b o nb g=>hk₁ b o (by simpa using nb) g
  obtain ⟨oI₁,gI₁,kI₁⟩:=W.shape _ _ hst₁ I W.mem
  let s₁:Shared:={ heap:=h₁,gens:=s'.gens,drawn:=s'.drawn,toks:=tk₁,os:=s'.os }
  have S₁:SimO C B U O env σ' s₁:=X'.sim.poke OI W.u W.b W.h0 TI gI' kI'.nf hk₁' ⟨oI₁,gI₁⟩
  have nI:∀ b,¬ Zf U O b -> b ≠ I:=fun b n q=>n (.inl (q ▸ W.u))
  have nA:∀ b,¬ Zf U O b -> b ≠ Ac:=fun b n q=>n (.inl (q ▸ X.u))
  have nT:∀ b,¬ Zf U O b -> b ∉ C.T:=fun b n q=>n (X.sim.zt b q)
  have X₁:AccAt C B U O env σ' Ac (ys ++ outsTo outs i) s₁:=⟨S₁,X.o,X.u,X.b,X.h0,X.t,let ⟨vs,f1,f2⟩:=X'.lst; ⟨vs,f1.kept fun o g=>hk₁' Ac o (Ne.symm IA) g,f2.mono (fun b o n g=>hk₁' b o (nI b n) g) fun _ _ n _=>n⟩⟩
  obtain ⟨d,hd,iv⟩:=W.val i v hlt hP
  have iv':IsD C (Zf U O) h₁ v d:=iv.monoC (fun b o n nc g=>hk₁' b o (nI b n) (hkeep b o g nc (zn n) (nT b n) (nI b n) (nA b n))) fun _ _ n _ _=>n
  obtain ⟨B',OB⟩:=over_base S₁ fun b=>b ≠ Ac
  have hBA:B'.get Ac = none:=by
   cases q:B'.get Ac with
   | none=>rfl
   | some o=>exact (OB.inv Ac o q).elim (fun w=>absurd rfl w.2.2.2.2) fun w=>by rw [X.b] at w; cases w
  have SB:=OB.sim
  have hback:=fun {O'' σ'' s''}=>OB.back (O'':=O'') (σ'':=σ'') (s'':=s'')
  refine wpAny_bind (wpT (hbody i d σ' hd hJ B' U O A s₁ v I R SB iv' ⟨oI₁,gI₁,kI₁⟩) fun _ s₃ h3=>wpAny_bind (wpT h3 fun _ s₄ hZ2=>?_)); obtain ⟨σ₂,S4,kb,hem⟩:=hZ2
  have X4:AccAt C B' U O env σ₂ Ac (ys ++ outsTo outs i) s₄:=⟨S4,X.o,X.u,hBA,X.h0,X.t,let ⟨vs,f1,f2⟩:=X₁.lst; ⟨vs,f1.kept fun o g=>kb Ac o X.o g,f2.kb kb⟩⟩
  have hlen:(ys ++ outsTo outs i).length + (outs i).length <= 1000000:=by
   have:=hmon (i + 1) items.length hlt
   rw [outsTo,List.length_append] at this
   rw [List.length_append]; omega
  refine wpAny_bind (wpT (hem B' U O A s₄ Ac _ R X4 hlen) fun _ s₅ ⟨σ₃,X5,hJ'⟩=>wpAny_pure ⟨rfl,items.length - (i + 1),by omega,mk _ _ ⟨i + 1,σ₃,rfl,hlt,?_,?_,hJ',fun b o g nc n1 n2 n3 n4=>?_⟩⟩)
  ·refine ⟨hback X5.sim,X.o,X.u,X.b,X.h0,X.t,?_⟩
   have:=X5.lst
   rw [List.append_assoc] at this
   rw [outsTo]; exact this
  ·refine Wk.frame _ _ _ hst₁ fun b hb o g=>?_
   obtain ⟨o',f1,f2⟩:=W.shape _ _ hst₁ b hb
   rw [g] at f1; cases f1
   obtain ⟨w1,w2,w3⟩:=W.fpo b hb
   exact X5.sim.keepB b o (OB.put b o g f2.nc w1 w2 w3)
  ·exact X5.sim.keepB b o (OB.put b o (hk₁' b o n3 (hkeep b o g nc n1 n2 n3 n4)) nc n1 n2 n4)
 ·have hin:i = items.length:=by omega
  refine Wk.done s' _ _ (hin ▸ hst) fun h₁ tk₁ hk₁=>wpAny_pure ?_
  have hk₁':∀ b o,b ≠ I -> s'.heap.get? b = some o -> h₁.get? b = some o:=fun b o nb g=>hk₁ b o (by simpa using nb) g
  have nI:∀ b,¬ Zf U O b -> b ≠ I:=fun b n q=>n (.inl (q ▸ W.u))
  refine hR _ σ' ⟨?_,X.o,⟨X.u,Ne.symm IA⟩,X.b,X.h0,X.t,?_⟩ (hin ▸ hJ) fun b o g nc n1 n2 n3 n4=>hk₁' b o n3 (hkeep b o g nc n1 n2 n3 n4)
  ·exact X'.sim.pokeV (fun b hb=>⟨X.sim.tu b hb,fun q=>TI (q ▸ hb)⟩) (fun b q=>q.1) OI W.u W.b W.h0 TI gI' kI'.nf hk₁' fun q=>absurd rfl q.2
  ·obtain ⟨vs,f1,f2⟩:=X'.lst
   rw [<- hin]
   exact ⟨vs,f1.kept fun o g=>hk₁' Ac o (Ne.symm IA) g,f2.mono (fun b o n g=>hk₁' b o (nI b n) g) fun b o n g q=>n (q.imp (·.1) id)⟩
end
end
section
noncomputable def AV.hasCell:AV -> Bool
 | .no=>false
 | _=>true
noncomputable def capAv (σ:Vars) (k:NameKind):Option Nat -> AV
 | some i=>match σ[i]? with
  | some (.d d)=>.sd d
  | some (.sd d)=>.sd d
  | _=>.no
 | none=>match k with
  | .cell=>.emp
  | _=>.no
noncomputable def capVars (σ:Vars):List (Str × NameKind) -> List (Option Nat) -> Vars
 | (_,k) :: ns,m :: ms=>capAv σ k m :: capVars σ ns ms
 | _,_=>[]
noncomputable def capB (outer inner:List (Str × NameKind)) (m:List (Option Nat)):Bool :=
 inner.length == m.length && (inner.zip m).all fun p=>match p.2 with
  | some i=>p.1.2 == .free && (match outer[i]? with | some (y,k')=>y == p.1.1 && (k' == .cell || k' == .free) | none=>false)
  | none=>p.1.2 != .free
noncomputable def capH (σ:Vars) (m:List (Option Nat)):Bool:=m.all fun | some i=>(match σ[i]? with | some av=>av.hasCell | none=>false) | none=>true
theorem capVars_get {σ:Vars}:∀ {ns:List (Str × NameKind)} {ms:List (Option Nat)} {j:Nat} {x:Str} {k:NameKind} {av:AV},ns[j]? = some (x,k) -> (capVars σ ns ms)[j]? = some av -> ∃ m,ms[j]? = some m /\ av = capAv σ k m
 | [],_,j,_,_,_,e,_=>nilGet e
 | (y,k') :: ns,[],j,_,_,_,_,e=>nilGet e
 | (y,k') :: ns,m :: ms,0,x,k,av,e1,e2=>by
  cases Option.some.inj e1
  exact ⟨m,rfl,(Option.some.inj e2).symm⟩
 | (y,k') :: ns,m :: ms,j + 1,x,k,av,e1,e2=>capVars_get (ns:=ns) (ms:=ms) (j:=j) e1 e2
section
variable {C:Cx} {env:Env} {σ σ':Vars} {k:Nat}
variable {B:Base} {U:Addr -> Prop} {O O':Own} {s s' s₂:Shared} {h':Heap} {Ac:Addr} {ys:List D}
theorem capB_get {outer inner:List (Str × NameKind)} {m:List (Option Nat)} (h:capB outer inner m = true) {j:Nat} {x:Str} {k:NameKind} (e:inner[j]? = some (x,k)) :
  (k = .free /\ ∃ i k',m[j]? = some (some i) /\ outer[i]? = some (x,k') /\ (k' = .cell \/ k' = .free)) \/ (k ≠ .free /\ m[j]? = some none):=by
 unfold capB at h
 rw [Bool.and_eq_true] at h
 have hl:inner.length = m.length:=beq_iff_eq.mp h.1
 have lt:j < inner.length:=(List.getElem?_eq_some_iff.mp e).1
 obtain ⟨mj,hm⟩:∃ mj,m[j]? = some mj:=⟨m[j]'(hl ▸ lt),List.getElem?_eq_getElem _⟩
 have hz:(inner.zip m)[j]? = some ((x,k),mj):=by rw [List.getElem?_zip_eq_some]; exact ⟨e,hm⟩
 have:=List.all_eq_true.mp h.2 _ (List.mem_of_getElem? hz)
 cases mj with
 | none=>exact .inr ⟨by simpa using this,hm⟩
 | some i =>
  simp only [Bool.and_eq_true] at this
  obtain ⟨h1,h2⟩:=this
  cases q:outer[i]? with
  | none=>rw [q] at h2; cases h2
  | some p =>
   obtain ⟨y,k'⟩:=p
   rw [q] at h2
   simp only [Bool.and_eq_true,beq_iff_eq,Bool.or_eq_true] at h2
   obtain ⟨rfl,h4⟩:=h2
   exact .inl ⟨by simpa using h1,i,k',hm,q,h4⟩
theorem VarOk.cellAt {m:Str -> Option Value} {h:Heap} {i:Nat} {x:Str} {k':NameKind} {av:AV} (hk:k' = .cell \/ k' = .free) (hv:VarOk C B U O env m h i x k' av) (hh:av.hasCell = true):∃ c,env.cells.lookup x = some c:=by
 have key:∀ v,HoldsO env m h O i x k' v -> ∃ c,env.cells.lookup x = some c:=fun v q=>by
  rcases q with ⟨q,_⟩ | ⟨_,c,q,_⟩
  ·subst q; simp at hk
  ·exact ⟨c,q⟩
 cases av with
 | no=>cases hh
 | emp=>exact let ⟨_,c,w,q,_⟩:=hv; ⟨c,q⟩
 | d d=>exact let ⟨v,q,_⟩:=hv; key v q
 | sd d=>exact let ⟨_,c,v,q,_⟩:=hv; ⟨c,q⟩
 | own l=>exact let ⟨a,vs,q,_⟩:=hv; key _ q
 | val u=>exact hv.elim (key _) fun ⟨_,c,o,c1,_⟩=>⟨c,c1⟩
 | lex L st=>exact hv.1.elim (key _) fun ⟨_,c,o,c1,_⟩=>⟨c,c1⟩
theorem VarOk.cellData {m:Str -> Option Value} {h:Heap} {i:Nat} {x:Str} {k':NameKind} {d:D} (hk:k' = .cell \/ k' = .free) (hB:∀ b o,B.get b = some o -> h.get? b = some o) {av:AV} (hv:VarOk C B U O env m h i x k' av) (ha:av = .d d \/ av = .sd d) :
  ∃ c v o,env.cells.lookup x = some c /\ h.get? c = some o /\ o.data = .cell (some v) /\ IsD C (Zf U O) h v d:=by
 rcases ha with rfl | rfl
 ·obtain ⟨v,q,i1⟩:=hv
  rcases q with ⟨q,_⟩ | ⟨_,c,q,_,o,g,e⟩
  ·subst q; simp at hk
  ·exact ⟨c,v,o,q,g,e,i1⟩
 ·obtain ⟨_,c,v,q,⟨o,g,e⟩,i1⟩:=hv
  exact ⟨c,v,o,q,hB _ _ g,e,i1⟩
theorem AtSc.kindCF {sc:Scope} (h:AtSc env sc) {i:Nat} {x:Str} {k:NameKind} (e:sc.names[i]? = some (x,k)) (hk:k = .cell \/ k = .free):∃ k',env.scope.names[i]? = some (x,k') /\ (k' = .cell \/ k' = .free):=by
 obtain ⟨k',e',h1,h2⟩:=h.get e
 refine ⟨k',e',?_⟩
 rcases hk with rfl | rfl
 ·exact .inl (h1 (by decide))
 ·exact (h2 rfl).symm
theorem relabel_keys (sc:Scope) (env:Env):(relabel sc env).names.map (·.1) = sc.names.map (·.1):=by
 unfold relabel
 rw [List.map_map]
 apply List.map_congr_left
 intro p _
 obtain ⟨n,k⟩:=p
 show (if _ then (n,NameKind.cell) else (n,k)).1 = n
 split <;> rfl
theorem comp_core {elt target iter:Expr} {ifs:List Expr} {gs:List Comprehension} {scope sc:Scope} {cpos pos p0:Pos} {items:List D} {use:Option (Value -> Sem Unit)} {Q:Value -> Shared -> Prop} {A:Around}
  (hA:AtSc env sc) (m:List (Option Nat)) (hcap:capB sc.names scope.names m = true) (hcapH:capH σ m = true) (hnd:(scope.names.map (·.1)).Nodup) (hkind:scope.kind = .function)
  (body:Env -> Value -> Sem Unit)
  (hturn:∀ cenv it acc,compTurn (.ListComp elt (⟨target,iter,ifs,0⟩ :: gs) scope cpos) 0 it acc cenv = (standAt p0 >>= fun _=>pyNext it >>= fun r=>match r with
   | none=>pure (.done .next)
   | some v=>letOwnedTupleGo target it v >>= fun _=>assign target cenv v >>= fun _=>body cenv acc >>= fun _=>again (.compLoop (.ListComp elt (⟨target,iter,ifs,0⟩ :: gs) scope cpos) 0 it acc cenv)))
  (hit:EvIt C k env σ iter items) (J:Nat -> Vars -> Prop) (outs:Nat -> List D) (hJ:J 0 (capVars σ scope.names m))
  (hbody:∀ cenv,cenv.scope = relabel scope env -> ∀ i d σ₁,items[i]? = some d -> J i σ₁ -> AsG C k cenv σ₁ target d fun σ₂=>EmP C k cenv σ₂ (body cenv) (outs i) (J (i + 1)))
  (hl:(outsTo outs items.length).length <= 1000000) (hs:∀ x,foldedSetIterable iter env x = pure x) (R:Room k A) (S:SimO C B U O env σ s)
  (hK:∀ s' Ac L',Ext C s s' -> s.heap.get? L' = none -> s.heap.get? Ac = none -> (∃ m,s'.heap.Ns L' m) -> IsD C (fun b=>Zf U O b \/ b = L') s'.heap (.ref Ac) (.lst (outsTo outs items.length)) -> compPost C.M A nf use Q (.ref Ac) L' (.ok .next) s') :
  wpAny C.M A (comprehension (.ListComp elt (⟨target,iter,ifs,0⟩ :: gs) scope cpos) scope env pos (newList []) false (eval iter env) use) Q nf s:=by
 obtain ⟨mo,hmo,hvo⟩:=S.vars
 have hfree:∀ x k,(x,k) ∈ scope.names -> k = .free -> (env.cells.lookup x).isSome = true:=fun x k hm hk=>by
  subst hk
  obtain ⟨j,hj⟩:=List.getElem?_of_mem hm
  rcases capB_get hcap hj with ⟨_,i,k',e1,e2,e3⟩ | ⟨q,_⟩
  ·obtain ⟨k'',f1,f2⟩:=hA.kindCF e2 e3
   have q:=List.all_eq_true.mp hcapH _ (List.mem_of_getElem? e1)
   dsimp only at q
   cases r:σ[i]? with
   | none=>rw [r] at q; cases q
   | some av =>
    rw [r] at q
    obtain ⟨c,hc⟩:=(hvo i x k'' av f1 r).cellAt f2 q
    rw [hc]; rfl
  ·exact absurd rfl q
 obtain ⟨cl,hcl,hcl1,hcl2⟩:=closureFor_some hfree
 refine wpAny_comprehension_free rfl hs hcl hkind (fun y hy e=>?_) (wpT (hit B U O A s R S) fun x s₁ h1=>wpT h1 fun it s₂ ⟨x2,I,fp,P,St,e,W⟩=>?_)
 ·obtain ⟨j,hj⟩:=List.getElem?_of_mem hy
  have:=lookup_of_get hnd (i:=j) (x:=y.1) (k:=y.2) (by rw [hj])
  rw [this,e]
 subst e
 refine wpAny_newObj_type (newEnv_comp ?_)
 generalize hH3:s₂.heap.push { cls:=.type "list",data:=.seq ([]:List Value).toArray } = H3
 have hAcL:H3.objs.size = s₂.heap.objs.size + 1:=by rw [<- hH3,Heap.size_push]
 generalize hAcE:s₂.heap.objs.size = Ac
 generalize hLE:H3.objs.size = L
 rw [hAcE,hLE] at hAcL
 generalize hH4:pushCells (H3.push { cls:=.type "dict",data:=.dict #[] }) scope.names = H4
 generalize hown:cellsFrom (L + 1) scope.names [] = own
 have ok:=cellsFrom_ok scope.names (H3.push { cls:=.type "dict",data:=.dict #[] }) (L + 1) [] ⟨fun _ _ hm=>(nomatch hm),List.Pairwise.nil⟩ (by rw [Heap.size_push,hLE]; exact Nat.le_refl _)
 rw [Heap.size_push,hLE,hown,hH4] at ok
 have k23:∀ b o,s₂.heap.get? b = some o -> H3.get? b = some o:=fun b o g=>by rw [<- hH3]; exact Heap.get?_push_of_some _ g
 have k34:∀ b o,H3.get? b = some o -> H4.get? b = some o:=fun b o g=>by rw [<- hH4]; exact pushCells_keeps _ _ _ _ (Heap.get?_push_of_some _ g)
 have k24:=fun b o g=>k34 b o (k23 b o g)
 have gAc:H4.get? Ac = some { cls:=.type "list",data:=.seq ([]:List Value).toArray }:=k34 _ _ (by rw [<- hH3,<- hAcE]; exact Heap.get?_push_size _ rfl)
 have gL:H4.Ns L fun _=>none:=by
  have:=(Heap.Ns.new H3 (.type "dict")).keeps (h':=H4) (by rw [<- hH4]; exact pushCells_keeps _ _)
  rwa [hLE] at this
 have fr2:∀ b:Nat,Ac <= b -> s₂.heap.get? b = none:=fun b hb=>Heap.get?_none_of_le (by omega)
 have frs:∀ b:Nat,Ac <= b -> s.heap.get? b = none:=fun b hb=>by
  cases q:s.heap.get? b with
  | none=>rfl
  | some o=>obtain ⟨o',g⟩:=x2.ex ⟨o,q⟩; rw [fr2 b hb] at g; cases g
 have old:∀ (b:Nat) o,s.heap.get? b = some o -> b < Ac:=fun b o g=>by
  rcases Nat.lt_or_ge b Ac with h | h
  ·exact h
  ·rw [frs b h] at g; cases g
 have oldh:∀ (b:Nat) o,C.h0.get? b = some o -> b < Ac:=fun b o g=>old b o (S.ok.keep b o g)
 have oldT:∀ (b:Nat),b ∈ C.T -> b < Ac:=fun b hb=>by obtain ⟨ps,g,_⟩:=S.ok.tab b hb; exact old b _ g
 have IAc:(I:Nat) < Ac:=by obtain ⟨o,g,_⟩:=W.shape 0 _ W.st I W.mem; exact hAcE ▸ Heap.lt_size g
 have x4:Ext C s { heap:=H4,gens:=s₂.gens,drawn:=s₂.drawn,toks:=s₂.toks,os:=s₂.os }:=x2.trans (.of_keeps x2.ok k24)
 have fpIn:∀ (b:Nat),b ∈ fp -> b < Ac:=fun b hb=>by obtain ⟨o,g,_⟩:=W.shape 0 _ W.st b hb; exact hAcE ▸ Heap.lt_size g
 classical
 let Oc:Own:=ownO L scope.names own
 let Uc:Addr -> Prop:=fun b=>Zf U O b \/ b = I \/ b = Ac
 let Bc:Base:=⟨fun b=>if b = I \/ b ∈ C.T then none else s₂.heap.get? b⟩
 have ocHi:∀ b:Nat,Oc b ≠ none -> L <= b:=fun b hb=>by
  rcases ownO_some hb with rfl | ⟨x,hx⟩
  ·exact Nat.le_refl _
  ·have:=(ok.empty x b (mem_of_lookup hx)).2; omega
 have ocLo:∀ b:Nat,b < L -> Oc b = none:=fun b hb=>by
  cases q:Oc b with
  | none=>rfl
  | some t=>have:=ocHi b (nnS q); omega
 have bcI:∀ b o,Bc.get b = some o -> s₂.heap.get? b = some o /\ b ≠ I /\ b ∉ C.T:=fun b o g=>by
  have g':(if b = I \/ b ∈ C.T then none else s₂.heap.get? b) = some o:=g
  split at g'
  ·cases g'
  ·rename_i q; exact ⟨g',fun r=>q (.inl r),fun r=>q (.inr r)⟩
 have bcM:∀ b o,s₂.heap.get? b = some o -> b ≠ I -> b ∉ C.T -> Bc.get b = some o:=fun b o g n1 n2=>by
  show (if b = I \/ b ∈ C.T then none else s₂.heap.get? b) = some o
  rw [if_neg (fun q=>q.elim n1 n2)]; exact g
 have dataUp:∀ v d,IsD C (Zf U O) s.heap v d -> IsD C (Zf Uc Oc) H4 v d:=fun v d i=>i.mono (fun b o n g=>x4.keep b o (fun q=>n (S.zt b q)) g) fun b o n g q=>by
  rcases q with (q | q | q) | q
  ·exact n q
  ·rw [q,W.fresh] at g; cases g
  ·have h2:=old b o g; exact absurd q (Nat.ne_of_lt h2)
  ·have h1:@LE.le Nat _ L b:=ocHi b q; have h2:@LT.lt Nat _ b Ac:=old b o g; omega
 let cenv:Env:={ scope:=relabel scope env,locals:=L,globals:=env.globals,cells:=own ++ cl,qual:=env.qual,func:=none,code:=env.code,frame:=env.frame,builtins:=env.builtins }
 have Sc:SimO C Bc Uc Oc cenv (capVars σ scope.names m) { heap:=H4,gens:=s₂.gens,drawn:=s₂.drawn,toks:=s₂.toks,os:=s₂.os }:=by
  refine ⟨x4.ok,⟨hkind,S.ev.glob,S.ev.blt,by rw [relabel_keys]; exact hnd⟩,fun b hb=>.inl (S.zt b hb),fun b hb=>?_,fun b o g=>k24 b o (bcI b o g).1,fun b hb=>?_,fun b hb=>⟨?_,fun q=>?_⟩,fun b hb=>?_,ownO_L,_,gL,fun j x k' av e1 e2=>?_⟩
  ·show (if b = I \/ b ∈ C.T then none else s₂.heap.get? b) = none
   rw [if_pos (.inr hb)]
  ·rcases hb with (hb | rfl | rfl) | hb
   ·exact x4.ex (S.lt b hb)
   ·obtain ⟨o,g,_⟩:=W.shape 0 _ W.st b W.mem; exact ⟨o,k24 _ _ g⟩
   ·exact ⟨_,gAc⟩
   ·rcases ownO_some hb with rfl | ⟨x,hx⟩
    ·obtain ⟨o,_,_,g,_⟩:=gL; exact ⟨o,g⟩
    ·obtain ⟨⟨o,g,_⟩,_⟩:=ok.empty x b (mem_of_lookup hx); exact ⟨o,g⟩
  ·have:=ocHi b hb
   show (if b = I \/ b ∈ C.T then none else s₂.heap.get? b) = none
   rw [fr2 b (by omega)]; simp
  ·have:=ocHi b hb
   rcases q with q | q | q
   ·obtain ⟨o,g⟩:=S.lt b q; have:=old b o g; omega
   ·exact absurd q (fun r=>by have r:@Eq Nat b I:=r; have i:@LT.lt Nat _ I Ac:=IAc; have l:@LE.le Nat _ L b:=this; omega)
   ·have r:@Eq Nat b Ac:=q; omega
  ·have:=ocHi b hb
   cases q:C.h0.get? b with
   | none=>rfl
   | some o=>have:=oldh b o q; omega
  ·-- a name of the block
   obtain ⟨f,hf1,_,_⟩:=(AtSc.relabel (cenv:=cenv) (sc:=scope) (env:=env) rfl).names
   have e1':∃ k0,scope.names[j]? = some (x,k0) /\ k' = f x k0:=by
    have:(cenv.scope.names)[j]? = some (x,k'):=e1
    rw [hf1,List.getElem?_map] at this
    cases q:scope.names[j]? with
    | none=>rw [q] at this; cases this
    | some pr=>rw [q] at this; obtain ⟨y,k0⟩:=pr; simp at this; obtain ⟨rfl,rfl⟩:=this; exact ⟨k0,rfl,rfl⟩
   obtain ⟨k0,g1,g2⟩:=e1'
   obtain ⟨k1,r1,r2,r3⟩:=(AtSc.relabel (cenv:=cenv) (sc:=scope) (env:=env) rfl).get g1
   have hk1:k1 = k':=by
    have:(cenv.scope.names)[j]? = some (x,k'):=e1
    rw [r1] at this; cases this <;> rfl
   subst hk1
   obtain ⟨mj,f1,f2⟩:=capVars_get g1 e2
   subst f2
   rcases capB_get hcap g1 with ⟨rfl,i,ko,q1,q2,q3⟩ | ⟨q0,q1⟩
   ·rw [f1] at q1; cases q1
    obtain ⟨ko',w1,w2⟩:=hA.kindCF q2 q3
    have main:∀ av0 d,σ[i]? = some av0 -> (av0 = .d d \/ av0 = .sd d) -> VarOk C Bc Uc Oc cenv (fun _=>none) H4 j x k1 (.sd d):=fun av0 d hs0 ha=>by
     obtain ⟨c,v,o,c1,c2,c3,c4⟩:=(hvo i x ko' av0 w1 hs0).cellData w2 S.keepB ha
     have hcT:c ∉ C.T:=fun q=>by
      obtain ⟨ps,g,_⟩:=S.ok.tab c q
      rw [c2] at g; cases g; cases c3
     have g₂:=x2.keep c o hcT c2
     refine ⟨(r3 rfl).symm,c,v,?_,⟨o,bcM c o g₂ (fun q=>by rw [q,W.fresh] at c2; cases c2) hcT,c3⟩,dataUp v d c4⟩
     show (own ++ cl).lookup x = some c
     have hx:own.lookup x = none:=by
      cases q:own.lookup x with
      | none=>rfl
      | some c' =>
       have:=cellsFrom_key scope.names (L + 1) (hown ▸ mem_of_lookup q)
       obtain ⟨j',hj'⟩:=List.getElem?_of_mem this
       have e1:=lookup_of_get hnd hj'
       rw [lookup_of_get hnd g1] at e1; cases e1
     rw [List.lookup_append,hx]
     exact hcl1 x c (List.mem_of_getElem? g1) c1
    cases hs0:σ[i]? with
    | none=>simp only [capAv,hs0]; trivial
    | some av0=>cases av0 with
     | d d=>simp only [capAv,hs0]; exact main _ d hs0 (.inl rfl)
     | sd d=>simp only [capAv,hs0]; exact main _ d hs0 (.inr rfl)
     | _=>simp only [capAv,hs0]; trivial
   ·rw [f1] at q1; cases q1
    unfold capAv
    cases k0 with
    | cell =>
     obtain ⟨c,hc⟩:=cellsFrom_mem scope.names (L + 1) (List.mem_of_getElem? g1)
     rw [hown] at hc
     have hcm:=ok.empty x c (mem_of_lookup hc)
     refine ⟨r2 (by decide),c,none,by show (own ++ cl).lookup x = some c; rw [List.lookup_append,hc]; rfl,ownO_cell hnd ok.apart g1 hc (by have h1:@LE.le Nat _ (L + 1) c:=hcm.2; exact fun r=>absurd (show @Eq Nat c L from r) (by omega)),hcm.1⟩
    | _=>trivial
 have fresh0:∀ b,s.heap.get? b = none -> C.h0.get? b = none:=fun b hb=>by
  cases q:C.h0.get? b with
  | none=>rfl
  | some o=>have:=S.ok.keep b o q; rw [hb] at this; cases this
 have Xc:AccAt C Bc Uc Oc cenv (capVars σ scope.names m) Ac [] { heap:=H4,gens:=s₂.gens,drawn:=s₂.drawn,toks:=s₂.toks,os:=s₂.os } :=
  ⟨Sc,ocLo Ac (by omega),.inr (.inr rfl),by show (if Ac = I \/ Ac ∈ C.T then none else s₂.heap.get? Ac) = none; rw [fr2 Ac (Nat.le_refl _)]; simp,fresh0 Ac (frs Ac (Nat.le_refl _)),fun q=>absurd (oldT Ac q) (Nat.lt_irrefl _),[],⟨0,gAc⟩,.nil⟩
 have Wc:ItIn C Bc Uc Oc Ac { heap:=H4,gens:=s₂.gens,drawn:=s₂.drawn,toks:=s₂.toks,os:=s₂.os } I fp items P St:=by
  refine ⟨W.walks,W.shape,fun b hb=>⟨ocLo b (by have:=fpIn b hb; omega),fun q=>?_,Nat.ne_of_lt (fpIn b hb)⟩,W.mem,.inr (.inl rfl),by show (if I = I \/ I ∈ C.T then none else s₂.heap.get? I) = none; rw [if_pos (.inl rfl)],fresh0 I W.fresh,fun i v hi hP=>?_⟩
  ·rcases W.fpz b hb with rfl | ⟨n,_⟩
   ·obtain ⟨ps,g,_⟩:=S.ok.tab b q; rw [W.fresh] at g; cases g
   ·exact n (S.zt b q)
  ·obtain ⟨d,h1,h2⟩:=W.val i v hi hP
   refine ⟨d,h1,h2.mono (fun b o n g=>k24 b o g) fun b o n g q=>?_⟩
   have hb:(b:Nat) < Ac:=hAcE ▸ Heap.lt_size g
   rcases q with (q | q | q) | q
   ·exact n (.inl q)
   ·exact n (.inr q)
   ·exact absurd q (Nat.ne_of_lt hb)
   ·have h1:@LE.le Nat _ L b:=ocHi b q; have h2:@LT.lt Nat _ b Ac:=hb; omega
 have st4:St 0 H4:=(W.walks A R.hd).frame _ _ _ W.st fun b _ o g=>k24 b o g
 have loop:=comp_loop (env:=cenv) (C:=C) (k:=k) (hturn cenv) J outs (hbody cenv rfl) R Xc hJ Wc st4 (by simpa using hl) (RR:=compPost C.M A nf use Q (.ref Ac) L) (fun s' σ' X' hJ' hkeep=>by
  have X'l:=X'.lst
  obtain ⟨vs,f1,f2⟩:=X'l
  have e':Ext C s s':=⟨X'.sim.ok,fun b o n g=>X'.sim.keepB b o (bcM b o (x2.keep b o n g) (fun q=>by rw [q,W.fresh] at g; cases g) n)⟩
  refine hK s' Ac L e' (frs L (by omega)) (frs Ac (Nat.le_refl _)) ?_ ?_
  ·obtain ⟨mm,hm,_⟩:=X'.sim.vars; exact ⟨mm,hm⟩
  ·have f2':IsDs C (Zf (fun b=>Uc b /\ b ≠ I) Oc) s'.heap vs (outsTo outs items.length):=by
    have:([] ++ outsTo outs items.length) = outsTo outs items.length:=List.nil_append _
    rw [<- this]; exact f2
   refine .lst _ vs _ f1 (fun q=>?_) (f2'.mono (fun b o n g=>g) fun b o n g q=>?_)
   ·rcases q with q | q
    ·obtain ⟨o,g⟩:=S.lt Ac q; have:=old Ac o g; omega
    ·have r:@Eq Nat Ac L:=q; omega
   ·rcases q with q | rfl
    ·refine n (.inl ⟨.inl q,fun r=>?_⟩)
     obtain ⟨o,g⟩:=S.lt b q; rw [r,W.fresh] at g; cases g
    ·exact n (.inr (nnS (show Oc b = some .loc from ownO_L))))
 exact codeAny_compStart_list loop ((W.walks A R.hd).self 0 _ _ _ st4 loop)
end
end
section
noncomputable abbrev emitT (elt:Expr) (env:Env) (acc:Value):Sem Unit:=do let _ <- call (.builtin "list.append") [acc,<- eval elt env]
noncomputable abbrev nestT (e:Expr) (iter:Expr) (depth:Nat) (env:Env) (acc:Value):Sem Unit:=do
 let x <- eval iter env
 standAt iter.pos
 let x <- foldedSetIterable iter env x
 let _ <- runOwn (.compStart e depth (<- holding [x] (pyIter x)) acc env) env
noncomputable abbrev testT (ifs:List Expr) (env:Env) (t:Value -> Sem Unit) (acc:Value):Sem Unit:=do
 let ok <- runTests ifs env
 if ok = true then t acc else pure ()
theorem turn_last (depth:Nat) (elt target iter:Expr) (ifs:List Expr) (gens:List Comprehension) (scope:Scope) (pos:Pos) (it acc:Value) (env:Env) (h0:gens[depth]? = some ⟨target,iter,ifs,0⟩) (h1:gens[depth + 1]? = none) :
  compTurn (.ListComp elt gens scope pos) depth it acc env = (standAt iter.pos >>= fun _=>pyNext it >>= fun r=>match r with
   | none=>pure (.done .next)
   | some v=>letOwnedTupleGo target it v >>= fun _=>assign target env v >>= fun _=>testT ifs env (emitT elt env) acc >>= fun _=>again (.compLoop (.ListComp elt gens scope pos) depth it acc env)):=by
 unfold compTurn
 simp only [h0,h1]
 show (standAt iter.pos >>= fun _=>pyNext it >>= _) = _
 congr 1; funext _; congr 1; funext r
 cases r with
 | none=>rfl
 | some v =>
  simp only [bind_assoc]
  congr 1; funext _; congr 1; funext _; congr 1; funext ok
  cases ok <;> simp
theorem turn_more (depth:Nat) (elt target iter:Expr) (ifs:List Expr) (g:Comprehension) (gens:List Comprehension) (scope:Scope) (pos:Pos) (it acc:Value) (env:Env) (h0:gens[depth]? = some ⟨target,iter,ifs,0⟩) (h1:gens[depth + 1]? = some g) (hg:g.is_async = 0) :
  compTurn (.ListComp elt gens scope pos) depth it acc env = (standAt iter.pos >>= fun _=>pyNext it >>= fun r=>match r with
   | none=>pure (.done .next)
   | some v=>letOwnedTupleGo target it v >>= fun _=>assign target env v >>= fun _=>testT ifs env (nestT (.ListComp elt gens scope pos) g.iter (depth + 1) env) acc >>= fun _=>again (.compLoop (.ListComp elt gens scope pos) depth it acc env)):=by
 unfold compTurn
 simp only [h0,h1,hg]
 show (standAt iter.pos >>= fun _=>pyNext it >>= _) = _
 congr 1; funext _; congr 1; funext r
 cases r with
 | none=>rfl
 | some v =>
  simp only [bind_assoc]
  congr 1; funext _; congr 1; funext _; congr 1; funext ok
  cases ok <;> simp
section
variable {C:Cx} {env:Env} {σ σ':Vars} {k:Nat}
variable {B:Base} {U:Addr -> Prop} {O O':Own} {s s' s₂:Shared} {h':Heap} {Ac:Addr} {ys:List D}
theorem outsTo_flatMap {f:D -> List D}:∀ (items:List D) (n:Nat),n <= items.length -> outsTo (fun i=>(items[i]?).elim [] f) n = (items.take n).flatMap f
 | items,0,_=>by simp [outsTo]
 | items,n + 1,h=>by
  rw [outsTo,outsTo_flatMap items n (by omega)]
  have e:items[n]? = some (items[n]'(by omega)):=List.getElem?_eq_getElem _
  rw [e,List.take_add_one,e,List.flatMap_append]
  simp only [Option.toList,List.flatMap_cons,List.flatMap_nil,List.append_nil]
  rfl
noncomputable def CompOk (C:Cx) (k:Nat) (scope:Scope) (env:Env) (σc:Vars) (target:Expr) (ifs:List Expr) (t:Env -> Value -> Sem Unit) (items:List D) (f:D -> List D) (upd:D -> Vars):Prop :=
 (∀ cenv,AtSc cenv scope -> ∀ d ∈ items,∀ σ₁,(σ₁ = σc \/ ∃ d' ∈ items,σ₁ = upd d') -> AsG C k cenv σ₁ target d fun σ₂=>σ₂ = upd d) /\
 (∀ cenv,AtSc cenv scope -> ∀ d ∈ items,∃ b,TsOk C k cenv (upd d) ifs b /\ (b = true -> EmP C k cenv (upd d) (t cenv) (f d) (fun σ'=>∃ d' ∈ items,σ' = upd d')) /\ (b = false -> f d = []))
theorem AsG.mono {target:Expr} {d:D} {K K':Vars -> Prop} (h:AsG C k env σ target d K) (f:∀ σ,K σ -> K' σ):AsG C k env σ target d K' :=
 fun B U O A s v it R S i hi=>wpT (h B U O A s v it R S i hi) fun _ s₁ h₁=>wpT h₁ fun _ s₂ ⟨σ',a,b,c⟩=>⟨σ',a,b,f _ c⟩
theorem comp_any {elt target iter:Expr} {ifs:List Expr} {gs:List Comprehension} {scope sc:Scope} {cpos pos:Pos} {items:List D} {use:Option (Value -> Sem Unit)} {Q:Value -> Shared -> Prop} {A:Around}
  {t:Env -> Value -> Sem Unit} {f:D -> List D} {upd:D -> Vars} {p0:Pos}
  (hA:AtSc env sc) (m:List (Option Nat)) (hcap:capB sc.names scope.names m = true) (hcapH:capH σ m = true) (hnd:(scope.names.map (·.1)).Nodup) (hkind:scope.kind = .function)
  (hturn:∀ cenv it acc,compTurn (.ListComp elt (⟨target,iter,ifs,0⟩ :: gs) scope cpos) 0 it acc cenv = (standAt p0 >>= fun _=>pyNext it >>= fun r=>match r with
   | none=>pure (.done .next)
   | some v=>letOwnedTupleGo target it v >>= fun _=>assign target cenv v >>= fun _=>testT ifs cenv (t cenv) acc >>= fun _=>again (.compLoop (.ListComp elt (⟨target,iter,ifs,0⟩ :: gs) scope cpos) 0 it acc cenv)))
  (hit:EvIt C k env σ iter items) (hb:CompOk C k scope env (capVars σ scope.names m) target ifs t items f upd)
  (hl:(items.flatMap f).length <= 1000000) (hs:∀ x,foldedSetIterable iter env x = pure x) (R:Room k A) (S:SimO C B U O env σ s)
  (hK:∀ s' Ac L',Ext C s s' -> s.heap.get? L' = none -> s.heap.get? Ac = none -> (∃ m,s'.heap.Ns L' m) -> IsD C (fun b=>Zf U O b \/ b = L') s'.heap (.ref Ac) (.lst (items.flatMap f)) -> compPost C.M A nf use Q (.ref Ac) L' (.ok .next) s') :
  wpAny C.M A (comprehension (.ListComp elt (⟨target,iter,ifs,0⟩ :: gs) scope cpos) scope env pos (newList []) false (eval iter env) use) Q nf s:=by
 have e0:outsTo (fun i=>(items[i]?).elim [] f) items.length = items.flatMap f:=by rw [outsTo_flatMap items items.length (Nat.le_refl _),List.take_length]
 refine comp_core hA m hcap hcapH hnd hkind (fun cenv=>testT ifs cenv (t cenv)) hturn hit (fun _ σ₁=>σ₁ = capVars σ scope.names m \/ ∃ d' ∈ items,σ₁ = upd d') (fun i=>(items[i]?).elim [] f) (.inl rfl)
  (fun cenv hc i d σ₁ hd hJ=>?_) (by rw [e0]; exact hl) hs R S (by rw [e0]; exact hK)
 have ha:AtSc cenv scope:=AtSc.relabel hc
 have hm:=List.mem_of_getElem? hd
 refine (hb.1 cenv ha d hm σ₁ hJ).mono fun σ₂ e=>?_
 subst e
 obtain ⟨b,h1,h2,h3⟩:=hb.2 cenv ha d hm
 rw [hd]
 exact EmP.tests h1 (fun q=>(h2 q).mono (fun _=>rfl) fun σ h=>.inr h) fun q=>⟨h3 q,.inr ⟨d,hm,rfl⟩⟩
theorem comp_expr {elt target iter:Expr} {ifs:List Expr} {gs:List Comprehension} {scope sc:Scope} {cpos:Pos} {items:List D}
  {t:Env -> Value -> Sem Unit} {f:D -> List D} {upd:D -> Vars} {p0:Pos}
  (hA:AtSc env sc) (m:List (Option Nat)) (hcap:capB sc.names scope.names m = true) (hcapH:capH σ m = true) (hnd:(scope.names.map (·.1)).Nodup) (hkind:scope.kind = .function)
  (hturn:∀ cenv it acc,compTurn (.ListComp elt (⟨target,iter,ifs,0⟩ :: gs) scope cpos) 0 it acc cenv = (standAt p0 >>= fun _=>pyNext it >>= fun r=>match r with
   | none=>pure (.done .next)
   | some v=>letOwnedTupleGo target it v >>= fun _=>assign target cenv v >>= fun _=>testT ifs cenv (t cenv) acc >>= fun _=>again (.compLoop (.ListComp elt (⟨target,iter,ifs,0⟩ :: gs) scope cpos) 0 it acc cenv)))
  (hit:EvIt C k env σ iter items) (hb:CompOk C k scope env (capVars σ scope.names m) target ifs t items f upd)
  (hl:(items.flatMap f).length <= 1000000) (hs:∀ x,foldedSetIterable iter env x = pure x) :
  Ev C k env σ (.ListComp elt (⟨target,iter,ifs,0⟩ :: gs) scope cpos) (.lst (items.flatMap f)):=by
 intro B U O A s R S
 rw [eval_ListComp]
 refine comp_any hA m hcap hcapH hnd hkind hturn hit hb hl hs R S fun s' Ac L' x fr fr2 hZ6 i=>?_; obtain ⟨mm,hm⟩:=hZ6
 refine ⟨mm,hm,fun h' hs'=>?_⟩
 have h0:C.h0.get? L' = none:=S.ok.frH fr
 have hT:L' ∉ C.T:=S.ok.frT fr
 obtain ⟨oL,es,ep,g,dd,r⟩:=hm
 have hk:∀ b o,b ≠ L' -> s'.heap.get? b = some o -> h'.get? b = some o:=fun b o n e=>(hs'.2 b n).trans e
 refine ⟨⟨x.ok.but (tk:=s'.toks) (dr:=s'.drawn) h0 hT g (fun vs q=>by rw [dd] at q; cases q) hk,fun b o n e=>hk b o (fun q=>by rw [q,fr] at e; cases e) (x.keep b o n e)⟩,?_⟩
 exact i.mono (fun b o n e=>hk b o (fun q=>n (.inr q)) e) fun b o n e q=>n (.inl q)
theorem comp_assign {elt target iter:Expr} {ifs:List Expr} {gs:List Comprehension} {scope sc:Scope} {cpos:Pos} {items:List D} {y:Str} {iy:Nat} {py spos:Pos} {Q:Fl -> Vars -> Prop}
  {t:Env -> Value -> Sem Unit} {f:D -> List D} {upd:D -> Vars} {p0:Pos}
  (hsw:swapsWith (.ListComp elt (⟨target,iter,ifs,0⟩ :: gs) scope cpos) (some (.Name y py)) spos.line env = pure true)
  (hA:AtSc env sc) (m:List (Option Nat)) (hcap:capB sc.names scope.names m = true) (hcapH:capH σ m = true) (hnd:(scope.names.map (·.1)).Nodup) (hkind:scope.kind = .function)
  (hturn:∀ cenv it acc,compTurn (.ListComp elt (⟨target,iter,ifs,0⟩ :: gs) scope cpos) 0 it acc cenv = (standAt p0 >>= fun _=>pyNext it >>= fun r=>match r with
   | none=>pure (.done .next)
   | some v=>letOwnedTupleGo target it v >>= fun _=>assign target cenv v >>= fun _=>testT ifs cenv (t cenv) acc >>= fun _=>again (.compLoop (.ListComp elt (⟨target,iter,ifs,0⟩ :: gs) scope cpos) 0 it acc cenv)))
  (hit:EvIt C k env σ iter items) (hb:CompOk C k scope env (capVars σ scope.names m) target ifs t items f upd)
  (hl:(items.flatMap f).length <= 1000000) (hs:∀ x,foldedSetIterable iter env x = pure x) (hy:IsSto env.scope σ y iy) (hQ:Q .next (σ.set iy (.d (.lst (items.flatMap f))))) :
  ExS C k env σ (.Assign [.Name y py] (.ListComp elt (⟨target,iter,ifs,0⟩ :: gs) scope cpos) spos) Q:=by
 intro B U A s R ⟨O,S⟩
 rw [exec_Assign_Name_used _ _ _ _ hsw]
 refine wpAny_bind (wpAny_standAt (wpAny_bind ?_))
 show wpAny _ A (do let _ <- comprehension (.ListComp elt (⟨target,iter,ifs,0⟩ :: gs) scope cpos) scope env _ (newList []) false (eval iter env) (some (assign (.Name y py) env))) _ _ s
 refine wpAny_bind (wpT (comp_any (use:=some (assign (.Name y py) env)) (Q:=fun _ s'=>SimO C B U O env (σ.set iy (.d (.lst (items.flatMap f)))) s') hA m hcap hcapH hnd hkind hturn hit hb hl hs R S fun s' Ac L' x fr fr2 ⟨mm,hm⟩ i=>?_)
  fun _ s' hq=>wpAny_pure (wpAny_pure ⟨O,_,.next,hq,trivial,hQ⟩))
 obtain ⟨oL,es,ep,g,dd,r⟩:=id hm
 have h0:C.h0.get? L' = none:=S.ok.frH fr
 have hT:L' ∉ C.T:=S.ok.frT fr
 have OL:O L' = none:=S.frO fr
 have BL:B.get L' = none:=S.frB fr
 have S1:SimO C B (fun b=>U b \/ b = L') O env σ s':=S.extAvoid x fr ⟨oL,g⟩
 have i1:IsD C (Zf (fun b=>U b \/ b = L') O) s'.heap (.ref Ac) (.lst (items.flatMap f)):=i.mono (fun b o n e=>e) fun b o n e q=>n (by
  rcases q with (q | q) | q
  ·exact .inl (.inl q)
  ·exact .inr q
  ·exact .inl (.inr q))
 show wpAny _ A (assign (.Name y py) env (.ref Ac)) _ _ _
 refine S1.assignName hy i1 fun s₂ S₂ kb=>?_
 have g2:=kb L' oL OL g
 refine ⟨mm,⟨oL,es,ep,g2,dd,r⟩,fun h' hs'=>?_⟩
 have hk:∀ b o,b ≠ L' -> s₂.heap.get? b = some o -> h'.get? b = some o:=fun b o n e=>(hs'.2 b n).trans e
 have hU:¬ U L':=S.frU fr
 exact S₂.pokeV (tk:=s₂.toks) (dr:=s₂.drawn) S.tu (fun b q=>.inl q) OL (.inr rfl) BL h0 hT g2 (fun vs q=>by rw [dd] at q; cases q) hk fun q=>absurd q hU
end
end
section
theorem codeAny_compStart_at {prog:Program} {w:World} {A:Around} {R:Result -> Shared -> Prop} {s:Shared} {elt target iter:Expr} {ifs:List Expr} {gens:List Comprehension} {depth:Nat} {scope:Scope} {pos:Pos} {it acc:Value} {env:Env} (hg:gens[depth]? = some ⟨target,iter,ifs,0⟩)
  (h0:codeAny (model prog w) A (.compLoop (.ListComp elt gens scope pos) depth it acc env) R s)
  (h:wpAny (model prog w) A (pyIter it) (fun it' s'=>codeAny (model prog w) A (.compLoop (.ListComp elt gens scope pos) depth it' acc env) R s')
   (notedBy (model prog w) A env fun x s'=>R (.error x) s') s) :
  codeAny (model prog w) A (.compStart (.ListComp elt gens scope pos) depth it acc env) R s:=by
 refine codeAny_of_tree ?_
 show wpAny _ _ ((compStart (.ListComp elt gens scope pos) depth it acc env).onRaise (fun x=>do noteFrame x env; standAt theWindowsPlace)) _ _ s
 refine wpAny_notedAt ?_
 unfold compStart
 have hc:(clausesOf (.ListComp elt gens scope pos))[depth]? = some ⟨target,iter,ifs,0⟩:=hg
 rw [hc]
 show wpAny _ _ (ask >>= _) _ _ s
 refine wpAny_bind (wpAny_askSetting (wpAny_ite ?_))
 split
 ·first
   | exact wpAny_bind (wpAny_pure (wpAny_pure (And.intro rfl h0)))
   | exact wpAny_pure (And.intro rfl h0)
 ·first
   | exact wpAny_bind (wpAny_rule (wpAny_bind (wpAny_standAt (wpAny_bind (wpAny_mono h (fun it' s' h'=>wpAny_pure (And.intro rfl h')) fun _ _ x=>x)))))
   | (refine wpAny_bind (wpAny_rule ?_); show wpAny _ _ (standAt iter.pos >>= _) _ _ s; exact wpAny_bind (wpAny_standAt (wpAny_bind (wpAny_mono h (fun it' s' h'=>wpAny_pure (And.intro rfl h')) fun _ _ x=>x))))
section
variable {C:Cx} {env:Env} {σ σ':Vars} {k:Nat}
variable {B:Base} {U:Addr -> Prop} {O O':Own} {s s' s₂:Shared} {h':Heap} {Ac:Addr} {ys:List D}
theorem Room.mark {A:Around} (R:Room k A):Room k (A.mark none):=⟨R.hd,R.dep,R.un⟩
theorem EmP.nest {elt target iter:Expr} {ifs:List Expr} {gens:List Comprehension} {scope:Scope} {pos:Pos} {depth:Nat} {items:List D} {f:D -> List D} {upd:D -> Vars} {J:Vars -> Prop}
  (h0:gens[depth]? = some ⟨target,iter,ifs,0⟩) (h1:gens[depth + 1]? = none)
  (hit:EvIt C k env σ iter items)
  (has:∀ d ∈ items,∀ σ₁,(σ₁ = σ \/ ∃ d' ∈ items,σ₁ = upd d') -> AsG C k env σ₁ target d fun σ₂=>σ₂ = upd d)
  (hb:∀ d ∈ items,∃ b,TsOk C k env (upd d) ifs b /\ (b = true -> ∃ d',Ev C k env (upd d) elt d' /\ f d = [d']) /\ (b = false -> f d = []))
  (hJ0:J σ) (hJ:∀ d ∈ items,J (upd d))
  (hs:∀ x,foldedSetIterable iter env x = pure x:=by intro _; with_unfolding_all rfl) :
  EmP C k env σ (nestT (.ListComp elt gens scope pos) iter depth env) (items.flatMap f) J:=by
 intro B U O A s Ac ys R X hl
 refine wpAny_bind (wpT (hit B U O A s R X.sim) fun x s₁ h1'=>wpAny_bind (wpAny_standAt (wpAny_bind (wpAny_of_eq (hs x) ?_))))
 refine wpAny_bind (wpAny_holding (wpT h1' fun it s₂ hZ2=>?_)); obtain ⟨x2,I,fp,P,St,e,W⟩:=hZ2
 subst e
 have S:=X.sim
 have e0:outsTo (fun i=>(items[i]?).elim [] f) items.length = items.flatMap f:=by rw [outsTo_flatMap items items.length (Nat.le_refl _),List.take_length]
 have nI:∀ b o,s.heap.get? b = some o -> b ≠ I:=fun b o g q=>by rw [q,W.fresh] at g; cases g
 obtain ⟨vs0,l0,i0⟩:=X.lst
 have AcI:Ac ≠ I:=by obtain ⟨n,g⟩:=l0; exact nI _ _ g
 obtain ⟨oI,gI,kI⟩:=W.shape 0 _ W.st I W.mem
 have OI:O I = none:=S.frO W.fresh
 have UI:¬ U I:=S.frU W.fresh
 have TI:I ∉ C.T:=fun q=>UI (S.tu I q)
 have BI:B.get I = none:=S.frB W.fresh
 have HI:C.h0.get? I = none:=S.ok.frH W.fresh
 have S2:SimO C B (fun b=>U b \/ b = I) O env σ s₂:=S.extAvoid x2 W.fresh ⟨oI,gI⟩
 have X2:AccAt C B (fun b=>U b \/ b = I) O env σ Ac ys s₂:=⟨S2,X.o,.inl X.u,X.b,X.h0,X.t,vs0,l0.kept fun o g=>x2.keep _ _ X.t g,i0.mono (fun b o n g=>x2.keep b o (fun q=>n (S.zt b q)) g) fun b o n g q=>by
  rcases q with (q | q) | q
  ·exact n (.inl q)
  ·exact nI _ _ g q
  ·exact n (.inr q)⟩
 have WI:ItIn C B (fun b=>U b \/ b = I) O Ac s₂ I fp items P St:=⟨W.walks,W.shape,fun b hb=>by
   rcases W.fpz b hb with rfl | ⟨n,n'⟩
   ·exact ⟨OI,TI,AcI.symm⟩
   ·exact ⟨zn n,fun q=>n (S.zt b q),fun q=>n (.inl (q ▸ X.u))⟩,W.mem,.inr rfl,BI,HI,fun i v hi hP=>by
   obtain ⟨d,g1,g2⟩:=W.val i v hi hP
   refine ⟨d,g1,g2.mono (fun b o n g=>g) fun b o n g q=>n ?_⟩
   rcases q with (q | q) | q
   ·exact .inl (.inl q)
   ·exact .inr q
   ·exact .inl (.inr q)⟩
 refine wpAny_bind (wpAny_runOwn (env:=env) ?_)
 have loop:=comp_loop (C:=C) (k:=k) (B:=B) (A:=A.mark none) (fun it acc=>turn_last depth elt target iter ifs gens scope pos it acc env h0 h1) (fun _ σ₁=>σ₁ = σ \/ ∃ d' ∈ items,σ₁ = upd d') (fun i=>(items[i]?).elim [] f)
  (fun i d σ₁ hd hJ=>by
   have hm:=List.mem_of_getElem? hd
   refine (has d hm σ₁ hJ).mono fun σ₂ e=>?_
   subst e
   obtain ⟨b,h1,h2,h3⟩:=hb d hm
   rw [hd]
   refine EmP.tests h1 (fun q=>?_) fun q=>⟨h3 q,.inr ⟨d,hm,rfl⟩⟩
   obtain ⟨d',q1,q2⟩:=h2 q
   show EmP C k env (upd d) (emitT elt env) (f d) _
   rw [q2]
   exact EmP.emit q1 (.inr ⟨d,hm,rfl⟩)) R.mark X2 (.inl rfl) WI W.st (by rw [e0]; exact hl)
  (RR:=fun r s'=>match r with
   | .ok fl=>wpAny C.M A (pure ():Sem Unit) (fun _ s'=>∃ σ',AccAt C B U O env σ' Ac (ys ++ items.flatMap f) s' /\ J σ') nf s'
   | .error e=>cameBackBy C.M A env nf e s') (fun s' σ' X' hJ' hk=>by
    rw [e0] at X'
    have hlt:=X'.sim.lessU S.tu fun b q=>⟨.inl q,fun r=>UI (r ▸ q)⟩
    obtain ⟨vs,f1,f2⟩:=X'.lst
    refine wpAny_pure ⟨σ',⟨hlt,X.o,X.u,X.b,X.h0,X.t,vs,f1,f2.mono (fun b o n g=>g) fun b o n g q=>n ?_⟩,?_⟩
    ·rcases q with q | q
     ·exact .inl ⟨.inl q,fun r=>UI (r ▸ q)⟩
     ·exact .inr q
    ·rcases hJ' with rfl | ⟨d,hd,rfl⟩
     ·exact hJ0
     ·exact hJ d hd)
 exact codeAny_compStart_at h0 loop ((W.walks (A.mark none) R.mark.hd).self 0 _ _ _ W.st loop)
theorem EmP.emit1 {elt:Expr} {d:D} {l:List D} {J:Vars -> Prop} (h:∃ d',Ev C k env σ elt d' /\ l = [d']) (hJ:J σ):EmP C k env σ (emitT elt env) l J:=by
 obtain ⟨d',q1,q2⟩:=h
 rw [q2]
 exact EmP.emit q1 hJ
end
end
section
section
variable {γ:Type} {d:γ} {P:Prop}
theorem ite_t {c:Prop} [Decidable c] {o:Option γ} (h:(if c then o else none) = some d) (k:c -> o = some d -> P):P:=by
 by_cases q:c
 ·rw [if_pos q] at h; exact k q h
 ·rw [if_neg q] at h; cases h
theorem map_t {α:Type} {o:Option α} {f:α -> γ} (h:o.map f = some d) (k:∀ x,o = some x -> f x = d -> P):P:=by
 cases o with
 | none=>cases h
 | some x=>exact k x rfl (Option.some.inj h)
end
section
variable {γ:Type}
noncomputable def oI (b:D) (f:Int -> Option γ):Option γ:=match b with
 | .int y=>f y
 | _=>none
noncomputable def oS (b:D) (f:Str -> Option γ):Option γ:=match b with
 | .str y=>f y
 | _=>none
noncomputable def oL (b:D) (f:List D -> Option γ):Option γ:=match b with
 | .lst y=>f y
 | _=>none
noncomputable def oB (b:D) (f:Bool -> Option γ):Option γ:=match b with
 | .bool y=>f y
 | _=>none
noncomputable def iI (a b:D) (f:Int -> Int -> Option γ):Option γ:=oI a fun x=>oI b fun y=>f x y
variable {d:γ} {b:D} {P:D -> Prop}
@[elab_as_elim] theorem oI_t {f:Int -> Option γ} (h:oI b f = some d) (k:∀ y,f y = some d -> P (.int y)):P b:=by
 cases b with
 | int y=>exact k y h
 | _=>cases h
@[elab_as_elim] theorem oS_t {f:Str -> Option γ} (h:oS b f = some d) (k:∀ y,f y = some d -> P (.str y)):P b:=by
 cases b with
 | str y=>exact k y h
 | _=>cases h
@[elab_as_elim] theorem oL_t {f:List D -> Option γ} (h:oL b f = some d) (k:∀ y,f y = some d -> P (.lst y)):P b:=by
 cases b with
 | lst y=>exact k y h
 | _=>cases h
@[elab_as_elim] theorem oB_t {f:Bool -> Option γ} (h:oB b f = some d) (k:∀ y,f y = some d -> P (.bool y)):P b:=by
 cases b with
 | bool y=>exact k y h
 | _=>cases h
@[elab_as_elim] theorem iI_t {a:D} {P:D -> D -> Prop} {f:Int -> Int -> Option γ} (h:iI a b f = some d) (k:∀ x y,f x y = some d -> P (.int x) (.int y)):P a b :=
 oI_t (b:=a) h fun x h=>oI_t (b:=b) h fun y h=>k x y h
end
mutual
noncomputable def D.py:D -> PyData
 | .none=>.none
 | .bool b=>.bool b
 | .int i=>.int i
 | .str s=>.str s
 | .tup l=>.tuple (D.pys l)
 | .lst l=>.list (D.pys l)
 | .ws _ _ _ _=>.dict []
noncomputable def D.pys:List D -> List PyData
 | []=>[]
 | d :: ds=>D.py d :: D.pys ds
end
theorem IsD.readsA {C:Cx} {Z:Addr -> Prop} {h:Heap} {v:Value} {d:D} (x:IsD C Z h v d):d.py.canLay0 = true -> ∃ as,Reads h v d.py as :=
 IsD.rec (motive_1:=fun v d _=>d.py.canLay0 = true -> ∃ as,Reads h v d.py as) (motive_2:=fun vs ds _=>PyData.canLayAll0 (D.pys ds) = true -> ∃ as,ReadsAll h vs (D.pys ds) as)
  (fun _=>⟨_,.none⟩) (fun b _=>⟨_,.bool b⟩) (fun i t _=>⟨_,.int i t⟩) (fun s t _=>⟨_,.str s t⟩)
  (fun a vs ds t _ _ ih hc=>t.elim fun n e=>(ih hc).elim fun as r=>⟨as,.tuple e rfl rfl r⟩)
  (fun a vs ds t _ _ ih hc=>t.elim fun n e=>(ih hc).elim fun as r=>⟨_,.list e rfl rfl r⟩)
  (fun a dx t u n nt cnt b tn tt tb vs e1 z1 z2 z3 z4 x2 x3 x4 t5 t6 e7 hc=>nomatch hc)
  (fun _=>⟨_,.nil⟩) (fun _ _ a b hc=>(a (Bool.and_eq_true_iff.mp hc).1).elim fun as r=>(b (Bool.and_eq_true_iff.mp hc).2).elim fun bs r'=>⟨_,.cons r r'⟩) x
theorem IsD.reads {C:Cx} {Z:Addr -> Prop} {h:Heap} {v:Value} {d:D} (x:IsD C Z h v d) (hc:d.py.canLay0 = true):∃ as,Reads h v d.py as:=x.readsA hc
theorem IsDs.reads {C:Cx} {Z:Addr -> Prop} {h:Heap}:∀ {ds:List D} {vs:List Value},IsDs C Z h vs ds -> PyData.canLayAll0 (D.pys ds) = true -> ∃ as,ReadsAll h vs (D.pys ds) as
 | [],_,x,_=>x.iNil ▸ ⟨_,.nil⟩
 | _ :: _,_,x,hc=>x.iCons.elim fun v r=>r.elim fun ws r=>r.1 ▸ (r.2.1.reads (Bool.and_eq_true_iff.mp hc).1).elim fun as q=>(IsDs.reads r.2.2 (Bool.and_eq_true_iff.mp hc).2).elim fun bs q'=>⟨_,.cons q q'⟩
noncomputable def okPy (x:PyData):Bool:=x.canLay0 && decide (x.depth <= 50)
noncomputable def deq (a b:D):Option Bool:=if (okPy a.py && okPy b.py) = true then some (PyData.eqv a.py b.py) else none
noncomputable def dmem (a b:D):Option Bool:=match a with
 | .lst l=>if (okPy (.list (D.pys l)) && okPy b.py) = true then some ((D.pys l).any fun y=>PyData.eqv y b.py) else none
 | .str x=>match b with
  | .str y=>some (!(Builtin.Str.occurrences x y 0 x.length 1).isEmpty)
  | _=>none
 | _=>none
noncomputable def decMul (a b:Int):Decidable (IntMulOk a b):=by unfold IntMulOk; infer_instance
noncomputable def mulI (a b:Int):Option D:=@ite _ (IntMulOk a b) (decMul a b) (some (.int (a * b))) none
noncomputable def divI (a b:Int):Option D:=if b ≠ 0 /\ Builtin.divisionGoesByPylong a b = false then some (.int (a.fdiv b)) else none
noncomputable def modI (a b:Int):Option D:=if b ≠ 0 then some (.int (a.fmod b)) else none
noncomputable def powI (a n:Int):Option D:=if 0 <= n /\ (bits a:Int) * n <= 2 ^ 27 then some (.int (a ^ n.toNat)) else none
noncomputable def shrI (a n:Int):Option D:=if 0 <= n then some (.int (a.fdiv (2 ^ n.toNat))) else none
noncomputable def shlI (a n:Int):Option D:=if 0 <= n /\ (bits a:Int) + n <= 2 ^ 27 then some (.int (a * 2 ^ n.toNat)) else none
noncomputable def addS (a b:Str):Option D:=if a.length + b.length <= 16777216 then some (.str (a ++ b)) else none
noncomputable def mulS (a:Str) (n:Int):Option D:=if n < 1000000 /\ -1000000 < n /\ (a.length:Int) <= 16 then some (.str (Txt.mul a n)) else none
noncomputable def addL (a b:List D):Option D:=if a.length + b.length <= 1000000 then some (.lst (a ++ b)) else none
noncomputable def mulL (a:List D) (n:Int):Option D:=if a.length * n.toNat <= 1000000 /\ n < 1000000 /\ -1000000 < n then some (.lst (List.replicate n.toNat a).flatten) else none
noncomputable def addD (a b:D):Option D:=match a with
 | .int x=>oI b fun y=>some (.int (x + y))
 | .str x=>oS b fun y=>addS x y
 | .lst x=>oL b fun y=>addL x y
 | _=>none
noncomputable def mulD (a b:D):Option D:=match a with
 | .int x=>oI b fun y=>mulI x y
 | .str x=>oI b fun y=>mulS x y
 | .lst x=>oI b fun y=>mulL x y
 | _=>none
noncomputable def bin2 (op:Operator) (a b:D):Option D:=match op with
 | .Add=>addD a b
 | .Sub=>iI a b fun a b=>some (.int (a - b))
 | .Mult=>mulD a b
 | .MatMult=>none
 | .Div=>none
 | .Mod=>iI a b modI
 | .Pow=>iI a b powI
 | .LShift=>iI a b shlI
 | .RShift=>iI a b shrI
 | .BitOr=>none
 | .BitXor=>iI a b fun a b=>some (.int (Builtin.bitXor a b))
 | .BitAnd=>iI a b fun a b=>some (.int (Builtin.bitAnd a b))
 | .FloorDiv=>iI a b divI
noncomputable def cmp2 (op:CmpOp) (a b:D):Option Bool:=match op with
 | .Lt=>iI a b fun a b=>some (decide (a < b))
 | .LtE=>iI a b fun a b=>some (decide (a <= b))
 | .Gt=>iI a b fun a b=>some (decide (b < a))
 | .GtE=>iI a b fun a b=>some (decide (b <= a))
 | .Eq=>deq a b
 | .NotEq=>(deq a b).map (!·)
 | .In=>dmem b a
 | .NotIn=>(dmem b a).map (!·)
 | .Is=>oB a fun a=>oB b fun b=>some (a == b)
 | .IsNot=>oB a fun a=>oB b fun b=>some (!(a == b))
noncomputable def tru1:D -> Option Bool
 | .bool b=>some b
 | .int a=>some (a != 0)
 | .str a=>if a.length <= 16777216 then some ((a.length:Int) != 0) else none
 | .lst l=>if l.length <= 1000000 then some (!l.isEmpty) else none
 | _=>none
section
variable {C:Cx} {a b d:D}
theorem deq_sound {t:Bool} (h:deq a b = some t):Op2 C (compareOp .Eq) a b (.bool t):=by
 intro Z A s va vb R K z ia ib
 unfold deq at h
 split at h
 ·rename_i hc
  simp only [okPy,Bool.and_eq_true,decide_eq_true_eq] at hc
  cases h
  obtain ⟨as,ra⟩:=ia.reads hc.1.1
  obtain ⟨bs,rb⟩:=ib.reads hc.2.1
  exact SeqAt.compareEq_reads ra rb hc.1.1 hc.2.1 (by have:=R.line; omega) ⟨.refl K,.bool _⟩
 ·cases h
theorem dne_sound {t:Bool} (h:deq a b = some t):Op2 C (compareOp .NotEq) a b (.bool (!t)):=by
 intro Z A s va vb R K z ia ib
 unfold deq at h
 split at h
 ·rename_i hc
  simp only [okPy,Bool.and_eq_true,decide_eq_true_eq] at hc
  cases h
  obtain ⟨as,ra⟩:=ia.reads hc.1.1
  obtain ⟨bs,rb⟩:=ib.reads hc.2.1
  exact SeqAt.compareNe_reads ra rb hc.1.1 hc.2.1 (by have:=R.line; omega) ⟨.refl K,.bool _⟩
 ·cases h
theorem Op2.notInS {a b:Str}:Op2 C (compareOp .NotIn) (.str b) (.str a) (.bool (!(!(Builtin.Str.occurrences a b 0 a.length 1).isEmpty))):=by
 intro Z A s va vb R K z ia ib; cases ia; cases ib; exact notIn_str ⟨.refl K,.bool _⟩
theorem dmem_sound {t:Bool} (h:dmem b a = some t):Op2 C (compareOp .In) a b (.bool t):=by
 cases b with
 | lst l =>
  intro Z A s va vb R K z ia ib
  simp only [dmem] at h
  split at h
  ·rename_i hc
   simp only [okPy,Bool.and_eq_true,decide_eq_true_eq] at hc
   cases h
   obtain ⟨as,ra⟩:=ia.reads hc.2.1
   obtain ⟨bs,rb⟩:=ib.reads (by rw [D.py]; exact hc.1.1)
   rw [D.py] at rb
   exact SeqAt.in_list_reads rb ra (by simpa [PyData.canLay0] using hc.1.1) hc.2.1 (by have:=R.line; have:=hc.2.2; omega) ⟨.refl K,.bool _⟩
  ·cases h
 | str x=>cases a with
  | str y=>simp only [dmem] at h; cases h; exact Op2.inS
  | _=>cases h
 | _=>cases h
theorem dnotmem_sound {t:Bool} (h:dmem b a = some t):Op2 C (compareOp .NotIn) a b (.bool (!t)):=by
 cases b with
 | lst l =>
  intro Z A s va vb R K z ia ib
  simp only [dmem] at h
  split at h
  ·rename_i hc
   simp only [okPy,Bool.and_eq_true,decide_eq_true_eq] at hc
   cases h
   obtain ⟨as,ra⟩:=ia.reads hc.2.1
   obtain ⟨bs,rb⟩:=ib.reads (by rw [D.py]; exact hc.1.1)
   rw [D.py] at rb
   exact SeqAt.notIn_list_reads rb ra (by simpa [PyData.canLay0] using hc.1.1) hc.2.1 (by have:=R.line; have:=hc.2.2; omega) ⟨.refl K,.bool _⟩
  ·cases h
 | str x=>cases a with
  | str y=>simp only [dmem] at h; cases h; exact Op2.notInS
  | _=>cases h
 | _=>cases h
theorem mulOk_of {a:Str} {n:Int} (h:n < 1000000 /\ -1000000 < n /\ (a.length:Int) <= 16):MulOk a n:=by
 obtain ⟨h1,h2,h3⟩:=h
 refine ⟨by simp; omega,fun h4 _=>?_,fun h4 _=>?_⟩
 ·have h5:1 <= n:=by omega
  have:(9223372036854775807:Int) / 1000000 <= (2 ^ 63 - 1) / n:=by
   have:(2 ^ 63 - 1:Int) = 9223372036854775807:=by decide
   rw [this]
   rw [Int.le_ediv_iff_mul_le (by omega)]
   have e:(9223372036854775807:Int) / 1000000 = 9223372036854:=by decide
   rw [e]; omega
  have e:(9223372036854775807:Int) / 1000000 = 9223372036854:=by decide
  omega
 ·have:a.length * n.toNat <= 16 * 1000000:=Nat.mul_le_mul (by omega) (by omega)
  simp [Builtin.Str.tooLong,sizeLine]
  omega
theorem bin2_sound {op:Operator} (h:bin2 op a b = some d):Op2 C (binaryOp op) a b d:=by
 cases op with
 | Add =>
  cases a with
  | int x=>exact oI_t (b:=b) h fun y h=>by cases h; exact Op2.add
  | str x=>exact oS_t (b:=b) h fun y h=>ite_t h fun q h=>by cases h; exact Op2.addS q
  | lst x=>exact oL_t (b:=b) h fun y h=>ite_t h fun q h=>by cases h; exact Op2.addL q
  | _=>cases h
 | Mult =>
  cases a with
  | int x=>exact oI_t (b:=b) h fun y h=>letI:=decMul x y; ite_t h fun q h=>by cases h; exact Op2.mul q
  | str x=>exact oI_t (b:=b) h fun y h=>ite_t h fun q h=>by cases h; exact Op2.mulS (mulOk_of q)
  | lst x=>exact oI_t (b:=b) h fun y h=>ite_t h fun q h=>by cases h; exact Op2.mulL q.1 q.2.1 q.2.2
  | _=>cases h
 | Sub=>exact iI_t (a:=a) (b:=b) h fun x y h=>by cases h; exact Op2.sub
 | FloorDiv=>exact iI_t (a:=a) (b:=b) h fun x y h=>ite_t h fun q h=>by cases h; exact Op2.div q.1 q.2
 | Mod=>exact iI_t (a:=a) (b:=b) h fun x y h=>ite_t h fun q h=>by cases h; exact Op2.mod q
 | Pow=>exact iI_t (a:=a) (b:=b) h fun x y h=>ite_t h fun q h=>by cases h; exact Op2.pow q.1 q.2
 | RShift=>exact iI_t (a:=a) (b:=b) h fun x y h=>ite_t h fun q h=>by cases h; exact Op2.shr q
 | LShift=>exact iI_t (a:=a) (b:=b) h fun x y h=>ite_t h fun q h=>by cases h; exact Op2.shl q.1 q.2
 | BitAnd=>exact iI_t (a:=a) (b:=b) h fun x y h=>by cases h; exact Op2.and
 | BitXor=>exact iI_t (a:=a) (b:=b) h fun x y h=>by cases h; exact Op2.xor
 | MatMult=>cases h
 | Div=>cases h
 | BitOr=>cases h
theorem beq_bv {x y:Bool}:(Value.bool x == Value.bool y) = (x == y):=by cases x <;> cases y <;> rfl
theorem cmp2_sound {op:CmpOp} {t:Bool} (h:cmp2 op a b = some t):Op2 C (compareOp op) a b (.bool t):=by
 cases op with
 | Lt=>exact iI_t (a:=a) (b:=b) h fun x y h=>by cases h; exact Op2.lt
 | LtE=>exact iI_t (a:=a) (b:=b) h fun x y h=>by cases h; exact Op2.le
 | Gt=>exact iI_t (a:=a) (b:=b) h fun x y h=>by cases h; exact Op2.gt
 | GtE=>exact iI_t (a:=a) (b:=b) h fun x y h=>by cases h; exact Op2.ge
 | Eq=>exact deq_sound h
 | NotEq=>exact map_t h fun u q h=>by cases h; exact dne_sound q
 | In=>exact dmem_sound h
 | NotIn=>exact map_t h fun u q h=>by cases h; exact dnotmem_sound q
 | Is =>
  exact oB_t (b:=a) h fun x h=>oB_t (b:=b) h fun y h=>by
   cases h
   intro Z A s va vb R K z ia ib
   rw [ia.iBool,ib.iBool]
   exact wpAny_is_plain (by simp [PySem.plainIs]) ⟨.refl K,by rw [beq_bv]; exact .bool _⟩
 | IsNot =>
  exact oB_t (b:=a) h fun x h=>oB_t (b:=b) h fun y h=>by
   cases h
   intro Z A s va vb R K z ia ib
   rw [ia.iBool,ib.iBool]
   exact wpAny_isNot_plain (by simp [PySem.plainIs]) ⟨.refl K,by rw [beq_bv]; exact .bool _⟩
theorem tru1_sound {t:Bool} (h:tru1 a = some t):Tr1 C truthy a t:=by
 cases a with
 | bool b=>cases h; exact Tr1.bool
 | int b=>cases h; exact Tr1.int
 | str b=>exact ite_t h fun q h=>by cases h; exact Tr1.str q
 | lst b=>exact ite_t h fun q h=>by cases h; exact Tr1.lst q
 | _=>cases h
end
end
section
open Builtin.Str
noncomputable def strs?:List D -> Option (List Str)
 | []=>some []
 | .str s :: r=>(strs? r).map (s :: ·)
 | _ :: _=>none
noncomputable def ints?:List D -> Option (List Int)
 | []=>some []
 | .int s :: r=>(ints? r).map (s :: ·)
 | _ :: _=>none
theorem strs?_are {C:Cx} {Z:Addr -> Prop} {h:Heap}:∀ {l:List D} {ys:List Str} {vs:List Value},strs? l = some ys -> IsDs C Z h vs l -> StrsAre vs ys
 | [],_,_,e,i=>by cases e; rw [i.iNil]; exact .nil
 | d :: r,ys,vs,e,i=>by
  cases d with
  | str s=>exact map_t (o:=strs? r) e fun zs q e=>e ▸ i.iCons.elim fun v w=>w.elim fun ws w=>w.2.1.iStr.elim fun t et=>w.1 ▸ et ▸ .cons _ _ (strs?_are q w.2.2)
  | _=>cases e
theorem ints?_eq:∀ {l:List D} {ys:List Int},ints? l = some ys -> l = ys.map .int
 | [],_,e=>by cases e; rfl
 | d :: r,ys,e=>by
  cases d with
  | int s=>exact map_t (o:=ints? r) e fun zs q e=>by rw [<- e,ints?_eq q]; rfl
  | _=>cases e
section
variable {C:Cx} {k:Nat}
theorem PSpec.lenL {l:List D} (h:l.length <= 1000000):PSpec C k (.builtin "len") [.lst l] (.int l.length):=by
 intro Z A s vs R K z i
 replace i:=i.iCons; obtain ⟨_,_,hqq,i,j⟩:=i; cases hqq
 cases j.iNil
 replace i:=i.iLst; obtain ⟨a,vs,hqq,h1,z1,i1⟩:=i; cases hqq
 have e:=i1.length
 refine len_list h1.is (by simp; omega) ⟨.tok K,?_⟩
 rw [<- e]; simp; exact .int _ _
theorem PSpec.lenT {l:List D} (h:l.length <= 1000000):PSpec C k (.builtin "len") [.tup l] (.int l.length):=by
 intro Z A s vs R K z i
 replace i:=i.iCons; obtain ⟨_,_,hqq,i,j⟩:=i; cases hqq
 cases j.iNil
 replace i:=i.iTup; obtain ⟨a,vs,hqq,h1,z1,i1⟩:=i; cases hqq
 have e:=i1.length
 refine PyProof.Rows.len_tuple h1.is (by simp; omega) ⟨.tok K,?_⟩
 rw [<- e]; simp; exact .int _ _
theorem PSpec.lenS {x:Str} (h:x.length <= 16777216):PSpec C k (.builtin "len") [.str x] (.int x.length):=by
 intro Z A s vs R K z i
 replace i:=i.iCons; obtain ⟨_,_,hqq,i,j⟩:=i; cases hqq
 cases j.iNil
 cases i
 exact PyProof.Rows.len_str (by omega) ⟨.tok K,.int _ _⟩
theorem preSum_take {ns:List Int}:∀ n,n <= ns.length -> preSum (fun i=>ns[i]?.getD 0) n = (ns.take n).sum
 | 0,_=>by simp [preSum]
 | n + 1,h=>by
  rw [preSum,preSum_take n (by omega),List.take_add_one,List.sum_append,List.getElem?_eq_getElem (by omega)]
  simp only [Option.getD_some,Option.toList,List.sum_cons,List.sum_nil,Int.add_zero]
theorem IsDs.intAt {Z:Addr -> Prop} {h:Heap} {ns:List Int} {vs:List Value} (i:IsDs C Z h vs (ns.map .int)) {j:Nat} {v:Value} (e:vs[j]? = some v):∃ t,v = .int (ns[j]?.getD 0) t:=by
 obtain ⟨d,g1,g2⟩:=i.get' j e
 rw [List.getElem?_map] at g1
 cases q:ns[j]? with
 | none=>rw [q] at g1; cases g1
 | some n=>rw [q] at g1; cases g1; cases g2; exact ⟨_,rfl⟩
theorem PSpec.sum {ns:List Int}:PSpec C k (.builtin "sum") [.lst (ns.map .int)] (.int ns.sum):=by
 intro Z A s vs R K z i
 replace i:=i.iCons; obtain ⟨_,_,hqq,i,j⟩:=i; cases hqq
 cases j.iNil
 replace i:=i.iLst; obtain ⟨a,vs,hqq,h1,z1,i1⟩:=i; cases hqq
 have hlen:=i1.length
 have hlt:=h1.lt
 rw [List.length_map] at hlen
 refine call_sum_walkG (wpAny_pyIter_list h1.is ⟨s.heap.objs.size,[s.heap.objs.size,a],[s.heap.objs.size],ns.length,fun i v=>vs.toArray[i]? = some v,fun i h=>h.IsListIter s.heap.objs.size a i /\ h.IsList a vs.toArray,fun i=>ns[i]?.getD 0,rfl,?_,⟨⟨_,Heap.get?_push_size _ rfl,rfl,rfl⟩,h1.is.push _⟩,?_,?_,fun h' tk t' hk=>⟨.of_keeps K fun b o g=>?_,?_⟩⟩)
 ·have:=Walks.list (prog:=C.prog) (w:=C.w) (A:=A.in1) R.hd s.heap.objs.size a (Nat.ne_of_lt hlt) vs.toArray
  rw [<- hlen]; simpa using this
 ·intro b hb
  rw [Heap.size_push]
  rcases List.mem_cons.mp hb with rfl | hb
  ·exact Nat.lt_succ_self _
  ·rcases List.mem_cons.mp hb with rfl | hb
   ·exact Nat.lt_succ_of_lt hlt
   ·cases hb
 ·intro i v hv
  exact i1.intAt (by simpa using hv)
 ·have hne:b ≠ s.heap.objs.size:=Nat.ne_of_lt (Heap.lt_size g)
  exact hk b o (by simpa using hne) (Heap.get?_push_of_some _ g)
 ·rw [preSum_take ns.length (Nat.le_refl _),List.take_length]; exact .int _ _
theorem PSpec.tupleL {l:List D} (h:l.length <= 1000000):PSpec C k (.type "tuple") [.lst l] (.tup l):=by
 intro Z A s vs R K z i
 replace i:=i.iCons; obtain ⟨_,_,hqq,i,j⟩:=i; cases hqq
 cases j.iNil
 replace i:=i.iLst; obtain ⟨a,vs,hqq,h1,z1,i1⟩:=i; cases hqq
 have e:=i1.length
 refine call_tuple_list h1.is (fun h' hk=>?_) (by rw [sizeLine_eq]; simp; omega)
 have x:Ext C s { heap:=h'.push { cls:=.type "tuple",data:=.seq vs.toArray },gens:=s.gens,drawn:=s.drawn,toks:=s.toks,os:=s.os }:=.of_keeps K fun b o g=>Heap.get?_push_of_some _ (hk b o g)
 refine ⟨x,.tup _ vs _ ⟨0,Heap.get?_push_size _ rfl⟩ (fun q=>?_) (i1.ext x z.1)⟩
 obtain ⟨o,g⟩:=z.2 _ q
 exact absurd (Heap.lt_size (hk _ _ g)) (Nat.lt_irrefl _)
theorem IsDs.of_signs {Z:Addr -> Prop} {h:Heap}:∀ {vs:List Value} {cs:List Nat},vs.length = cs.length -> (∀ (i:Nat) (v:Value) (c:Nat),vs[i]? = some v -> cs[i]? = some c -> ∃ u,v = Value.str ⟨#[c]⟩ u) -> IsDs C Z h vs (cs.map fun c=>D.str ⟨#[c]⟩)
 | [],[],_,_=>.nil
 | v :: vs,c :: cs,e,f=>by
  obtain ⟨u,rfl⟩:=f 0 v c rfl rfl
  exact .cons (.str _ _) (of_signs (by simpa using e) fun i v c h1 h2=>f (i + 1) v c (by rw [List.getElem?_cons_succ]; exact h1) (by rw [List.getElem?_cons_succ]; exact h2))
theorem PSpec.divmod {a b:Int} (hb:b ≠ 0) (hp:Builtin.divisionGoesByPylong a b = false):PSpec C k (.builtin "divmod") [.int a,.int b] (.tup [.int (a.fdiv b),.int (a.fmod b)]):=by
 intro Z A s vs R K z i
 replace i:=i.iCons; obtain ⟨_,_,hqq,i,j⟩:=i; cases hqq
 replace j:=j.iCons; obtain ⟨_,_,hqq,j,j'⟩:=j; cases hqq
 cases j'; cases i; cases j
 refine divmod_int hb ⟨Ext.push K,.tup _ [_,_] _ ⟨0,Heap.get?_push_size _ rfl⟩ z.new (.cons (.int _ _) (.cons (.int _ _) .nil))⟩ (.inl hp)
theorem PSpec.join {x:Str} {l:List D} {ys:List Str} (hs:strs? l = some ys) (hok:(ys.map (·.length)).sum + ys.length * x.length <= 16777216):PSpec C k (.builtin "str.join") [.str x,.lst l] (.str (Txt.join x ys)):=by
 intro Z A s vs R K z i
 replace i:=i.iCons; obtain ⟨_,_,hqq,i,j⟩:=i; cases hqq
 replace j:=j.iCons; obtain ⟨_,_,hqq,j,j'⟩:=j; cases hqq
 cases j'.iNil
 cases i
 replace j:=j.iLst; obtain ⟨a,vs,hqq,h1,z1,i1⟩:=j; cases hqq
 exact join_list h1.is (by simpa using strs?_are hs i1) hok fun t' k=>⟨.tok K,.str _ _⟩
theorem PSpec.count {x y:Str}:PSpec C k (.builtin "str.count") [.str x,.str y] (.int (occurrences x y 0 x.length (x.length + 1)).length):=by
 intro Z A s vs R K z i
 replace i:=i.iCons; obtain ⟨_,_,hqq,i,j⟩:=i; cases hqq
 replace j:=j.iCons; obtain ⟨_,_,hqq,j,j'⟩:=j; cases hqq
 cases j'; cases i; cases j
 exact call_gives PySem.F.slot_str_count (typeIs_str _ _ _) PySem.F.entry_str_count (PySem.F.args_str_count_2 _ _) (gives_str_count x y _ _) ⟨.tok K,.int _ _⟩
theorem PSpec.startswith {x y:Str}:PSpec C k (.builtin "str.startswith") [.str x,.str y] (.bool (0 + y.length <= x.length && subAt x y 0)):=by
 intro Z A s vs R K z i
 replace i:=i.iCons; obtain ⟨_,_,hqq,i,j⟩:=i; cases hqq
 replace j:=j.iCons; obtain ⟨_,_,hqq,j,j'⟩:=j; cases hqq
 cases j'; cases i; cases j
 exact call_gives PySem.F.slot_str_startswith (typeIs_str _ _ _) PySem.F.entry_str_startswith (PySem.F.args_str_startswith_2 _ _) (gives_str_startswith x y _ _) ⟨.refl K,.bool _⟩
theorem PSpec.endswith {x y:Str}:PSpec C k (.builtin "str.endswith") [.str x,.str y] (.bool (0 + y.length <= x.length && subAt x y (x.length - y.length))):=by
 intro Z A s vs R K z i
 replace i:=i.iCons; obtain ⟨_,_,hqq,i,j⟩:=i; cases hqq
 replace j:=j.iCons; obtain ⟨_,_,hqq,j,j'⟩:=j; cases hqq
 cases j'; cases i; cases j
 exact call_gives PySem.F.slot_str_endswith (typeIs_str _ _ _) PySem.F.entry_str_endswith (PySem.F.args_str_endswith_2 _ _) (gives_str_endswith x y _ _) ⟨.refl K,.bool _⟩
theorem PSpec.bitlen {a:Int}:PSpec C k (.builtin "int.bit_length") [.int a] (.int (bits a)):=by
 intro Z A s vs R K z i
 replace i:=i.iCons; obtain ⟨_,_,hqq,i,j⟩:=i; cases hqq
 cases j.iNil
 cases i
 exact call_int_bit_length ⟨.tok K,.int _ _⟩
noncomputable def countI (b:D):List PyData -> Nat:=fun l=>(l.countP fun y=>PyData.eqv y b.py)
theorem PSpec.countL {l:List D} {b:D} (hc:(okPy (.list (D.pys l)) && okPy b.py) = true):PSpec C k (.builtin "list.count") [.lst l,b] (.int (countI b (D.pys l))):=by
 intro Z A s vs R K z i
 replace i:=i.iCons; obtain ⟨_,_,hqq,i,j⟩:=i; cases hqq
 replace j:=j.iCons; obtain ⟨_,_,hqq,j,j'⟩:=j; cases hqq
 cases j'.iNil
 replace i:=i.iLst; obtain ⟨a,vs,hqq,h1,z1,i1⟩:=i; cases hqq
 simp only [okPy,Bool.and_eq_true,decide_eq_true_eq] at hc
 have hcl:PyData.canLayAll0 (D.pys l) = true:=by simpa [PyData.canLay0] using hc.1.1
 obtain ⟨as,ra⟩:=i1.reads hcl
 obtain ⟨bs,rb⟩:=j.reads hc.2.1
 obtain ⟨n,e⟩:=h1
 refine call_meets PySem.F.slot_list_count ⟨_,e,rfl⟩ PySem.F.entry_list_count (PySem.F.args_list_count_2 _ _) (SeqAt.list_countAt a vs.toArray n none #[] _ (fun y=>PyData.eqv (SeqAt.readOf s.heap y) b.py)) ⟨e,SeqAt.items_eqAt (by simpa using ra) rb hcl hc.2.1 (by have:=R.zero.line; have:=hc.2.2; omega),⟨.tok K,?_⟩⟩
 have:List.countP (fun y=>PyData.eqv (SeqAt.readOf s.heap y) b.py) vs = countI b (D.pys l):=by
  unfold countI
  rw [<- SeqAt.readsAll_map _ _ _ hcl ra,List.countP_map]; rfl
 have e2:vs.toArray.toList = vs:=by simp
 rw [e2,this]
 exact .int _ _
end
end
section
open Builtin.Str
theorem sub_ops (slice:Expr) (o i:Value):∃ ops,subscripted slice false o i = operate ops (getItem o i):=by
 cases slice with
 | Slice a b c d=>cases c <;> exact ⟨_,rfl⟩
 | _=>exact ⟨_,rfl⟩
noncomputable def nthL (l:List D) (i:Int):Option D:=if -(1000000:Int) <= i /\ i <= 1000000 /\ l.length <= 1000000 then (seqIndex? i l.length).bind (l[·]?) else none
noncomputable def sub2 (a b:D):Option D:=oI b fun i=>match a with
 | .lst l=>nthL l i
 | .tup l=>nthL l i
 | .str x=>if -(1000000:Int) <= i /\ i <= 1000000 then ((seqIndex? i x.length).bind (x.cps[·]?)).map fun c=>.str ⟨#[c]⟩ else none
 | _=>none
noncomputable def cutL (l:List D) (lo hi:Option Int):List D:=(l.drop (lo.elim 0 (clipAt l.length))).take (hi.elim l.length (clipAt l.length) - lo.elim 0 (clipAt l.length))
noncomputable def slc2 (d:D) (lo hi:Option Int):Option D:=match d with
 | .lst l=>if l.length <= 1000000 then some (.lst (cutL l lo hi)) else none
 | .str x=>if x.length <= 16777216 then some (.str (Txt.slice x lo hi)) else none
 | _=>none
theorem slice_post {x:Str} {t:Tok} {l u:Option (Int × Tok)} {s:Shared} {Q:Value -> Shared -> Prop} (hx:x.length <= sizeLine) (h:∀ t' k,Q (.str (Txt.slice x (l.map (·.1)) (u.map (·.1))) t') { s with toks:=k }):(sliceMade x t l u none).post Q s:=by
 have e:sliceMade x t l u none = if ((1:Int) == 1 && (strSliceIndices (l.map (·.1)) (u.map (·.1)) 1 x.length).length == x.length) = true then Made.val (.str x t) else Made.str ⟨((strSliceIndices (l.map (·.1)) (u.map (·.1)) 1 x.length).filterMap (x.cps[·]?)).toArray⟩:=rfl
 rw [e]
 have hl:=Nat.le_trans (Txt.slice_le x (l.map (·.1)) (u.map (·.1))) hx
 unfold Txt.slice at h hl
 exact post_val_or_str ⟨hl,h⟩
section
variable {C:Cx} {env:Env} {σ:Vars} {k:Nat} {a b d:D}
set_option tactic.hygienic true in
theorem sub2_sound {e i:Expr} (h:sub2 a b = some d):∀ Z A s va vb,Room 0 A -> OK C s -> ZOk C Z s -> IsD C Z s.heap va a -> IsD C Z s.heap vb b -> wpAny C.M A (subscriptTail e i va vb) (fun v s'=>Ext C s s' /\ IsD C Z s'.heap v d) nf s:=by
 intro Z A s va vb R K z ia ib
 obtain ⟨ops,hops⟩:=sub_ops i va vb
 revert ib
 refine oI_t (b:=b) h fun j h ib=>?_
 cases a with
 | lst l =>
  replace h:(if -(1000000:Int) <= j /\ j <= 1000000 /\ l.length <= 1000000 then (seqIndex? j l.length).bind (l[·]?) else none) = some d:=h
  split at h
  ·rename_i hb
   replace ia:=ia.iLst; obtain ⟨a,vs,hqq,h1,z1,i1⟩:=ia; cases hqq
   replace ib:=ib.iInt; obtain ⟨t,hqq⟩:=ib; cases hqq
   have hl:=i1.length
   cases q:seqIndex? j l.length with
   | none=>rw [q] at h; cases h
   | some m =>
    rw [q] at h
    obtain ⟨v,g1,g2⟩:=i1.get m h
    refine tail_any h1.is.typeIs slot_list_getitem.lookup ?_ hops
    unfold seqIndex? at q
    by_cases hj:j < 0
    ·simp only [hj,if_true] at q
     split at q
     ·rename_i hc
      simp at hc
      cases q
      refine wpAny_getItem_list_neg h1.is hj (by simp; omega) (by omega) (x:=v) ?_ ⟨.refl K,g2⟩
      simpa [hl] using g1
     ·cases q
    ·simp only [hj,if_false] at q
     split at q
     ·rename_i hc
      cases q
      exact wpAny_getItem_list h1.is (by omega) (by omega) (by simpa using g1) ⟨.refl K,g2⟩
     ·cases q
  ·cases h
 | tup l =>
  replace h:(if -(1000000:Int) <= j /\ j <= 1000000 /\ l.length <= 1000000 then (seqIndex? j l.length).bind (l[·]?) else none) = some d:=h
  split at h
  ·rename_i hb
   replace ia:=ia.iTup; obtain ⟨a,vs,hqq,h1,z1,i1⟩:=ia; cases hqq
   replace ib:=ib.iInt; obtain ⟨t,hqq⟩:=ib; cases hqq
   have hl:=i1.length
   cases q:seqIndex? j l.length with
   | none=>rw [q] at h; cases h
   | some m =>
    rw [q] at h
    obtain ⟨v,g1,g2⟩:=i1.get m h
    exact tail_any h1.is.typeIs slot_tuple_getitem.lookup (getItem_tuple h1.is (by omega) (by omega) (by simpa [hl] using q) (by simpa using g1) ⟨.refl K,g2⟩) hops
  ·cases h
 | str x =>
  replace h:(if -(1000000:Int) <= j /\ j <= 1000000 then ((seqIndex? j x.length).bind (x.cps[·]?)).map fun c=>D.str ⟨#[c]⟩ else none) = some d:=h
  split at h
  ·rename_i hb
   replace ia:=ia.iStr; obtain ⟨t,hqq⟩:=ia; cases hqq
   replace ib:=ib.iInt; obtain ⟨u,hqq⟩:=ib; cases hqq
   cases q:(seqIndex? j x.length).bind (x.cps[·]?) with
   | none=>rw [q] at h; cases h
   | some c =>
    rw [q] at h; cases h
    exact tail_any (typeIs_str _ _ _) PySem.F.slot_str_getitem.lookup (PyProof.Rows.getItem_str (by simp; omega) q ⟨.tok K,.str _ _⟩) hops
  ·cases h
 | _=>cases h
noncomputable def EvO (C:Cx) (k:Nat) (env:Env) (σ:Vars):Option Expr -> Option Int -> Prop
 | none,none=>True
 | some e,some i=>Ev C k env σ e (.int i)
 | _,_=>False
noncomputable def partV:Option Int -> Value -> Prop
 | none,v=>v = .none
 | some i,v=>∃ t,v = .int i t
theorem EvO.eval {x:Option Expr} {o:Option Int} (h:EvO C k env σ x o) {B:Base} {U:Addr -> Prop} {O:Own} {A:Around} {s:Shared} (R:Room k A) (S:SimO C B U O env σ s):wpAny C.M A (evalPart x env) (fun v s'=>Ext C s s' /\ partV o v) nf s:=by
 cases x with
 | none=>cases o with
  | none=>exact wpAny_pure ⟨.refl S.ok,rfl⟩
  | some i=>exact h.elim
 | some e=>cases o with
  | none=>exact h.elim
  | some i=>exact wpT (show wpAny C.M A (PySem.eval e env) _ nf s from h B U O A s R S) fun v s' ⟨x,i⟩=>⟨x,by cases i; exact ⟨_,rfl⟩⟩
theorem partV.is {o:Option Int} {v:Value} (h:partV o v):IsPart v o:=by
 cases o with
 | none=>cases h; exact .none
 | some i=>obtain ⟨t,rfl⟩:=h; exact .int _ _
theorem cutL_sub {Z:Addr -> Prop} {h:Heap} {vs:List Value} {l:List D} (i:IsDs C Z h vs l) (lo hi:Option Int):IsDs C Z h (slicePick vs.toArray lo hi none).toList (cutL l lo hi):=by
 rw [slicePick_plain]
 have e:=i.length
 simp only [List.size_toArray,e]
 exact (i.drop _).take _
theorem slc2_sound {e:Expr} {lo hi:Option Expr} {l u:Option Int} {p pos:Pos} (he:Ev C k env σ e a) (h1:EvO C k env σ lo l) (h2:EvO C k env σ hi u) (h:slc2 a l u = some d):Ev C k env σ (.Subscript e (.Slice lo hi none p) pos) d:=by
 intro B U O A s R S
 refine Subscript_ (wpT (he B U O A s R S) fun va s₁ hZ2=>?_); obtain ⟨x1,i1⟩:=hZ2
 have S1:=S.ext x1
 refine wpAny_Slice (wpT (h1.eval R S1) fun vl s₂ hZ2=>?_); obtain ⟨x2,q2⟩:=hZ2
 have S2:=S1.ext x2
 refine wpT (h2.eval R S2) fun vu s₃ ⟨x3,q3⟩=>evalPart_none_step ?_
 have S3:=S2.ext x3
 have x4:Ext C s₃ { heap:=s₃.heap.push { cls:=.type "slice",data:=.fields #[vl,vu,.none] },gens:=s₃.gens,drawn:=s₃.drawn,toks:=s₃.toks,os:=s₃.os }:=Ext.push S3.ok
 have S4:=S3.ext x4
 have i4:IsD C (Zf U O) _ va a:=((i1.ext x2 S.zt).ext x3 S.zt).ext x4 S.zt
 obtain ⟨ops,hops⟩:=sub_ops (.Slice lo hi none p) va (.ref s₃.heap.objs.size)
 cases a with
 | lst ll =>
  simp only [slc2] at h
  split at h
  ·rename_i hb
   cases h
   replace i4:=i4.iLst; obtain ⟨a,vs,hqq,f1,z1,f2⟩:=i4; cases hqq
   have hl:=f2.length
   refine tail_any f1.is.typeIs slot_list_getitem.lookup (wpAny_getItem_list_slice f1.is (.new _ _ _ _) q2.is q3.is .none (by simp) ⟨(((x1.trans x2).trans x3).trans x4).trans (Ext.push S4.ok),?_⟩ (by rw [sizeLine_eq]; simp; omega)) hops
   refine .lst _ (slicePick vs.toArray l u none).toList _ ⟨0,?_⟩ S4.zok.new ((cutL_sub f2 l u).ext (Ext.push S4.ok) S.zt)
   have:=Heap.get?_push_size (Heap.push s₃.heap { cls:=.type "slice",data:=.fields #[vl,vu,.none] }) (o:={ cls:=.type "list",data:=.seq (slicePick vs.toArray l u none) }) rfl
   simpa using this
  ·cases h
 | str x =>
  simp only [slc2] at h
  split at h
  ·rename_i hb
   cases h
   replace i4:=i4.iStr; obtain ⟨t,hqq⟩:=i4; cases hqq
   have hsl:∃ l' u':Option (Int × Tok),l'.map (·.1) = l /\ u'.map (·.1) = u /\ Heap.IsSlice (s₃.heap.push { cls:=.type "slice",data:=.fields #[vl,vu,.none] }) s₃.heap.objs.size l' u' none:=by
    have f:∀ {o:Option Int} {v:Value},partV o v -> ∃ o':Option (Int × Tok),o'.map (·.1) = o /\ v = partValue o':=fun {o v} h=>by
     cases o with
     | none=>cases h; exact ⟨none,rfl,rfl⟩
     | some i=>obtain ⟨t,rfl⟩:=h; exact ⟨some (i,t),rfl,rfl⟩
    obtain ⟨l',a1,a2⟩:=f q2
    obtain ⟨u',b1,b2⟩:=f q3
    exact ⟨l',u',a1,b1,_,Heap.get?_push_size _ rfl,rfl,by rw [a2,b2]; rfl⟩
   obtain ⟨l',u',rfl,rfl,hs⟩:=hsl
   have hp:(sliceMade x t l' u' none).post (fun v s'=>Ext C s s' /\ IsD C (Zf U O) s'.heap v (.str (Txt.slice x (l'.map (·.1)) (u'.map (·.1))))) { heap:=s₃.heap.push { cls:=.type "slice",data:=.fields #[vl,vu,.none] },gens:=s₃.gens,drawn:=s₃.drawn,toks:=s₃.toks,os:=s₃.os } :=
    slice_post (by rw [sizeLine_eq]; exact hb) fun t' k=>⟨(((x1.trans x2).trans x3).trans x4).trans (.tok S4.ok),.str _ _⟩
   exact tail_any (typeIs_str _ _ _) PySem.F.slot_str_getitem.lookup (wpAny_getItem_str_slice hs rfl hp) hops
  ·cases h
 | _=>cases h
end
end
section
open Builtin.Str
section
variable {C:Cx} {env:Env} {σ σ':Vars} {k:Nat} {a b d:D}
variable {B:Base} {U:Addr -> Prop} {O O':Own} {s s₁ s₂:Shared}
theorem Ext.fresh {s s':Shared} (x:Ext C s s'):s.heap.get? s'.heap.objs.size = none:=by
 cases q:s.heap.get? s'.heap.objs.size with
 | none=>rfl
 | some o =>
  by_cases hT:s'.heap.objs.size ∈ C.T
  ·obtain ⟨ps,g,_⟩:=x.ok.tab _ hT; exact absurd (Heap.lt_size g) (Nat.lt_irrefl _)
  ·exact absurd (Heap.lt_size (x.keep _ _ hT q)) (Nat.lt_irrefl _)
theorem EvIt.tup {e:Expr} {l:List D} (he:Ev C k env σ e (.tup l)):EvIt C k env σ e l:=by
 intro B U O A s R S
 refine wpT (he B U O A s R S) fun v s₁ hZ2=>?_; obtain ⟨x1,i1⟩:=hZ2
 have S1:=S.ext x1
 replace i1:=i1.iTup; obtain ⟨a,vs,hqq,h1,z1,i1⟩:=i1; cases hqq
 have hlen:=i1.length
 have hlt:a < s₁.heap.objs.size:=let ⟨_,e⟩:=h1; Heap.lt_size e
 have x2:Ext C s₁ { heap:=s₁.heap.push { cls:=.type "tuple_iterator",data:=.fields #[.ref a,.int 0 0] },gens:=s₁.gens,drawn:=s₁.drawn,toks:=s₁.toks,os:=s₁.os }:=Ext.push S1.ok
 have hpush:IsTup (s₁.heap.push { cls:=.type "tuple_iterator",data:=.fields #[.ref a,.int 0 0] }) a vs.toArray:=(h1.kept fun o g=>Heap.get?_push_of_some _ g).is
 refine wpAny_pyIter_tuple h1.is ⟨x1.trans x2,s₁.heap.objs.size,[s₁.heap.objs.size,a],fun i v=>vs.toArray[i]? = some v,fun i h=>h.IsTupleIter s₁.heap.objs.size a i /\ h.IsTuple a vs.toArray,rfl,⟨fun A' hA=>(by
   have:=Walks.tuple (prog:=C.prog) (w:=C.w) hA s₁.heap.objs.size a (Nat.ne_of_lt hlt) vs.toArray
   rw [<- hlen]; simpa using this),⟨⟨_,Heap.get?_push_size _ rfl,rfl,rfl⟩,hpush⟩,x1.fresh,?_,?_,by simp,?_⟩⟩
 ·rintro i h ⟨⟨o,e1,e2,e3⟩,⟨o',f1,f2,n,f3⟩⟩ b hb
  rcases List.mem_cons.mp hb with rfl | hb
  ·exact ⟨o,e1,okObj_fields e3 (by simp) e2⟩
  ·rcases List.mem_cons.mp hb with rfl | hb
   ·exact ⟨o',f1,okObj_seq f3 f2⟩
   ·cases hb
 ·intro b hb
  rcases List.mem_cons.mp hb with rfl | hb
  ·exact .inl rfl
  ·rcases List.mem_cons.mp hb with rfl | hb
   ·exact .inr ⟨z1,Nat.ne_of_lt hlt⟩
   ·cases hb
 ·intro i v _ hv
  obtain ⟨d,g1,g2⟩:=i1.get' i (v:=v) (by simpa using hv)
  exact ⟨d,g1,g2.mono (fun b o n g=>Heap.get?_push_of_some _ g) fun b o n g q=>q.elim n fun q=>by rw [q] at g; exact absurd (Heap.lt_size g) (Nat.lt_irrefl _)⟩
theorem EvIt.rev {e:Expr} {fp pos:Pos} {l:List D} (hf:EvV C k env σ (.Name "reversed" fp) (.type "reversed")) (he:Ev C k env σ e (.lst l)) (hst:isStarred e = false) :
  EvIt C k env σ (.Call (.Name "reversed" fp) [e] [] pos) l.reverse:=by
 intro B U O A s R S
 show wpAny _ _ (do callWith pos (<- eval (.Name "reversed" fp) env) [] (backTo pos (starEach [e] env)) []) _ _ _
 refine wpAny_bind (wpT (hf B U O A s R S) fun v s₁ hZ2=>?_); obtain ⟨x1,e1⟩:=hZ2
 subst e1
 have hl:EvL C k env σ [e] [.lst l]:=⟨⟨he,hst⟩,trivial⟩
 refine callWith_of (P:=fun _=>True) (by rw [hl.noStar pos]; rfl) (fun h _=>⟨.machine,.inr (.inl rfl),.of_pure rfl⟩) (wpT (hl.args pos R (S.ext x1)) fun a s₂ ⟨x2,hkw,i2⟩=>⟨trivial,?_⟩)
 obtain ⟨pos',kw⟩:=a
 cases hkw
 have S2:=(S.ext x1).ext x2
 replace i2:=i2.iCons; obtain ⟨_,_,hqq,ia,i2⟩:=i2; cases hqq
 cases i2.iNil
 replace ia:=ia.iLst; obtain ⟨a,vs,hqq,h1,z1,i1⟩:=ia; cases hqq
 have hlen:=i1.length
 have hlt:=h1.lt
 refine call_reversed_list h1.is ?_
 have x3:Ext C s₂ { heap:=s₂.heap.push (revObj a ((vs.toArray.size:Int) - 1)),gens:=s₂.gens,drawn:=s₂.drawn,toks:=s₂.toks,os:=s₂.os }:=Ext.push S2.ok
 have hit:(s₂.heap.push (revObj a ((vs.toArray.size:Int) - 1))).IsRevIter s₂.heap.objs.size a ((vs.toArray.size:Int) - 1):=⟨_,Heap.get?_push_size _ rfl,rfl,rfl⟩
 refine wpAny_pyIter_revIter hit ⟨(x1.trans x2).trans x3,s₂.heap.objs.size,[s₂.heap.objs.size,a],fun i v=>vs.toArray[vs.toArray.size - 1 - i]? = some v,fun i h=>i <= vs.toArray.size /\ h.IsRevIter s₂.heap.objs.size a ((vs.toArray.size:Int) - 1 - (i:Int)) /\ h.IsList a vs.toArray,rfl,⟨fun A' hA=>(by
   have:=Walks.listRev (prog:=C.prog) (w:=C.w) hA s₂.heap.objs.size a (Nat.ne_of_lt hlt) vs.toArray
   rw [List.length_reverse,<- hlen]; simpa using this),⟨Nat.zero_le _,by simpa using hit,h1.is.push _⟩,(x1.trans x2).fresh,?_,?_,by simp,?_⟩⟩
 ·rintro i h ⟨_,⟨o,e1,e2,e3⟩,⟨o',f1,f2,n,f3⟩⟩ b hb
  rcases List.mem_cons.mp hb with rfl | hb
  ·exact ⟨o,e1,okObj_fields e3 (by simp [rawInt]) e2⟩
  ·rcases List.mem_cons.mp hb with rfl | hb
   ·exact ⟨o',f1,okObj_seq f3 f2⟩
   ·cases hb
 ·intro b hb
  rcases List.mem_cons.mp hb with rfl | hb
  ·exact .inl rfl
  ·rcases List.mem_cons.mp hb with rfl | hb
   ·exact .inr ⟨z1,Nat.ne_of_lt hlt⟩
   ·cases hb
 ·intro i v hi hv
  rw [List.length_reverse] at hi
  obtain ⟨d,g1,g2⟩:=i1.get' (vs.length - 1 - i) (v:=v) (by simpa using hv)
  refine ⟨d,?_,g2.mono (fun b o n g=>Heap.get?_push_of_some _ g) fun b o n g q=>q.elim n fun q=>by rw [q] at g; exact absurd (Heap.lt_size g) (Nat.lt_irrefl _)⟩
  rw [List.getElem?_reverse hi,<- hlen]; exact g1
noncomputable def splitD (x y:Str):Option (List Str) :=
 if x.length <= 1000000 then
  (if (decide (x.length < y.length) || decide (strKind x < strKind y)) = true then some [x] else
   if (y.length == 0) = true then none else
   if (occurrences x y 0 x.length (x.length + 1)).isEmpty = true then some [x] else
   if (partsBetween x (occurrences x y 0 x.length (x.length + 1)) y.length).length <= 1000000 then some (partsBetween x (occurrences x y 0 x.length (x.length + 1)) y.length) else none)
 else none
theorem IsDs.strsFrom {Z:Addr -> Prop} {h:Heap}:∀ (l:List Str) (t:Tok),IsDs C Z h (strsFrom t l) (l.map .str)
 | [],_=>.nil
 | x :: r,t=>.cons (.str _ _) (strsFrom r (t + 1))
noncomputable def FSpec (C:Cx) (k:Nat) (fv:Value) (ds:List D) (l:List D):Prop :=
 ∀ Z A s vs,Room k A -> OK C s -> ZOk C Z s -> IsDs C Z s.heap vs ds -> wpAny C.M A (call fv vs []) (fun v s'=>Ext C s s' /\ ∃ a ws,v = .ref a /\ s.heap.get? a = none /\ Lst s'.heap a ws /\ IsDs C (fun b=>Z b \/ b = a) s'.heap ws l) nf s
theorem FSpec.pspec {fv:Value} {ds l:List D} (h:FSpec C k fv ds l):PSpec C k fv ds (.lst l):=by
 intro Z A s vs R K z i
 exact wpT (h Z A s vs R K z i) fun v s' ⟨x,a,ws,e,fr,h1,h2⟩=>by subst e; exact ⟨x,.lst _ _ _ h1 (z.fresh fr) (h2.mono (fun b o n g=>g) fun b o n g q=>n (.inl q))⟩
set_option tactic.hygienic true in
theorem FSpec.split {x y:Str} {r:List Str} (h:splitD x y = some r):FSpec C k (.builtin "str.split") [.str x,.str y] (r.map .str):=by
 intro Z A s vs R K z i
 replace i:=i.iCons; obtain ⟨_,_,hqq,i,j⟩:=i; cases hqq
 replace j:=j.iCons; obtain ⟨_,_,hqq,j,j'⟩:=j; cases hqq
 cases j'; cases i; cases j
 rename_i t u
 have fr:s.heap.get? s.heap.objs.size = none:=Heap.get?_none_of_le (Nat.le_refl _)
 unfold splitD at h
 split at h
 ·rename_i hx
  by_cases c1:(decide (x.length < y.length) || decide (strKind x < strKind y)) = true
  ·rw [if_pos c1] at h; cases h
   refine call_meets PySem.F.slot_str_split (typeIs_str _ _ _) PySem.F.entry_str_split (PySem.F.args_str_split_2 _ _) (meets_str_split_cannot_occur x y t u c1) ?_
   exact ⟨Ext.push K,_,[.str x t],rfl,fr,⟨0,Heap.get?_push_size _ rfl⟩,.cons (.str _ _) .nil⟩
  ·rw [if_neg c1] at h
   by_cases c2:(y.length == 0) = true
   ·rw [if_pos c2] at h; cases h
   ·rw [if_neg c2] at h
    by_cases c3:(occurrences x y 0 x.length (x.length + 1)).isEmpty = true
    ·rw [if_pos c3] at h; cases h
     refine call_meets PySem.F.slot_str_split (typeIs_str _ _ _) PySem.F.entry_str_split (PySem.F.args_str_split_2 _ _) (meets_str_split_not_found x y t u (by simpa using c1) (by simpa using c2) c3) ?_
     exact ⟨Ext.push K,_,[.str x t],rfl,fr,⟨0,Heap.get?_push_size _ rfl⟩,.cons (.str _ _) .nil⟩
    ·rw [if_neg c3] at h
     split at h
     ·rename_i c4
      cases h
      refine call_meets PySem.F.slot_str_split (typeIs_str _ _ _) PySem.F.entry_str_split (PySem.F.args_str_split_2 _ _) (meets_str_split_sep x y t u (by simpa using c1) (by simpa using c2) (by simpa using c3) (by rw [sizeLine_eq]; omega) (by rw [sizeLine_eq]; omega)) ?_
      exact ⟨Ext.push K,_,PySem.strsFrom s.toks _,rfl,fr,⟨0,Heap.get?_push_size _ rfl⟩,.strsFrom _ _⟩
     ·cases h
 ·cases h
noncomputable def atIx (n:Nat) (i:Int):Nat:=(max 0 (if i < 0 then i + n else i)).toNat
theorem gives_find4 (x y:Str) (i j:Int) (t u v w:Tok):Gives (Builtin.«str.find» ⟨[.str x t,.str y u,.int i v,.int j w],[]⟩) (.int (match occurrences x y (atIx x.length i) (min (atIx x.length j) x.length) 1 with | k :: _=>(k:Int) | []=>-1)):=by
 show Gives (match occurrences x y (atIx x.length i) (min (atIx x.length j) x.length) 1 with | k :: _=>retInt k | []=>(do rule "str.find.not-found"; retInt (-1))) _
 cases occurrences x y (atIx x.length i) (min (atIx x.length j) x.length) 1 with
 | nil=>exact .rule (.of_eq rfl)
 | cons k _=>exact .of_eq rfl
noncomputable def findD (x y:Str) (i j:Int):Int:=match occurrences x y (atIx x.length i) (min (atIx x.length j) x.length) 1 with | k :: _=>(k:Int) | []=>-1
theorem PSpec.find4 {x y:Str} {i j:Int}:PSpec C k (.builtin "str.find") [.str x,.str y,.int i,.int j] (.int (findD x y i j)):=by
 intro Z A s vs R K z h
 replace h:=h.iCons; obtain ⟨_,_,hqq,i1,h⟩:=h; cases hqq
 replace h:=h.iCons; obtain ⟨_,_,hqq,i2,h⟩:=h; cases hqq
 replace h:=h.iCons; obtain ⟨_,_,hqq,i3,h⟩:=h; cases hqq
 replace h:=h.iCons; obtain ⟨_,_,hqq,i4,h⟩:=h; cases hqq
 cases h; cases i1; cases i2; cases i3; cases i4
 exact call_gives PySem.F.slot_str_find (typeIs_str _ _ _) PySem.F.entry_str_find (PySem.F.args_str_find_4 _ _ _ _) (gives_find4 x y i j _ _ _ _) ⟨.tok K,.int _ _⟩
end
end
section
inductive Tg where
 | one (i:Nat) | two (i j:Nat)
mutual
inductive E where
 | var (i:Nat) | int (n:Int) | str (s:Str) | bool (b:Bool)
 | bin (op:Operator) (a b:E) | cmp (op:CmpOp) (a b:E) | ite (c:T) (a b:E)
 | and (a b:E)
 | tup (l:List E) | lst (l:List E)
 | call (f:Nat) (l:List E) | meth (m:Nat) (o:E) (l:List E)
 | wm (m:Nat) (o:E) (l:List E)
 | sub (a i:E) | slcLo (a l:E) | slcHi (a h:E)
 | attr (x:Nat) (o:E) | neg (a:E) | gc (n:Nat)
 | comp (ms:List (Option Nat)) (ks:List NameKind) (tg:Tg) (it:It) (ifs:List T) (elt:E)
 | comp2 (ms:List (Option Nat)) (ks:List NameKind) (tg:Tg) (it:It) (j:Nat) (it2:It) (elt:E)
inductive T where
 | e (a:E) | cmp (op:CmpOp) (a b:E) | and (a b:T)
inductive It where
 | e (a:E) | r1 (a:E) | rev (a:E)
 | r2 (a b:E)
end
noncomputable abbrev G:=Nat -> List D -> Option D
noncomputable def getV (σ:Vars) (i:Nat):Option D:=match σ[i]? with
 | some (.d d)=>some d
 | some (.sd d)=>some d
 | _=>none
noncomputable def stoB (ks:List NameKind) (σ:Vars) (i:Nat):Bool:=match ks[i]?,σ[i]? with
 | some k,some av=>av.sto k
 | _,_=>false
noncomputable def setT (ks:List NameKind) (σ:Vars):Tg -> D -> Option Vars
 | .one i,d=>if stoB ks σ i = true then some (σ.set i (.d d)) else none
 | .two i j,.tup [a,b]=>if i ≠ j /\ stoB ks σ i = true /\ stoB ks σ j = true then some ((σ.set i (.d a)).set j (.d b)) else none
 | _,_=>none
noncomputable def flatM (F:D -> Option (List D)):List D -> Option (List D)
 | []=>some []
 | d :: ds=>match F d with
  | none=>none
  | some l=>match flatM F ds with
   | none=>none
   | some r=>some (l ++ r)
noncomputable def capV (σ:Vars):List NameKind -> List (Option Nat) -> Vars
 | k :: ns,m :: ms=>capAv σ k m :: capV σ ns ms
 | _,_=>[]
noncomputable def isNo (σ:Vars) (j:Nat):Bool:=match σ[j]? with
 | some .no=>true
 | _=>false
noncomputable def short (l:List D):Option D:=if l.length <= 1000000 then some (.lst l) else none
noncomputable def itemsOf:D -> Option (List D)
 | .lst l=>some l
 | .str x=>some (chs x)
 | .tup l=>some l
 | _=>none
noncomputable def oW {γ:Type} (d:D) (f:Int -> Int -> List Int -> Int -> Option γ):Option γ:=match d with
 | .ws n nt cnt b=>f n nt cnt b
 | _=>none
@[elab_as_elim] theorem oW_t {γ:Type} {r:γ} {d:D} {P:D -> Prop} {f:Int -> Int -> List Int -> Int -> Option γ} (h:oW d f = some r) (k:∀ n nt cnt b,f n nt cnt b = some r -> P (.ws n nt cnt b)):P d:=by
 cases d with
 | ws n nt cnt b=>exact k n nt cnt b h
 | _=>cases h
noncomputable def attD (x:Nat) (d:D):Option D:=oW d fun n nt cnt b=>match x with
 | 0=>some (.tup [.tup (cnt.map .int),.int b])
 | 1=>some (.int n)
 | 2=>some (.int nt)
 | _=>none
noncomputable def gcN:Nat -> Str
 | 0=>"_DIV_LIMIT"
 | _=>"ELLIPSIS_MARKER"
noncomputable def gcV:Nat -> Option D
 | 0=>some (.int 4000)
 | 1=>some (.str "...")
 | _=>none
noncomputable def rngOk (a:Int):Bool:=decide (-1000000000 <= a) && decide (a <= 1000000000)
noncomputable def l0 {α γ:Type} (ds:List α) (o:Option γ):Option γ:=match ds with
 | []=>o
 | _ :: _=>none
noncomputable def l1 {α γ:Type} (ds:List α) (f:α -> Option γ):Option γ:=match ds with
 | []=>none
 | x :: xs=>l0 xs (f x)
noncomputable def l2 {α γ:Type} (ds:List α) (f:α -> α -> Option γ):Option γ:=match ds with
 | []=>none
 | x :: xs=>l1 xs fun y=>f x y
noncomputable def l3 {α γ:Type} (ds:List α) (f:α -> α -> α -> Option γ):Option γ:=match ds with
 | []=>none
 | x :: xs=>match xs with
  | []=>none
  | y :: ys=>l1 ys fun z=>f x y z
@[elab_as_elim] theorem l0_t {α γ:Type} {ds:List α} {o:Option γ} {d:γ} {P:List α -> Prop} (h:l0 ds o = some d) (k:o = some d -> P []):P ds:=by
 cases ds with
 | nil=>exact k h
 | cons _ _=>cases h
@[elab_as_elim] theorem l1_t {α γ:Type} {ds:List α} {f:α -> Option γ} {d:γ} {P:List α -> Prop} (h:l1 ds f = some d) (k:∀ x,f x = some d -> P [x]):P ds:=by
 cases ds with
 | nil=>cases h
 | cons x xs=>exact l0_t (ds:=xs) h fun h=>k x h
@[elab_as_elim] theorem l2_t {α γ:Type} {ds:List α} {f:α -> α -> Option γ} {d:γ} {P:List α -> Prop} (h:l2 ds f = some d) (k:∀ x y,f x y = some d -> P [x,y]):P ds:=by
 cases ds with
 | nil=>cases h
 | cons x xs=>exact l1_t (ds:=xs) h fun y h=>k x y h
@[elab_as_elim] theorem l3_t {α γ:Type} {ds:List α} {f:α -> α -> α -> Option γ} {d:γ} {P:List α -> Prop} (h:l3 ds f = some d) (k:∀ x y z,f x y z = some d -> P [x,y,z]):P ds:=by
 cases ds with
 | nil=>cases h
 | cons x xs=>cases xs with
  | nil=>cases h
  | cons y ys=>exact l1_t (ds:=ys) h fun z h=>k x y z h
noncomputable def joinD (x:Str) (a:D):Option D:=match a with
 | .lst l=>match strs? l with
  | some ys=>if (ys.map (·.length)).sum + ys.length * x.length <= 16777216 then some (.str (Txt.join x ys)) else none
  | none=>none
 | _=>none
noncomputable def cntD (x b:D):Option D:=match x with
 | .str x=>oS b fun y=>some (.int (Builtin.Str.occurrences x y 0 x.length (x.length + 1)).length)
 | .lst l=>if (okPy (.list (D.pys l)) && okPy b.py) = true then some (.int (countI b (D.pys l))) else none
 | _=>none
noncomputable def mth (m:Nat) (x:D) (ds:List D):Option D:=match m with
 | 0=>oS x fun x=>l1 ds fun a=>joinD x a
 | 1=>l1 ds fun b=>cntD x b
 | 2=>oS x fun x=>l1 ds fun a=>oS a fun y=>some (.bool (0 + y.length <= x.length && Builtin.Str.subAt x y 0))
 | 3=>oS x fun x=>l1 ds fun a=>oS a fun y=>some (.bool (0 + y.length <= x.length && Builtin.Str.subAt x y (x.length - y.length)))
 | 4=>oS x fun x=>l3 ds fun a b c=>oS a fun y=>oI b fun i=>oI c fun j=>some (.int (findD x y i j))
 | 6=>oI x fun a=>l0 ds (some (.int (bits a)))
 | 8=>oS x fun x=>l1 ds fun a=>oS a fun y=>(splitD x y).map fun r=>.lst (r.map .str)
 | _=>none
theorem mth_bits {a:Int}:mth 6 (.int a) [] = some (.int (bits a)):=rfl
mutual
noncomputable def evE (g:G):E -> Vars -> Option D
 | .var i,σ=>getV σ i
 | .int n,_=>some (.int n)
 | .str s,_=>some (.str s)
 | .bool b,_=>some (.bool b)
 | .bin op a b,σ=>match evE g a σ,evE g b σ with
  | some x,some y=>bin2 op x y
  | _,_=>none
 | .cmp op a b,σ=>match evE g a σ,evE g b σ with
  | some x,some y=>(cmp2 op x y).map .bool
  | _,_=>none
 | .ite c a b,σ=>match evT g c σ with
  | some true=>evE g a σ
  | some false=>evE g b σ
  | none=>none
 | .and a b,σ=>match evE g a σ with
  | some (.bool true)=>evE g b σ
  | some (.bool false)=>some (.bool false)
  | _=>none
 | .tup l,σ=>match evL g l σ with
  | some ds=>if ds.length <= 1000000 then some (.tup ds) else none
  | none=>none
 | .lst l,σ=>match evL g l σ with
  | some ds=>short ds
  | none=>none
 | .call f l,σ=>match evL g l σ with
  | some ds=>g f ds
  | none=>none
 | .meth m o l,σ=>match evE g o σ,evL g l σ with
  | some x,some ds=>mth m x ds
  | _,_=>none
 | .wm m o l,σ=>match evE g o σ,evL g l σ with
  | some x,some ds=>if 100 <= m then g m (x :: ds) else none
  | _,_=>none
 | .sub a i,σ=>match evE g a σ,evE g i σ with
  | some x,some y=>sub2 x y
  | _,_=>none
 | .slcLo a i,σ=>match evE g a σ,evE g i σ with
  | some x,some (.int n)=>slc2 x (some n) none
  | _,_=>none
 | .slcHi a i,σ=>match evE g a σ,evE g i σ with
  | some x,some (.int n)=>slc2 x none (some n)
  | _,_=>none
 | .attr x o,σ=>match evE g o σ with
  | some d=>attD x d
  | none=>none
 | .neg a,σ=>match evE g a σ with
  | some (.int n)=>some (.int (-n))
  | _=>none
 | .gc n,_=>gcV n
 | .comp ms ks tg it ifs elt,σ=>match evI g it σ with
  | none=>none
  | some items=>if capH σ ms = true then
    (match flatM (fun d=>match setT ks (capV σ ks ms) tg d with
     | none=>none
     | some σ₂=>match evTs g ifs σ₂ with
      | some true=>(match evE g elt σ₂ with
       | some d'=>some [d']
       | none=>none)
      | some false=>some []
      | none=>none) items with
    | some r=>short r
    | none=>none) else none
 | .comp2 ms ks tg it j it2 elt,σ=>match evI g it σ with
  | none=>none
  | some items=>if capH σ ms = true then
    (match flatM (fun d=>match setT ks (capV σ ks ms) tg d with
     | none=>none
     | some σ₂=>if isNo σ₂ j = true then (match evI g it2 σ₂ with
      | none=>none
      | some items2=>flatM (fun d2=>match setT ks σ₂ (.one j) d2 with
       | none=>none
       | some σ₃=>(match evE g elt σ₃ with
        | some d'=>some [d']
        | none=>none)) items2) else none) items with
    | some r=>short r
    | none=>none) else none
noncomputable def evL (g:G):List E -> Vars -> Option (List D)
 | [],_=>some []
 | e :: es,σ=>match evE g e σ,evL g es σ with
  | some d,some ds=>some (d :: ds)
  | _,_=>none
noncomputable def evT (g:G):T -> Vars -> Option Bool
 | .e a,σ=>match evE g a σ with
  | some d=>tru1 d
  | none=>none
 | .cmp op a b,σ=>match evE g a σ,evE g b σ with
  | some x,some y=>cmp2 op x y
  | _,_=>none
 | .and a b,σ=>match evT g a σ with
  | some true=>evT g b σ
  | some false=>some false
  | none=>none
noncomputable def evTs (g:G):List T -> Vars -> Option Bool
 | [],_=>some true
 | t :: ts,σ=>match evT g t σ with
  | some true=>evTs g ts σ
  | some false=>some false
  | none=>none
noncomputable def evI (g:G):It -> Vars -> Option (List D)
 | .e a,σ=>match evE g a σ with
  | some d=>itemsOf d
  | none=>none
 | .r1 a,σ=>match evE g a σ with
  | some (.int n)=>if rngOk n = true then some (rng 0 n.toNat) else none
  | _=>none
 | .r2 a b,σ=>match evE g a σ,evE g b σ with
  | some (.int m),some (.int n)=>if (rngOk m && rngOk n) = true then some (rng m (n - m).toNat) else none
  | _,_=>none
 | .rev a,σ=>match evE g a σ with
  | some (.lst l)=>some l.reverse
  | _=>none
end
end
section
theorem dif_t {c:Prop} [Decidable c] {g:c -> Bool} (h:(if q:c then g q else false) = true):∃ q,g q = true:=by
 by_cases q:c
 ·rw [dif_pos q] at h; exact ⟨q,h⟩
 ·rw [dif_neg q] at h; cases h
noncomputable def kName (e:PySem.Expr) (f:Str -> Pos -> Bool):Bool:=if h:e.ctorIdx = 23 then PySem.Expr.Name.elim (motive_1:=fun _=>Bool) e h f else false
@[elab_as_elim] theorem kName_t {e:PySem.Expr} {f:Str -> Pos -> Bool} {P:PySem.Expr -> Prop} (hr:kName e f = true) (k:∀ a0 a1,f a0 a1 = true -> P (.Name a0 a1)):P e :=
 (dif_t hr).elim fun q hr=>PySem.Expr.Name.elim (motive_1:=fun e=>∀ q:e.ctorIdx = 23,PySem.Expr.Name.elim (motive_1:=fun _=>Bool) e q f = true -> P e) e q (fun a0 a1 q hr=>k a0 a1 hr) q hr
noncomputable def kConstant (e:PySem.Expr) (f:Const -> Nat -> Pos -> Bool):Bool:=if h:e.ctorIdx = 19 then PySem.Expr.Constant.elim (motive_1:=fun _=>Bool) e h f else false
@[elab_as_elim] theorem kConstant_t {e:PySem.Expr} {f:Const -> Nat -> Pos -> Bool} {P:PySem.Expr -> Prop} (hr:kConstant e f = true) (k:∀ a0 a1 a2,f a0 a1 a2 = true -> P (.Constant a0 a1 a2)):P e :=
 (dif_t hr).elim fun q hr=>PySem.Expr.Constant.elim (motive_1:=fun e=>∀ q:e.ctorIdx = 19,PySem.Expr.Constant.elim (motive_1:=fun _=>Bool) e q f = true -> P e) e q (fun a0 a1 a2 q hr=>k a0 a1 a2 hr) q hr
noncomputable def kBinOp (e:PySem.Expr) (f:Expr -> Operator -> Expr -> Pos -> Bool):Bool:=if h:e.ctorIdx = 2 then PySem.Expr.BinOp.elim (motive_1:=fun _=>Bool) e h f else false
@[elab_as_elim] theorem kBinOp_t {e:PySem.Expr} {f:Expr -> Operator -> Expr -> Pos -> Bool} {P:PySem.Expr -> Prop} (hr:kBinOp e f = true) (k:∀ a0 a1 a2 a3,f a0 a1 a2 a3 = true -> P (.BinOp a0 a1 a2 a3)):P e :=
 (dif_t hr).elim fun q hr=>PySem.Expr.BinOp.elim (motive_1:=fun e=>∀ q:e.ctorIdx = 2,PySem.Expr.BinOp.elim (motive_1:=fun _=>Bool) e q f = true -> P e) e q (fun a0 a1 a2 a3 q hr=>k a0 a1 a2 a3 hr) q hr
noncomputable def kCompare (e:PySem.Expr) (f:Expr -> (List CmpOp) -> (List Expr) -> Pos -> Bool):Bool:=if h:e.ctorIdx = 15 then PySem.Expr.Compare.elim (motive_1:=fun _=>Bool) e h f else false
@[elab_as_elim] theorem kCompare_t {e:PySem.Expr} {f:Expr -> (List CmpOp) -> (List Expr) -> Pos -> Bool} {P:PySem.Expr -> Prop} (hr:kCompare e f = true) (k:∀ a0 a1 a2 a3,f a0 a1 a2 a3 = true -> P (.Compare a0 a1 a2 a3)):P e :=
 (dif_t hr).elim fun q hr=>PySem.Expr.Compare.elim (motive_1:=fun e=>∀ q:e.ctorIdx = 15,PySem.Expr.Compare.elim (motive_1:=fun _=>Bool) e q f = true -> P e) e q (fun a0 a1 a2 a3 q hr=>k a0 a1 a2 a3 hr) q hr
noncomputable def kIfExp (e:PySem.Expr) (f:Expr -> Expr -> Expr -> Pos -> Bool):Bool:=if h:e.ctorIdx = 5 then PySem.Expr.IfExp.elim (motive_1:=fun _=>Bool) e h f else false
@[elab_as_elim] theorem kIfExp_t {e:PySem.Expr} {f:Expr -> Expr -> Expr -> Pos -> Bool} {P:PySem.Expr -> Prop} (hr:kIfExp e f = true) (k:∀ a0 a1 a2 a3,f a0 a1 a2 a3 = true -> P (.IfExp a0 a1 a2 a3)):P e :=
 (dif_t hr).elim fun q hr=>PySem.Expr.IfExp.elim (motive_1:=fun e=>∀ q:e.ctorIdx = 5,PySem.Expr.IfExp.elim (motive_1:=fun _=>Bool) e q f = true -> P e) e q (fun a0 a1 a2 a3 q hr=>k a0 a1 a2 a3 hr) q hr
noncomputable def kUnaryOp (e:PySem.Expr) (f:UnaryOp -> Expr -> Pos -> Bool):Bool:=if h:e.ctorIdx = 3 then PySem.Expr.UnaryOp.elim (motive_1:=fun _=>Bool) e h f else false
@[elab_as_elim] theorem kUnaryOp_t {e:PySem.Expr} {f:UnaryOp -> Expr -> Pos -> Bool} {P:PySem.Expr -> Prop} (hr:kUnaryOp e f = true) (k:∀ a0 a1 a2,f a0 a1 a2 = true -> P (.UnaryOp a0 a1 a2)):P e :=
 (dif_t hr).elim fun q hr=>PySem.Expr.UnaryOp.elim (motive_1:=fun e=>∀ q:e.ctorIdx = 3,PySem.Expr.UnaryOp.elim (motive_1:=fun _=>Bool) e q f = true -> P e) e q (fun a0 a1 a2 q hr=>k a0 a1 a2 hr) q hr
noncomputable def kBoolOp (e:PySem.Expr) (f:BoolOp -> (List Expr) -> Pos -> Bool):Bool:=if h:e.ctorIdx = 0 then PySem.Expr.BoolOp.elim (motive_1:=fun _=>Bool) e h f else false
@[elab_as_elim] theorem kBoolOp_t {e:PySem.Expr} {f:BoolOp -> (List Expr) -> Pos -> Bool} {P:PySem.Expr -> Prop} (hr:kBoolOp e f = true) (k:∀ a0 a1 a2,f a0 a1 a2 = true -> P (.BoolOp a0 a1 a2)):P e :=
 (dif_t hr).elim fun q hr=>PySem.Expr.BoolOp.elim (motive_1:=fun e=>∀ q:e.ctorIdx = 0,PySem.Expr.BoolOp.elim (motive_1:=fun _=>Bool) e q f = true -> P e) e q (fun a0 a1 a2 q hr=>k a0 a1 a2 hr) q hr
noncomputable def kTuple (e:PySem.Expr) (f:(List Expr) -> Nat -> Pos -> Bool):Bool:=if h:e.ctorIdx = 25 then PySem.Expr.Tuple.elim (motive_1:=fun _=>Bool) e h f else false
@[elab_as_elim] theorem kTuple_t {e:PySem.Expr} {f:(List Expr) -> Nat -> Pos -> Bool} {P:PySem.Expr -> Prop} (hr:kTuple e f = true) (k:∀ a0 a1 a2,f a0 a1 a2 = true -> P (.Tuple a0 a1 a2)):P e :=
 (dif_t hr).elim fun q hr=>PySem.Expr.Tuple.elim (motive_1:=fun e=>∀ q:e.ctorIdx = 25,PySem.Expr.Tuple.elim (motive_1:=fun _=>Bool) e q f = true -> P e) e q (fun a0 a1 a2 q hr=>k a0 a1 a2 hr) q hr
noncomputable def kList (e:PySem.Expr) (f:(List Expr) -> Pos -> Bool):Bool:=if h:e.ctorIdx = 24 then PySem.Expr.List.elim (motive_1:=fun _=>Bool) e h f else false
@[elab_as_elim] theorem kList_t {e:PySem.Expr} {f:(List Expr) -> Pos -> Bool} {P:PySem.Expr -> Prop} (hr:kList e f = true) (k:∀ a0 a1,f a0 a1 = true -> P (.List a0 a1)):P e :=
 (dif_t hr).elim fun q hr=>PySem.Expr.List.elim (motive_1:=fun e=>∀ q:e.ctorIdx = 24,PySem.Expr.List.elim (motive_1:=fun _=>Bool) e q f = true -> P e) e q (fun a0 a1 q hr=>k a0 a1 hr) q hr
noncomputable def kCall (e:PySem.Expr) (f:Expr -> (List Expr) -> (List Keyword) -> Pos -> Bool):Bool:=if h:e.ctorIdx = 16 then PySem.Expr.Call.elim (motive_1:=fun _=>Bool) e h f else false
@[elab_as_elim] theorem kCall_t {e:PySem.Expr} {f:Expr -> (List Expr) -> (List Keyword) -> Pos -> Bool} {P:PySem.Expr -> Prop} (hr:kCall e f = true) (k:∀ a0 a1 a2 a3,f a0 a1 a2 a3 = true -> P (.Call a0 a1 a2 a3)):P e :=
 (dif_t hr).elim fun q hr=>PySem.Expr.Call.elim (motive_1:=fun e=>∀ q:e.ctorIdx = 16,PySem.Expr.Call.elim (motive_1:=fun _=>Bool) e q f = true -> P e) e q (fun a0 a1 a2 a3 q hr=>k a0 a1 a2 a3 hr) q hr
noncomputable def kAttribute (e:PySem.Expr) (f:Expr -> Str -> Pos -> Bool):Bool:=if h:e.ctorIdx = 20 then PySem.Expr.Attribute.elim (motive_1:=fun _=>Bool) e h f else false
@[elab_as_elim] theorem kAttribute_t {e:PySem.Expr} {f:Expr -> Str -> Pos -> Bool} {P:PySem.Expr -> Prop} (hr:kAttribute e f = true) (k:∀ a0 a1 a2,f a0 a1 a2 = true -> P (.Attribute a0 a1 a2)):P e :=
 (dif_t hr).elim fun q hr=>PySem.Expr.Attribute.elim (motive_1:=fun e=>∀ q:e.ctorIdx = 20,PySem.Expr.Attribute.elim (motive_1:=fun _=>Bool) e q f = true -> P e) e q (fun a0 a1 a2 q hr=>k a0 a1 a2 hr) q hr
noncomputable def kSubscript (e:PySem.Expr) (f:Expr -> Expr -> Pos -> Bool):Bool:=if h:e.ctorIdx = 21 then PySem.Expr.Subscript.elim (motive_1:=fun _=>Bool) e h f else false
@[elab_as_elim] theorem kSubscript_t {e:PySem.Expr} {f:Expr -> Expr -> Pos -> Bool} {P:PySem.Expr -> Prop} (hr:kSubscript e f = true) (k:∀ a0 a1 a2,f a0 a1 a2 = true -> P (.Subscript a0 a1 a2)):P e :=
 (dif_t hr).elim fun q hr=>PySem.Expr.Subscript.elim (motive_1:=fun e=>∀ q:e.ctorIdx = 21,PySem.Expr.Subscript.elim (motive_1:=fun _=>Bool) e q f = true -> P e) e q (fun a0 a1 a2 q hr=>k a0 a1 a2 hr) q hr
noncomputable def kSlice (e:PySem.Expr) (f:(Option Expr) -> (Option Expr) -> (Option Expr) -> Pos -> Bool):Bool:=if h:e.ctorIdx = 26 then PySem.Expr.Slice.elim (motive_1:=fun _=>Bool) e h f else false
@[elab_as_elim] theorem kSlice_t {e:PySem.Expr} {f:(Option Expr) -> (Option Expr) -> (Option Expr) -> Pos -> Bool} {P:PySem.Expr -> Prop} (hr:kSlice e f = true) (k:∀ a0 a1 a2 a3,f a0 a1 a2 a3 = true -> P (.Slice a0 a1 a2 a3)):P e :=
 (dif_t hr).elim fun q hr=>PySem.Expr.Slice.elim (motive_1:=fun e=>∀ q:e.ctorIdx = 26,PySem.Expr.Slice.elim (motive_1:=fun _=>Bool) e q f = true -> P e) e q (fun a0 a1 a2 a3 q hr=>k a0 a1 a2 a3 hr) q hr
noncomputable def kListComp (e:PySem.Expr) (f:Expr -> (List Comprehension) -> Scope -> Pos -> Bool):Bool:=if h:e.ctorIdx = 8 then PySem.Expr.ListComp.elim (motive_1:=fun _=>Bool) e h f else false
@[elab_as_elim] theorem kListComp_t {e:PySem.Expr} {f:Expr -> (List Comprehension) -> Scope -> Pos -> Bool} {P:PySem.Expr -> Prop} (hr:kListComp e f = true) (k:∀ a0 a1 a2 a3,f a0 a1 a2 a3 = true -> P (.ListComp a0 a1 a2 a3)):P e :=
 (dif_t hr).elim fun q hr=>PySem.Expr.ListComp.elim (motive_1:=fun e=>∀ q:e.ctorIdx = 8,PySem.Expr.ListComp.elim (motive_1:=fun _=>Bool) e q f = true -> P e) e q (fun a0 a1 a2 a3 q hr=>k a0 a1 a2 a3 hr) q hr
noncomputable def sAssign (e:PySem.Stmt) (f:(List PySem.Expr) -> PySem.Expr -> Pos -> Bool):Bool:=if h:e.ctorIdx = 5 then PySem.Stmt.Assign.elim (motive_2:=fun _=>Bool) e h f else false
@[elab_as_elim] theorem sAssign_t {e:PySem.Stmt} {f:(List PySem.Expr) -> PySem.Expr -> Pos -> Bool} {P:PySem.Stmt -> Prop} (hr:sAssign e f = true) (k:∀ a0 a1 a2,f a0 a1 a2 = true -> P (.Assign a0 a1 a2)):P e :=
 (dif_t hr).elim fun q hr=>PySem.Stmt.Assign.elim (motive_2:=fun e=>∀ q:e.ctorIdx = 5,PySem.Stmt.Assign.elim (motive_2:=fun _=>Bool) e q f = true -> P e) e q (fun a0 a1 a2 q hr=>k a0 a1 a2 hr) q hr
noncomputable def sAugAssign (e:PySem.Stmt) (f:PySem.Expr -> Operator -> PySem.Expr -> Pos -> Bool):Bool:=if h:e.ctorIdx = 7 then PySem.Stmt.AugAssign.elim (motive_2:=fun _=>Bool) e h f else false
@[elab_as_elim] theorem sAugAssign_t {e:PySem.Stmt} {f:PySem.Expr -> Operator -> PySem.Expr -> Pos -> Bool} {P:PySem.Stmt -> Prop} (hr:sAugAssign e f = true) (k:∀ a0 a1 a2 a3,f a0 a1 a2 a3 = true -> P (.AugAssign a0 a1 a2 a3)):P e :=
 (dif_t hr).elim fun q hr=>PySem.Stmt.AugAssign.elim (motive_2:=fun e=>∀ q:e.ctorIdx = 7,PySem.Stmt.AugAssign.elim (motive_2:=fun _=>Bool) e q f = true -> P e) e q (fun a0 a1 a2 a3 q hr=>k a0 a1 a2 a3 hr) q hr
noncomputable def sReturn (e:PySem.Stmt) (f:(Option PySem.Expr) -> Pos -> Bool):Bool:=if h:e.ctorIdx = 3 then PySem.Stmt.Return.elim (motive_2:=fun _=>Bool) e h f else false
@[elab_as_elim] theorem sReturn_t {e:PySem.Stmt} {f:(Option PySem.Expr) -> Pos -> Bool} {P:PySem.Stmt -> Prop} (hr:sReturn e f = true) (k:∀ a0 a1,f a0 a1 = true -> P (.Return a0 a1)):P e :=
 (dif_t hr).elim fun q hr=>PySem.Stmt.Return.elim (motive_2:=fun e=>∀ q:e.ctorIdx = 3,PySem.Stmt.Return.elim (motive_2:=fun _=>Bool) e q f = true -> P e) e q (fun a0 a1 q hr=>k a0 a1 hr) q hr
noncomputable def sIf (e:PySem.Stmt) (f:PySem.Expr -> (List PySem.Stmt) -> (List PySem.Stmt) -> Pos -> Bool):Bool:=if h:e.ctorIdx = 12 then PySem.Stmt.If.elim (motive_2:=fun _=>Bool) e h f else false
@[elab_as_elim] theorem sIf_t {e:PySem.Stmt} {f:PySem.Expr -> (List PySem.Stmt) -> (List PySem.Stmt) -> Pos -> Bool} {P:PySem.Stmt -> Prop} (hr:sIf e f = true) (k:∀ a0 a1 a2 a3,f a0 a1 a2 a3 = true -> P (.If a0 a1 a2 a3)):P e :=
 (dif_t hr).elim fun q hr=>PySem.Stmt.If.elim (motive_2:=fun e=>∀ q:e.ctorIdx = 12,PySem.Stmt.If.elim (motive_2:=fun _=>Bool) e q f = true -> P e) e q (fun a0 a1 a2 a3 q hr=>k a0 a1 a2 a3 hr) q hr
noncomputable def sFor (e:PySem.Stmt) (f:PySem.Expr -> PySem.Expr -> (List PySem.Stmt) -> (List PySem.Stmt) -> Pos -> Bool):Bool:=if h:e.ctorIdx = 9 then PySem.Stmt.For.elim (motive_2:=fun _=>Bool) e h f else false
@[elab_as_elim] theorem sFor_t {e:PySem.Stmt} {f:PySem.Expr -> PySem.Expr -> (List PySem.Stmt) -> (List PySem.Stmt) -> Pos -> Bool} {P:PySem.Stmt -> Prop} (hr:sFor e f = true) (k:∀ a0 a1 a2 a3 a4,f a0 a1 a2 a3 a4 = true -> P (.For a0 a1 a2 a3 a4)):P e :=
 (dif_t hr).elim fun q hr=>PySem.Stmt.For.elim (motive_2:=fun e=>∀ q:e.ctorIdx = 9,PySem.Stmt.For.elim (motive_2:=fun _=>Bool) e q f = true -> P e) e q (fun a0 a1 a2 a3 a4 q hr=>k a0 a1 a2 a3 a4 hr) q hr
noncomputable def sWhile (e:PySem.Stmt) (f:PySem.Expr -> (List PySem.Stmt) -> (List PySem.Stmt) -> Pos -> Bool):Bool:=if h:e.ctorIdx = 11 then PySem.Stmt.While.elim (motive_2:=fun _=>Bool) e h f else false
@[elab_as_elim] theorem sWhile_t {e:PySem.Stmt} {f:PySem.Expr -> (List PySem.Stmt) -> (List PySem.Stmt) -> Pos -> Bool} {P:PySem.Stmt -> Prop} (hr:sWhile e f = true) (k:∀ a0 a1 a2 a3,f a0 a1 a2 a3 = true -> P (.While a0 a1 a2 a3)):P e :=
 (dif_t hr).elim fun q hr=>PySem.Stmt.While.elim (motive_2:=fun e=>∀ q:e.ctorIdx = 11,PySem.Stmt.While.elim (motive_2:=fun _=>Bool) e q f = true -> P e) e q (fun a0 a1 a2 a3 q hr=>k a0 a1 a2 a3 hr) q hr
noncomputable def sAssert (e:PySem.Stmt) (f:PySem.Expr -> (Option PySem.Expr) -> Pos -> Bool):Bool:=if h:e.ctorIdx = 19 then PySem.Stmt.Assert.elim (motive_2:=fun _=>Bool) e h f else false
@[elab_as_elim] theorem sAssert_t {e:PySem.Stmt} {f:PySem.Expr -> (Option PySem.Expr) -> Pos -> Bool} {P:PySem.Stmt -> Prop} (hr:sAssert e f = true) (k:∀ a0 a1 a2,f a0 a1 a2 = true -> P (.Assert a0 a1 a2)):P e :=
 (dif_t hr).elim fun q hr=>PySem.Stmt.Assert.elim (motive_2:=fun e=>∀ q:e.ctorIdx = 19,PySem.Stmt.Assert.elim (motive_2:=fun _=>Bool) e q f = true -> P e) e q (fun a0 a1 a2 q hr=>k a0 a1 a2 hr) q hr
noncomputable def sExpr (e:PySem.Stmt) (f:PySem.Expr -> Pos -> Bool):Bool:=if h:e.ctorIdx = 24 then PySem.Stmt.Expr.elim (motive_2:=fun _=>Bool) e h f else false
@[elab_as_elim] theorem sExpr_t {e:PySem.Stmt} {f:PySem.Expr -> Pos -> Bool} {P:PySem.Stmt -> Prop} (hr:sExpr e f = true) (k:∀ a0 a1,f a0 a1 = true -> P (.Expr a0 a1)):P e :=
 (dif_t hr).elim fun q hr=>PySem.Stmt.Expr.elim (motive_2:=fun e=>∀ q:e.ctorIdx = 24,PySem.Stmt.Expr.elim (motive_2:=fun _=>Bool) e q f = true -> P e) e q (fun a0 a1 q hr=>k a0 a1 hr) q hr
noncomputable def sDelete (e:PySem.Stmt) (f:(List PySem.Expr) -> Pos -> Bool):Bool:=if h:e.ctorIdx = 4 then PySem.Stmt.Delete.elim (motive_2:=fun _=>Bool) e h f else false
@[elab_as_elim] theorem sDelete_t {e:PySem.Stmt} {f:(List PySem.Expr) -> Pos -> Bool} {P:PySem.Stmt -> Prop} (hr:sDelete e f = true) (k:∀ a0 a1,f a0 a1 = true -> P (.Delete a0 a1)):P e :=
 (dif_t hr).elim fun q hr=>PySem.Stmt.Delete.elim (motive_2:=fun e=>∀ q:e.ctorIdx = 4,PySem.Stmt.Delete.elim (motive_2:=fun _=>Bool) e q f = true -> P e) e q (fun a0 a1 q hr=>k a0 a1 hr) q hr
noncomputable def sBreak (e:PySem.Stmt) (f:Pos -> Bool):Bool:=if h:e.ctorIdx = 26 then PySem.Stmt.Break.elim (motive_2:=fun _=>Bool) e h f else false
@[elab_as_elim] theorem sBreak_t {e:PySem.Stmt} {f:Pos -> Bool} {P:PySem.Stmt -> Prop} (hr:sBreak e f = true) (k:∀ a0,f a0 = true -> P (.Break a0)):P e :=
 (dif_t hr).elim fun q hr=>PySem.Stmt.Break.elim (motive_2:=fun e=>∀ q:e.ctorIdx = 26,PySem.Stmt.Break.elim (motive_2:=fun _=>Bool) e q f = true -> P e) e q (fun a0 q hr=>k a0 hr) q hr
noncomputable def kNil {α:Type}:List α -> Bool
 | []=>true
 | _ :: _=>false
@[elab_as_elim] theorem kNil_t {α:Type} {l:List α} {P:List α -> Prop} (h:kNil l = true) (k:P []):P l:=by
 cases l with
 | nil=>exact k
 | cons x xs=>cases h
noncomputable def kCons {α:Type}:List α -> (α -> List α -> Bool) -> Bool
 | [],_=>false
 | x :: xs,f=>f x xs
@[elab_as_elim] theorem kCons_t {α:Type} {l:List α} {f:α -> List α -> Bool} {P:List α -> Prop} (h:kCons l f = true) (k:∀ x xs,f x xs = true -> P (x :: xs)):P l:=by
 cases l with
 | nil=>cases h
 | cons x xs=>exact k x xs h
noncomputable def k1 {α:Type} (l:List α) (f:α -> Bool):Bool:=kCons l fun x xs=>kNil xs && f x
@[elab_as_elim] theorem k1_t {α:Type} {l:List α} {f:α -> Bool} {P:List α -> Prop} (h:k1 l f = true) (k:∀ x,f x = true -> P [x]):P l :=
 kCons_t h fun x xs h=>and2 h fun h1 h2=>kNil_t (P:=fun xs=>P (x :: xs)) h1 (k x h2)
noncomputable def k2 {α:Type} (l:List α) (f:α -> α -> Bool):Bool:=kCons l fun x xs=>k1 xs fun y=>f x y
@[elab_as_elim] theorem k2_t {α:Type} {l:List α} {f:α -> α -> Bool} {P:List α -> Prop} (h:k2 l f = true) (k:∀ x y,f x y = true -> P [x,y]):P l :=
 kCons_t h fun x xs h=>k1_t (P:=fun xs=>P (x :: xs)) h fun y h=>k x y h
noncomputable def k3 {α:Type} (l:List α) (f:α -> α -> α -> Bool):Bool:=kCons l fun x xs=>k2 xs fun y z=>f x y z
@[elab_as_elim] theorem k3_t {α:Type} {l:List α} {f:α -> α -> α -> Bool} {P:List α -> Prop} (h:k3 l f = true) (k:∀ x y z,f x y z = true -> P [x,y,z]):P l :=
 kCons_t h fun x xs h=>k2_t (P:=fun xs=>P (x :: xs)) h fun y z h=>k x y z h
noncomputable def kSome {α:Type}:Option α -> (α -> Bool) -> Bool
 | none,_=>false
 | some x,f=>f x
@[elab_as_elim] theorem kSome_t {α:Type} {o:Option α} {f:α -> Bool} {P:Option α -> Prop} (h:kSome o f = true) (k:∀ x,f x = true -> P (some x)):P o:=by
 cases o with
 | none=>cases h
 | some x=>exact k x h
@[elab_as_elim] theorem isNone_t {α:Type} {o:Option α} {P:Option α -> Prop} (h:o.isNone = true) (k:P none):P o:=by
 cases o with
 | none=>exact k
 | some x=>cases h
noncomputable def isUSub (o:UnaryOp):Bool:=match o with
 | .USub=>true
 | _=>false
noncomputable def isAnd:BoolOp -> Bool
 | .And=>true
 | .Or=>false
noncomputable def isOr:BoolOp -> Bool
 | .And=>false
 | .Or=>true
@[elab_as_elim] theorem isUSub_t {o:UnaryOp} {P:UnaryOp -> Prop} (h:isUSub o = true) (k:P .USub):P o:=by cases o <;> first | exact k | cases h
@[elab_as_elim] theorem isAnd_t {o:BoolOp} {P:BoolOp -> Prop} (h:isAnd o = true) (k:P .And):P o:=by cases o <;> first | exact k | cases h
@[elab_as_elim] theorem isOr_t {o:BoolOp} {P:BoolOp -> Prop} (h:isOr o = true) (k:P .Or):P o:=by cases o <;> first | exact k | cases h
noncomputable def cInt (c:Const) (f:Int -> Bool):Bool:=if h:c.ctorIdx = 2 then Const.int.elim (motive:=fun _=>Bool) c h f else false
@[elab_as_elim] theorem cInt_t {c:Const} {f:Int -> Bool} {P:Const -> Prop} (hr:cInt c f = true) (k:∀ x,f x = true -> P (.int x)):P c :=
 (dif_t hr).elim fun q hr=>Const.int.elim (motive:=fun c=>∀ q:c.ctorIdx = 2,Const.int.elim (motive:=fun _=>Bool) c q f = true -> P c) c q (fun x q hr=>k x hr) q hr
noncomputable def cStr (c:Const) (f:Str -> Bool):Bool:=if h:c.ctorIdx = 5 then Const.str.elim (motive:=fun _=>Bool) c h f else false
@[elab_as_elim] theorem cStr_t {c:Const} {f:Str -> Bool} {P:Const -> Prop} (hr:cStr c f = true) (k:∀ x,f x = true -> P (.str x)):P c :=
 (dif_t hr).elim fun q hr=>Const.str.elim (motive:=fun c=>∀ q:c.ctorIdx = 5,Const.str.elim (motive:=fun _=>Bool) c q f = true -> P c) c q (fun x q hr=>k x hr) q hr
noncomputable def cBool (c:Const) (f:Bool -> Bool):Bool:=if h:c.ctorIdx = 1 then Const.bool.elim (motive:=fun _=>Bool) c h f else false
@[elab_as_elim] theorem cBool_t {c:Const} {f:Bool -> Bool} {P:Const -> Prop} (hr:cBool c f = true) (k:∀ x,f x = true -> P (.bool x)):P c :=
 (dif_t hr).elim fun q hr=>Const.bool.elim (motive:=fun c=>∀ q:c.ctorIdx = 1,Const.bool.elim (motive:=fun _=>Bool) c q f = true -> P c) c q (fun x q hr=>k x hr) q hr
theorem or_t {a b:Bool} {P:Prop} (h:(a || b) = true) (k1:a = true -> P) (k2:b = true -> P):P:=by
 cases a with
 | true=>exact k1 rfl
 | false=>exact k2 h
noncomputable def kLc (l:List Comprehension) (f:Expr -> Expr -> List Expr -> Int -> List Comprehension -> Bool):Bool:=kCons l fun c cs=>f c.target c.iter c.ifs c.is_async cs
noncomputable def kFn (e:PySem.Expr) (f:Str -> List Expr -> Bool):Bool:=kCall e fun h es kw _=>kNil kw && kName h fun x _=>f x es
@[elab_as_elim] theorem kFn_t {e:PySem.Expr} {f:Str -> List Expr -> Bool} {P:PySem.Expr -> Prop} (hr:kFn e f = true) (k:∀ x px es p,f x es = true -> P (.Call (.Name x px) es [] p)):P e :=
 kCall_t (e:=e) hr fun h es kw p hr=>and2 hr fun h0 hr=>kNil_t (l:=kw) h0 <| kName_t (e:=h) hr fun x px hr=>k x px es p hr
noncomputable def kMt (e:PySem.Expr) (f:Expr -> Str -> Pos -> List Expr -> Pos -> Bool):Bool:=kCall e fun h es kw p=>kNil kw && kAttribute h fun v m ap=>f v m ap es p
@[elab_as_elim] theorem kMt_t {e:PySem.Expr} {f:Expr -> Str -> Pos -> List Expr -> Pos -> Bool} {P:PySem.Expr -> Prop} (hr:kMt e f = true) (k:∀ v m ap es p,f v m ap es p = true -> P (.Call (.Attribute v m ap) es [] p)):P e :=
 kCall_t (e:=e) hr fun h es kw p hr=>and2 hr fun h0 hr=>kNil_t (l:=kw) h0 <| kAttribute_t (e:=h) hr fun v m ap hr=>k v m ap es p hr
noncomputable def kCmp (e:PySem.Expr) (f:Expr -> CmpOp -> Expr -> Bool):Bool:=kCompare e fun l os rs _=>k1 os fun o=>k1 rs fun r=>f l o r
@[elab_as_elim] theorem kCmp_t {e:PySem.Expr} {f:Expr -> CmpOp -> Expr -> Bool} {P:PySem.Expr -> Prop} (hr:kCmp e f = true) (k:∀ l o r p,f l o r = true -> P (.Compare l [o] [r] p)):P e :=
 kCompare_t (e:=e) hr fun l os rs p hr=>k1_t (l:=os) hr fun o hr=>k1_t (l:=rs) hr fun r hr=>k l o r p hr
noncomputable def sAs1 (s:PySem.Stmt) (f:Str -> Pos -> PySem.Expr -> Pos -> Bool):Bool:=sAssign s fun ts v p=>k1 ts fun t=>kName t fun x px=>f x px v p
@[elab_as_elim] theorem sAs1_t {e:PySem.Stmt} {f:Str -> Pos -> PySem.Expr -> Pos -> Bool} {P:PySem.Stmt -> Prop} (hr:sAs1 e f = true) (k:∀ x px v p,f x px v p = true -> P (.Assign [.Name x px] v p)):P e :=
 sAssign_t (e:=e) hr fun ts v p hr=>k1_t (l:=ts) hr fun t hr=>kName_t (e:=t) hr fun x px hr=>k x px v p hr
noncomputable def sAs2 (s:PySem.Stmt) (f:Str -> Pos -> Str -> Pos -> PySem.Expr -> Bool):Bool:=sAssign s fun ts v _=>k1 ts fun t=>kTuple t fun es _ _=>k2 es fun a b=>kName a fun x px=>kName b fun y py=>f x px y py v
@[elab_as_elim] theorem sAs2_t {e:PySem.Stmt} {f:Str -> Pos -> Str -> Pos -> PySem.Expr -> Bool} {P:PySem.Stmt -> Prop} (hr:sAs2 e f = true) (k:∀ x px y py v n tp p,f x px y py v = true -> P (.Assign [.Tuple [.Name x px,.Name y py] n tp] v p)):P e :=
 sAssign_t (e:=e) hr fun ts v p hr=>k1_t (l:=ts) hr fun t hr=>kTuple_t (e:=t) hr fun es n tp hr=>k2_t (l:=es) hr fun a b hr=>kName_t (e:=a) hr fun x px hr=>kName_t (e:=b) hr fun y py hr=>k x px y py v n tp p hr
noncomputable def sMt (s:PySem.Stmt) (f:Str -> Str -> Pos -> List PySem.Expr -> Pos -> Bool):Bool:=sExpr s fun v _=>kMt v fun o m ap es cp=>kName o fun x _=>f x m ap es cp
@[elab_as_elim] theorem sMt_t {e:PySem.Stmt} {f:Str -> Str -> Pos -> List PySem.Expr -> Pos -> Bool} {P:PySem.Stmt -> Prop} (hr:sMt e f = true) (k:∀ x px m ap es cp p,f x m ap es cp = true -> P (.Expr (.Call (.Attribute (.Name x px) m ap) es [] cp) p)):P e :=
 sExpr_t (e:=e) hr fun v p hr=>kMt_t (e:=v) hr fun o m ap es cp hr=>kName_t (e:=o) hr fun x px hr=>k x px m ap es cp p hr
end
section
noncomputable def mn:Nat -> Str
 | 0=>"join" | 1=>"count" | 2=>"startswith" | 3=>"endswith" | 4=>"find" | 5=>"index" | 6=>"bit_length" | 7=>"count" | _=>"split"
noncomputable def an:Nat -> Str
 | 0=>"norm" | 1=>"n" | _=>"nt"
noncomputable def gl (sc:Scope) (x:Str):Bool:=sc.names.lookup x == some .globalImplicit
noncomputable def vr (sc:Scope) (i:Nat) (x:Str):Bool:=(match sc.names[i]? with | some (y,_)=>y == x | none=>false) && !(x == ("__debug__":Str)) && !(x == ("__classdict__":Str))
noncomputable def repTg (sc:Scope) (tg:Tg) (e:Expr):Bool:=match tg with
 | .one i=>kName e fun x _=>vr sc i x
 | .two i j=>kTuple e fun es _ _=>k2 es fun a b=>kName a fun x _=>kName b fun y _=>vr sc i x && vr sc j y
noncomputable def baseOk (e:Expr):Bool:=kName e (fun _ _=>true) || (kConstant e (fun _ _ _=>true) || (kSubscript e (fun _ _ _=>true) || kAttribute e (fun _ _ _=>true)))
@[elab_as_elim] theorem baseOk_t {e:Expr} {P:Expr -> Prop} (h:baseOk e = true) (k1:∀ x p,P (.Name x p)) (k2:∀ x n p,P (.Constant x n p)) (k3:∀ x y p,P (.Subscript x y p)) (k4:∀ x y p,P (.Attribute x y p)):P e :=
 or_t h (fun h=>kName_t h fun x p _=>k1 x p) fun h=>or_t h (fun h=>kConstant_t h fun x n p _=>k2 x n p) fun h=>or_t h (fun h=>kSubscript_t h fun x n p _=>k3 x n p) fun h=>kAttribute_t h fun x n p _=>k4 x n p
noncomputable def plainT (e:Expr):Bool:=kName e (fun _ _=>true) || (kConstant e (fun _ _ _=>true) || (kCall e (fun _ _ _ _=>true) || (kSubscript e (fun _ _ _=>true) || kBinOp e (fun _ _ _ _=>true))))
@[elab_as_elim] theorem plainT_t {e:Expr} {P:Expr -> Prop} (h:plainT e = true) (k1:∀ x p,P (.Name x p)) (k2:∀ x n p,P (.Constant x n p)) (k3:∀ x y z p,P (.Call x y z p)) (k4:∀ x y p,P (.Subscript x y p)) (k5:∀ x y z p,P (.BinOp x y z p)):P e :=
 or_t h (fun h=>kName_t h fun x p _=>k1 x p) fun h=>or_t h (fun h=>kConstant_t h fun x n p _=>k2 x n p) fun h=>or_t h (fun h=>kCall_t h fun x n y p _=>k3 x n y p) fun h=>or_t h (fun h=>kSubscript_t h fun x n p _=>k4 x n p) fun h=>kBinOp_t h fun x n y p _=>k5 x n y p
noncomputable def isSl (e:Expr):Bool:=e.ctorIdx == 26
noncomputable def isSet (e:Expr):Bool:=e.ctorIdx == 7
noncomputable def scOk (sc scope:Scope) (ms:List (Option Nat)) (ks:List NameKind):Bool :=
 capB sc.names scope.names ms && decide (scope.names.map (·.1)).Nodup && scope.kind == .function && decide (scope.names.map (·.2) = ks)
mutual
noncomputable def repE (nm:Nat -> Str) (sc:Scope) (ir:E) (e:Expr):Bool:=match ir with
 | .var i=>kName e fun x _=>vr sc i x
 | .int n=>kConstant e fun c _ _=>cInt c fun m=>n == m
 | .str n=>kConstant e fun c _ _=>cStr c fun m=>n == m
 | .bool n=>kConstant e fun c _ _=>cBool c fun m=>n == m
 | .bin op a b=>kBinOp e fun l o r _=>op == o && repE nm sc a l && repE nm sc b r
 | .cmp op a b=>kCmp e fun l o r=>op == o && repE nm sc a l && repE nm sc b r && !behindInMarks op r
 | .ite c a b=>kIfExp e fun x y z _=>repT nm sc c x && repE nm sc a y && repE nm sc b z
 | .and a b=>kBoolOp e fun o es _=>isAnd o && k2 es fun x y=>repE nm sc a x && repE nm sc b y
 | .tup l=>kTuple e fun es _ _=>repL nm sc l es
 | .lst l=>kList e fun es _=>repL nm sc l es
 | .call f l=>kFn e fun x es=>x == nm f && gl sc x && repL nm sc l es && decide (f < 100)
 | .meth m o l=>kMt e fun v name ap es p=>name == mn m && baseOk v && decide (es.length < 30) && ap.endLine == p.line && repE nm sc o v && repL nm sc l es
 | .wm m o l=>kMt e fun v name ap es p=>name == nm m && baseOk v && decide (es.length < 30) && ap.endLine == p.line && repE nm sc o v && repL nm sc l es
 | .sub a i=>kSubscript e fun v s _=>!isSl s && repE nm sc a v && repE nm sc i s
 | .slcLo a i=>kSubscript e fun v s _=>kSlice s fun lo hi st _=>hi.isNone && st.isNone && kSome lo fun s=>repE nm sc a v && repE nm sc i s
 | .slcHi a i=>kSubscript e fun v s _=>kSlice s fun lo hi st _=>lo.isNone && st.isNone && kSome hi fun s=>repE nm sc a v && repE nm sc i s
 | .attr x o=>kAttribute e fun v name _=>name == an x && baseOk v && repE nm sc o v
 | .neg a=>kUnaryOp e fun o x _=>isUSub o && repE nm sc a x
 | .gc n=>kName e fun x _=>x == gcN n && gl sc x
 | .comp ms ks tg it ifs elt=>kListComp e fun el gs scope _=>kLc gs fun t i fs asy cs=>kNil cs && (asy == 0 && scOk sc scope ms ks && repTg scope tg t && repI nm sc it i && repTs nm scope ifs fs && repE nm scope elt el)
 | .comp2 ms ks tg it j it2 elt=>kListComp e fun el gs scope _=>kLc gs fun t i fs asy cs=>kNil fs && kLc cs fun t2 i2 fs2 asy2 cs=>kNil fs2 && kNil cs && (asy == 0 && asy2 == 0 && scOk sc scope ms ks && repTg scope tg t && repI nm sc it i && repTg scope (.one j) t2 && repI nm scope it2 i2 && repE nm scope elt el)
noncomputable def repL (nm:Nat -> Str) (sc:Scope) (l:List E) (es:List Expr):Bool:=match l with
 | []=>kNil es
 | x :: xs=>kCons es fun e es=>!isStarred e && repE nm sc x e && repL nm sc xs es
noncomputable def repT (nm:Nat -> Str) (sc:Scope) (ir:T) (e:Expr):Bool:=match ir with
 | .e a=>plainT e && repE nm sc a e
 | .cmp op a b=>kCmp e fun l o r=>op == o && repE nm sc a l && repE nm sc b r && !behindInMarks op r
 | .and a b=>kBoolOp e fun o es _=>isAnd o && k2 es fun x y=>repT nm sc a x && repT nm sc b y
noncomputable def repTs (nm:Nat -> Str) (sc:Scope) (l:List T) (es:List Expr):Bool:=match l with
 | []=>kNil es
 | x :: xs=>kCons es fun e es=>repT nm sc x e && repTs nm sc xs es
noncomputable def repI (nm:Nat -> Str) (sc:Scope) (ir:It) (e:Expr):Bool:=match ir with
 | .e a=>!isSet e && repE nm sc a e
 | .r1 a=>kFn e fun x es=>k1 es fun y=>x == ("range":Str) && gl sc x && !isStarred y && repE nm sc a y
 | .r2 a b=>kFn e fun x es=>k2 es fun y z=>x == ("range":Str) && gl sc x && !isStarred y && !isStarred z && repE nm sc a y && repE nm sc b z
 | .rev a=>kFn e fun x es=>k1 es fun y=>x == ("reversed":Str) && gl sc x && !isStarred y && repE nm sc a y
end
noncomputable def GV (C:Cx) (x:Str) (fv:Value):Prop:=(C.mg x = some fv \/ (C.mg x = none /\ bootBuiltins x = some fv /\ x ≠ "__name__")) /\ (x == ("__debug__":Str)) = false
structure GOk (C:Cx) (k:Nat) (g:G) (nm:Nat -> Str):Prop where
 fn:∀ f ds d,f < 100 -> g f ds = some d -> ∃ fv,GV C (nm f) fv /\ Kp C fv /\ PSpec C k fv ds d
 range:GV C "range" (.type "range")
 reversed:GV C "reversed" (.type "reversed")
section
variable {C:Cx} {env:Env} {σ:Vars} {k:Nat}
theorem GV.ev {x:Str} {fv:Value} {pos:Pos} (h:GV C x fv) (hk:IsGlob env.scope x):EvV C k env σ (.Name x pos) fv:=by
 rcases h with ⟨h | ⟨h1,h2,h3⟩,hb⟩
 ·exact EvV.glob hk h hb
 ·exact EvV.bltn hk h1 h2 h3 hb
theorem gl_glob {sc:Scope} {x:Str} (hA:AtSc env sc) (h:gl sc x = true):IsGlob env.scope x:=hA.isGlob (eq_of_beq h)
theorem vr_var {sc:Scope} {x:Str} {i:Nat} (hA:AtSc env sc) (h:vr sc i x = true):IsVar env.scope x i /\ (x == ("__debug__":Str)) = false /\ (x == ("__classdict__":Str)) = false:=by
 unfold vr at h
 rw [Bool.and_eq_true,Bool.and_eq_true] at h
 refine ⟨hA.isVar ?_,by simpa using h.1.2,by simpa using h.2⟩
 unfold IsVar
 cases q:sc.names[i]? with
 | none=>rw [q] at h; simp at h
 | some p=>obtain ⟨y,k⟩:=p; rw [q] at h; have:=eq_of_beq h.1.1; simp [this]
theorem vr_sto {sc:Scope} {x:Str} {i:Nat} (h:vr sc i x = true) (hs:stoB (sc.names.map (·.2)) σ i = true):IsSto sc σ x i:=by
 unfold vr at h
 rw [Bool.and_eq_true,Bool.and_eq_true] at h
 unfold stoB at hs
 rw [List.getElem?_map] at hs
 cases q:sc.names[i]? with
 | none=>rw [q] at h; simp at h
 | some p =>
  obtain ⟨y,kk⟩:=p
  rw [q] at h hs
  have e:=eq_of_beq h.1.1
  subst e
  cases r:σ[i]? with
  | none=>rw [r] at hs; simp at hs
  | some av=>rw [r] at hs; exact ⟨kk,av,q,r,hs⟩
theorem meth_eq {o:Expr} {name:Str} {ap pos:Pos} {es:List Expr} (hb:baseOk o = true) (hl:es.length < 30) (hp:(ap.endLine == pos.line) = true) (hs:(starEach es env).any (·.1) = false) :
  eval (.Call (.Attribute o name ap) es [] pos) env = (do
   let ov <- eval o env
   standAt ap.atName
   let (f,first) <- holding [ov] (getMethod ov name (do return (<- importBound o env).getD true))
   callWith pos f first (backTo pos (starEach es env)) []):=by
 have e0:eval (.Call (.Attribute o name ap) es [] pos) env = (do
  let ov <- attributeBase o name env (eval o env)
  standAt ap.atName
  methodCall o name ap pos env ov (es.length + 0) (backTo pos (starEach es env)) []):=rfl
 have e1:attributeBase o name env (eval o env) = eval o env:=by
  exact baseOk_t (P:=fun o=>attributeBase o name env (eval o env) = eval o env) hb (fun _ _=>rfl) (fun _ _ _=>rfl) (fun _ _ _=>rfl) (fun _ _ _=>rfl)
 have hst:∀ (l:List (Bool × Sem Value)),l.any (·.1) = false -> (backTo pos l).all (!·.1) = true:=by
  intro l
  induction l with
  | nil=>intro _; rfl
  | cons x xs ih =>
   intro h
   rw [List.any_cons,Bool.or_eq_false_iff] at h
   show ((!x.1) && (backTo pos xs).all (!·.1)) = true
   rw [h.1,ih h.2]; rfl
 have e2:methodCallForm (es.length + 0) (backTo pos (starEach es env)) [] = true:=by
  unfold methodCallForm
  rw [hst _ hs]
  simp; omega
 rw [e0,e1]
 unfold methodCall
 rw [e2]
 have e3:methodCallPos true o env ap pos = pure pos:=by unfold methodCallPos; simp [hp]
 rw [e3]
 rfl
theorem EvL.stars:∀ {es:List Expr} {ds:List D},EvL C k env σ es ds -> (starEach es env).any (·.1) = false
 | [],[],_=>rfl
 | e :: es,d :: ds,⟨⟨h1,h2⟩,h3⟩=>by
  rw [star_cons h2]
  show (false || (starEach es env).any (·.1)) = false
  rw [EvL.stars h3]; rfl
end
end
section
structure Gd (C:Cx) (k:Nat) (g:G) (nm:Nat -> Str):Prop extends GOk C k g nm where
 wm:∀ f x ds d,100 <= f -> g f (x :: ds) = some d -> ∃ fv,MethR C x (nm f) fv /\ Kp C fv /\ PSpec C k fv (x :: ds) d
 attr:∀ x d d',attD x d = some d' -> Op1 C (fun v=>getAttr v (an x) true) d d'
 con:∀ n d,gcV n = some d -> ∃ v,GV C (gcN n) v /\ ∀ Z h,IsD C Z h v d
section
variable {C:Cx} {k:Nat}
theorem flatM_eq {F:D -> Option (List D)}:∀ {l r:List D},flatM F l = some r -> r = l.flatMap (fun d=>(F d).getD []) /\ ∀ d ∈ l,∃ q,F d = some q
 | [],r,h=>by cases h; exact ⟨rfl,fun d hd=>nomatch hd⟩
 | d :: ds,r,h=>by
  simp only [flatM] at h
  cases q:F d with
  | none=>rw [q] at h; cases h
  | some l =>
   rw [q] at h
   cases q2:flatM F ds with
   | none=>rw [q2] at h; cases h
   | some r' =>
    rw [q2] at h; cases h
    obtain ⟨e1,e2⟩:=flatM_eq q2
    refine ⟨by rw [List.flatMap_cons,q,e1]; rfl,fun x hx=>?_⟩
    rcases List.mem_cons.mp hx with rfl | hx
    ·exact ⟨l,q⟩
    ·exact e2 x hx
theorem capV_eq {σ:Vars}:∀ {ns:List (Str × NameKind)} {ms:List (Option Nat)},capV σ (ns.map (·.2)) ms = capVars σ ns ms
 | [],ms=>by cases ms <;> rfl
 | (x,kk) :: ns,[]=>rfl
 | (x,kk) :: ns,m :: ms=>by
  show capAv σ kk m :: capV σ (ns.map (·.2)) ms = capAv σ kk m :: capVars σ ns ms
  rw [capV_eq]
theorem getV_ev {env:Env} {σ:Vars} {i:Nat} {x:Str} {p:Pos} {d:D} (hv:IsVar env.scope x i) (h1:(x == ("__debug__":Str)) = false) (h2:(x == ("__classdict__":Str)) = false) (h:getV σ i = some d):Ev C k env σ (.Name x p) d:=by
 cases q:σ[i]? with
 | none=>rw [getV,q] at h; cases h
 | some av =>
  rw [getV,q] at h
  cases av with
  | d x=>cases h; exact Ev.name hv q h1
  | sd x=>cases h; exact Ev.names hv q h1 h2
  | _=>cases h
theorem set_sto {ks:List NameKind} {σ:Vars} {i j:Nat} {d:D} (h:stoB ks σ i = true) (hj:stoB ks σ j = true):stoB ks (σ.set i (.d d)) j = true:=by
 unfold stoB at *
 cases q:ks[j]? with
 | none=>rw [q] at hj; simp at hj
 | some kk =>
  rw [q] at hj
  by_cases e:i = j
  ·subst e
   cases r:σ[i]? with
   | none=>rw [q,r] at h; simp at h
   | some av =>
    have hlt:=(List.getElem?_eq_some_iff.mp r).1
    rw [List.getElem?_set_self hlt]
    rw [q,r] at h
    cases kk <;> first | rfl | (cases av <;> cases h)
  ·rw [List.getElem?_set_ne e]; exact hj
theorem stoB_val {sc:Scope} {ks:List NameKind} (hk:sc.names.map (·.2) = ks) {x:Str} {i:Nat} {σ:Vars} (h:vr sc i x = true) (hs:stoB ks σ i = true):IsSto sc σ x i:=vr_sto h (hk ▸ hs)
theorem setT_one {ks:List NameKind} {σ σ₂:Vars} {i:Nat} {d:D} (h:setT ks σ (.one i) d = some σ₂):stoB ks σ i = true /\ σ₂ = σ.set i (.d d):=by
 have h:(if stoB ks σ i = true then some (σ.set i (.d d)) else none) = some σ₂:=h
 split at h
 ·cases h; exact ⟨‹_›,rfl⟩
 ·cases h
theorem setT_two {ks:List NameKind} {σ σ₂:Vars} {i j:Nat} {d:D} (h:setT ks σ (.two i j) d = some σ₂):∃ a b,d = .tup [a,b] /\ i ≠ j /\ stoB ks σ i = true /\ stoB ks σ j = true /\ σ₂ = (σ.set i (.d a)).set j (.d b):=by
 cases d with
 | tup l =>
  match l,h with
  | [a,b],h =>
   have h:(if i ≠ j /\ stoB ks σ i = true /\ stoB ks σ j = true then some ((σ.set i (.d a)).set j (.d b)) else none) = some σ₂:=h
   split at h
   ·rename_i q; cases h; exact ⟨a,b,rfl,q.1,q.2.1,q.2.2,rfl⟩
   ·cases h
  | [],h=>cases h
  | [_],h=>cases h
  | _ :: _ :: _ :: _,h=>cases h
 | _=>cases h
theorem SimO.forget {B:Base} {U:Addr -> Prop} {O:Own} {env:Env} {σ:Vars} {s:Shared} (S:SimO C B U O env σ s) (j:Nat):SimO C B U O env (σ.set j .no) s:=by
 obtain ⟨m,hm,hv⟩:=S.vars
 refine ⟨S.ok,S.ev,S.tu,S.bt,S.keepB,S.lt,S.ob,S.oh,S.hL,m,hm,fun i x kk av e1 e2=>?_⟩
 by_cases q:j = i
 ·subst q
  rw [List.getElem?_set] at e2
  simp only [if_true] at e2
  split at e2
  ·cases e2; trivial
  ·cases e2
 ·rw [List.getElem?_set_ne q] at e2; exact hv i x kk av e1 e2
theorem EmP.forget {env:Env} {σ:Vars} {t:Value -> Sem Unit} {outs:List D} {J J':Vars -> Prop} (h:EmP C k env σ t outs J) (j:Nat) (f:∀ σ',J σ' -> J' (σ'.set j .no)):EmP C k env σ t outs J' :=
 fun B U O A s Ac ys R X hl=>wpT (h B U O A s Ac ys R X hl) fun _ s' ⟨σ',a,b⟩=>⟨σ'.set j .no,⟨a.sim.forget j,a.o,a.u,a.b,a.h0,a.t,a.lst⟩,f _ b⟩
theorem isNo_set {σ:Vars} {j:Nat} (h:isNo σ j = true) (av:AV):(σ.set j av).set j .no = σ:=by
 unfold isNo at h
 rw [List.set_set]
 split at h
 ·rename_i q
  apply List.ext_getElem?
  intro n
  rw [List.getElem?_set]
  by_cases e:j = n
  ·subst e
   have:=(List.getElem?_eq_some_iff.mp q).1
   rw [if_pos rfl,if_pos this,q]
  ·simp [e]
 ·cases h
theorem setT_as {env:Env} {sc:Scope} {σ σ₂:Vars} {tg:Tg} {t:Expr} {d:D} (hA:AtSc env sc) {ks:List NameKind} (hk:sc.names.map (·.2) = ks) (h:repTg sc tg t = true) (hs:setT ks σ tg d = some σ₂):AsG C k env σ t d fun σ'=>σ' = σ₂:=by
 cases tg with
 | one i =>
  obtain ⟨q1,rfl⟩:=setT_one hs
  exact kName_t (e:=t) h fun x p h=>AsG.name (hA.isSto (stoB_val hk h q1)) rfl
 | two i j =>
  obtain ⟨a,b,rfl,q0,q1,q2,rfl⟩:=setT_two hs
  exact kTuple_t (e:=t) h fun es n p h=>k2_t (l:=es) h fun x y h=>kName_t (e:=x) h fun x px h=>kName_t (e:=y) h fun y py h=>AsG.pair (hA.isSto (stoB_val hk (and_t h).1 q1)) (hA.isSto (stoB_val hk (and_t h).2 (set_sto q1 q2))) rfl
theorem setT_again {ks:List NameKind} {σ σ' σ₂:Vars} {tg:Tg} {d d':D} (h1:setT ks σ tg d = some σ₂) (h2:setT ks σ tg d' = some σ'):setT ks σ' tg d = some σ₂:=by
 cases tg with
 | one i =>
  obtain ⟨q1,rfl⟩:=setT_one h1
  obtain ⟨q2,rfl⟩:=setT_one h2
  show (if stoB ks (σ.set i (.d d')) i = true then some ((σ.set i (.d d')).set i (.d d)) else none) = _
  rw [if_pos (set_sto q1 q1),List.set_set]
 | two i j =>
  obtain ⟨a,b,rfl,q0,q1,q2,rfl⟩:=setT_two h1
  obtain ⟨a',b',rfl,_,_,_,rfl⟩:=setT_two h2
  have s1:=set_sto (d:=a') q1 q1
  have s2:=set_sto (d:=a') q1 q2
  show (if i ≠ j /\ stoB ks ((σ.set i (.d a')).set j (.d b')) i = true /\ stoB ks ((σ.set i (.d a')).set j (.d b')) j = true then some ((((σ.set i (.d a')).set j (.d b')).set i (.d a)).set j (.d b)) else none) = _
  rw [if_pos ⟨q0,set_sto s2 s1,set_sto s2 s2⟩]
  congr 1
  apply List.ext_getElem?
  intro n
  simp only [List.getElem?_set,List.length_set]
  by_cases n1:j = n
  ·simp [n1]
  ·by_cases n2:i = n
   ·simp [n1,n2]
   ·simp [n1,n2]
theorem ksOk {sc scope:Scope} {ms:List (Option Nat)} {ks:List NameKind} (h:scOk sc scope ms ks = true):capB sc.names scope.names ms = true /\ (scope.names.map (·.1)).Nodup /\ scope.kind = .function /\ scope.names.map (·.2) = ks:=by
 unfold scOk at h
 simp only [Bool.and_eq_true,decide_eq_true_eq] at h
 exact ⟨h.1.1.1,h.1.1.2,eq_of_beq h.1.2,h.2⟩
theorem baseSet {e:Expr} {env:Env} (h:isSet e = false) (x:Value):foldedSetIterable e env x = pure x:=by
 cases e <;> first | rfl | cases h
theorem attr_ev {env:Env} {σ:Vars} {v:Expr} {name:Str} {p:Pos} {d d':D} (hv:Ev C k env σ v d) (hb:baseOk v = true) (h:Op1 C (fun v=>getAttr v name true) d d'):Ev C k env σ (.Attribute v name p) d':=by
 intro B U O A s R S
 refine Attribute_any_ (wpT (hv B U O A s R S) fun va s₁ hZ2=>?_) (baseOk_t (e:=v) hb (fun _ _=>rfl) (fun _ _ _=>rfl) (fun _ _ _=>rfl) (fun _ _ _=>rfl)); obtain ⟨x1,i1⟩:=hZ2
 have S1:=S.ext x1
 exact wpT (h _ A s₁ va R.zero S1.ok S1.zok i1) fun v s₂ hY56=>⟨x1.trans hY56.1,hY56.2⟩
theorem joinD_s {x:Str} {a d:D} (h:joinD x a = some d):PSpec C k (.builtin "str.join") [.str x,a] d:=by
 cases a with
 | lst l =>
  have h:(match strs? l with
   | some ys=>if (ys.map (·.length)).sum + ys.length * x.length <= 16777216 then some (D.str (Txt.join x ys)) else none
   | none=>none) = some d:=h
  cases q:strs? l with
  | none=>rw [q] at h; cases h
  | some ys=>rw [q] at h; exact ite_t h fun q2 h=>by cases h; exact .join q q2
 | _=>cases h
theorem mth_sound {m:Nat} {x d:D} {ds:List D} (h:mth m x ds = some d):∃ id,MethOf C x (mn m) id /\ PSpec C k (.builtin id) (x :: ds) d:=by
 match m,h with
 | 0,h=>exact oS_t (b:=x) h fun x h=>l1_t (ds:=ds) h fun a h=>⟨_,.str PySem.F.slot_str_join PySem.F.type_str_join,joinD_s h⟩
 | 1,h =>
  refine l1_t (ds:=ds) h fun b h=>?_
  cases x with
  | str x=>exact oS_t (b:=b) h fun y h=>by cases h; exact ⟨_,.str PySem.F.slot_str_count PySem.F.type_str_count,.count⟩
  | lst l=>exact ite_t h fun q h=>by cases h; exact ⟨_,.lst PySem.F.slot_list_count PySem.F.type_list_count,.countL q⟩
  | _=>cases h
 | 2,h=>exact oS_t (b:=x) h fun x h=>l1_t (ds:=ds) h fun a h=>oS_t (b:=a) h fun y h=>by cases h; exact ⟨_,.str PySem.F.slot_str_startswith PySem.F.type_str_startswith,.startswith⟩
 | 3,h=>exact oS_t (b:=x) h fun x h=>l1_t (ds:=ds) h fun a h=>oS_t (b:=a) h fun y h=>by cases h; exact ⟨_,.str PySem.F.slot_str_endswith PySem.F.type_str_endswith,.endswith⟩
 | 4,h=>exact oS_t (b:=x) h fun x h=>l3_t (ds:=ds) h fun a b c h=>oS_t (b:=a) h fun y h=>oI_t (b:=b) h fun i h=>oI_t (b:=c) h fun j h=>by cases h; exact ⟨_,.str PySem.F.slot_str_find PySem.F.type_str_find,.find4⟩
 | 5,h=>cases h
 | 6,h=>exact oI_t (b:=x) h fun a h=>l0_t (ds:=ds) h fun h=>by cases h; exact ⟨_,.int PySem.F.slot_int_bit_length PySem.F.type_int_bit_length,.bitlen⟩
 | 7,h=>cases h
 | 8,h=>exact oS_t (b:=x) h fun x h=>l1_t (ds:=ds) h fun a h=>oS_t (b:=a) h fun y h=>map_t h fun r q h=>by cases h; exact ⟨_,.str PySem.F.slot_str_split PySem.F.type_str_split,(FSpec.split q).pspec⟩
 | _ + 9,h=>cases h
theorem Ev.neg {env:Env} {σ:Vars} {e:Expr} {p:Pos} {n:Int} (h:Ev C k env σ e (.int n)):Ev C k env σ (.UnaryOp .USub e p) (.int (-n)):=by
 intro B U O A s R S
 show wpAny _ _ (do let v <- eval e env; standAt p; holding [v] (unaryOp .USub v)) _ _ _
 refine wpAny_bind (wpT (h B U O A s R S) fun v s₁ ⟨x1,i1⟩=>wpAny_bind (wpAny_standAt (wpAny_holding ?_)))
 cases i1
 exact neg_int ⟨x1.trans (.tok x1.ok),.int _ _⟩
theorem Ev.andV {env:Env} {σ:Vars} {e₁ e₂:Expr} {p:Pos} {t:Bool} {d:D} (h1:Ev C k env σ e₁ (.bool t)) (h2:t = true -> Ev C k env σ e₂ d) (h3:t = false -> d = .bool false):Ev C k env σ (.BoolOp .And [e₁,e₂] p) d:=by
 intro B U O A s R S
 refine BoolOp_and (wpT (h1 B U O A s R S) fun v s₁ hZ2=>?_); obtain ⟨x1,i1⟩:=hZ2
 cases i1
 refine wpAny_truthy_bool ?_
 cases t with
 | true=>exact BoolOp_one (wpT (h2 rfl B U O A s₁ R (S.ext x1)) fun v s₂ hY58=>⟨x1.trans hY58.1,hY58.2⟩)
 | false=>rw [h3 rfl]; exact ⟨x1,.bool _⟩
end
end
section
section
variable {γ:Type} {d:γ} {P:Prop}
theorem mDD {o o2:Option D} {f:D -> D -> Option γ} (h:(match o,o2 with | some x,some y=>f x y | _,_=>none) = some d) (k:∀ x y,o = some x -> o2 = some y -> f x y = some d -> P):P:=by
 cases o with
 | none=>cases h
 | some x=>cases o2 with
  | none=>cases h
  | some y=>exact k x y rfl rfl h
theorem mDL {o:Option D} {o2:Option (List D)} {f:D -> List D -> Option γ} (h:(match o,o2 with | some x,some y=>f x y | _,_=>none) = some d) (k:∀ x y,o = some x -> o2 = some y -> f x y = some d -> P):P:=by
 cases o with
 | none=>cases h
 | some x=>cases o2 with
  | none=>cases h
  | some y=>exact k x y rfl rfl h
theorem mL {o:Option (List D)} {f:List D -> Option γ} (h:(match o with | some x=>f x | none=>none) = some d) (k:∀ x,o = some x -> f x = some d -> P):P:=by
 cases o with
 | none=>cases h
 | some x=>exact k x rfl h
theorem mI {o:Option (List D)} {f:List D -> Option γ} (h:(match o with | none=>none | some x=>f x) = some d) (k:∀ x,o = some x -> f x = some d -> P):P:=by
 cases o with
 | none=>cases h
 | some x=>exact k x rfl h
theorem mD {o:Option D} {f:D -> Option γ} (h:(match o with | some x=>f x | none=>none) = some d) (k:∀ x,o = some x -> f x = some d -> P):P:=by
 cases o with
 | none=>cases h
 | some x=>exact k x rfl h
theorem mB {o:Option Bool} {x y:Option γ} (h:(match o with | some true=>x | some false=>y | none=>none) = some d) (k1:o = some true -> x = some d -> P) (k2:o = some false -> y = some d -> P):P:=by
 cases o with
 | none=>cases h
 | some b=>cases b with
  | true=>exact k1 rfl h
  | false=>exact k2 rfl h
theorem mDb {o:Option D} {x y:Option γ} (h:(match o with | some (.bool true)=>x | some (.bool false)=>y | _=>none) = some d) (k1:o = some (.bool true) -> x = some d -> P) (k2:o = some (.bool false) -> y = some d -> P):P:=by
 cases o with
 | none=>cases h
 | some b=>cases b with
  | bool b=>cases b with
   | true=>exact k1 rfl h
   | false=>exact k2 rfl h
  | _=>cases h
theorem mDi {o:Option D} {f:Int -> Option γ} (h:(match o with | some (.int n)=>f n | _=>none) = some d) (k:∀ n,o = some (.int n) -> f n = some d -> P):P:=by
 cases o with
 | none=>cases h
 | some b=>cases b with
  | int n=>exact k n rfl h
  | _=>cases h
theorem mDDi {o o2:Option D} {f:D -> Int -> Option γ} (h:(match o,o2 with | some x,some (.int n)=>f x n | _,_=>none) = some d) (k:∀ x n,o = some x -> o2 = some (.int n) -> f x n = some d -> P):P:=by
 cases o with
 | none=>cases h
 | some x=>cases o2 with
  | none=>cases h
  | some b=>cases b with
   | int n=>exact k x n rfl rfl h
   | _=>cases h
theorem mii {o o2:Option D} {f:Int -> Int -> Option γ} (h:(match o,o2 with | some (.int m),some (.int n)=>f m n | _,_=>none) = some d) (k:∀ x n,o = some (.int x) -> o2 = some (.int n) -> f x n = some d -> P):P:=by
 cases o with
 | none=>cases h
 | some b=>cases b with
  | int x=>cases o2 with
   | none=>cases h
   | some b=>cases b with
    | int n=>exact k x n rfl rfl h
    | _=>cases h
  | _=>cases h
theorem mDl {o:Option D} {f:List D -> Option γ} (h:(match o with | some (.lst l)=>f l | _=>none) = some d) (k:∀ l,o = some (.lst l) -> f l = some d -> P):P:=by
 cases o with
 | none=>cases h
 | some b=>cases b with
  | lst n=>exact k n rfl h
  | _=>cases h
end
theorem short_t {l:List D} {d:D} (h:short l = some d):l.length <= 1000000 /\ .lst l = d:=ite_t (o:=some (D.lst l)) h fun a b=>⟨a,Option.some.inj b⟩
theorem nt {b:Bool} (h:(!b) = true):b = false:=by cases b; rfl; cases h
noncomputable def LcOk (C:Cx) (k:Nat) (env:Env) (σ:Vars) (e:Expr) (d:D):Prop :=
 ∃ (elt target iter:Expr) (ifs:List Expr) (gs:List Comprehension) (scope sc:Scope) (cpos:Pos) (items:List D) (t:Env -> Value -> Sem Unit) (f:D -> List D) (upd:D -> Vars) (p0:Pos) (m:List (Option Nat)),
  e = .ListComp elt (⟨target,iter,ifs,0⟩ :: gs) scope cpos /\ d = .lst (items.flatMap f) /\ AtSc env sc /\ capB sc.names scope.names m = true /\ capH σ m = true /\ (scope.names.map (·.1)).Nodup /\ scope.kind = .function /\
  (∀ cenv it acc,compTurn (.ListComp elt (⟨target,iter,ifs,0⟩ :: gs) scope cpos) 0 it acc cenv = (standAt p0 >>= fun _=>pyNext it >>= fun r=>match r with
   | none=>pure (.done .next)
   | some v=>letOwnedTupleGo target it v >>= fun _=>assign target cenv v >>= fun _=>testT ifs cenv (t cenv) acc >>= fun _=>again (.compLoop (.ListComp elt (⟨target,iter,ifs,0⟩ :: gs) scope cpos) 0 it acc cenv))) /\
  EvIt C k env σ iter items /\ CompOk C k scope env (capVars σ scope.names m) target ifs t items f upd /\ (items.flatMap f).length <= 1000000 /\ ∀ x,foldedSetIterable iter env x = pure x
section
variable {C:Cx} {k:Nat} {g:G} {nm:Nat -> Str}
theorem LcOk.mk' {env:Env} {σ:Vars} {elt target iter:Expr} {ifs:List Expr} {gs:List Comprehension} {scope sc:Scope} {cpos:Pos} {items:List D}
  {t:Env -> Value -> Sem Unit} {f:D -> List D} {upd:D -> Vars} {p0:Pos}
  (hA:AtSc env sc) (m:List (Option Nat)) (hcap:capB sc.names scope.names m = true) (hcapH:capH σ m = true) (hnd:(scope.names.map (·.1)).Nodup) (hkind:scope.kind = .function)
  (hturn:∀ cenv it acc,compTurn (.ListComp elt (⟨target,iter,ifs,0⟩ :: gs) scope cpos) 0 it acc cenv = (standAt p0 >>= fun _=>pyNext it >>= fun r=>match r with
   | none=>pure (.done .next)
   | some v=>letOwnedTupleGo target it v >>= fun _=>assign target cenv v >>= fun _=>testT ifs cenv (t cenv) acc >>= fun _=>again (.compLoop (.ListComp elt (⟨target,iter,ifs,0⟩ :: gs) scope cpos) 0 it acc cenv)))
  (hit:EvIt C k env σ iter items) (hb:CompOk C k scope env (capVars σ scope.names m) target ifs t items f upd)
  (hl:(items.flatMap f).length <= 1000000) (hs:∀ x,foldedSetIterable iter env x = pure x) :
  LcOk C k env σ (.ListComp elt (⟨target,iter,ifs,0⟩ :: gs) scope cpos) (.lst (items.flatMap f)) :=
 ⟨elt,target,iter,ifs,gs,scope,sc,cpos,items,t,f,upd,p0,m,rfl,rfl,hA,hcap,hcapH,hnd,hkind,hturn,hit,hb,hl,hs⟩
theorem LcOk.ev {env:Env} {σ:Vars} {e:Expr} {d:D} (h:LcOk C k env σ e d):Ev C k env σ e d:=by
 obtain ⟨elt,target,iter,ifs,gs,scope,sc,cpos,items,t,f,upd,p0,m,rfl,rfl,hA,hcap,hcapH,hnd,hkind,hturn,hit,hb,hl,hs⟩:=h
 exact comp_expr hA m hcap hcapH hnd hkind hturn hit hb hl hs
theorem LcOk.asg {env:Env} {σ:Vars} {e:Expr} {d:D} (h:LcOk C k env σ e d) {y:Str} {iy:Nat} {py spos:Pos} {Q:Fl -> Vars -> Prop}
  (hsw:swapsWith e (some (.Name y py)) spos.line env = pure true) (hy:IsSto env.scope σ y iy) (hQ:Q .next (σ.set iy (.d d))):ExS C k env σ (.Assign [.Name y py] e spos) Q:=by
 obtain ⟨elt,target,iter,ifs,gs,scope,sc,cpos,items,t,f,upd,p0,m,rfl,rfl,hA,hcap,hcapH,hnd,hkind,hturn,hit,hb,hl,hs⟩:=h
 exact comp_assign hsw hA m hcap hcapH hnd hkind hturn hit hb hl hs hy hQ
theorem lc1 {ms:List (Option Nat)} {ks:List NameKind} {tg:Tg} {it:It} {ifs:List T} {elt:E} {sc:Scope} {env:Env} {σ:Vars} {e:Expr} {d:D}
  (hI:∀ {sc:Scope} {env:Env} {σ:Vars} {e:Expr} {l:List D},AtSc env sc -> repI nm sc it e = true -> evI g it σ = some l -> EvIt C k env σ e l /\ ∀ env' x,foldedSetIterable e env' x = pure x)
  (hTs:∀ {sc:Scope} {env:Env} {σ:Vars} {es:List Expr} {b:Bool},AtSc env sc -> repTs nm sc ifs es = true -> evTs g ifs σ = some b -> TsOk C k env σ es b)
  (hE:∀ {sc:Scope} {env:Env} {σ:Vars} {e:Expr} {d:D},AtSc env sc -> repE nm sc elt e = true -> evE g elt σ = some d -> Ev C k env σ e d)
  (hA:AtSc env sc) (hr:repE nm sc (.comp ms ks tg it ifs elt) e = true) (he:evE g (.comp ms ks tg it ifs elt) σ = some d):LcOk C k env σ e d:=by
 refine kListComp_t (e:=e) hr fun el gs scope cp hr=>?_
 cases gs with
 | nil=>cases hr
 | cons cg cs =>
  obtain ⟨t,i,fs,asy⟩:=cg
  obtain ⟨hn,hr⟩:=and_t hr
  cases cs with
  | cons _ _=>cases hn
  | nil =>
  refine and6 hr fun h0 h1 h2 h3 h4 h5=>?_
  have h0:asy = 0:=eq_of_beq h0
  subst h0
  obtain ⟨c1,c2,c3,c4⟩:=ksOk h1
  refine mI he fun items qi he=>ite_t he fun hcap he=>mL he fun r hr he=>?_
  obtain ⟨hlen,rfl⟩:=short_t he
  ····
      obtain ⟨f1,f2⟩:=flatM_eq hr
      obtain ⟨it1,it2⟩:=hI hA h3 qi
      rw [f1] at hlen ⊢
      have hset:∀ d ∈ items,∃ σ₂,setT ks (capV σ ks ms) tg d = some σ₂:=fun d hd=>by
       obtain ⟨q,hq⟩:=f2 d hd
       cases w:setT ks (capV σ ks ms) tg d with
       | none=>rw [w] at hq; cases hq
       | some σ₂=>exact ⟨σ₂,rfl⟩
      have ecap:capVars σ scope.names ms = capV σ ks ms:=by rw [<- c4]; exact capV_eq.symm
      refine LcOk.mk' (t:=fun env=>emitT el env) (f:=fun d=>(match setT ks (capV σ ks ms) tg d with
       | none=>none
       | some σ₂=>match evTs g ifs σ₂ with
        | some true=>(match evE g elt σ₂ with
         | some d'=>some [d']
         | none=>none)
        | some false=>some []
        | none=>none).getD []) (upd:=fun d=>(setT ks (capV σ ks ms) tg d).getD []) hA ms c1 hcap c2 c3 (fun cenv it acc=>turn_last 0 el t i fs [⟨t,i,fs,0⟩] scope cp it acc cenv rfl rfl) it1 ⟨fun cenv hc d hd σ₁ hσ=>?_,fun cenv hc d hd=>?_⟩ hlen (it2 env)
      ·obtain ⟨σ₂,w⟩:=hset d hd
       have:(setT ks (capV σ ks ms) tg d).getD [] = σ₂:=by rw [w]; rfl
       simp only [this]
       rcases hσ with rfl | ⟨d',hd',rfl⟩
       ·exact setT_as hc c4 h2 (ecap ▸ w)
       ·obtain ⟨σ₃,w'⟩:=hset d' hd'
        have e3:(setT ks (capV σ ks ms) tg d').getD [] = σ₃:=by rw [w']; rfl
        simp only [e3]
        exact setT_as hc c4 h2 (setT_again w w')
      ·obtain ⟨σ₂,w⟩:=hset d hd
       have e2:(setT ks (capV σ ks ms) tg d).getD [] = σ₂:=by rw [w]; rfl
       obtain ⟨q,hq⟩:=f2 d hd
       rw [w] at hq
       dsimp only at hq
       simp only [w]
       cases wt:evTs g ifs σ₂ with
       | none=>rw [wt] at hq; cases hq
       | some b =>
        rw [wt] at hq
        refine ⟨b,hTs hc h4 wt,fun hb=>?_,fun hb=>?_⟩
        ·subst hb
         dsimp only at hq
         cases we:evE g elt σ₂ with
         | none=>rw [we] at hq; cases hq
         | some d'=>exact EmP.emit1 (d:=d') ⟨d',hE hc h5 we,rfl⟩ ⟨d,hd,by rw [w]⟩
        ·subst hb; rfl
theorem lc2 {ms:List (Option Nat)} {ks:List NameKind} {tg:Tg} {it it2:It} {j:Nat} {elt:E} {sc:Scope} {env:Env} {σ:Vars} {e:Expr} {d:D}
  (hI:∀ {sc:Scope} {env:Env} {σ:Vars} {e:Expr} {l:List D},AtSc env sc -> repI nm sc it e = true -> evI g it σ = some l -> EvIt C k env σ e l /\ ∀ env' x,foldedSetIterable e env' x = pure x)
  (hI2:∀ {sc:Scope} {env:Env} {σ:Vars} {e:Expr} {l:List D},AtSc env sc -> repI nm sc it2 e = true -> evI g it2 σ = some l -> EvIt C k env σ e l /\ ∀ env' x,foldedSetIterable e env' x = pure x)
  (hE:∀ {sc:Scope} {env:Env} {σ:Vars} {e:Expr} {d:D},AtSc env sc -> repE nm sc elt e = true -> evE g elt σ = some d -> Ev C k env σ e d)
  (hA:AtSc env sc) (hr:repE nm sc (.comp2 ms ks tg it j it2 elt) e = true) (he:evE g (.comp2 ms ks tg it j it2 elt) σ = some d):LcOk C k env σ e d:=by
 refine kListComp_t (e:=e) hr fun el gs scope cp hr=>?_
 cases gs with
 | nil=>cases hr
 | cons cg cs =>
  obtain ⟨t,i,fs,asy⟩:=cg
  obtain ⟨hn,hr⟩:=and_t (a:=kNil fs) hr
  cases fs with
  | cons _ _=>cases hn
  | nil =>
  cases cs with
  | nil=>cases hr
  | cons cg cs =>
  obtain ⟨t2,i2,fs2,asy2⟩:=cg
  obtain ⟨hn,hr⟩:=and_t (a:=kNil fs2 && kNil cs) hr
  obtain ⟨hn1,hn2⟩:=and_t hn
  cases fs2 with
  | cons _ _=>cases hn1
  | nil =>
  cases cs with
  | cons _ _=>cases hn2
  | nil =>
  refine and8 hr fun h0 h0' h1 h2 h3 h4 h5 h6=>?_
  have h0:asy = 0:=eq_of_beq h0
  subst h0
  have h0':asy2 = 0:=eq_of_beq h0'
  subst h0'
  obtain ⟨c1,c2,c3,c4⟩:=ksOk h1
  refine mI he fun items qi he=>ite_t he fun hcap he=>mL he fun r hr he=>?_
  obtain ⟨hlen,rfl⟩:=short_t he
  ····
      obtain ⟨f1,f2⟩:=flatM_eq hr
      obtain ⟨it1,it3⟩:=hI hA h3 qi
      rw [f1] at hlen ⊢
      have hset:∀ d ∈ items,∃ σ₂,setT ks (capV σ ks ms) tg d = some σ₂:=fun d hd=>by
       obtain ⟨q,hq⟩:=f2 d hd
       cases w:setT ks (capV σ ks ms) tg d with
       | none=>rw [w] at hq; cases hq
       | some σ₂=>exact ⟨σ₂,rfl⟩
      have ecap:capVars σ scope.names ms = capV σ ks ms:=by rw [<- c4]; exact capV_eq.symm
      refine LcOk.mk' (ifs:=[]) (t:=fun env=>nestT (.ListComp el [⟨t,i,[],0⟩,⟨t2,i2,[],0⟩] scope cp) i2 1 env) (f:=fun d=>(match setT ks (capV σ ks ms) tg d with
       | none=>none
       | some σ₂=>if isNo σ₂ j = true then (match evI g it2 σ₂ with
        | none=>none
        | some items2=>flatM (fun d2=>match setT ks σ₂ (.one j) d2 with
         | none=>none
         | some σ₃=>(match evE g elt σ₃ with
          | some d'=>some [d']
          | none=>none)) items2) else none).getD []) (upd:=fun d=>(setT ks (capV σ ks ms) tg d).getD []) hA ms c1 hcap c2 c3 (fun cenv it acc=>turn_more 0 el t i [] ⟨t2,i2,[],0⟩ [⟨t,i,[],0⟩,⟨t2,i2,[],0⟩] scope cp it acc cenv rfl rfl rfl) it1 ⟨fun cenv hc d hd σ₁ hσ=>?_,fun cenv hc d hd=>⟨true,rfl,fun _=>?_,fun x=>nomatch x⟩⟩ hlen (it3 env)
      ·obtain ⟨σ₂,w⟩:=hset d hd
       have:(setT ks (capV σ ks ms) tg d).getD [] = σ₂:=by rw [w]; rfl
       simp only [this]
       rcases hσ with rfl | ⟨d',hd',rfl⟩
       ·exact setT_as hc c4 h2 (ecap ▸ w)
       ·obtain ⟨σ₃,w'⟩:=hset d' hd'
        have e3:(setT ks (capV σ ks ms) tg d').getD [] = σ₃:=by rw [w']; rfl
        simp only [e3]
        exact setT_as hc c4 h2 (setT_again w w')
      ·obtain ⟨σ₂,w⟩:=hset d hd
       have e2:(setT ks (capV σ ks ms) tg d).getD [] = σ₂:=by rw [w]; rfl
       obtain ⟨q,hq⟩:=f2 d hd
       rw [w] at hq
       dsimp only at hq
       simp only [w]
       split at hq
       ·rename_i hno
        rw [if_pos hno]
        cases wi:evI g it2 σ₂ with
        | none=>rw [wi] at hq; cases hq
        | some items2 =>
         rw [wi] at hq
         dsimp only at hq ⊢
         obtain ⟨m1,m2⟩:=flatM_eq hq
         obtain ⟨n1,n2⟩:=hI2 hc h5 wi
         have hset2:∀ d2 ∈ items2,∃ σ₃,setT ks σ₂ (.one j) d2 = some σ₃:=fun d2 hd2=>by
          obtain ⟨q',hq'⟩:=m2 d2 hd2
          cases w2:setT ks σ₂ (.one j) d2 with
          | none=>rw [w2] at hq'; cases hq'
          | some σ₃=>exact ⟨σ₃,rfl⟩
         refine (congrArg (fun z:Option (List D)=>EmP C k cenv σ₂ _ (z.getD []) _) hq).mpr ?_
         show EmP C k cenv σ₂ _ q _
         rw [m1]
         refine (EmP.nest (ifs:=[]) (J:=fun σ'=>σ'.set j .no = σ₂) (upd:=fun d2=>(setT ks σ₂ (.one j) d2).getD []) rfl rfl n1 (fun d2 hd2 σ₁ hσ=>?_) (fun d2 hd2=>⟨true,rfl,fun _=>?_,fun x=>nomatch x⟩) ?_ (fun d2 hd2=>?_) (n2 cenv)).forget j fun σ' e=>⟨d,hd,by rw [e]; exact e2.symm⟩
         ·obtain ⟨σ₃,w2⟩:=hset2 d2 hd2
          have e3:(setT ks σ₂ (.one j) d2).getD [] = σ₃:=by rw [w2]; rfl
          simp only [e3]
          rcases hσ with rfl | ⟨d',hd',rfl⟩
          ·exact setT_as hc c4 h4 w2
          ·obtain ⟨σ₄,w'⟩:=hset2 d' hd'
           have e4:(setT ks σ₂ (.one j) d').getD [] = σ₄:=by rw [w']; rfl
           simp only [e4]
           exact setT_as hc c4 h4 (setT_again w2 w')
         ·obtain ⟨σ₃,w2⟩:=hset2 d2 hd2
          have e3:(setT ks σ₂ (.one j) d2).getD [] = σ₃:=by rw [w2]; rfl
          obtain ⟨q',hq'⟩:=m2 d2 hd2
          rw [w2] at hq'
          dsimp only at hq'
          simp only [w2]
          cases we:evE g elt σ₃ with
          | none=>rw [we] at hq'; cases hq'
          | some d'=>exact ⟨d',hE hc h6 we,rfl⟩
         ·have:=isNo_set hno .no
          rwa [List.set_set] at this
         ·obtain ⟨σ₃,w2⟩:=hset2 d2 hd2
          have e3:(setT ks σ₂ (.one j) d2).getD [] = σ₃:=by rw [w2]; rfl
          simp only [e3]
          obtain ⟨_,rfl⟩:=setT_one w2
          exact isNo_set hno _
       ·cases hq
end
section
variable {C:Cx} {k:Nat} {g:G} {nm:Nat -> Str}
theorem rngOk_t {a:Int} (h:rngOk a = true):-1000000000 <= a /\ a <= 1000000000:=⟨of_decide_eq_true (and_t h).1,of_decide_eq_true (and_t h).2⟩
mutual
theorem evE_s (H:Gd C k g nm):∀ (ir:E) {sc:Scope} {env:Env} {σ:Vars} {e:Expr} {d:D},AtSc env sc -> repE nm sc ir e = true -> evE g ir σ = some d -> Ev C k env σ e d
 | .var i,sc,env,σ,e,d,hA,hr,he=>kName_t (e:=e) hr fun x p hr=>getV_ev (vr_var hA hr).1 (vr_var hA hr).2.1 (vr_var hA hr).2.2 he
 | .int n,sc,env,σ,e,d,hA,hr,he=>kConstant_t (e:=e) hr fun c u p hr=>cInt_t (c:=c) hr fun m hr=>by
  cases eq_of_beq hr; cases he; exact Ev.int
 | .str n,sc,env,σ,e,d,hA,hr,he=>kConstant_t (e:=e) hr fun c u p hr=>cStr_t (c:=c) hr fun m hr=>by
  cases eq_of_beq hr; cases he; exact Ev.str
 | .bool n,sc,env,σ,e,d,hA,hr,he=>kConstant_t (e:=e) hr fun c u p hr=>cBool_t (c:=c) hr fun m hr=>by
  cases eq_of_beq hr; cases he; exact Ev.bool
 | .bin op a b,sc,env,σ,e,d,hA,hr,he=>kBinOp_t (e:=e) hr fun l o r p hr=>and3 hr fun h0 h1 h2=>mDD he fun x y q1 q2 he=>by
  cases eq_of_beq h0; exact Ev.bin (evE_s H a hA h1 q1) (evE_s H b hA h2 q2) (bin2_sound he)
 | .cmp op a b,sc,env,σ,e,d,hA,hr,he=>kCmp_t (e:=e) hr fun l o r p hr=>and4 hr fun h0 h1 h2 h3=>mDD he fun x y q1 q2 he=>map_t he fun t q he=>by
  cases eq_of_beq h0; cases he; exact Ev.cmp (evE_s H a hA h1 q1) (evE_s H b hA h2 q2) (cmp2_sound q) (nt h3)
 | .ite c a b,sc,env,σ,e,d,hA,hr,he=>kIfExp_t (e:=e) hr fun x y z p hr=>and3 hr fun h0 h1 h2 =>
  mB he (fun q he=>Ev.ifExp (evT_s H c hA h0 q) (fun _=>evE_s H a hA h1 he) fun x=>nomatch x) (fun q he=>Ev.ifExp (evT_s H c hA h0 q) (fun x=>nomatch x) fun _=>evE_s H b hA h2 he)
 | .and a b,sc,env,σ,e,d,hA,hr,he=>kBoolOp_t (e:=e) hr fun o es p hr=>and2 hr fun h0 hr=>isAnd_t (o:=o) h0 <| k2_t (l:=es) hr fun x y hr=>and2 hr fun h0 h1 =>
  mDb he (fun q he=>Ev.andV (evE_s H a hA h0 q) (fun _=>evE_s H b hA h1 he) fun x=>nomatch x) (fun q he=>Ev.andV (evE_s H a hA h0 q) (fun x=>nomatch x) fun _=>(Option.some.inj he).symm)
 | .tup l,sc,env,σ,e,d,hA,hr,he=>kTuple_t (e:=e) hr fun es u p hr=>mL he fun ds q he=>ite_t he fun hl he=>by
  cases he; exact Ev.tuple (evL_s H l hA hr q) hl
 | .lst l,sc,env,σ,e,d,hA,hr,he=>kList_t (e:=e) hr fun es p hr=>mL he fun ds q he=>by
  obtain ⟨hl,rfl⟩:=short_t he; exact Ev.list (evL_s H l hA hr q) hl
 | .call f l,sc,env,σ,e,d,hA,hr,he=>kFn_t (e:=e) hr fun x px es p hr=>and4 hr fun h0 h1 h2 h3=>mL he fun ds q he=>by
  cases eq_of_beq h0
  obtain ⟨fv,g1,g2,g3⟩:=H.fn _ _ _ (of_decide_eq_true h3) he
  exact Ev.call (g1.ev (gl_glob hA h1)) g2 (evL_s H l hA h2 q) g3
 | .meth m o l,sc,env,σ,e,d,hA,hr,he=>kMt_t (e:=e) hr fun v name ap es p hr=>and6 hr fun h0 h1 h2 h3 h4 h5=>mDL he fun x ds q1 q2 he=>by
  cases eq_of_beq h0
  obtain ⟨id,g1,g2⟩:=mth_sound (C:=C) (k:=k) he
  have L:=evL_s H l hA h5 q2
  exact Ev.meth (evE_s H o hA h4 q1) g1 L g2 (meth_eq h1 (of_decide_eq_true h2) h3 L.stars)
 | .wm m o l,sc,env,σ,e,d,hA,hr,he=>kMt_t (e:=e) hr fun v name ap es p hr=>and6 hr fun h0 h1 h2 h3 h4 h5=>mDL he fun x ds q1 q2 he=>ite_t he fun hm he=>by
  cases eq_of_beq h0
  obtain ⟨fv,g1,g2,g3⟩:=H.wm _ _ _ _ hm he
  have L:=evL_s H l hA h5 q2
  exact Ev.methR (evE_s H o hA h4 q1) g1 g2 L g3 (meth_eq h1 (of_decide_eq_true h2) h3 L.stars)
 | .sub a i,sc,env,σ,e,d,hA,hr,he=>kSubscript_t (e:=e) hr fun v s p hr=>and3 hr fun h0 h1 h2=>mDD he fun x y q1 q2 he=>Ev.sub (evE_s H a hA h1 q1) (evE_s H i hA h2 q2) (sub2_sound he)
 | .slcLo a i,sc,env,σ,e,d,hA,hr,he=>kSubscript_t (e:=e) hr fun v s p hr=>kSlice_t (e:=s) hr fun lo hi st sp hr=>and2 hr fun h0 hr=>and2 h0 fun h0 h1=>isNone_t (o:=hi) h0 <| isNone_t (o:=st) h1 <| kSome_t (o:=lo) hr fun s hr=>and2 hr fun h1 h2=>mDDi he fun x n q1 q2 he =>
  slc2_sound (l:=some _) (u:=none) (evE_s H a hA h1 q1) (evE_s H i hA h2 q2) trivial he
 | .slcHi a i,sc,env,σ,e,d,hA,hr,he=>kSubscript_t (e:=e) hr fun v s p hr=>kSlice_t (e:=s) hr fun lo hi st sp hr=>and2 hr fun h0 hr=>and2 h0 fun h0 h1=>isNone_t (o:=lo) h0 <| isNone_t (o:=st) h1 <| kSome_t (o:=hi) hr fun s hr=>and2 hr fun h1 h2=>mDDi he fun x n q1 q2 he =>
  slc2_sound (l:=none) (u:=some _) (evE_s H a hA h1 q1) trivial (evE_s H i hA h2 q2) he
 | .attr x o,sc,env,σ,e,d,hA,hr,he=>kAttribute_t (e:=e) hr fun v name p hr=>and3 hr fun h0 h1 h2=>mD he fun y q he=>by
  cases eq_of_beq h0; exact attr_ev (evE_s H o hA h2 q) h1 (H.attr _ _ _ he)
 | .neg a,sc,env,σ,e,d,hA,hr,he=>kUnaryOp_t (e:=e) hr fun o x p hr=>and2 hr fun h0 hr=>isUSub_t (o:=o) h0 <| mDi he fun n q he=>by
  cases he; exact Ev.neg (evE_s H a hA hr q)
 | .gc n,sc,env,σ,e,d,hA,hr,he=>kName_t (e:=e) hr fun x p hr=>and2 hr fun h0 h1=>by
  cases eq_of_beq h0
  obtain ⟨v,g1,g2⟩:=H.con n d he
  exact fun B U O A s R S=>wpT (g1.ev (gl_glob hA h1) B U O A s R S) fun v' s' h=>⟨h.1,by rw [h.2]; exact g2 _ _⟩
 | .comp ms ks tg it ifs elt,sc,env,σ,e,d,hA,hr,he=>(lc1 (evI_s H it) (evTs_s H ifs) (evE_s H elt) hA hr he).ev
 | .comp2 ms ks tg it j it2 elt,sc,env,σ,e,d,hA,hr,he=>(lc2 (evI_s H it) (evI_s H it2) (evE_s H elt) hA hr he).ev
theorem evL_s (H:Gd C k g nm):∀ (l:List E) {sc:Scope} {env:Env} {σ:Vars} {es:List Expr} {ds:List D},AtSc env sc -> repL nm sc l es = true -> evL g l σ = some ds -> EvL C k env σ es ds
 | [],sc,env,σ,es,ds,hA,hr,he=>kNil_t (l:=es) hr (by cases he; trivial)
 | x :: xs,sc,env,σ,es,ds,hA,hr,he=>kCons_t (l:=es) hr fun e es hr=>and3 hr fun h0 h1 h2=>mDL he fun y ys q1 q2 he=>by
  cases he; exact ⟨⟨evE_s H x hA h1 q1,nt h0⟩,evL_s H xs hA h2 q2⟩
theorem evT_s (H:Gd C k g nm):∀ (ir:T) {sc:Scope} {env:Env} {σ:Vars} {e:Expr} {t:Bool},AtSc env sc -> repT nm sc ir e = true -> evT g ir σ = some t -> Te C k env σ e t
 | .e a,sc,env,σ,e,t,hA,hr,he=>and2 hr fun h0 h1=>mD he fun x q he =>
  Te.plain (evE_s H a hA h1 q) (tru1_sound he) (plainT_t (e:=e) h0 (fun _ _=>rfl) (fun _ _ _=>rfl) (fun _ _ _ _=>rfl) (fun _ _ _=>rfl) (fun _ _ _ _=>rfl))
 | .cmp op a b,sc,env,σ,e,t,hA,hr,he=>kCmp_t (e:=e) hr fun l o r p hr=>and4 hr fun h0 h1 h2 h3=>mDD he fun x y q1 q2 he=>by
  cases eq_of_beq h0; exact Te.cmp (evE_s H a hA h1 q1) (evE_s H b hA h2 q2) (cmp2_sound he) (nt h3)
 | .and a b,sc,env,σ,e,t,hA,hr,he=>kBoolOp_t (e:=e) hr fun o es p hr=>and2 hr fun h0 hr=>isAnd_t (o:=o) h0 <| k2_t (l:=es) hr fun x y hr=>and2 hr fun h0 h1 =>
  mB he (fun q he=>Te.and2 (evT_s H a hA h0 q) (b:=t) (fun _=>evT_s H b hA h1 he)) (fun q he=>by cases he; exact Te.and2 (b:=false) (evT_s H a hA h0 q) (fun x=>nomatch x))
theorem evTs_s (H:Gd C k g nm):∀ (l:List T) {sc:Scope} {env:Env} {σ:Vars} {es:List Expr} {b:Bool},AtSc env sc -> repTs nm sc l es = true -> evTs g l σ = some b -> TsOk C k env σ es b
 | [],sc,env,σ,es,b,hA,hr,he=>kNil_t (l:=es) hr (by cases he; rfl)
 | x :: xs,sc,env,σ,es,b,hA,hr,he=>kCons_t (l:=es) hr fun e es hr=>and2 hr fun h1 h2 =>
  mB he (fun q he=>⟨true,evT_s H x hA h1 q,by rw [if_pos rfl]; exact evTs_s H xs hA h2 he⟩) (fun q he=>by cases he; exact ⟨false,evT_s H x hA h1 q,by rw [if_neg (by decide)]⟩)
theorem evI_s (H:Gd C k g nm):∀ (ir:It) {sc:Scope} {env:Env} {σ:Vars} {e:Expr} {l:List D},AtSc env sc -> repI nm sc ir e = true -> evI g ir σ = some l -> EvIt C k env σ e l /\ ∀ env' x,foldedSetIterable e env' x = pure x
 | .e a,sc,env,σ,e,l,hA,hr,he=>and2 hr fun h0 h1=>mD he fun x q he=>by
   refine ⟨?_,fun env'=>baseSet (nt h0)⟩
   cases x with
   | lst l=>cases he; exact EvIt.lst (evE_s H a hA h1 q)
   | str x=>cases he; exact EvIt.str (evE_s H a hA h1 q)
   | tup l=>cases he; exact EvIt.tup (evE_s H a hA h1 q)
   | _=>cases he
 | .r1 a,sc,env,σ,e,l,hA,hr,he=>kFn_t (e:=e) hr fun x px es p hr=>k1_t (l:=es) hr fun y hr=>and4 hr fun h0 h1 h2 h3=>mDi he fun n q he=>ite_t he fun hb he=>by
  cases eq_of_beq h0
  cases he
  exact ⟨EvIt.range1 (f:=.Constant .none 0 ⟨0,0,0,0⟩) (H.range.ev (gl_glob hA h1)) (evE_s H a hA h3 q) (nt h2) (rngOk_t hb),fun env'=>baseSet rfl⟩
 | .r2 a b,sc,env,σ,e,l,hA,hr,he=>kFn_t (e:=e) hr fun x px es p hr=>k2_t (l:=es) hr fun y z hr=>and6 hr fun h0 h1 h2 h2' h3 h4=>mii he fun m n q q2 he=>ite_t he fun hb he=>by
  cases eq_of_beq h0
  cases he
  exact ⟨EvIt.range2 (H.range.ev (gl_glob hA h1)) (evE_s H a hA h3 q) (evE_s H b hA h4 q2) (nt h2) (nt h2') (rngOk_t (and_t hb).1) (rngOk_t (and_t hb).2),fun env'=>baseSet rfl⟩
 | .rev a,sc,env,σ,e,l,hA,hr,he=>kFn_t (e:=e) hr fun x px es p hr=>k1_t (l:=es) hr fun y hr=>and4 hr fun h0 h1 h2 h3=>mDl he fun n q he=>by
  cases eq_of_beq h0
  cases he
  exact ⟨EvIt.rev (H.reversed.ev (gl_glob hA h1)) (evE_s H a hA h3 q) (nt h2),fun env'=>baseSet rfl⟩
end
theorem comp_s (H:Gd C k g nm) {ir:E} {sc:Scope} {env:Env} {σ:Vars} {e:Expr} {d:D} (hA:AtSc env sc) (hr:repE nm sc ir e = true) (hl:∃ a b c p,e = .ListComp a b c p) (he:evE g ir σ = some d):LcOk C k env σ e d:=by
 obtain ⟨a,b,c,p,rfl⟩:=hl
 cases ir with
 | comp ms ks tg it ifs elt=>exact lc1 (evI_s H it) (evTs_s H ifs) (evE_s H elt) hA hr he
 | comp2 ms ks tg it j it2 elt=>exact lc2 (evI_s H it) (evI_s H it2) (evE_s H elt) hA hr he
 | _=>exact absurd hr (by first | exact Bool.false_ne_true | (show ¬ (repE nm sc _ _ = true); intro h; cases h))
end
end
section
noncomputable def unO (P:Nat -> Bool) (O:Own):Own:=fun b=>match O b with
 | some (.own j)=>if P j then none else some (.own j)
 | t=>t
noncomputable def frzA (p:Bool):AV -> AV
 | .own l=>if p then .d (.lst l) else .own l
 | av=>av
noncomputable def frzP (P:Nat -> Bool) (σ:Vars):Vars:=σ.mapIdx fun j av=>frzA (P j) av
noncomputable def D.atom:D -> Bool
 | .none | .bool _ | .int _ | .str _=>true
 | _=>false
section
variable {C:Cx} {env:Env} {σ:Vars} {k:Nat}
variable {B:Base} {U:Addr -> Prop} {O O':Own} {s s₁ s':Shared} {h':Heap}
theorem Ext.fresh' {s s':Shared} (x:Ext C s s') {a:Addr} (fr:s'.heap.get? a = none):s.heap.get? a = none:=by
 cases q:s.heap.get? a with
 | none=>rfl
 | some o=>obtain ⟨o',g⟩:=x.ex ⟨o,q⟩; rw [fr] at g; cases g
theorem unO_none {P:Nat -> Bool} {b:Addr} (h:unO P O b ≠ none):O b ≠ none:=by
 intro q; apply h; unfold unO; rw [q]
theorem SimO.frz (S:SimO C B U O env σ s) (P:Nat -> Bool):SimO C B U (unO P O) env (frzP P σ) s:=by
 obtain ⟨m,hm,hv⟩:=S.vars
 have zz:∀ b,¬ Zf U O b -> ¬ Zf U (unO P O) b:=fun b n q=>n (q.imp id unO_none)
 refine ⟨S.ok,S.ev,S.tu,S.bt,S.keepB,fun b hb=>S.lt b (hb.imp id unO_none),fun b hb=>S.ob b (unO_none hb),fun b hb=>S.oh b (unO_none hb),by unfold unO; rw [S.hL],m,hm,fun i x kk av e1 e2=>?_⟩
 unfold frzP at e2
 rw [List.getElem?_mapIdx] at e2
 cases q:σ[i]? with
 | none=>rw [q] at e2; cases e2
 | some av0 =>
  rw [q] at e2
  have e3:av = frzA (P i) av0:=by simpa using e2.symm
  subst e3
  have old:=hv i x kk av0 e1 q
  have hcell:∀ c,O c = some (.cell i) -> unO P O c = some (.cell i):=fun c hc=>by unfold unO; rw [hc]
  have hold:∀ v,HoldsO env m s.heap O i x kk v -> HoldsO env m s.heap (unO P O) i x kk v:=fun v h=>h.step (fun _=>rfl) fun c hc=>⟨hcell c hc,fun _ g=>g⟩
  cases av0 with
  | own l =>
   obtain ⟨a,vs,f1,f2,f3,f4⟩:=old
   have f4':IsDs C (Zf U (unO P O)) s.heap vs l:=f4.mono (fun b o n g=>g) fun b o n g=>zz b n
   show VarOk C B U (unO P O) env m s.heap i x kk (if P i then .d (.lst l) else .own l)
   cases hp:P i with
   | true=>exact ⟨.ref a,hold _ f1,.lst _ _ _ f3 (fun q=>q.elim (S.ob a (nnS f2)).2 fun q=>q (by unfold unO; rw [f2]; simp [hp])) f4'⟩
   | false=>exact ⟨a,vs,hold _ f1,by unfold unO; rw [f2]; simp [hp],f3,f4'⟩
  | no=>trivial
  | emp=>obtain ⟨e,c,w,g1,g2,g3⟩:=old; exact ⟨e,c,w,g1,hcell c g2,g3⟩
  | d d=>obtain ⟨v,g1,g2⟩:=old; exact ⟨v,hold _ g1,g2.mono (fun b o n g=>g) fun b o n g=>zz b n⟩
  | sd d=>obtain ⟨e,c,v,g1,g2,g3⟩:=old; exact ⟨e,c,v,g1,g2,g3.mono (fun b o n g=>g) fun b o n g=>zz b n⟩
  | val u=>exact old.imp (hold _) id
  | lex L st=>exact ⟨old.1.imp (hold _) id,by unfold unO; rw [old.2.1],by unfold unO; rw [old.2.2.1],by unfold unO; rw [old.2.2.2.1],old.2.2.2.2⟩
theorem IsD.atom {Z Z':Addr -> Prop} {h h2:Heap} {v:Value} {d:D} (i:IsD C Z h v d) (ha:d.atom = true):IsD C Z' h2 v d:=by
 cases i <;> first | (cases ha; done) | constructor
theorem EvP.thaw {t:Sem Value} {d:D} (P:Nat -> Bool) (h:EvP C k env (frzP P σ) t d) (ha:d.atom = true):EvP C k env σ t d :=
 fun B U O A s R S=>wpT (h B U _ A s R (S.frz P)) fun v s' hY59=>⟨hY59.1,hY59.2.atom ha⟩
theorem EvT.thaw {t:Sem Bool} {b:Bool} (P:Nat -> Bool) (h:EvT C k env (frzP P σ) t b):EvT C k env σ t b :=
 fun B U O A s R S=>h B U _ A s R (S.frz P)
theorem ExG.frz {t:Sem Flow} {Q:Fl -> Vars -> Prop} (P:Nat -> Bool) (h:ExG C k env (frzP P σ) t Q):ExG C k env σ t Q :=
 fun B U A s R ⟨O,S⟩=>h B U A s R ⟨_,S.frz P⟩
noncomputable def EvF (C:Cx) (k:Nat) (env:Env) (σ:Vars) (t:Sem Value) (l:List D):Prop :=
 ∀ B U O A s,Room k A -> SimO C B U O env σ s -> wpAny C.M A t (fun v s'=>Ext C s s' /\ ∃ a ws,v = .ref a /\ s.heap.get? a = none /\ Lst s'.heap a ws /\ IsDs C (fun b=>Zf U O b \/ b = a) s'.heap ws l) nf s
theorem newList_F {A:Around} {vs:List Value} {l:List D} {Z:Addr -> Prop} (K:OK C s) (i:IsDs C Z s.heap vs l) (hl:l.length <= 1000000) {Q:Value -> Shared -> Prop}
  (hQ:∀ s',Ext C s s' -> ∀ a,s.heap.get? a = none -> Lst s'.heap a vs -> IsDs C (fun b=>Z b \/ b = a) s'.heap vs l -> Q (.ref a) s'):wpAny C.M A (newList vs) Q nf s:=by
 have hlen:=i.length
 refine wpAny_newObj_type (hQ _ (Ext.push K) _ (Heap.get?_none_of_le (Nat.le_refl _)) ⟨0,Heap.get?_push_size _ rfl⟩ (i.mono (fun b o n g=>Heap.get?_push_of_some _ g) fun b o n g q=>q.elim n fun q=>by rw [q] at g; exact absurd (Heap.lt_size g) (Nat.lt_irrefl _))) (by show vs.toArray.size <= sizeLine; rw [List.size_toArray,sizeLine_eq]; omega)
theorem EvF.list {es:List Expr} {ds:List D} {pos:Pos} (h:EvL C k env σ es ds) (hl:ds.length <= 1000000):EvF C k env σ (eval (.List es pos) env) ds:=by
 intro B U O A s R S
 refine List_ (wpT (h.spliced pos R S) fun vs s₁ hZ2=>?_); obtain ⟨x1,i1⟩:=hZ2
 exact newList_F x1.ok i1 hl fun s' x2 a fr h1 h2=>⟨x1.trans x2,a,vs,rfl,x1.fresh' fr,h1,h2⟩
theorem EvF.addL {l r:Expr} {pos:Pos} {a b:List D} (h1:Ev C k env σ l (.lst a)) (h2:Ev C k env σ r (.lst b)) (hl:a.length + b.length <= 1000000):EvF C k env σ (eval (.BinOp l .Add r pos) env) (a ++ b):=by
 intro B U O A s R S
 refine wpAny_BinOp (wpT (h1 B U O A s R S) fun va s₁ ⟨e1,i1⟩=>wpT (h2 B U O A s₁ R (S.ext e1)) fun vb s₂ hZ2=>?_); obtain ⟨e2,i2⟩:=hZ2
 have S2:=(S.ext e1).ext e2
 have i1':=i1.ext e2 S.zt
 replace i1':=i1'.iLst; obtain ⟨x,vs,hqq,f1,z1,g1⟩:=i1'; cases hqq
 replace i2:=i2.iLst; obtain ⟨y,ws,hqq,f2,z2,g2⟩:=i2; cases hqq
 have l1:=g1.length
 have l2:=g2.length
 obtain ⟨n1,q1⟩:=f1
 obtain ⟨n2,q2⟩:=f2
 have x2:Ext C s₂ { heap:=s₂.heap.push { cls:=.type "list",data:=.seq (vs ++ ws).toArray },gens:=s₂.gens,drawn:=s₂.drawn,toks:=s₂.toks,os:=s₂.os }:=Ext.push S2.ok
 refine concat_meets ⟨_,q1,rfl⟩ ⟨_,q2,rfl⟩ noFill_list_add seq_list_add PySem.F.slot_list_add PySem.F.entry_list_add (PySem.F.args_list_add_2 _ _) (AutoSeq1.list___add___list_list_0 x vs.toArray n1 y ws.toArray n2 (by rw [sizeLine_eq]; simp; omega)) ⟨q1,q2,?_⟩
 have e:vs.toArray ++ ws.toArray = (vs ++ ws).toArray:=by simp
 rw [e]
 refine ⟨(e1.trans e2).trans x2,_,vs ++ ws,rfl,(e1.trans e2).fresh,⟨0,Heap.get?_push_size _ rfl⟩,(g1.append g2).mono (fun b o n g=>Heap.get?_push_of_some _ g) fun b o n g q=>q.elim n fun q=>by rw [q] at g; exact absurd (Heap.lt_size g) (Nat.lt_irrefl _)⟩
theorem SimO.storeOwn (S:SimO C B U O env σ s) (x:Ext C s s₁) {a:Addr} {ws:List Value} {l:List D} (fr:s.heap.get? a = none) (hl:Lst s₁.heap a ws) (i:IsDs C (fun b=>Zf U O b \/ b = a) s₁.heap ws l) {nm:Str} {ix:Nat} (hx:IsSto env.scope σ nm ix)
  {A:Around} {Q:Unit -> Shared -> Prop} (hQ:∀ s' O',SimO C B U O' env (σ.set ix (.own l)) s' -> Q () s'):wpAny C.M A (storeName env nm (.ref a)) Q nf s₁:=by
 have ne:∀ b o,s.heap.get? b = some o -> b ≠ a:=fun b o g q=>by rw [q,fr] at g; cases g
 have Oa:O a = none:=S.frO fr
 have Ua:¬ U a:=S.frU fr
 have Ba:B.get a = none:=S.frB fr
 have Ha:C.h0.get? a = none:=S.ok.frH fr
 have kO:∀ c,O c ≠ none -> ∀ o,s.heap.get? c = some o -> s₁.heap.get? c = some o:=fun c hc o g=>x.keep c o (S.nT hc) g
 have put_ne:∀ b,b ≠ a -> O.put a (some (.own ix)) b = O b:=fun b h=>by unfold Own.put; rw [if_neg h]
 have put_a:O.put a (some (.own ix)) a = some (.own ix):=by unfold Own.put; rw [if_pos rfl]
 have ex:∀ c,O c ≠ none -> c ≠ a:=fun c hc=>by obtain ⟨o,g⟩:=S.lt c (.inr hc); exact ne _ _ g
 have S1:SimO C B U (O.put a (some (.own ix))) env σ s₁:=by
  obtain ⟨m,hm,hv⟩:=S.vars
  refine ⟨x.ok,S.ev,S.tu,S.bt,fun b o g=>x.keep b o (fun q=>by rw [S.bt b q] at g; cases g) (S.keepB b o g),fun b hb=>?_,fun b hb=>?_,fun b hb=>?_,?_,m,?_,fun j y kk av e1 e2=>?_⟩
  ·by_cases q:b = a
   ·subst q; obtain ⟨n,g⟩:=hl; exact ⟨_,g⟩
   ·exact x.ex (S.lt b (hb.imp id fun h=>by rwa [put_ne b q] at h))
  ·by_cases q:b = a
   ·subst q; exact ⟨Ba,Ua⟩
   ·rw [put_ne b q] at hb; exact S.ob b hb
  ·by_cases q:b = a
   ·subst q; exact Ha
   ·rw [put_ne b q] at hb; exact S.oh b hb
  ·rw [put_ne _ (ex _ (nnS S.hL))]; exact S.hL
  ·obtain ⟨o,es,ep,g,r⟩:=hm
   exact ⟨o,es,ep,kO _ (nnS S.hL) o g,r⟩
  ·refine (hv j y kk av e1 e2).step (fun _=>rfl) (fun c hc=>⟨by rw [put_ne c (ex c (nnS hc))]; exact hc,kO c (nnS hc)⟩) (fun c hc=>⟨by rw [put_ne c (ex c (nnS hc))]; exact hc,kO c (nnS hc)⟩) (fun c hc=>⟨by rw [put_ne c (ex c (nnS hc))]; exact hc,kO c (nnS hc)⟩)
    fun b o n g=>⟨x.keep b o (fun q=>n (S.zt b q)) g,fun q=>n (q.imp id fun h=>by rwa [put_ne b (ne b o g)] at h)⟩
 have i1:IsDs C (Zf U (O.put a (some (.own ix)))) s₁.heap ws l:=i.mono (fun b o n g=>g) fun b o n g q=>by
  rcases q with q | q
  ·exact n (.inl (.inl q))
  ·by_cases r:b = a
   ·exact n (.inr r)
   ·rw [put_ne b r] at q; exact n (.inl (.inr q))
 exact S1.store_av (av:=.own l) hx (fun m h' kd kw kk hh=>⟨a,ws,hh,put_a,hl.kept fun o g=>kw a ix put_a o g,i1.mono kd fun b o n g=>n⟩) fun s' S' _=>hQ s' _ S'
theorem SimO.ownAt (S:SimO C B U O env σ s) {x:Str} {i:Nat} {l:List D} {pos:Pos} {A:Around} {Q:Value -> Shared -> Prop} (hx:IsVar env.scope x i) (hs:σ[i]? = some (.own l)) (hb:(x == ("__debug__":Str)) = false)
  (hQ:∀ a vs,O a = some (.own i) -> Lst s.heap a vs -> IsDs C (Zf U O) s.heap vs l -> (∀ s₁,Ext C s s₁ -> ∀ (l':List D) (vs':List Value) (h':Heap) (tk:Nat) (dr:Drawn),Lst h' a vs' -> IsDs C (Zf U O) s₁.heap vs' l' -> Heap.SameBut a s₁.heap h' -> SimO C B U O env (σ.set i (.own l')) { heap:=h',gens:=s₁.gens,drawn:=dr,toks:=tk,os:=s₁.os }) -> Q (.ref a) s) :
  wpAny C.M A (eval (.Name x pos) env) Q nf s:=by
 obtain ⟨kk,e1,e2⟩:=hx.kind S.ev
 obtain ⟨m,hm,hv⟩:=S.vars
 obtain ⟨a,vs,h1,h2,h3,h4⟩:=hv i x kk _ e1 hs
 have hlt:=(List.getElem?_eq_some_iff.mp hs).1
 have fin:Q (.ref a) s:=hQ a vs h2 h3 h4 fun s₁ xe l' vs' h' tk dr hl' i' hsb=>by
  have kO:∀ c,O c ≠ none -> ∀ o,s.heap.get? c = some o -> s₁.heap.get? c = some o:=fun c hc o g=>xe.keep c o (S.nT hc) g
  have S1:=S.ext xe
  have hm1:s₁.heap.Ns env.locals m:=by obtain ⟨o,es,ep,g,r⟩:=hm; exact ⟨o,es,ep,kO _ (nnS S.hL) o g,r⟩
  have hv1:∀ i x k av,env.scope.names[i]? = some (x,k) -> σ[i]? = some av -> VarOk C B U O env m s₁.heap i x k av:=fun i x k av e1 e2 =>
   (hv i x k av e1 e2).step (fun _=>rfl) (fun c hc=>⟨hc,kO c (nnS hc)⟩) (fun c hc=>⟨hc,kO c (nnS hc)⟩) (fun c hc=>⟨hc,kO c (nnS hc)⟩) fun b o n g=>⟨xe.keep b o (fun q=>n (S.zt b q)) g,n⟩
  have h11:HoldsO env m s₁.heap O i x kk (.ref a):=h1.step (fun _=>rfl) fun c hc=>⟨hc,kO c (nnS hc)⟩
  obtain ⟨n,g⟩:=h3.kept fun o g=>kO a (nnS h2) o g
  obtain ⟨n',g'⟩:=hl'
  have hk:∀ b o,b ≠ a -> s₁.heap.get? b = some o -> h'.get? b = some o:=fun b o n e=>(hsb.2 b n).trans e
  have nO:∀ c t,O c = some t -> (∀ j,t ≠ .own j) -> c ≠ a:=fun c t hc ht q=>by rw [q,h2] at hc; cases hc; exact ht _ rfl
  refine S1.change (nnS h2) g (fun vs q=>by cases q) hk ⟨_,g'⟩ ⟨m,hm1.sameBut hsb (nO _ _ S.hL (fun j q=>by cases q)),fun j y k' av f1 f2=>?_⟩
  by_cases hj:j = i
  ·subst hj
   rw [List.getElem?_set_self hlt] at f2
   cases f2
   rw [e1] at f1
   cases f1
   refine ⟨a,vs',h11.step (fun _=>rfl) fun c hc=>⟨hc,fun o g=>hk c o (nO c _ hc (fun j q=>by cases q)) g⟩,h2,⟨n',g'⟩,i'.mono (fun b o nb gb=>hk b o (fun q=>nb (.inr (by rw [q,h2]; simp))) gb) fun b o nb _=>nb⟩
  ·rw [List.getElem?_set_ne (Ne.symm hj)] at f2
   exact (hv1 j y k' av f1 f2).step (fun _=>rfl) (fun c hc=>⟨hc,fun o g=>hk c o (nO c _ hc (fun j q=>by cases q)) g⟩) (fun c hc=>⟨hc,fun o g=>hk c o (fun q=>by rw [q,h2] at hc; cases hc; exact hj rfl) g⟩) (fun c hc=>⟨hc,fun o g=>hk c o (nO c _ hc (fun j q=>by cases q)) g⟩) fun b o nb gb=>⟨hk b o (fun q=>nb (.inr (by rw [q,h2]; simp))) gb,nb⟩
 refine wpAny_Name ?_ hb
 rcases h1 with ⟨rfl,q⟩ | ⟨rfl,c,c1,c2,c3⟩
 ·exact wpAny_loadName_local S.ev.kind e2 hm q fin
 ·exact wpAny_loadName_cell S.ev.kind e2 c1 c3 fin
end
end
section
theorem upd_lst {h:Heap} {a:Addr} {vs:List Value} (f:Array Value -> Array Value) (hl:Lst h a vs):Lst (h.update a (Obj.mapSeq f)) a (f vs.toArray).toList:=by
 obtain ⟨n,e⟩:=hl
 refine ⟨if (f vs.toArray).size == vs.toArray.size then n else n + 1,?_⟩
 rw [Heap.get?_update_self (Obj.mapSeq f) e (by simp [Obj.mapSeq,Obj.isFreed])]
 simp [Obj.mapSeq]
noncomputable def insAt (l:List D) (i:Int) (d:D):List D :=
 let k:=if i < 0 then (i + (l.length:Int)).toNat else min i.toNat l.length
 l.take k ++ d :: l.drop k
theorem IsDs.reverse {C:Cx} {Z:Addr -> Prop} {h:Heap}:∀ {ds:List D} {vs:List Value},IsDs C Z h vs ds -> IsDs C Z h vs.reverse ds.reverse
 | [],vs,x=>x.iNil ▸ .nil
 | d :: ds,vs,x=>x.iCons.elim fun v r=>r.elim fun ws r=>r.1 ▸ by rw [List.reverse_cons,List.reverse_cons]; exact (IsDs.reverse r.2.2).snoc r.2.1
theorem IsDs.set {C:Cx} {Z:Addr -> Prop} {h:Heap} {v:Value} {d:D} (i:IsD C Z h v d):∀ {ds:List D} {vs:List Value},IsDs C Z h vs ds -> ∀ n,IsDs C Z h (vs.set n v) (ds.set n d)
 | [],vs,x,n=>x.iNil ▸ .nil
 | d :: ds,vs,x,0=>x.iCons.elim fun v r=>r.elim fun ws r=>r.1 ▸ .cons i r.2.2
 | d :: ds,vs,x,n + 1=>x.iCons.elim fun v r=>r.elim fun ws r=>r.1 ▸ .cons r.2.1 (IsDs.set i r.2.2 n)
theorem IsDs.erase {C:Cx} {Z:Addr -> Prop} {h:Heap}:∀ {ds:List D} {vs:List Value},IsDs C Z h vs ds -> ∀ n,IsDs C Z h (vs.eraseIdx n) (ds.eraseIdx n)
 | [],vs,x,n=>x.iNil ▸ .nil
 | d :: ds,vs,x,0=>x.iCons.elim fun v r=>r.elim fun ws r=>r.1 ▸ r.2.2
 | d :: ds,vs,x,n + 1=>x.iCons.elim fun v r=>r.elim fun ws r=>r.1 ▸ .cons r.2.1 (IsDs.erase r.2.2 n)
section
variable {C:Cx} {env:Env} {σ:Vars} {k:Nat}
variable {B:Base} {U:Addr -> Prop} {O O':Own} {s s₁ s':Shared} {h':Heap}
theorem ExS.assignOwn {x:Str} {i:Nat} {px pos:Pos} {e:Expr} {l:List D} {Q:Fl -> Vars -> Prop} (he:EvF C k env σ (eval e env) l) (hx:IsSto env.scope σ x i) (hQ:Q .next (σ.set i (.own l)))
  (hs:swapsWith e (some (.Name x px)) pos.line env = pure false):ExS C k env σ (.Assign [.Name x px] e pos) Q:=by
 intro B U A s R ⟨O,S⟩
 exact wpAny_Assign_Name (wpT (he B U O A s R S) fun v s₁ ⟨x1,a,ws,e,fr,h1,h2⟩=>by
  subst e
  exact S.storeOwn x1 fr h1 h2 hx fun s₂ O' S₂=>⟨O',_,.next,S₂,trivial,hQ⟩) hs
theorem getM_list {a:Addr} {vs:List Value} {name:Str} {id:String} {pl:Sem Bool} {A:Around} {Q:Value × List Value -> Shared -> Prop} (hl:Lst s.heap a vs) (slot:Slot "list" name id) (hty:typeOf (.builtin id) = pure (.type "method_descriptor"))
  (h:Q (.builtin id,[.ref a]) s):wpAny C.M A (getMethod (.ref a) name pl) Q nf s:=by
 obtain ⟨n,e⟩:=hl
 exact getMethod_builtin ⟨_,e,rfl⟩ PySem.F.plainAttrs_list slot hty (fun b q=>by cases q; exact ⟨_,e,rfl⟩) h
theorem ExS.ownMeth {x name:Str} {i:Nat} {l l':List D} {px ap cp pos:Pos} {es:List Expr} {ds:List D} {id:String} {Q:Fl -> Vars -> Prop}
  (hx:IsVar env.scope x i) (hs:σ[i]? = some (.own l)) (hb:(x == ("__debug__":Str)) = false) (slot:Slot "list" name id) (hty:typeOf (.builtin id) = pure (.type "method_descriptor"))
  (ha:EvL C k env σ es ds) (hn:es.length < 30) (hp:(ap.endLine == cp.line) = true)
  (hc:∀ (Z:Addr -> Prop) (A:Around) (s:Shared) (a:Addr) (vs ws:List Value) (Q:Value -> Shared -> Prop),Room 0 A -> Lst s.heap a vs -> IsDs C Z s.heap vs l -> IsDs C Z s.heap ws ds ->
   (∀ h' vs' tk,Lst h' a vs' -> IsDs C Z s.heap vs' l' -> Heap.SameBut a s.heap h' -> Q .none { s with heap:=h',toks:=tk }) -> wpAny C.M A (call (.builtin id) (.ref a :: ws)) Q nf s)
  (hQ:Q .next (σ.set i (.own l'))) (hi:interactive env = false):ExS C k env σ (.Expr (.Call (.Attribute (.Name x px) name ap) es [] cp) pos) Q:=by
 intro B U A s R ⟨O,S⟩
 refine wpAny_Expr_any ?_ hi rfl
 refine MethodCall_ (S.ownAt hx hs hb fun a vs h2 h3 h4 hset=>getM_list h3 slot hty ?_) (meth_eq rfl hn hp ha.stars)
 refine callWith_of (P:=fun _=>True) (by rw [ha.noStar cp]; rfl) (fun h _=>⟨.machine,.inr (.inl rfl),.of_pure rfl⟩) (wpT (ha.args cp R S) fun a' s₁ ⟨x1,hkw,i1⟩=>⟨trivial,?_⟩)
 obtain ⟨ps,kw⟩:=a'
 cases hkw
 have S1:=S.ext x1
 have hT:a ∉ C.T:=S.nT (nnS h2)
 have l1:Lst s₁.heap a vs:=h3.kept fun o g=>x1.keep a o hT g
 have d1:=h4.ext x1 S.zt
 refine hc (Zf U O) A s₁ a vs ps _ R.zero l1 d1 i1 fun h' vs' tk hl' hd' hsb=>⟨O,_,.next,hset s₁ x1 l' vs' h' tk s₁.drawn hl' hd' hsb,trivial,hQ⟩
theorem ExS.append {x:Str} {i:Nat} {l:List D} {px ap cp pos:Pos} {e:Expr} {d:D} {Q:Fl -> Vars -> Prop}
  (hx:IsVar env.scope x i) (hs:σ[i]? = some (.own l)) (hb:(x == ("__debug__":Str)) = false) (he:Ev C k env σ e d) (hst:isStarred e = false) (hp:(ap.endLine == cp.line) = true) (hl:l.length <= 1000000)
  (hQ:Q .next (σ.set i (.own (l ++ [d])))) (hi:interactive env = false):ExS C k env σ (.Expr (.Call (.Attribute (.Name x px) "append" ap) [e] [] cp) pos) Q :=
 ExS.ownMeth (l':=l ++ [d]) (ds:=[d]) hx hs hb PySem.F.slot_list_append PySem.F.type_list_append ⟨⟨he,hst⟩,trivial⟩ (by simp) hp (fun Z A s a vs ws Q' R h1 h2 h3 hq=>by
  replace h3:=h3.iCons; obtain ⟨_,_,hqq,i1,h3⟩:=h3; cases hqq
  cases h3.iNil
  have e:=h2.length
  exact append_lst h1 (by omega) fun h' hl' hsb=>hq h' _ s.toks hl' (h2.snoc i1) hsb) hQ hi
theorem ExS.reverse {x:Str} {i:Nat} {l:List D} {px ap cp pos:Pos} {Q:Fl -> Vars -> Prop}
  (hx:IsVar env.scope x i) (hs:σ[i]? = some (.own l)) (hb:(x == ("__debug__":Str)) = false) (hp:(ap.endLine == cp.line) = true) (hl:l.length <= 1000000)
  (hQ:Q .next (σ.set i (.own l.reverse))) (hi:interactive env = false):ExS C k env σ (.Expr (.Call (.Attribute (.Name x px) "reverse" ap) [] [] cp) pos) Q :=
 ExS.ownMeth (l':=l.reverse) (ds:=[]) hx hs hb PySem.F.slot_list_reverse PySem.F.type_list_reverse trivial (by decide) hp (fun Z A s a vs ws Q' R h1 h2 h3 hq=>by
  cases h3
  have e:=h2.length
  obtain ⟨n,g⟩:=id h1
  refine call_meets PySem.F.slot_list_reverse ⟨_,g,rfl⟩ PySem.F.entry_list_reverse (PySem.F.args_list_reverse_1 _) (AutoListH.list_reverse_list_0 a vs.toArray n (by rw [sizeLine_eq]; simp; omega)) ⟨g,?_⟩
  exact hq _ _ _ (upd_lst (fun x=>x.reverse) h1) (by simpa using h2.reverse) (Heap.SameBut.update ..)) hQ hi
set_option tactic.hygienic true in
theorem ExS.insert {x:Str} {i:Nat} {l:List D} {px ap cp pos:Pos} {e1 e2:Expr} {n:Int} {d:D} {Q:Fl -> Vars -> Prop}
  (hx:IsVar env.scope x i) (hs:σ[i]? = some (.own l)) (hb:(x == ("__debug__":Str)) = false) (he1:Ev C k env σ e1 (.int n)) (he2:Ev C k env σ e2 d) (hst1:isStarred e1 = false) (hst2:isStarred e2 = false) (hp:(ap.endLine == cp.line) = true) (hl:l.length <= 1000000) (hn:-1000000 <= n /\ n <= 1000000)
  (hQ:Q .next (σ.set i (.own (insAt l n d)))) (hi:interactive env = false):ExS C k env σ (.Expr (.Call (.Attribute (.Name x px) "insert" ap) [e1,e2] [] cp) pos) Q :=
 ExS.ownMeth (l':=insAt l n d) (ds:=[.int n,d]) hx hs hb PySem.F.slot_list_insert PySem.F.type_list_insert ⟨⟨he1,hst1⟩,⟨he2,hst2⟩,trivial⟩ (by simp) hp (fun Z A s a vs ws Q' R h1 h2 h3 hq=>by
  replace h3:=h3.iCons; obtain ⟨_,_,hqq,i1,h3⟩:=h3; cases hqq
  replace h3:=h3.iCons; obtain ⟨_,_,hqq,i2,h3⟩:=h3; cases hqq
  cases h3.iNil
  cases i1
  rename_i v2 tk
  have e:=h2.length
  obtain ⟨n',g⟩:=id h1
  have hfit:Builtin.List.listFitsIndex n = true:=by simp [Builtin.List.listFitsIndex]; omega
  refine call_meets PySem.F.slot_list_insert ⟨_,g,rfl⟩ PySem.F.entry_list_insert (PySem.F.args_list_insert_3 _ _ _) (AutoListH.list_insert_list_int_val_1 a vs.toArray n' n tk v2 (by simp [hfit]) (by rw [sizeLine_eq]; simp; omega)) ⟨g,?_⟩
  refine hq _ _ _ (upd_lst _ h1) ?_ (Heap.SameBut.update ..)
  have ek:(if n < 0 then (n + ((vs.toArray.size:Nat):Int)).toNat else min n.toNat vs.toArray.size) = (if n < 0 then (n + (l.length:Int)).toNat else min n.toNat l.length):=by simp [e]
  simp only [insAt]
  rw [<- ek]
  generalize (if n < 0 then (n + ((vs.toArray.size:Nat):Int)).toNat else min n.toNat vs.toArray.size) = kk
  have:((vs.toArray.extract 0 kk).push v2 ++ vs.toArray.extract kk).toList = vs.take kk ++ v2 :: vs.drop kk:=by
   have e9:(vs.drop kk).take (vs.length - kk) = vs.drop kk:=by rw [List.take_of_length_le]; simp
   simp [List.extract_eq_take_drop,e9]
  rw [this]
  exact (h2.take kk).append (.cons i2 (h2.drop kk))) hQ hi
end
end
section
section
variable {C:Cx} {env:Env} {σ:Vars} {k:Nat}
variable {B:Base} {U:Addr -> Prop} {O O':Own} {s s₁ s':Shared} {h':Heap}
theorem setItem_lst {prog:Program} {w:World} {E:Value -> Shared -> Prop} {A:Around} {l:Addr} {items:Array Value} {n:Nat} {k:Int} {t:Tok} {v:Value} {Q:Unit -> Shared -> Prop} (ho:s.heap.get? l = some { cls:=.type "list",data:=.seq items n }) (h0:0 <= k) (hj:k < items.size) (hfit:k < 2 ^ 63)
  (hQ:Q () { s with heap:=s.heap.update l (Obj.mapSeq (·.setIfInBounds k.toNat v)) }):wpAny (model prog w) A (setItem (.ref l) (.int k t) v) Q E s:=by
 have hT:s.TypeIs (.ref l) "list":=⟨_,ho,rfl⟩
 unfold setItem
 try with_reducible refine wpAny_holding ?_
 first | refine wpAny_bind (wpAny_pure ?_) | skip
 refine wpAny_bind (wpAny_sequenceKey hT (by decide) ?_)
 refine wpAny_bind (wpAny_callSpecial?_slot (name:=Str.ofString "__setitem__") hT slot_list_setitem
  (wpAny_call_entry slot_list_setitem hT entry_list_setitem ?_ (args_list_setitem _ _ _)))
 show wpAny _ _ (Builtin.List.listSubscript? (.int k t) >>= _) _ _ s
 refine wpAny_bind (wpAny_listSubscript_int (fitsIndex_of h0 hfit) ?_)
 clear hfit
 obtain ⟨j,rfl⟩:=Int.eq_ofNat_of_zero_le h0
 have hj':j < items.size:=by omega
 have hx':items[j]? = some items[j]:=Array.getElem?_eq_getElem hj'
 show wpAny _ _ ((seqItemAt l j >>= fun r=>pure (r.map (j,·))) >>= _) _ _ s
 refine wpAny_bind (wpAny_bind (wpAny_seqItemAt ho rfl (wpAny_pure ?_)))
 rw [hx']
 show wpAny _ _ (setSeqItemAt l j v >>= _) _ _ s
 refine wpAny_bind (wpAny_setSeqItemAt ho rfl ?_)
 first
  | exact wpAny_bind (wpAny_pure (wpAny_pure ⟨.none,rfl,wpAny_pure hQ⟩))
  | exact wpAny_pure ⟨.none,rfl,wpAny_pure hQ⟩
theorem ExS.setItem {x:Str} {i:Nat} {l:List D} {px sp pos:Pos} {e ix:Expr} {d:D} {n:Int} {Q:Fl -> Vars -> Prop}
  (hx:IsVar env.scope x i) (hs:σ[i]? = some (.own l)) (hb:(x == ("__debug__":Str)) = false) (he:Ev C k env σ e d) (hi:Ev C k env σ ix (.int n)) (h0:0 <= n) (h1:n < l.length) (hl:l.length <= 1000000)
  (hQ:Q .next (σ.set i (.own (l.set n.toNat d)))) (hsw:swapsWith e (some (.Subscript (.Name x px) ix sp)) pos.line env = pure false):ExS C k env σ (.Assign [.Subscript (.Name x px) ix sp] e pos) Q:=by
 intro B U A s R ⟨O,S⟩
 refine wpAny_Assign_Subscript (wpT (he B U O A s R S) fun v s₁ hZ2=>?_) hsw; obtain ⟨x1,i1⟩:=hZ2
 have S1:=S.ext x1
 refine S1.ownAt hx hs hb fun a vs h2 h3 h4 hset=>wpT (hi B U O A s₁ R S1) fun iv s₂ hZ2=>?_; obtain ⟨x2,i2⟩:=hZ2
 cases i2
 have S2:=S1.ext x2
 have l1:Lst s₂.heap a vs:=h3.kept fun o g=>x2.keep a o (S.nT (nnS h2)) g
 have d1:=h4.ext x2 S.zt
 have elen:=h4.length
 obtain ⟨n',g⟩:=id l1
 refine setItem_lst g h0 (by simp; omega) (by omega) ⟨O,_,.next,hset s₂ x2 _ _ _ s₂.toks s₂.drawn (upd_lst (fun xs=>xs.setIfInBounds n.toNat v) l1) ?_ (Heap.SameBut.update ..),trivial,hQ⟩
 simpa using d1.set (i1.ext x2 S.zt) n.toNat
theorem ExS.delItem {x:Str} {i:Nat} {l:List D} {px sp pos:Pos} {ix:Expr} {n:Int} {j:Nat} {Q:Fl -> Vars -> Prop}
  (hx:IsVar env.scope x i) (hs:σ[i]? = some (.own l)) (hb:(x == ("__debug__":Str)) = false) (hi:Ev C k env σ ix (.int n)) (hn:-1000000 <= n /\ n <= 1000000) (hj:seqIndex? n l.length = some j) (hl:l.length <= 1000000)
  (hQ:Q .next (σ.set i (.own (l.eraseIdx j)))):ExS C k env σ (.Delete [.Subscript (.Name x px) ix sp] pos) Q:=by
 intro B U A s R ⟨O,S⟩
 refine wpAny_Delete (wpAny_deleteEach_cons (wpAny_delete_Subscript ?_))
 refine S.ownAt hx hs hb fun a vs h2 h3 h4 hset=>wpT (hi B U O A s R S) fun iv s₂ hZ2=>?_; obtain ⟨x2,i2⟩:=hZ2
 cases i2
 have l1:Lst s₂.heap a vs:=h3.kept fun o g=>x2.keep a o (S.nT (nnS h2)) g
 have d1:=h4.ext x2 S.zt
 have elen:=h4.length
 obtain ⟨n',g⟩:=id l1
 refine PySem.P.delItem_list g (by simp [Builtin.List.listFitsIndex]; omega) (by simpa [elen] using hj) (wpAny_deleteEach_nil ⟨O,_,.next,hset s₂ x2 _ _ _ s₂.toks s₂.drawn (upd_lst (fun xs=>xs.eraseIdxIfInBounds j) l1) ?_ (Heap.SameBut.update ..),trivial,hQ⟩) (by rw [sizeLine_eq]; simp; omega)
 have:(vs.toArray.eraseIdxIfInBounds j).toList = vs.eraseIdx j:=by simp
 rw [this]
 exact d1.erase j
theorem ExS.while_ {c:Expr} {body:List Stmt} {pos:Pos} {Q:Fl -> Vars -> Prop} (J:Nat -> Vars -> Prop) (n:Nat) (h0:J n σ)
  (turn:∀ n σ₁,J n σ₁ -> ∃ b,Te C k env σ₁ c b /\ (b = true -> Ex C k env σ₁ body fun fl σ₂=>match fl with
   | .next | .cont=>∃ m,m < n /\ J m σ₂
   | .brk=>Q .next σ₂
   | .ret d=>Q (.ret d) σ₂) /\ (b = false -> Q .next σ₁)):ExS C k env σ (.While c body [] pos) Q:=by
 intro B U A s R ⟨O,S⟩
 refine wpAny_While (codeAny_whileLoop (fun n s'=>∃ O' σ',SimO C B U O' env σ' s' /\ J n σ') (fun n s₁ hZ2=>?_) n ⟨O,σ,S,h0⟩); obtain ⟨O₁,σ₁,S₁,hJ⟩:=hZ2
 obtain ⟨b,h1,h2,h3⟩:=turn n σ₁ hJ
 refine wpAny_mono (h1 B U O₁ A s₁ R S₁) (fun v s₂ hZ2=>?_) fun _ _ f=>f.elim; obtain ⟨x2,e⟩:=hZ2
 subst e
 cases v with
 | true =>
  refine wpAny_mono (h2 rfl B U A s₂ R ⟨O₁,S₁.ext x2⟩) (fun f s₃ hZ2=>?_) fun _ _ f=>f.elim; obtain ⟨O₃,σ₃,fl,S₃,hf,hq⟩:=hZ2
  cases f <;> cases fl <;> first
   | exact hf.elim
   | exact let ⟨m,h,j⟩:=hq; ⟨m,h,O₃,σ₃,S₃,j⟩
   | exact ⟨O₃,σ₃,.next,S₃,trivial,hq⟩
   | exact ⟨O₃,σ₃,_,S₃,hf,hq⟩
 | false=>exact wpAny_execs_nil ⟨O₁,σ₁,.next,S₁.ext x2,trivial,h3 rfl⟩
end
end
section
inductive St where
 | asg (i:Nat) (e:E) | asgC (i:Nat) (e:E) | asgO (i:Nat) (e:E)
 | two (i j:Nat) (e:E) | twoD (i j:Nat) (e:E) | three (i j l:Nat) (e:E)
 | aug (i:Nat) (op:Operator) (e:E)
 | ret (e:E)
 | if_ (c:T) (a b:List St)
 | for_ (tg:Tg) (it:It) (body:List St)
 | while_ (n:Nat) (c:T) (body:List St)
 | asrt (c:T) | brk
 | app (i:Nat) (e:E) | rev (i:Nat)
 | ins (i:Nat) (a b:E)
 | set (i:Nat) (ix e:E) | del (i:Nat) (ix:E)
 | frz (i:Nat)
 | bad
noncomputable def frzAll (σ:Vars):Vars:=σ.map (frzA true)
noncomputable def frz1 (i:Nat) (σ:Vars):Vars:=match σ[i]? with
 | some (.own l)=>σ.set i (.d (.lst l))
 | _=>σ
noncomputable def evX (g:G) (σ:Vars) (e:E):Option D:=match evE g e σ with
 | some d=>some d
 | none=>match evE g e (frzAll σ) with
  | some d=>if d.atom = true then some d else none
  | none=>none
noncomputable def evXT (g:G) (σ:Vars) (t:T):Option Bool:=match evT g t σ with
 | some d=>some d
 | none=>evT g t (frzAll σ)
noncomputable def evF (g:G) (σ:Vars):E -> Option (List D)
 | .lst l=>match evL g l σ with
  | some ds=>if ds.length <= 1000000 then some ds else none
  | none=>none
 | .bin .Add a b=>match evE g a σ,evE g b σ with
  | some (.lst x),some (.lst y)=>if x.length + y.length <= 1000000 then some (x ++ y) else none
  | _,_=>none
 | .meth 8 o l=>match evE g o σ,evL g l σ with
  | some (.str x),some [.str y]=>(splitD x y).map fun r=>r.map .str
  | _,_=>none
 | _=>none
noncomputable def loopF (body:D -> Vars -> Option (Fl × Vars)):List D -> Vars -> Option (Fl × Vars)
 | [],σ=>some (.next,σ)
 | d :: ds,σ=>match body d σ with
  | some (.next,σ')=>loopF body ds σ'
  | some (.cont,σ')=>loopF body ds σ'
  | some (.brk,σ')=>some (.next,σ')
  | some (.ret r,σ')=>some (.ret r,σ')
  | none=>none
noncomputable def whileF (c:Vars -> Option Bool) (body:Vars -> Option (Fl × Vars)):Nat -> Vars -> Option (Fl × Vars)
 | 0,_=>none
 | n + 1,σ=>match c σ with
  | some false=>some (.next,σ)
  | some true=>match body σ with
   | some (.next,σ')=>whileF c body n σ'
   | some (.cont,σ')=>whileF c body n σ'
   | some (.brk,σ')=>some (.next,σ')
   | some (.ret r,σ')=>some (.ret r,σ')
   | none=>none
  | none=>none
noncomputable def getO (σ:Vars) (i:Nat):Option (List D):=match σ[i]? with
 | some (.own l)=>some l
 | _=>none
noncomputable def putV (ks:List NameKind) (σ:Vars) (i:Nat) (av:AV):Option Vars:=if stoB ks σ i = true then some (σ.set i av) else none
noncomputable def iop (op:Operator) (a b:D):Option D:=iI a b fun x y=>match op with
 | .Add=>some (.int (x + y))
 | .Sub=>some (.int (x - y))
 | _=>none
noncomputable def smallI (n:Int):Bool:=decide (-1000000 <= n) && decide (n <= 1000000)
mutual
noncomputable def evS (g:G) (ks:List NameKind):St -> Vars -> Option (Fl × Vars)
 | .asg i e,σ=>match evX g σ e with
  | some d=>(putV ks σ i (.d d)).map fun σ'=>(.next,σ')
  | none=>none
 | .asgC i e,σ=>match evE g e σ with
  | some d=>(putV ks σ i (.d d)).map fun σ'=>(.next,σ')
  | none=>none
 | .asgO i e,σ=>match evF g σ e with
  | some l=>(putV ks σ i (.own l)).map fun σ'=>(.next,σ')
  | none=>none
 | .two i j e,σ=>match evE g e σ with
  | some d=>(setT ks σ (.two i j) d).map fun σ'=>(.next,σ')
  | none=>none
 | .twoD i j e,σ=>match evE g e σ with
  | some (.tup [a,b])=>(setT ks σ (.two j i) (.tup [b,a])).map fun σ'=>(.next,σ')
  | _=>none
 | .three i j l e,σ=>match evE g e σ with
  | some d=>match setT ks σ (.one i) d with
   | some σ₁=>match setT ks σ₁ (.one j) d with
    | some σ₂=>(setT ks σ₂ (.one l) d).map fun σ'=>(.next,σ')
    | none=>none
   | none=>none
  | none=>none
 | .aug i op e,σ=>match σ[i]?,evX g σ e with
  | some (.d a),some b=>match iop op a b with
   | some d=>(putV ks σ i (.d d)).map fun σ'=>(.next,σ')
   | none=>none
  | _,_=>none
 | .ret e,σ=>match evE g e (frzAll σ) with
  | some d=>some (.ret d,frzAll σ)
  | none=>none
 | .if_ c a b,σ=>match evXT g σ c with
  | some true=>evB g ks a σ
  | some false=>evB g ks b σ
  | none=>none
 | .for_ tg it body,σ=>match evI g it σ with
  | some items=>loopF (fun d σ'=>match setT ks σ' tg d with
   | some σ₂=>evB g ks body σ₂
   | none=>none) items σ
  | none=>none
 | .while_ n c body,σ=>whileF (fun σ'=>evXT g σ' c) (fun σ'=>evB g ks body σ') n σ
 | .asrt c,σ=>match evXT g σ c with
  | some true=>some (.next,σ)
  | _=>none
 | .brk,σ=>some (.brk,σ)
 | .app i e,σ=>match getO σ i,evX g σ e with
  | some l,some d=>if l.length <= 1000000 then some (.next,σ.set i (.own (l ++ [d]))) else none
  | _,_=>none
 | .rev i,σ=>match getO σ i with
  | some l=>if l.length <= 1000000 then some (.next,σ.set i (.own l.reverse)) else none
  | none=>none
 | .ins i a e,σ=>match getO σ i,evX g σ a,evX g σ e with
  | some l,some (.int n),some d=>if l.length <= 1000000 /\ smallI n = true then some (.next,σ.set i (.own (insAt l n d))) else none
  | _,_,_=>none
 | .set i a e,σ=>match getO σ i,evX g σ a,evX g σ e with
  | some l,some (.int n),some d=>if l.length <= 1000000 /\ 0 <= n /\ n < l.length then some (.next,σ.set i (.own (l.set n.toNat d))) else none
  | _,_,_=>none
 | .del i a,σ=>match getO σ i,evX g σ a with
  | some l,some (.int n)=>match seqIndex? n l.length with
   | some j=>if l.length <= 1000000 /\ smallI n = true then some (.next,σ.set i (.own (l.eraseIdx j))) else none
   | none=>none
  | _,_=>none
 | .frz i,σ=>none
 | .bad,σ=>none
noncomputable def evB (g:G) (ks:List NameKind):List St -> Vars -> Option (Fl × Vars)
 | [],σ=>some (.next,σ)
 | .frz i :: ss,σ=>evB g ks ss (frz1 i σ)
 | s :: ss,σ=>match evS g ks s σ with
  | some (.next,σ')=>evB g ks ss σ'
  | some (fl,σ')=>some (fl,σ')
  | none=>none
end
noncomputable def notComp (e:Expr):Bool:=e.ctorIdx != 8 && e.ctorIdx != 9 && e.ctorIdx != 10
noncomputable def isLC (e:Expr):Bool:=kListComp e fun _ _ _ _=>true
noncomputable def kd (sc:Scope) (i:Nat) (k:NameKind):Bool:=match sc.names[i]? with
 | some (_,k')=>k' == k
 | none=>false
noncomputable def notDisp (e:Expr):Bool:=e.ctorIdx != 25
noncomputable def plainEs:List Expr -> Bool
 | es=>!(es.any fun | .Starred ..=>true | _=>false) && !(es.all (foldedForSure 8)) && !(es.all (constantsAlone 8))
mutual
noncomputable def repS (nm:Nat -> Str) (sc:Scope) (ir:St) (s:Stmt):Bool:=match ir with
 | .asg i e=>sAs1 s fun x _ v _=>vr sc i x && (notComp v || (isLC v && kd sc i .cell)) && repE nm sc e v
 | .asgC i e=>sAs1 s fun x px v p=>kListComp v fun el gs scope cp=>vr sc i x && kd sc i .local && px.line == cp.line && !(scope.names.any fun (n,k)=>n == x && (k == .local || k == .cell)) && repE nm sc e (.ListComp el gs scope cp)
 | .asgO i e=>sAs1 s fun x _ v _=>vr sc i x && notComp v && repE nm sc e v
 | .two i j e=>sAs2 s fun x _ y _ v=>vr sc i x && vr sc j y && notComp v && notDisp v && repE nm sc e v
 | .twoD i j e=>sAs2 s fun x px y py v=>kTuple v fun vs n tp=>k2 vs fun a b=>vr sc i x && vr sc j y && kd sc i .local && kd sc j .local && py.line == px.line && !(x == y) && plainEs [a,b] && repE nm sc e (.Tuple [a,b] n tp)
 | .three i j l e=>sAssign s fun ts v _=>k3 ts fun a b c=>kName a fun x _=>kName b fun y _=>kName c fun z _=>vr sc i x && vr sc j y && vr sc l z && repE nm sc e v
 | .aug i op e=>sAugAssign s fun t o v _=>kName t fun x _=>vr sc i x && op == o && repE nm sc e v
 | .ret e=>sReturn s fun v _=>kSome v fun v=>repE nm sc e v
 | .if_ c a b=>sIf s fun t x y _=>repT nm sc c t && repB nm sc a x && repB nm sc b y
 | .for_ tg it body=>sFor s fun t i b o _=>kNil o && (repTg sc tg t && repI nm sc it i && repB nm sc body b)
 | .while_ n c body=>sWhile s fun t b o _=>kNil o && (repT nm sc c t && repB nm sc body b)
 | .asrt c=>sAssert s fun t m _=>m.isNone && repT nm sc c t
 | .brk=>sBreak s fun _=>true
 | .app i e=>sMt s fun x m ap es cp=>k1 es fun v=>vr sc i x && m == ("append":Str) && !isStarred v && ap.endLine == cp.line && repE nm sc e v
 | .rev i=>sMt s fun x m ap es cp=>kNil es && (vr sc i x && m == ("reverse":Str) && ap.endLine == cp.line)
 | .ins i a e=>sMt s fun x m ap es cp=>k2 es fun u v=>vr sc i x && m == ("insert":Str) && !isStarred u && !isStarred v && ap.endLine == cp.line && repE nm sc a u && repE nm sc e v
 | .set i a e=>sAssign s fun ts v _=>k1 ts fun t=>kSubscript t fun o u _=>kName o fun x _=>vr sc i x && notComp v && repE nm sc a u && repE nm sc e v
 | .del i a=>sDelete s fun ts _=>k1 ts fun t=>kSubscript t fun o u _=>kName o fun x _=>vr sc i x && repE nm sc a u
 | .frz _=>false
 | .bad=>true
noncomputable def repB (nm:Nat -> Str) (sc:Scope) (irs:List St) (ss:List Stmt):Bool:=match irs with
 | []=>kNil ss
 | .frz _ :: irs=>repB nm sc irs ss
 | ir :: irs=>kCons ss fun s ss=>repS nm sc ir s && repB nm sc irs ss
end
end
section
theorem frzAll_eq {σ:Vars}:frzAll σ = frzP (fun _=>true) σ:=by
 unfold frzAll frzP
 apply List.ext_getElem?
 intro n
 rw [List.getElem?_map,List.getElem?_mapIdx]
set_option tactic.hygienic true in
theorem frz1_eq {σ:Vars} {i:Nat}:frz1 i σ = frzP (fun j=>j == i) σ:=by
 have key:∀ n,(frzP (fun j=>j == i) σ)[n]? = (σ[n]?).map (frzA (n == i)):=fun n=>by unfold frzP; rw [List.getElem?_mapIdx]
 have idf:∀ av:AV,frzA false av = av:=fun av=>by cases av <;> rfl
 apply List.ext_getElem?
 intro n
 rw [key]
 unfold frz1
 split
 ·rename_i l q
  by_cases e:i = n
  ·subst e
   have:=(List.getElem?_eq_some_iff.mp q).1
   rw [List.getElem?_set_self this,q]
   simp [frzA]
  ·rw [List.getElem?_set_ne e]
   have:(n == i) = false:=by simpa using fun h=>e h.symm
   rw [this]
   cases σ[n]? with
   | none=>rfl
   | some av=>simp [idf]
 ·rename_i q
  by_cases e:i = n
  ·subst e
   cases r:σ[i]? with
   | none=>rfl
   | some av =>
    cases av with
    | own l=>exact absurd r (q l)
    | _=>simp [frzA]
  ·have:(n == i) = false:=by simpa using fun h=>e h.symm
   rw [this]
   cases σ[n]? with
   | none=>rfl
   | some av=>simp [idf]
section
variable {C:Cx} {k:Nat} {g:G} {nm:Nat -> Str} {env:Env} {sc:Scope} {σ:Vars}
theorem evX_s (H:Gd C k g nm) (hA:AtSc env sc) {ir:E} {e:Expr} {d:D} (hr:repE nm sc ir e = true) (he:evX g σ ir = some d):Ev C k env σ e d:=by
 cases q:evE g ir σ with
 | some x=>rw [evX,q] at he; cases he; exact evE_s H ir hA hr q
 | none =>
  rw [evX,q] at he
  exact mD he fun x q2 he=>ite_t he fun ha he=>by cases he; exact EvP.thaw (fun _=>true) (by rw [<- frzAll_eq]; exact evE_s H ir hA hr q2) ha
theorem evXT_s (H:Gd C k g nm) (hA:AtSc env sc) {ir:T} {e:Expr} {d:Bool} (hr:repT nm sc ir e = true) (he:evXT g σ ir = some d):Te C k env σ e d:=by
 cases q:evT g ir σ with
 | some x=>rw [evXT,q] at he; cases he; exact evT_s H ir hA hr q
 | none=>rw [evXT,q] at he; exact EvT.thaw (fun _=>true) (by rw [<- frzAll_eq]; exact evT_s H ir hA hr he)
theorem EvF.split {o e:Expr} {ap pos:Pos} {x y:Str} {r:List Str} (ho:Ev C k env σ o (.str x)) (he:Ev C k env σ e (.str y)) (hst:isStarred e = false) (hb:baseOk o = true) (hp:(ap.endLine == pos.line) = true) (h:splitD x y = some r) :
  EvF C k env σ (eval (.Call (.Attribute o "split" ap) [e] [] pos) env) (r.map .str):=by
 intro B U O A s R S
 have L:EvL C k env σ [e] [.str y]:=⟨⟨he,hst⟩,trivial⟩
 refine MethodCall_ (wpT (ho B U O A s R S) fun v s₁ hZ2=>?_) (meth_eq hb (by simp) hp L.stars); obtain ⟨x1,i1⟩:=hZ2
 have S1:=S.ext x1
 refine wpT (MethOf.str PySem.F.slot_str_split PySem.F.type_str_split (Zf U O) A s₁ v _ S1.ok i1) fun fx s₂ hZ2=>?_; obtain ⟨e1,e2⟩:=hZ2
 subst e1 e2
 refine callWith_of (P:=fun _=>True) (by rw [L.noStar pos]; rfl) (fun h _=>⟨.machine,.inr (.inl rfl),.of_pure rfl⟩) (wpT (L.args pos R S1) fun a' s₃ ⟨x3,hkw,i3⟩=>⟨trivial,?_⟩)
 obtain ⟨ps,kw⟩:=a'
 cases hkw
 have S3:=S1.ext x3
 exact wpT (FSpec.split h _ A s₃ (v :: ps) R S3.ok S3.zok (.cons (i1.ext x3 S.zt) i3)) fun v s₄ ⟨x4,a,ws,e,fr,h1,h2⟩=>⟨(x1.trans x3).trans x4,a,ws,e,(x1.trans x3).fresh' fr,h1,h2⟩
theorem mll {γ:Type} {d:γ} {P:Prop} {o o2:Option D} {f:List D -> List D -> Option γ} (h:(match o,o2 with | some (.lst x),some (.lst y)=>f x y | _,_=>none) = some d) (k:∀ x y,o = some (.lst x) -> o2 = some (.lst y) -> f x y = some d -> P):P:=by
 cases o with
 | none=>cases h
 | some b=>cases b with
  | lst x=>cases o2 with
   | none=>cases h
   | some b=>cases b with
    | lst n=>exact k x n rfl rfl h
    | _=>cases h
  | _=>cases h
theorem mss {γ:Type} {d:γ} {P:Prop} {o:Option D} {o2:Option (List D)} {f:Str -> Str -> Option γ} (h:(match o,o2 with | some (.str x),some [.str y]=>f x y | _,_=>none) = some d) (k:∀ x y,o = some (.str x) -> o2 = some [.str y] -> f x y = some d -> P):P:=by
 cases o with
 | none=>cases h
 | some b=>cases b with
  | str x=>cases o2 with
   | none=>cases h
   | some b=>cases b with
    | nil=>cases h
    | cons y ys=>cases ys with
     | nil=>cases y with
      | str y=>exact k x y rfl rfl h
      | _=>cases h
     | cons _ _=>cases y <;> cases h
  | _=>cases h
theorem evF_s (H:Gd C k g nm) (hA:AtSc env sc) {ir:E} {e:Expr} {l:List D} (hr:repE nm sc ir e = true) (he:evF g σ ir = some l):EvF C k env σ (eval e env) l:=by
 cases ir with
 | lst l=>exact kList_t (e:=e) hr fun es p hr=>mL he fun ds q he=>ite_t he fun hl he=>by cases he; exact EvF.list (evL_s H _ hA hr q) hl
 | bin op a b =>
  cases op with
  | Add =>
   exact kBinOp_t (e:=e) hr fun l o r p hr=>and3 hr fun h0 h1 h2=>mll he fun x y q1 q2 he=>ite_t he fun hl he=>by
    cases eq_of_beq h0; cases he; exact EvF.addL (evE_s H _ hA h1 q1) (evE_s H _ hA h2 q2) hl
  | _=>cases he
 | meth m o l' =>
  by_cases hm:m = 8
  ·subst hm
   exact kCall_t (e:=e) hr fun h es kw p hr=>and2 hr fun h0 hr=>kNil_t (l:=kw) h0 <| kAttribute_t (e:=h) hr fun v name ap hr=>and6 hr fun h0 h1 h2 h3 h4 h5=>mss he fun x y q1 q2 he=>map_t he fun r q he=>by
    cases eq_of_beq h0
    cases he
    have L:=evL_s H _ hA h5 q2
    match es,L with
    | [e1],L=>exact EvF.split (evE_s H _ hA h4 q1) L.1.1 L.1.2 h1 h3 q
    | [],L=>exact L.elim
    | _ :: _ :: _,L=>exact L.2.elim
  ·match m,hm,he with
   | 0,_,he | 1,_,he | 2,_,he | 3,_,he | 4,_,he | 5,_,he | 6,_,he | 7,_,he | _ + 9,_,he=>cases he
   | 8,hm,_=>exact absurd rfl hm
 | _=>cases he
theorem kd_kind (hE:EnvOk env) (hA:AtSc env sc) {i:Nat} {x:Str} {kk:NameKind} (hv:vr sc i x = true) (hk:kd sc i kk = true) (hf:kk ≠ .free):env.kindOf x = some kk:=by
 unfold vr at hv
 unfold kd at hk
 rw [Bool.and_eq_true,Bool.and_eq_true] at hv
 cases q:sc.names[i]? with
 | none=>rw [q] at hk; cases hk
 | some p =>
  obtain ⟨y,k'⟩:=p
  rw [q] at hk hv
  have e1:=eq_of_beq hk
  have e2:=eq_of_beq hv.1.1
  subst e1 e2
  obtain ⟨k'',e,h1,_⟩:=hA.get q
  rw [h1 hf] at e
  exact lookup_of_get hE.nodup e
theorem swaps_no {e:Expr} {t:Option Expr} {x:Expr} {line:Nat} (h:notComp e = true):swapsWith e (some x) line env = pure false:=by
 cases e <;> first | rfl | cases h
theorem swaps_cell (hE:EnvOk env) (hA:AtSc env sc) {i:Nat} {x:Str} {px:Pos} {e:Expr} {line:Nat} (h:(notComp e || (isLC e && kd sc i .cell)) = true) (hv:vr sc i x = true):swapsWith e (some (.Name x px)) line env = pure false:=by
 rw [Bool.or_eq_true,Bool.and_eq_true] at h
 rcases h with h | ⟨h1,h2⟩
 ·exact swaps_no (t:=none) h
 ·have hk:=kd_kind hE hA hv h2 (by decide)
  cases e with
  | ListComp el gs scope cp =>
   have e0:swapsWith (.ListComp el gs scope cp) (some (.Name x px)) line env = pure ((env.blockKind == .function) && (env.kindOf x == some .local) && px.line == cp.line && !(scope.names.any fun (n,k)=>n == x && (k == .local || k == .cell))):=rfl
   rw [e0,hk]
   cases env.blockKind == .function <;> rfl
  | _=>cases h1
theorem swaps_yes (hE:EnvOk env) (hA:AtSc env sc) {i:Nat} {x:Str} {px cp:Pos} {el:Expr} {gs:List Comprehension} {scope:Scope} {line:Nat} (hv:vr sc i x = true) (hk:kd sc i .local = true) (hl:(px.line == cp.line) = true)
  (hn:(!(scope.names.any fun (n,k)=>n == x && (k == .local || k == .cell))) = true):swapsWith (.ListComp el gs scope cp) (some (.Name x px)) line env = pure true:=by
 have hk':=kd_kind hE hA hv hk (by decide)
 have hb:env.blockKind = .function:=by unfold Env.blockKind; rw [hE.kind]; rfl
 have hl':(px.line == (Expr.ListComp el gs scope cp).pos.line) = true:=hl
 have e0:swapsWith (.ListComp el gs scope cp) (some (.Name x px)) line env = pure ((env.blockKind == .function) && (env.kindOf x == some .local) && px.line == cp.line && !(scope.names.any fun (n,k)=>n == x && (k == .local || k == .cell))):=rfl
 rw [e0,hk',hb,hl,hn]
 rfl
theorem names2 {F:Expr -> Option Str} {a b:Expr} {x y:Str} (h1:F a = some x) (h2:F b = some y):List.filterMap F [a,b] = [x,y]:=by
 rw [List.filterMap_cons_some h1,List.filterMap_cons_some h2,List.filterMap_nil]
theorem swapped_eq (hE:EnvOk env) {x y:Str} {px py tp tp':Pos} {n m:Nat} {a b:Expr} (h1:env.kindOf x = some .local) (h2:env.kindOf y = some .local) (hl:(py.line == px.line) = true) (hxy:(x == y) = false) (hp:plainEs [a,b] = true) :
  swappedStores [.Tuple [.Name x px,.Name y py] n tp] (.Tuple [a,b] m tp') env = pure (some [x,y]):=by
 have hb:env.blockKind = .function:=by unfold Env.blockKind; rw [hE.kind]; rfl
 unfold plainEs at hp
 refine and3 hp fun p1 p2 p3=>?_
 have hl':py.line = px.line:=eq_of_beq hl
 have hd:[x,y].eraseDups = [x,y]:=by
  have:(y == x) = false:=by rw [beq_eq_false_iff_ne] at hxy ⊢; exact fun q=>hxy q.symm
  simp [List.eraseDups_cons,this]
 have c1:∀ b:Bool,(!b) = true -> b = false:=fun b h=>by cases b <;> first | rfl | cases h
 delta swappedStores
 dsimp only
 rw [names2 (if_pos (by rw [h1]; exact beq_self_eq_true px.line)) (if_pos (by rw [h2]; exact hl))]
 exact (if_neg (by rw [hb]; exact Bool.false_ne_true)).trans <| (if_neg fun q=>Bool.false_ne_true ((c1 _ p1).symm.trans q)).trans <| (if_neg (by rw [hd]; exact Bool.false_ne_true)).trans <| (if_neg fun q=>Bool.false_ne_true ((c1 _ p2).symm.trans q)).trans (if_neg fun q=>Bool.false_ne_true ((c1 _ p3).symm.trans q))
end
end
section
noncomputable abbrev Fin1 (fl:Fl) (σ':Vars):Fl -> Vars -> Prop:=fun f v=>f = fl /\ v = σ'
theorem putV_some {ks:List NameKind} {σ σ':Vars} {i:Nat} {av:AV} (h:putV ks σ i av = some σ'):stoB ks σ i = true /\ σ' = σ.set i av:=by
 exact ite_t h fun a b=>by cases b; exact ⟨a,rfl⟩
theorem getO_some {σ:Vars} {i:Nat} {l:List D} (h:getO σ i = some l):σ[i]? = some (.own l):=by
 unfold getO at h
 split at h
 ·cases h; assumption
 ·cases h
section
variable {C:Cx} {k:Nat} {g:G} {nm:Nat -> Str} {env:Env} {sc:Scope}
theorem iop_s {op:Operator} {a b d:D} (h:iop op a b = some d):Op2 C (inplaceOp op) a b d:=by
 refine iI_t (a:=a) (b:=b) h fun x y h=>?_
 cases op with
 | Add=>cases h; exact Op2.iadd
 | Sub=>cases h; exact Op2.isub
 | _=>cases h
theorem map_next {o:Option Vars} {fl:Fl} {σ':Vars} (h:(o.map fun s=>(Fl.next,s)) = some (fl,σ')):fl = .next /\ o = some σ':=by
 cases o with
 | none=>cases h
 | some v=>cases h; exact ⟨rfl,rfl⟩
theorem notInter (hE:EnvOk env):interactive env = false:=by unfold interactive; rw [hE.kind]; rfl
theorem mV {γ:Type} {d:γ} {P:Prop} {o:Option Vars} {f:Vars -> Option γ} (h:(match o with | some x=>f x | none=>none) = some d) (k:∀ x,o = some x -> f x = some d -> P):P:=by
 cases o with
 | none=>cases h
 | some x=>exact k x rfl h
theorem mN {γ:Type} {d:γ} {P:Prop} {o:Option Nat} {f:Nat -> Option γ} (h:(match o with | some x=>f x | none=>none) = some d) (k:∀ x,o = some x -> f x = some d -> P):P:=by
 cases o with
 | none=>cases h
 | some x=>exact k x rfl h
theorem mt2 {γ:Type} {d:γ} {P:Prop} {o:Option D} {f:D -> D -> Option γ} (h:(match o with | some (.tup [a,b])=>f a b | _=>none) = some d) (k:∀ a b,o = some (.tup [a,b]) -> f a b = some d -> P):P:=by
 cases o with
 | none=>cases h
 | some x=>cases x with
  | tup l=>match l,h with
   | [a,b],h=>exact k a b rfl h
   | [],h=>cases h
   | [_],h=>cases h
   | _ :: _ :: _ :: _,h=>cases h
  | _=>cases h
theorem mAD {γ:Type} {d:γ} {P:Prop} {o:Option AV} {o2:Option D} {f:D -> D -> Option γ} (h:(match o,o2 with | some (.d a),some b=>f a b | _,_=>none) = some d) (k:∀ a b,o = some (.d a) -> o2 = some b -> f a b = some d -> P):P:=by
 cases o with
 | none=>cases h
 | some x=>cases x with
  | d a=>cases o2 with
   | none=>cases h
   | some y=>exact k a y rfl rfl h
  | _=>cases h
theorem mBt {γ:Type} {d:γ} {P:Prop} {o:Option Bool} {x:Option γ} (h:(match o with | some true=>x | _=>none) = some d) (k:o = some true -> x = some d -> P):P:=by
 cases o with
 | none=>cases h
 | some b=>cases b with
  | true=>exact k rfl h
  | false=>cases h
theorem mLD {γ:Type} {d:γ} {P:Prop} {o:Option (List D)} {o2:Option D} {f:List D -> D -> Option γ} (h:(match o,o2 with | some x,some y=>f x y | _,_=>none) = some d) (k:∀ x y,o = some x -> o2 = some y -> f x y = some d -> P):P:=by
 cases o with
 | none=>cases h
 | some x=>cases o2 with
  | none=>cases h
  | some y=>exact k x y rfl rfl h
theorem mLi {γ:Type} {d:γ} {P:Prop} {o:Option (List D)} {o2:Option D} {f:List D -> Int -> Option γ} (h:(match o,o2 with | some x,some (.int n)=>f x n | _,_=>none) = some d) (k:∀ x n,o = some x -> o2 = some (.int n) -> f x n = some d -> P):P:=by
 cases o with
 | none=>cases h
 | some x=>cases o2 with
  | none=>cases h
  | some y=>cases y with
   | int n=>exact k x n rfl rfl h
   | _=>cases h
theorem mLiD {γ:Type} {d:γ} {P:Prop} {o:Option (List D)} {o2 o3:Option D} {f:List D -> Int -> D -> Option γ} (h:(match o,o2,o3 with | some x,some (.int n),some y=>f x n y | _,_,_=>none) = some d) (k:∀ x n y,o = some x -> o2 = some (.int n) -> o3 = some y -> f x n y = some d -> P):P:=by
 cases o with
 | none=>cases h
 | some x=>cases o2 with
  | none=>cases h
  | some y=>cases y with
   | int n=>cases o3 with
    | none=>cases h
    | some z=>exact k x n z rfl rfl rfl h
   | _=>cases h
theorem smallI_t {n:Int} (h:smallI n = true):-1000000 <= n /\ n <= 1000000:=⟨of_decide_eq_true (and_t h).1,of_decide_eq_true (and_t h).2⟩
@[elab_as_elim] theorem put_t {ks:List NameKind} {σ σ':Vars} {i:Nat} {av:AV} {fl:Fl} {P:Fl -> Vars -> Prop} (h:((putV ks σ i av).map fun v=>(Fl.next,v)) = some (fl,σ')) (k:stoB ks σ i = true -> P .next (σ.set i av)):P fl σ':=by
 obtain ⟨rfl,hp⟩:=map_next h
 obtain ⟨q,rfl⟩:=putV_some hp
 exact k q
theorem for_P {ks:List NameKind} {tg:Tg} {t i:Expr} {b:List Stmt} {p:Pos} {items:List D} {σ σ':Vars} {fl:Fl} {F:Vars -> Option (Fl × Vars)} (P:Vars -> Prop) (hi:EvIt C k env σ i items /\ ∀ env' x,foldedSetIterable i env' x = pure x)
  (ht:∀ d σ₁ σ₂,setT ks σ₁ tg d = some σ₂ -> AsG C k env σ₁ t d fun v=>v = σ₂) (hP:P σ) (hs:∀ d σ₁ σ₂,P σ₁ -> setT ks σ₁ tg d = some σ₂ -> P σ₂) (hb:∀ σ₁ σ₂ f1,P σ₁ -> F σ₁ = some (f1,σ₂) -> Ex C k env σ₁ b (Fin1 f1 σ₂) /\ P σ₂)
  (he:loopF (fun d σ'=>match setT ks σ' tg d with
   | some σ₂=>F σ₂
   | none=>none) items σ = some (fl,σ')):ExS C k env σ (.For t i b [] p) (Fin1 fl σ'):=by
 refine ExS.for_ hi.1 (fun n σ₁=>P σ₁ /\ loopF (fun d σ'=>match setT ks σ' tg d with
  | some σ₂=>F σ₂
  | none=>none) (items.drop n) σ₁ = some (fl,σ')) ⟨hP,by rw [List.drop_zero]; exact he⟩ (fun n d σ₁ hd hJ=>?_) (fun σ₁ hJ=>?_) (hi.2 env)
 ·have hp:=hJ.1
  replace hJ:=hJ.2
  rw [List.drop_eq_getElem_cons (List.getElem?_eq_some_iff.mp hd).1,(List.getElem?_eq_some_iff.mp hd).2,loopF] at hJ
  cases w2:setT ks σ₁ tg d with
  | none=>rw [w2] at hJ; cases hJ
  | some σ₂ =>
   rw [w2] at hJ
   dsimp only at hJ
   have hp2:=hs d σ₁ σ₂ hp w2
   refine (ht d σ₁ σ₂ w2).mono fun σ₂' e=>?_
   subst e
   cases w3:F σ₂' with
   | none=>rw [w3] at hJ; cases hJ
   | some r =>
    obtain ⟨f1,σ₃⟩:=r
    rw [w3] at hJ
    have h3:=hb _ _ _ hp2 w3
    refine h3.1.mono fun f2 σ₄ e12=>?_
    have h4:=h3.2
    obtain ⟨e1,e2⟩:=e12
    subst e1 e2
    cases f2 with
    | next=>exact ⟨h4,hJ⟩
    | cont=>exact ⟨h4,hJ⟩
    | brk=>cases hJ; exact ⟨rfl,rfl⟩
    | ret d=>cases hJ; exact ⟨rfl,rfl⟩
 ·replace hJ:=hJ.2
  rw [List.drop_length] at hJ
  cases hJ; exact ⟨rfl,rfl⟩
theorem while_s {ks:List NameKind} {c:T} {body:List St} {t:Expr} {b:List Stmt} {p:Pos} {n:Nat} {σ σ':Vars} {fl:Fl} (hc:∀ σ₁ v,evXT g σ₁ c = some v -> Te C k env σ₁ t v)
  (hb:∀ σ₁ σ₂ f1,evB g ks body σ₁ = some (f1,σ₂) -> Ex C k env σ₁ b (Fin1 f1 σ₂)) (he:whileF (fun σ'=>evXT g σ' c) (fun σ'=>evB g ks body σ') n σ = some (fl,σ')):ExS C k env σ (.While t b [] p) (Fin1 fl σ'):=by
 refine ExS.while_ (fun n σ₁=>whileF (fun σ'=>evXT g σ' c) (fun σ'=>evB g ks body σ') n σ₁ = some (fl,σ')) n he fun n σ₁ hJ=>?_
 cases n with
 | zero=>cases hJ
 | succ n =>
  rw [whileF] at hJ
  cases w:evXT g σ₁ c with
  | none=>rw [w] at hJ; cases hJ
  | some v =>
   rw [w] at hJ
   refine ⟨v,hc _ _ w,fun hv=>?_,fun hv=>?_⟩
   ·subst hv
    dsimp only at hJ
    cases w3:evB g ks body σ₁ with
    | none=>rw [w3] at hJ; cases hJ
    | some r =>
     obtain ⟨f1,σ₃⟩:=r
     rw [w3] at hJ
     refine (hb _ _ _ w3).mono fun f2 σ₄ e12=>?_
     obtain ⟨e1,e2⟩:=e12
     subst e1 e2
     cases f2 with
     | next=>exact ⟨n,Nat.lt_succ_self n,hJ⟩
     | cont=>exact ⟨n,Nat.lt_succ_self n,hJ⟩
     | brk=>cases hJ; exact ⟨rfl,rfl⟩
     | ret d=>cases hJ; exact ⟨rfl,rfl⟩
   ·subst hv
    cases hJ; exact ⟨rfl,rfl⟩
theorem repB_cons {st:St} {irs:List St} {ss:List Stmt} (hf:¬ ∃ i,st = .frz i):repB nm sc (st :: irs) ss = kCons ss fun s ss=>repS nm sc st s && repB nm sc irs ss:=by
 cases st <;> first | rfl | exact absurd ⟨_,rfl⟩ hf
theorem evB_cons {ks:List NameKind} {st:St} {irs:List St} {σ:Vars} (hf:¬ ∃ i,st = .frz i):evB g ks (st :: irs) σ = (match evS g ks st σ with
  | some (.next,σ')=>evB g ks irs σ'
  | some (fl,σ')=>some (fl,σ')
  | none=>none):=by
 cases st <;> first | rfl | exact absurd ⟨_,rfl⟩ hf
mutual
theorem evS_s (H:Gd C k g nm) (hE:EnvOk env) (hA:AtSc env sc) {ks:List NameKind} (hks:sc.names.map (·.2) = ks):∀ (st:St) {s:Stmt} {σ σ':Vars} {fl:Fl},repS nm sc st s = true -> evS g ks st σ = some (fl,σ') -> ExS C k env σ s (Fin1 fl σ')
 | .asg i e,s,σ,σ',fl,hr,he=>sAs1_t (e:=s) hr fun x px v p hr=>and3 hr fun h0 h1 h2=>mD he fun d q he=>put_t he fun q1 =>
  ExS.assign (evX_s H hA h2 q) (hA.isSto (stoB_val hks h0 q1)) ⟨rfl,rfl⟩ (swaps_cell hE hA h1 h0)
 | .asgC i e,s,σ,σ',fl,hr,he=>sAs1_t (e:=s) hr fun x px v p hr=>kListComp_t (e:=v) hr fun el gs scope cp hr=>and5 hr fun h0 h1 h2 h3 h4=>mD he fun d q he=>put_t he fun q1 =>
  (comp_s H hA h4 ⟨_,_,_,_,rfl⟩ q).asg (swaps_yes hE hA h0 h1 h2 h3) (hA.isSto (stoB_val hks h0 q1)) ⟨rfl,rfl⟩
 | .asgO i e,s,σ,σ',fl,hr,he=>sAs1_t (e:=s) hr fun x px v p hr=>and3 hr fun h0 h1 h2=>mL he fun d q he=>put_t he fun q1 =>
  ExS.assignOwn (evF_s H hA h2 q) (hA.isSto (stoB_val hks h0 q1)) ⟨rfl,rfl⟩ (swaps_no (t:=none) h1)
 | .two i j e,s,σ,σ',fl,hr,he=>sAs2_t (e:=s) hr fun x px y py v n tp p hr=>and5 hr fun h0 h1 h2 h3 h4=>mD he fun d q he=>by
  obtain ⟨rfl,hp⟩:=map_next he
  obtain ⟨a,b,rfl,q0,q1,q2,rfl⟩:=setT_two hp
  refine ExS.tup2 (evE_s H e hA h4 q) (hA.isSto (stoB_val hks h0 q1)) (hA.isSto (stoB_val hks h1 (set_sto q1 q2))) ⟨rfl,rfl⟩ (by cases v <;> first | rfl | cases h2) ?_
  cases v <;> first | rfl | cases h3
 | .twoD i j e,s,σ,σ',fl,hr,he=>sAs2_t (e:=s) hr fun x px y py v n tp p hr=>kTuple_t (e:=v) hr fun vs m tp' hr=>k2_t (l:=vs) hr fun a b hr=>and8 hr fun h0 h1 h2 h3 h4 h5 h6 h7=>mt2 he fun d1 d2 q he=>by
  obtain ⟨rfl,hp⟩:=map_next he
  obtain ⟨b',a',e,q0,q1,q2,rfl⟩:=setT_two hp
  cases e
  exact ExS.swap2 (evE_s H _ hA h7 q) (hA.isSto (stoB_val hks h1 q1)) (hA.isSto (stoB_val hks h0 (set_sto q1 q2))) ⟨rfl,rfl⟩ rfl
   (swapped_eq hE (kd_kind hE hA h0 h2 (by decide)) (kd_kind hE hA h1 h3 (by decide)) h4 (nt h5) h6)
 | .three i j l e,s,σ,σ',fl,hr,he=>sAssign_t (e:=s) hr fun ts v p hr=>k3_t (l:=ts) hr fun a b c hr=>kName_t (e:=a) hr fun x px hr=>kName_t (e:=b) hr fun y py hr=>kName_t (e:=c) hr fun z pz hr=>and4 hr fun h0 h1 h2 h3=>mD he fun d q he=>mV he fun σ1 w1 he=>mV he fun σ2 w2 he=>by
  obtain ⟨rfl,w3⟩:=map_next he
  obtain ⟨q1,rfl⟩:=setT_one w1
  obtain ⟨q2,rfl⟩:=setT_one w2
  obtain ⟨q3,rfl⟩:=setT_one w3
  exact ExS.multi3 (evE_s H e hA h3 q) (hA.isSto (stoB_val hks h0 q1)) (hA.isSto (stoB_val hks h1 q2)) (hA.isSto (stoB_val hks h2 q3)) ⟨rfl,rfl⟩ rfl
 | .aug i op e,s,σ,σ',fl,hr,he=>sAugAssign_t (e:=s) hr fun t o v p hr=>kName_t (e:=t) hr fun x px hr=>and3 hr fun h0 h1 h2=>mAD he fun a b w1 w2 he=>mD he fun d w3 he=>put_t he fun q1=>by
  cases eq_of_beq h1
  exact ExS.aug (vr_var hA h0).1 w1 (evX_s H hA h2 w2) (iop_s w3) (hA.isSto (stoB_val hks h0 q1)) ⟨rfl,rfl⟩
 | .ret e,s,σ,σ',fl,hr,he=>sReturn_t (e:=s) hr fun v p hr=>kSome_t (o:=v) hr fun v hr=>mD he fun d q he=>by
  cases he
  exact ExG.frz (fun _=>true) (by rw [<- frzAll_eq]; exact ExS.ret (evE_s H e hA hr q) ⟨rfl,rfl⟩)
 | .if_ c a b,s,σ,σ',fl,hr,he=>sIf_t (e:=s) hr fun t x y p hr=>and3 hr fun h0 h1 h2 =>
  mB he (fun q he=>ExS.if_ (evXT_s H hA h0 q) (fun _=>evB_s H hE hA hks a h1 he) fun x=>nomatch x) (fun q he=>ExS.if_ (evXT_s H hA h0 q) (fun x=>nomatch x) fun _=>evB_s H hE hA hks b h2 he)
 | .for_ tg it body,s,σ,σ',fl,hr,he=>sFor_t (e:=s) hr fun t i b o p hr=>and2 hr fun h0 hr=>kNil_t (l:=o) h0 <| and3 hr fun h0 h1 h2=>mL he fun items w he =>
  for_P (F:=fun σ₂=>evB g ks body σ₂) (fun _=>True) (evI_s H it hA h1 w) (fun d σ₁ σ₂ w=>setT_as hA hks h0 w) trivial (fun _ _ _ _ _=>trivial) (fun σ₁ σ₂ f1 _ w=>⟨evB_s H hE hA hks body h2 w,trivial⟩) he
 | .while_ n c body,s,σ,σ',fl,hr,he=>sWhile_t (e:=s) hr fun t b o p hr=>and2 hr fun h0 hr=>kNil_t (l:=o) h0 <| and2 hr fun h0 h1 =>
  while_s (fun σ₁ b w=>evXT_s H hA h0 w) (fun σ₁ σ₂ f1 w=>evB_s H hE hA hks body h1 w) he
 | .asrt c,s,σ,σ',fl,hr,he=>sAssert_t (e:=s) hr fun t m p hr=>and2 hr fun h0 hr=>isNone_t (o:=m) h0 <| mBt he fun q he=>by cases he; exact ExS.assert_ (evXT_s H hA hr q) ⟨rfl,rfl⟩
 | .brk,s,σ,σ',fl,hr,he=>sBreak_t (e:=s) hr fun p hr=>by cases he; exact ExS.brk ⟨rfl,rfl⟩
 | .app i e,s,σ,σ',fl,hr,he=>sMt_t (e:=s) hr fun x px m ap es cp p hr=>k1_t (l:=es) hr fun v hr=>and5 hr fun h0 h1 h2 h3 h4=>mLD he fun l d w1 w2 he=>ite_t he fun hl he=>by
  cases eq_of_beq h1
  cases he
  exact ExS.append (vr_var hA h0).1 (getO_some w1) (vr_var hA h0).2.1 (evX_s H hA h4 w2) (nt h2) h3 hl ⟨rfl,rfl⟩ (notInter hE)
 | .rev i,s,σ,σ',fl,hr,he=>sMt_t (e:=s) hr fun x px m ap es cp p hr=>and2 hr fun hn hr=>kNil_t (l:=es) hn <| and3 hr fun h0 h1 h3=>mL he fun l w1 he=>ite_t he fun hl he=>by
  cases eq_of_beq h1
  cases he
  exact ExS.reverse (vr_var hA h0).1 (getO_some w1) (vr_var hA h0).2.1 h3 hl ⟨rfl,rfl⟩ (notInter hE)
 | .ins i a e,s,σ,σ',fl,hr,he=>sMt_t (e:=s) hr fun x px m ap es cp p hr=>k2_t (l:=es) hr fun u v hr=>and7 hr fun h0 h1 h2 h2' h3 h4 h5=>mLiD he fun l n d w1 w2 w3 he=>ite_t he fun hc he=>by
  cases eq_of_beq h1
  cases he
  exact ExS.insert (vr_var hA h0).1 (getO_some w1) (vr_var hA h0).2.1 (evX_s H hA h4 w2) (evX_s H hA h5 w3) (nt h2) (nt h2') h3 hc.1 (smallI_t hc.2) ⟨rfl,rfl⟩ (notInter hE)
 | .set i a e,s,σ,σ',fl,hr,he=>sAssign_t (e:=s) hr fun ts v p hr=>k1_t (l:=ts) hr fun t hr=>kSubscript_t (e:=t) hr fun o u up hr=>kName_t (e:=o) hr fun x px hr=>and4 hr fun h0 h1 h2 h3=>mLiD he fun l n d w1 w2 w3 he=>ite_t he fun hc he=>by
  cases he
  exact ExS.setItem (vr_var hA h0).1 (getO_some w1) (vr_var hA h0).2.1 (evX_s H hA h3 w3) (evX_s H hA h2 w2) hc.2.1 hc.2.2 hc.1 ⟨rfl,rfl⟩ (swaps_no (t:=none) h1)
 | .del i a,s,σ,σ',fl,hr,he=>sDelete_t (e:=s) hr fun ts p hr=>k1_t (l:=ts) hr fun t hr=>kSubscript_t (e:=t) hr fun o u up hr=>kName_t (e:=o) hr fun x px hr=>and2 hr fun h0 h1=>mLi he fun l n w1 w2 he=>mN he fun j hj he=>ite_t he fun hc he=>by
  cases he
  exact ExS.delItem (vr_var hA h0).1 (getO_some w1) (vr_var hA h0).2.1 (evX_s H hA h1 w2) (smallI_t hc.2) hj hc.1 ⟨rfl,rfl⟩
 | .frz i,s,σ,σ',fl,hr,he=>nomatch (show none = some _ from he)
 | .bad,s,σ,σ',fl,hr,he=>nomatch (show none = some _ from he)
theorem evB_s (H:Gd C k g nm) (hE:EnvOk env) (hA:AtSc env sc) {ks:List NameKind} (hks:sc.names.map (·.2) = ks):∀ (irs:List St) {ss:List Stmt} {σ σ':Vars} {fl:Fl},repB nm sc irs ss = true -> evB g ks irs σ = some (fl,σ') -> Ex C k env σ ss (Fin1 fl σ')
 | [],ss,σ,σ',fl,hr,he=>kNil_t (l:=ss) hr (by cases he; exact Ex.nil ⟨rfl,rfl⟩)
 | st :: irs,ss,σ,σ',fl,hr,he=>by
  by_cases hf:∃ i,st = .frz i
  ·obtain ⟨i,rfl⟩:=hf
   exact ExG.frz (fun j=>j == i) (by rw [<- frz1_eq]; exact evB_s H hE hA hks irs hr he)
  ·refine kCons_t (l:=ss) ((repB_cons hf).symm.trans hr) fun s ss hr=>and2 hr fun h0 h1=>?_
   have he:=(evB_cons hf).symm.trans he
   cases w:evS g ks st σ with
   | none=>rw [w] at he; cases he
   | some r =>
    obtain ⟨f1,σ₁⟩:=r
    rw [w] at he
    refine Ex.cons ((evS_s H hE hA hks st h0 w).mono fun f2 σ₂ e12=>?_)
    obtain ⟨e1,e2⟩:=e12
    subst e1 e2
    cases f2 with
    | next=>exact evB_s H hE hA hks irs h1 he
    | brk=>cases he; exact ⟨rfl,rfl⟩
    | cont=>cases he; exact ⟨rfl,rfl⟩
    | ret d=>cases he; exact ⟨rfl,rfl⟩
end
end
end
section
section
variable {g:G} {ks:List NameKind} {σ σ':Vars} {e a b:E} {d x y:D} {i:Nat} {c:T} {t:Bool} {st:St} {ss sa sb:List St} {r:Fl × Vars}
theorem xE (h:evE g e σ = some d):evX g σ e = some d:=by rw [evX,h]
theorem xT (h:evT g c σ = some t):evXT g σ c = some t:=by rw [evXT,h]
theorem e_bin {op:Operator} (h1:evE g a σ = some x) (h2:evE g b σ = some y) (h3:bin2 op x y = some d):evE g (.bin op a b) σ = some d:=by
 show (match evE g a σ,evE g b σ with
  | some x,some y=>bin2 op x y
  | _,_=>none) = _
 rw [h1,h2]; exact h3
theorem e_sub (h1:evE g a σ = some x) (h2:evE g b σ = some y) (h3:sub2 x y = some d):evE g (.sub a b) σ = some d:=by
 show (match evE g a σ,evE g b σ with
  | some x,some y=>sub2 x y
  | _,_=>none) = _
 rw [h1,h2]; exact h3
theorem e_cmp {op:CmpOp} (h1:evE g a σ = some x) (h2:evE g b σ = some y) (h3:cmp2 op x y = some t):evE g (.cmp op a b) σ = some (.bool t):=by
 show (match evE g a σ,evE g b σ with
  | some x,some y=>(cmp2 op x y).map D.bool
  | _,_=>none) = _
 rw [h1,h2]
 show (cmp2 op x y).map D.bool = _
 rw [h3]; rfl
theorem e_slcLo {n:Int} (h1:evE g a σ = some x) (h2:evE g b σ = some (.int n)) (h3:slc2 x (some n) none = some d):evE g (.slcLo a b) σ = some d:=by
 show (match evE g a σ,evE g b σ with
  | some x,some (.int n)=>slc2 x (some n) none
  | _,_=>none) = _
 rw [h1,h2]; exact h3
theorem bin2_mod {m n:Int} (h:n ≠ 0):bin2 .Mod (.int m) (.int n) = some (.int (m.fmod n)):=by
 show modI m n = _
 rw [modI,if_pos h]
theorem e_call {f:Nat} {l:List E} {ds:List D} (h:evL g l σ = some ds) (h2:g f ds = some d):evE g (.call f l) σ = some d:=by
 show (match evL g l σ with
  | some ds=>g f ds
  | none=>none) = _
 rw [h]; exact h2
theorem e_meth {m:Nat} {o:E} {l:List E} {ds:List D} (h0:evE g o σ = some x) (h:evL g l σ = some ds) (h2:mth m x ds = some d):evE g (.meth m o l) σ = some d:=by
 show (match evE g o σ,evL g l σ with
  | some x,some ds=>mth m x ds
  | _,_=>none) = _
 rw [h0,h]; exact h2
theorem e_tup {l:List E} {ds:List D} (h:evL g l σ = some ds) (hl:ds.length <= 1000000):evE g (.tup l) σ = some (.tup ds):=by
 show (match evL g l σ with
  | some ds=>if ds.length <= 1000000 then some (D.tup ds) else none
  | none=>none) = _
 rw [h]; exact if_pos hl
theorem l_cons {l:List E} {ds:List D} (h:evE g e σ = some x) (h2:evL g l σ = some ds):evL g (e :: l) σ = some (x :: ds):=by
 show (match evE g e σ,evL g l σ with
  | some d,some ds=>some (d :: ds)
  | _,_=>none) = _
 rw [h,h2]
theorem l_one (h:evE g e σ = some x):evL g [e] σ = some [x]:=l_cons h rfl
theorem l_two {e2:E} (h:evE g e σ = some x) (h2:evE g e2 σ = some y):evL g [e,e2] σ = some [x,y]:=l_cons h (l_one h2)
theorem t_cmp {op:CmpOp} (h1:evE g a σ = some x) (h2:evE g b σ = some y) (h3:cmp2 op x y = some t):evT g (.cmp op a b) σ = some t:=by
 show (match evE g a σ,evE g b σ with
  | some x,some y=>cmp2 op x y
  | _,_=>none) = _
 rw [h1,h2]; exact h3
theorem t_e (h1:evE g a σ = some x) (h3:tru1 x = some t):evT g (.e a) σ = some t:=by
 show (match evE g a σ with
  | some x=>tru1 x
  | none=>none) = _
 rw [h1]; exact h3
theorem e_slcHi {n:Int} (h1:evE g a σ = some x) (h2:evE g b σ = some (.int n)) (h3:slc2 x none (some n) = some d):evE g (.slcHi a b) σ = some d:=by
 show (match evE g a σ,evE g b σ with
  | some x,some (.int n)=>slc2 x none (some n)
  | _,_=>none) = _
 rw [h1,h2]; exact h3
theorem i_r1 {n:Int} (h:evE g a σ = some (.int n)) (h2:rngOk n = true):evI g (.r1 a) σ = some (rng 0 n.toNat):=by
 show (match evE g a σ with
  | some (.int n)=>if rngOk n = true then some (rng 0 n.toNat) else none
  | _=>none) = _
 rw [h]; exact if_pos h2
theorem ts_one (h:evT g c σ = some t):evTs g [c] σ = some t:=by
 show (match evT g c σ with
  | some true=>some true
  | some false=>some false
  | none=>none) = _
 rw [h]; cases t <;> rfl
theorem s_asgX (h:evX g σ e = some d) (hs:stoB ks σ i = true):evS g ks (.asg i e) σ = some (.next,σ.set i (.d d)):=by
 show (match evX g σ e with
  | some d=>(putV ks σ i (.d d)).map fun σ'=>(Fl.next,σ')
  | none=>none) = _
 rw [h]
 show (putV ks σ i (.d d)).map _ = _
 rw [putV,if_pos hs]; rfl
theorem s_asg (h:evE g e σ = some d) (hs:stoB ks σ i = true):evS g ks (.asg i e) σ = some (.next,σ.set i (.d d)):=s_asgX (xE h) hs
theorem s_asgC (h:evE g e σ = some d) (hs:stoB ks σ i = true):evS g ks (.asgC i e) σ = some (.next,σ.set i (.d d)):=by
 show (match evE g e σ with
  | some d=>(putV ks σ i (.d d)).map fun σ'=>(Fl.next,σ')
  | none=>none) = _
 rw [h]
 show (putV ks σ i (.d d)).map _ = _
 rw [putV,if_pos hs]; rfl
theorem s_asgO {l:List D} (h:evF g σ e = some l) (hs:stoB ks σ i = true):evS g ks (.asgO i e) σ = some (.next,σ.set i (.own l)):=by
 show (match evF g σ e with
  | some d=>(putV ks σ i (.own d)).map fun σ'=>(Fl.next,σ')
  | none=>none) = _
 rw [h]
 show (putV ks σ i (.own l)).map _ = _
 rw [putV,if_pos hs]; rfl
theorem s_ret (h:evE g e (frzAll σ) = some d):evS g ks (.ret e) σ = some (.ret d,frzAll σ):=by
 show (match evE g e (frzAll σ) with
  | some d=>some (Fl.ret d,frzAll σ)
  | none=>none) = _
 rw [h]
theorem s_for {tg:Tg} {it:It} {body:List St} {items:List D} (h:evI g it σ = some items) (h2:loopF (fun d σ'=>match setT ks σ' tg d with
   | some σ₂=>evB g ks body σ₂
   | none=>none) items σ = some r):evS g ks (.for_ tg it body) σ = some r:=by
 show (match evI g it σ with
  | some items=>loopF (fun d σ'=>match setT ks σ' tg d with
   | some σ₂=>evB g ks body σ₂
   | none=>none) items σ
  | none=>none) = _
 rw [h]; exact h2
theorem evB_next (h:evS g ks st σ = some (.next,σ')):evB g ks (st :: ss) σ = evB g ks ss σ' :=
 (evB_cons fun q=>by obtain ⟨i,rfl⟩:=q; cases h).trans (by rw [h])
theorem evB_frz:evB g ks (.frz i :: ss) σ = evB g ks ss (frz1 i σ):=rfl
theorem evS_ift (h:evXT g σ c = some true):evS g ks (.if_ c sa sb) σ = evB g ks sa σ:=by
 show (match evXT g σ c with
  | some true=>evB g ks sa σ
  | some false=>evB g ks sb σ
  | none=>none) = _
 rw [h]
theorem evS_iff (h:evXT g σ c = some false):evS g ks (.if_ c sa sb) σ = evB g ks sb σ:=by
 show (match evXT g σ c with
  | some true=>evB g ks sa σ
  | some false=>evB g ks sb σ
  | none=>none) = _
 rw [h]
theorem evB_nil:evB g ks [] σ = some (.next,σ):=rfl
theorem evB_one (h:evS g ks st σ = some r):evB g ks [st] σ = some r:=by
 obtain ⟨f,s⟩:=r
 refine (evB_cons fun q=>by obtain ⟨i,rfl⟩:=q; cases h).trans ?_
 rw [h]
 cases f <;> rfl
end
end
section
theorem genQ {M:Model} {A:Around} {α:Type} {m:Sem α} {Q:α -> Shared -> Prop} {E:Value -> Shared -> Prop} {s:Shared} (h:∀ κ:α -> Shared -> Prop,(∀ a s',Q a s' -> κ a s') -> wpAny M A m κ E s):wpAny M A m Q E s :=
 h _ fun _ _ h=>h
theorem stmtE {M:Model} {A:Around} {a b:Stmt} {ss:List Stmt} {env:Env} {Q:Flow -> Shared -> Prop} {E:Value -> Shared -> Prop} {s:Shared} (h:a = b) (k:wpAny M A (execs (b :: ss) env) Q E s):wpAny M A (execs (a :: ss) env) Q E s:=h ▸ k
theorem stepK {M:Model} {A:Around} {st:Stmt} {rest:List Stmt} {env:Env} {Q:Flow -> Shared -> Prop} {E:Value -> Shared -> Prop} {s:Shared}
  (h:∀ κ:Flow -> Shared -> Prop,(∀ f s',(match f with | .next=>wpAny M A (execs rest env) Q E s' | f=>Q f s') -> κ f s') -> wpAny M A (exec st env) κ E s):wpAny M A (execs (st :: rest) env) Q E s :=
 wpAny_execs_cons (h _ fun _ _ h=>h)
theorem bindL_other {kindOf:Str -> Option NameKind} {x:Str}:∀ {binds:List (Str × Value)} {m:Str -> Option Value},x ∉ binds.map (·.1) -> bindL kindOf binds m x = m x
 | [],m,_=>rfl
 | (n,v) :: r,m,h=>by
  rw [List.map_cons,List.mem_cons,not_or] at h
  unfold bindL
  rw [bindL_other h.2]
  split
  ·exact if_neg h.1
  ·rfl
theorem bindC_other {kindOf:Str -> Option NameKind} {x:Str}:∀ {binds:List (Str × Value)} {m:Str -> Option Value},x ∉ binds.map (·.1) -> bindC kindOf binds m x = m x
 | [],m,_=>rfl
 | (n,v) :: r,m,h=>by
  rw [List.map_cons,List.mem_cons,not_or] at h
  unfold bindC
  rw [bindC_other h.2]
  split
  ·rfl
  ·exact if_neg h.1
theorem bindL_get {kindOf:Str -> Option NameKind} {x:Str} {v:Value} (hk:kindOf x = some .local):∀ {binds:List (Str × Value)} {m:Str -> Option Value},(binds.map (·.1)).Nodup -> (x,v) ∈ binds -> bindL kindOf binds m x = some v
 | [],m,_,h=>nomatch h
 | (n,w) :: r,m,hn,h=>by
  rw [List.map_cons,List.nodup_cons] at hn
  unfold bindL
  rcases List.mem_cons.mp h with h | h
  ·cases h
   rw [bindL_other hn.1,if_pos hk,if_pos rfl]
  ·exact bindL_get hk hn.2 h
theorem bindC_get {kindOf:Str -> Option NameKind} {x:Str} {v:Value} (hk:kindOf x ≠ some .local):∀ {binds:List (Str × Value)} {m:Str -> Option Value},(binds.map (·.1)).Nodup -> (x,v) ∈ binds -> bindC kindOf binds m x = some v
 | [],m,_,h=>nomatch h
 | (n,w) :: r,m,hn,h=>by
  rw [List.map_cons,List.nodup_cons] at hn
  unfold bindC
  rcases List.mem_cons.mp h with h | h
  ·cases h
   rw [bindC_other hn.1,if_neg hk,if_pos rfl]
  ·exact bindC_get hk hn.2 h
noncomputable def initV (ks:List NameKind) (ds:List D):Vars:=match ks,ds with
 | _ :: ks,d :: ds=>.d d :: initV ks ds
 | kk :: ks,[]=>(if kk = .cell then .emp else .no) :: initV ks []
 | [],_=>[]
theorem initV_get:∀ {ks:List NameKind} {ds:List D} {i:Nat} {av:AV},(initV ks ds)[i]? = some av -> (∃ d,ds[i]? = some d /\ av = .d d) \/ (ds[i]? = none /\ ((ks[i]? = some .cell /\ av = .emp) \/ av = .no))
 | [],ds,i,av,h=>by cases ds <;> exact nilGet h
 | kk :: ks,d :: ds,0,av,h=>.inl ⟨d,rfl,(Option.some.inj h).symm⟩
 | kk :: ks,d :: ds,i + 1,av,h=>initV_get (ks:=ks) (ds:=ds) (i:=i) h
 | kk :: ks,[],0,av,h=>by
  have h:(if kk = .cell then AV.emp else .no) = av:=Option.some.inj h
  refine .inr ⟨rfl,?_⟩
  by_cases q:kk = .cell
  ·rw [if_pos q] at h; exact .inl ⟨by rw [q]; rfl,h.symm⟩
  ·rw [if_neg q] at h; exact .inr h.symm
 | kk :: ks,[],i + 1,av,h=>(initV_get (ks:=ks) (ds:=[]) (i:=i) h).imp (fun r=>nomatch r) id
theorem Room.deeper {k:Nat} {A:Around} {env:Env} (R:Room (k + 1) A):Room k (A.deeper env):=by
 refine ⟨R.hd,?_,?_⟩
 ·have:=R.dep; show A.depth + 1 + k <= 800; omega
 ·have:=R.un; show _ <= 9000; simp only [Around.deeper]; omega
structure FnOk (C:Cx) (a:Addr) (fd:FuncData) (body:List Stmt) (n:Nat):Prop where
 at0:∃ o,C.h0.get? a = some o /\ o.data = .func fd
 code:C.h0.CodeRec fd.code fd.qualname
 body:fd.body = .stmts body
 clo:fd.closure = []
 gl:fd.globals = mainGlobals
 bt:fd.builtins = builtinsNs
 co:fd.scope.isCoroutine = false
 gen:fd.scope.isGenerator = false
 kind:fd.scope.kind = .function
 nd:(fd.scope.names.map (·.1)).Nodup
 bind:∀ vs:List Value,vs.length = n -> bindArgs fd ⟨vs,[]⟩ = pure (((fd.scope.names.take n).map (·.1)).zip vs)
 pk:((fd.scope.names.take n).all fun p=>p.2 == .local || p.2 == .cell) = true
 len:n <= fd.scope.names.length
theorem FnOk.kp {C:Cx} {a:Addr} {fd:FuncData} {body:List Stmt} {n:Nat} (h:FnOk C a fd body n):Kp C (.ref a):=let ⟨o,h1,h2⟩:=h.at0; Kp.fn h1 h2
noncomputable def CSpec (C:Cx) (k:Nat) (fv:Value) (ds:List D) (d:D):Prop :=
 ∀ Z A s vs,Room k A -> OK C s -> ZOk C Z s -> IsDs C Z s.heap vs ds -> codeAny C.M A (.call fv ⟨vs,[]⟩) (fun r s'=>∃ v,r = .ok (.ret v) /\ Ext C s s' /\ IsD C Z s'.heap v d) s
theorem CSpec.pspec {C:Cx} {k:Nat} {fv:Value} {ds:List D} {d:D} (h:CSpec C k fv ds d):PSpec C k fv ds d :=
 fun Z A s vs R K z i=>wpAny_call (codeAny_mono (h Z A s vs R K z i) fun r s' ⟨v,e,x⟩=>by subst e; exact x)
theorem CSpec.fn {C:Cx} {k:Nat} {a:Addr} {fd:FuncData} {body:List Stmt} {n:Nat} {ds:List D} {d:D} (F:FnOk C a fd body n) (hds:ds.length = n)
  (hex:∀ env,AtSc env fd.scope -> EnvOk env -> (env.scope = fd.scope /\ env.code = fd.code /\ env.qual = fd.qualname ++ ".<locals>.") -> Ex C k env (initV (fd.scope.names.map (·.2)) ds) body fun fl _=>fl = .ret d \/ (fl = .next /\ d = .none)):CSpec C (k + 1) (.ref a) ds d:=by
 intro Z A s vs R K z i
 obtain ⟨o,ho,hdata⟩:=F.at0
 have hlen:=i.length
 have hvl:vs.length = n:=by omega
 have hmapfst:(((fd.scope.names.take n).map (·.1)).zip vs).map (·.1) = (fd.scope.names.take n).map (·.1):=by
  rw [List.map_fst_zip]; rw [List.length_map,List.length_take,hvl]; omega
 have hkind:∀ n',∀ x ∈ ((fd.scope.names.take n).map (·.1)).zip vs,fd.scope.names.lookup x.1 = some .local \/ (fd.scope.names.lookup x.1 = some .cell /\ ((cellsFrom n' fd.scope.names []).lookup x.1).isSome = true):=by
  refine kindsX (List.all_eq_true.mpr fun x hx=>?_)
  have hx1:x.1 ∈ (fd.scope.names.take n).map (·.1):=by rw [<- hmapfst]; exact List.mem_map_of_mem (f:=(·.1)) hx
  obtain ⟨p,hp,e⟩:=List.mem_map.mp hx1
  obtain ⟨y,kk⟩:=p
  have hpk:=List.all_eq_true.mp F.pk _ hp
  obtain ⟨j,hj⟩:=List.getElem?_of_mem (List.mem_of_mem_take hp)
  have:=lookup_of_get F.nd hj
  simp only at e
  rw [<- e,this]
  rcases Bool.or_eq_true_iff.mp hpk with q | q
  ·have:=eq_of_beq q; simp only at this; rw [this]; rfl
  ·have:=eq_of_beq q; simp only at this; rw [this]; rfl
 refine codeAny_call_cells (by have:=R.dep; show A.depth < 1000; omega) (K.keep _ _ ho) hdata (K.good.lim.keeps K.keep) (F.code.keeps K.keep) F.body (F.bind vs hvl) F.clo (hkind _) (fun s₁ X=>?_) F.co F.gen F.kind
 obtain ⟨h₁,tk,rfl,hkeep⟩:=X.done
 generalize henv:callEnvC fd s.heap.objs.size a = env at X
 have hL:env.locals = s.heap.objs.size:=by rw [<- henv]; rfl
 have hcells:env.cells = cellsFrom (s.heap.objs.size + 1) fd.scope.names []:=by rw [<- henv]; rfl
 have hsc:env.scope = fd.scope:=by rw [<- henv]; rfl
 have hE:EnvOk env:=⟨by rw [hsc]; exact F.kind,by rw [<- henv]; exact F.gl,by rw [<- henv]; exact F.bt,by rw [hsc]; exact F.nd⟩
 have x1:Ext C s { heap:=h₁,gens:=s.gens,drawn:=s.drawn,toks:=tk,os:=s.os }:=.of_keeps K hkeep
 have hi:∀ b o,s.heap.get? b = some o -> b < s.heap.objs.size:=fun b o g=>Heap.lt_size g
 classical
 let O:Own:=ownO env.locals fd.scope.names env.cells
 have oHi:∀ b:Nat,O b ≠ none -> s.heap.objs.size <= b:=fun b hb=>by
  rcases ownO_some hb with h | ⟨x,hx⟩
  ·have h':@Eq Nat b env.locals:=h
   rw [hL] at h'; omega
  ·have h1:@LT.lt Nat _ env.locals b:=X.above x b (mem_of_lookup hx); rw [hL] at h1; omega
 have oLo:∀ b o,s.heap.get? b = some o -> O b = none:=fun b o g=>by
  cases q:O b with
  | none=>rfl
  | some t=>have h1:@LE.le Nat _ _ b:=oHi b (nnS q); have h2:@LT.lt Nat _ b _:=hi b o g; omega
 let B:Base:=⟨fun b=>if b ∈ C.T then none else s.heap.get? b⟩
 have S:SimO C B Z O env (initV (fd.scope.names.map (·.2)) ds) { heap:=h₁,gens:=s.gens,drawn:=s.drawn,toks:=tk,os:=s.os }:=by
  refine ⟨x1.ok,hE,z.1,fun b hb=>if_pos hb,fun b o g=>?_,fun b hb=>?_,fun b hb=>⟨?_,fun q=>?_⟩,fun b hb=>?_,ownO_L,_,X.toInCall.ns,fun j x kk av e1 e2=>?_⟩
  ·have g':(if b ∈ C.T then none else s.heap.get? b) = some o:=g
   split at g'
   ·cases g'
   ·exact hkeep b o g'
  ·rcases hb with hb | hb
   ·exact x1.ex (z.2 b hb)
   ·rcases ownO_some hb with rfl | ⟨x,hx⟩
    ·obtain ⟨o,_,_,g,_⟩:=X.toInCall.ns; exact ⟨o,g⟩
    ·obtain ⟨o,g,_⟩:=X.cell x b hx; exact ⟨o,g⟩
  ·show (if b ∈ C.T then none else s.heap.get? b) = none
   split
   ·rfl
   ·exact Heap.get?_none_of_le (oHi b hb)
  ·obtain ⟨o,g⟩:=z.2 b q; have:=oLo b o g; exact hb this
  ·cases q:C.h0.get? b with
   | none=>rfl
   | some o=>exact absurd (oLo b o (K.keep b o q)) hb
  ·rw [hsc] at e1
   have hlook:=lookup_of_get F.nd e1
   have hko:env.kindOf x = some kk:=by show env.scope.names.lookup x = _; rw [hsc]; exact hlook
   have up:∀ v d,IsD C Z s.heap v d -> IsD C (Zf Z O) h₁ v d:=fun v d i=>i.mono (fun b o n g=>hkeep b o g) fun b o n g q=>q.elim n fun q=>q (oLo b o g)
   rcases initV_get e2 with ⟨dd,q1,rfl⟩ | ⟨q1,⟨q2,rfl⟩ | rfl⟩
   ·obtain ⟨v,g1,g2⟩:=i.get j q1
    have hj:j < n:=by have:=(List.getElem?_eq_some_iff.mp q1).1; omega
    have hmem:(x,v) ∈ ((fd.scope.names.take n).map (·.1)).zip vs:=by
     apply List.mem_of_getElem? (i:=j)
     rw [List.getElem?_zip_eq_some]
     exact ⟨by rw [List.getElem?_map,List.getElem?_take,if_pos hj,e1]; rfl,g1⟩
    have hnd:((((fd.scope.names.take n).map (·.1)).zip vs).map (·.1)).Nodup:=by
     rw [hmapfst,List.map_take]; exact F.nd.sublist (List.take_sublist _ _)
    refine ⟨v,?_,up _ _ g2⟩
    rcases hkind 0 _ hmem with hk | ⟨hk,_⟩
    ·rw [hlook] at hk; cases hk
     exact .inl ⟨rfl,bindL_get hko hnd hmem⟩
    ·rw [hlook] at hk; cases hk
     obtain ⟨c,hc⟩:=cellsFrom_mem fd.scope.names (s.heap.objs.size + 1) (List.mem_of_getElem? e1)
     rw [<- hcells] at hc
     refine .inr ⟨rfl,c,hc,ownO_cell F.nd X.apart e1 hc (fun q=>?_),?_⟩
     ·have h1:@LT.lt Nat _ env.locals c:=X.above x c (mem_of_lookup hc)
      exact absurd (show @Eq Nat c env.locals from q) (by omega)
     ·have:=X.cell x c hc
      rwa [bindC_get (by rw [hko]; simp) hnd hmem] at this
   ·rw [List.getElem?_map,e1] at q2
    simp at q2
    subst q2
    obtain ⟨c,hc⟩:=cellsFrom_mem fd.scope.names (s.heap.objs.size + 1) (List.mem_of_getElem? e1)
    rw [<- hcells] at hc
    refine ⟨rfl,c,_,hc,ownO_cell F.nd X.apart e1 hc (fun q=>?_),X.cell x c hc⟩
    have h1:@LT.lt Nat _ env.locals c:=X.above x c (mem_of_lookup hc)
    exact absurd (show @Eq Nat c env.locals from q) (by omega)
   ·trivial
 refine wpAny_mono (hex env (AtSc.refl hsc) hE ⟨hsc,by rw [<- henv]; rfl,by rw [<- henv]; rfl⟩ B Z (A.deeper env) _ R.deeper ⟨O,S⟩) (fun f s' hZ2=>?_) fun _ _ e=>e.elim; obtain ⟨O',σ',fl,S',hf,hq⟩:=hZ2
 have ext:Ext C s s':=⟨S'.ok,fun b o hb g=>S'.keepB b o (by show (if b ∈ C.T then none else s.heap.get? b) = some o; rw [if_neg hb]; exact g)⟩
 have zz:∀ b,¬ Zf Z O' b -> ¬ Z b:=fun b n q=>n (.inl q)
 rcases hq with rfl | ⟨rfl,rfl⟩
 ·cases f <;> first | exact hf.elim | exact ⟨_,rfl,ext,IsD.mono (fun b o n g=>g) (fun b o n g=>zz b n) hf⟩
 ·cases f <;> first | exact hf.elim | exact ⟨_,rfl,ext,.none⟩
theorem PSpec.run {C:Cx} {k:Nat} {g:G} {nm:Nat -> Str} {a:Addr} {fd:FuncData} {body:List Stmt} {n:Nat} {ir:List St} {ds:List D} {d:D} {fl:Fl} {σ':Vars} (F:FnOk C a fd body n) (H:Gd C k g nm) (hds:ds.length = n)
  (hr:repB nm fd.scope ir body = true) (he:evB g (fd.scope.names.map (·.2)) ir (initV (fd.scope.names.map (·.2)) ds) = some (fl,σ')) (hf:fl = .ret d \/ (fl = .next /\ d = .none)):PSpec C (k + 1) (.ref a) ds d :=
 (CSpec.fn F hds fun env hA hE _=>(evB_s H hE hA rfl ir hr he).mono fun f σ ⟨e1,_⟩=>by rw [e1]; exact hf).pspec
end
section
noncomputable abbrev mkC (prog:Program) (w:World) (s₁:Shared) (tabs:List (Addr × Addr)) (mg mb:Str -> Option Value) (qn:Addr -> Nat -> Nat -> Str) (cW:Addr):Cx :=
 {prog:=prog,w:=w,h0:=ghostOf s₁.heap tabs,mg:=mg,mb:=mb,tabs:=tabs,qn:=qn,os:=s₁.os,cW:=cW }
theorem good_of {prog:Program} {w:World} {s₁:Shared} {tabs:List (Addr × Addr)} {mg mb:Str -> Option Value} {qn:Addr -> Nat -> Nat -> Str} {cW:Addr} {p:Program} {loose:List Str} {mean:ExcName -> Option Value}
  (hT:TabsAt tabs s₁.heap) (hnd:(tabs.map (·.2)).Nodup) (T:Top p loose mean mg mb s₁.heap):(mkC prog w s₁ tabs mg mb qn cW).Good:=by
 have G:=ghost_top hT T
 refine ⟨G.g,G.b,G.nolimit,G.builtins,G.bmain,fun q hq=>?_,fun b hb=>hideAll_none _ hb,hnd⟩
 have:∀ (ts:List (Addr × Addr)),CodeAll ts (ghostOf s₁.heap tabs) -> ∀ q ∈ ts,CodeHd (ghostOf s₁.heap tabs) q.1 q.2:=by
  intro ts
  induction ts with
  | nil=>intro _ q hq; cases hq
  | cons t ts ih =>
   intro h q hq
   rcases List.mem_cons.mp hq with rfl | hq
   ·exact h.1
   ·exact ih h.2 q hq
 exact this tabs (ghost_code hT) q hq
theorem ok_of {prog:Program} {w:World} {s₁:Shared} {tabs:List (Addr × Addr)} {mg mb:Str -> Option Value} {qn:Addr -> Nat -> Nat -> Str} {cW:Addr}
  (hT:TabsAt tabs s₁.heap) (G:(mkC prog w s₁ tabs mg mb qn cW).Good) (hg:s₁.gens = #[]):OK (mkC prog w s₁ tabs mg mb qn cW) s₁:=by
 refine ⟨G,fun b o e=>of_hideAll _ e,fun b hb=>?_,hg,rfl⟩
 obtain ⟨q,hq,rfl⟩:=List.mem_map.mp hb
 exact ⟨#[],(hT q hq).2,trivial,fun pos cv e=>by cases e⟩
end
section
noncomputable abbrev Cx.up (C:Cx) (h:Heap):Cx:={ C with h0:=h }
theorem IsD.cast {C C':Cx} {Z:Addr -> Prop} {h:Heap} (e:C.cW = C'.cW) {v:Value} {d:D} (x:IsD C Z h v d):IsD C' Z h v d :=
 IsD.rec (motive_1:=fun v d _=>IsD C' Z h v d) (motive_2:=fun v d _=>IsDs C' Z h v d) .none .bool .int .str (fun a vs ds x z _ i=>.tup a vs ds x z i) (fun a vs ds x z _ i=>.lst a vs ds x z i)
  (fun a dx t u n nt cnt b tn tt tb vs e1 z1 z2 z3 z4 x2 x3 x4 x5 x6 x7=>.ws a dx t u n nt cnt b tn tt tb vs (e ▸ e1) z1 z2 z3 z4 x2 x3 x4 x5 x6 x7) .nil (fun _ _ a b=>.cons a b) x
theorem IsDs.cast {C C':Cx} {Z:Addr -> Prop} {h:Heap} (e:C.cW = C'.cW):∀ {ds:List D} {vs:List Value},IsDs C Z h vs ds -> IsDs C' Z h vs ds
 | [],_,x=>x.iNil ▸ .nil
 | _ :: _,_,x=>x.iCons.elim fun v r=>r.elim fun ws r=>r.1 ▸ .cons (r.2.1.cast e) (IsDs.cast e r.2.2)
structure Up (C:Cx) (h:Heap):Prop where
 sub:∀ b o,C.h0.get? b = some o -> h.get? b = some o
 tab:∀ b ∈ C.T,h.get? b = none
 good:C.Good
section
variable {C:Cx} {h:Heap} {s s':Shared} {k:Nat} {fv:Value} {ds:List D} {d a:D}
theorem Up.good' (H:Up C h):(C.up h).Good :=
 ⟨H.good.g.keeps H.sub,H.good.b.keeps H.sub,H.good.lim.keeps H.sub,H.good.bl,let ⟨bm,ob,a,b,c,r⟩:=H.good.bmain; ⟨bm,ob,a,b,H.sub _ _ c,r⟩,
  fun q hq=>(H.good.code q hq).keeps H.sub,H.tab,H.good.nodup⟩
theorem OK.down (H:Up C h) (K:OK (C.up h) s):OK C s:=⟨H.good,fun b o e=>K.keep b o (H.sub b o e),K.tab,K.gens,K.os⟩
theorem OK.up (H:Up C h) (K:OK C s) (k:∀ b o,h.get? b = some o -> s.heap.get? b = some o):OK (C.up h) s:=⟨H.good',k,K.tab,K.gens,K.os⟩
theorem Ext.down (H:Up C h) (x:Ext (C.up h) s s'):Ext C s s':=⟨x.ok.down H,x.keep⟩
theorem Ext.up (H:Up C h) (K:OK (C.up h) s) (x:Ext C s s'):Ext (C.up h) s s' :=
 ⟨x.ok.up H fun b o g=>x.keep b o (fun q=>by rw [H.tab b q] at g; cases g) (K.keep b o g),x.keep⟩
theorem PSpec.up (H:Up C h) (p:PSpec C k fv ds d):PSpec (C.up h) k fv ds d:=fun Z A s vs R K z i =>
 wpT (p Z A s vs R (K.down H) z (i.cast (C:=C.up h) (C':=C) rfl)) fun v s' hY71=>⟨hY71.1.up H K,hY71.2.cast (C:=C) (C':=C.up h) rfl⟩
theorem Kp.up (H:Up C h) (p:Kp C fv):Kp (C.up h) fv:=let ⟨P,p1,p2⟩:=p; ⟨P,fun s K=>p1 s (K.down H),p2⟩
theorem Op1.up (H:Up C h) {f:Value -> Sem Value} (p:Op1 C f a d):Op1 (C.up h) f a d:=fun Z A s va R K z i =>
 wpT (p Z A s va R (K.down H) z (i.cast (C:=C.up h) (C':=C) rfl)) fun v s' hY72=>⟨hY72.1.up H K,hY72.2.cast (C:=C) (C':=C.up h) rfl⟩
theorem MethR.up (H:Up C h) {d:D} {name:Str} (p:MethR C d name fv):MethR (C.up h) d name fv:=fun Z A s v pl K i =>
 wpT (p Z A s v pl (K.down H) (i.cast (C:=C.up h) (C':=C) rfl)) fun fx s' ⟨e,x⟩=>⟨e,x.up H K⟩
theorem Gd.up (H:Up C h) {g:G} {nm:Nat -> Str} (p:Gd C k g nm):Gd (C.up h) k g nm :=
 ⟨⟨fun f ds d l e=>let ⟨fv,a,b,c⟩:=p.fn f ds d l e; ⟨fv,a,b.up H,c.up H⟩,p.range,p.reversed⟩,fun f x ds d l e=>let ⟨fv,a,b,c⟩:=p.wm f x ds d l e; ⟨fv,a.up H,b.up H,c.up H⟩,fun x d d' e=>(p.attr x d d' e).up H,fun n d e=>let ⟨v,a,b⟩:=p.con n d e; ⟨v,a,fun Z h'=>(b Z h').cast (C:=C) (C':=C.up h) rfl⟩⟩
noncomputable def fixA:NameKind -> AV -> AV
 | .cell,.d d=>.sd d
 | .cell,.val u=>.val u
 | .cell,.sd d=>.sd d
 | .local,.d d=>.d d
 | .local,.val u=>.val u
 | _,_=>.no
noncomputable def fixV (σ:Vars) (ks:List NameKind):Vars:=match σ,ks with
 | av :: σ,kk :: ks=>fixA kk av :: fixV σ ks
 | _,_=>[]
theorem fixV_get:∀ {σ:Vars} {ks:List NameKind} {i:Nat} {av:AV},(fixV σ ks)[i]? = some av -> ∃ a0 kk,σ[i]? = some a0 /\ ks[i]? = some kk /\ av = fixA kk a0
 | [],ks,i,av,h=>nilGet h
 | _ :: _,[],i,av,h=>nilGet h
 | a0 :: σ,kk :: ks,0,av,h=>⟨a0,kk,rfl,rfl,(Option.some.inj h).symm⟩
 | a0 :: σ,kk :: ks,i + 1,av,h=>fixV_get (σ:=σ) (ks:=ks) (i:=i) h
variable {B:Base} {U:Addr -> Prop} {O:Own} {env:Env} {σ:Vars}
noncomputable abbrev fixH (C:Cx) (s:Shared) (X:List Addr):Heap:=hideAll s.heap (C.T ++ X)
theorem SimO.fixUp (S:SimO C B U O env σ s) {X:List Addr} (hX:∀ b ∈ X,O b ≠ none):Up C (fixH C s X):=by
 refine ⟨fun b o e=>hideAll_get _ (S.ok.keep b o e) fun q=>?_,fun b hb=>hideAll_none _ (List.mem_append_left _ hb),S.ok.good⟩
 rcases List.mem_append.mp q with q | q
 ·rw [S.ok.good.notab b q] at e; cases e
 ·rw [S.oh b (hX b q)] at e; cases e
theorem SimO.fix (S:SimO C B U O env σ s) {X:List Addr} (hX:∀ b ∈ X,O b ≠ none) (hcX:∀ b i,O b = some (.cell i) -> b ∉ X) (hL:env.locals ∈ X) :
  ∃ O',SimO (C.up (fixH C s X)) ⟨fun b=>(fixH C s X).get? b⟩ U O' env (fixV σ (env.scope.names.map (·.2))) s /\ (∀ b,O' b ≠ none ↔ b ∈ X) /\ (∀ c i,O' c ≠ some (.cell i)):=by
 classical
 have H:=S.fixUp hX
 obtain ⟨m,hm,hv⟩:=S.vars
 let O':Own:=fun b=>if b = env.locals then some .loc else if b ∈ X then some (.oth 0) else none
 have hO':∀ b,O' b ≠ none ↔ b ∈ X:=fun b=>by
  show (if b = env.locals then some Tag.loc else if b ∈ X then some (.oth 0) else none) ≠ none ↔ _
  split
  ·rename_i q; subst q; simp [hL]
  ·split
   ·simp [*]
   ·simp [*]
 have zz:∀ b,¬ Zf U O b -> ¬ Zf U O' b:=fun b n q=>n (q.imp id fun q=>hX b ((hO' b).mp q))
 have hOc:∀ c i,O' c ≠ some (.cell i):=fun c i=>by
  show (if c = env.locals then some Tag.loc else if c ∈ X then some (.oth 0) else none) ≠ _
  split
  ·simp
  ·split <;> simp
 refine ⟨O',⟨S.ok.up H fun b o e=>of_hideAll _ e,S.ev,S.tu,H.tab,fun b o e=>of_hideAll _ e,fun b hb=>S.lt b (hb.imp id fun q=>hX b ((hO' b).mp q)),
  fun b hb=>⟨hideAll_none _ (List.mem_append_right _ ((hO' b).mp hb)),(S.ob b (hX b ((hO' b).mp hb))).2⟩,fun b hb=>hideAll_none _ (List.mem_append_right _ ((hO' b).mp hb)),if_pos rfl,m,hm,fun i x kk av e1 e2=>?_⟩,hO',hOc⟩
 obtain ⟨a0,k0,g1,g2,rfl⟩:=fixV_get e2
 rw [List.getElem?_map,e1] at g2
 simp at g2
 subst g2
 have old:=hv i x kk a0 e1 g1
 have cellH:∀ c o,s.heap.get? c = some o -> (∃ v,o.data = .cell v) -> c ∉ X -> (fixH C s X).get? c = some o:=fun c o g ⟨v,hd⟩ n=>hideAll_get _ g fun q=>by
  rcases List.mem_append.mp q with q | q
  ·obtain ⟨ps,g',_⟩:=S.ok.tab c q; rw [g] at g'; cases g'; cases hd
  ·exact n q
 have dat:∀ v d,IsD C (Zf U O) s.heap v d -> IsD (C.up (fixH C s X)) (Zf U O') s.heap v d:=fun v d i=>(i.mono (fun b o n g=>g) fun b o n g=>zz b n).cast (C:=C) (C':=C.up (fixH C s X)) rfl
 cases kk with
 | cell =>
  cases a0 with
  | d d =>
   obtain ⟨v,h1,h2⟩:=old
   rcases h1 with ⟨q,_⟩ | ⟨_,c,c1,c2,o,g,e⟩
   ·cases q
   ·exact ⟨.inl rfl,c,v,c1,⟨o,cellH c o g ⟨_,e⟩ (hcX c i c2),e⟩,dat v d h2⟩
  | sd d =>
   obtain ⟨_,c,v,c1,⟨o,g,e⟩,h2⟩:=old
   exact ⟨.inl rfl,c,v,c1,⟨o,cellH c o (S.keepB c o g) ⟨_,e⟩ (fun q=>by rw [(S.ob c (hX c q)).1] at g; cases g),e⟩,dat v d h2⟩
  | val u =>
   rcases old with (⟨q,_⟩ | ⟨_,c,c1,c2,o,g,e⟩) | ⟨_,c,o,c1,g,e⟩
   ·cases q
   ·exact .inr ⟨.inl rfl,c,o,c1,cellH c o g ⟨_,e⟩ (hcX c i c2),e⟩
   ·exact .inr ⟨.inl rfl,c,o,c1,H.sub c o g,e⟩
  | no=>trivial
  | emp=>trivial
  | own l=>trivial
  | lex L st=>trivial
 | «local» =>
  cases a0 with
  | d d =>
   obtain ⟨v,h1,h2⟩:=old
   rcases h1 with ⟨_,q⟩ | ⟨q,_⟩
   ·exact ⟨v,.inl ⟨rfl,q⟩,dat v d h2⟩
   ·cases q
  | val u =>
   rcases old with (⟨_,q⟩ | ⟨q,_⟩) | ⟨q,_⟩
   ·exact .inl (.inl ⟨rfl,q⟩)
   ·cases q
   ·simp at q
  | no=>trivial
  | emp=>trivial
  | own l=>trivial
  | lex L st=>trivial
  | sd d=>trivial
 | free=>cases a0 <;> trivial
 | globalExplicit=>cases a0 <;> trivial
 | globalImplicit=>cases a0 <;> trivial
end
end
section
theorem codeAmong_app {pos:Pos} {a b:Int} {c cv:Value} (l:List Value) (h:TriplesOk l) (e:codeAmong pos (l ++ [rawInt a,rawInt b,c]) = some cv) :
  codeAmong pos l = some cv \/ (a = pos.line /\ b = pos.col /\ cv = c):=by
 fun_induction TriplesOk l with
 | case1 =>
  simp only [List.nil_append,codeAmong,rawInt] at e
  split at e
  ·rename_i q
   simp at q
   cases e
   exact .inr ⟨q.1,q.2,rfl⟩
  ·cases e
 | case2 a' t b' u x rest ih =>
  simp only [List.cons_append,codeAmong] at e ⊢
  split
  ·rename_i q; rw [if_pos q] at e; exact .inl e
  ·rename_i q; rw [if_neg q] at e; exact ih h e
 | case3=>exact h.elim
section
variable {C:Cx} {B:Base} {U:Addr -> Prop} {O:Own} {env:Env} {σ:Vars} {s:Shared}
theorem made_ext {P c':Addr} {ps:Array Value} {h':Heap} {tk:Tok} {pos:Pos} {qual:Str} {c:Addr} (K:OK C s) (hP:P ∈ C.T) (gP:s.heap.get? P = some (tabObj ps)) (ht:TriplesOk ps.toList)
  (hx:Heap.ExtBut P s.heap h') (hge:s.heap.objs.size <= c') (hrec:h'.CodeRec (.ref c') qual) (htb:h'.get? P = some (tabObj (ps ++ #[rawInt pos.line,rawInt pos.col,.ref c']))) (hq:C.qn P pos.line pos.col = qual) :
  Ext C s { heap:=h',gens:=s.gens,drawn:=s.drawn,toks:=tk,os:=s.os }:=by
 have keep:∀ b o,b ∉ C.T -> s.heap.get? b = some o -> h'.get? b = some o:=fun b o n e=>hx b o (fun q=>n (q ▸ hP)) e
 refine ⟨⟨K.good,fun b o e=>keep b o (fun q=>by rw [K.good.notab b q] at e; cases e) (K.keep b o e),fun b hb=>?_,K.gens,K.os⟩,keep⟩
 by_cases hbP:b = P
 ·subst hbP
  obtain ⟨ps',g',t1,t2⟩:=K.tab b hb
  rw [gP] at g'
  have:ps' = ps:=by cases g'; rfl
  subst this
  refine ⟨_,htb,by rw [Array.toList_append]; exact TriplesOk_snoc _ _ _ _ t1,fun p cv e=>?_⟩
  rw [Array.toList_append] at e
  rcases codeAmong_app _ t1 e with e | ⟨e1,e2,rfl⟩
  ·obtain ⟨c,rfl,nc,c2,o,vs,t,e3,e4,e5⟩:=t2 p cv e
   cases e3
   exact ⟨c,rfl,nc,c,o,vs,t,rfl,keep _ _ nc e4,e5⟩
  ·refine ⟨c',rfl,fun q=>?_,?_⟩
   ·obtain ⟨ps2,g2,_⟩:=K.tab c' q
    exact absurd (Heap.lt_size g2) (Nat.not_lt.mpr hge)
   ·have e1':pos.line = p.line:=by exact_mod_cast e1
    have e2':pos.col = p.col:=by exact_mod_cast e2
    rw [<- e1',<- e2',hq]; exact hrec
 ·obtain ⟨ps',g',t1,t2⟩:=K.tab b hb
  refine ⟨ps',hx b _ hbP g',t1,fun p cv e=>?_⟩
  obtain ⟨c,rfl,nc,c2,o,vs,t,e3,e4,e5⟩:=t2 p cv e
  cases e3
  exact ⟨c,rfl,nc,c,o,vs,t,rfl,keep _ _ nc e4,e5⟩
theorem def_wp {A:Around} {name:Str} {params:Arguments} {body:List Stmt} {scope:Scope} {pos:Pos} {c P:Addr} {clos:List (Str × Addr)} {i:Nat} {Q:Flow -> Shared -> Prop} (S:SimO C B U O env σ s)
  (hc:env.code = .ref c) (hcp:(c,P) ∈ C.tabs) (hq:C.qn P pos.line pos.col = qualnameIn env name name) (hcl:closureFor scope env = pure clos) (hd0:params.defaults = []) (hk0:params.kw_defaults = []) (ha:annTrees params none env = []) (hx:IsSto env.scope σ name i)
  (hQ:∀ f cv ctv doc pm s' s₁,Ext C s s₁ -> s.heap.get? f = none -> SimO C B U O env (σ.set i (.val (.ref f))) s' -> Kb O s₁ s' -> s₁.heap.get? f = some { cls:=.type "function",data:=.func (fnX name (qualnameIn env name name) params body scope clos .none .none doc pm none cv ctv) } ->
   s'.heap.CodeRec cv (qualnameIn env name name) -> (∃ c',cv = .ref c' /\ c' ∉ C.T) -> Q .next s') :
  wpAny C.M A (exec (.FunctionDef name params body [] none [] scope none name pos) env) Q nf s:=by
 have hP:P ∈ C.T:=List.mem_map_of_mem (f:=(·.2)) hcp
 obtain ⟨ps,gP,ht,htab⟩:=S.ok.tab P hP
 have G:=S.ok.good
 have hg:s.heap.Ns mainGlobals C.mg:=G.g.keeps S.ok.keep
 have hCd:CodeHd s.heap c P:=(G.code _ hcp).keeps S.ok.keep
 obtain ⟨bm,ob,b1,b2,b3,b4,b5,b6⟩:=G.bmain
 have hgP:mainGlobals ≠ P:=fun q=>by
  obtain ⟨o,es,ep,e,hd,_⟩:=hg
  rw [q,gP] at e; cases e; cases hd
 have hbP:bm ≠ P:=fun q=>by rw [q,G.notab P hP] at b3; cases b3
 have hbG:bm ≠ mainGlobals:=fun q=>by
  obtain ⟨o,es,ep,e,hd,_⟩:=G.g
  rw [q,e] at b3; cases b3; rw [hd] at b6; cases b6
 have hb:s.heap.BuiltinsAt C.mg P:=⟨bm,ob,b1,b2,hbG,hbP,S.ok.keep _ _ b3,b4,b5,b6⟩
 have OP:O P = none:=by
  cases q:O P with
  | none=>rfl
  | some t=>exact absurd (S.tu P hP) (S.ob P (nnS q)).2
 have fin:∀ {s₁ s':Shared} {σ'} {ps' cv},SimO C B U O env σ' s' -> Kb O s₁ s' -> s₁.heap.get? P = some (tabObj ps') -> codeAmong pos ps'.toList = some cv -> s'.heap.CodeRec cv (qualnameIn env name name):=fun {s₁ s' σ' ps' cv} S' kb g e=>by
  obtain ⟨ps2,g2,_,t2⟩:=S'.ok.tab P hP
  rw [kb P _ OP g] at g2
  have:ps' = ps2:=by cases g2 <;> rfl
  subst this
  obtain ⟨c2,rfl,_,h⟩:=t2 pos cv e
  rw [<- hq]; exact h
 refine nestDef_K hd0 hk0 ha ?_
 cases hca:codeAmong pos ps.toList with
 | some cv =>
  obtain ⟨c',rfl,nc,hrec⟩:=htab pos cv hca
  rw [hq] at hrec
  refine makeFunction_hit (mg:=C.mg) hcl S.ev.glob hg hc hCd gP ht hca hb fun ctv doc h' tk hk hge=>?_
  have x:Ext C s { heap:=h'.push { cls:=.type "function",data:=.func (fnX name (qualnameIn env name name) params body scope clos .none .none doc ((C.mg "__name__").getD .none) none (.ref c') ctv) },gens:=s.gens,drawn:=s.drawn,toks:=tk,os:=s.os } :=
   .of_keeps S.ok fun b o e=>Heap.get?_push_of_some _ (hk b o e)
  have fr:s.heap.get? h'.objs.size = none:=Heap.get?_none_of_le hge
  refine (S.ext x).store_av (av:=.val (.ref h'.objs.size)) hx (fun m h2 kd kw k hh=>.inl hh) fun s' S' kb=>?_
  exact hQ _ _ _ _ _ s' _ x fr S' kb (Heap.get?_push_size _ rfl) (fin S' kb (Heap.get?_push_of_some _ (hk _ _ gP)) hca) ⟨c',rfl,nc⟩
 | none =>
  refine makeFunction_K (mg:=C.mg) hcl S.ev.glob hg hc hCd gP ht hca (by exact hgP) hb fun c' ctv doc h' tk hx' hge hlt hrec htb=>?_
  have x1:Ext C s { heap:=h',gens:=s.gens,drawn:=s.drawn,toks:=tk,os:=s.os }:=made_ext (c:=c) S.ok hP gP ht hx' hge hrec htb hq
  have x2:Ext C s { heap:=h'.push (fnMade name (qualnameIn env name name) params body scope clos doc ((C.mg "__name__").getD .none) c' ctv),gens:=s.gens,drawn:=s.drawn,toks:=tk,os:=s.os }:=x1.trans (Ext.push x1.ok)
  have fr:s.heap.get? h'.objs.size = none:=x1.fresh
  refine (S.ext x2).store_av (av:=.val (.ref h'.objs.size)) hx (fun m h2 kd kw k hh=>.inl hh) fun s' S' kb=>?_
  exact hQ _ _ _ _ _ s' _ x2 fr S' kb (Heap.get?_push_size _ rfl) (fin S' kb (Heap.get?_push_of_some _ htb) (by rw [Array.toList_append]; exact codeAmong_snoc _ ht hca)) ⟨c',rfl,fun q=>by
   obtain ⟨ps2,g2,_⟩:=S.ok.tab c' q
   exact absurd (Heap.lt_size g2) (Nat.not_lt.mpr hge)⟩
end
end
section
structure CloOk (C:Cx) (a:Addr) (fd:FuncData) (body:List Stmt) (n:Nat) (clos:List (Str × Addr)):Prop where
 at0:∃ o,C.h0.get? a = some o /\ o.data = .func fd
 code:C.h0.CodeRec fd.code fd.qualname
 body:fd.body = .stmts body
 clo:fd.closure = clos
 gl:fd.globals = mainGlobals
 bt:fd.builtins = builtinsNs
 co:fd.scope.isCoroutine = false
 gen:fd.scope.isGenerator = false
 kind:fd.scope.kind = .function
 nd:(fd.scope.names.map (·.1)).Nodup
 bind:∀ vs:List Value,vs.length = n -> bindArgs fd ⟨vs,[]⟩ = pure (((fd.scope.names.take n).map (·.1)).zip vs)
 pk:∀ p ∈ fd.scope.names.take n,p.2 = .local
 nc:∀ p ∈ fd.scope.names,p.2 ≠ .cell
 len:n <= fd.scope.names.length
theorem lookup_rev {binds:List (Str × Value)} {x:Str} {v:Value} (hn:(binds.map (·.1)).Nodup) (h:(x,v) ∈ binds):binds.reverse.lookup x = some v:=by
 obtain ⟨i,hi⟩:=List.getElem?_of_mem (List.mem_reverse.mpr h)
 exact lookup_of_get (by rw [List.map_reverse]; exact (List.reverse_perm _).nodup_iff.mpr hn) hi
noncomputable def CloV (C:Cx) (names:List (Str × NameKind)) (n:Nat) (clos:List (Str × Addr)) (ds:List D) (σ0:Vars):Prop :=
 ∀ (j:Nat) (x:Str) (kk:NameKind) (av:AV),names[j]? = some (x,kk) -> σ0[j]? = some av -> av = .no \/ (∃ dd,j < n /\ ds[j]? = some dd /\ av = .d dd) \/
  (kk = .free /\ ∃ dd c v o,av = .sd dd /\ clos.lookup x = some c /\ C.h0.get? c = some o /\ o.data = .cell (some v) /\ IsD C (fun b=>b ∈ C.T) C.h0 v dd) \/
  (kk = .free /\ ∃ u c o,av = .val u /\ clos.lookup x = some c /\ C.h0.get? c = some o /\ o.data = .cell (some u))
theorem PSpec.clo {C:Cx} {k:Nat} {a:Addr} {fd:FuncData} {body:List Stmt} {n:Nat} {clos:List (Str × Addr)} {ds:List D} {d:D} (F:CloOk C a fd body n clos) (hds:ds.length = n) (hat:∀ dd ∈ ds,D.atom dd = true) (hda:d.atom = true) (σ0:Vars)
  (hσ:CloV C fd.scope.names n clos ds σ0)
  (hex:∀ env,env.scope = fd.scope -> EnvOk env -> Ex C k env σ0 body fun fl _=>fl = .ret d \/ (fl = .next /\ d = .none)):PSpec C (k + 1) (.ref a) ds d:=by
 intro Z A s vs R K z i
 obtain ⟨o,ho,hdata⟩:=F.at0
 have hlen:=i.length
 have hvl:vs.length = n:=by omega
 have hmapfst:(((fd.scope.names.take n).map (·.1)).zip vs).map (·.1) = (fd.scope.names.take n).map (·.1):=by
  rw [List.map_fst_zip]; rw [List.length_map,List.length_take,hvl]; have:=F.len; omega
 have hnd:((((fd.scope.names.take n).map (·.1)).zip vs).map (·.1)).Nodup:=by
  rw [hmapfst,List.map_take]; exact F.nd.sublist (List.take_sublist _ _)
 have hloc:∀ x ∈ ((fd.scope.names.take n).map (·.1)).zip vs,fd.scope.names.lookup x.1 = some .local:=fun x hx=>by
  have hx1:x.1 ∈ (fd.scope.names.take n).map (·.1):=by rw [<- hmapfst]; exact List.mem_map_of_mem (f:=(·.1)) hx
  obtain ⟨p,hp,e⟩:=List.mem_map.mp hx1
  obtain ⟨j,hj⟩:=List.getElem?_of_mem (List.mem_of_mem_take hp)
  obtain ⟨y,kk⟩:=p
  have e2:=F.pk _ hp
  simp only at e e2
  subst e2
  rw [<- e]; exact lookup_of_get F.nd hj
 refine wpAny_call (codeAny_call_function (by have:=R.dep; show A.depth < 1000; omega) (K.keep _ _ ho) hdata F.co F.gen F.body (F.code.keeps K.keep) ?_)
 rw [F.bind vs hvl,F.clo]
 refine wpAny_pure (wpAny_newFunctionEnv F.nc hloc (fun h' hns hsb=>?_) F.kind)
 have keep:∀ b o,s.heap.get? b = some o -> h'.get? b = some o:=fun b o g=>(hsb.2 b (Nat.ne_of_lt (Heap.lt_size g))).trans (Heap.get?_push_of_some _ g)
 refine ⟨(K.good.lim.keeps K.keep).keeps keep,codeAny_func ?_⟩
 generalize henv:newEnv fd.scope s.heap.objs.size fd.globals clos (fd.qualname ++ ".<locals>.") (some a) fd.code none fd.builtins = env
 have hL:env.locals = s.heap.objs.size:=by rw [<- henv]; rfl
 have hcells:env.cells = clos:=by rw [<- henv]; rfl
 have hsc:env.scope = fd.scope:=by rw [<- henv]; rfl
 have hE:EnvOk env:=⟨by rw [hsc]; exact F.kind,by rw [<- henv]; exact F.gl,by rw [<- henv]; exact F.bt,by rw [hsc]; exact F.nd⟩
 have x1:Ext C s { heap:=h',gens:=s.gens,drawn:=s.drawn,toks:=s.toks + (((fd.scope.names.take n).map (·.1)).zip vs).length,os:=s.os }:=.of_keeps K keep
 classical
 let O:Own:=fun b=>if b = env.locals then some .loc else none
 have oL:∀ b,O b ≠ none -> b = env.locals:=fun b hb=>by
  by_cases q:b = env.locals
  ·exact q
  ·exact absurd (if_neg q) hb
 have oLo:∀ b o,s.heap.get? b = some o -> O b = none:=fun b o g=>if_neg fun q=>by
  rw [q,hL] at g; exact absurd (Heap.lt_size g) (Nat.lt_irrefl _)
 let B:Base:=⟨fun b=>if b ∈ C.T then none else s.heap.get? b⟩
 have S:SimO C B (fun b=>b ∈ C.T) O env σ0 { heap:=h',gens:=s.gens,drawn:=s.drawn,toks:=s.toks + (((fd.scope.names.take n).map (·.1)).zip vs).length,os:=s.os }:=by
  refine ⟨x1.ok,hE,fun b hb=>hb,fun b hb=>if_pos hb,fun b o g=>?_,fun b hb=>?_,fun b hb=>⟨?_,fun q=>?_⟩,fun b hb=>?_,if_pos rfl,_,by rw [hL]; exact hns,fun j x kk av e1 e2=>?_⟩
  ·have g':(if b ∈ C.T then none else s.heap.get? b) = some o:=g
   split at g'
   ·cases g'
   ·exact keep b o g'
  ·rcases hb with hb | hb
   ·exact x1.ex (z.2 b (z.1 b hb))
   ·have e:=oL b hb
    subst e
    obtain ⟨o,_,_,g,_⟩:=hns; rw [hL]; exact ⟨o,g⟩
  ·show (if b ∈ C.T then none else s.heap.get? b) = none
   split
   ·rfl
   ·rw [oL b hb,hL]; exact Heap.get?_none_of_le (Nat.le_refl _)
  ·obtain ⟨o,g⟩:=z.2 b (z.1 b q); exact hb (oLo b o g)
  ·rw [oL b hb,hL]
   cases q:C.h0.get? s.heap.objs.size with
   | none=>rfl
   | some o=>exact absurd (Heap.lt_size (K.keep _ _ q)) (Nat.lt_irrefl _)
  ·rw [hsc] at e1
   rcases hσ j x kk av e1 e2 with rfl | ⟨dd,hj,g1,rfl⟩ | ⟨rfl,dd,c,v,o,rfl,c1,c2,c3,c4⟩ | ⟨rfl,u,c,o,rfl,c1,c2,c3⟩
   ·trivial
   ·obtain ⟨v,g2,g3⟩:=i.get j g1
    have hmem:(x,v) ∈ ((fd.scope.names.take n).map (·.1)).zip vs:=by
     apply List.mem_of_getElem? (i:=j)
     rw [List.getElem?_zip_eq_some]
     exact ⟨by rw [List.getElem?_map,List.getElem?_take,if_pos hj,e1]; rfl,g2⟩
    have hk:=hloc _ hmem
    rw [lookup_of_get F.nd e1] at hk
    cases hk
    exact ⟨v,.inl ⟨rfl,lookup_rev hnd hmem⟩,g3.atom (hat dd (List.mem_of_getElem? g1))⟩
   ·refine ⟨.inr rfl,c,v,by rw [hcells]; exact c1,⟨o,?_,c3⟩,c4.mono (fun b o n g=>keep b o (K.keep b o g)) fun b o n g q=>q.elim n fun q=>q (oLo b o (K.keep b o g))⟩
    show (if c ∈ C.T then none else s.heap.get? c) = some o
    rw [if_neg (fun q=>by rw [K.good.notab c q] at c2; cases c2)]; exact K.keep c o c2
   ·exact .inr ⟨.inr rfl,c,o,by rw [hcells]; exact c1,c2,c3⟩
 refine wpAny_mono (hex env hsc hE B _ (A.deeper env) _ R.deeper ⟨O,S⟩) (fun f s' hZ2=>?_) fun _ _ e=>e.elim; obtain ⟨O',σ',fl,S',hf,hq⟩:=hZ2
 have ext:Ext C s s':=⟨S'.ok,fun b o hb g=>S'.keepB b o (by show (if b ∈ C.T then none else s.heap.get? b) = some o; rw [if_neg hb]; exact g)⟩
 rcases hq with rfl | ⟨rfl,rfl⟩
 ·cases f <;> first | exact hf.elim | exact ⟨ext,IsD.atom hf hda⟩
 ·cases f <;> first | exact hf.elim | exact ⟨ext,.none⟩
end
section
theorem deq_int (a b:Int):deq (.int a) (.int b) = some (a == b):=by
 unfold deq
 simp [okPy,D.py,PyData.canLay0,PyData.depth,PyData.eqv]
noncomputable def d2v (n:Nat):List Int -> Int
 | []=>0
 | x :: xs=>x + 2 ^ n * d2v n xs
theorem d2v_app (n:Nat):∀ (l r:List Int),d2v n (l ++ r) = d2v n l + 2 ^ (n * l.length) * d2v n r
 | [],r=>by simp [d2v]
 | x :: l,r=>by
  rw [List.cons_append,d2v,d2v_app n l r,d2v,List.length_cons,Nat.mul_add,Nat.mul_one,Int.pow_add]
  rw [Int.mul_add,Int.mul_comm (2 ^ (n * l.length)) (2 ^ n),Int.mul_assoc,Int.add_assoc]
theorem d2v_nonneg (n:Nat):∀ (l:List Int),(∀ x ∈ l,0 <= x /\ x < 2 ^ n) -> 0 <= d2v n l /\ d2v n l < 2 ^ (n * l.length)
 | [],_=>by simp [d2v]
 | x :: l,h=>by
  obtain ⟨h1,h2⟩:=d2v_nonneg n l fun y hy=>h y (.tail _ hy)
  obtain ⟨h3,h4⟩:=h x (.head _)
  have p:(0:Int) <= 2 ^ n:=Int.pow_nonneg (by decide)
  refine ⟨Int.add_nonneg h3 (Int.mul_nonneg p h1),?_⟩
  rw [d2v,List.length_cons,Nat.mul_add,Nat.mul_one,Int.pow_add,Int.mul_comm (2 ^ (n * l.length))]
  have:(2:Int) ^ n * (d2v n l + 1) <= 2 ^ n * 2 ^ (n * l.length):=Int.mul_le_mul_of_nonneg_left (by omega) p
  rw [Int.mul_add,Int.mul_one] at this
  omega
theorem bits_le {x:Int} {m:Nat} (h0:0 <= x) (h:x < 2 ^ m):bits x <= m:=by
 unfold bits
 obtain ⟨y,rfl⟩:=Int.eq_ofNat_of_zero_le h0
 have hy:y < 2 ^ m:=by exact_mod_cast h
 unfold Builtin.Int.intBits
 split
 ·omega
 ·rename_i q
  have h1:y ≠ 0:=by intro e; subst e; simp at q
  have:=(Nat.log2_lt h1).mpr hy
  rw [Int.natAbs_natCast]; exact this
section
variable {C:Cx} {env:Env} {σ:Vars} {k:Nat}
theorem EvV.val {x:Str} {i:Nat} {p:Pos} {u:Value} (hx:IsVar env.scope x i) (hs:σ[i]? = some (.val u)) (hb:(x == ("__debug__":Str)) = false) (hc:(x == ("__classdict__":Str)) = false):EvV C k env σ (.Name x p) u :=
 fun B U O A s R S=>S.loadVal (kk:=0) hx hs hb hc ⟨.refl S.ok,rfl⟩
noncomputable def d2vD (n:Nat) (ds:List Int) (L R:Nat):Int:=d2v n ((ds.drop L).take (R - L))
theorem Ex.step {g:G} {nm:Nat -> Str} {sc:Scope} {ks:List NameKind} (H:Gd C k g nm) (hE:EnvOk env) (hA:AtSc env sc) (hks:sc.names.map (·.2) = ks) {st:St} {s:Stmt} {ss:List Stmt} {σ':Vars} {Q:Fl -> Vars -> Prop} (hr:repS nm sc st s = true)
  (he:evS g ks st σ = some (.next,σ')) (h:Ex C k env σ' ss Q):Ex C k env σ (s :: ss) Q :=
 Ex.cons ((evS_s H hE hA hks st hr he).mono fun f v ⟨e1,e2⟩=>by subst e1 e2; exact h)
theorem Ex.stop {g:G} {nm:Nat -> Str} {sc:Scope} {ks:List NameKind} (H:Gd C k g nm) (hE:EnvOk env) (hA:AtSc env sc) (hks:sc.names.map (·.2) = ks) {st:St} {s:Stmt} {ss:List Stmt} {σ':Vars} {d:D} {Q:Fl -> Vars -> Prop} (hr:repS nm sc st s = true)
  (he:evS g ks st σ = some (.ret d,σ')) (h:Q (.ret d) σ'):Ex C k env σ (s :: ss) Q :=
 Ex.cons ((evS_s H hE hA hks st hr he).mono fun f v ⟨e1,e2⟩=>by subst e1 e2; exact h)
noncomputable def d2i_s1:St:=.if_ (.cmp .Eq (.bin .Add (.var 0) (.int 1)) (.var 1)) [.ret (.sub (.var 4) (.var 0))] []
noncomputable def d2i_s2:St:=.asg 2 (.bin .RShift (.bin .Add (.var 0) (.var 1)) (.int 1))
noncomputable def d2i_s3:St:=.asg 3 (.bin .Mult (.bin .Sub (.var 2) (.var 0)) (.var 6))
structure Mid (L R M p N:Nat):Prop where
 a:L < M
 b:M < R
 c:M - L <= p
 d:R - M <= p
 e:R - L = (M - L) + (R - M)
 f:M - L <= N
 g:R - M <= N
 h:M <= N
 fd:Int.fdiv ((L:Int) + R) 2 = (M:Int)
 bt:bits ((M:Int) - L) <= 64
 ne:((L:Int) + 1 == (R:Int)) = false
theorem mid_ok {L R p N:Nat} (h1:L < R) (hb:¬ R = L + 1) (h3:R - L <= p + p) (h2:R <= N) (hN:N <= 1000000):∃ M,Mid L R M p N:=by
 obtain ⟨M,hM⟩:∃ M,M = (L + R) / 2:=⟨_,rfl⟩
 have k0:=Nat.div_add_mod (L + R) 2
 have k3:=Nat.mod_lt (L + R) (show 0 < 2 by decide)
 rw [<- hM] at k0
 have a:L < M:=by omega
 have b:M < R:=by omega
 have bl:=Nat.le_of_lt b
 have fd:Int.fdiv ((L:Int) + R) 2 = (M:Int):=by
  rw [Int.fdiv_eq_ediv_of_nonneg _ (by decide),hM]
  exact (Int.natCast_ediv (L + R) 2).symm
 exact ⟨M,a,b,by omega,by omega,((Nat.add_comm _ _).trans (Nat.sub_add_sub_cancel bl (Nat.le_of_lt a))).symm,Nat.le_trans (Nat.sub_le _ _) (Nat.le_trans bl h2),Nat.le_trans (Nat.sub_le _ _) h2,Nat.le_trans bl h2,fd,bits_le (by omega) (by omega),beq_eq_false_iff_ne.mpr fun q=>hb (Int.ofNat.inj q).symm⟩
theorem seqIx {k n:Nat} (h:k < n):seqIndex? (k:Nat) n = some k:=by
 unfold seqIndex?
 rw [if_neg (Int.not_lt.mpr (Int.natCast_nonneg k))]
 dsimp only
 rw [decide_eq_true (Int.natCast_nonneg k),decide_eq_true (Int.ofNat_lt.mpr h)]
 rfl
theorem nth_int {ds:List Int} {j:Nat} (h:j < ds.length) (hN:ds.length <= 1000000):sub2 (.lst (ds.map .int)) (.int (j:Int)) = some (.int (ds[j])):=by
 show nthL _ _ = _
 unfold nthL
 rw [if_pos ⟨by omega,by omega,by rw [List.length_map]; exact hN⟩,List.length_map,seqIx h]
 exact (List.getElem?_map ..).trans (by rw [List.getElem?_eq_getElem h]; rfl)
theorem d2vD_one {n:Nat} {ds:List Int} {L:Nat} (h:L < ds.length):d2vD n ds L (L + 1) = ds[L]:=by
 unfold d2vD
 have e:L + 1 - L = 1:=by omega
 have e2:List.take 1 (ds[L] :: ds.drop (L + 1)) = [ds[L]]:=rfl
 rw [e,List.drop_eq_getElem_cons h,e2]
 simp [d2v]
theorem d2vD_split {n:Nat} {ds:List Int} {L M R:Nat} (h1:L <= M) (h2:M <= R) (h3:R <= ds.length):d2vD n ds L R = d2vD n ds M R * 2 ^ (n * (M - L)) + d2vD n ds L M:=by
 unfold d2vD
 have e:(ds.drop L).take (R - L) = (ds.drop L).take (M - L) ++ (ds.drop M).take (R - M):=by
  rw [((Nat.add_comm _ _).trans (Nat.sub_add_sub_cancel h2 h1)).symm,List.take_add,List.drop_drop,Nat.add_sub_cancel' h1]
 rw [e,d2v_app]
 have e3:((ds.drop L).take (M - L)).length = M - L:=by rw [List.length_take,List.length_drop]; exact Nat.min_eq_left (Nat.sub_le_sub_right (Nat.le_trans h2 h3) L)
 rw [e3,Int.mul_comm (2 ^ _)]
 exact Int.add_comm _ _
theorem d2vD_bits {n:Nat} {ds:List Int} {L R:Nat} (hds:∀ x ∈ ds,0 <= x /\ x < 2 ^ n) (h3:R <= ds.length):bits (d2vD n ds L R) <= n * (R - L):=by
 unfold d2vD
 obtain ⟨h0,h1⟩:=d2v_nonneg n ((ds.drop L).take (R - L)) fun x hx=>hds x (List.mem_of_mem_drop (List.mem_of_mem_take hx))
 refine Nat.le_trans (bits_le h0 h1) (Nat.mul_le_mul_left _ ?_)
 rw [List.length_take]; omega
theorem inner_d2i {g:G} {nm:Nat -> Str} {a:Addr} {fd:FuncData} {clos:List (Str × Addr)} {s1 s2 s3:Stmt} {y1 y2:Str} {p1 p2 p3 p4 p5 p6 p7:Pos} {e1 e2 e3 e4 e5:Expr} {ds:List Int} {n:Nat}
  (F:CloOk C a fd [s1,s2,s3,.Return (some (.BinOp (.BinOp (.Call (.Name y1 p1) [e1,e2] [] p2) .LShift e3 p3) .Add (.Call (.Name y2 p4) [e4,e5] [] p5) p6)) p7] 2 clos)
  (H:∀ k,Gd C k g nm) (hks:fd.scope.names.map (·.2) = [.local,.local,.local,.local,.free,.free,.free])
  (hr:(repS nm fd.scope d2i_s1 s1 && repS nm fd.scope d2i_s2 s2 && repS nm fd.scope d2i_s3 s3 && vr fd.scope 5 y1 && vr fd.scope 5 y2 && repL nm fd.scope [.var 2,.var 1] [e1,e2] && repE nm fd.scope (.var 3) e3 && repL nm fd.scope [.var 0,.var 2] [e4,e5]) = true)
  (hσ:CloV C fd.scope.names 2 clos [.int 0,.int 0] [.no,.no,.no,.no,.sd (.lst (ds.map .int)),.val (.ref a),.sd (.int n)])
  (hds:∀ x ∈ ds,0 <= x /\ x < 2 ^ n) (hn:n * ds.length <= 2 ^ 26) (hN:ds.length <= 1000000) (hn1:n <= 2 ^ 26) :
  ∀ (m L R:Nat),L < R -> R <= ds.length -> R - L <= 2 ^ m -> PSpec C (m + 1) (.ref a) [.int L,.int R] (.int (d2vD n ds L R)):=by
 refine and8 hr fun r1 r2 r3 r4 r5 r6 r7 r8=>?_
 have hσ0:∀ L R:Nat,CloV C fd.scope.names 2 clos [.int L,.int R] [.d (.int L),.d (.int R),.no,.no,.sd (.lst (ds.map .int)),.val (.ref a),.sd (.int n)]:=fun L R j x kk av h1 h2=>by
  match j with
  | 0=>cases h2; exact .inr (.inl ⟨_,by decide,rfl,rfl⟩)
  | 1=>cases h2; exact .inr (.inl ⟨_,by decide,rfl,rfl⟩)
  | j + 2 =>
   rcases hσ (j + 2) x kk av h1 h2 with h | ⟨dd,hj,_⟩ | h | h
   ·exact .inl h
   ·omega
   ·exact .inr (.inr (.inl h))
   ·exact .inr (.inr (.inr h))
 have base:∀ k (L R:Nat),R = L + 1 -> R <= ds.length -> PSpec C (k + 1) (.ref a) [.int L,.int R] (.int (d2vD n ds L R)):=fun k L R e hR=>by
  subst e
  have hL:L < ds.length:=by omega
  exact PSpec.clo F rfl (fun _ h=>by simp at h; rcases h with rfl | rfl <;> rfl) rfl _ (hσ0 L (L + 1)) fun env hsc hE=>Ex.stop (H k) hE (AtSc.refl hsc) hks r1 ((evS_ift (xT (by refine t_cmp (e_bin rfl rfl rfl) rfl ?_; exact (deq_int _ _).trans (congrArg some (beq_iff_eq.mpr (Int.natCast_succ L).symm))))).trans (evB_one (s_ret (by refine e_sub rfl rfl ?_; rw [nth_int hL hN,d2vD_one hL])))) (.inl rfl)
 intro m
 induction m with
 | zero=>intro L R h1 h2 h3; exact base 0 L R (by omega) h2
 | succ m ih =>
  intro L R h1 h2 h3
  by_cases hb:R = L + 1
  ·exact base _ L R hb h2
  ·have hp:2 ^ (m + 1) = 2 ^ m + 2 ^ m:=by rw [Nat.pow_succ,Nat.mul_two]
   obtain ⟨M,mm⟩:=mid_ok h1 hb (hp ▸ h3) h2 hN
   have m1:=mm.a
   have m2:=mm.b
   have eM:=mm.fd
   have eS:((M:Int) - L) * n = ((n * (M - L):Nat):Int):=by
    rw [Int.natCast_mul,Int.natCast_sub (Nat.le_of_lt m1),Int.mul_comm]
   have hmul:IntMulOk ((M:Int) - L) n:=IntMulOk.of_left mm.bt
   have hsn:n * (M - L) <= 2 ^ 26:=Nat.le_trans (Nat.mul_le_mul_left _ mm.f) hn
   have hbn:bits (d2vD n ds M R) <= 2 ^ 26:=Nat.le_trans (d2vD_bits hds h2) (Nat.le_trans (Nat.mul_le_mul_left _ mm.g) hn)
   refine PSpec.clo F rfl (fun _ h=>by simp at h; rcases h with rfl | rfl <;> rfl) rfl _ (hσ0 L R) fun env hsc hE=>?_
   have hA:=AtSc.refl hsc
   have hbeq:=mm.ne
   refine Ex.step (H _) hE hA hks r1 ((evS_iff (xT (by refine t_cmp (e_bin rfl rfl rfl) rfl ?_; exact (deq_int _ _).trans (congrArg some hbeq)))).trans evB_nil) ?_
   refine Ex.step (σ':=[.d (.int L),.d (.int R),.d (.int M),.no,.sd (.lst (ds.map .int)),.val (.ref a),.sd (.int n)]) (H _) hE hA hks r2 (by refine s_asg (e_bin (e_bin rfl rfl rfl) rfl ?_) rfl; exact congrArg (fun z=>some (D.int z)) eM) ?_
   refine Ex.step (σ':=[.d (.int L),.d (.int R),.d (.int M),.d (.int ((n * (M - L):Nat):Int)),.sd (.lst (ds.map .int)),.val (.ref a),.sd (.int n)]) (H _) hE hA hks r3 (by refine s_asg (e_bin (e_bin rfl rfl rfl) rfl ?_) rfl; exact (if_pos hmul).trans (congrArg (fun z=>some (D.int z)) eS)) ?_
   refine Ex.cons (ExS.ret (d:=.int (d2vD n ds L R)) ?_ (.inl rfl))
   obtain ⟨v1,v2,v3⟩:=vr_var hA r4
   obtain ⟨v4,v5,v6⟩:=vr_var hA r5
   rw [d2vD_split (M:=M) (Nat.le_of_lt m1) (Nat.le_of_lt m2) h2]
   obtain ⟨o,q1,q2⟩:=F.at0
   refine Ev.bin (Ev.bin (a:=.int (d2vD n ds M R)) (b:=.int ((n * (M - L):Nat):Int)) (d:=.int (d2vD n ds M R * 2 ^ (n * (M - L)))) (Ev.call (EvV.val v1 rfl v2 v3) (Kp.fn q1 q2) (evL_s (H _) _ hA r6 rfl) (ih M R m2 h2 mm.d)) (evE_s (H _) _ hA r7 rfl) (bin2_sound ?_)) (Ev.call (EvV.val v4 rfl v5 v6) (Kp.fn q1 q2) (evL_s (H _) _ hA r8 rfl) (ih L M m1 mm.h mm.c)) (bin2_sound rfl)
   show shlI _ _ = _
   unfold shlI
   rw [if_pos ⟨by omega,by omega⟩]
   rfl
end
end
section
noncomputable def lenD (a:D):Option D:=match a with
 | .lst l=>if l.length <= 1000000 then some (.int l.length) else none
 | .tup l=>if l.length <= 1000000 then some (.int l.length) else none
 | .str x=>if x.length <= 16777216 then some (.int x.length) else none
 | _=>none
noncomputable def bg (f:Nat) (ds:List D):Option D:=match f with
 | 0=>l1 ds lenD
 | 1=>l1 ds fun a=>oL a fun l=>match ints? l with
  | some ns=>some (.int ns.sum)
  | none=>none
 | 4=>l1 ds fun a=>oL a fun l=>if l.length <= 1000000 then some (.tup l) else none
 | 5=>l2 ds fun a b=>iI a b fun a b=>if b ≠ 0 /\ Builtin.divisionGoesByPylong a b = false then some (.tup [.int (a.fdiv b),.int (a.fmod b)]) else none
 | _=>none
theorem bg_hi {f:Nat} {ds:List D} {d:D} {P:Prop} (l:100 <= f) (e:bg f ds = some d):P:=by
 obtain ⟨n,rfl⟩:∃ n,f = n + 100:=⟨f - 100,by omega⟩
 cases e
theorem bg_len {l:List D} (h:l.length <= 1000000):bg 0 [.lst l] = some (.int l.length):=if_pos h
theorem bg_lenI {l:List Int} {n:Nat} (e:l.length = n) (h:n <= 1000000):bg 0 [.lst (l.map .int)] = some (.int n):=by
 rw [bg_len (by rw [List.length_map,e]; exact h),List.length_map,e]
noncomputable def nmB:Nat -> Str
 | 0=>"len" | 1=>"sum" | 2=>"max" | 3=>"list" | 4=>"tuple" | _=>"divmod"
structure Bs (C:Cx):Prop where
 no:∀ x ∈ ([("len":Str),"sum","max","list","tuple","divmod","range","reversed"]:List Str),C.mg x = none
 attr:∀ x d d',attD x d = some d' -> Op1 C (fun v=>getAttr v (an x) true) d d'
 con:∀ n d,gcV n = some d -> ∃ v,GV C (gcN n) v /\ ∀ Z h,IsD C Z h v d
section
variable {C:Cx}
theorem Bs.gv (H:Bs C) {x:Str} {v:Value} (hx:x ∈ ([("len":Str),"sum","max","list","tuple","divmod","range","reversed"]:List Str)) (hv:bootBuiltins x = some v) (h1:x ≠ "__name__") (h2:(x == ("__debug__":Str)) = false):GV C x v:=⟨.inr ⟨H.no x hx,hv,h1⟩,h2⟩
theorem Bs.gd (H:Bs C) (k:Nat):Gd C k bg nmB:=by
 have g0:GV C "len" (.builtin "len"):=H.gv (by simp) (by kernel_rfl) (by decide) (by decide)
 have g1:GV C "sum" (.builtin "sum"):=H.gv (by simp) (by kernel_rfl) (by decide) (by decide)
 have g4:GV C "tuple" (.type "tuple"):=H.gv (by simp) (by kernel_rfl) (by decide) (by decide)
 have g5:GV C "divmod" (.builtin "divmod"):=H.gv (by simp) (by kernel_rfl) (by decide) (by decide)
 refine ⟨⟨fun f ds d _ e=>?_,H.gv (by simp) (by kernel_rfl) (by decide) (by decide),H.gv (by simp) (by kernel_rfl) (by decide) (by decide)⟩,fun f x ds d l e=>bg_hi l e,H.attr,H.con⟩
 match f,e with
 | 0,e =>
  refine l1_t (ds:=ds) e fun a e=>?_
  cases a with
  | lst l=>exact ite_t e fun q e=>by cases e; exact ⟨_,g0,Kp.builtin,PSpec.lenL q⟩
  | tup l=>exact ite_t e fun q e=>by cases e; exact ⟨_,g0,Kp.builtin,PSpec.lenT q⟩
  | str l=>exact ite_t e fun q e=>by cases e; exact ⟨_,g0,Kp.builtin,PSpec.lenS q⟩
  | _=>cases e
 | 1,e =>
  refine l1_t (ds:=ds) e fun a e=>oL_t (b:=a) e fun l e=>?_
  cases q:ints? l with
  | none=>rw [q] at e; cases e
  | some ns=>rw [q] at e; cases e; rw [ints?_eq q]; exact ⟨_,g1,Kp.builtin,PSpec.sum⟩
 | 2,e=>cases e
 | 3,e=>cases e
 | 4,e=>exact l1_t (ds:=ds) e fun a e=>oL_t (b:=a) e fun l e=>ite_t e fun q e=>by cases e; exact ⟨_,g4,Kp.type,PSpec.tupleL q⟩
 | 5,e=>exact l2_t (ds:=ds) e fun a b e=>iI_t (a:=a) (b:=b) e fun a b e=>ite_t e fun q e=>by cases e; exact ⟨_,g5,Kp.builtin,PSpec.divmod q.1 q.2⟩
 | _ + 6,e=>cases e
theorem Bs.up {h:Heap} (U:Up C h) (H:Bs C):Bs (C.up h):=⟨H.no,fun x d d' e=>(H.attr x d d' e).up U,fun n d e=>let ⟨v,a,b⟩:=H.con n d e; ⟨v,a,fun Z h'=>(b Z h').cast (C:=C) (C':=C.up h) rfl⟩⟩
noncomputable def innV (σ:Vars) (ms:List (Option Nat)):Vars:=ms.map fun m=>match m with
 | some i=>(match σ[i]? with
  | some (.sd d)=>.sd d
  | some (.val u)=>.val u
  | _=>.no)
 | none=>.no
noncomputable def innB (outer inner:List (Str × NameKind)) (ms:List (Option Nat)):Bool :=
 inner.length == ms.length && (inner.zip ms).all fun p=>match p.2 with
  | some i=>p.1.2 == .free && (match outer[i]? with | some (y,k')=>y == p.1.1 && (k' == .cell || k' == .free) | none=>false)
  | none=>true
theorem innB_get {outer inner:List (Str × NameKind)} {m:List (Option Nat)} (h:innB outer inner m = true) {j:Nat} {x:Str} {k:NameKind} {i:Nat} (e:inner[j]? = some (x,k)) (hm:m[j]? = some (some i)) :
  k = .free /\ ∃ k',outer[i]? = some (x,k') /\ (k' = .cell \/ k' = .free):=by
 unfold innB at h
 rw [Bool.and_eq_true] at h
 have hz:(inner.zip m)[j]? = some ((x,k),some i):=by rw [List.getElem?_zip_eq_some]; exact ⟨e,hm⟩
 have:=List.all_eq_true.mp h.2 _ (List.mem_of_getElem? hz)
 simp only [Bool.and_eq_true] at this
 obtain ⟨h1,h2⟩:=this
 cases q:outer[i]? with
 | none=>rw [q] at h2; cases h2
 | some p =>
  obtain ⟨y,k'⟩:=p
  rw [q] at h2
  simp only [Bool.and_eq_true,beq_iff_eq,Bool.or_eq_true] at h2
  obtain ⟨rfl,h4⟩:=h2
  exact ⟨by simpa using h1,k',rfl,h4⟩
theorem SimO.cloV {B:Base} {U:Addr -> Prop} {O:Own} {env:Env} {σ:Vars} {s:Shared} (S:SimO C B U O env σ s) (hB:∀ b o,B.get b = some o -> C.h0.get? b = some o) (hk:∀ b o,¬ Zf U O b -> s.heap.get? b = some o -> C.h0.get? b = some o)
  {inner:List (Str × NameKind)} {ms:List (Option Nat)} {clos:List (Str × Addr)} {n:Nat} {ds:List D} (hi:innB env.scope.names inner ms = true) (hc:∀ x c,(x,NameKind.free) ∈ inner -> env.cells.lookup x = some c -> clos.lookup x = some c)
  (hO:∀ c i,O c ≠ some (.cell i)):CloV C inner n clos ds (innV σ ms):=by
 intro j x kk av e1 e2
 unfold innV at e2
 rw [List.getElem?_map] at e2
 cases q:ms[j]? with
 | none=>rw [q] at e2; cases e2
 | some m =>
  rw [q] at e2
  cases m with
  | none=>simp at e2; exact .inl e2.symm
  | some i =>
   obtain ⟨rfl,k',f1,f2⟩:=innB_get hi e1 q
   obtain ⟨m0,hm0,hv⟩:=S.vars
   have hmem:=List.mem_of_getElem? e1
   cases r:σ[i]? with
   | none=>simp [r] at e2; exact .inl e2.symm
   | some a0 =>
    cases a0 with
    | sd d =>
     simp [r] at e2
     obtain ⟨_,c,v,c1,⟨o,g,e⟩,c4⟩:=hv i x k' _ f1 r
     exact .inr (.inr (.inl ⟨rfl,d,c,v,o,e2.symm,hc x c hmem c1,hB c o g,e,c4.mono (fun b o n g=>hk b o n g) fun b o n g q=>n (.inl (S.tu b q))⟩))
    | val u =>
     simp [r] at e2
     rcases hv i x k' _ f1 r with (⟨rfl,_⟩ | ⟨_,c,_,c2,_⟩) | ⟨_,c,o,c1,c2,c3⟩
     ·simp at f2
     ·exact absurd c2 (hO c i)
     ·exact .inr (.inr (.inr ⟨rfl,u,c,o,e2.symm,hc x c hmem c1,c2,c3⟩))
    | _=>simp [r] at e2; exact .inl e2.symm
end
end
section
section
variable {C:Cx} {B:Base} {U:Addr -> Prop} {O:Own} {env:Env} {σ:Vars} {s:Shared} {k:Nat}
theorem fix_down (S:SimO C B U O env σ s) {X:List Addr} (hX:∀ b ∈ X,O b ≠ none) {Q Q':Fl -> Vars -> Prop} {f:Flow} {s':Shared}
  (h:Post (C.up (fixH C s X)) ⟨fun b=>(fixH C s X).get? b⟩ U env Q f s') (hq:∀ fl σ,Q fl σ -> Q' fl []):Post C B U env Q' f s':=by
 obtain ⟨O3,σ3,fl,S3,hf,q⟩:=h
 have H:=S.fixUp hX
 have hBh:∀ b o,B.get b = some o -> (fixH C s X).get? b = some o:=fun b o g=>hideAll_get _ (S.keepB b o g) fun q=>by
  rcases List.mem_append.mp q with q | q
  ·rw [S.bt b q] at g; cases g
  ·rw [(S.ob b (hX b q)).1] at g; cases g
 obtain ⟨m,hm,_⟩:=S3.vars
 refine ⟨O3,[],fl,⟨S3.ok.down H,S3.ev,S3.tu,S.bt,fun b o g=>S3.keepB b o (hBh b o g),S3.lt,fun b hb=>⟨?_,(S3.ob b hb).2⟩,fun b hb=>?_,S3.hL,m,hm,fun i x kk av e1 e2=>by simp at e2⟩,?_,hq _ _ q⟩
 ·cases g:B.get b with
  | none=>rfl
  | some o=>have this:(fixH C s X).get? b = none:=(S3.ob b hb).1; rw [hBh b o g] at this; cases this
 ·cases g:C.h0.get? b with
  | none=>rfl
  | some o=>have this:(fixH C s X).get? b = none:=S3.oh b hb; rw [H.sub b o g] at this; cases this
 ·cases f <;> cases fl <;> first | exact hf | exact IsD.cast (C:=C.up (fixH C s X)) (C':=C) rfl hf
theorem ks_free {names:List (Str × NameKind)} {ms:List (Option Nat)} (h:∀ j:Nat,(names[j]?).map (fun (p:Str × NameKind)=>p.2) = some NameKind.free -> ∃ i,ms[j]? = some (some i)) {outer:List (Str × NameKind)} (hi:innB outer names ms = true) {x:Str} (hx:(x,NameKind.free) ∈ names) :
  ∃ i k',outer[i]? = some (x,k') /\ (k' = .cell \/ k' = .free) /\ some i ∈ ms:=by
 obtain ⟨j,hj⟩:=List.getElem?_of_mem hx
 obtain ⟨i,hm⟩:=h j (by rw [hj]; rfl)
 obtain ⟨_,k',f1,f2⟩:=innB_get hi hj hm
 exact ⟨i,k',f1,f2,List.mem_of_getElem? hm⟩
theorem CloOk.eqb {C:Cx} {f:Addr} {g:List Stmt -> FuncData} {a b:List Stmt} {n:Nat} {clos:List (Str × Addr)} (h:a = b) (F:CloOk C f (g a) a n clos):CloOk C f (g b) b n clos:=by
 subst h; exact F
theorem d2i_spec {ib:List Stmt} {a cc P:Addr} {fd:FuncData} {name:Str} {params:Arguments} {isc:Scope} {dpos:Pos} {s1 s2 s3:Stmt} {y y1 y2:Str} {p1 p2 p3 p4 q1 q2 q3 q4 q5 q6 q7:Pos} {ct f1 f2 f3 e1 e2 e3 e4 e5:Expr}
  (hib:ib = [s1,s2,s3,.Return (some (.BinOp (.BinOp (.Call (.Name y1 q1) [e1,e2] [] q2) .LShift e3 q3) .Add (.Call (.Name y2 q4) [e4,e5] [] q5) q6)) q7])
  (F:FnOk C a fd [.FunctionDef name params ib [] none [] isc none name dpos,.Return (some (.IfExp ct (.Call (.Name y p1) [f1,f2] [] p2) f3 p3)) p4] 2)
  (Bq:Bs C) (hcode:fd.code = .ref cc) (hcp:(cc,P) ∈ C.tabs) (hqn:C.qn P dpos.line dpos.col = fd.qualname ++ ".<locals>." ++ name)
  (hks:fd.scope.names.map (·.2) = [.cell,.cell,.cell,.globalImplicit]) (iks:isc.names.map (·.2) = [.local,.local,.local,.local,.free,.free,.free])
  (hS:(vr fd.scope 2 name && vr fd.scope 2 y && repT nmB fd.scope (.e (.var 0)) ct && repL nmB fd.scope [.int 0,.call 0 [.var 0]] [f1,f2] && repE nmB fd.scope (.int 0) f3 && innB fd.scope.names isc.names [none,none,none,none,some 0,some 2,some 1]) = true)
  (hr:(repS nmB isc d2i_s1 s1 && repS nmB isc d2i_s2 s2 && repS nmB isc d2i_s3 s3 && vr isc 5 y1 && vr isc 5 y2 && repL nmB isc [.var 2,.var 1] [e1,e2] && repE nmB isc (.var 3) e3 && repL nmB isc [.var 0,.var 2] [e4,e5]) = true)
  (hi1:isc.isCoroutine = false) (hi2:isc.isGenerator = false) (hi3:isc.kind = .function) (hi4:(isc.names.map (·.1)).Nodup)
  (hd0:params.defaults = []) (hk0:params.kw_defaults = []) (ha:∀ env,annTrees params none env = [])
  (hbind:∀ (body:List Stmt) (clos:List (Str × Addr)) (doc pm cv ctv:Value) (qual:Str) (vs:List Value),vs.length = 2 -> bindArgs (fnX name qual params body isc clos .none .none doc pm none cv ctv) ⟨vs,[]⟩ = pure (((isc.names.take 2).map (·.1)).zip vs))
  {ds:List Int} {n:Nat} (hds:∀ x ∈ ds,0 <= x /\ x < 2 ^ n) (hn:n * ds.length <= 2 ^ 26) (hN:ds.length <= 1000000) (hn1:n <= 2 ^ 26) :
  PSpec C 23 (.ref a) [.lst (ds.map .int),.int n] (.int (d2v n ds)):=by
 refine (CSpec.fn (k:=22) F rfl fun env hA hE hZ3=>?_).pspec; obtain ⟨g1,g2,g3⟩:=hZ3
 rw [hks]
 refine and6 hS fun t1 t2 t3 t4 t5 t6=>?_
 intro B U A s R ⟨O,S⟩
 have t6':innB env.scope.names isc.names [none,none,none,none,some 0,some 2,some 1] = true:=by rw [g1]; exact t6
 have hfr:∀ x,(x,NameKind.free) ∈ isc.names -> ∃ i k',env.scope.names[i]? = some (x,k') /\ (k' = .cell \/ k' = .free) /\ some i ∈ [none,none,none,none,some 0,some 2,some 1]:=fun x hx=>ks_free (fun j hj=>by
  rw [<- List.getElem?_map,iks] at hj
  match j with
  | 0=>cases hj
  | 1=>cases hj
  | 2=>cases hj
  | 3=>cases hj
  | 4=>exact ⟨0,rfl⟩
  | 5=>exact ⟨2,rfl⟩
  | 6=>exact ⟨1,rfl⟩
  | j + 7=>simp at hj) t6' hx
 obtain ⟨mo,hmo,hvo⟩:=S.vars
 obtain ⟨clos,hcl,hcl1,_⟩:=closureFor_some (env:=env) (scope:=isc) fun x kk hx hk=>by
  subst hk
  obtain ⟨i,k',h1,h2,h3⟩:=hfr x hx
  simp at h3
  rcases h3 with rfl | rfl | rfl
  ·obtain ⟨c,hc⟩:=(hvo 0 x k' _ h1 rfl).cellAt h2 rfl; rw [hc]; rfl
  ·obtain ⟨c,hc⟩:=(hvo 2 x k' _ h1 rfl).cellAt h2 rfl; rw [hc]; rfl
  ·obtain ⟨c,hc⟩:=(hvo 1 x k' _ h1 rfl).cellAt h2 rfl; rw [hc]; rfl
 have hkn:env.kindOf name = some .cell:=kd_kind hE hA t1 (by
  unfold kd
  have:(fd.scope.names[2]?).map (·.2) = some .cell:=by rw [<- List.getElem?_map,hks]; rfl
  cases q:fd.scope.names[2]? with
  | none=>rw [q] at this; cases this
  | some p=>rw [q] at this; simpa using this) (by decide)
 have hq:qualnameIn env name name = fd.qualname ++ ".<locals>." ++ name:=by
  unfold qualnameIn; rw [hkn,g3]; rfl
 refine genQ fun κ0 hκ0=>stepK fun κ hκ=>(def_wp S (by rw [g2]; exact hcode) hcp (by rw [hq]; exact hqn) hcl hd0 hk0 (ha env) (hA.isSto (vr_sto t1 (by rw [hks]; rfl))) fun f cv ctv doc pm s' s₁ x fr S' kb hf hcr ⟨c',hcv,nc⟩=>hκ _ _ ?_)
 clear hκ κ
 have hX:∀ b ∈ [env.locals],O b ≠ none:=fun b hb=>by rw [List.mem_singleton.mp hb,S.hL]; simp
 obtain ⟨O',S2,hO',hOc⟩:=S'.fix hX (fun b i hb=>fun q=>by rw [List.mem_singleton.mp q,S.hL] at hb; cases hb) (by simp)
 have hU:=S'.fixUp hX
 have Of:O f = none:=S.frO fr
 have fL:f ≠ env.locals:=fun q=>by rw [q,S.hL] at Of; cases Of
 have fT:f ∉ C.T:=S.ok.frT fr
 have inH:∀ b o,b ∉ C.T -> b ≠ env.locals -> s'.heap.get? b = some o -> (fixH C s' [env.locals]).get? b = some o:=fun b o h1 h2 g=>hideAll_get _ g fun q=>by
  rcases List.mem_append.mp q with q | q
  ·exact h1 q
  ·exact h2 (List.mem_singleton.mp q)
 have hfH:=inH f _ fT fL (kb f _ Of hf)
 have CL:CloOk (C.up (fixH C s' [env.locals])) f (fnX name (qualnameIn env name name) params ib isc clos .none .none doc pm none cv ctv)
   ib 2 clos:=by
  refine ⟨⟨_,hfH,rfl⟩,?_,rfl,rfl,rfl,rfl,hi1,hi2,hi3,hi4,hbind _ _ _ _ _ _ _,fun p hp=>?_,fun p hp=>?_,?_⟩
  ·obtain ⟨c2,o,vs,t,e,g,r⟩:=hcr
   rw [hcv] at e; cases e
   refine ⟨c',o,vs,t,hcv,inH c' o nc (fun q=>?_) g,r⟩
   obtain ⟨_,hmL,_⟩:=S'.vars
   obtain ⟨oL,_,_,gL,dL,_⟩:=hmL
   rw [q,gL] at g; cases g
   rw [dL] at r; cases r.1
  ·obtain ⟨j,hj⟩:=List.getElem?_of_mem hp
   rw [List.getElem?_take] at hj
   split at hj
   ·rename_i hlt
    have:(isc.names[j]?).map (·.2) = ([.local,.local,.local,.local,.free,.free,.free]:List NameKind)[j]?:=by rw [<- List.getElem?_map,iks]
    rw [hj] at this
    match j,hlt with
    | 0,_=>simpa using this
    | 1,_=>simpa using this
   ·cases hj
  ·have:p.2 ∈ isc.names.map (·.2):=List.mem_map_of_mem (f:=(·.2)) hp
   rw [iks] at this
   intro q; rw [q] at this; simp at this
  ·have:(isc.names.map (·.2)).length = 7:=by rw [iks]; rfl
   rw [List.length_map] at this
   show 2 <= isc.names.length
   omega
 have hσ2:fixV (List.set (initV [.cell,.cell,.cell,.globalImplicit] [.lst (ds.map .int),.int n]) 2 (.val (.ref f))) (env.scope.names.map (·.2)) = [.sd (.lst (ds.map .int)),.sd (.int n),.val (.ref f),.no]:=by
  rw [g1,hks]; rfl
 rw [hσ2] at S2
 have V:=S2.cloV (n:=2) (ds:=[.int 0,.int 0]) (clos:=clos) (fun b o g=>g) (fun b o n g=>inH b o (fun q=>n (.inl (S.tu b q))) (fun q=>n (.inr ((hO' b).mpr (List.mem_singleton.mpr q)))) g) t6' (fun x c hx hc=>hcl1 x c hx hc) hOc
 have H2:=Bq.up hU
 have main:=fun h=>inner_d2i (C:=C.up (fixH C s' [env.locals])) (n:=n) (CloOk.eqb (g:=fun ib=>fnX name (qualnameIn env name name) params ib isc clos .none .none doc pm none cv ctv) hib CL) (fun k=>H2.gd k) iks hr V hds hn hN hn1 20 0 ds.length h (Nat.le_refl _) (by omega)
 have hA2:AtSc env fd.scope:=hA
 obtain ⟨v1,v2,v3⟩:=vr_var hA t2
 have EX:Ex (C.up (fixH C s' [env.locals])) 22 env [.sd (.lst (ds.map .int)),.sd (.int n),.val (.ref f),.no] [.Return (some (.IfExp ct (.Call (.Name y p1) [f1,f2] [] p2) f3 p3)) p4] fun fl _=>fl = .ret (.int (d2v n ds)):=by
  refine Ex.cons (ExS.ret (d:=.int (d2v n ds)) (Ev.ifExp (t:=!(ds.map D.int).isEmpty) (evT_s (H2.gd 22) _ hA t3 ?_) (fun hne=>?_) fun he=>?_) rfl)
  ·exact t_e rfl (if_pos (by rw [List.length_map]; exact hN))
  ·have hpos:0 < ds.length:=by
    cases ds with
    | nil=>simp at hne
    | cons _ _=>simp
   have e0:d2vD n ds 0 ds.length = d2v n ds:=by unfold d2vD; simp
   rw [<- e0]
   refine Ev.call (ds:=[.int 0,.int ds.length]) (EvV.val v1 rfl v2 v3) (Kp.fn hfH rfl) (evL_s (H2.gd 22) _ hA t4 ?_) ((main hpos).le (by omega))
   exact l_two rfl (e_call rfl (bg_lenI rfl hN))
  ·have e0:ds = []:=by
    cases ds with
    | nil=>rfl
    | cons _ _=>simp at he
   subst e0
   exact evE_s (H2.gd 22) _ hA t5 rfl
 exact wpT (EX _ U A s' R ⟨O',S2⟩) fun f' s3 hp=>hκ0 _ _ <| fix_down S' hX hp fun fl σ e=>.inl e
end
end
section
noncomputable def i2d (n:Nat):Nat -> Nat -> List Int
 | _,0=>[]
 | x,c + 1=>((x % 2 ^ n:Nat):Int) :: i2d n (x / 2 ^ n) c
theorem i2d_len (n:Nat):∀ (c x:Nat),(i2d n x c).length = c
 | 0,_=>rfl
 | c + 1,x=>by rw [i2d,List.length_cons,i2d_len n c]
theorem i2d_split (n:Nat):∀ (a b x:Nat),i2d n x (a + b) = i2d n (x % 2 ^ (n * a)) a ++ i2d n (x / 2 ^ (n * a)) b
 | 0,b,x=>by simp [i2d]
 | a + 1,b,x=>by
  have e:a + 1 + b = (a + b) + 1:=by omega
  rw [e,i2d,i2d_split n a b,i2d,List.cons_append,Nat.mul_add,Nat.mul_one,Nat.add_comm (n * a),Nat.pow_add]
  congr 1
  ·rw [Nat.mod_mul_right_mod]
  ·rw [Nat.mod_mul_right_div_self,Nat.div_div_eq_div_mul]
theorem i2d_one {n x:Nat} (h:x < 2 ^ n):i2d n x 1 = [(x:Int)]:=by
 simp [i2d,Nat.mod_eq_of_lt h]
theorem and_high (x s:Nat):x &&& (x / 2 ^ s * 2 ^ s) = x / 2 ^ s * 2 ^ s:=by
 apply Nat.eq_of_testBit_eq
 intro i
 rw [Nat.testBit_and,Nat.mul_comm,Nat.testBit_two_pow_mul,Nat.testBit_div_two_pow]
 by_cases h:s <= i
 ·have e:s + (i - s) = i:=by omega
  simp [h]
 ·simp [h]
theorem bitXor_low (x s:Nat):Builtin.bitXor (x:Int) ((x / 2 ^ s * 2 ^ s:Nat):Int) = ((x % 2 ^ s:Nat):Int):=by
 have e:Builtin.bitAnd (x:Int) ((x / 2 ^ s * 2 ^ s:Nat):Int) = ((x / 2 ^ s * 2 ^ s:Nat):Int):=by
  unfold Builtin.bitAnd
  have h1:decide ((0:Int) <= (x:Int)) = true:=by simp
  have h2:decide ((0:Int) <= ((x / 2 ^ s * 2 ^ s:Nat):Int)) = true:=by
   rw [decide_eq_true_eq]; exact Int.natCast_nonneg _
  rw [h1,h2]
  show (((x:Int).toNat &&& ((x / 2 ^ s * 2 ^ s:Nat):Int).toNat:Nat):Int) = _
  rw [Int.toNat_natCast,Int.toNat_natCast,and_high]
 rw [bitXor_and,e]
 have h:=Nat.div_add_mod x (2 ^ s)
 rw [Nat.mul_comm] at h
 generalize x / 2 ^ s * 2 ^ s = y at *
 omega
section
variable {C:Cx} {B:Base} {U:Addr -> Prop} {O:Own} {env:Env} {σ:Vars} {s s':Shared} {k:Nat}
theorem SimO.pokeExt (S:SimO C B U O env σ s) (K:OK C s') {a:Addr} (hO:O a = none) (hU:U a) (hB:B.get a = none) (hk:∀ b o,b ∉ C.T -> b ≠ a -> s.heap.get? b = some o -> s'.heap.get? b = some o) (hex:∃ o,s'.heap.get? a = some o):SimO C B U O env σ s':=by
 obtain ⟨m,hm,hv⟩:=S.vars
 have nO:∀ c,O c ≠ none -> c ≠ a:=fun c hc q=>hc (q ▸ hO)
 have kO:∀ c,O c ≠ none -> ∀ o,s.heap.get? c = some o -> s'.heap.get? c = some o:=fun c hc o g=>hk c o (S.nT hc) (nO c hc) g
 refine ⟨K,S.ev,S.tu,S.bt,fun b o e=>hk b o (fun q=>by rw [S.bt b q] at e; cases e) (fun q=>by rw [q,hB] at e; cases e) (S.keepB b o e),fun b hb=>?_,S.ob,S.oh,S.hL,m,?_,fun i x kk av e1 e2=>?_⟩
 ·by_cases q:b = a
  ·rw [q]; exact hex
  ·by_cases hT:b ∈ C.T
   ·obtain ⟨ps,g,_⟩:=K.tab b hT; exact ⟨_,g⟩
   ·obtain ⟨o,g⟩:=S.lt b hb; exact ⟨o,hk b o hT q g⟩
 ·obtain ⟨o,es,ep,g,r⟩:=hm
  exact ⟨o,es,ep,kO _ (nnS S.hL) o g,r⟩
 ·exact (hv i x kk av e1 e2).step (fun _=>rfl) (fun c hc=>⟨hc,kO c (nnS hc)⟩) (fun c hc=>⟨hc,kO c (nnS hc)⟩) (fun c hc=>⟨hc,kO c (nnS hc)⟩) fun b o n g=>⟨hk b o (fun q=>n (S.zt b q)) (fun q=>n (.inl (q ▸ hU))) g,n⟩
end
end
section
theorem clo_enter {C:Cx} {k:Nat} {a:Addr} {fd:FuncData} {body:List Stmt} {n:Nat} {clos:List (Str × Addr)} {ds:List D} (F:CloOk C a fd body n clos) (hds:ds.length = n) (hat:∀ dd ∈ ds,D.atom dd = true) (σ0:Vars)
  (hσ:CloV C fd.scope.names n clos ds σ0) {l:Addr} {Z:Addr -> Prop} {A:Around} {s:Shared} {vs:List Value} (R:Room (k + 1) A) (K:OK C s) (hl:∃ o,s.heap.get? l = some o) (hl0:C.h0.get? l = none) (i:IsDs C Z s.heap vs ds) {Q:Value -> Shared -> Prop}
  (hex:∀ env s₁ B O,env.scope = fd.scope -> EnvOk env -> Ext C s s₁ -> Room k (A.deeper env) -> SimO C B (fun b=>b ∈ C.T \/ b = l) O env σ0 s₁ -> O l = none -> B.get l = none -> (∀ b o,b ∉ C.T -> b ≠ l -> s.heap.get? b = some o -> B.get b = some o) ->
   wpAny C.M (A.deeper env) (execs body env) (fun f s'=>Q (match f with | .ret v=>v | _=>.none) s') nf s₁):wpAny C.M A (call (.ref a) vs []) Q nf s:=by
 obtain ⟨o,ho,hdata⟩:=F.at0
 have hlen:=i.length
 have hvl:vs.length = n:=by omega
 have hmapfst:(((fd.scope.names.take n).map (·.1)).zip vs).map (·.1) = (fd.scope.names.take n).map (·.1):=by
  rw [List.map_fst_zip]; rw [List.length_map,List.length_take,hvl]; have:=F.len; omega
 have hnd:((((fd.scope.names.take n).map (·.1)).zip vs).map (·.1)).Nodup:=by
  rw [hmapfst,List.map_take]; exact F.nd.sublist (List.take_sublist _ _)
 have hloc:∀ x ∈ ((fd.scope.names.take n).map (·.1)).zip vs,fd.scope.names.lookup x.1 = some .local:=fun x hx=>by
  have hx1:x.1 ∈ (fd.scope.names.take n).map (·.1):=by rw [<- hmapfst]; exact List.mem_map_of_mem (f:=(·.1)) hx
  obtain ⟨p,hp,e⟩:=List.mem_map.mp hx1
  obtain ⟨j,hj⟩:=List.getElem?_of_mem (List.mem_of_mem_take hp)
  obtain ⟨y,kk⟩:=p
  have e2:=F.pk _ hp
  simp only at e e2
  subst e2
  rw [<- e]; exact lookup_of_get F.nd hj
 refine wpAny_call (codeAny_call_function (by have:=R.dep; show A.depth < 1000; omega) (K.keep _ _ ho) hdata F.co F.gen F.body (F.code.keeps K.keep) ?_)
 rw [F.bind vs hvl,F.clo]
 refine wpAny_pure (wpAny_newFunctionEnv F.nc hloc (fun h' hns hsb=>?_) F.kind)
 have keep:∀ b o,s.heap.get? b = some o -> h'.get? b = some o:=fun b o g=>(hsb.2 b (Nat.ne_of_lt (Heap.lt_size g))).trans (Heap.get?_push_of_some _ g)
 refine ⟨(K.good.lim.keeps K.keep).keeps keep,codeAny_func ?_⟩
 generalize henv:newEnv fd.scope s.heap.objs.size fd.globals clos (fd.qualname ++ ".<locals>.") (some a) fd.code none fd.builtins = env
 have hL:env.locals = s.heap.objs.size:=by rw [<- henv]; rfl
 have hcells:env.cells = clos:=by rw [<- henv]; rfl
 have hsc:env.scope = fd.scope:=by rw [<- henv]; rfl
 have hE:EnvOk env:=⟨by rw [hsc]; exact F.kind,by rw [<- henv]; exact F.gl,by rw [<- henv]; exact F.bt,by rw [hsc]; exact F.nd⟩
 have x1:Ext C s { heap:=h',gens:=s.gens,drawn:=s.drawn,toks:=s.toks + (((fd.scope.names.take n).map (·.1)).zip vs).length,os:=s.os }:=.of_keeps K keep
 classical
 let O:Own:=fun b=>if b = env.locals then some .loc else none
 have oL:∀ b,O b ≠ none -> b = env.locals:=fun b hb=>by
  by_cases q:b = env.locals
  ·exact q
  ·exact absurd (if_neg q) hb
 have oLo:∀ b o,s.heap.get? b = some o -> O b = none:=fun b o g=>if_neg fun q=>by
  rw [q,hL] at g; exact absurd (Heap.lt_size g) (Nat.lt_irrefl _)
 let B:Base:=⟨fun b=>if b ∈ C.T \/ b = l then none else s.heap.get? b⟩
 have S:SimO C B (fun b=>b ∈ C.T \/ b = l) O env σ0 { heap:=h',gens:=s.gens,drawn:=s.drawn,toks:=s.toks + (((fd.scope.names.take n).map (·.1)).zip vs).length,os:=s.os }:=by
  refine ⟨x1.ok,hE,fun b hb=>.inl hb,fun b hb=>if_pos (.inl hb),fun b o g=>?_,fun b hb=>?_,fun b hb=>⟨?_,fun q=>?_⟩,fun b hb=>?_,if_pos rfl,_,by rw [hL]; exact hns,fun j x kk av e1 e2=>?_⟩
  ·have g':(if b ∈ C.T \/ b = l then none else s.heap.get? b) = some o:=g
   split at g'
   ·cases g'
   ·exact keep b o g'
  ·rcases hb with hb | hb
   ·rcases hb with hb | rfl
    ·obtain ⟨ps,g,_⟩:=x1.ok.tab b hb; exact ⟨_,g⟩
    ·exact x1.ex hl
   ·have e:=oL b hb
    subst e
    obtain ⟨o,_,_,g,_⟩:=hns; rw [hL]; exact ⟨o,g⟩
  ·show (if b ∈ C.T \/ b = l then none else s.heap.get? b) = none
   split
   ·rfl
   ·rw [oL b hb,hL]; exact Heap.get?_none_of_le (Nat.le_refl _)
  ·rcases q with q | rfl
   ·obtain ⟨ps,g,_⟩:=K.tab b q; exact hb (oLo b _ g)
   ·obtain ⟨o,g⟩:=hl; exact hb (oLo b o g)
  ·rw [oL b hb,hL]
   cases q:C.h0.get? s.heap.objs.size with
   | none=>rfl
   | some o=>exact absurd (Heap.lt_size (K.keep _ _ q)) (Nat.lt_irrefl _)
  ·rw [hsc] at e1
   rcases hσ j x kk av e1 e2 with rfl | ⟨dd,hj,g1,rfl⟩ | ⟨rfl,dd,c,v,o,rfl,c1,c2,c3,c4⟩ | ⟨rfl,u,c,o,rfl,c1,c2,c3⟩
   ·trivial
   ·obtain ⟨v,g2,g3⟩:=i.get j g1
    have hmem:(x,v) ∈ ((fd.scope.names.take n).map (·.1)).zip vs:=by
     apply List.mem_of_getElem? (i:=j)
     rw [List.getElem?_zip_eq_some]
     exact ⟨by rw [List.getElem?_map,List.getElem?_take,if_pos hj,e1]; rfl,g2⟩
    have hk:=hloc _ hmem
    rw [lookup_of_get F.nd e1] at hk
    cases hk
    exact ⟨v,.inl ⟨rfl,lookup_rev hnd hmem⟩,g3.atom (hat dd (List.mem_of_getElem? g1))⟩
   ·refine ⟨.inr rfl,c,v,by rw [hcells]; exact c1,⟨o,?_,c3⟩,c4.mono (fun b o n g=>keep b o (K.keep b o g)) fun b o n g q=>by
     rcases q with (q | q) | q
     ·exact n q
     ·rw [q,hl0] at g; cases g
     ·exact q (oLo b o (K.keep b o g))⟩
    show (if c ∈ C.T \/ c = l then none else s.heap.get? c) = some o
    rw [if_neg (fun q=>by
     rcases q with q | q
     ·rw [K.good.notab c q] at c2; cases c2
     ·rw [q,hl0] at c2; cases c2)]; exact K.keep c o c2
   ·exact .inr ⟨.inr rfl,c,o,by rw [hcells]; exact c1,c2,c3⟩
 refine wpAny_mono (hex env _ B O hsc hE x1 R.deeper S (let ⟨o,g⟩:=hl; oLo l o g) (if_pos (.inr rfl)) fun b o h1 h2 g=>?_) (fun f s' h=>h) fun _ _ e=>e.elim
 show (if b ∈ C.T \/ b = l then none else s.heap.get? b) = some o
 rw [if_neg (fun q=>q.elim h1 h2)]; exact g
end
section
noncomputable def splice (cur:List Int) (L R:Nat) (ds:List Int):List Int:=cur.take L ++ ds ++ cur.drop R
theorem splice_splice {cur:List Int} {L M R:Nat} {a b:List Int} (h1:L <= M) (h2:M <= R) (h3:R <= cur.length) (ha:a.length = M - L):splice (splice cur L M a) M R b = splice cur L R (a ++ b):=by
 unfold splice
 have e1:(cur.take L ++ a).length = M:=by rw [List.length_append,List.length_take,ha]; omega
 have e2:(cur.take L ++ a ++ cur.drop M).take M = cur.take L ++ a:=by rw [List.take_append_of_le_length (by omega),List.take_of_length_le (by omega)]
 have e3:(cur.take L ++ a ++ cur.drop M).drop R = cur.drop R:=by
  rw [List.drop_append,e1,List.drop_of_length_le (by omega),List.nil_append,List.drop_drop]
  congr 1; omega
 rw [e2,e3,List.append_assoc,List.append_assoc,List.append_assoc,List.append_assoc]
theorem splice_one {cur:List Int} {L:Nat} {x:Int} (h:L < cur.length):splice cur L (L + 1) [x] = cur.set L x:=by
 unfold splice
 rw [List.set_eq_take_append_cons_drop,if_pos h]; simp
section
variable {C:Cx} {B:Base} {U:Addr -> Prop} {O:Own} {env:Env} {σ:Vars} {s s':Shared} {k:Nat} {A:Around}
theorem step_wp {g:G} {nm:Nat -> Str} {sc:Scope} {ks:List NameKind} (H:Gd C k g nm) (hE:EnvOk env) (hA:AtSc env sc) (hks:sc.names.map (·.2) = ks) {st:St} {x:Stmt} {ss:List Stmt} {σ':Vars} {Q:Flow -> Shared -> Prop} (hr:repS nm sc st x = true)
  (he:evS g ks st σ = some (.next,σ')) (R:Room k A) (S:SimO C B U O env σ s) (h:∀ O' s',SimO C B U O' env σ' s' -> wpAny C.M A (execs ss env) Q nf s'):wpAny C.M A (execs (x :: ss) env) Q nf s:=by
 refine wpAny_execs_cons (wpT (evS_s H hE hA hks st hr he B U A s R ⟨O,S⟩) fun f s' hZ2=>?_); obtain ⟨O',σ2,fl,S',hf,e1,e2⟩:=hZ2
 subst e1 e2
 cases f <;> first | exact h O' s' S' | exact hf.elim
theorem bin2_shr (x:Int) (n:Nat):bin2 .RShift (.int x) (.int n) = some (.int (x.fdiv (2 ^ n))):=by
 show shrI x n = _
 rw [shrI,if_pos (Int.natCast_nonneg n)]; rfl
theorem bin2_shl (x:Int) (n:Nat) (h:((bits x:Nat):Int) + (n:Int) <= 2 ^ 27):bin2 .LShift (.int x) (.int n) = some (.int (x * 2 ^ n)):=by
 show shlI x n = _
 rw [shlI,if_pos ⟨Int.natCast_nonneg n,h⟩]; rfl
noncomputable def i2_s1:St:=.if_ (.cmp .Eq (.bin .Add (.var 1) (.int 1)) (.var 2)) [.bad,.bad] []
noncomputable def i2_t1:T:=.cmp .Eq (.bin .Add (.var 1) (.int 1)) (.var 2)
noncomputable def i2_s2:St:=.asg 3 (.bin .RShift (.bin .Add (.var 1) (.var 2)) (.int 1))
noncomputable def i2_s3:St:=.asg 4 (.bin .Mult (.bin .Sub (.var 3) (.var 1)) (.var 9))
noncomputable def i2_s4:St:=.asg 5 (.bin .RShift (.var 0) (.var 4))
noncomputable def i2_s5:St:=.asg 6 (.bin .BitXor (.var 0) (.bin .LShift (.var 5) (.var 4)))
noncomputable def I2Post (C:Cx) (l:Addr) (s:Shared) (cur':List Int) (v:Value) (s':Shared):Prop :=
 v = .none /\ OK C s' /\ (∀ b o,b ∉ C.T -> b ≠ l -> s.heap.get? b = some o -> s'.heap.get? b = some o) /\ ∃ vs',Lst s'.heap l vs' /\ IntsAre vs' cur'
theorem IntsAre.set {v:Int} {t:Tok} {vs:List Value} {ns:List Int} (x:IntsAre vs ns):∀ n,IntsAre (vs.set n (.int v t)) (ns.set n v):=by
 induction x with
 | nil=>exact fun n=>.nil
 | cons a t' b ih =>
  intro n
  cases n with
  | zero=>exact .cons _ _ b
  | succ n=>exact .cons _ _ (ih n)
theorem IntsAre.len {vs:List Value} {ns:List Int} (x:IntsAre vs ns):vs.length = ns.length:=by
 induction x with
 | nil=>rfl
 | cons a t b ih=>exact congrArg (· + 1) ih
theorem inner_i2d {f l:Addr} {fd:FuncData} {clos:List (Str × Addr)} {s1b:List Stmt} {s2 s3 s4 s5:Stmt} {ad y1 y2:Str} {pA sp asp rp ip p1 p2 p3 p4 p5 p6:Pos} {ct eL ex a1 a2 a3 b1 b2 b3:Expr} {n N:Nat}
  (F:CloOk C f fd [.If ct [.Assign [.Subscript (.Name ad pA) eL sp] ex asp,.Return none rp] [] ip,s2,s3,s4,s5,.Expr (.Call (.Name y1 p1) [a1,a2,a3] [] p2) p3,.Expr (.Call (.Name y2 p4) [b1,b2,b3] [] p5) p6] 3 clos)
  (H:∀ k,Gd C k bg nmB) (hks:fd.scope.names.map (·.2) = [.local,.local,.local,.local,.local,.local,.local,.free,.free,.free])
  (hr:(repT nmB fd.scope i2_t1 ct && vr fd.scope 7 ad && repE nmB fd.scope (.var 1) eL && repE nmB fd.scope (.var 0) ex && notComp ex && repS nmB fd.scope i2_s2 s2 && repS nmB fd.scope i2_s3 s3 && repS nmB fd.scope i2_s4 s4 && repS nmB fd.scope i2_s5 s5 && vr fd.scope 8 y1 && vr fd.scope 8 y2 &&
   repL nmB fd.scope [.var 6,.var 1,.var 3] [a1,a2,a3] && repL nmB fd.scope [.var 5,.var 3,.var 2] [b1,b2,b3]) = true)
  (hσ:CloV C fd.scope.names 3 clos [.int 0,.int 0,.int 0] [.no,.no,.no,.no,.no,.no,.no,.val (.ref l),.val (.ref f),.sd (.int n)])
  (hl0:C.h0.get? l = none) (hlT:l ∉ C.T) (hn:n * N <= 2 ^ 26) (hN:N <= 1000000) (hn1:n <= 2 ^ 26) :
  ∀ (m:Nat) (A:Around) (s:Shared) (x L R:Nat) (cur:List Int) (vs args:List Value),Room (m + 1) A -> OK C s -> Lst s.heap l vs -> IntsAre vs cur -> cur.length = N -> L < R -> R <= N -> R - L <= 2 ^ m -> x < 2 ^ (n * (R - L)) -> IntsAre args [(x:Int),L,R] ->
   wpAny C.M A (call (.ref f) args) (I2Post C l s (splice cur L R (i2d n x (R - L)))) nf s:=by
 refine and13 hr fun r1 r2 r3 r4 r5 r6 r7 r8 r9 r10 r11 r12 r13=>?_
 have hσ0:∀ x L R:Nat,CloV C fd.scope.names 3 clos [.int x,.int L,.int R] [.d (.int x),.d (.int L),.d (.int R),.no,.no,.no,.no,.val (.ref l),.val (.ref f),.sd (.int n)]:=fun X L R j x kk av h1 h2=>by
  match j with
  | 0=>cases h2; exact .inr (.inl ⟨_,by decide,rfl,rfl⟩)
  | 1=>cases h2; exact .inr (.inl ⟨_,by decide,rfl,rfl⟩)
  | 2=>cases h2; exact .inr (.inl ⟨_,by decide,rfl,rfl⟩)
  | j + 3 =>
   rcases hσ (j + 3) x kk av h1 h2 with h | ⟨dd,hj,_⟩ | h | h
   ·exact .inl h
   ·omega
   ·exact .inr (.inr (.inl h))
   ·exact .inr (.inr (.inr h))
 have base:∀ (k:Nat) (A:Around) (s:Shared) (x L R:Nat) (cur:List Int) (vs args:List Value),Room (k + 1) A -> OK C s -> Lst s.heap l vs -> IntsAre vs cur -> cur.length = N -> R = L + 1 -> R <= N -> x < 2 ^ (n * (R - L)) -> IntsAre args [(x:Int),L,R] ->
   wpAny C.M A (call (.ref f) args) (I2Post C l s (splice cur L R (i2d n x (R - L)))) nf s:=by
  intro k A s x L R cur vs args Rm K hl hi hcl e hR hx ha
  subst e
  have hlen:=IntsAre.len hi
  have e1:L + 1 - L = 1:=by omega
  rw [e1,Nat.mul_one] at hx
  rw [e1,i2d_one hx,splice_one (by omega)]
  refine clo_enter F rfl (fun _ h=>by simp at h; rcases h with rfl | rfl | rfl <;> rfl) _ (hσ0 x L (L + 1)) (Z:=fun _=>False) Rm K (let ⟨n,g⟩:=hl; ⟨_,g⟩) hl0 (IsDs.of_ints (ns:=[(x:Int),L,((L + 1:Nat):Int)]) ha) fun env s₁ B O hsc hE x1 R1 S hOl hBl hB=>?_
  refine genQ fun κ0 hκ0=>?_
  have hA:=AtSc.refl hsc
  obtain ⟨v1,v2,v3⟩:=vr_var hA r2
  refine stepK fun κ hκ=>(wpAny_If (wpT (evT_s (H k) i2_t1 hA r1 (t:=true) (t_cmp (e_bin rfl rfl rfl) rfl ((deq_int _ _).trans (by simp))) B _ O _ s₁ R1 S) fun b s₂ hZ2=>?_)); obtain ⟨x2,e⟩:=hZ2
  subst e
  have S2:=S.ext x2
  refine stepK fun κ1 hκ1=>(wpAny_Assign_Subscript (wpT (evE_s (H k) (.var 0) hA r4 (d:=.int x) rfl B _ O _ s₂ R1 S2) fun vx s₃ hZ2=>?_) (swaps_no (t:=none) r5)); obtain ⟨x3,i3⟩:=hZ2
  have S3:=S2.ext x3
  refine S3.loadVal (kk:=0) v1 rfl v2 v3 (wpT (evE_s (H k) (.var 1) hA r3 (d:=.int L) rfl B _ O _ s₃ R1 S3) fun vL s₄ hZ2=>?_); obtain ⟨x4,i4⟩:=hZ2
  cases i3
  cases i4
  have x14:=((x1.trans x2).trans x3).trans x4
  obtain ⟨n0,g⟩:=hl.kept fun o g=>x14.keep l o hlT g
  refine setItem_lst g (by omega) (by simp; omega) (by omega) (hκ1 _ _ ?_)
  clear hκ1 κ1
  refine stepK fun κ1 hκ1=>(wpAny_Return_none ?_)
  have hk:∀ (v:Value) b o,b ≠ l -> s₄.heap.get? b = some o -> (s₄.heap.update l (Obj.mapSeq fun xs=>xs.setIfInBounds ((L:Int)).toNat v)).get? b = some o:=fun v b o n e=>((Heap.SameBut.update ..).2 b n).trans e
  refine hκ1 _ _ <| hκ _ _ <| hκ0 _ _ ⟨rfl,x14.ok.but hl0 hlT g (fun vs q=>by cases q) (hk _),fun b o h1 h2 g=>hk _ b o h2 (x14.keep b o h1 g),_,upd_lst _ ⟨n0,g⟩,?_⟩
  simpa using IntsAre.set hi L
 intro m
 induction m with
 | zero=>intro A s x L R cur vs args Rm K hl hi hcl h1 h2 h3 hx ha; exact base 0 A s x L R cur vs args Rm K hl hi hcl (by omega) h2 hx ha
 | succ m ih =>
  intro A s x L R cur vs args Rm K hl hi hcl h1 h2 h3 hx ha
  by_cases hb:R = L + 1
  ·exact base _ A s x L R cur vs args Rm K hl hi hcl hb h2 hx ha
  ·have hp:2 ^ (m + 1) = 2 ^ m + 2 ^ m:=by rw [Nat.pow_succ,Nat.mul_two]
   obtain ⟨M,mm⟩:=mid_ok h1 hb (hp ▸ h3) h2 hN
   have m1:=mm.a
   have m2:=mm.b
   obtain ⟨sh,hsh⟩:∃ sh,sh = n * (M - L):=⟨_,rfl⟩
   have hsn:sh <= 2 ^ 26:=by rw [hsh]; exact Nat.le_trans (Nat.mul_le_mul_left _ mm.f) hn
   have esum:n * (R - L) = sh + n * (R - M):=by rw [hsh,<- Nat.mul_add,<- mm.e]
   obtain ⟨up,hup⟩:∃ up,up = x / 2 ^ sh:=⟨_,rfl⟩
   obtain ⟨lo,hlo⟩:∃ lo,lo = x % 2 ^ sh:=⟨_,rfl⟩
   have hupb:up < 2 ^ (n * (R - M)):=by
    rw [hup]; apply Nat.div_lt_of_lt_mul; rw [<- Nat.pow_add,<- esum]; exact hx
   have hlob:lo < 2 ^ (n * (M - L)):=by rw [hlo,<- hsh]; exact Nat.mod_lt _ (Nat.two_pow_pos _)
   have eM:=mm.fd
   have eS:((M:Int) - L) * n = (sh:Int):=by
    rw [hsh,Int.natCast_mul,Int.natCast_sub (Nat.le_of_lt m1),Int.mul_comm]
   have hmul:IntMulOk ((M:Int) - L) n:=IntMulOk.of_left mm.bt
   have eU:Int.fdiv (x:Int) (2 ^ sh) = (up:Int):=by
    rw [Int.fdiv_eq_ediv_of_nonneg _ (Int.pow_nonneg (by decide)),hup,Int.natCast_ediv]; simp
   have eX:Builtin.bitXor (x:Int) ((up:Int) * 2 ^ sh) = (lo:Int):=by
    have:=bitXor_low x sh
    rw [hup,hlo,<- this]
    congr 1
   have hub:bits (up:Int) <= 2 ^ 26:=Nat.le_trans (bits_le (m:=n * (R - M)) (Int.natCast_nonneg _) (by exact_mod_cast hupb)) (Nat.le_trans (Nat.mul_le_mul_left _ mm.g) hn)
   have hbeq:=mm.ne
   refine clo_enter F rfl (fun _ h=>by simp at h; rcases h with rfl | rfl | rfl <;> rfl) _ (hσ0 x L R) (Z:=fun _=>False) Rm K (let ⟨n,g⟩:=hl; ⟨_,g⟩) hl0 (IsDs.of_ints (ns:=[(x:Int),L,R]) ha) fun env s₁ B O hsc hE x1 R1 S hOl hBl hB=>?_
   refine genQ fun κ0 hκ0=>?_
   have hA:=AtSc.refl hsc
   obtain ⟨n1,g1⟩:=hl.kept fun o g=>x1.keep l o hlT g
   let B1:Base:=⟨fun b=>if b = l then s₁.heap.get? l else B.get b⟩
   have hB1:∀ b o,B1.get b = some o -> (b = l /\ s₁.heap.get? l = some o) \/ B.get b = some o:=fun b o g=>by
    have g':(if b = l then s₁.heap.get? l else B.get b) = some o:=g
    split at g'
    ·exact .inl ⟨‹_›,g'⟩
    ·exact .inr g'
   have hBB:∀ b o,B.get b = some o -> B1.get b = some o:=fun b o g=>by
    show (if b = l then s₁.heap.get? l else B.get b) = some o
    rw [if_neg (fun q=>by rw [q,hBl] at g; cases g)]; exact g
   have S1:SimO C B1 (fun b=>b ∈ C.T \/ b = l) O env _ s₁:=S.rebase hBB (fun b o g=>(hB1 b o g).elim (fun q=>by rw [q.1]; exact q.2) (S.keepB b o))
    (fun b o g=>(hB1 b o g).elim (fun q=>by rw [q.1]; exact ⟨hOl,hlT⟩) fun g'=>⟨(S.boO g'),fun q=>nomatch (S.bt b q).symm.trans g'⟩)
   have r1':repS nmB fd.scope i2_s1 (.If ct [.Assign [.Subscript (.Name ad pA) eL sp] ex asp,.Return none rp] [] ip) = true:=by
    show (repT nmB fd.scope i2_t1 ct && true && true) = true
    rw [r1]; rfl
   refine step_wp (H _) hE hA hks (σ':=[.d (.int x),.d (.int L),.d (.int R),.no,.no,.no,.no,.val (.ref l),.val (.ref f),.sd (.int n)]) r1' ((evS_iff (xT (by refine t_cmp (e_bin rfl rfl rfl) rfl ?_; exact (deq_int _ _).trans (congrArg some hbeq)))).trans evB_nil) R1 S1 fun O1 t1 S1=>?_
   refine step_wp (H _) hE hA hks (σ':=[.d (.int x),.d (.int L),.d (.int R),.d (.int M),.no,.no,.no,.val (.ref l),.val (.ref f),.sd (.int n)]) r6 (by refine s_asg (e_bin (e_bin rfl rfl rfl) rfl ?_) rfl; exact congrArg (fun z=>some (D.int z)) eM) R1 S1 fun O2 t2 S2=>?_
   refine step_wp (H _) hE hA hks (σ':=[.d (.int x),.d (.int L),.d (.int R),.d (.int M),.d (.int sh),.no,.no,.val (.ref l),.val (.ref f),.sd (.int n)]) r7 (by refine s_asg (e_bin (e_bin rfl rfl rfl) rfl ?_) rfl; exact (if_pos hmul).trans (congrArg (fun z=>some (D.int z)) eS)) R1 S2 fun O3 t3 S3=>?_
   refine step_wp (H _) hE hA hks (σ':=[.d (.int x),.d (.int L),.d (.int R),.d (.int M),.d (.int sh),.d (.int up),.no,.val (.ref l),.val (.ref f),.sd (.int n)]) r8 (by refine s_asg (e_bin rfl rfl ?_) rfl; exact (bin2_shr x sh).trans (congrArg (fun z=>some (D.int z)) eU)) R1 S3 fun O4 t4 S4=>?_
   refine step_wp (H _) hE hA hks (σ':=[.d (.int x),.d (.int L),.d (.int R),.d (.int M),.d (.int sh),.d (.int up),.d (.int lo),.val (.ref l),.val (.ref f),.sd (.int n)]) r9 (by refine s_asg (e_bin rfl (e_bin rfl rfl (bin2_shl up sh (by omega))) ?_) rfl; exact congrArg (fun z=>some (D.int z)) eX) R1 S4 fun O5 t5 S5=>?_
   have gl5:∃ n5,t5.heap.get? l = some { cls:=.type "list",data:=.seq vs.toArray n5 }:=⟨n1,S5.keepB l _ (by show (if l = l then s₁.heap.get? l else B.get l) = _; rw [if_pos rfl]; exact g1)⟩
   have S6:SimO C B (fun b=>b ∈ C.T \/ b = l) O5 env _ t5:=S5.unbase hBB fun b o g ⟨w,hw⟩=>(hB1 b o g).elim (fun q=>by
    rw [q.2] at g1; cases g1; cases hw) id
   have keep5:∀ b o,b ∉ C.T -> b ≠ l -> s.heap.get? b = some o -> t5.heap.get? b = some o:=fun b o h1 h2 g=>S6.keepB b o (hB b o h1 h2 g)
   have oL:∀ {O:Own} {σ:Vars} {s:Shared},SimO C B (fun b=>b ∈ C.T \/ b = l) O env σ s -> O l = none:=fun {O σ s} S=>S.uo (.inr rfl)
   obtain ⟨o,q1,q2⟩:=F.at0
   have KF:∀ (h:Heap),h.get? f = some o -> FnAt f h:=fun h e=>by obtain ⟨oc,od,da,sl⟩:=o; simp only at q2; subst q2; exact ⟨_,_,_,_,e⟩
   have callI:∀ {O6:Own} {σ6:Vars} {s6:Shared} {y:Str} {ya yb yc:Pos} {es:List Expr} {irs:List E} {vals:List Int} {cur6 cur7:List Int} {vs6:List Value} {Q:Flow -> Shared -> Prop} {ss:List Stmt},SimO C B (fun b=>b ∈ C.T \/ b = l) O6 env σ6 s6 -> Lst s6.heap l vs6 -> IntsAre vs6 cur6 ->
     vr fd.scope 8 y = true -> σ6[8]? = some (.val (.ref f)) -> repL nmB fd.scope irs es = true -> evL bg irs σ6 = some (vals.map .int) ->
     (∀ s7 args vs7,OK C s7 -> Lst s7.heap l vs7 -> IntsAre vs7 cur6 -> IntsAre args vals -> wpAny C.M (A.deeper env) (call (.ref f) args) (I2Post C l s7 cur7) nf s7) ->
     (∀ s8 vs8,SimO C B (fun b=>b ∈ C.T \/ b = l) O6 env σ6 s8 -> Lst s8.heap l vs8 -> IntsAre vs8 cur7 -> wpAny C.M (A.deeper env) (execs ss env) Q nf s8) ->
     wpAny C.M (A.deeper env) (execs (.Expr (.Call (.Name y ya) es [] yb) yc :: ss) env) Q nf s6:=by
    intro O6 σ6 s6 y ya yb yc es irs vals cur6 cur7 vs6 Q ss S hl6 hi6 hy hs8 hrl hel hcall hrest
    obtain ⟨v1,v2,v3⟩:=vr_var hA hy
    have L:=evL_s (H (m + 1)) irs hA hrl hel
    refine stepK fun κ hκ=>(wpAny_Expr_any ?_ (notInter hE) rfl)
    show wpAny _ _ (do callWith yb (<- eval (.Name y ya) env) [] (backTo yb (starEach es env)) []) _ _ _
    refine wpAny_bind (S.loadVal (kk:=0) v1 hs8 v2 v3 ?_)
    refine callWith_of (P:=FnAt f) (by rw [L.noStar yb]; rfl) (fun h X=>keeps_F h X) (wpT (L.args yb R1 S) fun a' s7 hZ2=>?_); obtain ⟨x7,hkw,i7⟩:=hZ2
    have K7:=x7.ok
    refine ⟨KF _ (K7.keep _ _ q1),?_⟩
    obtain ⟨ps,kw⟩:=a'
    cases hkw
    refine wpT (hcall s7 ps vs6 K7 (hl6.kept fun o g=>x7.keep l o hlT g) hi6 i7.ints) fun v s8 hZ2=>?_; obtain ⟨_,K8,hk8,vs8,hl8,hi8⟩:=hZ2
    exact hκ _ _ <| hrest s8 vs8 ((S.ext x7).pokeExt K8 (oL S) (.inr rfl) hBl hk8 (let ⟨n,g⟩:=hl8; ⟨_,g⟩)) hl8 hi8
   have il:(i2d n lo (M - L)).length = M - L:=i2d_len _ _ _
   have efin:splice (splice cur L M (i2d n lo (M - L))) M R (i2d n up (R - M)) = splice cur L R (i2d n x (R - L)):=by
    rw [splice_splice (Nat.le_of_lt m1) (Nat.le_of_lt m2) (Nat.le_trans h2 (Nat.le_of_eq hcl.symm)) il]
    rw [mm.e,i2d_split,<- hsh,hup,hlo]
   have lsp:(splice cur L M (i2d n lo (M - L))).length = N:=by
    unfold splice; rw [List.length_append,List.length_append,List.length_take,List.length_drop,il]; omega
   refine callI S6 gl5 hi r10 rfl r12 (vals:=[(lo:Int),L,M]) (cur7:=splice cur L M (i2d n lo (M - L))) rfl (fun s7 args vs7 K7 h7 i7 ha7=>ih _ s7 lo L M cur vs7 args R1 K7 h7 i7 hcl m1 mm.h mm.c hlob ha7) fun s8 vs8 S8 h8 i8=>?_
   refine callI S8 h8 i8 r11 rfl r13 (vals:=[(up:Int),M,R]) (cur7:=splice cur L R (i2d n x (R - L))) rfl (fun s9 args vs9 K9 h9 i9 ha9=>by
    rw [<- efin]; exact ih _ s9 up M R _ vs9 args R1 K9 h9 i9 lsp m2 h2 mm.d hupb ha9) fun s10 vs10 S10 h10 i10=>?_
   exact wpAny_execs_nil <| hκ0 _ _ ⟨rfl,S10.ok,fun b o h1 h2 g=>S10.keepB b o (hB b o h1 h2 g),vs10,h10,i10⟩
end
end
section
section
variable {C:Cx} {B:Base} {U:Addr -> Prop} {O:Own} {env:Env} {σ:Vars} {s s':Shared} {k:Nat} {A:Around}
theorem EvF.mulL {l r:Expr} {pos:Pos} {a:List D} {n:Int} (h1:Ev C k env σ l (.lst a)) (h2:Ev C k env σ r (.int n)) (h:a.length * n.toNat <= 1000000) (hn:n < 1000000) (hn':-1000000 < n):EvF C k env σ (eval (.BinOp l .Mult r pos) env) (List.replicate n.toNat a).flatten:=by
 intro B U O A s R S
 refine wpAny_BinOp (wpT (h1 B U O A s R S) fun va s₁ ⟨x1,i1⟩=>wpT (h2 B U O A s₁ R (S.ext x1)) fun vb s₂ hZ2=>?_); obtain ⟨x2,i2⟩:=hZ2
 have S2:=(S.ext x1).ext x2
 have i1':=i1.ext x2 S.zt
 replace i1':=i1'.iLst; obtain ⟨x,vs,hqq,f1,z1,g1⟩:=i1'; cases hqq
 replace i2:=i2.iInt; obtain ⟨u,hqq⟩:=i2; cases hqq
 have l1:=g1.length
 rw [<- l1] at h
 obtain ⟨n1,q1⟩:=f1
 have x3:Ext C s₂ { heap:=s₂.heap.push { cls:=.type "list",data:=.seq (List.replicate n.toNat vs).flatten.toArray },gens:=s₂.gens,drawn:=s₂.drawn,toks:=s₂.toks,os:=s₂.os }:=Ext.push S2.ok
 have e:(List.foldl (fun x1 x2=>x1 ++ x2) #[] (List.replicate (if vs.toArray.isEmpty = true then 0 else n.toNat) vs.toArray)) = (List.replicate n.toNat vs).flatten.toArray:=by
  cases vs with
  | nil=>simp
  | cons v vs=>rw [if_neg (by simp),foldl_rep]; simp
 exact wpAny_binaryOp_repeat_ref (T:="list") (U:="int") (by decide) ⟨_,q1,rfl⟩ (fun s'=>typeIs_int s' n u) noFill_list_mul PySem.F.fills_int_mul PySem.F.slot_int_rmul repeat_list PySem.F.slot_int_index.lookup
  (call_meets PySem.F.slot_int_rmul (typeIs_int s₂ n u) PySem.F.entry_int_rmul (PySem.F.args_int_rmul_2 _ _) (int___rmul___int_list n u x vs.toArray n1)
   ⟨q1,rfl,⟨_,q1,rfl⟩,call_meets PySem.F.slot_list_mul ⟨_,q1,rfl⟩ PySem.F.entry_list_mul (PySem.F.args_list_mul_2 _ _)
    (AutoListH.list___mul___list_int_3 x vs.toArray n1 n u (by simp [Builtin.List.listFitsIndex]; omega) (by simp; omega) (by simp [Builtin.List.listTooLong,sizeLine]; omega))
    ⟨q1,by
     rw [e]
     exact ⟨(x1.trans x2).trans x3,_,_,rfl,(x1.trans x2).fresh,⟨0,Heap.get?_push_size _ rfl⟩,(g1.rep n.toNat).mono (fun b o n g=>Heap.get?_push_of_some _ g) fun b o n g q=>q.elim n fun q=>by rw [q] at g; exact absurd (Heap.lt_size g) (Nat.lt_irrefl _)⟩⟩⟩)
theorem SimO.ownVal (S:SimO C B U O env σ s) {i:Nat} {x:Str} {kk:NameKind} {l:List D} (hx:env.scope.names[i]? = some (x,kk)) (hs:σ[i]? = some (.own l)) :
  ∃ a vs,O a = some (.own i) /\ Lst s.heap a vs /\ IsDs C (Zf U O) s.heap vs l /\ SimO C B U O env (σ.set i (.val (.ref a))) s:=by
 obtain ⟨m,hm,hv⟩:=S.vars
 obtain ⟨a,vs,h1,h2,h3,h4⟩:=hv i x kk _ hx hs
 have hlt:=(List.getElem?_eq_some_iff.mp hs).1
 refine ⟨a,vs,h2,h3,h4,S.ok,S.ev,S.tu,S.bt,S.keepB,S.lt,S.ob,S.oh,S.hL,m,hm,fun j y k' av e1 e2=>?_⟩
 by_cases hj:j = i
 ·subst hj
  rw [List.getElem?_set_self hlt] at e2
  cases e2
  rw [hx] at e1
  cases e1
  exact .inl h1
 ·rw [List.getElem?_set_ne (Ne.symm hj)] at e2; exact hv j y k' av e1 e2
theorem own_back {l:Addr} {vs:List Value} {ns:List Int} {Q:Fl -> Vars -> Prop} (S:SimO C B U O env σ s) (hO:O l ≠ none) (hlL:l ≠ env.locals) (K:OK C s') (hk:∀ b o,b ∉ C.T -> b ≠ l -> s.heap.get? b = some o -> s'.heap.get? b = some o) (hl:Lst s'.heap l vs) (hi:IntsAre vs ns)
  (hQ:Q (.ret (.lst (ns.map .int))) []):Post C B U env Q (.ret (.ref l)) s':=by
 classical
 have hUl:=(S.ob l hO).2
 have hBl:=(S.ob l hO).1
 have oL:∀ b,(if b = env.locals then some Tag.loc else none) ≠ none -> b = env.locals:=fun b hb=>by
  by_cases q:b = env.locals
  ·exact q
  ·exact absurd (if_neg q) hb
 have LT:=S.nT (b:=env.locals) (nnS S.hL)
 obtain ⟨m,hm,_⟩:=S.vars
 have hmL:s'.heap.Ns env.locals m:=by obtain ⟨o,es,ep,g,r⟩:=hm; exact ⟨o,es,ep,hk _ o LT (Ne.symm hlL) g,r⟩
 refine ⟨fun b=>if b = env.locals then some .loc else none,[],.ret (.lst (ns.map .int)),⟨K,S.ev,S.tu,S.bt,fun b o g=>hk b o (fun q=>by rw [S.bt b q] at g; cases g) (fun q=>by rw [q,hBl] at g; cases g) (S.keepB b o g),fun b hb=>?_,fun b hb=>by rw [oL b hb]; exact S.ob _ (nnS S.hL),fun b hb=>by rw [oL b hb]; exact S.oh _ (nnS S.hL),if_pos rfl,m,hmL,fun i x kk av e1 e2=>by simp at e2⟩,?_,hQ⟩
 ·rcases hb with hb | hb
  ·by_cases hT:b ∈ C.T
   ·obtain ⟨ps,g,_⟩:=K.tab b hT; exact ⟨_,g⟩
   ·obtain ⟨o,g⟩:=S.lt b (.inl hb); exact ⟨o,hk b o hT (fun q=>hUl (q ▸ hb)) g⟩
  ·rw [oL b hb]; obtain ⟨o,_,_,g,_⟩:=hmL; exact ⟨o,g⟩
 ·exact IsD.lst l vs _ hl (fun q=>q.elim hUl fun q=>hlL (oL l q)) (.of_ints hi)
end
end
section
section
variable {C:Cx}
noncomputable def nDig (n a:Nat):Nat:=(bits (a:Int) + n - 1) / n
theorem lt_bits (a:Nat):a < 2 ^ bits (a:Int):=by
 unfold bits Builtin.Int.intBits
 split
 ·rename_i q; simp at q; subst q; decide
 ·rw [Int.natAbs_natCast]; exact Nat.lt_log2_self
theorem nDig_ge {n a:Nat} (hn:0 < n):bits (a:Int) <= n * nDig n a:=by
 unfold nDig
 have:=Nat.div_add_mod (bits (a:Int) + n - 1) n
 have h2:=Nat.mod_lt (bits (a:Int) + n - 1) hn
 omega
noncomputable def i2_er:E:=.bin .FloorDiv (.bin .Sub (.bin .Add (.meth 6 (.var 0) []) (.var 1)) (.int 1)) (.var 1)
theorem i2d_spec {ib:List Stmt} {a cc P:Addr} {fd:FuncData} {name:Str} {params:Arguments} {isc:Scope} {dpos:Pos} {s2 s3 s4 s5:Stmt} {x1 x2 y ad y1 y2:Str} {px1 px2 pe pa p1 p2 p3 p4 p5 pA sp asp rp ip u1 u2 u3 u4 u5 u6:Pos} {el er ct f1 f2 f3 ict eL ex a1 a2 a3 b1 b2 b3:Expr}
  (hib:ib = [.If ict [.Assign [.Subscript (.Name ad pA) eL sp] ex asp,.Return none rp] [] ip,s2,s3,s4,s5,.Expr (.Call (.Name y1 u1) [a1,a2,a3] [] u2) u3,.Expr (.Call (.Name y2 u4) [b1,b2,b3] [] u5) u6])
  (F:FnOk C a fd [.Assign [.Name x1 px1] (.BinOp el .Mult er pe) pa,
   .FunctionDef name params ib [] none [] isc none name dpos,
   .If ct [.Expr (.Call (.Name y p1) [f1,f2,f3] [] p2) p3] [] p4,.Return (some (.Name x2 px2)) p5] 2)
  (Bq:Bs C) (hcode:fd.code = .ref cc) (hcp:(cc,P) ∈ C.tabs) (hqn:C.qn P dpos.line dpos.col = fd.qualname ++ ".<locals>." ++ name)
  (hks:fd.scope.names.map (·.2) = [.local,.cell,.cell,.cell,.globalImplicit]) (iks:isc.names.map (·.2) = [.local,.local,.local,.local,.local,.local,.local,.free,.free,.free])
  (hS:(vr fd.scope 2 x1 && repE nmB fd.scope (.lst [.int 0]) el && repE nmB fd.scope i2_er er && vr fd.scope 3 name && repT nmB fd.scope (.e (.var 0)) ct && vr fd.scope 3 y && repL nmB fd.scope [.var 0,.int 0,.call 0 [.var 2]] [f1,f2,f3] && vr fd.scope 2 x2 && innB fd.scope.names isc.names [none,none,none,none,none,none,none,some 2,some 3,some 1]) = true)
  (hr:(repT nmB isc i2_t1 ict && vr isc 7 ad && repE nmB isc (.var 1) eL && repE nmB isc (.var 0) ex && notComp ex && repS nmB isc i2_s2 s2 && repS nmB isc i2_s3 s3 && repS nmB isc i2_s4 s4 && repS nmB isc i2_s5 s5 && vr isc 8 y1 && vr isc 8 y2 &&
   repL nmB isc [.var 6,.var 1,.var 3] [a1,a2,a3] && repL nmB isc [.var 5,.var 3,.var 2] [b1,b2,b3]) = true)
  (hi1:isc.isCoroutine = false) (hi2:isc.isGenerator = false) (hi3:isc.kind = .function) (hi4:(isc.names.map (·.1)).Nodup)
  (hd0:params.defaults = []) (hk0:params.kw_defaults = []) (ha:∀ env,annTrees params none env = [])
  (hbind:∀ (body:List Stmt) (clos:List (Str × Addr)) (doc pm cv ctv:Value) (qual:Str) (vs:List Value),vs.length = 3 -> bindArgs (fnX name qual params body isc clos .none .none doc pm none cv ctv) ⟨vs,[]⟩ = pure (((isc.names.take 3).map (·.1)).zip vs))
  {x n:Nat} (hn0:0 < n) (hn:n * nDig n x <= 2 ^ 26) (hN:nDig n x <= 900000) (hn1:n <= 2 ^ 26) :
  PSpec C 23 (.ref a) [.int x,.int n] (.lst ((i2d n x (nDig n x)).map .int)):=by
 refine (CSpec.fn (k:=22) F rfl fun env hA hE hZ3=>?_).pspec; obtain ⟨g1,g2,g3⟩:=hZ3
 rw [hks]
 refine and9 hS fun t1 t2 t3 t4 t5 t6 t7 t8 t9=>?_
 have hks2:∀ i kk,([.local,.cell,.cell,.cell,.globalImplicit]:List NameKind)[i]? = some kk -> kd fd.scope i kk = true:=fun i kk h=>by
  unfold kd
  have:(fd.scope.names[i]?).map (·.2) = some kk:=by rw [<- List.getElem?_map,hks]; exact h
  cases q:fd.scope.names[i]? with
  | none=>rw [q] at this; cases this
  | some p=>rw [q] at this; simpa using this
 intro B U A s R ⟨O,S⟩
 have eN:evE bg i2_er [.d (.int x),.d (.int n),.emp,.emp,.no] = some (.int (nDig n x:Nat)):=by
  have hdv:Builtin.divisionGoesByPylong ((bits (x:Int):Int) + n - 1) n = false:=PyProof.noPylong_small (by omega)
  have e:Int.fdiv ((bits (x:Int):Int) + n - 1) n = ((nDig n x:Nat):Int):=by
   rw [Int.fdiv_eq_ediv_of_nonneg _ (by omega)]
   unfold nDig
   have:((bits (x:Int):Int) + n - 1) = ((bits (x:Int) + n - 1:Nat):Int):=by omega
   rw [this,Int.natCast_ediv]
  have hne:(n:Int) ≠ 0:=by omega
  exact e_bin (e_bin (e_bin (e_meth rfl rfl mth_bits) rfl rfl) rfl rfl) rfl ((if_pos ⟨hne,hdv⟩).trans (congrArg (fun z=>some (D.int z)) e))
 have ez:(List.replicate ((nDig n x:Nat):Int).toNat [D.int 0]).flatten = (List.replicate (nDig n x) (0:Int)).map .int:=by
  rw [Int.toNat_natCast]
  induction nDig n x with
  | zero=>rfl
  | succ m ih=>rw [List.replicate_succ,List.flatten_cons,ih]; rfl
 have st1:=ExS.assignOwn (C:=C) (k:=22) (env:=env) (px:=px1) (pos:=pa) (Q:=Fin1 .next [.d (.int x),.d (.int n),.own ((List.replicate (nDig n x) (0:Int)).map .int),.emp,.no]) (EvF.mulL (pos:=pe) (a:=[.int 0]) (n:=((nDig n x:Nat):Int)) (evE_s (Bq.gd 22) _ hA t2 (σ:=[.d (.int x),.d (.int n),.emp,.emp,.no]) rfl) (evE_s (Bq.gd 22) _ hA t3 eN) (by simp; omega) (by omega) (by omega)) (hA.isSto (vr_sto t1 (by rw [hks]; rfl))) (by rw [ez]; exact ⟨rfl,rfl⟩) (swaps_no (t:=none) rfl)
 refine genQ fun κ0 hκ0=>stepK fun κ hκ=>(wpT (st1 B U A s R ⟨O,S⟩) fun f0 s0 ⟨O0,σ0,fl0,S0,hf0,e1,e2⟩=>hκ _ _ ?_)
 clear hκ κ
 subst e1 e2
 cases f0 <;> try exact hf0.elim
 clear S
 dsimp only
 have t9':innB env.scope.names isc.names [none,none,none,none,none,none,none,some 2,some 3,some 1] = true:=by rw [g1]; exact t9
 have hfr:∀ x,(x,NameKind.free) ∈ isc.names -> ∃ i k',env.scope.names[i]? = some (x,k') /\ (k' = .cell \/ k' = .free) /\ some i ∈ [none,none,none,none,none,none,none,some 2,some 3,some 1]:=fun x hx=>ks_free (fun j hj=>by
  rw [<- List.getElem?_map,iks] at hj
  match j with
  | 0=>cases hj
  | 1=>cases hj
  | 2=>cases hj
  | 3=>cases hj
  | 4=>cases hj
  | 5=>cases hj
  | 6=>cases hj
  | 7=>exact ⟨2,rfl⟩
  | 8=>exact ⟨3,rfl⟩
  | 9=>exact ⟨1,rfl⟩
  | j + 10=>simp at hj) t9' hx
 obtain ⟨mo,hmo,hvo⟩:=S0.vars
 obtain ⟨clos,hcl,hcl1,_⟩:=closureFor_some (env:=env) (scope:=isc) fun x kk hx hk=>by
  subst hk
  obtain ⟨i,k',h1,h2,h3⟩:=hfr x hx
  simp at h3
  rcases h3 with rfl | rfl | rfl
  ·obtain ⟨c,hc⟩:=(hvo 2 x k' _ h1 rfl).cellAt h2 rfl; rw [hc]; rfl
  ·obtain ⟨c,hc⟩:=(hvo 3 x k' _ h1 rfl).cellAt h2 rfl; rw [hc]; rfl
  ·obtain ⟨c,hc⟩:=(hvo 1 x k' _ h1 rfl).cellAt h2 rfl; rw [hc]; rfl
 have hkn:env.kindOf name = some .cell:=kd_kind hE hA t4 (hks2 3 .cell rfl) (by decide)
 have hq:qualnameIn env name name = fd.qualname ++ ".<locals>." ++ name:=by
  unfold qualnameIn; rw [hkn,g3]; rfl
 refine stepK fun κ hκ=>(def_wp S0 (by rw [g2]; exact hcode) hcp (by rw [hq]; exact hqn) hcl hd0 hk0 (ha env) (hA.isSto (vr_sto t4 (by rw [hks]; rfl))) fun f cv ctv doc pm s' s₁ x0 fr S' kb hf hcr ⟨c',hcv,nc⟩=>hκ _ _ ?_)
 clear hκ κ
 have S':SimO C B U O0 env [.d (.int x),.d (.int n),.own ((List.replicate (nDig n x) (0:Int)).map .int),.val (.ref f),.no] s':=S'
 obtain ⟨xn,hxn⟩:∃ xn,env.scope.names[2]? = some (xn,.cell):=by
  have:(env.scope.names[2]?).map (·.2) = some .cell:=by rw [g1,<- List.getElem?_map,hks]; rfl
  cases q:env.scope.names[2]? with
  | none=>rw [q] at this; cases this
  | some p=>obtain ⟨xn,kk⟩:=p; rw [q] at this; simp at this; subst this; exact ⟨xn,rfl⟩
 obtain ⟨l,vs,hOl,hlL,hli,S3⟩:=S'.ownVal hxn rfl
 have S3:SimO C B U O0 env [.d (.int x),.d (.int n),.val (.ref l),.val (.ref f),.no] s':=S3
 have hLn:∀ {O:Own} {σ:Vars} {s:Shared},SimO C B U O env σ s -> ∀ b ∈ [env.locals],O b ≠ none:=fun S b hb=>by rw [List.mem_singleton.mp hb,S.hL]; simp
 have Sf:SimO C B U (unO (fun j=>j == 2) O0) env [.d (.int x),.d (.int n),.d (.lst ((List.replicate (nDig n x) (0:Int)).map .int)),.val (.ref f),.no] s':=S'.frz (fun j=>j == 2)
 obtain ⟨O2,S2,hO2,hOc2⟩:=Sf.fix (hLn Sf) (fun b i hb=>fun q=>by rw [List.mem_singleton.mp q,Sf.hL] at hb; cases hb) (by simp)
 have hU2:=Sf.fixUp (hLn Sf)
 have hX4:∀ b ∈ [env.locals,l],O0 b ≠ none:=fun b hb=>by
  rcases List.mem_cons.mp hb with rfl | hb
  ·rw [S3.hL]; simp
  ·rw [List.mem_singleton.mp hb,hOl]; simp
 obtain ⟨O4,S4,hO4,hOc4⟩:=S3.fix hX4 (fun b i hb=>fun q=>by
  rcases List.mem_cons.mp q with rfl | q
  ·rw [S3.hL] at hb; cases hb
  ·rw [List.mem_singleton.mp q,hOl] at hb; cases hb) (by simp)
 have hU4:=S3.fixUp hX4
 have Of:O0 f = none:=S0.frO fr
 have fL:f ≠ env.locals:=fun q=>by rw [q,S0.hL] at Of; cases Of
 have fl:f ≠ l:=fun q=>by rw [q,hOl] at Of; cases Of
 have lL:l ≠ env.locals:=fun q=>by rw [q,S0.hL] at hOl; cases hOl
 have fT:f ∉ C.T:=S0.ok.frT fr
 have lT:l ∉ C.T:=S'.nT (nnS hOl)
 have inH4:∀ b o,b ∉ C.T -> b ≠ env.locals -> b ≠ l -> s'.heap.get? b = some o -> (fixH C s' [env.locals,l]).get? b = some o:=fun b o h1 h2 h3 g=>hideAll_get _ g fun q=>by
  rcases List.mem_append.mp q with q | q
  ·exact h1 q
  ·rcases List.mem_cons.mp q with q | q
   ·exact h2 q
   ·exact h3 (List.mem_singleton.mp q)
 have hf':=kb f _ Of hf
 have hfH4:=inH4 f _ fT fL fl hf'
 have hfH2:(fixH C s' [env.locals]).get? f = some _:=hideAll_get _ hf' fun q=>by
  rcases List.mem_append.mp q with q | q
  ·exact fT q
  ·exact fL (List.mem_singleton.mp q)
 have CL:CloOk (C.up (fixH C s' [env.locals,l])) f (fnX name (qualnameIn env name name) params ib isc clos .none .none doc pm none cv ctv)
   ib 3 clos:=by
  have hkk:∀ j:Nat,(isc.names[j]?).map (fun (p:Str × NameKind)=>p.2) = ([.local,.local,.local,.local,.local,.local,.local,.free,.free,.free]:List NameKind)[j]?:=fun j=>by rw [<- List.getElem?_map,iks]
  refine ⟨⟨_,hfH4,rfl⟩,?_,rfl,rfl,rfl,rfl,hi1,hi2,hi3,hi4,hbind _ _ _ _ _ _ _,fun p hp=>?_,fun p hp=>?_,?_⟩
  ·obtain ⟨c2,o,vs0,t,e,g,r⟩:=hcr
   rw [hcv] at e; cases e
   refine ⟨c',o,vs0,t,hcv,inH4 c' o nc (fun q=>?_) (fun q=>?_) g,r⟩
   ·obtain ⟨_,hmL,_⟩:=S'.vars
    obtain ⟨oL,_,_,gL,dL,_⟩:=hmL
    rw [q,gL] at g; cases g
    rw [dL] at r; cases r.1
   ·obtain ⟨n0,gl⟩:=hlL
    rw [q,gl] at g; cases g
    cases r.1
  ·obtain ⟨j,hj⟩:=List.getElem?_of_mem hp
   rw [List.getElem?_take] at hj
   split at hj
   ·rename_i hlt
    have:=hkk j
    rw [hj] at this
    match j,hlt with
    | 0,_=>simpa using this
    | 1,_=>simpa using this
    | 2,_=>simpa using this
   ·cases hj
  ·have:p.2 ∈ isc.names.map (·.2):=List.mem_map_of_mem (f:=(·.2)) hp
   rw [iks] at this
   intro q; rw [q] at this; simp at this
  ·have:(isc.names.map (·.2)).length = 10:=by rw [iks]; rfl
   rw [List.length_map] at this
   show 3 <= isc.names.length
   omega
 have hσ2:fixV [.d (.int x),.d (.int n),.d (.lst ((List.replicate (nDig n x) (0:Int)).map .int)),.val (.ref f),.no] (env.scope.names.map (·.2)) = [.d (.int x),.sd (.int n),.sd (.lst ((List.replicate (nDig n x) (0:Int)).map .int)),.val (.ref f),.no]:=by
  rw [g1,hks]; rfl
 have hσ4:fixV [.d (.int x),.d (.int n),.val (.ref l),.val (.ref f),.no] (env.scope.names.map (·.2)) = [.d (.int x),.sd (.int n),.val (.ref l),.val (.ref f),.no]:=by
  rw [g1,hks]; rfl
 rw [hσ2] at S2
 rw [hσ4] at S4
 have V:=S4.cloV (n:=3) (ds:=[.int 0,.int 0,.int 0]) (clos:=clos) (fun b o g=>g) (fun b o n g=>inH4 b o (fun q=>n (.inl (S4.tu b q))) (fun q=>n (.inr ((hO4 b).mpr (by rw [q]; simp)))) (fun q=>n (.inr ((hO4 b).mpr (by rw [q]; simp)))) g) t9' (fun x c hx hc=>hcl1 x c hx hc) hOc4
 have H2:=Bq.up hU2
 have H4:=Bq.up hU4
 have main:=inner_i2d (s1b:=[]) (C:=C.up (fixH C s' [env.locals,l])) (n:=n) (N:=nDig n x) (CloOk.eqb (g:=fun ib=>fnX name (qualnameIn env name name) params ib isc clos .none .none doc pm none cv ctv) hib CL) (fun k=>H4.gd k) iks hr V (hideAll_none _ (by simp)) lT hn (by omega) hn1 20
 obtain ⟨_,_,hv4⟩:=S4.vars
 obtain ⟨c,oc,hc1,hc2,hc3⟩:∃ c o,env.cells.lookup xn = some c /\ (fixH C s' [env.locals,l]).get? c = some o /\ o.data = .cell (some (.ref l)):=by
  rcases hv4 2 xn .cell _ hxn rfl with (⟨q,_⟩ | ⟨_,c,_,q,_⟩) | ⟨_,c,o,h1,h2,h3⟩
  ·cases q
  ·exact absurd q (hOc4 c 2)
  ·exact ⟨c,o,h1,h2,h3⟩
 have hcT:c ∉ C.T:=fun q=>by rw [hU4.tab c q] at hc2; cases hc2
 have hcl:c ≠ l:=fun q=>by rw [q,hideAll_none (C.T ++ [env.locals,l]) (by simp)] at hc2; cases hc2
 obtain ⟨v1,v2,v3⟩:=vr_var hA t8
 have ex2:xn = x2:=by
  obtain ⟨k',e⟩:=v1.get
  rw [hxn] at e; cases e <;> rfl
 have hkx:env.kindOf x2 = some .cell:=kd_kind hE hA t8 (hks2 2 .cell rfl) (by decide)
 have back:∀ s3 vs3,OK C s3 -> (∀ b o,b ∉ C.T -> b ≠ l -> s'.heap.get? b = some o -> s3.heap.get? b = some o) -> Lst s3.heap l vs3 -> IntsAre vs3 (i2d n x (nDig n x)) ->
   wpAny C.M A (execs [.Return (some (.Name x2 px2)) p5] env) κ0 nf s3:=fun s3 vs3 K3 hk3 hl3 hi3=>by
  refine stepK fun κ hκ=>(wpAny_Return_some (wpAny_Name (wpAny_loadName_cell hE.kind hkx (ex2 ▸ hc1) ⟨oc,hk3 c oc hcT hcl (of_hideAll _ hc2),hc3⟩ ?_) v2))
  exact hκ _ _ <| hκ0 _ _ <| own_back S3 (nnS hOl) lL K3 hk3 hl3 hi3 (.inl rfl)
 have hz:IntsAre vs (List.replicate (nDig n x) (0:Int)):=hli.ints
 refine stepK fun κ hκ=>(wpAny_If (wpT (evT_s (H2.gd 22) (.e (.var 0)) hA t5 (t:=((x:Int) != 0)) rfl _ U O2 A s' R S2) fun b s1' hZ2=>?_)); obtain ⟨x1,e⟩:=hZ2
 have x1c:Ext C s' s1':=x1.down hU2
 subst e
 cases hb:((x:Int) != 0) with
 | false =>
  have hx0:x = 0:=by simpa using hb
  have hN0:nDig n x = 0:=by
   subst hx0; unfold nDig bits Builtin.Int.intBits
   simp
   omega
  refine wpAny_execs_nil (hκ _ _ (back s1' vs x1c.ok (fun b o h1 _ g=>x1c.keep b o h1 g) (hlL.kept fun o g=>x1c.keep l o lT g) ?_))
  rw [hN0] at hz ⊢
  exact hz
 | true =>
  have hx0:x ≠ 0:=by intro q; subst q; simp at hb
  have hpos:0 < nDig n x:=by
   have h1:=lt_bits x
   have h2:=nDig_ge (a:=x) hn0
   rcases Nat.eq_zero_or_pos (nDig n x) with q | q
   ·rw [q,Nat.mul_zero] at h2
    have:bits (x:Int) = 0:=by omega
    rw [this] at h1; omega
   ·exact q
  have L:=evL_s (H2.gd 22) [.var 0,.int 0,.call 0 [.var 2]] hA t7 (σ:=[.d (.int x),.sd (.int n),.sd (.lst ((List.replicate (nDig n x) (0:Int)).map .int)),.val (.ref f),.no]) (ds:=[.int x,.int 0,.int (nDig n x)]) (by
   exact l_cons rfl (l_two rfl (e_call rfl (bg_lenI (List.length_replicate ..) (by omega)))))
  obtain ⟨w1,w2,w3⟩:=vr_var hA t6
  refine stepK fun κ1 hκ1=>(wpAny_Expr_any ?_ (notInter hE) rfl)
  show wpAny _ _ (do callWith p2 (<- eval (.Name y p1) env) [] (backTo p2 (starEach [f1,f2,f3] env)) []) _ _ _
  have S2e:=S2.ext x1
  refine wpAny_bind (S2e.loadVal (kk:=0) w1 rfl w2 w3 ?_)
  refine callWith_of (P:=FnAt f) (by rw [L.noStar p2]; rfl) (fun h X=>keeps_F h X) (wpT (L.args p2 R S2e) fun a' s7 hZ2=>?_); obtain ⟨x7,hkw,i7⟩:=hZ2
  have K7:=x7.ok
  have x7c:Ext C s' s7:=x1c.trans (x7.down hU2)
  have x74:Ext (C.up (fixH C s' [env.locals,l])) s' s7:=x7c.up hU4 S4.ok
  refine ⟨⟨_,_,_,_,K7.keep f _ hfH2⟩,?_⟩
  obtain ⟨ps,kw⟩:=a'
  cases hkw
  have ia:IntsAre ps [(x:Int),((0:Nat):Int),((nDig n x:Nat):Int)]:=IsDs.ints (ns:=[(x:Int),((0:Nat):Int),((nDig n x:Nat):Int)]) i7
  refine wpT (main A s7 x 0 (nDig n x) _ vs ps (R.le (by omega)) x74.ok (hlL.kept fun o g=>x7c.keep l o lT g) hz (by simp) hpos (Nat.le_refl _) (by omega) (by
   rw [Nat.sub_zero]; exact Nat.lt_of_lt_of_le (lt_bits x) (Nat.pow_le_pow_right (by decide) (nDig_ge hn0))) ia) fun v s8 ⟨_,K8,hk8,vs8,hl8,hi8⟩=>?_
  have esp:splice (List.replicate (nDig n x) (0:Int)) 0 (nDig n x) (i2d n x (nDig n x - 0)) = i2d n x (nDig n x):=by
   unfold splice; simp
  rw [esp] at hi8
  exact hκ1 _ _ (wpAny_execs_nil (hκ _ _ (back s8 vs8 (K8.down hU4) (fun b o h1 h2 g=>hk8 b o h1 h2 (x7c.keep b o h1 g)) hl8 hi8)))
end
end
section
noncomputable def fdOf (K:Frag) (a:Addr):FuncData:=match K.lookup a with
 | some o=>(match o.data with
  | .func fd=>fd
  | _=>default)
 | none=>default
noncomputable def bodyOf (fd:FuncData):List Stmt:=match fd.body with
 | .stmts b=>b
 | .expr _=>[]
noncomputable def fnChk (K:Frag) (a:Addr) (n:Nat):Bool :=
 (match K.lookup a with
  | some o=>(match o.data with
   | .func _=>true
   | _=>false)
  | none=>false) &&
 (match (fdOf K a).body with
  | .stmts _=>true
  | .expr _=>false) &&
 (match (fdOf K a).closure with
  | []=>true
  | _=>false) &&
 (fdOf K a).globals == mainGlobals && (fdOf K a).builtins == builtinsNs && !(fdOf K a).scope.isCoroutine && !(fdOf K a).scope.isGenerator && (fdOf K a).scope.kind == .function &&
 decide ((fdOf K a).scope.names.map (·.1)).Nodup && ((fdOf K a).scope.names.take n).all (fun p=>p.2 == .local || p.2 == .cell) && decide (n <= (fdOf K a).scope.names.length) &&
 (match (fdOf K a).code with
  | .ref c=>(match K.lookup c with
   | some o=>(match o.data with
    | .fields vs=>(match (vs[1]?:Option Value) with
     | some (.str q _)=>q == (fdOf K a).qualname
     | _=>false)
    | _=>false)
   | none=>false)
  | _=>false)
set_option tactic.hygienic true in
theorem fnok_of {C:Cx} {K:Frag} {a:Addr} {n:Nat} (X:K.In C.h0) (h:fnChk K a n = true) (hb:∀ vs:List Value,vs.length = n -> bindArgs (fdOf K a) ⟨vs,[]⟩ = pure ((((fdOf K a).scope.names.take n).map (·.1)).zip vs)):FnOk C a (fdOf K a) (bodyOf (fdOf K a)) n:=by
 unfold fnChk at h
 refine and12 h fun h1 h2 h3 h4 h5 h6 h7 h8 h9 h10 h11 h12=>?_
 refine ⟨?_,?_,?_,?_,eq_of_beq h4,eq_of_beq h5,by simpa using h6,by simpa using h7,eq_of_beq h8,of_decide_eq_true h9,hb,h10,of_decide_eq_true h11⟩
 ·cases q:K.lookup a with
  | none=>rw [q] at h1; cases h1
  | some o =>
   rw [q] at h1
   refine ⟨o,X _ _ q,?_⟩
   unfold fdOf
   rw [q]
   dsimp only at h1 ⊢
   split at h1
   ·rename_i fd e; rw [e]
   ·cases h1
 ·cases e:(fdOf K a).code with
  | ref c =>
   rw [e] at h12
   dsimp only at h12
   cases q:K.lookup c with
   | none=>rw [q] at h12; cases h12
   | some o =>
    rw [q] at h12
    dsimp only at h12
    split at h12
    ·rename_i vs e2
     split at h12
     ·rename_i s t e3
      have:=eq_of_beq h12
      subst this
      exact ⟨c,o,vs,t,rfl,X _ _ q,e2,e3⟩
     ·cases h12
    ·cases h12
  | _=>rw [e] at h12; cases h12
 ·unfold bodyOf
  cases e:(fdOf K a).body with
  | stmts b=>rfl
  | expr b=>rw [e] at h2; cases h2
 ·cases e:(fdOf K a).closure with
  | nil=>rfl
  | cons _ _=>rw [e] at h3; cases h3
@[elab_as_elim] theorem lenS {P:List Value -> Prop} {vs:List Value} {n:Nat} (h:vs.length = n + 1) (k:∀ v ws,ws.length = n -> P (v :: ws)):P vs:=by
 cases vs with
 | nil=>cases h
 | cons v ws=>exact k v ws (Nat.succ.inj h)
@[elab_as_elim] theorem lenZ {P:List Value -> Prop} {vs:List Value} (h:vs.length = 0) (k:P []):P vs:=by
 cases vs with
 | nil=>exact k
 | cons v ws=>cases h
section
variable {fd:FuncData} {ns:List Str}
theorem bind1 (h:∀ v1,bindArgs fd ⟨[v1],[]⟩ = pure (ns.zip [v1])) (vs:List Value) (e:vs.length = 1):bindArgs fd ⟨vs,[]⟩ = pure (ns.zip vs) :=
 lenS (vs:=vs) e fun v1 w1 e=>lenZ (vs:=w1) e (h v1)
theorem bind2 (h:∀ v1 v2,bindArgs fd ⟨[v1,v2],[]⟩ = pure (ns.zip [v1,v2])) (vs:List Value) (e:vs.length = 2):bindArgs fd ⟨vs,[]⟩ = pure (ns.zip vs) :=
 lenS (vs:=vs) e fun v1 w1 e=>lenS (vs:=w1) e fun v2 w2 e=>lenZ (vs:=w2) e (h v1 v2)
theorem bind3 (h:∀ v1 v2 v3,bindArgs fd ⟨[v1,v2,v3],[]⟩ = pure (ns.zip [v1,v2,v3])) (vs:List Value) (e:vs.length = 3):bindArgs fd ⟨vs,[]⟩ = pure (ns.zip vs) :=
 lenS (vs:=vs) e fun v1 w1 e=>lenS (vs:=w1) e fun v2 w2 e=>lenS (vs:=w2) e fun v3 w3 e=>lenZ (vs:=w3) e (h v1 v2 v3)
theorem bind4 (h:∀ v1 v2 v3 v4,bindArgs fd ⟨[v1,v2,v3,v4],[]⟩ = pure (ns.zip [v1,v2,v3,v4])) (vs:List Value) (e:vs.length = 4):bindArgs fd ⟨vs,[]⟩ = pure (ns.zip vs) :=
 lenS (vs:=vs) e fun v1 w1 e=>lenS (vs:=w1) e fun v2 w2 e=>lenS (vs:=w2) e fun v3 w3 e=>lenS (vs:=w3) e fun v4 w4 e=>lenZ (vs:=w4) e (h v1 v2 v3 v4)
end
end
section
noncomputable def flD (fl:Fl):Option D:=match fl with
 | .ret d=>some d
 | .next=>some .none
 | _=>none
noncomputable def runF (g:G) (ks:List NameKind) (ir:List St) (ds:List D):Option D:=match evB g ks ir (initV ks ds) with
 | some r=>flD r.1
 | none=>none
noncomputable def putF (g:G) (f:Nat) (F:List D -> Option D):G:=fun f' ds=>if f' = f then F ds else g f' ds
noncomputable def addF (g:G) (f n:Nat) (ks:List NameKind) (ir:List St):G:=putF g f fun ds=>if ds.length = n then runF g ks ir ds else none
section
variable {C:Cx} {k:Nat} {g:G} {nm:Nat -> Str}
theorem Gd.le (H:Gd C k g nm) {k':Nat} (h:k <= k'):Gd C k' g nm :=
 ⟨⟨fun f ds d l e=>let ⟨fv,a,b,c⟩:=H.fn f ds d l e; ⟨fv,a,b,c.le h⟩,H.range,H.reversed⟩,fun f x ds d l e=>let ⟨fv,a,b,c⟩:=H.wm f x ds d l e; ⟨fv,a,b,c.le h⟩,H.attr,H.con⟩
theorem Gd.put (H:Gd C k g nm) {f:Nat} {F:List D -> Option D} (hf:f < 100) (h:∀ ds d,F ds = some d -> ∃ fv,GV C (nm f) fv /\ Kp C fv /\ PSpec C k fv ds d):Gd C k (putF g f F) nm :=
 ⟨⟨fun f' ds d l e=>by
  unfold putF at e
  split at e
  ·rename_i q; subst q; exact h ds d e
  ·exact H.fn f' ds d l e,H.range,H.reversed⟩,fun f' x ds d l e=>by
  unfold putF at e
  rw [if_neg (by omega)] at e
  exact H.wm f' x ds d l e,H.attr,H.con⟩
theorem Gd.putW (H:Gd C k g nm) {f:Nat} {F:List D -> Option D} (hf:100 <= f) (h:∀ x ds d,F (x :: ds) = some d -> ∃ fv,MethR C x (nm f) fv /\ Kp C fv /\ PSpec C k fv (x :: ds) d):Gd C k (putF g f F) nm :=
 ⟨⟨fun f' ds d l e=>by
  unfold putF at e
  rw [if_neg (by omega)] at e
  exact H.fn f' ds d l e,H.range,H.reversed⟩,fun f' x ds d l e=>by
  unfold putF at e
  split at e
  ·rename_i q; subst q; exact h x ds d e
  ·exact H.wm f' x ds d l e,H.attr,H.con⟩
set_option tactic.hygienic true in
theorem runF_spec {n:Nat} {a:Addr} {fd:FuncData} {body:List Stmt} {ir:List St} {ks:List NameKind} (F:FnOk C a fd body n) (H:Gd C k g nm) (hr:repB nm fd.scope ir body = true) (hks:fd.scope.names.map (·.2) = ks) {ds:List D} {d:D} (hn:ds.length = n) (e:runF g ks ir ds = some d):PSpec C (k + 1) (.ref a) ds d:=by
 unfold runF at e
 cases q:evB g ks ir (initV ks ds) with
 | none=>rw [q] at e; cases e
 | some r =>
  rw [q] at e
  refine PSpec.run F H hn hr (by rw [hks]; exact q) ?_
  replace e:flD r.1 = some d:=e
  cases hf:r.1 with
  | ret d'=>rw [hf] at e; cases e; exact .inl rfl
  | next=>rw [hf] at e; cases e; exact .inr ⟨rfl,rfl⟩
  | brk=>rw [hf] at e; cases e
  | cont=>rw [hf] at e; cases e
set_option tactic.hygienic true in
theorem Gd.add (H:Gd C k g nm) {f n:Nat} {a:Addr} {fd:FuncData} {body:List Stmt} {ir:List St} {ks:List NameKind} (F:FnOk C a fd body n) (hg:GV C (nm f) (.ref a)) (hr:repB nm fd.scope ir body = true) (hks:fd.scope.names.map (·.2) = ks) (hf:f < 100) :
  Gd C (k + 1) (addF g f n ks ir) nm:=by
 refine (H.le (Nat.le_succ k)).put hf fun ds d e=>⟨_,hg,F.kp,?_⟩
 split at e
 ·rename_i hn; exact runF_spec F H hr hks hn e
 ·cases e
noncomputable def addW (g:G) (f n:Nat) (ks:List NameKind) (ir:List St):G:=putF g f fun ds=>match ds with
 | .ws a b c d :: ds=>if ds.length = n then runF g ks ir (.ws a b c d :: ds) else none
 | _=>none
theorem Gd.addW (H:Gd C k g nm) {f n:Nat} {a:Addr} {fd:FuncData} {body:List Stmt} {ir:List St} {ks:List NameKind} (F:FnOk C a fd body (n + 1)) (hg:∀ n nt cnt b,MethR C (.ws n nt cnt b) (nm f) (.ref a)) (hr:repB nm fd.scope ir body = true) (hks:fd.scope.names.map (·.2) = ks) (hf:100 <= f) :
  Gd C (k + 1) (addW g f n ks ir) nm:=by
 refine (H.le (Nat.le_succ k)).putW hf fun x ds d e=>?_
 cases x with
 | ws a b c d=>exact ite_t e fun hn e=>⟨_,hg _ _ _ _,F.kp,runF_spec F H hr hks (congrArg (· + 1) hn) e⟩
 | _=>cases e
theorem Gd.names {nm':Nat -> Str} (H:Gd C k g nm) (h:∀ f ds d,g f ds = some d -> nm' f = nm f):Gd C k g nm' :=
 ⟨⟨fun f ds d l e=>by rw [h f ds d e]; exact H.fn f ds d l e,H.range,H.reversed⟩,fun f x ds d l e=>by rw [h f _ d e]; exact H.wm f x ds d l e,H.attr,H.con⟩
end
end
section
noncomputable def i2dF (ds:List D):Option D:=l2 ds fun a b=>iI a b fun a n=>if 0 <= a /\ 0 < n /\ n.toNat * nDig n.toNat a.toNat <= 2 ^ 26 /\ nDig n.toNat a.toNat <= 900000 /\ n.toNat <= 2 ^ 26 then some (.lst ((i2d n.toNat a.toNat (nDig n.toNat a.toNat)).map .int)) else none
noncomputable def d2iF (ds:List D):Option D:=l2 ds fun a b=>oL a fun l=>oI b fun n=>match ints? l with
  | some ds=>if 0 <= n /\ (ds.all fun x=>decide (0 <= x) && decide (x < 2 ^ n.toNat)) = true /\ n.toNat * ds.length <= 2 ^ 26 /\ ds.length <= 1000000 /\ n.toNat <= 2 ^ 26 then some (.int (d2v n.toNat ds)) else none
  | none=>none
section
variable {C:Cx} {k:Nat} {fv:Value}
theorem i2dF_s (h:∀ {x n:Nat},0 < n -> n * nDig n x <= 2 ^ 26 -> nDig n x <= 900000 -> n <= 2 ^ 26 -> PSpec C k fv [.int x,.int n] (.lst ((i2d n x (nDig n x)).map .int))):∀ ds d,i2dF ds = some d -> PSpec C k fv ds d:=by
 intro ds d e
 refine l2_t (ds:=ds) e fun a b e=>iI_t (a:=a) (b:=b) e fun a n e=>ite_t e fun q e=>?_
 obtain ⟨q1,q2,q3,q4,q5⟩:=q
 cases e
 obtain ⟨x,rfl⟩:=Int.eq_ofNat_of_zero_le q1
 obtain ⟨m,rfl⟩:=Int.eq_ofNat_of_zero_le (Int.le_of_lt q2)
 exact h (by omega) q3 q4 q5
theorem d2iF_s (h:∀ {ds:List Int} {n:Nat},(∀ x ∈ ds,0 <= x /\ x < 2 ^ n) -> n * ds.length <= 2 ^ 26 -> ds.length <= 1000000 -> n <= 2 ^ 26 -> PSpec C k fv [.lst (ds.map .int),.int n] (.int (d2v n ds))):∀ ds d,d2iF ds = some d -> PSpec C k fv ds d:=by
 intro ds d e
 refine l2_t (ds:=ds) e fun a b e=>oL_t (b:=a) e fun l e=>oI_t (b:=b) e fun n e=>?_
 cases q0:ints? l with
 | none=>rw [q0] at e; cases e
 | some ns =>
  rw [q0] at e
  refine ite_t e fun q e=>?_
  obtain ⟨q1,q2,q3,q4,q5⟩:=q
  cases e
  obtain ⟨m,rfl⟩:=Int.eq_ofNat_of_zero_le q1
  rw [ints?_eq q0]
  exact h (fun x hx=>and2 (List.all_eq_true.mp q2 x hx) fun h1 h2=>⟨of_decide_eq_true h1,of_decide_eq_true h2⟩) q3 q4 q5
end
noncomputable def ks_div2:List NameKind:=[.local,.local,.local,.local,.local,.local,.local,.local,.local,.local,.local,.globalImplicit,.globalImplicit,.globalImplicit]
noncomputable def ir_div2:List St:=[.if_ (.cmp .LtE (.bin .Sub (.meth 6 (.var 0) []) (.var 2)) (.gc 0)) [.ret (.call 5 [(.var 0),(.var 1)])] [],
 .bad,.bad,.bad,.bad,.bad,.bad,.bad,.bad,.bad]
noncomputable def ks_dpos:List NameKind:=[.local,.local,.local,.local,.local,.local,.local,.local,.local,.globalImplicit,.globalImplicit,.globalImplicit,.globalImplicit]
noncomputable def ir_dpos:List St:=[.asg 2 (.meth 6 (.var 1) []),
 .asg 3 (.call 11 [(.var 0),(.var 2)]),
 .asg 4 (.int 0),
 .asgO 5 (.lst []),
 .for_ (.one 6) (.rev (.var 3)) [.two 7 4 (.call 10 [(.bin .Add (.bin .LShift (.var 4) (.var 2)) (.var 6)),(.var 1),(.var 2)]),.app 5 (.var 7)],
 .rev 5,
 .frz 5,
 .asg 8 (.call 12 [(.var 5),(.var 2)]),
 .ret (.tup [(.var 8),(.var 4)])]
noncomputable def ks_idm:List NameKind:=[.local,.local,.local,.local,.globalImplicit,.globalImplicit,.globalImplicit]
noncomputable def ir_idm:List St:=[.if_ (.cmp .Eq (.var 1) (.int 0)) [.bad] [.if_ (.cmp .Lt (.var 1) (.int 0)) [.bad,.bad] [.if_ (.cmp .Lt (.var 0) (.int 0)) [.bad,.bad] [.ret (.call 13 [(.var 0),(.var 1)])]]]]
noncomputable def g1:G:=putF (putF bg 11 i2dF) 12 d2iF
noncomputable def g2:G:=addF g1 10 3 ks_div2 ir_div2
noncomputable def g3:G:=addF g2 13 2 ks_dpos ir_dpos
noncomputable def g4:G:=addF g3 14 2 ks_idm ir_idm
theorem test1:g4 14 [.int 12,.int 4] = some (.tup [.int 3,.int 0]):=by kernel_rfl
theorem test2:g4 14 [.int 12,.int 12] = some (.tup [.int 1,.int 0]):=by kernel_rfl
theorem test3:g4 14 [.int (8 ^ 24 - 1),.int (8 ^ 6 - 1)] = some (.tup [.int ((8 ^ 24 - 1) / (8 ^ 6 - 1)),.int 0]):=by kernel_rfl
end
section
noncomputable def initA (ks:List NameKind) (as:List AV):Vars:=match ks,as with
 | _ :: ks,a :: as=>a :: initA ks as
 | kk :: ks,[]=>(if kk = .cell then .emp else .no) :: initA ks []
 | [],_=>[]
theorem initA_get:∀ {ks:List NameKind} {as:List AV} {i:Nat} {av:AV},(initA ks as)[i]? = some av -> as[i]? = some av \/ (as[i]? = none /\ ((ks[i]? = some .cell /\ av = .emp) \/ av = .no))
 | [],as,i,av,h=>by cases as <;> exact nilGet h
 | kk :: ks,a :: as,0,av,h=>.inl h
 | kk :: ks,a :: as,i + 1,av,h=>initA_get (ks:=ks) (as:=as) (i:=i) h
 | kk :: ks,[],0,av,h=>by
  have h:(if kk = .cell then AV.emp else .no) = av:=Option.some.inj h
  refine .inr ⟨rfl,?_⟩
  by_cases q:kk = .cell
  ·rw [if_pos q] at h; exact .inl ⟨by rw [q]; rfl,h.symm⟩
  ·rw [if_neg q] at h; exact .inr h.symm
 | kk :: ks,[],i + 1,av,h=>(initA_get (ks:=ks) (as:=[]) (i:=i) h).imp (fun r=>nomatch r) id
theorem fn_enter {C:Cx} {k:Nat} {a:Addr} {fd:FuncData} {body:List Stmt} {n:Nat} (F:FnOk C a fd body n) {Z P:Addr -> Prop} {A:Around} {s:Shared} {vs:List Value} (R:Room (k + 1) A) (K:OK C s) (z:ZOk C Z s)
  (hvl:vs.length = n) (as:List AV) (hal:as.length = n) (has:∀ (j:Nat) (v:Value) (av:AV),vs[j]? = some v -> as[j]? = some av -> av = .val v \/ ∃ d,av = .d d /\ IsD C Z s.heap v d) {Q:Result -> Shared -> Prop}
  (hex:∀ env s₁ B O,AtSc env fd.scope -> EnvOk env -> (env.scope = fd.scope /\ env.code = fd.code /\ env.qual = fd.qualname ++ ".<locals>.") -> Ext C s s₁ -> Room k (A.deeper env) -> SimO C B Z O env (initA (fd.scope.names.map (·.2)) as) s₁ ->
   (∀ b o,b ∉ C.T -> ¬ P b -> s.heap.get? b = some o -> B.get b = some o) -> (∀ b,P b -> B.get b = none) -> (∀ b,O b ≠ none -> s.heap.get? b = none) ->
   wpAny C.M (A.deeper env) (execs body env) (fun f s'=>Q (.ok (.ret (match f with | .ret v=>v | _=>.none))) s') nf s₁):codeAny C.M A (.call (.ref a) ⟨vs,[]⟩) Q s:=by
 obtain ⟨o,ho,hdata⟩:=F.at0
 have hmapfst:(((fd.scope.names.take n).map (·.1)).zip vs).map (·.1) = (fd.scope.names.take n).map (·.1):=by
  rw [List.map_fst_zip]; rw [List.length_map,List.length_take,hvl]; omega
 have hkind:∀ n',∀ x ∈ ((fd.scope.names.take n).map (·.1)).zip vs,fd.scope.names.lookup x.1 = some .local \/ (fd.scope.names.lookup x.1 = some .cell /\ ((cellsFrom n' fd.scope.names []).lookup x.1).isSome = true):=by
  refine kindsX (List.all_eq_true.mpr fun x hx=>?_)
  have hx1:x.1 ∈ (fd.scope.names.take n).map (·.1):=by rw [<- hmapfst]; exact List.mem_map_of_mem (f:=(·.1)) hx
  obtain ⟨p,hp,e⟩:=List.mem_map.mp hx1
  obtain ⟨y,kk⟩:=p
  have hpk:=List.all_eq_true.mp F.pk _ hp
  obtain ⟨j,hj⟩:=List.getElem?_of_mem (List.mem_of_mem_take hp)
  have:=lookup_of_get F.nd hj
  simp only at e
  rw [<- e,this]
  rcases Bool.or_eq_true_iff.mp hpk with q | q
  ·have:=eq_of_beq q; simp only at this; rw [this]; rfl
  ·have:=eq_of_beq q; simp only at this; rw [this]; rfl
 refine codeAny_call_cells (by have:=R.dep; show A.depth < 1000; omega) (K.keep _ _ ho) hdata (K.good.lim.keeps K.keep) (F.code.keeps K.keep) F.body (F.bind vs hvl) F.clo (hkind _) (fun s₁ X=>?_) F.co F.gen F.kind
 obtain ⟨h₁,tk,rfl,hkeep⟩:=X.done
 generalize henv:callEnvC fd s.heap.objs.size a = env at X
 have hL:env.locals = s.heap.objs.size:=by rw [<- henv]; rfl
 have hcells:env.cells = cellsFrom (s.heap.objs.size + 1) fd.scope.names []:=by rw [<- henv]; rfl
 have hsc:env.scope = fd.scope:=by rw [<- henv]; rfl
 have hE:EnvOk env:=⟨by rw [hsc]; exact F.kind,by rw [<- henv]; exact F.gl,by rw [<- henv]; exact F.bt,by rw [hsc]; exact F.nd⟩
 have x1:Ext C s { heap:=h₁,gens:=s.gens,drawn:=s.drawn,toks:=tk,os:=s.os }:=.of_keeps K hkeep
 have hi:∀ b o,s.heap.get? b = some o -> b < s.heap.objs.size:=fun b o g=>Heap.lt_size g
 classical
 let O:Own:=ownO env.locals fd.scope.names env.cells
 have oHi:∀ b:Nat,O b ≠ none -> s.heap.objs.size <= b:=fun b hb=>by
  rcases ownO_some hb with h | ⟨x,hx⟩
  ·have h':@Eq Nat b env.locals:=h
   rw [hL] at h'; omega
  ·have h1:@LT.lt Nat _ env.locals b:=X.above x b (mem_of_lookup hx); rw [hL] at h1; omega
 have oLo:∀ b o,s.heap.get? b = some o -> O b = none:=fun b o g=>by
  cases q:O b with
  | none=>rfl
  | some t=>have h1:@LE.le Nat _ _ b:=oHi b (nnS q); have h2:@LT.lt Nat _ b _:=hi b o g; omega
 let B:Base:=⟨fun b=>if b ∈ C.T \/ P b then none else s.heap.get? b⟩
 have S:SimO C B Z O env (initA (fd.scope.names.map (·.2)) as) { heap:=h₁,gens:=s.gens,drawn:=s.drawn,toks:=tk,os:=s.os }:=by
  refine ⟨x1.ok,hE,z.1,fun b hb=>if_pos (.inl hb),fun b o g=>?_,fun b hb=>?_,fun b hb=>⟨?_,fun q=>?_⟩,fun b hb=>?_,ownO_L,_,X.toInCall.ns,fun j x kk av e1 e2=>?_⟩
  ·have g':(if b ∈ C.T \/ P b then none else s.heap.get? b) = some o:=g
   split at g'
   ·cases g'
   ·exact hkeep b o g'
  ·rcases hb with hb | hb
   ·exact x1.ex (z.2 b hb)
   ·rcases ownO_some hb with rfl | ⟨x,hx⟩
    ·obtain ⟨o,_,_,g,_⟩:=X.toInCall.ns; exact ⟨o,g⟩
    ·obtain ⟨o,g,_⟩:=X.cell x b hx; exact ⟨o,g⟩
  ·show (if b ∈ C.T \/ P b then none else s.heap.get? b) = none
   split
   ·rfl
   ·exact Heap.get?_none_of_le (oHi b hb)
  ·obtain ⟨o,g⟩:=z.2 b q; have:=oLo b o g; exact hb this
  ·cases q:C.h0.get? b with
   | none=>rfl
   | some o=>exact absurd (oLo b o (K.keep b o q)) hb
  ·rw [hsc] at e1
   have hlook:=lookup_of_get F.nd e1
   have hko:env.kindOf x = some kk:=by show env.scope.names.lookup x = _; rw [hsc]; exact hlook
   have up:∀ v d,IsD C Z s.heap v d -> IsD C (Zf Z O) h₁ v d:=fun v d i=>i.mono (fun b o n g=>hkeep b o g) fun b o n g q=>q.elim n fun q=>q (oLo b o g)
   rcases initA_get e2 with q1 | ⟨q1,⟨q2,rfl⟩ | rfl⟩
   ·have hj:j < n:=by have:=(List.getElem?_eq_some_iff.mp q1).1; omega
    obtain ⟨v,g1⟩:∃ v,vs[j]? = some v:=⟨_,List.getElem?_eq_getElem (by omega)⟩
    have hmem:(x,v) ∈ ((fd.scope.names.take n).map (·.1)).zip vs:=by
     apply List.mem_of_getElem? (i:=j)
     rw [List.getElem?_zip_eq_some]
     exact ⟨by rw [List.getElem?_map,List.getElem?_take,if_pos hj,e1]; rfl,g1⟩
    have hnd:((((fd.scope.names.take n).map (·.1)).zip vs).map (·.1)).Nodup:=by
     rw [hmapfst,List.map_take]; exact F.nd.sublist (List.take_sublist _ _)
    have hh:HoldsO env (bindL env.kindOf (((fd.scope.names.take n).map (·.1)).zip vs) fun _=>none) h₁ O j x kk v:=by
     rcases hkind 0 _ hmem with hk | ⟨hk,_⟩
     ·rw [hlook] at hk; cases hk
      exact .inl ⟨rfl,bindL_get hko hnd hmem⟩
     ·rw [hlook] at hk; cases hk
      obtain ⟨c,hc⟩:=cellsFrom_mem fd.scope.names (s.heap.objs.size + 1) (List.mem_of_getElem? e1)
      rw [<- hcells] at hc
      refine .inr ⟨rfl,c,hc,ownO_cell F.nd X.apart e1 hc (fun q=>?_),?_⟩
      ·have h1:@LT.lt Nat _ env.locals c:=X.above x c (mem_of_lookup hc)
       exact absurd (show @Eq Nat c env.locals from q) (by omega)
      ·have:=X.cell x c hc
       rwa [bindC_get (by rw [hko]; simp) hnd hmem] at this
    rcases has j v av g1 q1 with rfl | ⟨d,rfl,i⟩
    ·exact .inl hh
    ·exact ⟨v,hh,up _ _ i⟩
   ·rw [List.getElem?_map,e1] at q2
    simp at q2
    subst q2
    obtain ⟨c,hc⟩:=cellsFrom_mem fd.scope.names (s.heap.objs.size + 1) (List.mem_of_getElem? e1)
    rw [<- hcells] at hc
    refine ⟨rfl,c,_,hc,ownO_cell F.nd X.apart e1 hc (fun q=>?_),X.cell x c hc⟩
    have h1:@LT.lt Nat _ env.locals c:=X.above x c (mem_of_lookup hc)
    exact absurd (show @Eq Nat c env.locals from q) (by omega)
   ·trivial
 refine wpAny_mono (hex env _ B O (AtSc.refl hsc) hE ⟨hsc,by rw [<- henv]; rfl,by rw [<- henv]; rfl⟩ x1 R.deeper S (fun b o hb hp g=>by show (if b ∈ C.T \/ P b then none else s.heap.get? b) = some o; rw [if_neg (fun q=>q.elim hb hp)]; exact g)
  (fun b hb=>if_pos (.inr hb)) fun b hb=>Heap.get?_none_of_le (oHi b hb)) (fun f s1 h=>h) fun _ _ e=>e.elim
end
section
noncomputable def clsChk (K:Frag) (c:Addr) (names:List Str):Bool :=
 plainGet K c "" && hasDictIn K c && findIn K (.ref c) "__setattr__" == some (some (.builtin "object.__setattr__")) && plainOver K c && names.all fun n=>findIn K (.ref c) n == some none
structure ClsOk (K:Frag) (c:Addr) (names:List Str):Prop where
 pg:plainGet K c "" = true
 hd:hasDictIn K c = true
 sa:findIn K (.ref c) "__setattr__" = some (some (.builtin "object.__setattr__"))
 po:plainOver K c = true
 no:∀ n ∈ names,findIn K (.ref c) n = some none
theorem clsOk_of {K:Frag} {c:Addr} {names:List Str} (h:clsChk K c names = true):ClsOk K c names:=by
 unfold clsChk at h
 simp only [Bool.and_eq_true,List.all_eq_true,beq_iff_eq] at h
 obtain ⟨⟨⟨⟨h1,h2⟩,h3⟩,h4⟩,h5⟩:=h
 exact ⟨h1,h2,h3,h4,h5⟩
section
variable {prog:Program} {w:World} {A:Around} {E:Value -> Shared -> Prop} {s:Shared} {K:Frag} {x c dx:Addr} {es es':List DictEntry} {n n':Nat} {name:Str} {v:Value} {names:List Str}
theorem inst_at {h:Heap} {o:Obj} (hx:h.get? x = some (instObj c dx)) (hd:h.get? dx = some o):InstAt h x (instObj c dx) c (some o):=⟨hx,rfl,rfl,hd⟩
theorem inst_get {expr:Bool} {Q:Value -> Shared -> Prop} {o:Obj} (Y:ClsOk K c names) (X:K.In s.heap) (hx:s.heap.get? x = some (instObj c dx)) (hd:s.heap.get? dx = some o) (hn:name ∈ names) (hl:lookIn name o = some (some v)) (hv:handedIn v = true)
  (h:Q v { s with toks:=s.toks + 1 }):wpAny (model prog w) A (getAttr (.ref x) name expr) Q E s :=
 get_value X (inst_at hx hd) (plainGet_of Y.pg).1 (findObj_own Y.hd (Y.no _ hn) rfl hl) hv h
theorem inst_meth {pl:Sem Bool} {Q:Value × List Value -> Shared -> Prop} {f:Addr} {o:Obj} (Y:ClsOk K c names) (X:K.In s.heap) (hx:s.heap.get? x = some (instObj c dx)) (hd:s.heap.get? dx = some o)
  (hf:findIn K (.ref c) name = some (some (.ref f))) (ht:isFn K (.ref f) = true) (hl:lookIn name o = some none) (h:Q (.ref f,[.ref x]) s):wpAny (model prog w) A (getMethod (.ref x) name pl) Q E s :=
 method_fn X (inst_at hx hd) (plainGet_of (name:="") Y.pg).1 (plainGet_of (name:="") Y.pg).2 hf (beq_iff_eq.mp ht) (by show (lookIn name o).map _ = _; rw [hl]; rfl) h
set_option tactic.hygienic true in
theorem inst_set {Q:Unit -> Shared -> Prop} (Y:ClsOk K c names) (X:K.In s.heap) (hx:s.heap.get? x = some (instObj c dx)) (hd:s.heap.get? dx = some (dictOf es n)) (hn:name ∈ names) (hl:(getL name es).isSome = true)
  (e:(putL name (PyData.keyHash w.params name) (.str name (s.toks + 1)) v es,putN name es n) = (es',n')) (hz:es'.length <= 1000)
  (h:∀ h',h'.get? dx = some (dictOf es' n') -> Heap.SameBut dx s.heap h' -> Q () { s with heap:=h',toks:=s.toks + 2 }) :
  wpAny (model prog w) A (setAttr (.ref x) name v) Q E s:=by
 obtain ⟨hh,gg,dr,tk,os⟩:=s
 dsimp only at X hx hd e h
 obtain ⟨e1,e2⟩:=Prod.mk.inj e
 have I:=inst_at hx hd
 refine set_plain X I Y.sa (osa_open (r:=none) (s:=⟨hh,gg,dr,tk + 1,os⟩) X I Y.po (by unfold takerIn; rw [Y.no _ hn]; rfl) fun b=>?_)
 obtain ⟨cd,hc,hd'⟩:=any_some Y.hd
 have ep:Obj.putName name (PyData.keyHash w.params name) (.str name (tk + 1)) v (dictOf es n) = dictOf es' n':=by rw [putName_dict,e1,e2]
 have D':(hh.update dx (Obj.putName name (PyData.keyHash w.params name) (.str name (tk + 1)) v)).get? dx = some (dictOf es' n'):=by rw [<- ep]; exact Heap.get?_update_self _ hd (by rw [ep]; rfl)
 refine wpAny_bind (wpAny_pure (wpAny_bind (wpAny_bind (wpAny_loadPart hx (wpAny_bind ((looks_clsIn X hc).here ?_))))))
 rw [hd']
 refine wpAny_pure (a:=some dx) (wpAny_bind (wpAny_pure (wpAny_bind ?_)))
 unfold nsSet
 refine wpAny_bind (wpAny_bind (wpAny_askSetting (wpAny_pure (wpAny_bind (wpAny_mkText (wpAny_bind (wpAny_loadPart hd ?_)))))))
 dsimp only
 have c:(!es.toArray.any (·.key.isStr name) && es.toArray.any (·.refKey)) = false:=by
  rw [<- Array.any_toList,<- Array.any_toList]
  unfold getL at hl
  split at hl
  ·rename_i en he
   rw [List.any_eq_true.mpr ⟨en,List.mem_of_find?_eq_some he,List.find?_some he⟩]; rfl
  ·split at hl
   ·cases hl
   ·rename_i z; rw [Bool.not_eq_true] at z; rw [z,Bool.and_false]
 rw [aRefKeyMayBeTheName_at,c]
 refine wpAny_updatePart hd ?_
 refine wpAny_bind (wpAny_lookBehind D' (pastItsLine_dict (by rw [List.size_toArray,sizeLine_eq]; omega)) ?_)
 exact wpAny_pure (h _ D' (Heap.SameBut.update ..))
end
section
variable {C:Cx} {B:Base} {U:Addr -> Prop} {O:Own} {env:Env} {σ σ':Vars} {s s':Shared} {k:Nat} {A:Around} {h:Heap}
theorem SimO.upAll (S:SimO C B U O env σ s) {X:List Addr} (hX:∀ b ∈ X,C.h0.get? b = none) (hO:∀ b,O b ≠ none -> b ∈ X):Up C (fixH C s X) /\ SimO (C.up (fixH C s X)) B U O env σ s:=by
 have H:Up C (fixH C s X):=by
  refine ⟨fun b o e=>hideAll_get _ (S.ok.keep b o e) fun q=>?_,fun b hb=>hideAll_none _ (List.mem_append_left _ hb),S.ok.good⟩
  rcases List.mem_append.mp q with q | q
  ·rw [S.ok.good.notab b q] at e; cases e
  ·rw [hX b q] at e; cases e
 obtain ⟨m,hm,hv⟩:=S.vars
 refine ⟨H,S.ok.up H fun b o e=>of_hideAll _ e,S.ev,S.tu,S.bt,S.keepB,S.lt,S.ob,fun b hb=>hideAll_none _ (List.mem_append_right _ (hO b hb)),S.hL,m,hm,fun i x kk av e1 e2=>?_⟩
 have old:=hv i x kk av e1 e2
 have dat:∀ {v d},IsD C (Zf U O) s.heap v d -> IsD (C.up (fixH C s X)) (Zf U O) s.heap v d:=fun i=>i.cast (C:=C) (C':=C.up (fixH C s X)) rfl
 cases av with
 | no=>trivial
 | emp=>exact old
 | d d=>obtain ⟨v,g1,g2⟩:=old; exact ⟨v,g1,dat g2⟩
 | sd d=>obtain ⟨e,c,v,g1,g2,g3⟩:=old; exact ⟨e,c,v,g1,g2,dat g3⟩
 | own l=>obtain ⟨a,vs,g1,g2,g3,g4⟩:=old; exact ⟨a,vs,g1,g2,g3,g4.cast (C:=C) (C':=C.up (fixH C s X)) rfl⟩
 | val u=>exact old.imp id fun ⟨e,c,o,g1,g2,g3⟩=>⟨e,c,o,g1,H.sub _ _ g2,g3⟩
 | lex L st=>exact ⟨old.1.imp id fun ⟨e,c,o,g1,g2,g3⟩=>⟨e,c,o,g1,g2.imp id (H.sub _ _),g3⟩,old.2⟩
theorem SimO.downV (S:SimO (C.up h) B U O env σ s) (H:Up C h) (hval:∀ (i:Nat) (x:Str) (kk:NameKind) (u:Value),env.scope.names[i]? = some (x,kk) -> σ[i]? = some (AV.val u) -> kk = NameKind.local \/ ∃ c o,env.cells.lookup x = some c /\ C.h0.get? c = some o /\ o.data = .cell (some u)) (hlex:∀ (i:Nat) (L:LexA) (st:LexSt),σ[i]? ≠ some (AV.lex L st)):SimO C B U O env σ s:=by
 obtain ⟨m,hm,hv⟩:=S.vars
 refine ⟨S.ok.down H,S.ev,S.tu,S.bt,S.keepB,S.lt,S.ob,fun b hb=>?_,S.hL,m,hm,fun i x kk av e1 e2=>?_⟩
 ·cases g:C.h0.get? b with
  | none=>rfl
  | some o=>have this:h.get? b = none:=S.oh b hb; rw [H.sub b o g] at this; cases this
 have old:=hv i x kk av e1 e2
 have dat:∀ {v d},IsD (C.up h) (Zf U O) s.heap v d -> IsD C (Zf U O) s.heap v d:=fun i=>i.cast (C:=C.up h) (C':=C) rfl
 cases av with
 | no=>trivial
 | emp=>exact old
 | d d=>obtain ⟨v,g1,g2⟩:=old; exact ⟨v,g1,dat g2⟩
 | sd d=>obtain ⟨e,c,v,g1,g2,g3⟩:=old; exact ⟨e,c,v,g1,g2,dat g3⟩
 | own l=>obtain ⟨a,vs,g1,g2,g3,g4⟩:=old; exact ⟨a,vs,g1,g2,g3,g4.cast (C:=C.up h) (C':=C) rfl⟩
 | val u =>
  rcases old with q | ⟨q,_⟩
  ·exact .inl q
  ·rcases hval i x kk u e1 e2 with rfl | w
   ·rcases q with q | q <;> cases q
   ·exact .inr ⟨q,w⟩
 | lex L st=>exact absurd e2 (hlex i L st)
open Classical in
noncomputable def ownL (O:Own) (s:Shared):List Addr:=(List.range s.heap.objs.size).filter fun b=>decide (O b ≠ none)
theorem SimO.mem_ownL (S:SimO C B U O env σ s) {b:Addr} (hb:O b ≠ none):b ∈ ownL O s:=by
 obtain ⟨o,g⟩:=S.lt b (.inr hb)
 unfold ownL
 exact List.mem_filter.mpr ⟨List.mem_range.mpr (Heap.lt_size g),by simpa using hb⟩
theorem ownL_own {b:Addr} (h:b ∈ ownL O s):O b ≠ none:=by
 unfold ownL at h
 simpa using (List.mem_filter.mp h).2
theorem exs_wp {st:Stmt} {ss:List Stmt} {Q:Fl -> Vars -> Prop} {Qf:Flow -> Shared -> Prop} (hst:ExS C k env σ st Q) (R:Room k A) (S:SimO C B U O env σ s)
  (h:∀ O' σ' s',SimO C B U O' env σ' s' -> Q .next σ' -> wpAny C.M A (execs ss env) Qf nf s') (hn:∀ σ' f,Q f σ' -> f = .next):wpAny C.M A (execs (st :: ss) env) Qf nf s:=by
 refine wpAny_execs_cons (wpT (hst B U A s R ⟨O,S⟩) fun f s' hZ2=>?_); obtain ⟨O',σ2,fl,S',hf,q⟩:=hZ2
 have:=hn _ _ q
 subst this
 cases f <;> first | exact h O' σ2 s' S' q | exact hf.elim
theorem for_any {g:G} {nm:Nat -> Str} {sc:Scope} {ks:List NameKind} {tg:Tg} {body:List St} {target iter:Expr} {bd:List Stmt} {pos:Pos} {items:List D} {fl:Fl} (H:Gd C k g nm) (hE:EnvOk env) (hA:AtSc env sc) (hks:sc.names.map (·.2) = ks)
  (hit:EvIt C k env σ iter items) (h0:repTg sc tg target = true) (h2:repB nm sc body bd = true)
  (he:loopF (fun d σ'=>match setT ks σ' tg d with
     | some σ₂=>evB g ks body σ₂
     | none=>none) items σ = some (fl,σ')) (hs:∀ x,foldedSetIterable iter env x = pure x):ExS C k env σ (.For target iter bd [] pos) (Fin1 fl σ'):=by
 refine ExS.for_ hit (fun n σ₁=>loopF (fun d σ'=>match setT ks σ' tg d with
  | some σ₂=>evB g ks body σ₂
  | none=>none) (items.drop n) σ₁ = some (fl,σ')) (by rw [List.drop_zero]; exact he) (fun n d σ₁ hd hJ=>?_) (fun σ₁ hJ=>?_) hs
 ·have hlt:=(List.getElem?_eq_some_iff.mp hd).1
  have e0:items.drop n = d :: items.drop (n + 1):=by
   rw [List.drop_eq_getElem_cons hlt]
   congr 1
   exact (List.getElem?_eq_some_iff.mp hd).2
  rw [e0] at hJ
  simp only [loopF] at hJ
  cases w2:setT ks σ₁ tg d with
  | none=>rw [w2] at hJ; cases hJ
  | some σ₂ =>
   rw [w2] at hJ
   dsimp only at hJ
   refine (setT_as hA hks h0 w2).mono fun σ₂' e=>?_
   subst e
   cases w3:evB g ks body σ₂' with
   | none=>rw [w3] at hJ; cases hJ
   | some r =>
    obtain ⟨f1,σ₃⟩:=r
    rw [w3] at hJ
    refine (evB_s H hE hA hks body h2 w3).mono fun f2 σ₄ hZ2=>?_; obtain ⟨e1,e2⟩:=hZ2
    subst e1 e2
    cases f2 with
    | next=>exact hJ
    | cont=>exact hJ
    | brk=>cases hJ; exact ⟨rfl,rfl⟩
    | ret d=>cases hJ; exact ⟨rfl,rfl⟩
 ·rw [List.drop_length] at hJ
  cases hJ; exact ⟨rfl,rfl⟩
end
end
section
theorem deq_str {a b:Str} (ha:PyData.strOk a = true) (hb:PyData.strOk b = true):deq (.str a) (.str b) = some (a == b):=by
 unfold deq
 simp [okPy,D.py,PyData.canLay0,PyData.depth,PyData.eqv,ha,hb]
noncomputable def bump (cnt:List Int) (b:Nat):List Int :=
 (cnt ++ List.replicate (b + 1 - cnt.length) 0).set b ((cnt ++ List.replicate (b + 1 - cnt.length) 0).getD b 0 + 1)
theorem bump_len (cnt:List Int) (b:Nat):(bump cnt b).length = max cnt.length (b + 1):=by
 unfold bump; rw [List.length_set,List.length_append,List.length_replicate,Nat.add_comm,Nat.sub_add_eq_max,Nat.max_comm]
noncomputable def wsGo:List Nat -> List Int -> Nat -> Nat -> Nat -> List Int × Nat × Nat × Nat
 | [],cnt,b,n,nt=>(cnt,b,n,nt)
 | c :: cs,cnt,b,n,nt=>if c = 32 then wsGo cs cnt (b + 1) (n + 1) nt else if c = 9 then wsGo cs (bump cnt b) 0 (n + 1) (nt + 1) else (cnt,b,n,nt)
noncomputable def ws_ks:List NameKind:=[.local,.local,.local,.local,.local,.local,.local,.local,.local,.globalImplicit,.globalImplicit,.globalImplicit]
noncomputable def ws_body:List St:=[.if_ (.cmp .Eq (.var 8) (.var 2)) [.asg 6 (.bin .Add (.var 6) (.int 1)),.asg 5 (.bin .Add (.var 5) (.int 1))] [.if_ (.cmp .Eq (.var 8) (.var 3)) [.asg 6 (.bin .Add (.var 6) (.int 1)),.asg 7 (.bin .Add (.var 7) (.int 1)),.if_ (.cmp .GtE (.var 5) (.call 0 [(.var 4)])) [.frz 4,.asgO 4 (.bin .Add (.var 4) (.bin .Mult (.lst [(.int 0)]) (.bin .Add (.bin .Sub (.var 5) (.call 0 [(.var 4)])) (.int 1))))] [],.set 4 (.var 5) (.bin .Add (.sub (.var 4) (.var 5)) (.int 1)),.asg 5 (.int 0)] [.brk]]]
noncomputable def wsσ (v0 v1:AV) (cnt:List Int) (b n nt:Nat) (ch:AV):Vars:=[v0,v1,.d (.str " "),.d (.str "\t"),.own (cnt.map .int),.d (.int b),.d (.int n),.d (.int nt),ch,.no,.no,.no]
noncomputable abbrev wsTurn:D -> Vars -> Option (Fl × Vars):=fun d σ'=>match setT ws_ks σ' (.one 8) d with
 | some σ₂=>evB bg ws_ks ws_body σ₂
 | none=>none
section
variable {v0 v1:AV} {cnt:List Int} {b n nt:Nat} {ch:AV} {x:D}
theorem ws_blank (hc:ch = .no \/ ∃ x,ch = .d x):wsTurn (.str ⟨#[32]⟩) (wsσ v0 v1 cnt b n nt ch) = some (.next,wsσ v0 v1 cnt (b + 1) (n + 1) nt (.d (.str ⟨#[32]⟩))):=by
 rcases hc with rfl | ⟨x,rfl⟩ <;> kernel_rfl
theorem ws_set (hc:ch = .no \/ ∃ x,ch = .d x) (d:D):setT ws_ks (wsσ v0 v1 cnt b n nt ch) (.one 8) d = some (wsσ v0 v1 cnt b n nt (.d d)):=by
 rcases hc with rfl | ⟨x,rfl⟩ <;> kernel_rfl
theorem ws_cnt:(bg 0 [.lst (cnt.map .int)]) = if cnt.length <= 1000000 then some (.int (cnt.length:Int)) else none:=by
 show (if (cnt.map D.int).length <= 1000000 then some (D.int ((cnt.map D.int).length:Int)) else none) = _
 rw [List.length_map]
theorem ws_len (hl:cnt.length <= 900000):evE bg (.call 0 [(.var 4)]) (frzAll (wsσ v0 v1 cnt b n nt (.d x))) = some (.int (cnt.length:Int)):=by
 have e:evE bg (.call 0 [(.var 4)]) (frzAll (wsσ v0 v1 cnt b n nt (.d x))) = bg 0 [.lst (cnt.map .int)]:=by kernel_rfl
 rw [e,ws_cnt,if_pos (by omega)]
theorem ws_ge (hl:cnt.length <= 900000):evXT bg (wsσ v0 v1 cnt b n nt (.d x)) (.cmp .GtE (.var 5) (.call 0 [(.var 4)])) = some (decide ((cnt.length:Int) <= (b:Int))):=by
 have e1:evT bg (.cmp .GtE (.var 5) (.call 0 [(.var 4)])) (wsσ v0 v1 cnt b n nt (.d x)) = none:=by kernel_rfl
 have e2:evE bg (.var 5) (frzAll (wsσ v0 v1 cnt b n nt (.d x))) = some (.int b):=by kernel_rfl
 rw [evXT,e1]
 exact t_cmp e2 (ws_len hl) rfl
noncomputable def wsGrow:List St:=[.frz 4,.asgO 4 (.bin .Add (.var 4) (.bin .Mult (.lst [(.int 0)]) (.bin .Add (.bin .Sub (.var 5) (.call 0 [(.var 4)])) (.int 1))))]
theorem flat_rep (n:Nat) (d:D):(List.replicate n [d]).flatten = List.replicate n d:=by
 induction n with
 | zero=>rfl
 | succ n ih=>rw [List.replicate_succ,List.flatten_cons,ih]; rfl
theorem ws_grow (hl:cnt.length + b <= 900000) (h:cnt.length <= b):evB bg ws_ks wsGrow (wsσ v0 v1 cnt b n nt (.d x)) = some (.next,wsσ v0 v1 (cnt ++ List.replicate (b + 1 - cnt.length) 0) b n nt (.d x)):=by
 have e0:∀ m:Nat,m < 1000000 -> mulL [.int 0] (m:Int) = some (.lst (List.replicate m (.int 0))):=fun m hm=>by
  unfold mulL
  rw [if_pos (by simp; omega),Int.toNat_natCast,flat_rep]
 let σ1:=frz1 4 (wsσ v0 v1 cnt b n nt (.d x))
 have f4:evE bg (.var 4) σ1 = some (.lst (cnt.map .int)):=by kernel_rfl
 have f5:evE bg (.var 5) σ1 = some (.int b):=by kernel_rfl
 have fl:evE bg (.call 0 [(.var 4)]) σ1 = some (.int (cnt.length:Int)):=by
  have e:evE bg (.call 0 [(.var 4)]) σ1 = bg 0 [.lst (cnt.map .int)]:=by kernel_rfl
  rw [e,ws_cnt,if_pos (by omega)]
 have fm:evE bg (.bin .Add (.bin .Sub (.var 5) (.call 0 [(.var 4)])) (.int 1)) σ1 = some (.int ((b + 1 - cnt.length:Nat):Int)):=by
  have:(b:Int) - (cnt.length:Int) + 1 = ((b + 1 - cnt.length:Nat):Int):=by omega
  rw [<- this]
  exact e_bin (e_bin f5 fl rfl) rfl rfl
 have fr:evE bg (.bin .Mult (.lst [(.int 0)]) (.bin .Add (.bin .Sub (.var 5) (.call 0 [(.var 4)])) (.int 1))) σ1 = some (.lst (List.replicate (b + 1 - cnt.length) (.int 0))):=by
  have q:evE bg (.lst [(.int 0)]) σ1 = some (.lst [.int 0]):=by kernel_rfl
  exact e_bin q fm (e0 _ (by omega))
 have fs:evS bg ws_ks (.asgO 4 (.bin .Add (.var 4) (.bin .Mult (.lst [(.int 0)]) (.bin .Add (.bin .Sub (.var 5) (.call 0 [(.var 4)])) (.int 1))))) σ1 = some (.next,wsσ v0 v1 (cnt ++ List.replicate (b + 1 - cnt.length) 0) b n nt (.d x)):=by
  have q:evF bg σ1 (.bin .Add (.var 4) (.bin .Mult (.lst [(.int 0)]) (.bin .Add (.bin .Sub (.var 5) (.call 0 [(.var 4)])) (.int 1)))) = some ((cnt ++ List.replicate (b + 1 - cnt.length) 0).map .int):=by
   show (match evE bg (.var 4) σ1,evE bg (.bin .Mult (.lst [(.int 0)]) (.bin .Add (.bin .Sub (.var 5) (.call 0 [(.var 4)])) (.int 1))) σ1 with
    | some (.lst x),some (.lst y)=>if x.length + y.length <= 1000000 then some (x ++ y) else none
    | _,_=>none) = _
   rw [f4,fr]
   show (if _ then _ else _) = _
   rw [if_pos (by simp; omega),List.map_append,List.map_replicate]
  exact s_asgO q rfl
 unfold wsGrow
 rw [evB_frz]
 exact evB_one fs
theorem ws_put (hl:b < cnt.length) (hl':cnt.length <= 900000):evS bg ws_ks (.set 4 (.var 5) (.bin .Add (.sub (.var 4) (.var 5)) (.int 1))) (wsσ v0 v1 cnt b n nt (.d x)) = some (.next,wsσ v0 v1 (cnt.set b (cnt.getD b 0 + 1)) b n nt (.d x)):=by
 have e1:getO (wsσ v0 v1 cnt b n nt (.d x)) 4 = some (cnt.map .int):=by kernel_rfl
 have e2:evX bg (wsσ v0 v1 cnt b n nt (.d x)) (.var 5) = some (.int b):=by kernel_rfl
 have e3:evE bg (.bin .Add (.sub (.var 4) (.var 5)) (.int 1)) (wsσ v0 v1 cnt b n nt (.d x)) = none:=by kernel_rfl
 have e4:evE bg (.var 4) (frzAll (wsσ v0 v1 cnt b n nt (.d x))) = some (.lst (cnt.map .int)):=by kernel_rfl
 have e5:evE bg (.var 5) (frzAll (wsσ v0 v1 cnt b n nt (.d x))) = some (.int b):=by kernel_rfl
 have e6:evX bg (wsσ v0 v1 cnt b n nt (.d x)) (.bin .Add (.sub (.var 4) (.var 5)) (.int 1)) = some (.int (cnt.getD b 0 + 1)):=by
  rw [evX,e3,e_bin (e_sub e4 e5 (nth_int hl (by omega))) rfl rfl]
  rw [List.getD_eq_getElem?_getD,List.getElem?_eq_getElem hl]
  rfl
 show (match getO (wsσ v0 v1 cnt b n nt (.d x)) 4,evX bg (wsσ v0 v1 cnt b n nt (.d x)) (.var 5),evX bg (wsσ v0 v1 cnt b n nt (.d x)) (.bin .Add (.sub (.var 4) (.var 5)) (.int 1)) with
  | some l,some (.int n),some d=>if l.length <= 1000000 /\ 0 <= n /\ n < l.length then some (Fl.next,_) else none
  | _,_,_=>none) = _
 rw [e1,e2,e6]
 show (if _ then _ else _) = _
 rw [if_pos (by simp; omega),Int.toNat_natCast,<- List.map_set]
 rfl
theorem ws_tab (hc:ch = .no \/ ∃ x,ch = .d x) (hl:cnt.length + b < 900000):wsTurn (.str ⟨#[9]⟩) (wsσ v0 v1 cnt b n nt ch) = some (.next,wsσ v0 v1 (bump cnt b) 0 (n + 1) (nt + 1) (.d (.str ⟨#[9]⟩))):=by
 unfold wsTurn
 rw [ws_set hc]
 dsimp only
 have main:evB bg ws_ks [.asg 6 (.bin .Add (.var 6) (.int 1)),.asg 7 (.bin .Add (.var 7) (.int 1)),.if_ (.cmp .GtE (.var 5) (.call 0 [(.var 4)])) wsGrow [],.set 4 (.var 5) (.bin .Add (.sub (.var 4) (.var 5)) (.int 1)),.asg 5 (.int 0)] (wsσ v0 v1 cnt b n nt (.d (.str ⟨#[9]⟩))) = some (.next,wsσ v0 v1 (bump cnt b) 0 (n + 1) (nt + 1) (.d (.str ⟨#[9]⟩))):=by
  rw [evB_next (σ':=wsσ v0 v1 cnt b (n + 1) nt (.d (.str ⟨#[9]⟩))) (by kernel_rfl)]
  rw [evB_next (σ':=wsσ v0 v1 cnt b (n + 1) (nt + 1) (.d (.str ⟨#[9]⟩))) (by kernel_rfl)]
  have hif:evS bg ws_ks (.if_ (.cmp .GtE (.var 5) (.call 0 [(.var 4)])) wsGrow []) (wsσ v0 v1 cnt b (n + 1) (nt + 1) (.d (.str ⟨#[9]⟩))) = some (.next,wsσ v0 v1 (cnt ++ List.replicate (b + 1 - cnt.length) 0) b (n + 1) (nt + 1) (.d (.str ⟨#[9]⟩))):=by
   by_cases h:cnt.length <= b
   ·rw [evS_ift (by rw [ws_ge (by omega),decide_eq_true (by omega)]),ws_grow (by omega) h]
   ·rw [evS_iff (by rw [ws_ge (by omega),decide_eq_false (by omega)]),evB_nil]
    have:b + 1 - cnt.length = 0:=by omega
    rw [this,List.replicate_zero,List.append_nil]
  rw [evB_next hif,evB_next (ws_put (by rw [List.length_append,List.length_replicate]; omega) (by rw [List.length_append,List.length_replicate]; omega))]
  exact evB_one (by kernel_rfl)
 have e1:evXT bg (wsσ v0 v1 cnt b n nt (.d (.str ⟨#[9]⟩))) (.cmp .Eq (.var 8) (.var 2)) = some false:=by kernel_rfl
 have e2:evXT bg (wsσ v0 v1 cnt b n nt (.d (.str ⟨#[9]⟩))) (.cmp .Eq (.var 8) (.var 3)) = some true:=by kernel_rfl
 refine evB_one ?_
 rw [evS_iff e1]
 refine evB_one ?_
 rw [evS_ift e2]
 exact main
theorem ws_other (hc:ch = .no \/ ∃ x,ch = .d x) {c:Nat} (h1:c ≠ 32) (h2:c ≠ 9) (h3:PyData.strOk ⟨#[c]⟩ = true):wsTurn (.str ⟨#[c]⟩) (wsσ v0 v1 cnt b n nt ch) = some (.brk,wsσ v0 v1 cnt b n nt (.d (.str ⟨#[c]⟩))):=by
 unfold wsTurn
 rw [ws_set hc]
 dsimp only
 have q:∀ d:Nat,c ≠ d -> ((⟨#[c]⟩:Str) == ⟨#[d]⟩) = false:=fun d h=>by
  rw [beq_eq_false_iff_ne]
  intro e
  injection e with e
  simp at e
  exact h e
 have e1:evXT bg (wsσ v0 v1 cnt b n nt (.d (.str ⟨#[c]⟩))) (.cmp .Eq (.var 8) (.var 2)) = some false:=by
  have:evT bg (.cmp .Eq (.var 8) (.var 2)) (wsσ v0 v1 cnt b n nt (.d (.str ⟨#[c]⟩))) = deq (.str ⟨#[c]⟩) (.str ⟨#[32]⟩):=by kernel_rfl
  unfold evXT
  rw [this,deq_str h3 (by kernel_rfl),q 32 h1]
 have e2:evXT bg (wsσ v0 v1 cnt b n nt (.d (.str ⟨#[c]⟩))) (.cmp .Eq (.var 8) (.var 3)) = some false:=by
  have:evT bg (.cmp .Eq (.var 8) (.var 3)) (wsσ v0 v1 cnt b n nt (.d (.str ⟨#[c]⟩))) = deq (.str ⟨#[c]⟩) (.str ⟨#[9]⟩):=by kernel_rfl
  unfold evXT
  rw [this,deq_str h3 (by kernel_rfl),q 9 h2]
 refine evB_one ?_
 rw [evS_iff e1]
 refine evB_one ?_
 rw [evS_iff e2]
 exact evB_one rfl
theorem ws_loop:∀ (cs:List Nat) (cnt:List Int) (b n nt:Nat) (ch:AV),(∀ c ∈ cs,PyData.strOk ⟨#[c]⟩ = true) -> (ch = .no \/ ∃ x,ch = .d x) -> cnt.length + b + 2 * cs.length <= 900000 ->
  ∃ ch',(ch' = .no \/ ∃ x,ch' = .d x) /\ loopF wsTurn (cs.map fun c=>D.str ⟨#[c]⟩) (wsσ v0 v1 cnt b n nt ch) = some (.next,wsσ v0 v1 (wsGo cs cnt b n nt).1 (wsGo cs cnt b n nt).2.1 (wsGo cs cnt b n nt).2.2.1 (wsGo cs cnt b n nt).2.2.2 ch')
 | [],cnt,b,n,nt,ch,_,hc,_=>⟨ch,hc,rfl⟩
 | c :: cs,cnt,b,n,nt,ch,hs,hc,hl=>by
  have hs':∀ c ∈ cs,PyData.strOk ⟨#[c]⟩ = true:=fun c h=>hs c (.tail _ h)
  rw [List.map_cons]
  rw [List.length_cons] at hl
  by_cases h1:c = 32
  ·subst h1
   obtain ⟨ch',a1,a2⟩:=ws_loop cs cnt (b + 1) (n + 1) nt _ hs' (.inr ⟨_,rfl⟩) (by omega)
   refine ⟨ch',a1,?_⟩
   simp only [loopF,ws_blank hc]
   simp only [wsGo,if_true]
   exact a2
  ·by_cases h2:c = 9
   ·subst h2
    obtain ⟨ch',a1,a2⟩:=ws_loop cs (bump cnt b) 0 (n + 1) (nt + 1) _ hs' (.inr ⟨_,rfl⟩) (by rw [bump_len]; omega)
    refine ⟨ch',a1,?_⟩
    have w:=ws_tab (v0:=v0) (v1:=v1) (n:=n) (nt:=nt) hc (show cnt.length + b < 900000 by omega)
    simp only [loopF,w]
    simp only [wsGo,if_neg h1,if_true]
    exact a2
   ·refine ⟨.d (.str ⟨#[c]⟩),.inr ⟨_,rfl⟩,?_⟩
    simp only [loopF,ws_other hc h1 h2 (hs c (.head _))]
    simp only [wsGo,if_neg h1,if_neg h2]
end
end
section
section
variable {C:Cx} {B:Base} {U:Addr -> Prop} {O:Own} {env:Env} {σ σ':Vars} {s s':Shared} {k:Nat} {A:Around} {h:Heap} {K:Frag}
theorem inst_notT {x dx:Addr} {c:Addr} (Q:OK C s) (hx:s.heap.get? x = some (instObj c dx)):x ∉ C.T:=fun q=>by
 obtain ⟨ps,g,_⟩:=Q.tab x q; rw [hx] at g; cases g
theorem dict_notT {dx:Addr} {es:List DictEntry} {n:Nat} (Q:OK C s) (hx:s.heap.get? dx = some (dictOf es n)):dx ∉ C.T:=fun q=>by
 obtain ⟨ps,g,_⟩:=Q.tab dx q; rw [hx] at g; cases g
theorem attr_store {y name:Str} {i c x dx:Addr} {p1 p2 pos:Pos} {e:Expr} {d:D} {ss:List Stmt} {Qf:Flow -> Shared -> Prop} {names:List Str} {es:List DictEntry} {n n':Nat} {esF:Int -> Tok -> Value -> List DictEntry}
  (R:Room k A) (S:SimO C B U O env σ s) (hy:IsVar env.scope y i) (hs:σ[i]? = some (.val (.ref x))) (h1:(y == ("__debug__":Str)) = false) (h2:(y == ("__classdict__":Str)) = false)
  (he:Ev C k env σ e d) (hn:notComp e = true) (Y:ClsOk K c names) (X:K.In C.h0) (hx:s.heap.get? x = some (instObj c dx)) (hd:s.heap.get? dx = some (dictOf es n)) (hU:U dx) (hO:O dx = none) (hB:B.get dx = none) (h0:C.h0.get? dx = none)
  (hm:name ∈ names) (hl:(getL name es).isSome = true) (hp:∀ h t v,(putL name h (.str name t) v es,putN name es n) = (esF h t v,n')) (hz:∀ h t v,(esF h t v).length <= 1000)
  (hQ:∀ h t v s',SimO C B U O env σ s' -> (∀ b o,b ∉ C.T -> b ≠ dx -> s.heap.get? b = some o -> s'.heap.get? b = some o) -> s'.heap.get? dx = some (dictOf (esF h t v) n') -> IsD C (Zf U O) s'.heap v d -> wpAny C.M A (execs ss env) Qf nf s') :
  wpAny C.M A (execs (.Assign [.Attribute (.Name y p1) name p2] e pos :: ss) env) Qf nf s:=by
 have xT:=inst_notT S.ok hx
 have dT:=dict_notT S.ok hd
 refine wpAny_execs_cons (plainObj_wpAny_Assign_Attribute (wpT (he B U O A s R S) fun v s₁ hZ2=>?_) (swaps_no (t:=none) hn)); obtain ⟨x1,i1⟩:=hZ2
 have S1:=S.ext x1
 refine S1.loadVal (kk:=k) hy hs h1 h2 ?_
 have hx1:=x1.keep _ _ xT hx
 have hd1:=x1.keep _ _ dT hd
 have X1:K.In s₁.heap:=X.keeps S1.ok.keep
 refine inst_set Y X1 hx1 hd1 hm hl (hp _ _ _) (hz _ _ _) fun h' g' hb=>?_
 have xd:x ≠ dx:=fun q=>by rw [q,hd] at hx; cases hx
 have hk:∀ b o,b ≠ dx -> s₁.heap.get? b = some o -> h'.get? b = some o:=fun b o nb g=>(hb.2 b nb).trans g
 have S2:SimO C B U O env σ { heap:=h',gens:=s₁.gens,drawn:=s₁.drawn,toks:=s₁.toks + 2,os:=s₁.os } :=
  S1.pokeExt (S1.ok.but h0 dT hd1 (fun vs q=>by cases q) hk) hO hU hB (fun b o _ nb g=>hk b o nb g) ⟨_,g'⟩
 exact hQ _ _ v _ S2 (fun b o nT nb g=>hk b o nb (x1.keep b o nT g)) g' (i1.mono (fun b o nz g=>hk b o (fun q=>nz (.inl (q ▸ hU))) g) fun _ _ nz _=>nz)
theorem Room.creation {k:Nat} {A:Around} (R:Room (k + 1) A) (C:Addr) (rest:List Value) (kw:List (Str × Value)):Room k (A.under (.builtin "type.__call__" ⟨.ref C :: rest,kw⟩)):=by
 have w:Code.weight (.builtin "type.__call__" ⟨.ref C :: rest,kw⟩) = 1:=by kernel_rfl
 have u:Code.cUnits (.builtin "type.__call__" ⟨.ref C :: rest,kw⟩) = 1:=by kernel_rfl
 refine ⟨R.hd,?_,?_⟩
 ·have:=R.dep; show A.depth + _ + k <= 800; rw [w]; omega
 ·have:=R.un; show A.units + _ + 40 * k <= 9000; omega
end
end
section
theorem ns_of_dict {h:Heap} {dx:Addr} {es:List DictEntry} {n:Nat} (g:h.get? dx = some (dictOf es n)) (hs:∀ e ∈ es,∃ n t,e.key = .str n t):h.Ns dx (fun x=>nsFind es.toArray x) :=
 ⟨_,es.toArray,n,g,rfl,fun e he=>hs e (by simpa using he),fun _=>rfl⟩
noncomputable def wsD (ws:Str):D:=.ws (wsGo ws.cps.toList [] 0 0 0).2.2.1 (wsGo ws.cps.toList [] 0 0 0).2.2.2 (wsGo ws.cps.toList [] 0 0 0).1 (wsGo ws.cps.toList [] 0 0 0).2.1
noncomputable def wsNames:List Str:=["raw","n","nt","norm","is_simple"]
section
variable {C:Cx} {B:Base} {U:Addr -> Prop} {O:Own} {env:Env} {σ σ':Vars} {s s':Shared} {k:Nat} {A:Around} {h:Heap} {K:Frag}
theorem wsGo_len:∀ (cs:List Nat) (cnt:List Int) (b n nt:Nat),(wsGo cs cnt b n nt).1.length <= cnt.length + b + cs.length
 | [],cnt,b,n,nt=>by simp only [wsGo]; omega
 | c :: cs,cnt,b,n,nt=>by
  rw [List.length_cons]
  simp only [wsGo]
  split
  ·have:=wsGo_len cs cnt (b + 1) (n + 1) nt; omega
  ·split
   ·have:=wsGo_len cs (bump cnt b) 0 (n + 1) (nt + 1); rw [bump_len] at this; omega
   ·dsimp only; omega
theorem kd_of {sc:Scope} {ks:List NameKind} (h:sc.names.map (·.2) = ks) {i:Nat} {kk:NameKind} (e:ks[i]? = some kk):kd sc i kk = true:=by
 rw [<- h,List.getElem?_map] at e
 unfold kd
 cases q:sc.names[i]? with
 | none=>rw [q] at e; cases e
 | some p=>rw [q] at e; obtain ⟨y,k'⟩:=p; simp at e; subst e; simp
theorem ks_at {sc:Scope} {ks:List NameKind} (h:sc.names.map (·.2) = ks) {i:Nat} {y:Str} {kk:NameKind} (e:sc.names[i]? = some (y,kk)):ks[i]? = some kk:=by
 rw [<- h,List.getElem?_map,e]; rfl
theorem chs_ok {ws:Str} (h:PyData.strOk ws = true):∀ c ∈ ws.cps.toList,PyData.strOk ⟨#[c]⟩ = true:=fun c hc=>by
 unfold PyData.strOk at h ⊢
 rw [Array.all_eq_true_iff_forall_mem] at h
 have:=h c (by simpa using hc)
 simpa using this
theorem Ev.clsAttr {f name:Str} {fp p:Pos} {c:Addr} {v:Value} {d:D} (hg:EvV C k env σ (.Name f fp) (.ref c)) (hd:∀ Z h,IsD C Z h v d)
  (h:∀ A s (Q:Value -> Shared -> Prop),OK C s -> Q v { s with toks:=s.toks + 1 } -> wpAny C.M A (getAttr (.ref c) name true) Q nf s):Ev C k env σ (.Attribute (.Name f fp) name p) d:=by
 intro B U O A s R S
 refine Attribute_any_ (wpT (hg B U O A s R S) fun va s₁ hZ2=>?_) (by with_unfolding_all rfl); obtain ⟨x1,i1⟩:=hZ2
 subst i1
 exact h A s₁ _ x1.ok ⟨x1.trans (.tok x1.ok),hd _ _⟩
theorem ws_init {z1 z2 z5 z6 z7 z8 z9:Stmt} {fI:Addr} {fd:FuncData} {y0 y1 y2 y3 y4 y5 yS yT yW yW2:Str} {s3 s4:Stmt} {q1 q2 q4 q5 q6 q8 q9 q10 q11 q12 q14 q15 q26 q27 q97 q98 q99 q101 q102 q103 q105 q106 q107 q114 q115 q116 q123:Pos} {c7 c13:Nat} {e1 en ent enorm esim tgt:Expr} {bd:List Stmt}
  (F:FnOk C fI fd [z1,z2,s3,s4,z5,z6,z7,z8,z9] 2) (ez1:z1 = .Assign [(.Attribute (.Name y0 q1) "raw" q2)] e1 q4) (ez2:z2 = .Assign [(.Tuple [(.Name yS q5),(.Name yT q6)] c7 q8)] (.Tuple [(.Attribute (.Name yW q9) "S" q10),(.Attribute (.Name yW2 q11) "T" q12)] c13 q14) q15)
  (ez5:z5 = .For tgt (.Attribute (.Name y1 q26) "raw" q27) bd [] q97) (ez6:z6 = .Assign [(.Attribute (.Name y2 q98) "n" q99)] en q101) (ez7:z7 = .Assign [(.Attribute (.Name y3 q102) "nt" q103)] ent q105) (ez8:z8 = .Assign [(.Attribute (.Name y4 q106) "norm" q107)] enorm q114) (ez9:z9 = .Assign [(.Attribute (.Name y5 q115) "is_simple" q116)] esim q123)
  (Bq:Bs C) (Y:ClsOk K C.cW wsNames) (X:K.In C.h0) (hks:fd.scope.names.map (·.2) = ws_ks)
  (hW:GV C yW (.ref C.cW)) (hW2:GV C yW2 (.ref C.cW)) {tS tT:Tok}
  (hS:∀ A s (Q:Value -> Shared -> Prop),OK C s -> Q (.str " " tS) { s with toks:=s.toks + 1 } -> wpAny C.M A (getAttr (.ref C.cW) "S" true) Q nf s)
  (hT:∀ A s (Q:Value -> Shared -> Prop),OK C s -> Q (.str "\t" tT) { s with toks:=s.toks + 1 } -> wpAny C.M A (getAttr (.ref C.cW) "T" true) Q nf s)
  (hr:(vr fd.scope 0 y0 && vr fd.scope 0 y1 && vr fd.scope 0 y2 && vr fd.scope 0 y3 && vr fd.scope 0 y4 && vr fd.scope 0 y5 && vr fd.scope 2 yS && vr fd.scope 3 yT && gl fd.scope yW && gl fd.scope yW2 && q6.line == q5.line && !(yS == yT) &&
   repE nmB fd.scope (.var 1) e1 && notComp e1 && repS nmB fd.scope (.asgO 4 (.lst [])) s3 && repS nmB fd.scope (.three 5 6 7 (.int 0)) s4 && repTg fd.scope (.one 8) tgt && repB nmB fd.scope ws_body bd &&
   repE nmB fd.scope (.var 6) en && notComp en && repE nmB fd.scope (.var 7) ent && notComp ent && repE nmB fd.scope (.tup [.call 4 [.var 4],.var 5]) enorm && notComp enorm && repE nmB fd.scope (.cmp .LtE (.call 0 [.var 4]) (.int 1)) esim && notComp esim) = true)
  {ws:Str} {t:Tok} {x dx:Addr} {Z:Addr -> Prop} (R:Room (k + 1) A) (Ks:OK C s) (z:ZOk C Z s) (hl:ws.length <= 400000) (hok:PyData.strOk ws = true)
  (hx:s.heap.get? x = some (instObj C.cW dx)) (hd:s.heap.get? dx = some emptyDict) (h0:C.h0.get? dx = none) (zx:¬ Z x) (zd:¬ Z dx) :
  codeAny C.M A (.call (.ref fI) ⟨[.ref x,.str ws t],[]⟩) (fun r s'=>r = .ok (.ret .none) /\ OK C s' /\ (∀ b o,b ∉ C.T -> b ≠ dx -> s.heap.get? b = some o -> s'.heap.get? b = some o) /\ IsD C Z s'.heap (.ref x) (wsD ws)) s:=by
 refine and26 hr fun r1 r2 r3 r4 r5 r6 r7 r8 r9 r10 r11 r12 r13 r14 r15 r16 r17 r18 r19 r20 r21 r22 r23 r24 r25 r26=>?_
 have xT:=inst_notT Ks hx
 have dT:dx ∉ C.T:=dict_notT (es:=[]) (n:=0) Ks hd
 have xd:x ≠ dx:=fun q=>by rw [q,hd] at hx; cases hx
 let Z1:Addr -> Prop:=fun b=>Z b \/ b = dx
 have z1:ZOk C Z1 s:=⟨fun b hb=>.inl (z.1 b hb),fun b hb=>hb.elim (z.2 b) fun q=>⟨_,q ▸ hd⟩⟩
 refine fn_enter F (Z:=Z1) (P:=fun b=>b = dx) R Ks z1 rfl [.val (.ref x),.d (.str ws)] rfl (fun j v av e1 e2=>?_) fun env s₁ B O hA hE hcq x1 R1 S hB hPB hO=>?_
 ·match j with
  | 0=>cases e1; cases e2; exact .inl rfl
  | 1=>cases e1; cases e2; exact .inr ⟨_,rfl,.str _ _⟩
  | j + 2=>cases e1
 have Ox:O x = none:=by
  cases q:O x with
  | none=>rfl
  | some t=>have:=hO x (nnS q); rw [hx] at this; cases this
 have Od:∀ {O':Own} {σ':Vars} {s':Shared},SimO C B Z1 O' env σ' s' -> O' dx = none:=fun {O' σ' s'} S'=>S'.uo (.inr rfl)
 rw [hks] at S
 have p0:=vr_var hA r1
 refine genQ fun κ0 hκ0=>?_
 refine stmtE ez1 (attr_store (es:=[]) (n:=0) (n':=1) (esF:=fun h t v=>[⟨h,.str "raw" t,v⟩]) R1 S p0.1 (σ:=initA ws_ks [.val (.ref x),.d (.str ws)]) (i:=0) rfl p0.2.1 p0.2.2
  (evE_s (Bq.gd k) (.var 1) hA r13 (d:=.str ws) rfl) r14 Y X (x1.keep _ _ xT hx) (x1.keep _ _ dT hd) (.inr rfl) (Od S) (hPB _ rfl) h0 (by decide) rfl (fun _ _ _=>rfl) (fun _ _ _=>by simp) fun h1 t1 v1 s₂ S2 k2 g2 i2=>?_)
 have hx2:s₂.heap.get? x = some (instObj C.cW dx):=k2 _ _ xT xd (x1.keep _ _ xT hx)
 replace i2:=i2.iStr; obtain ⟨tr,hqq⟩:=i2; cases hqq
 obtain ⟨H,SU⟩:=S2.upAll (X:=ownL O s₂) (fun b hb=>S2.oh b (ownL_own hb)) fun b hb=>S2.mem_ownL hb
 have nX:∀ b,O b = none -> b ∉ C.T -> ∀ o,s₂.heap.get? b = some o -> (fixH C s₂ (ownL O s₂)).get? b = some o:=fun b ho hT o g=>hideAll_get _ g fun q=>by
  rcases List.mem_append.mp q with q | q
  ·exact hT q
  ·exact ownL_own q ho
 have ux:(fixH C s₂ (ownL O s₂)).get? x = some (instObj C.cW dx):=nX x Ox xT _ hx2
 have ud:(fixH C s₂ (ownL O s₂)).get? dx = some (dictOf [⟨h1,.str "raw" t1,.str ws tr⟩] 1):=nX dx (Od S2) dT _ g2
 have BqU:Bs (C.up (fixH C s₂ (ownL O s₂))):=Bq.up H
 have XU:K.In (C.up (fixH C s₂ (ownL O s₂))).h0:=fun b o e=>H.sub b o (X b o e)
 have wsS:∀ {σ:Vars},Ev (C.up (fixH C s₂ (ownL O s₂))) k env σ (.Tuple [(.Attribute (.Name yW q9) "S" q10),(.Attribute (.Name yW2 q11) "T" q12)] c13 q14) (.tup [.str " ",.str "\t"]):=fun {σ} =>
  Ev.tuple ⟨⟨.clsAttr (v:=.str " " tS) (GV.ev hW (gl_glob hA r9)) (fun _ _=>.str _ _) fun A s Q K hq=>hS A s Q (K.down H) hq,rfl⟩,⟨.clsAttr (v:=.str "\t" tT) (GV.ev hW2 (gl_glob hA r10)) (fun _ _=>.str _ _) fun A s Q K hq=>hT A s Q (K.down H) hq,rfl⟩,trivial⟩ (by decide)
 have stS:IsSto fd.scope (initA ws_ks [.val (.ref x),.d (.str ws)]) yT 3:=stoB_val hks r8 (by kernel_rfl)
 have stT:IsSto fd.scope ((initA ws_ks [.val (.ref x),.d (.str ws)]).set 3 (.d (.str "\t"))) yS 2:=stoB_val hks r7 (by kernel_rfl)
 have hne:(yS == yT) = false:=by simpa using r12
 refine stmtE ez2 (exs_wp (C:=C.up (fixH C s₂ (ownL O s₂))) (Q:=Fin1 .next (((initA ws_ks [.val (.ref x),.d (.str ws)]).set 3 (.d (.str "\t"))).set 2 (.d (.str " ")))) (ExS.swap2 wsS (hA.isSto stS) (hA.isSto stT) ⟨rfl,rfl⟩ rfl
  (swapped_eq hE (kd_kind hE hA r7 (kd_of hks (by rfl)) (by decide)) (kd_kind hE hA r8 (kd_of hks (by rfl)) (by decide)) r11 hne (by rfl))) R1 SU (fun O3 σ3 s₃ S3 e3=>?_) fun σ f e=>e.1)
 obtain ⟨_,rfl⟩:=e3
 refine exs_wp (C:=C.up (fixH C s₂ (ownL O s₂))) (evS_s (BqU.gd k) hE hA hks (.asgO 4 (.lst [])) r15 (σ':=[.val (.ref x),.d (.str ws),.d (.str " "),.d (.str "\t"),.own [],.no,.no,.no,.no,.no,.no,.no]) (by kernel_rfl)) R1 S3 (fun O4 σ4 s₄ S4 e4=>?_) fun σ f e=>e.1
 obtain ⟨_,rfl⟩:=e4
 refine exs_wp (C:=C.up (fixH C s₂ (ownL O s₂))) (evS_s (BqU.gd k) hE hA hks (.three 5 6 7 (.int 0)) r16 (σ':=wsσ (.val (.ref x)) (.d (.str ws)) [] 0 0 0 .no) (by kernel_rfl)) R1 S4 (fun O5 σ5 s₅ S5 e5=>?_) fun σ f e=>e.1
 obtain ⟨_,rfl⟩:=e5
 have p1:=vr_var hA r2
 have evRaw:Ev (C.up (fixH C s₂ (ownL O s₂))) k env (wsσ (.val (.ref x)) (.d (.str ws)) [] 0 0 0 .no) (.Attribute (.Name y1 q26) "raw" q27) (.str ws):=by
  intro B' U' O' A' s' R' S'
  refine Attribute_any_ (S'.loadVal (kk:=k) (i:=0) p1.1 rfl p1.2.1 p1.2.2 ?_) (by with_unfolding_all rfl)
  exact inst_get (v:=.str ws tr) Y (X.keeps fun b o g=>S'.ok.keep b o (H.sub b o g)) (S'.ok.keep _ _ ux) (S'.ok.keep _ _ ud) (by decide) (by kernel_rfl) rfl ⟨.tok S'.ok,.str _ _⟩
 obtain ⟨ch',hch,eloop⟩:=ws_loop (v0:=.val (.ref x)) (v1:=.d (.str ws)) ws.cps.toList [] 0 0 0 .no (chs_ok hok) (.inl rfl) (by
  have:ws.cps.toList.length = ws.length:=by rw [Array.length_toList]; rfl
  simp only [List.length_nil]; omega)
 refine stmtE ez5 (exs_wp (C:=C.up (fixH C s₂ (ownL O s₂))) (for_any (BqU.gd k) hE hA hks (EvIt.str evRaw) r17 r18 eloop (by intro _; with_unfolding_all rfl)) R1 S5 (fun O6 σ6 s₆ S6 e6=>?_) fun σ f e=>e.1)
 obtain ⟨_,rfl⟩:=e6
 have hx6:s₆.heap.get? x = some (instObj C.cW dx):=S6.ok.keep _ _ ux
 have hd6:=S6.ok.keep _ _ ud
 have hlen:=wsGo_len ws.cps.toList [] 0 0 0
 have hcl:ws.cps.toList.length = ws.length:=by rw [Array.length_toList]; rfl
 generalize hgo:wsGo ws.cps.toList [] 0 0 0 = go at S6 hlen
 obtain ⟨cnt,b,n,nt⟩:=go
 dsimp only at S6 hlen
 have S7:=(S6.downV H (fun i y kk u e1 e2=>by
  rw [hcq.1] at e1
  have hk:=ks_at hks e1
  match i with
  | 0=>cases hk; exact .inl rfl
  | 1 | 2 | 3 | 4 | 5 | 6 | 7 | 9 | 10 | 11=>cases e2
  | 8=>rcases hch with rfl | ⟨_,rfl⟩ <;> cases e2
  | i + 12=>cases e2) (fun i L st e2=>by
  match i with
  | 0 | 1 | 2 | 3 | 4 | 5 | 6 | 7 | 9 | 10 | 11=>cases e2
  | 8=>rcases hch with rfl | ⟨_,rfl⟩ <;> cases e2
  | i + 12=>cases e2)).frz fun _=>true
 have eσ:frzP (fun _=>true) (wsσ (.val (.ref x)) (.d (.str ws)) cnt b n nt ch') = [.val (.ref x),.d (.str ws),.d (.str " "),.d (.str "\t"),.d (.lst (cnt.map .int)),.d (.int b),.d (.int n),.d (.int nt),ch',.no,.no,.no]:=by
  rcases hch with rfl | ⟨_,rfl⟩ <;> kernel_rfl
 rw [eσ] at S7
 have p2:=vr_var hA r3
 have p3:=vr_var hA r4
 have p4:=vr_var hA r5
 have p5:=vr_var hA r6
 refine stmtE ez6 (attr_store (C:=C) (n':=2) (esF:=fun h t v=>[⟨h1,.str "raw" t1,.str ws tr⟩,⟨h,.str "n" t,v⟩]) R1 S7 p2.1 (i:=0) rfl p2.2.1 p2.2.2
  (evE_s (Bq.gd k) (.var 6) hA r19 (d:=.int n) rfl) r20 Y X hx6 hd6 (.inr rfl) (Od S7) (hPB _ rfl) h0 (by decide) (by kernel_rfl) (fun _ _ _=>by kernel_rfl) (fun _ _ _=>by simp) fun h2 t2 v2 s₇ S8 k8 g8 i8=>?_)
 replace i8:=i8.iInt; obtain ⟨tn,hqq⟩:=i8; cases hqq
 refine stmtE ez7 (attr_store (C:=C) (n':=3) (esF:=fun h t v=>[⟨h1,.str "raw" t1,.str ws tr⟩,⟨h2,.str "n" t2,.int n tn⟩,⟨h,.str "nt" t,v⟩]) R1 S8 p3.1 (i:=0) rfl p3.2.1 p3.2.2
  (evE_s (Bq.gd k) (.var 7) hA r21 (d:=.int nt) rfl) r22 Y X (k8 _ _ xT xd hx6) g8 (.inr rfl) (Od S8) (hPB _ rfl) h0 (by decide) (by kernel_rfl) (fun _ _ _=>by kernel_rfl) (fun _ _ _=>by simp) fun h3 t3 v3 s₈ S9 k9 g9 i9=>?_)
 replace i9:=i9.iInt; obtain ⟨tt,hqq⟩:=i9; cases hqq
 have enorm':evE bg (.tup [.call 4 [.var 4],.var 5]) [.val (.ref x),.d (.str ws),.d (.str " "),.d (.str "\t"),.d (.lst (cnt.map .int)),.d (.int b),.d (.int n),.d (.int nt),ch',.no,.no,.no] = some (.tup [.tup (cnt.map .int),.int b]):=by
  have e2:bg 4 [.lst (cnt.map .int)] = some (.tup (cnt.map .int)):=by
   show (if (cnt.map D.int).length <= 1000000 then some (D.tup (cnt.map D.int)) else none) = _
   rw [if_pos (by rw [List.length_map]; simp only [List.length_nil] at hlen; omega)]
  exact e_tup (l_two (e_call (l_one rfl) e2) rfl) (show 2 <= 1000000 by decide)
 refine stmtE ez8 (attr_store (C:=C) (n':=4) (esF:=fun h t v=>[⟨h1,.str "raw" t1,.str ws tr⟩,⟨h2,.str "n" t2,.int n tn⟩,⟨h3,.str "nt" t3,.int nt tt⟩,⟨h,.str "norm" t,v⟩]) R1 S9 p4.1 (i:=0) rfl p4.2.1 p4.2.2
  (evE_s (Bq.gd k) _ hA r23 enorm') r24 Y X (k9 _ _ xT xd (k8 _ _ xT xd hx6)) g9 (.inr rfl) (Od S9) (hPB _ rfl) h0 (by decide) (by kernel_rfl) (fun _ _ _=>by kernel_rfl) (fun _ _ _=>by simp) fun h4 t4 v4 s₉ SA kA gA iA=>?_)
 replace iA:=iA.iTup; obtain ⟨tu,vs2,hqq,tp1,tz1,ti1⟩:=iA; cases hqq
 replace ti1:=ti1.iCons; obtain ⟨_,_,hqq,tia,tir⟩:=ti1; cases hqq
 replace tir:=tir.iCons; obtain ⟨_,_,hqq,tib,tir2⟩:=tir; cases hqq
 cases tir2.iNil
 replace tib:=tib.iInt; obtain ⟨tb,hqq⟩:=tib; cases hqq
 replace tia:=tia.iTup; obtain ⟨uu,vs3,hqq,up1,uz1,ui1⟩:=tia; cases hqq
 have esim':evE bg (.cmp .LtE (.call 0 [.var 4]) (.int 1)) [.val (.ref x),.d (.str ws),.d (.str " "),.d (.str "\t"),.d (.lst (cnt.map .int)),.d (.int b),.d (.int n),.d (.int nt),ch',.no,.no,.no] = some (.bool (decide ((cnt.length:Int) <= 1))):=by
  exact e_cmp (e_call (l_one rfl) (ws_cnt.trans (if_pos (by simp only [List.length_nil] at hlen; omega)))) rfl rfl
 refine stmtE ez9 (attr_store (C:=C) (n':=5) (esF:=fun h t v=>[⟨h1,.str "raw" t1,.str ws tr⟩,⟨h2,.str "n" t2,.int n tn⟩,⟨h3,.str "nt" t3,.int nt tt⟩,⟨h4,.str "norm" t4,.ref tu⟩,⟨h,.str "is_simple" t,v⟩]) R1 SA p5.1 (i:=0) rfl p5.2.1 p5.2.2
  (evE_s (Bq.gd k) _ hA r25 esim') r26 Y X (kA _ _ xT xd (k9 _ _ xT xd (k8 _ _ xT xd hx6))) gA (.inr rfl) (Od SA) (hPB _ rfl) h0 (by decide) (by kernel_rfl) (fun _ _ _=>by kernel_rfl) (fun _ _ _=>by simp) fun h5 t5 v5 s₁₀ SB kB gB iB=>?_)
 have ut:tu ≠ dx:=fun q=>tz1 (.inl (.inr q))
 have uu':uu ≠ dx:=fun q=>uz1 (.inl (.inr q))
 refine wpAny_execs_nil <| hκ0 _ _ ⟨rfl,SB.ok,fun b o nT nb g=>SB.keepB b o (hB b o nT nb g),?_⟩
 have gB':(s₁₀.heap).Ns dx _:=ns_of_dict gB (by
  intro e he
  simp only [List.mem_cons,List.not_mem_nil,or_false] at he
  rcases he with rfl | rfl | rfl | rfl | rfl <;> exact ⟨_,_,rfl⟩)
 have zt:¬ Z tu:=fun q=>tz1 (.inl (.inl q))
 have zu:¬ Z uu:=fun q=>uz1 (.inl (.inl q))
 have tT':tu ∉ C.T:=fun q=>zt (z.1 _ q)
 have uT':uu ∉ C.T:=fun q=>zu (z.1 _ q)
 show IsD C Z s₁₀.heap (.ref x) (wsD ws)
 unfold wsD
 rw [hgo]
 refine .ws x dx tu uu n nt cnt b tn tt tb vs3 (kB _ _ xT xd (kA _ _ xT xd (k9 _ _ xT xd (k8 _ _ xT xd hx6)))) zx zd zt zu ⟨_,gB',by kernel_rfl,by kernel_rfl⟩ ⟨_,gB',by kernel_rfl,by kernel_rfl⟩ ⟨_,gB',by kernel_rfl,by kernel_rfl⟩ (tp1.kept fun o g=>kB _ _ tT' ut g) (up1.kept fun o g=>kB _ _ uT' uu' g) ui1.ints
end
end
section
section
variable {C:Cx} {k:Nat} {K:Frag}
theorem cls_call {c fI:Addr} {A:Around} {s:Shared} {vs:List Value} {Q:Value -> Shared -> Prop} (Ks:OK C s) (X:K.In C.h0) (hm:makesIn K c = true) (hi:findIn K (.ref c) "__init__" = some (some (.ref fI))) (hf:typeIn K (.ref fI) = some (.type "function"))
  (h:∀ x dx s₁,Ext C s s₁ -> s.heap.get? x = none -> s.heap.get? dx = none -> s₁.heap.get? x = some (instObj c dx) -> s₁.heap.get? dx = some emptyDict ->
   codeAny C.M (A.under (.builtin "type.__call__" ⟨.ref c :: vs,[]⟩)) (.call (.ref fI) ⟨.ref x :: vs,[]⟩) (fun r s'=>r = .ok (.ret .none) /\ Q (.ref x) s') s₁) :
  wpAny C.M A (call (.ref c) vs []) Q nf s:=by
 obtain ⟨hh,g,d,t,os⟩:=s
 have X0:K.In hh:=X.keeps Ks.keep
 refine wpAny_call (make_core (makes_of X0 hm) (looks_findIn X0 hi) (fun self=>bind_fn X0 self hf) (.inl rfl) ?_)
 have x1:Ext C ⟨hh,g,d,t,os⟩ ⟨(hh.push emptyDict).push (instObj c hh.objs.size),g,d,t,os⟩:=Ext.of_keeps Ks fun b o e=>Heap.get?_push_of_some _ (Heap.get?_push_of_some _ e)
 have e1:((hh.push emptyDict).push (instObj c hh.objs.size)).get? (hh.objs.size + 1) = some (instObj c hh.objs.size):=by
  have:=Heap.get?_push_size (hh.push emptyDict) (o:=instObj c hh.objs.size) rfl
  rwa [Heap.size_push] at this
 refine codeAny_mono (h (hh.objs.size + 1) hh.objs.size _ x1 (Heap.get?_none_of_le (Nat.le_succ _)) (Heap.get?_none_of_le (Nat.le_refl _)) e1 (Heap.get?_push_of_some _ (Heap.get?_push_size _ rfl))) fun r s' ⟨e,q⟩=>?_
 subst e
 exact ⟨rfl,q⟩
theorem ws_spec {fI:Addr} (X:K.In C.h0) (hm:makesIn K C.cW = true) (hi:findIn K (.ref C.cW) "__init__" = some (some (.ref fI))) (hf:typeIn K (.ref fI) = some (.type "function"))
  (hI:∀ {ws:Str} {t:Tok} {x dx:Addr} {Z:Addr -> Prop} {A:Around} {s:Shared},Room (k + 1) A -> OK C s -> ZOk C Z s -> ws.length <= 400000 -> PyData.strOk ws = true -> s.heap.get? x = some (instObj C.cW dx) -> s.heap.get? dx = some emptyDict -> C.h0.get? dx = none -> ¬ Z x -> ¬ Z dx ->
   codeAny C.M A (.call (.ref fI) ⟨[.ref x,.str ws t],[]⟩) (fun r s'=>r = .ok (.ret .none) /\ OK C s' /\ (∀ b o,b ∉ C.T -> b ≠ dx -> s.heap.get? b = some o -> s'.heap.get? b = some o) /\ IsD C Z s'.heap (.ref x) (wsD ws)) s)
  {ws:Str} (hl:ws.length <= 400000) (hok:PyData.strOk ws = true):PSpec C (k + 2) (.ref C.cW) [.str ws] (wsD ws):=by
 intro Z A s vs R Ks z i
 replace i:=i.iCons; obtain ⟨_,_,hqq,i1,i2⟩:=i; cases hqq
 cases i2.iNil
 replace i1:=i1.iStr; obtain ⟨t,hqq⟩:=i1; cases hqq
 refine cls_call Ks X hm hi hf fun x dx s₁ x1 fx fd hx hd=>?_
 have h0:C.h0.get? dx = none:=Ks.frH fd
 refine codeAny_mono (hI (R.creation _ _ _) x1.ok (z.ext x1) hl hok hx hd h0 (z.fresh fx) (z.fresh fd)) fun r s' ⟨e,o,kp,i⟩=>⟨e,⟨o,fun b ob nT g=>?_⟩,i⟩
 refine kp b ob nT (fun q=>?_) (x1.keep b ob nT g)
 rw [q,fd] at g; cases g
noncomputable def wsF (ds:List D):Option D:=l1 ds fun a=>oS a fun ws=>if ws.length <= 400000 /\ PyData.strOk ws = true then some (wsD ws) else none
theorem wsF_s {fv:Value} (h:∀ {ws:Str},ws.length <= 400000 -> PyData.strOk ws = true -> PSpec C k fv [.str ws] (wsD ws)):∀ ds d,wsF ds = some d -> PSpec C k fv ds d:=by
 intro ds d e
 exact l1_t (ds:=ds) e fun a e=>oS_t (b:=a) e fun ws e=>ite_t e fun q e=>by cases e; exact h q.1 q.2
end
end
section
section
variable {C:Cx} {k:Nat} {K:Frag}
theorem lookIn_of {h:Heap} {dx:Addr} {m:Str -> Option Value} {name:Str} {v:Value} (g:h.Ns dx m) (e:m name = some v):∃ o,h.get? dx = some o /\ lookIn name o = some (some v):=by
 obtain ⟨o,es,ep,ho,hd,_,hf⟩:=g
 refine ⟨o,ho,?_⟩
 unfold lookIn
 rw [hd]
 dsimp only
 have:=hf name
 rw [e] at this
 unfold nsFind findBy at this
 rw [<- Array.find?_toList] at this
 cases q:es.toList.find? (·.key.isStr name) with
 | none=>rw [q] at this; cases this
 | some en=>rw [q] at this; cases this; rfl
theorem lookIn_no {h:Heap} {dx:Addr} {m:Str -> Option Value} {name:Str} (g:h.Ns dx m) (e:m name = none):∃ o,h.get? dx = some o /\ lookIn name o = some none:=by
 obtain ⟨o,es,ep,ho,hd,hk,hf⟩:=g
 refine ⟨o,ho,?_⟩
 unfold lookIn
 rw [hd]
 dsimp only
 have:=hf name
 rw [e] at this
 unfold nsFind findBy at this
 rw [<- Array.find?_toList] at this
 cases q:es.toList.find? (·.key.isStr name) with
 | some en=>rw [q] at this; cases this
 | none =>
  dsimp only
  rw [if_neg]
  intro r
  obtain ⟨en,h1,h2⟩:=List.any_eq_true.mp r
  obtain ⟨n,t,h3⟩:=hk en (by simpa using h1)
  unfold DictEntry.refKey at h2
  rw [h3] at h2
  cases h2
theorem ws_meth (X:K.In C.h0) (Y:ClsOk K C.cW wsNames) {name:Str} {f:Addr} (hm:wsMs.contains name = true) (hf:findIn K (.ref C.cW) name = some (some (.ref f))) (ht:isFn K (.ref f) = true) (n nt:Int) (cnt:List Int) (b:Int):MethR C (.ws n nt cnt b) name (.ref f):=by
 intro Z A s v pl Ks i
 cases i with | ws a dx t u n nt cnt b tn tt tb vs e1 z1 z2 z3 z4 x2 x3 x4 x5 x6 x7 =>
 obtain ⟨m,h2,h3,h4⟩:=x2
 obtain ⟨o,g1,g2⟩:=lookIn_no (name:=name) h2 (by
  have:=List.all_eq_true.mp h4 name (List.contains_iff_mem.mp hm)
  exact Option.isNone_iff_eq_none.mp this)
 exact inst_meth Y (X.keeps Ks.keep) e1 g1 hf ht g2 ⟨rfl,.refl Ks⟩
theorem ws_attr (X:K.In C.h0) (Y:ClsOk K C.cW wsNames):∀ x d d',attD x d = some d' -> Op1 C (fun v=>getAttr v (an x) true) d d':=by
 intro x d d' e Z A s v R Ks z i
 have key:∀ {a dx:Addr} {name:Str} {u:Value} {Q:Value -> Shared -> Prop},s.heap.get? a = some (instObj C.cW dx) -> attrIs s.heap dx name u -> name ∈ wsNames -> handedIn u = true -> Q u { s with toks:=s.toks + 1 } -> wpAny C.M A (getAttr (.ref a) name true) Q nf s:=fun {a dx name u Q} h1 ⟨m,h2,h3,_⟩ h4 h5 h6=>by
  obtain ⟨o,g1,g2⟩:=lookIn_of h2 h3
  exact inst_get Y (X.keeps Ks.keep) h1 g1 h4 g2 h5 h6
 revert i
 refine oW_t (d:=d) e fun n nt cnt b e i=>?_
 cases i with | ws a dx t u n nt cnt b tn tt tb vs e1 z1 z2 z3 z4 x2 x3 x4 x5 x6 x7 =>
 match x,e with
 | 0,e =>
  cases e
  exact key (name:="norm") e1 x4 (by decide) rfl ⟨.tok Ks,.tup _ _ _ x5 z3 (.cons (.tup _ _ _ x6 z4 (.of_ints x7)) (.cons (.int _ _) .nil))⟩
 | 1,e=>cases e; exact key (name:="n") e1 x2 (by decide) rfl ⟨.tok Ks,.int _ _⟩
 | 2,e=>cases e; exact key (name:="nt") e1 x3 (by decide) rfl ⟨.tok Ks,.int _ _⟩
 | _ + 3,e=>cases e
end
end
section
theorem slot_fn_set:Slot "function" "__setattr__" "object.__setattr__":=.of (owner:="object") (n:="__setattr__") (by rw [typeLookup_type,builtinLookup_eq_fast]; kernel_rfl) (by decide +kernel) (by decide +kernel) (by decide +kernel) (.inl (by decide +kernel)) (by rw [isSubtype_type]; kernel_rfl)
theorem slot_fn_ga:Slot "function" "__getattribute__" "object.__getattribute__":=.of (owner:="object") (n:="__getattribute__") (by rw [typeLookup_type,builtinLookup_eq_fast]; kernel_rfl) (by decide +kernel) (by decide +kernel) (by decide +kernel) (.inl (by decide +kernel)) (by rw [isSubtype_type]; kernel_rfl)
theorem fn_getattr_none:typeLookup (.type "function") "__getattr__" = pure none:=by rw [typeLookup_type,builtinLookup_eq_fast]; kernel_rfl
theorem fn_read_none:typeLookup (.type "function") "read" = pure none:=by rw [typeLookup_type,builtinLookup_eq_fast]; kernel_rfl
theorem mro_function:mroOf (.type "function") = pure [.type "function",.type "object"]:=by kernel_rfl
theorem refuse_function (self:Value):refuseLoop self "__setattr__" [.type "function",.type "object"] = pure ():=by kernel_rfl
section
variable {prog:Program} {w:World} {A:Around} {E:Value -> Shared -> Prop} {s:Shared} {f:Addr} {fd:FuncData} {v:Value} {Q:Unit -> Shared -> Prop}
theorem fn_set (hf:s.heap.get? f = some { cls:=.type "function",data:=.func fd })
  (h:∀ h' hsh t tk,h'.get? f = some { cls:=.type "function",dict:=some s.heap.objs.size,data:=.func fd } -> h'.get? s.heap.objs.size = some (dictOf [⟨hsh,.str "read" t,v⟩] 1) -> (∀ b o,b ≠ f -> s.heap.get? b = some o -> h'.get? b = some o) -> Q () { s with heap:=h',toks:=tk }) :
  wpAny (model prog w) A (setAttr (.ref f) "read" v) Q E s:=by
 obtain ⟨hh,g,d,t,os⟩:=s
 dsimp only at hf h
 have hT:∀ t',(⟨hh,g,d,t',os⟩:Shared).TypeIs (.ref f) "function":=fun t'=>⟨_,hf,rfl⟩
 have f2:=slot_fn_set.lookup
 have f3:=slot_fn_set.bind (.ref f)
 have SF:=PySem.F.store_object
 have f4:=fn_read_none
 unfold setAttr callSpecial?
 repeat (any_goals (first | assumption | exact hT _ | wp_step))
 refine codeAny_call_builtin SF.slot.plain SF.entry (slot_fn_set.check _ _ _ _ _ _ _ _ (hT _) (SF.args _ _ _) ?_)
 show wpAny _ _ (Builtin.«object.__setattr__» ⟨[.ref f,.str "read" t,v],[]⟩) _ _ _
 have f5:=mro_function
 have f6:=refuse_function (.ref f)
 rw [osa_eq,refuse_eq]
 refine wpAny_bind (wpAny_bind (wpAny_typeOf (hT _) (wpAny_bind (wpAny_of_eq f5 ?_))))
 rw [f6]
 refine wpAny_pure (wpAny_bind (wpAny_typeOf (hT _) (wpAny_bind (wpAny_of_eq f4 ?_))))
 refine wpAny_bind (wpAny_pure ?_)
 show wpAny _ _ (Builtin.ObjectAttr.storeInOwnDict (.ref f) (.type "function") (.str "read" t) "read" v false) _ _ _
 unfold Builtin.ObjectAttr.storeInOwnDict
 repeat (any_goals (first | assumption | exact hT _ | wp_step))
 refine wpAny_askSetting ?_
 repeat (any_goals (first | assumption | exact hT _ | wp_step))
 have ne:hh.objs.size ≠ f:=fun q=>absurd (Heap.lt_size hf) (by rw [q]; exact Nat.lt_irrefl _)
 let fu:Obj -> Obj:=fun o=>{ cls:=o.cls,dict:=some hh.objs.size,data:=o.data,slots:=o.slots }
 have g1:(hh.push emptyDict).get? f = some { cls:=.type "function",data:=.func fd }:=Heap.get?_push_of_some _ hf
 have g2:((hh.push emptyDict).update f fu).get? f = some { cls:=.type "function",dict:=some hh.objs.size,data:=.func fd }:=Heap.get?_update_self _ g1 rfl
 have g3:((hh.push emptyDict).update f fu).get? hh.objs.size = some (dictOf [] 0):=by
  have e:=(Heap.SameBut.update (hh.push emptyDict) f fu).2 _ ne
  rw [e]; exact Heap.get?_push_size _ rfl
 have hk1:∀ b o,b ≠ f -> hh.get? b = some o -> ((hh.push emptyDict).update f fu).get? b = some o:=fun b o nb e=>by
  rw [(Heap.SameBut.update (hh.push emptyDict) f fu).2 b nb]; exact Heap.get?_push_of_some _ e
 refine wpAny_loadPart (o:=dictOf [] 0) g3 ?_
 show wpAny _ _ (updatePart hh.objs.size (some (.str "read" 0)) (Obj.putName "read" (PyData.keyHash w.params "read") (.str "read" (t + 1)) v)) _ _ _
 have ep:Obj.putName "read" (PyData.keyHash w.params "read") (.str "read" (t + 1)) v (dictOf [] 0) = dictOf [⟨PyData.keyHash w.params "read",.str "read" (t + 1),v⟩] 1:=by rw [putName_dict]; rfl
 refine wpAny_updatePart (o:=dictOf [] 0) g3 ?_
 have g4:(((hh.push emptyDict).update f fu).update hh.objs.size (Obj.putName "read" (PyData.keyHash w.params "read") (.str "read" (t + 1)) v)).get? hh.objs.size = some (dictOf [⟨PyData.keyHash w.params "read",.str "read" (t + 1),v⟩] 1):=by
  rw [<- ep]; exact Heap.get?_update_self _ g3 (by rw [ep]; rfl)
 have sb:=Heap.SameBut.update ((hh.push emptyDict).update f fu) hh.objs.size (Obj.putName "read" (PyData.keyHash w.params "read") (.str "read" (t + 1)) v)
 refine wpAny_bind (wpAny_lookBehind g4 (pastItsLine_dict (by rw [sizeLine_eq]; simp)) (wpAny_pure ?_))
 refine wpAny_pure (wpAny_pure ?_)
 refine h _ _ _ _ ((sb.2 f (Ne.symm ne)).trans g2) g4 fun b o nb e=>?_
 have nb2:b ≠ hh.objs.size:=fun q=>absurd (Heap.lt_size e) (by rw [q]; exact Nat.lt_irrefl _)
 exact (sb.2 b nb2).trans (hk1 b o nb e)
theorem entry_oga:entryFor table "object.__getattribute__" = some Builtin.«object.__getattribute__»:=entryFor_of_tree (by kernel_rfl)
theorem fn_args_ga (a b:Value):argsOk "object.__getattribute__" ⟨[a,b],[]⟩:=by unfold argsOk; kernel_rfl
theorem fn_meth {sd rd:Addr} {hsh:Int} {tk:Tok} {n:Nat} {pl:Sem Bool} {Q:Value × List Value -> Shared -> Prop} (hf:s.heap.get? f = some { cls:=.type "function",dict:=some sd,data:=.func fd }) (hd:s.heap.get? sd = some (dictOf [⟨hsh,.str "read" tk,.ref rd⟩] n))
  (h:∀ t,Q (.ref rd,[]) { s with toks:=t }):wpAny (model prog w) A (getMethod (.ref f) "read" pl) Q E s:=by
 obtain ⟨hh,g,d,t,os⟩:=s
 dsimp only at hf hd h
 have hT:∀ t',(⟨hh,g,d,t',os⟩:Shared).TypeIs (.ref f) "function":=fun t'=>⟨_,hf,rfl⟩
 have f2:=slot_fn_ga.lookup
 have f3:=slot_fn_ga.bind (.ref f)
 have f4:=fn_read_none
 have f5:=fn_getattr_none
 have f6:(Manifest.canonical "object.__getattribute__" != "object.__getattribute__") = false:=PySem.F.canon_object_ga
 unfold getMethod
 refine wpAny_bind (wpAny_specialOf (hT _) f2 ?_)
 show wpAny _ _ (if (Manifest.canonical "object.__getattribute__" != "object.__getattribute__") = true then _ else _) _ _ _
 rw [f6,if_neg Bool.false_ne_true]
 refine wpAny_bind (wpAny_specialOf (hT _) f5 ?_)
 refine wpAny_bind (wpAny_specialOf (hT _) f4 ?_)
 show wpAny _ _ (getAttr (.ref f) "read" >>= fun v=>pure (v,[])) _ _ _
 refine wpAny_bind ?_
 unfold getAttr getAttrBy
 refine wpAny_bind (wpAny_mkText (wpAny_holding (wpAny_bind (wpAny_typeOf (hT _) (wpAny_bind (wpAny_of_eq f2 ?_))))))
 show wpAny _ _ (getAttrByItsOwn (.ref f) (.str "read" t) (.type "function") (.builtin "object.__getattribute__") true false) _ _ _
 unfold getAttrByItsOwn
 refine wpAny_bind (m:=hookBefore (.type "function")) (wpAny_pure (wpAny_bind (wpAny_attempt (wpAny_holding ?_))))
 show wpAny _ _ (boundAndCalled (.builtin "object.__getattribute__") (.ref f) (.str "read" t)) _ _ _
 unfold boundAndCalled
 rw [f3]
 refine wpAny_bind (wpAny_pure (wpAny_call (codeAny_call_builtin slot_fn_ga.plain entry_oga (slot_fn_ga.check _ _ _ _ _ _ _ _ (hT _) (fn_args_ga _ _) ?_))))
 show wpAny _ _ (Builtin.«object.__getattribute__» ⟨[.ref f,.str "read" t],[]⟩) _ _ _
 unfold Builtin.«object.__getattribute__»
 have k1:lookIn "read" (dictOf [⟨hsh,.str "read" tk,.ref rd⟩] n) = some (some (.ref rd)):=by kernel_rfl
 have k2:=nsLook_of k1
 refine wpAny_bind (wpAny_pure (wpAny_bind (wpAny_pure (wpAny_bind (wpAny_typeOf (hT _) (wpAny_bind ?_))))))
 show wpAny _ _ (Builtin.ObjectAttr.find (.ref f) (.type "function") "read") _ _ _
 unfold Builtin.ObjectAttr.find
 refine wpAny_bind (wpAny_of_eq f4 (wpAny_bind (wpAny_pure (wpAny_bind (wpAny_pure ?_)))))
 show wpAny _ _ (Builtin.ObjectAttr.ownThenClass (.ref f) "read" none none) _ _ _
 unfold Builtin.ObjectAttr.ownThenClass
 refine wpAny_bind ?_
 show wpAny _ _ (Builtin.ObjectAttr.ownDict f >>= fun d=>Builtin.ObjectAttr.inDict "read" d) _ _ _
 refine wpAny_bind ?_
 unfold Builtin.ObjectAttr.ownDict
 refine wpAny_bind (wpAny_loadPart hf ?_)
 show wpAny _ _ (instanceDict f false) _ _ _
 unfold instanceDict
 refine wpAny_bind (wpAny_loadPart hf ?_)
 refine wpAny_pure ?_
 show wpAny _ _ (nsGet sd "read") _ _ _
 unfold nsGet
 refine wpAny_bind (wpAny_loadPart hd ?_)
 rw [k2]
 refine wpAny_pure (wpAny_bind (wpAny_rule (wpAny_pure ?_)))
 refine wpAny_pure ?_
 show wpAny _ _ (handedOut (.ref rd)) _ _ _
 exact wpAny_pure (wpAny_pure (h _))
end
end
section
theorem slice_one (x:Str) (n:Nat) (h:n <= x.length):Txt.slice x (some (n:Int)) (some ((n:Int) + 1)) = ⟨((x.cps.toList.drop n).take 1).toArray⟩:=by
 have hlen:x.cps.toList.length = x.length:=by rw [Array.length_toList]; rfl
 have ix:Builtin.Str.strSliceIndices (some (n:Int)) (some ((n:Int) + 1)) 1 x.length = if n < x.length then [n] else []:=by
  unfold Builtin.Str.strSliceIndices
  dsimp only
  have c1:max 0 (min (if (n:Int) < 0 then (n:Int) + (x.length:Int) else (n:Int)) (x.length:Int)) = n:=by
   rw [if_neg (Int.not_lt.mpr (Int.natCast_nonneg n)),Int.min_eq_left (Int.ofNat_le.mpr h),Int.max_eq_right (Int.natCast_nonneg n)]
  by_cases hn:n < x.length
  ·have c2:max 0 (min (if (n:Int) + 1 < 0 then (n:Int) + 1 + (x.length:Int) else (n:Int) + 1) (x.length:Int)) = n + 1:=by
    have e:(n:Int) + 1 = ((n + 1:Nat):Int):=rfl
    rw [e,if_neg (Int.not_lt.mpr (Int.natCast_nonneg _)),Int.min_eq_left (Int.ofNat_le.mpr hn),Int.max_eq_right (Int.natCast_nonneg _)]
   simp only [show ((1:Int) > 0) = True from by simp,if_true,c1,c2,if_pos hn]
   unfold sliceRange
   dsimp only
   rw [if_pos (by decide),if_pos (by omega)]
   have:((n:Int) + 1 - n + 1 - 1) / 1 = 1:=by omega
   rw [this]
   simp
  ·have c2:max 0 (min (if (n:Int) + 1 < 0 then (n:Int) + 1 + (x.length:Int) else (n:Int) + 1) (x.length:Int)) = n:=by
    have e:(n:Int) + 1 = ((n + 1:Nat):Int):=rfl
    have e2:x.length = n:=Nat.le_antisymm (Nat.le_of_not_lt hn) h
    rw [e,if_neg (Int.not_lt.mpr (Int.natCast_nonneg _)),e2,Int.min_eq_right (Int.ofNat_le.mpr (Nat.le_succ n)),Int.max_eq_right (Int.natCast_nonneg _)]
   simp only [show ((1:Int) > 0) = True from by simp,if_true,c1,c2,if_neg hn]
   unfold sliceRange
   dsimp only
   rw [if_pos (by decide),if_neg (by omega)]
   rfl
 unfold Txt.slice
 rw [ix]
 by_cases hn:n < x.length
 ·rw [if_pos hn,List.drop_eq_getElem_cons (by omega)]
  have g:x.cps[n]? = some (x.cps.toList[n]'(hlen ▸ hn)):=by
   rw [<- Array.getElem?_toList,List.getElem?_eq_getElem]
  split
  ·rename_i q
   simp at q
   have n0:n = 0:=by omega
   subst n0
   obtain ⟨c,hc⟩:∃ c,x.cps.toList = [c]:=by
    cases w:x.cps.toList with
    | nil=>rw [w] at hlen; simp at hlen; omega
    | cons c r=>cases r with
     | nil=>exact ⟨c,rfl⟩
     | cons _ _=>rw [w] at hlen; simp at hlen; omega
   obtain ⟨cps⟩:=x
   have hc':cps = #[c]:=by apply Array.toList_inj.mp; simpa using hc
   subst hc'
   rfl
  ·simp [g] <;> rfl
 ·rw [if_neg hn,List.drop_eq_nil_of_le (by omega)]
  split
  ·rename_i q
   have q':(0:Nat) = x.length:=by simpa using q
   obtain ⟨cps⟩:=x
   have:cps = #[]:=Array.eq_empty_of_size_eq_zero q'.symm
   subst this; rfl
  ·rfl
section
variable {C:Cx} {B:Base} {U:Addr -> Prop} {O:Own} {env:Env} {σ σ':Vars} {s s':Shared} {k:Nat} {A:Around} {h:Heap} {K:Frag}
theorem Ev.at0 {y:Str} {i c:Nat} {al:Addr} {n:Int} {t:Tok} {p q r:Pos} (hy:IsVar env.scope y i) (hs:σ[i]? = some (.val (.ref al))) (h1:(y == ("__debug__":Str)) = false) (h2:(y == ("__classdict__":Str)) = false)
  (hl:Lst C.h0 al [.int n t]) (hT:al ∉ C.T):Ev C k env σ (.Subscript (.Name y p) (.Constant (.int 0) c q) r) (.int n):=by
 intro B U O A s R S
 refine Subscript_ (S.loadVal (kk:=k) hy hs h1 h2 ?_)
 refine wpT (Ev.int (kk:=k) B U O A s R S) fun v s₁ hZ2=>?_; obtain ⟨x1,i1⟩:=hZ2
 replace i1:=i1.iInt; obtain ⟨tz,hqq⟩:=i1; cases hqq
 have S1:=S.ext x1
 have i0:IsD C (fun b=>b ∈ C.T) s₁.heap (.ref al) (.lst [.int n]):=.lst al _ _ (hl.kept fun o g=>S1.ok.keep al o g) hT (.cons (.int _ _) .nil)
 refine wpT (sub2_sound (a:=.lst [.int n]) (b:=.int 0) (d:=.int n) (by rfl) (fun b=>b ∈ C.T) A s₁ _ _ R.zero S1.ok ⟨fun b hb=>hb,fun b hb=>S1.lt b (S1.zt b hb)⟩ i0 (.int 0 tz)) fun v s₂ hZ2=>?_; obtain ⟨x2,i2⟩:=hZ2
 replace i2:=i2.iInt; obtain ⟨tv,hqq⟩:=i2; cases hqq
 exact ⟨x1.trans x2,.int _ _⟩
theorem rd_spec {a al:Addr} {fd:FuncData} {clos:List (Str × Addr)} {text:Str} {ySg yT yA yA2 yA3 yA4:Str} {q7 q8 q9 q11 q12 q13 q15 q16 q18 q19 q20 q21 q22 q24 q25 q26 q28 q29 q33 q34 q36 qc:Pos} {c10 c14 c24 c27:Nat} {e17 e32 e35:Expr}
  (F:CloOk C a fd [.Assign [(.Name ySg q7)] (.Subscript (.Name yT q8) (.Slice (some (.Subscript (.Name yA q9) (.Constant (.int 0) c10 q11) q12)) (some (.BinOp (.Subscript (.Name yA2 q13) (.Constant (.int 0) c14 q15) q16) .Add e17 q18)) none q19) q20) q21,
   .Assign [(.Subscript (.Name yA3 q22) (.Constant (.int 0) c24 q24) q25)] (.BinOp (.Subscript (.Name yA4 q26) (.Constant (.int 0) c27 q28) q29) .Add e32 q33) q34,.Return (some e35) q36] 1 clos)
  (Bq:Bs C) (hks:fd.scope.names.map (·.2) = [.local,.local,.free,.free,.globalImplicit])
  (hr:(vr fd.scope 1 ySg && vr fd.scope 3 yT && vr fd.scope 2 yA && vr fd.scope 2 yA2 && vr fd.scope 2 yA3 && vr fd.scope 2 yA4 && repE nmB fd.scope (.var 0) e17 && repE nmB fd.scope (.call 0 [.var 1]) e32 && repE nmB fd.scope (.var 1) e35) = true)
  (hσ:CloV C fd.scope.names 1 clos [.int 1] [.d (.int 1),.no,.val (.ref al),.sd (.str text),.no]) (h0:C.h0.get? al = none) (alT:al ∉ C.T) (hl:text.length <= 1000000) :
  ∀ (A:Around) (s:Shared) (n:Nat) (t1 t2:Tok),Room (k + 1) A -> OK C s -> Lst s.heap al [.int n t1] -> n <= text.length ->
   wpAny C.M A (call (.ref a) [.int 1 t2] []) (fun v s'=>OK C s' /\ (∀ b o,b ∉ C.T -> b ≠ al -> s.heap.get? b = some o -> s'.heap.get? b = some o) /\ ∃ (tv ta:Tok),v = .str ⟨((text.cps.toList.drop n).take 1).toArray⟩ tv /\ Lst s'.heap al [.int ((n + ((text.cps.toList.drop n).take 1).length:Nat):Int) ta]) nf s:=by
 intro A s n t1 t2 R Ks hL hn
 refine and9 hr fun r1 r2 r3 r4 r5 r6 r7 r8 r9=>?_
 have gL:=hL
 obtain ⟨nn,gal⟩:=hL
 refine clo_enter (Z:=fun b=>b ∈ C.T) F (ds:=[.int 1]) rfl (fun dd hdd=>by cases List.mem_singleton.mp hdd; rfl) _ hσ R Ks ⟨_,gal⟩ h0 (.cons (.int _ _) .nil) fun env s₁ B O hsc hE x1 R1 S hO hB hBk=>?_
 refine genQ fun κ0 hκ0=>?_
 have hA:AtSc env fd.scope:=AtSc.refl hsc
 obtain ⟨H,SU⟩:=S.upAll (X:=ownL O s₁) (fun b hb=>S.oh b (ownL_own hb)) fun b hb=>S.mem_ownL hb
 have ual:Lst (fixH C s₁ (ownL O s₁)) al [.int n t1]:=⟨nn,hideAll_get _ (x1.keep _ _ alT gal) fun q=>by
  rcases List.mem_append.mp q with q | q
  ·exact alT q
  ·exact ownL_own q hO⟩
 have BqU:Bs (C.up (fixH C s₁ (ownL O s₁))):=Bq.up H
 have p3:=vr_var hA r3
 have p4:=vr_var hA r4
 have p5:=vr_var hA r5
 have p6:=vr_var hA r6
 have p2:=vr_var hA r2
 have eT:Ev (C.up (fixH C s₁ (ownL O s₁))) k env [.d (.int 1),.no,.val (.ref al),.sd (.str text),.no] (.Name yT q8) (.str text):=Ev.names p2.1 rfl p2.2.1 p2.2.2
 have eLo:Ev (C.up (fixH C s₁ (ownL O s₁))) k env [.d (.int 1),.no,.val (.ref al),.sd (.str text),.no] (.Subscript (.Name yA q9) (.Constant (.int 0) c10 q11) q12) (.int n):=Ev.at0 p3.1 rfl p3.2.1 p3.2.2 ual alT
 have eHi:Ev (C.up (fixH C s₁ (ownL O s₁))) k env [.d (.int 1),.no,.val (.ref al),.sd (.str text),.no] (.BinOp (.Subscript (.Name yA2 q13) (.Constant (.int 0) c14 q15) q16) .Add e17 q18) (.int ((n:Int) + 1)) :=
  Ev.bin (Ev.at0 p4.1 rfl p4.2.1 p4.2.2 ual alT) (evE_s (BqU.gd k) (.var 0) hA r7 (d:=.int 1) rfl) Op2.add
 have eSl:Ev (C.up (fixH C s₁ (ownL O s₁))) k env [.d (.int 1),.no,.val (.ref al),.sd (.str text),.no] (.Subscript (.Name yT q8) (.Slice (some (.Subscript (.Name yA q9) (.Constant (.int 0) c10 q11) q12)) (some (.BinOp (.Subscript (.Name yA2 q13) (.Constant (.int 0) c14 q15) q16) .Add e17 q18)) none q19) q20) (.str ⟨((text.cps.toList.drop n).take 1).toArray⟩):=slc2_sound (l:=some (n:Int)) (u:=some ((n:Int) + 1)) eT eLo eHi (by
  simp only [slc2]; rw [if_pos (by omega),slice_one text n hn])
 refine exs_wp (C:=C.up (fixH C s₁ (ownL O s₁))) (Q:=Fin1 .next [.d (.int 1),.d (.str ⟨((text.cps.toList.drop n).take 1).toArray⟩),.val (.ref al),.sd (.str text),.no]) (ExS.assign eSl (hA.isSto (stoB_val hks r1 (by rfl))) ⟨rfl,rfl⟩) R1 SU (fun O3 σ3 s₃ S3 e3=>?_) fun σ f e=>e.1
 obtain ⟨_,rfl⟩:=e3
 have down:∀ {O':Own} {σ':Vars} {s':Shared},(∀ (i:Nat) (u:Value),σ'[i]? = some (AV.val u) -> i = 2 /\ u = .ref al) -> (∀ (i:Nat) (L:LexA) (st:LexSt),σ'[i]? ≠ some (AV.lex L st)) -> SimO (C.up (fixH C s₁ (ownL O s₁))) B (fun b=>b ∈ C.T \/ b = al) O' env σ' s' -> SimO C B (fun b=>b ∈ C.T \/ b = al) O' env σ' s':=fun {O' σ' s'} hv hx S'=>S'.downV H (hlex:=hx) fun i x kk u e1 e2=>by
  obtain ⟨rfl,rfl⟩:=hv i u e2
  rw [hsc] at e1
  have hk:=ks_at hks e1
  cases hk
  right
  obtain ⟨m,hm,hvv⟩:=S.vars
  rcases hvv 2 x .free (.val (.ref al)) (by rw [hsc]; exact e1) rfl with (⟨q,_⟩ | ⟨q,_⟩) | ⟨_,w⟩
  ·cases q
  ·cases q
  ·exact w
 generalize hsg:(text.cps.toList.drop n).take 1 = sg at *
 have hsl:sg.length <= 1:=by rw [<- hsg]; exact List.length_take_le _ _
 have sgl:(⟨sg.toArray⟩:Str).length = sg.length:=by show sg.toArray.size = _; simp
 have eLen:evE bg (.call 0 [.var 1]) [.d (.int 1),.d (.str ⟨sg.toArray⟩),.val (.ref al),.sd (.str text),.no] = some (.int (sg.length:Int)):=by
  have e1:evE bg (.call 0 [.var 1]) [.d (.int 1),.d (.str ⟨sg.toArray⟩),.val (.ref al),.sd (.str text),.no] = bg 0 [.str ⟨sg.toArray⟩]:=by kernel_rfl
  rw [e1]
  show (if (⟨sg.toArray⟩:Str).length <= 16777216 then some (D.int ((⟨sg.toArray⟩:Str).length:Int)) else none) = _
  rw [if_pos (by omega),sgl]
 have eV:Ev (C.up (fixH C s₁ (ownL O s₁))) k env [.d (.int 1),.d (.str ⟨sg.toArray⟩),.val (.ref al),.sd (.str text),.no] (.BinOp (.Subscript (.Name yA4 q26) (.Constant (.int 0) c27 q28) q29) .Add e32 q33) (.int ((n:Int) + sg.length)) :=
  Ev.bin (Ev.at0 p6.1 rfl p6.2.1 p6.2.2 ual alT) (evE_s (BqU.gd k) _ hA r8 eLen) Op2.add
 refine stepK fun κ hκ=>(wpAny_Assign_Subscript (wpT (eV B _ O3 _ s₃ R1 S3) fun v s₄ hZ2=>?_) (swaps_no (t:=none) rfl)); obtain ⟨x4,i4⟩:=hZ2
 have S4:=S3.ext x4
 replace i4:=i4.iInt; obtain ⟨tv4,hqq⟩:=i4; cases hqq
 refine S4.loadVal (kk:=k) (i:=2) p5.1 rfl p5.2.1 p5.2.2 ?_
 refine wpT (Ev.int (kk:=k) B _ O3 _ s₄ R1 S4) fun iv s₅ hZ2=>?_; obtain ⟨x5,i5⟩:=hZ2
 replace i5:=i5.iInt; obtain ⟨tv5,hqq⟩:=i5; cases hqq
 have S5:=S4.ext x5
 have l5:Lst s₅.heap al [.int n t1]:=ual.kept fun o g=>S5.ok.keep al o g
 have dn5:∀ (i:Nat) (u:Value),([.d (.int 1),.d (.str ⟨sg.toArray⟩),.val (.ref al),.sd (.str text),.no]:Vars)[i]? = some (AV.val u) -> i = 2 /\ u = .ref al:=fun i u e=>by
  match i with
  | 0 | 1 | 3 | 4=>cases e
  | 2=>cases e; exact ⟨rfl,rfl⟩
  | i + 5=>cases e
 have SD:=down dn5 (fun i L st e=>by
  match i with
  | 0 | 1 | 2 | 3 | 4=>cases e
  | i + 5=>cases e) S5
 obtain ⟨n5,g5⟩:=id l5
 refine setItem_lst g5 (by decide) (by simp) (by decide) (hκ _ _ ?_)
 clear hκ κ
 have u6:=upd_lst (fun xs=>xs.setIfInBounds (0:Int).toNat (.int ((n:Int) + sg.length) tv4)) l5
 have hk6:∀ b o,b ≠ al -> s₅.heap.get? b = some o -> (s₅.heap.update al (Obj.mapSeq (·.setIfInBounds (0:Int).toNat (.int ((n:Int) + sg.length) tv4)))).get? b = some o:=fun b o nb g=>((Heap.SameBut.update ..).2 b nb).trans g
 have nal:O3 al = none:=SD.uo (.inr rfl)
 have S6:=SD.pokeExt (s':={ s₅ with heap:=s₅.heap.update al (Obj.mapSeq (·.setIfInBounds (0:Int).toNat (.int ((n:Int) + sg.length) tv4))) }) (SD.ok.but (dr:=s₅.drawn) (tk:=s₅.toks) h0 alT g5 (fun vs q=>by cases q) hk6) nal (.inr rfl) hB (fun b o _ nb g=>hk6 b o nb g) (by obtain ⟨_,g⟩:=u6; exact ⟨_,g⟩)
 have eR:=evE_s (Bq.gd k) (.var 1) hA r9 (d:=.str ⟨sg.toArray⟩) (σ:=[.d (.int 1),.d (.str ⟨sg.toArray⟩),.val (.ref al),.sd (.str text),.no]) rfl
 refine stepK fun κ hκ=>(wpAny_Return_some (wpT (eR B _ O3 _ _ R1 S6) fun v s₇ hZ2=>?_)); obtain ⟨x7,i7⟩:=hZ2
 replace i7:=i7.iStr; obtain ⟨tv7,hqq⟩:=i7; cases hqq
 have S7:=S6.ext x7
 refine hκ _ _ <| hκ0 _ _ ⟨S7.ok,fun b o nT nb g=>S7.keepB b o (hBk b o nT nb g),tv7,tv4,rfl,?_⟩
 have:=u6.kept fun o g=>x7.keep al o alT g
 simpa using this
end
end
section
noncomputable def lexNames:List Str:=["lineno","instream","whitespace","pushback"]
noncomputable def LMut (L:LexA) (b:Addr):Prop:=b = L.dx \/ b = L.pl \/ b = L.al
noncomputable def LKeep (C:Cx) (L:LexA) (s s':Shared):Prop:=∀ b o,b ∉ C.T -> ¬ LMut L b -> s.heap.get? b = some o -> s'.heap.get? b = some o
noncomputable def RdSpec (C:Cx) (rd:Addr) (L:LexA):Prop :=
 ∀ (A:Around) (s:Shared) (n:Nat) (t1 t2:Tok),Room 1 A -> OK C s -> Lst s.heap L.al [.int n t1] -> n <= L.txt.length ->
  wpAny C.M A (call (.ref rd) [.int 1 t2] []) (fun v s'=>OK C s' /\ (∀ b o,b ∉ C.T -> b ≠ L.al -> s.heap.get? b = some o -> s'.heap.get? b = some o) /\ ∃ (tv ta:Tok),v = .str ⟨((L.txt.cps.toList.drop n).take 1).toArray⟩ tv /\ Lst s'.heap L.al [.int ((n + ((L.txt.cps.toList.drop n).take 1).length:Nat):Int) ta]) nf s
structure LexFix (C:Cx) (c:Addr) (L:LexA):Prop where
 lx:C.h0.get? L.lx = some (instObj c L.dx)
 d0:C.h0.get? L.dx = none
 p0:C.h0.get? L.pl = none
 a0:C.h0.get? L.al = none
 ne1:L.dx ≠ L.pl
 ne2:L.dx ≠ L.al
 ne3:L.pl ≠ L.al
 rd:∃ (sd rd:Addr) (hsh:Int) (tk:Tok) (n:Nat) (fs:FuncData),C.h0.get? L.st = some { cls:=.type "function",dict:=some sd,data:=.func fs } /\ C.h0.get? sd = some (dictOf [⟨hsh,.str "read" tk,.ref rd⟩] n) /\ Kp C (.ref rd) /\ RdSpec C rd L
 len:L.txt.length <= 900000
 ok:PyData.strOk L.txt = true
section
variable {C:Cx} {B:Base} {U:Addr -> Prop} {O:Own} {env:Env} {σ σ':Vars} {s s' s₁:Shared} {k:Nat} {A:Around} {h:Heap} {K:Frag} {c:Addr} {L:LexA} {st:LexSt}
theorem LexMut.dxT (Q:OK C s) (M:LexMut L st s.heap):L.dx ∉ C.T:=by
 obtain ⟨⟨enn,g⟩,_⟩:=M; exact dict_notT Q g
theorem lst_notT {a:Addr} {vs:List Value} (Q:OK C s) (x:Lst s.heap a vs):a ∉ C.T:=fun q=>by
 obtain ⟨ps,g,_⟩:=Q.tab a q; obtain ⟨n,e⟩:=x; rw [e] at g; cases g
theorem LexMut.plT (Q:OK C s) (M:LexMut L st s.heap):L.pl ∉ C.T:=by obtain ⟨_,⟨vs,e,_⟩,_⟩:=M; exact lst_notT Q e
theorem LexMut.alT (Q:OK C s) (M:LexMut L st s.heap):L.al ∉ C.T:=by obtain ⟨_,_,n,t,e,_⟩:=M; exact lst_notT Q e
theorem LexMut.notT (Q:OK C s) (M:LexMut L st s.heap) {b:Addr} (hb:LMut L b):b ∉ C.T:=by
 rcases hb with rfl | rfl | rfl
 ·exact M.dxT Q
 ·exact M.plT Q
 ·exact M.alT Q
theorem LexMut.ex (M:LexMut L st h) {b:Addr} (hb:LMut L b):∃ o,h.get? b = some o:=by
 obtain ⟨⟨enn,g⟩,⟨vs,⟨n,e⟩,_⟩,n2,t,⟨n3,e3⟩,_⟩:=M
 rcases hb with rfl | rfl | rfl
 ·exact ⟨_,g⟩
 ·exact ⟨_,e⟩
 ·exact ⟨_,e3⟩
theorem LexMut.ext (M:LexMut L st s.heap) (x:Ext C s s') (Q:OK C s):LexMut L st s'.heap:=M.kept fun b hb o g=>x.keep b o (M.notT Q hb) g
theorem LexFix.h0 (F:LexFix C c L) {b:Addr} (hb:LMut L b):C.h0.get? b = none:=by
 rcases hb with rfl | rfl | rfl
 ·exact F.d0
 ·exact F.p0
 ·exact F.a0
theorem LKeep.ext (x:Ext C s s'):LKeep C L s s':=fun b o n _ g=>x.keep b o n g
theorem LKeep.trans {s'':Shared} (x:LKeep C L s s') (y:LKeep C L s' s''):LKeep C L s s'':=fun b o n m g=>y b o n m (x b o n m g)
theorem SimO.pokeP (S:SimO C B U O env σ s) (K:OK C s') {P:Addr -> Prop} (hP:∀ b,P b -> O b = none /\ U b /\ B.get b = none /\ ∃ o,s'.heap.get? b = some o) (hk:∀ b o,b ∉ C.T -> ¬ P b -> s.heap.get? b = some o -> s'.heap.get? b = some o):SimO C B U O env σ s':=by
 obtain ⟨m,hm,hv⟩:=S.vars
 have nO:∀ c,O c ≠ none -> ¬ P c:=fun c hc q=>hc (hP c q).1
 have kO:∀ c,O c ≠ none -> ∀ o,s.heap.get? c = some o -> s'.heap.get? c = some o:=fun c hc o g=>hk c o (S.nT hc) (nO c hc) g
 refine ⟨K,S.ev,S.tu,S.bt,fun b o e=>hk b o (fun q=>by rw [S.bt b q] at e; cases e) (fun q=>by rw [(hP b q).2.2.1] at e; cases e) (S.keepB b o e),fun b hb=>?_,S.ob,S.oh,S.hL,m,?_,fun i x kk av e1 e2=>?_⟩
 ·by_cases q:P b
  ·exact (hP b q).2.2.2
  ·by_cases hT:b ∈ C.T
   ·obtain ⟨ps,g,_⟩:=K.tab b hT; exact ⟨_,g⟩
   ·obtain ⟨o,g⟩:=S.lt b hb; exact ⟨o,hk b o hT q g⟩
 ·obtain ⟨o,es,ep,g,r⟩:=hm
  exact ⟨o,es,ep,kO _ (nnS S.hL) o g,r⟩
 ·exact (hv i x kk av e1 e2).step (fun _=>rfl) (fun c hc=>⟨hc,kO c (nnS hc)⟩) (fun c hc=>⟨hc,kO c (nnS hc)⟩) (fun c hc=>⟨hc,kO c (nnS hc)⟩) fun b o n g=>⟨hk b o (fun q=>n (S.zt b q)) (fun q=>n (.inl (hP b q).2.1)) g,n⟩
theorem callWith_G {fv:Value} {first:List Value} {es:List Expr} {ds:List D} {pos:Pos} {Q:Value -> Shared -> Prop} (hk:Kp C fv) (ha:EvL C k env σ es ds) (R:Room k A) (S:SimO C B U O env σ s)
  (h:∀ s₁ vs,Ext C s s₁ -> IsDs C (Zf U O) s₁.heap vs ds -> wpAny C.M A (call fv (first ++ vs) []) Q nf s₁):wpAny C.M A (callWith pos fv first (backTo pos (starEach es env)) []) Q nf s:=by
 obtain ⟨P,P1,P2⟩:=hk
 refine callWith_of (P:=P) (by rw [ha.noStar pos]; rfl) P2 (wpT (ha.args pos R S) fun a s₁ ⟨x1,hkw,i1⟩=>⟨P1 _ (S.ext x1).ok,?_⟩)
 rw [hkw]
 exact h s₁ a.pos x1 i1
theorem lex_attr {y name:Str} {i:Nat} {p1 p2:Pos} {v:Value} {Q:Value -> Shared -> Prop} (Y:ClsOk K c lexNames) (X:K.In C.h0) (F:LexFix C c L) (S:SimO C B U O env σ s) (hy:IsVar env.scope y i) (hs:σ[i]? = some (.val (.ref L.lx))) (h1:(y == ("__debug__":Str)) = false) (h2:(y == ("__classdict__":Str)) = false)
  {es:List DictEntry} {n:Nat} (hd:s.heap.get? L.dx = some (dictOf es n)) (hm:name ∈ lexNames) (hl:getL name es = some (some v)) (hv:handedIn v = true) (h:Q v { s with toks:=s.toks + 1 }):wpAny C.M A (eval (.Attribute (.Name y p1) name p2) env) Q nf s:=by
 refine Attribute_any_ (S.loadVal (kk:=0) hy hs h1 h2 ?_) (by with_unfolding_all rfl)
 exact inst_get Y (X.keeps S.ok.keep) (S.ok.keep _ _ F.lx) hd hm hl hv h
end
noncomputable def readc (st:LexSt):List Nat × LexSt:=match st.rest with
 | []=>([],st)
 | c :: r=>([c],{ rest:=r,line:=st.line + (if c = 10 then 1 else 0),pb:=st.pb })
end
section
section
variable {C:Cx} {B:Base} {U:Addr -> Prop} {O:Own} {env:Env} {σ σ':Vars} {s s' s₁:Shared} {k:Nat} {A:Around} {h:Heap} {K:Frag} {c:Addr} {L:LexA} {st:LexSt}
noncomputable def LexM (C:Cx) (k:Nat) (L:LexA) (f:Addr) (st:LexSt) (w:List Nat) (st':LexSt):Prop :=
 ∀ (A:Around) (s:Shared),Room k A -> OK C s -> LexMut L st s.heap -> codeAny C.M A (.call (.ref f) ⟨[.ref L.lx],[]⟩) (fun r s'=>∃ tv,r = .ok (.ret (.str ⟨w.toArray⟩ tv)) /\ OK C s' /\ LKeep C L s s' /\ LexMut L st' s'.heap) s
theorem strOk_sub {l:List Nat} {x:Str} (h:PyData.strOk x = true) (hl:∀ c ∈ l,c ∈ x.cps.toList):PyData.strOk ⟨l.toArray⟩ = true:=by
 unfold PyData.strOk at h ⊢
 rw [Array.all_eq_true_iff_forall_mem] at h ⊢
 intro c hc
 exact h c (by simpa using hl c (by simpa using hc))
theorem add_min {n m:Nat} (h:n <= m):n + min 1 (m - n) <= m:=by omega
theorem min_one {n m:Nat} (h:n < m):min 1 (m - n) = 1:=Nat.min_eq_left (Nat.sub_pos_of_lt h)
theorem rc_spec {f:Addr} {fd:FuncData} {yc yS yS2:Str} {q1 q2 q3 q4 q7 q8 q13 q14 q17 q18 q20:Pos} {e6 e16 e19 ct:Expr}
  (F:FnOk C f fd [.Assign [(.Name yc q1)] (.Call (.Attribute (.Attribute (.Name yS q2) "instream" q3) "read" q4) [e6] [] q7) q8,.If ct [.AugAssign (.Attribute (.Name yS2 q13) "lineno" q14) .Add e16 q17] [] q18,.Return (some e19) q20] 1)
  (Bq:Bs C) (Y:ClsOk K c lexNames) (X:K.In C.h0) (hks:fd.scope.names.map (·.2) = [.local,.local])
  (hr:(vr fd.scope 1 yc && vr fd.scope 0 yS && vr fd.scope 0 yS2 && repE nmB fd.scope (.int 1) e6 && repE nmB fd.scope (.int 1) e16 && repT nmB fd.scope (.cmp .Eq (.var 1) (.str "\n")) ct && repE nmB fd.scope (.var 1) e19 && !isStarred e6 && q4.endLine == q7.line) = true)
  (FX:LexFix C c L):LexM C (k + 3) L f st (readc st).1 (readc st).2:=by
 intro A s R Ks M
 refine and9 hr fun r1 r2 r3 r4 r5 r6 r7 r8 r9=>?_
 have M0:=M
 let Z:Addr -> Prop:=fun b=>b ∈ C.T \/ LMut L b
 have z:ZOk C Z s:=⟨fun b hb=>.inl hb,fun b hb=>hb.elim (fun q=>by obtain ⟨ps,g,_⟩:=Ks.tab b q; exact ⟨_,g⟩) M.ex⟩
 refine fn_enter F (Z:=Z) (P:=LMut L) R Ks z rfl [.val (.ref L.lx)] rfl (fun j v av e1 e2=>?_) fun env s₁ B O hA hE hcq x1 R1 S hB hPB hO=>?_
 ·match j with
  | 0=>cases e1; cases e2; exact .inl rfl
  | j + 1=>cases e1
 rw [hks] at S
 have M1:=M.ext x1 Ks
 obtain ⟨⟨enn,gd⟩,⟨pvs,pl1,pl2⟩,n,ta,al1,al2,al3⟩:=id M1
 obtain ⟨sd,rd,hsh,tkr,nr,fs,f1,f2,f3,f4⟩:=FX.rd
 have Om:∀ {O':Own} {σ':Vars} {s':Shared},SimO C B Z O' env σ' s' -> ∀ b,LMut L b -> O' b = none:=fun {O' σ' s'} S' b hb=>by
  cases q:O' b with
  | none=>rfl
  | some t=>exact absurd (Or.inr hb) (S'.ob b (nnS q)).2
 have p2:=vr_var hA r2
 have p3:=vr_var hA r3
 have hst:isStarred e6 = false:=by simpa using r8
 have eA:EvL C (k + 1) env (initA [.local,.local] [.val (.ref L.lx)]) [e6] [.int 1]:=⟨⟨evE_s (Bq.gd _) (.int 1) hA r4 rfl,hst⟩,trivial⟩
 refine genQ fun κ0 hκ0=>stepK fun κ hκ=>(wpAny_Assign_Name ?_ (swaps_no (t:=none) (e:=.Call (.Attribute (.Attribute (.Name yS q2) "instream" q3) "read" q4) [e6] [] q7) rfl))
 have R1':Room (k + 1) (A.deeper env):=R1.le (by omega)
 refine MethodCall_ (lex_attr (v:=.ref L.st) Y X FX S p2.1 (i:=0) rfl p2.2.1 p2.2.2 gd (by decide) (by kernel_rfl) rfl ?_) (meth_eq (by rfl) (by simp) r9 (EvL.stars eA))
 have x2:Ext C s₁ { s₁ with toks:=s₁.toks + 1 }:=.tok S.ok
 have S2:=S.ext x2
 refine fn_meth (S2.ok.keep _ _ f1) (S2.ok.keep _ _ f2) fun tk=>?_
 have S3:SimO C B Z O env (initA [.local,.local] [.val (.ref L.lx)]) { s₁ with toks:=tk }:=S.ext (.tok S.ok)
 refine callWith_G f3 eA R1' S3 fun s₄ vs x4 i4=>?_
 replace i4:=i4.iCons; obtain ⟨_,_,hqq,i41,i42⟩:=i4; cases hqq
 cases i42.iNil
 replace i41:=i41.iInt; obtain ⟨ti,hqq⟩:=i41; cases hqq
 have S4:=S3.ext x4
 have M4:=M1.kept (h':=s₄.heap) fun b hb o g=>x4.keep b o (M1.notT (s:={ s₁ with toks:=tk }) S3.ok hb) g
 refine wpT (f4 _ s₄ n ta ti (R1.le (by omega)) S4.ok (al1.kept fun o g=>x4.keep _ _ (M1.alT (s:={ s₁ with toks:=tk }) S3.ok) g) al2) fun v s₅ hZ2=>?_; obtain ⟨K5,k5,tv,ta5,e5,l5⟩:=hZ2
 subst e5
 have T4:=fun {b} hb=>M4.notT (s:=s₄) S4.ok (b:=b) hb
 have S5:SimO C B Z O env (initA [.local,.local] [.val (.ref L.lx)]) s₅:=S4.pokeP K5 (P:=fun b=>b = L.al) (fun b hb=>by
  have hm:LMut L b:=.inr (.inr hb)
  exact ⟨Om S4 b hm,.inr hm,hPB b hm,by obtain ⟨_,g⟩:=l5; exact ⟨_,hb ▸ g⟩⟩) fun b o nT nb g=>k5 b o nT nb g
 generalize hsg:(L.txt.cps.toList.drop n).take 1 = sg at *
 have hsub:∀ c ∈ sg,c ∈ L.txt.cps.toList:=fun c hc=>List.mem_of_mem_drop (List.mem_of_mem_take (hsg ▸ hc))
 have hlen:L.txt.cps.toList.length = L.txt.length:=by rw [Array.length_toList]; rfl
 have hsl:sg.length <= 1:=by rw [<- hsg]; exact List.length_take_le _ _
 have hn5:n + sg.length <= L.txt.length:=by rw [<- hsg,List.length_take,List.length_drop,hlen]; exact add_min al2
 have hr5:st.rest.drop 1 = L.txt.cps.toList.drop (n + sg.length):=by
  rw [al3,List.drop_drop]
  by_cases q:n < L.txt.length
  ·have:sg.length = 1:=by rw [<- hsg,List.length_take,List.length_drop,hlen]; exact min_one q
   rw [this]
  ·rw [List.drop_eq_nil_of_le (by omega),List.drop_eq_nil_of_le (by omega)]
 have kd5:∀ b,b = L.dx \/ b = L.pl -> ∀ o,s₄.heap.get? b = some o -> s₅.heap.get? b = some o:=fun b hb o g=>k5 b o (T4 (hb.imp id .inl)) (by
  rcases hb with rfl | rfl
  ·exact FX.ne2
  ·exact FX.ne3) g
 have M5:LexMut L { rest:=st.rest.drop 1,line:=st.line,pb:=st.pb } s₅.heap:=by
  obtain ⟨⟨enn,gd⟩,⟨pvs,pl1,pl2⟩,_⟩:=M4
  exact ⟨⟨enn,kd5 _ (.inl rfl) _ gd⟩,⟨pvs,pl1.kept (kd5 _ (.inr rfl)),pl2⟩,n + sg.length,ta5,l5,hn5,hr5⟩
 refine S5.store (x:=yc) (i:=1) (hA.isSto (stoB_val hks r1 (by rfl))) (.str _ tv) fun s₆ S6 kb6=>hκ _ _ ?_
 clear hκ κ
 have M6:LexMut L { rest:=st.rest.drop 1,line:=st.line,pb:=st.pb } s₆.heap:=M5.kept fun b hb o g=>kb6 b o (Om S5 b hb) g
 have okS:PyData.strOk ⟨sg.toArray⟩ = true:=strOk_sub FX.ok hsub
 have eT:evT bg (.cmp .Eq (.var 1) (.str "\n")) [.val (.ref L.lx),.d (.str ⟨sg.toArray⟩)] = some ((⟨sg.toArray⟩:Str) == "\n"):=by
  have:evT bg (.cmp .Eq (.var 1) (.str "\n")) [.val (.ref L.lx),.d (.str ⟨sg.toArray⟩)] = deq (.str ⟨sg.toArray⟩) (.str "\n"):=by kernel_rfl
  rw [this,deq_str okS (by kernel_rfl)]
 have te:Te C (k + 2) env [.val (.ref L.lx),.d (.str ⟨sg.toArray⟩)] ct _:=evT_s (Bq.gd _) (.cmp .Eq (.var 1) (.str "\n")) hA r6 eT
 have S6':SimO C B Z O env [.val (.ref L.lx),.d (.str ⟨sg.toArray⟩)] s₆:=S6
 have erc1:(readc st).1 = sg:=by
  unfold readc
  rw [<- hsg,<- al3]
  cases st.rest <;> rfl
 have fin:∀ s₈,SimO C B Z O env [.val (.ref L.lx),.d (.str ⟨sg.toArray⟩)] s₈ -> LexMut L (readc st).2 s₈.heap ->
   wpAny C.M (A.deeper env) (execs [.Return (some e19) q20] env) κ0 nf s₈:=fun s₈ S8 M8=>by
  refine stepK fun κ hκ=>(wpAny_Return_some (wpT (evE_s (Bq.gd (k + 2)) (.var 1) hA r7 (d:=.str ⟨sg.toArray⟩) rfl B Z O _ s₈ R1 S8) fun v s₉ hZ2=>?_)); obtain ⟨x9,i9⟩:=hZ2
  replace i9:=i9.iStr; obtain ⟨t9,hqq⟩:=i9; cases hqq
  have S9:=S8.ext x9
  exact hκ _ _ (hκ0 _ _ ⟨t9,by rw [erc1],S9.ok,fun b o nT nm g=>S9.keepB b o (hB b o nT nm g),M8.ext x9 S8.ok⟩)
 refine stepK fun κ hκ=>(wpAny_If (wpT (te B Z O _ s₆ R1 S6') fun bb s₇ hZ2=>?_)); obtain ⟨x7,e7⟩:=hZ2
 have S7:=S6'.ext x7
 have M7:=M6.ext x7 S6'.ok
 by_cases q:sg = [10]
 ·have:bb = true:=by rw [e7,q]; kernel_rfl
  subst this
  obtain ⟨⟨enn,gd⟩,⟨pvs,pl1,pl2⟩,n7,ta7,al7,al8,al9⟩:=id M7
  have hx7:=S7.ok.keep _ _ FX.lx
  refine stepK fun κ1 hκ1=>(wpAny_AugAssign_AttributeAny (S7.loadVal (kk:=k) (i:=0) p3.1 rfl p3.2.1 p3.2.2 ?_))
  refine inst_get (v:=.int st.line enn.tl) Y (X.keeps S7.ok.keep) hx7 gd (by decide) (by kernel_rfl) rfl ?_
  have xa:Ext C s₇ { s₇ with toks:=s₇.toks + 1 }:=.tok S7.ok
  refine wpT (evE_s (Bq.gd (k + 2)) (.int 1) hA r5 (d:=.int 1) rfl B Z O _ _ R1 (S7.ext xa)) fun v s₈ hZ2=>?_; obtain ⟨x8,i8⟩:=hZ2
  replace i8:=i8.iInt; obtain ⟨t8,hqq⟩:=i8; cases hqq
  have S8:=(S7.ext xa).ext x8
  refine wpT (Op2.iadd (C:=C) Z _ s₈ (.int st.line enn.tl) (.int 1 t8) R1.zero S8.ok (S8.zok.1 |> fun _=>⟨fun b hb=>.inl hb,fun b hb=>S8.lt b (.inl hb)⟩) (.int _ _) (.int _ _)) fun v s₉ hZ2=>?_; obtain ⟨x9,i9⟩:=hZ2
  replace i9:=i9.iInt; obtain ⟨t9,hqq⟩:=i9; cases hqq
  have S9:=S8.ext x9
  have M9:=((M7.ext xa S7.ok).ext x8 (S7.ext xa).ok).ext x9 S8.ok
  have M9d:=M7.dxT S7.ok
  have gd9:=x9.keep _ _ M9d (x8.keep _ _ M9d (xa.keep _ _ M9d gd))
  refine inst_set (es':=LexE.es { enn with tl:=t9 } (st.line + 1) L.st L.pl) (n':=enn.n) Y (X.keeps S9.ok.keep) (S9.ok.keep _ _ FX.lx) gd9 (by decide) (by kernel_rfl) (by kernel_rfl) (Nat.le_of_ble_eq_true rfl) fun h' g' hb'=>hκ1 _ _ ?_
  have hk':∀ b o,b ≠ L.dx -> s₉.heap.get? b = some o -> h'.get? b = some o:=fun b o nb g=>(hb'.2 b nb).trans g
  have S10:SimO C B Z O env [.val (.ref L.lx),.d (.str ⟨sg.toArray⟩)] { s₉ with heap:=h',toks:=s₉.toks + 2 } :=
   S9.pokeP (S9.ok.but FX.d0 M9d gd9 (fun vs q=>by cases q) hk') (P:=fun b=>b = L.dx) (fun b hb=>by
    have hm:LMut L b:=.inl hb
    exact ⟨Om S9 b hm,.inr hm,hPB b hm,⟨_,hb ▸ g'⟩⟩) fun b o nT nb g=>hk' b o nb g
  refine wpAny_execs_nil (hκ _ _ (fin _ S10 ?_))
  obtain ⟨_,⟨pvs9,pl19,pl29⟩,n9,ta9,al19,al29,al39⟩:=M9
  have er:(readc st).2 = { rest:=st.rest.drop 1,line:=st.line + 1,pb:=st.pb }:=by
   unfold readc
   rw [q] at hsg
   rw [<- al3] at hsg
   cases hrs:st.rest with
   | nil=>rw [hrs] at hsg; cases hsg
   | cons c r=>rw [hrs] at hsg; simp at hsg; subst hsg; rfl
  rw [er]
  exact ⟨⟨{ enn with tl:=t9 },g'⟩,⟨pvs9,pl19.kept fun o g=>hk' _ _ (Ne.symm FX.ne1) g,pl29⟩,n9,ta9,al19.kept fun o g=>hk' _ _ (Ne.symm FX.ne2) g,al29,al39⟩
 ·have:bb = false:=by
   rw [e7,beq_eq_false_iff_ne]
   intro w
   apply q
   have w2:(⟨sg.toArray⟩:Str).cps = (⟨#[10]⟩:Str).cps:=by rw [w]; rfl
   have w3:=congrArg Array.toList w2
   simpa using w3
  subst this
  refine wpAny_execs_nil (hκ _ _ (fin _ S7 ?_))
  have er:(readc st).2 = { rest:=st.rest.drop 1,line:=st.line,pb:=st.pb }:=by
   unfold readc
   rw [<- al3] at hsg
   cases hrs:st.rest with
   | nil=>obtain ⟨rr,ll,pp⟩:=st; dsimp only at hrs; subst hrs; rfl
   | cons c r =>
    rw [hrs] at hsg; simp at hsg
    have:c ≠ 10:=fun e=>q (by rw [<- hsg,e])
    simp [this]
  rw [er]
  exact M7
end
end
section
theorem slot_ci_next:Slot "callable_iterator" "__next__" "callable_iterator.__next__":=.of (owner:="callable_iterator") (n:="__next__") (by rw [typeLookup_type,builtinLookup_eq_fast]; kernel_rfl) (by decide +kernel) (by decide +kernel) (by decide +kernel) (.inl (by decide +kernel)) (by rw [isSubtype_type]; kernel_rfl)
theorem slot_ci_iter:Slot "callable_iterator" "__iter__" "callable_iterator.__iter__":=.of (owner:="callable_iterator") (n:="__iter__") (by rw [typeLookup_type,builtinLookup_eq_fast]; kernel_rfl) (by decide +kernel) (by decide +kernel) (by decide +kernel) (.inl (by decide +kernel)) (by rw [isSubtype_type]; kernel_rfl)
theorem entry_ci_next:entryFor table "callable_iterator.__next__" = some Builtin.«callable_iterator.__next__»:=entryFor_of_tree (by kernel_rfl)
theorem entry_ci_iter:entryFor table "callable_iterator.__iter__" = some Builtin.«dict_keyiterator.__iter__» :=
 entryFor_alias (id':="dict_keyiterator.__iter__") (by kernel_rfl) (by first | rfl | decide +kernel | (unfold String.splitOn; simp +decide [String.splitOnAux])) (by decide +kernel) (by kernel_rfl)
theorem args_ci_next (a:Value):argsOk "callable_iterator.__next__" ⟨[a],[]⟩:=by unfold argsOk; kernel_rfl
theorem args_ci_iter (a:Value):argsOk "callable_iterator.__iter__" ⟨[a],[]⟩:=by unfold argsOk; kernel_rfl
noncomputable abbrev ciObj (m:Addr) (t:Tok):Obj:={ cls:=.type "callable_iterator",data:=.fields #[.ref m,.str "" t,.bool false] }
section
variable {prog:Program} {w:World} {A:Around} {E:Value -> Shared -> Prop} {s:Shared} {I m f:Addr} {t:Tok}
theorem wpAny_callBorrowed {M:Model} {g:Value} {pos:List Value} {Q:Value -> Shared -> Prop} (hc:codeAny M A (.call g ⟨pos,[]⟩) (fun r s'=>match r with | .ok (.ret v)=>Q v s' | .ok _=>False | .error e=>E e s') s) :
  wpAny M A (callBorrowed g pos) Q E s:=fun Γ p hΓ=>by
 unfold callBorrowed
 rw [Sem.wp_call]
 refine wpCode_mono (fun r s' h=>?_) (hc _ p rfl (hΓ.enter _ none p (by intro x; cases x)))
 rcases r with e | (v | _ | _ | _) <;> first | exact h | exact h.elim
theorem ci_iter {Q:Value -> Shared -> Prop} (hI:s.heap.get? I = some (ciObj m t)) (h:Q (.ref I) s):wpAny (model prog w) A (pyIter (.ref I)) Q E s:=by
 have hT:s.TypeIs (.ref I) "callable_iterator":=⟨_,hI,rfl⟩
 refine wpAny_pyIter_slot hT slot_ci_iter (wpAny_call_entry slot_ci_iter hT entry_ci_iter ?_ (args_ci_iter _))
 show wpAny _ _ (ret (.ref I)) _ _ s
 exact wpAny_pure ⟨_,rfl,"callable_iterator",_,hT,slot_ci_next.lookup,h⟩
theorem borrows_meth {Q:Bool -> Shared -> Prop} {self:Value} {o:Obj} {fd:FuncData} (hm:s.heap.get? m = some (methodObj (.ref f) self)) (hf:s.heap.get? f = some o) (hd:o.data = .func fd) (h:Q true s):wpAny (model prog w) A (borrowsExactly (.ref m)) Q E s:=by
 unfold borrowsExactly
 refine wpAny_bind (wpAny_load hm ?_)
 dsimp only
 rw [if_pos (by rfl)]
 show wpAny _ _ (load f >>= _) _ _ _
 refine wpAny_bind (wpAny_load hf ?_)
 rw [hd]
 exact wpAny_pure h
theorem ci_next {Q:Option Value -> Shared -> Prop} {self:Value} {o:Obj} {fd:FuncData} (hh:A.handled = none) (hI:s.heap.get? I = some (ciObj m t)) (hm:s.heap.get? m = some (methodObj (.ref f) self)) (hf:s.heap.get? f = some o) (hd:o.data = .func fd)
  (h:codeAny (model prog w) A.in1 (.call (.ref f) ⟨[self],[]⟩) (fun r s'=>∃ x tv,r = .ok (.ret (.str x tv)) /\ (∀ b o,(b = I \/ b = m \/ b = f) -> s.heap.get? b = some o -> s'.heap.get? b = some o) /\
   (x ≠ "" -> Q (some (.str x tv)) s') /\ (x = "" -> ∀ h' tk,(∀ b o,b ≠ I -> s'.heap.get? b = some o -> h'.get? b = some o) -> (∃ o,h'.get? I = some o) -> Q none { s' with heap:=h',toks:=tk })) s) :
  wpAny (model prog w) A (pyNext (.ref I)) Q E s:=by
 have hT:s.TypeIs (.ref I) "callable_iterator":=⟨_,hI,rfl⟩
 unfold pyNext
 refine wpAny_bind (wpAny_attempt (wpAny_callSpecial?_slot (name:=Str.ofString "__next__") hT slot_ci_next
  (wpAny_call_entry slot_ci_next hT entry_ci_next ?_ (args_ci_next _))))
 show wpAny _ _ (field (.ref I) 2 >>= _) _ _ s
 refine wpAny_bind (wpAny_field hI rfl (x:=.bool false) rfl ?_)
 refine wpAny_bind (m:=field (.ref I) 0) (wpAny_field hI rfl (x:=.ref m) rfl ?_)
 refine wpAny_bind (wpAny_attempt ?_)
 show wpAny _ _ (callOutOfASlot (.ref m)) _ _ s
 unfold callOutOfASlot
 refine wpAny_bind (borrows_meth hm hf hd ?_)
 rw [if_pos rfl]
 refine wpAny_callBorrowed (method_call hm (codeAny_mono h fun r s' hq=>?_))
 obtain ⟨x,tv,e,kp,q1,q2⟩:=hq
 subst e
 have hI':=kp I _ (.inl rfl) hI
 have hm':=kp m _ (.inr (.inl rfl)) hm
 have hf':=kp f _ (.inr (.inr rfl)) hf
 dsimp only
 refine wpAny_bind (wpAny_field hI' rfl (x:=.bool false) rfl ?_)
 refine wpAny_bind (m:=field (.ref I) 1) (wpAny_field hI' rfl (x:=.str "" t) rfl ?_)
 refine wpAny_bind (wpAny_holding (eqBool_str ?_))
 by_cases hx:x = ""
 ·have e1:((("":Str) == x)) = true:=by rw [hx]; kernel_rfl
  rw [e1]
  show wpAny _ _ (rule _ >>= _) _ _ _
  refine wpAny_bind (wpAny_rule ?_)
  refine wpAny_bind ?_
  refine wpAny_bind (m:=field (.ref I) 0) (wpAny_field hI' rfl (x:=.ref m) rfl ?_)
  refine wpAny_bind ?_
  show wpAny _ _ (slotLetsGo "callable_iterator.__next__" (.ref m) _) _ _ _
  unfold slotLetsGo
  refine wpAny_bind (borrows_meth hm' hf' hd ?_)
  rw [if_pos rfl]
  refine wpAny_pure ?_
  refine wpAny_bind (m:=setField (.ref I) 0 .none) (wpAny_setField_rec hI' (by simp) fun h1 g1 b1=>?_)
  refine wpAny_bind (m:=setField (.ref I) 1 .none) (wpAny_setField_rec (s:={ s' with heap:=h1 }) g1 (by simp) fun h2 g2 b2=>?_)
  refine wpAny_setField_rec (s:={ s' with heap:=h2 }) g2 (by simp) fun h3 g3 b3=>?_
  have hk3:∀ b o,b ≠ I -> s'.heap.get? b = some o -> h3.get? b = some o:=fun b o nb g=>(b3.2 b nb).trans ((b2.2 b nb).trans ((b1.2 b nb).trans g))
  show wpAny _ _ (newExc (.type "StopIteration") [] >>= _) _ _ _
  refine wpAny_bind ?_
  simp only [newExc,newTuple]
  refine wpAny_bind (wpAny_newObj_type ?_ (by size_fits))
  refine wpAny_bind (m:=firstArgMember _ _) (wpAny_of_eq (a:=Value.none) (by first | rfl | (simp only [firstArgMember]; rfl)) ?_)
  refine wpAny_newObj_type ?_ (by size_fits)
  simp only [raiseNew]
  refine wpAny_bind (wpAny_handled ?_)
  first | rw [show A.in1.handled = none from hh] | rw [hh]
  refine wpAny_bind (wpAny_pure (wpAny_throw ?_))
  refine wpAny_bind (wpAny_isInstance (T:="StopIteration") (b:=true) ⟨_,Heap.get?_push_size _ rfl,rfl⟩ isSubtype_stop ?_)
  refine wpAny_pure (q2 hx _ _ (fun b o nb g=>Heap.get?_push_of_some _ (Heap.get?_push_of_some _ (hk3 b o nb g))) ⟨_,Heap.get?_push_of_some _ (Heap.get?_push_of_some _ g3)⟩)
 ·have e1:((("":Str) == x)) = false:=by rw [beq_eq_false_iff_ne]; exact fun q=>hx q.symm
  rw [e1]
  exact wpAny_pure ⟨_,rfl,wpAny_pure (q1 hx)⟩
end
end
section
noncomputable def nl (c:Nat):Int:=if c = 10 then 1 else 0
noncomputable def isWs (c:Nat):Bool:=decide (c ∈ [10,9,13,32])
noncomputable def scanW:List Nat -> Int -> List Nat -> Option (List Nat × List Nat × Int)
 | [],_,_=>none
 | [c],l,tk=>if isWs c then some (tk,[],l + nl c) else none
 | c :: d :: r,l,tk=>if isWs c then some (tk,d :: r,l + nl c) else if c = 92 then scanW r (l + nl c + nl d) (tk ++ [d]) else scanW (d :: r) (l + nl c) (tk ++ [c])
noncomputable def scanQ:List Nat -> Int -> List Nat -> Option (List Nat × List Nat × Int)
 | [],_,_=>none
 | [c],l,tk=>if c = 34 then some (tk,[],l + nl c) else none
 | c :: d :: r,l,tk=>if c = 34 then some (tk,d :: r,l + nl c) else if c = 92 then scanQ r (l + nl c + nl d) (tk ++ [d]) else scanQ (d :: r) (l + nl c) (tk ++ [c])
noncomputable def scanO:List Nat -> Int -> Option (List Nat × List Nat × Int)
 | [],l=>some ([],[],l)
 | c :: r,l=>if isWs c then scanO r (l + nl c) else if c = 34 then scanQ r (l + nl c) [] else if c = 92 then (match r with
  | []=>none
  | d :: r'=>scanW r' (l + nl c + nl d) [d]) else scanW r (l + nl c) [c]
noncomputable def tokF (st:LexSt):Option (Str × LexSt):=match st.pb with
 | w :: ws=>some (w,{ rest:=st.rest,line:=st.line,pb:=ws })
 | []=>match scanO st.rest st.line with
  | some (w,r,l)=>some (⟨w.toArray⟩,{ rest:=r,line:=l,pb:=[] })
  | none=>none
section
variable {C:Cx} {B:Base} {U:Addr -> Prop} {O:Own} {env:Env} {σ σ':Vars} {s s' s₁:Shared} {k:Nat} {A:Around} {h:Heap} {K:Frag} {c:Addr} {L:LexA} {st:LexSt} {fR I m:Addr} {t:Tok} {sc:Scope}
theorem pop0_lst {l:Addr} {v:Value} {vs:List Value} {u:Tok} {Q:Value -> Shared -> Prop} (hl:Lst s.heap l (v :: vs)) (hsz:vs.length <= 1000000) (hQ:∀ h',Lst h' l vs -> Heap.SameBut l s.heap h' -> Q v { s with heap:=h' }):wpAny C.M A (call (.builtin "list.pop") [.ref l,.int 0 u]) Q nf s:=by
 have u2:=upd_lst (fun xs=>xs.eraseIdxIfInBounds 0) hl
 obtain ⟨n,e⟩:=hl
 refine call_meets PySem.F.slot_list_pop ⟨_,e,rfl⟩ PySem.F.entry_list_pop (PySem.F.args_list_pop_2 _ _) (PySem.MeetsSeq.list_pop_at l (v :: vs).toArray n 0 u 0 v (by decide) (by unfold seqIndex?; simp) (by simp) (by rw [sizeLine_eq]; simp; omega)) ⟨e,hQ _ ?_ (Heap.SameBut.update ..)⟩
 have e2:=kl_erase [] vs v
 simp only [List.nil_append,List.length_nil] at e2
 rw [e2] at u2
 exact u2
noncomputable abbrev gtV (L:LexA) (I:Addr) (tok:List Nat) (ch:AV):Vars:=[.val (.ref L.lx),.d (.str ⟨tok.toArray⟩),.val (.ref I),ch,.no]
structure GT (C:Cx) (B:Base) (U:Addr -> Prop) (env:Env) (L:LexA) (fR I m:Addr) (t:Tok) (tok:List Nat) (ch:AV) (st:LexSt) (s:Shared):Prop where
 sim:∃ O,SimO C B U O env (gtV L I tok ch) s
 mu:LexMut L st s.heap
 it:s.heap.get? I = some (ciObj m t)
 me:s.heap.get? m = some (methodObj (.ref fR) (.ref L.lx))
 sz:tok.length + st.rest.length <= L.txt.length
structure GE (C:Cx) (B:Base) (U:Addr -> Prop) (env:Env) (L:LexA) (c I m:Addr):Prop where
 fx:LexFix C c L
 ul:∀ b,LMut L b -> U b
 bl:∀ b,LMut L b -> B.get b = none
 ui:U I
 um:U m
 bi:B.get I = none
 ti:I ∉ C.T
 li:¬ LMut L I
 tm:m ∉ C.T
 lm:¬ LMut L m
 mi:m ≠ I
 hi:C.h0.get? I = none
 qn:∀ P a b,C.qn P a b ≠ ""
theorem GT.ext {tok:List Nat} {ch:AV} (E:GE C B U env L c I m) (X:GT C B U env L fR I m t tok ch st s) (x:Ext C s s'):GT C B U env L fR I m t tok ch st s':=by
 obtain ⟨O,S⟩:=X.sim
 exact ⟨⟨O,S.ext x⟩,X.mu.ext x S.ok,x.keep _ _ E.ti X.it,x.keep _ _ E.tm X.me,X.sz⟩
theorem GT.moved {tok:List Nat} {ch:AV} {st':LexSt} (E:GE C B U env L c I m) (X:GT C B U env L fR I m t tok ch st s) (K:OK C s') (k:LKeep C L s s') (M:LexMut L st' s'.heap) (hz:tok.length + st'.rest.length <= L.txt.length):GT C B U env L fR I m t tok ch st' s':=by
 obtain ⟨O,S⟩:=X.sim
 exact ⟨⟨O,S.pokeP K (P:=LMut L) (fun b hb=>⟨S.uo (E.ul b hb),E.ul b hb,E.bl b hb,M.ex hb⟩) k⟩,M,k _ _ E.ti E.li X.it,k _ _ E.tm E.lm X.me,hz⟩
theorem LexMut.ch (M:LexMut L st h) {c:Nat} (hc:c ∈ st.rest):c ∈ L.txt.cps.toList:=by
 obtain ⟨_,_,n,t,_,_,e⟩:=M
 rw [e] at hc
 exact List.mem_of_mem_drop hc
theorem chOk (F:LexFix C c L) (M:LexMut L st h) {x:Nat} (hc:x ∈ st.rest):PyData.strOk ⟨#[x]⟩ = true:=strOk_sub (l:=[x]) F.ok fun y hy=>by cases List.mem_singleton.mp hy; exact M.ch hc
theorem gt_next {tok:List Nat} {ch:AV} {Q:Option Value -> Shared -> Prop} (E:GE C B U env L c I m) (hRC:∀ st,LexM C k L fR st (readc st).1 (readc st).2) (hfR:∃ o fd,C.h0.get? fR = some o /\ o.data = .func fd) (R:Room (k + 1) A) (X:GT C B U env L fR I m t tok ch st s)
  (h1:∀ x r tv s',st.rest = x :: r -> LexMut L { rest:=r,line:=st.line + nl x,pb:=st.pb } s'.heap -> PyData.strOk ⟨#[x]⟩ = true -> (∃ O,SimO C B U O env (gtV L I tok ch) s') -> s'.heap.get? I = some (ciObj m t) -> s'.heap.get? m = some (methodObj (.ref fR) (.ref L.lx)) -> Q (some (.str ⟨#[x]⟩ tv)) s')
  (h0:∀ s',st.rest = [] -> (∃ O,SimO C B U O env (gtV L I tok ch) s') -> LexMut L st s'.heap -> Q none s'):wpAny C.M A (pyNext (.ref I)) Q nf s:=by
 obtain ⟨O,S⟩:=X.sim
 obtain ⟨o,fd,g1,g2⟩:=hfR
 have R1:Room k A.in1:=⟨R.hd,by have:=R.dep; show A.depth + k <= 800; omega,by have:=R.un; show A.units + 1 + 40 * k <= 9000; omega⟩
 have fT:fR ∉ C.T:=fun q=>by have:=S.ok.good.notab _ q; rw [g1] at this; cases this
 have fL:¬ LMut L fR:=fun q=>by rw [E.fx.h0 q] at g1; cases g1
 refine ci_next R.hd X.it X.me (S.ok.keep _ _ g1) g2 (codeAny_mono (hRC st A.in1 s R1 S.ok X.mu) fun r s' ⟨tv,e,K,kp,M⟩=>⟨_,tv,e,fun b o hb g=>?_,fun hx=>?_,fun hx h' tk hk hex=>?_⟩)
 ·rcases hb with rfl | rfl | rfl
  ·exact kp _ _ E.ti E.li g
  ·exact kp _ _ E.tm E.lm g
  ·exact kp _ _ fT fL g
 ·have S':=S.pokeP K (P:=LMut L) (fun b hb=>⟨S.uo (E.ul b hb),E.ul b hb,E.bl b hb,M.ex hb⟩) kp
  cases hr:st.rest with
  | nil=>exact absurd (by unfold readc; rw [hr]; rfl) hx
  | cons x r =>
   have hrc:readc st = ([x],{ rest:=r,line:=st.line + nl x,pb:=st.pb }):=by unfold readc nl; rw [hr]
   rw [hrc] at M ⊢
   exact h1 x r tv s' hr M (chOk E.fx X.mu (by rw [hr]; exact .head _)) ⟨O,S'⟩ (kp _ _ E.ti E.li X.it) (kp _ _ E.tm E.lm X.me)
 ·have hr:st.rest = []:=by
   cases hr:st.rest with
   | nil=>rfl
   | cons x r =>
    have hrc:readc st = ([x],{ rest:=r,line:=st.line + nl x,pb:=st.pb }):=by unfold readc nl; rw [hr]
    rw [hrc] at hx
    have:=congrArg (fun s:Str=>s.cps.size) hx
    simp at this
    exact absurd this (by decide)
  have hrc:readc st = ([],st):=by unfold readc; rw [hr]
  rw [hrc] at M
  have S':=S.pokeP K (P:=LMut L) (fun b hb=>⟨S.uo (E.ul b hb),E.ul b hb,E.bl b hb,M.ex hb⟩) kp
  have gI:=kp _ _ E.ti E.li X.it
  have K2:OK C { heap:=h',gens:=s'.gens,drawn:=s'.drawn,toks:=tk,os:=s'.os }:=by
   refine ⟨K.good,fun b o e=>hk b o (fun q=>by rw [q,E.hi] at e; cases e) (K.keep b o e),fun P hP=>?_,K.gens,K.os⟩
   obtain ⟨ps,w1,w2,w3⟩:=K.tab P hP
   refine ⟨ps,hk _ _ (fun q=>E.ti (q ▸ hP)) w1,w2,fun pos cv e=>?_⟩
   obtain ⟨c2,e1,e2,c3,oo,vs,tt,e3,e4,e5,e6⟩:=w3 pos cv e
   refine ⟨c2,e1,e2,c3,oo,vs,tt,e3,hk _ _ (fun q=>?_) e4,e5,e6⟩
   rw [q,gI] at e4; cases e4
   cases e5
   have e6':(Value.str "" t) = Value.str (C.qn P pos.line pos.col) tt:=by simpa using e6
   injection e6' with e7 e8
   exact E.qn _ _ _ e7.symm
  have S2:=S'.pokeP K2 (P:=fun b=>b = I) (fun b hb=>⟨by rw [hb]; exact S'.uo E.ui,by rw [hb]; exact E.ui,by rw [hb]; exact E.bi,by rw [hb]; exact hex⟩) fun b o _ nb g=>hk b o nb g
  exact h0 _ hr ⟨O,S2⟩ (M.kept fun b hb o g=>hk b o (fun q=>E.li (q ▸ hb)) g)
end
end
section
section
variable {C:Cx} {B:Base} {U:Addr -> Prop} {O:Own} {env:Env} {σ σ':Vars} {s s' s₁:Shared} {k:Nat} {A:Around} {h:Heap} {K:Frag} {c:Addr} {L:LexA} {st:LexSt} {fR I m:Addr} {t:Tok} {sc:Scope}
noncomputable def gtKs:List NameKind:=[.local,.local,.local,.local,.globalImplicit]
noncomputable def chOkA (ch:AV):Prop:=ch = .no \/ ∃ d,ch = .d d
structure GC (C:Cx) (K:Frag) (B:Base) (U:Addr -> Prop) (env:Env) (L:LexA) (c fR I m:Addr) (sc:Scope) (k:Nat):Prop extends GE C B U env L c I m where
 y:ClsOk K c lexNames
 x:K.In C.h0
 b:Bs C
 fR1:findIn K (.ref c) "_read_char" = some (some (.ref fR))
 fR2:isFn K (.ref fR) = true
 rc:∀ st,LexM C k L fR st (readc st).1 (readc st).2
 fn:∃ o fd,C.h0.get? fR = some o /\ o.data = .func fd
 at_:AtSc env sc
 ev:EnvOk env
 ks:sc.names.map (·.2) = gtKs
theorem GT.store {tok:List Nat} {ch:AV} {y:Str} {x:Nat} {tv:Tok} {Q:Unit -> Shared -> Prop} (G:GC C K B U env L c fR I m sc k) (hy:vr sc 3 y = true) (hch:chOkA ch) (X:GT C B U env L fR I m t tok ch st s)
  (h:∀ s',GT C B U env L fR I m t tok (.d (.str ⟨#[x]⟩)) st s' -> Q () s'):wpAny C.M A (storeName env y (.str ⟨#[x]⟩ tv)) Q nf s:=by
 obtain ⟨O,S⟩:=X.sim
 have hst:IsSto env.scope (gtV L I tok ch) y 3:=G.at_.isSto (stoB_val G.ks hy (by rcases hch with rfl | ⟨d,rfl⟩ <;> rfl))
 refine S.store hst (.str _ tv) fun s' S' kb=>h s' ⟨⟨O,S'⟩,X.mu.kept fun b hb o g=>kb b o (S.uo (G.ul b hb)) g,kb _ _ (S.uo G.ui) X.it,kb _ _ (S.uo G.um) X.me,X.sz⟩
theorem gt_for {yc yf:Str} {p1 p2 pos:Pos} {body:List Stmt} {Q:Flow -> Shared -> Prop} (Inv:List Nat -> LexSt -> Prop) (G:GC C K B U env L c fR I m sc k) (R:Room (k + 1) A) (hf:vr sc 2 yf = true) (hc:vr sc 3 yc = true)
  (hbody:∀ (κ:Flow -> Shared -> Prop) tok x r l pb s,(∀ f s',(match f with
    | .next | .cont=>∃ tok' ch' st',st'.rest.length <= r.length /\ GT C B U env L fR I m t tok' ch' st' s' /\ Inv tok' st' /\ chOkA ch'
    | .brk=>Q .next s'
    | .ret v=>Q (.ret v) s') -> κ f s') -> Inv tok ⟨x :: r,l,pb⟩ -> PyData.strOk ⟨#[x]⟩ = true -> tok.length + r.length + 1 <= L.txt.length -> GT C B U env L fR I m t tok (.d (.str ⟨#[x]⟩)) ⟨r,l + nl x,pb⟩ s ->
   wpAny C.M A (execs body env) κ nf s)
  (hnil:∀ tok st s,st.rest = [] -> Inv tok st -> (∃ O ch,SimO C B U O env (gtV L I tok ch) s) -> LexMut L st s.heap -> Q .next s)
  {tok:List Nat} {ch:AV} (X:GT C B U env L fR I m t tok ch st s) (hi:Inv tok st) (hch:chOkA ch):wpAny C.M A (exec (.For (.Name yc p1) (.Name yf p2) body [] pos) env) Q nf s:=by
 obtain ⟨O,S⟩:=X.sim
 have pf:=vr_var G.at_ hf
 refine wpAny_For (S.loadVal (kk:=0) (i:=2) pf.1 rfl pf.2.1 pf.2.2 (ci_iter X.it ?_)) (by intro _; with_unfolding_all rfl)
 have hE:PassesOwn C.M A env nf:=PassesOwn.never
 refine codeAny_forLoop_any (fun n s'=>∃ tok ch st,n = st.rest.length /\ GT C B U env L fR I m t tok ch st s' /\ Inv tok st /\ chOkA ch) ?_ st.rest.length ⟨tok,ch,st,rfl,X,hi,hch⟩
 rintro n s' ⟨tok,ch,st,rfl,X,hi,hch⟩
 refine wpAny_passesOwn hE (gt_next G.toGE G.rc G.fn R X (fun x r tv s₁ hr M hk S1 g1 g2=>?_) fun s₁ hr S1 M=>?_)
 ·refine wpAny_passesOwn hE (wpAny_of_eq lot_name (wpAny_passesOwn hE (assign_Name ?_)))
  have hz:=X.sz
  rw [hr,List.length_cons] at hz
  have X1:GT C B U env L fR I m t tok ch ⟨r,st.line + nl x,st.pb⟩ s₁:=⟨S1,M,g1,g2,by show tok.length + r.length <= _; omega⟩
  refine X1.store G hc hch fun s₂ X2=>wpAny_passesOwn hE (wpT (hbody _ tok x r st.line st.pb s₂ (fun _ _ h=>h) (by obtain ⟨rr,ll,pp⟩:=st; dsimp only at hr; subst hr; exact hi) hk (by omega) X2) fun f s₃ hq=>?_)
  cases f with
  | next=>obtain ⟨tok',ch',st',a1,a2,a3,a4⟩:=hq; exact ⟨st'.rest.length,by rw [hr,List.length_cons]; omega,tok',ch',st',rfl,a2,a3,a4⟩
  | cont=>obtain ⟨tok',ch',st',a1,a2,a3,a4⟩:=hq; exact ⟨st'.rest.length,by rw [hr,List.length_cons]; omega,tok',ch',st',rfl,a2,a3,a4⟩
  | brk=>exact hq
  | ret v=>exact hq
 ·obtain ⟨O,S1⟩:=S1
  exact wpAny_execs_nil (hnil tok st s₁ hr hi ⟨O,ch,S1⟩ M)
theorem ch_eq {tok:List Nat} {x q:Nat} (hx:PyData.strOk ⟨#[x]⟩ = true) (hq:PyData.strOk ⟨#[q]⟩ = true):evT bg (.cmp .Eq (.var 3) (.str ⟨#[q]⟩)) (gtV L I tok (.d (.str ⟨#[x]⟩))) = some (decide (x = q)):=by
 have e:evT bg (.cmp .Eq (.var 3) (.str ⟨#[q]⟩)) (gtV L I tok (.d (.str ⟨#[x]⟩))) = deq (.str ⟨#[x]⟩) (.str ⟨#[q]⟩):=by kernel_rfl
 rw [e,deq_str hx hq]
 congr 1
 by_cases h:x = q
 ·subst h; simp
 ·rw [decide_eq_false h,beq_eq_false_iff_ne]
  intro w
  injection w with w
  simp at w
  exact h w
theorem GT.eqT {tok:List Nat} {x q:Nat} {ct:Expr} (G:GC C K B U env L c fR I m sc k) (hr:repT nmB sc (.cmp .Eq (.var 3) (.str ⟨#[q]⟩)) ct = true) (hx:PyData.strOk ⟨#[x]⟩ = true) (hq:PyData.strOk ⟨#[q]⟩ = true) (R:Room k A) (X:GT C B U env L fR I m t tok (.d (.str ⟨#[x]⟩)) st s) :
  wpAny C.M A (isTrue ct env (eval ct env)) (fun b s'=>GT C B U env L fR I m t tok (.d (.str ⟨#[x]⟩)) st s' /\ b = decide (x = q)) nf s:=by
 obtain ⟨O,S⟩:=X.sim
 exact wpT (evT_s (G.b.gd k) _ G.at_ hr (ch_eq hx hq) B U O A s R S) fun b s' hY99=>⟨X.ext G.toGE hY99.1,hY99.2⟩
theorem GT.wsT {tok:List Nat} {x:Nat} {yc yS:Str} {p1 p2 p3 p4:Pos} (G:GC C K B U env L c fR I m sc k) (hc:vr sc 3 yc = true) (hS:vr sc 0 yS = true) (R:Room k A) (X:GT C B U env L fR I m t tok (.d (.str ⟨#[x]⟩)) st s) :
  wpAny C.M A (isTrue (.Compare (.Name yc p1) [.In] [.Attribute (.Name yS p2) "whitespace" p3] p4) env (eval (.Compare (.Name yc p1) [.In] [.Attribute (.Name yS p2) "whitespace" p3] p4) env)) (fun b s'=>GT C B U env L fR I m t tok (.d (.str ⟨#[x]⟩)) st s' /\ b = isWs x) nf s:=by
 obtain ⟨O,S⟩:=X.sim
 have pc:=vr_var G.at_ hc
 have pS:=vr_var G.at_ hS
 refine wpAny_isTrue_Compare1 (wpT (Ev.name (C:=C) (kk:=k) pc.1 (d:=.str ⟨#[x]⟩) rfl pc.2.1 B U O A s R S) fun va s₁ hZ2=>?_) (by with_unfolding_all rfl); obtain ⟨x1,i1⟩:=hZ2
 replace i1:=i1.iStr; obtain ⟨t1,hqq⟩:=i1; cases hqq
 have X1:=X.ext G.toGE x1
 obtain ⟨⟨enn,gd⟩,_⟩:=X1.mu
 refine lex_attr (v:=.str "\n\t\r " enn.tw) G.y G.x G.fx (S.ext x1) pS.1 (i:=0) rfl pS.2.1 pS.2.2 gd (by decide) (by kernel_rfl) rfl ?_
 have xa:Ext C s₁ { s₁ with toks:=s₁.toks + 1 }:=.tok (S.ext x1).ok
 refine wpT (Op2.inS (C:=C) (a:="\n\t\r ") (b:=⟨#[x]⟩) (fun b=>b ∈ C.T) A _ (.str ⟨#[x]⟩ t1) (.str "\n\t\r " enn.tw) R.zero ((S.ext x1).ext xa).ok ⟨fun b hb=>hb,fun b hb=>((S.ext x1).ext xa).lt b (S.zt b hb)⟩ (.str _ _) (.str _ _)) fun v s₂ hZ2=>?_; obtain ⟨x2,i2⟩:=hZ2
 cases i2
 refine wpAny_truthy_bool ⟨(X1.ext G.toGE xa).ext G.toGE x2,?_⟩
 exact StrLaws.found_one "\n\t\r " x
theorem GT.esc {tok:List Nat} {x:Nat} {yc yS:Str} {ct:Expr} {p1 p2 p3 p4 p5 p6:Pos} (G:GC C K B U env L c fR I m sc k) (hr:repT nmB sc (.cmp .Eq (.var 3) (.str ⟨#[92]⟩)) ct = true) (hc:vr sc 3 yc = true) (hS:vr sc 0 yS = true) (hp:(p3.endLine == p4.line) = true)
  (hx:PyData.strOk ⟨#[x]⟩ = true) (R:Room k A) (X:GT C B U env L fR I m t tok (.d (.str ⟨#[x]⟩)) st s) (hne:x = 92 -> st.rest ≠ []) {Q:Flow -> Shared -> Prop}
  (h1:∀ s',x ≠ 92 -> GT C B U env L fR I m t tok (.d (.str ⟨#[x]⟩)) st s' -> Q .next s')
  (h2:∀ y r s',x = 92 -> st.rest = y :: r -> GT C B U env L fR I m t tok (.d (.str ⟨#[y]⟩)) ⟨r,st.line + nl y,st.pb⟩ s' -> Q .next s') :
  wpAny C.M A (exec (.If ct [.Assign [.Name yc p1] (.Call (.Attribute (.Name yS p2) "_read_char" p3) [] [] p4) p5] [] p6) env) Q nf s:=by
 refine wpAny_If (wpT (X.eqT G hr hx (by kernel_rfl) R) fun b s₁ hZ2=>?_); obtain ⟨X1,e⟩:=hZ2
 by_cases hx92:x = 92
 ·rw [decide_eq_true hx92] at e
  subst e
  obtain ⟨O,S1⟩:=X1.sim
  have pS:=vr_var G.at_ hS
  refine stepK fun κ hκ=>(wpAny_Assign_Name ?_ (swaps_no (t:=none) (e:=.Call (.Attribute (.Name yS p2) "_read_char" p3) [] [] p4) rfl))
  obtain ⟨⟨enn,gd⟩,_⟩:=X1.mu
  refine MethodCall_ (S1.loadVal (kk:=0) (i:=0) pS.1 rfl pS.2.1 pS.2.2 ?_) (meth_eq (by rfl) (by simp) hp rfl)
  refine inst_meth G.y (G.x.keeps S1.ok.keep) (S1.ok.keep _ _ G.fx.lx) gd G.fR1 G.fR2 (by kernel_rfl) ?_
  obtain ⟨o,fd,f1,f2⟩:=G.fn
  refine callWith_G (es:=[]) (ds:=[]) (Kp.fn f1 f2) trivial R S1 fun s₂ vs x2 i2=>?_
  cases i2
  have X2:=X1.ext G.toGE x2
  refine wpAny_call (codeAny_mono (G.rc st A s₂ R (S1.ext x2).ok X2.mu) fun r s₃ hZ2=>?_); obtain ⟨tv,e,K3,k3,M3⟩:=hZ2
  subst e
  cases hrs:st.rest with
  | nil=>exact absurd hrs (hne hx92)
  | cons y r =>
   have hrc:readc st = ([y],{ rest:=r,line:=st.line + nl y,pb:=st.pb }):=by unfold readc nl; rw [hrs]
   rw [hrc] at M3 ⊢
   have hz:=X2.sz
   rw [hrs,List.length_cons] at hz
   have X3:=X2.moved G.toGE K3 k3 M3 (by show tok.length + r.length <= _; omega)
   exact X3.store G hc (.inr ⟨_,rfl⟩) fun s₄ X4=>hκ _ _ (wpAny_execs_nil (h2 y r s₄ hx92 hrs X4))
 ·rw [decide_eq_false hx92] at e
  subst e
  exact wpAny_execs_nil (h1 s₁ hx92 X1)
theorem Op2.iaddS {a b:Str} (h:a.length + b.length <= 16777216):Op2 C (inplaceOp .Add) (.str a) (.str b) (.str (a ++ b)):=by
 intro Z A s va vb R K z ia ib; cases ia; cases ib; exact iadd_str (fun t' tk=>⟨.tok K,.str _ _⟩) (by rw [sizeLine_eq]; exact h)
theorem str_snoc (tok:List Nat) (x:Nat):((⟨tok.toArray⟩:Str) ++ (⟨#[x]⟩:Str)) = ⟨(tok ++ [x]).toArray⟩:=by
 show (⟨tok.toArray ++ #[x]⟩:Str) = _
 simp
theorem GT.aug {tok:List Nat} {x:Nat} {yt:Str} {e:Expr} {p1 p2:Pos} {ss:List Stmt} {Q:Flow -> Shared -> Prop} (G:GC C K B U env L c fR I m sc k) (ht:vr sc 1 yt = true) (he:repE nmB sc (.var 3) e = true) (R:Room k A) (X:GT C B U env L fR I m t tok (.d (.str ⟨#[x]⟩)) st s) (hz:tok.length + 1 + st.rest.length <= L.txt.length)
  (h:∀ s',GT C B U env L fR I m t (tok ++ [x]) (.d (.str ⟨#[x]⟩)) st s' -> wpAny C.M A (execs ss env) Q nf s'):wpAny C.M A (execs (.AugAssign (.Name yt p1) .Add e p2 :: ss) env) Q nf s:=by
 obtain ⟨O,S⟩:=X.sim
 have pt:=vr_var G.at_ ht
 have hl:=G.fx.len
 refine stepK fun κ hκ=>(wpAny_AugAssign_Name (wpT (S.loadName (i:=1) (d:=.str ⟨tok.toArray⟩) pt.1 rfl) fun va s₁ ⟨x1,i1⟩=>wpT (evE_s (G.b.gd k) (.var 3) G.at_ he (d:=.str ⟨#[x]⟩) (σ:=gtV L I tok (.d (.str ⟨#[x]⟩))) rfl B U O A s₁ R (S.ext x1)) fun vb s₂ hZ2=>?_)); obtain ⟨x2,i2⟩:=hZ2
 have S2:=(S.ext x1).ext x2
 have hlen:(⟨tok.toArray⟩:Str).length + (⟨#[x]⟩:Str).length <= 16777216:=by
  show tok.toArray.size + 1 <= _; simp; omega
 refine wpT (Op2.iaddS hlen _ A s₂ va vb R.zero S2.ok S2.zok (i1.ext x2 S.zt) i2) fun v s₃ hZ2=>?_; obtain ⟨x3,i3⟩:=hZ2
 rw [str_snoc] at i3
 have X3:=((X.ext G.toGE x1).ext G.toGE x2).ext G.toGE x3
 have S3:=S2.ext x3
 have hst:IsSto env.scope (gtV L I tok (.d (.str ⟨#[x]⟩))) yt 1:=G.at_.isSto (stoB_val G.ks ht (by rfl))
 refine S3.store hst i3 fun s₄ S4 kb=>hκ _ _ (h s₄ ⟨⟨O,S4⟩,X3.mu.kept fun b hb o g=>kb b o (S3.uo (G.ul b hb)) g,kb _ _ (S3.uo G.ui) X3.it,kb _ _ (S3.uo G.um) X3.me,?_⟩)
 rw [List.length_append,List.length_singleton]
 exact hz
end
end
section
section
variable {C:Cx} {B:Base} {U:Addr -> Prop} {O:Own} {env:Env} {σ σ':Vars} {s s' s₁:Shared} {k:Nat} {A:Around} {h:Heap} {K:Frag} {c:Addr} {L:LexA} {st:LexSt} {fR I m:Addr} {t:Tok} {sc:Scope}
noncomputable def GEnd (C:Cx) (B:Base) (U:Addr -> Prop) (env:Env) (L:LexA) (w:List Nat) (st':LexSt) (f:Flow) (s':Shared):Prop :=
 match f with
 | .ret v=>∃ tv O σ,v = .str ⟨w.toArray⟩ tv /\ SimO C B U O env σ s' /\ LexMut L st' s'.heap
 | _=>False
theorem GT.ret {tok:List Nat} {ch:AV} {e:Expr} {p:Pos} (G:GC C K B U env L c fR I m sc k) (he:repE nmB sc (.var 1) e = true) (R:Room k A) (X:GT C B U env L fR I m t tok ch st s) {ss:List Stmt}:wpAny C.M A (execs (.Return (some e) p :: ss) env) (GEnd C B U env L tok st) nf s:=by
 obtain ⟨O,S⟩:=X.sim
 refine wpAny_execs_cons (wpAny_Return_some (wpT (evE_s (G.b.gd k) (.var 1) G.at_ he (d:=.str ⟨tok.toArray⟩) (σ:=gtV L I tok ch) rfl B U O A s R S) fun v s₁ hZ2=>?_)); obtain ⟨x1,i1⟩:=hZ2
 replace i1:=i1.iStr; obtain ⟨t1,hqq⟩:=i1; cases hqq
 exact ⟨t1,O,_,rfl,S.ext x1,X.mu.ext x1 S.ok⟩
theorem gt_quoted {yc yf yc2 yS yt:Str} {p1 p2 pos r1 r2 r3 r4 r5 r6 r7 r8 r9 rA:Pos} {ct ct2 et ec:Expr} (G:GC C K B U env L c fR I m sc k) (R:Room (k + 1) A)
  (hr:(vr sc 2 yf && vr sc 3 yc && vr sc 3 yc2 && vr sc 0 yS && vr sc 1 yt && repT nmB sc (.cmp .Eq (.var 3) (.str ⟨#[34]⟩)) ct && repT nmB sc (.cmp .Eq (.var 3) (.str ⟨#[92]⟩)) ct2 && repE nmB sc (.var 1) et && repE nmB sc (.var 3) ec && r4.endLine == r5.line) = true)
  {tok:List Nat} {ch:AV} (X:GT C B U env L fR I m t tok ch st s) (hch:chOkA ch) {w rest:List Nat} {line:Int} (hs:scanQ st.rest st.line tok = some (w,rest,line)) :
  wpAny C.M A (exec (.For (.Name yc p1) (.Name yf p2) [.If ct [.Return (some et) r1] [.If ct2 [.Assign [.Name yc2 r2] (.Call (.Attribute (.Name yS r3) "_read_char" r4) [] [] r5) r6] [] r7] r8,.AugAssign (.Name yt r9) .Add ec rA] [] pos) env) (GEnd C B U env L w ⟨rest,line,st.pb⟩) nf s:=by
 refine and10 hr fun h1 h2 h3 h4 h5 h6 h7 h8 h9 hA=>?_
 have Rk:Room k A:=R.le (by omega)
 refine gt_for (fun tok' st'=>scanQ st'.rest st'.line tok' = some (w,rest,line) /\ st'.pb = st.pb) G R h1 h2 (fun κ tok' x r l pb s' hκ ⟨hi,hpb⟩ hx hz X'=>?_) (fun tok' st' s' hnil ⟨hi,hpb⟩ _ _=>?_) X ⟨hs,rfl⟩ hch
 ·dsimp only at hpb hi
  subst hpb
  refine stepK fun κ1 hκ1=>wpAny_If (wpT (X'.eqT G h6 hx (by kernel_rfl) Rk) fun b s₁ hZ2=>?_); obtain ⟨X1,e⟩:=hZ2
  by_cases hq:x = 34
  ·rw [decide_eq_true hq] at e
   subst e
   have e1:w = tok' /\ rest = r /\ line = l + nl x:=by
    cases r with
    | nil=>simp only [scanQ,hq,if_true,Option.some.injEq,Prod.mk.injEq] at hi; exact ⟨hi.1.symm,hi.2.1.symm,by rw [hq]; exact hi.2.2.symm⟩
    | cons d r2=>simp only [scanQ,hq,if_true,Option.some.injEq,Prod.mk.injEq] at hi; exact ⟨hi.1.symm,hi.2.1.symm,by rw [hq]; exact hi.2.2.symm⟩
   obtain ⟨rfl,rfl,rfl⟩:=e1
   refine wpAny_mono (X1.ret G h8 Rk) (fun f s2 hf=>hκ1 _ _ ?_) fun _ _ e=>e
   cases f <;> first | exact hκ _ _ hf | exact hf.elim
  ·rw [decide_eq_false hq] at e
   subst e
   cases r with
   | nil=>simp only [scanQ,if_neg hq] at hi; cases hi
   | cons d r2 =>
    simp only [scanQ,if_neg hq] at hi
    refine stepK fun κ2 hκ2=>X1.esc G h7 h3 h4 hA hx Rk (fun _=>by simp) (fun s₂ hne X2=>hκ2 _ _ ?_) fun y r' s₂ he hrs X2=>hκ2 _ _ ?_
    ·rw [if_neg hne] at hi
     refine wpAny_execs_nil (hκ1 _ _ <| X2.aug G h5 h9 Rk (by show tok'.length + 1 + (d :: r2).length <= _; omega) fun s₃ X3=>wpAny_execs_nil <| hκ _ _ ⟨_,_,_,Nat.le_refl _,X3,⟨hi,rfl⟩,.inr ⟨_,rfl⟩⟩)
    ·rw [if_pos he] at hi
     cases hrs
     rw [List.length_cons] at hz
     refine wpAny_execs_nil (hκ1 _ _ <| X2.aug G h5 h9 Rk (by show tok'.length + 1 + r2.length <= _; omega) fun s₃ X3=>wpAny_execs_nil <| hκ _ _ ⟨_,_,_,by show r2.length <= (d :: r2).length; simp,X3,⟨hi,rfl⟩,.inr ⟨_,rfl⟩⟩)
 ·rw [hnil] at hi
  simp only [scanQ] at hi
  cases hi
theorem gt_word {yc yf yc2 yc3 yS yS2 yt:Str} {p1 p2 pos r0 rb rc rd r1 r2 r3 r4 r5 r6 r7 r8 r9 rA:Pos} {ct2 et ec:Expr} (G:GC C K B U env L c fR I m sc k) (R:Room (k + 1) A)
  (hr:(vr sc 2 yf && vr sc 3 yc && vr sc 3 yc2 && vr sc 0 yS && vr sc 1 yt && vr sc 3 yc3 && vr sc 0 yS2 && repT nmB sc (.cmp .Eq (.var 3) (.str ⟨#[92]⟩)) ct2 && repE nmB sc (.var 1) et && repE nmB sc (.var 3) ec && r4.endLine == r5.line) = true)
  {tok:List Nat} {ch:AV} (X:GT C B U env L fR I m t tok ch st s) (hch:chOkA ch) {w rest:List Nat} {line:Int} (hs:scanW st.rest st.line tok = some (w,rest,line)) :
  wpAny C.M A (exec (.For (.Name yc p1) (.Name yf p2) [.If (.Compare (.Name yc3 r0) [.In] [.Attribute (.Name yS2 rb) "whitespace" rc] rd) [.Return (some et) r1] [.If ct2 [.Assign [.Name yc2 r2] (.Call (.Attribute (.Name yS r3) "_read_char" r4) [] [] r5) r6] [] r7] r8,.AugAssign (.Name yt r9) .Add ec rA] [] pos) env) (GEnd C B U env L w ⟨rest,line,st.pb⟩) nf s:=by
 refine and11 hr fun h1 h2 h3 h4 h5 h6 h6b h7 h8 h9 hA=>?_
 have Rk:Room k A:=R.le (by omega)
 refine gt_for (fun tok' st'=>scanW st'.rest st'.line tok' = some (w,rest,line) /\ st'.pb = st.pb) G R h1 h2 (fun κ tok' x r l pb s' hκ ⟨hi,hpb⟩ hx hz X'=>?_) (fun tok' st' s' hnil ⟨hi,hpb⟩ _ _=>?_) X ⟨hs,rfl⟩ hch
 ·dsimp only at hpb hi
  subst hpb
  refine stepK fun κ1 hκ1=>wpAny_If (wpT (X'.wsT G h6 h6b Rk) fun b s₁ hZ2=>?_); obtain ⟨X1,e⟩:=hZ2
  by_cases hq:isWs x = true
  ·rw [hq] at e
   subst e
   have e1:w = tok' /\ rest = r /\ line = l + nl x:=by
    cases r with
    | nil=>simp only [scanW,hq,if_true,Option.some.injEq,Prod.mk.injEq] at hi; exact ⟨hi.1.symm,hi.2.1.symm,hi.2.2.symm⟩
    | cons d r2=>simp only [scanW,hq,if_true,Option.some.injEq,Prod.mk.injEq] at hi; exact ⟨hi.1.symm,hi.2.1.symm,hi.2.2.symm⟩
   obtain ⟨rfl,rfl,rfl⟩:=e1
   refine wpAny_mono (X1.ret G h8 Rk) (fun f s2 hf=>hκ1 _ _ ?_) fun _ _ e=>e
   cases f <;> first | exact hκ _ _ hf | exact hf.elim
  ·have hq':isWs x = false:=by simpa using hq
   rw [hq'] at e
   subst e
   cases r with
   | nil=>simp only [scanW,hq',Bool.false_eq_true,if_false] at hi; cases hi
   | cons d r2 =>
    simp only [scanW,hq',Bool.false_eq_true,if_false] at hi
    refine stepK fun κ2 hκ2=>X1.esc G h7 h3 h4 hA hx Rk (fun _=>by simp) (fun s₂ hne X2=>hκ2 _ _ ?_) fun y r' s₂ he hrs X2=>hκ2 _ _ ?_
    ·rw [if_neg hne] at hi
     refine wpAny_execs_nil (hκ1 _ _ <| X2.aug G h5 h9 Rk (by show tok'.length + 1 + (d :: r2).length <= _; omega) fun s₃ X3=>wpAny_execs_nil <| hκ _ _ ⟨_,_,_,Nat.le_refl _,X3,⟨hi,rfl⟩,.inr ⟨_,rfl⟩⟩)
    ·rw [if_pos he] at hi
     cases hrs
     rw [List.length_cons] at hz
     refine wpAny_execs_nil (hκ1 _ _ <| X2.aug G h5 h9 Rk (by show tok'.length + 1 + r2.length <= _; omega) fun s₃ X3=>wpAny_execs_nil <| hκ _ _ ⟨_,_,_,by show r2.length <= (d :: r2).length; simp,X3,⟨hi,rfl⟩,.inr ⟨_,rfl⟩⟩)
 ·rw [hnil] at hi
  simp only [scanW] at hi
  cases hi
end
end
section
section
variable {C:Cx} {B:Base} {U:Addr -> Prop} {O:Own} {env:Env} {σ σ':Vars} {s s' s₁:Shared} {k:Nat} {A:Around} {h:Heap} {K:Frag} {c:Addr} {L:LexA} {st:LexSt} {fR I m:Addr} {t:Tok} {sc:Scope}
noncomputable def GOut (C:Cx) (B:Base) (U:Addr -> Prop) (env:Env) (L:LexA) (I:Addr) (w:List Nat) (st':LexSt) (f:Flow) (s':Shared):Prop :=
 match f with
 | .next=>w = [] /\ (∃ O ch,SimO C B U O env (gtV L I [] ch) s') /\ LexMut L st' s'.heap
 | f=>GEnd C B U env L w st' f s'
theorem gt_outer {yc yf yc0 yS0 yc2 yS yt:Str} {p1 p2 pos r0 rb rc rd rC re r2 r3 r4 r5 r6 r7 r8 r9 rA posQ:Pos} {ct ct2 ec:Expr} {ForQ ForW:Stmt} (G:GC C K B U env L c fR I m sc k) (R:Room (k + 1) A)
  (hQ:∀ {tok:List Nat} {ch:AV} {st:LexSt} {s:Shared},GT C B U env L fR I m t tok ch st s -> chOkA ch -> ∀ {w rest:List Nat} {line:Int},scanQ st.rest st.line tok = some (w,rest,line) -> wpAny C.M A (exec ForQ env) (GEnd C B U env L w ⟨rest,line,st.pb⟩) nf s)
  (hW:∀ {tok:List Nat} {ch:AV} {st:LexSt} {s:Shared},GT C B U env L fR I m t tok ch st s -> chOkA ch -> ∀ {w rest:List Nat} {line:Int},scanW st.rest st.line tok = some (w,rest,line) -> wpAny C.M A (exec ForW env) (GEnd C B U env L w ⟨rest,line,st.pb⟩) nf s)
  (hr:(vr sc 2 yf && vr sc 3 yc && vr sc 3 yc0 && vr sc 0 yS0 && vr sc 3 yc2 && vr sc 0 yS && vr sc 1 yt && repT nmB sc (.cmp .Eq (.var 3) (.str ⟨#[34]⟩)) ct && repT nmB sc (.cmp .Eq (.var 3) (.str ⟨#[92]⟩)) ct2 && repE nmB sc (.var 3) ec && r4.endLine == r5.line) = true)
  {ch:AV} (X:GT C B U env L fR I m t [] ch st s) (hch:chOkA ch) {w rest:List Nat} {line:Int} (hs:scanO st.rest st.line = some (w,rest,line)) :
  wpAny C.M A (exec (.For (.Name yc p1) (.Name yf p2) [.If (.Compare (.Name yc0 r0) [.In] [.Attribute (.Name yS0 rb) "whitespace" rc] rd) [.Continue rC] [] re,
   .If ct [ForQ] [.If ct2 [.Assign [.Name yc2 r2] (.Call (.Attribute (.Name yS r3) "_read_char" r4) [] [] r5) r6] [] r7,.AugAssign (.Name yt r9) .Add ec rA,ForW] r8] [] pos) env) (GOut C B U env L I w ⟨rest,line,st.pb⟩) nf s:=by
 refine and11 hr fun h1 h2 h3 h4 h5 h6 h7 h8 h9 h10 hA=>?_
 have Rk:Room k A:=R.le (by omega)
 refine gt_for (fun tok' st'=>(tok' = [] /\ scanO st'.rest st'.line = some (w,rest,line)) /\ st'.pb = st.pb) G R h1 h2 (fun κ tok' x r l pb s' hκ ⟨⟨ht,hi⟩,hpb⟩ hx hz X'=>?_) (fun tok' st' s' hnil ⟨⟨ht,hi⟩,hpb⟩ hS hM=>?_) X ⟨⟨rfl,hs⟩,rfl⟩ hch
 ·dsimp only at hpb hi
  subst hpb ht
  refine stepK fun κ1 hκ1=>wpAny_If (wpT (X'.wsT G h3 h4 Rk) fun b s₁ hZ2=>?_); obtain ⟨X1,e⟩:=hZ2
  by_cases hq:isWs x = true
  ·rw [hq] at e
   subst e
   simp only [scanO,hq,if_true] at hi
   refine stepK fun κ2 hκ2=>(show wpAny _ _ (do standAt rC; pure Flow.cont) _ _ _ from wpAny_bind (wpAny_standAt (wpAny_pure ?_)))
   exact hκ2 _ _ (hκ1 _ _ (hκ _ _ ⟨_,_,_,Nat.le_refl _,X1,⟨⟨rfl,hi⟩,rfl⟩,.inr ⟨_,rfl⟩⟩))
  ·have hq':isWs x = false:=by simpa using hq
   rw [hq'] at e
   subst e
   simp only [scanO,hq',Bool.false_eq_true,if_false] at hi
   refine wpAny_execs_nil (hκ1 _ _ <| stepK fun κ2 hκ2=>(wpAny_If (wpT (X1.eqT G h8 hx (by kernel_rfl) Rk) fun b s₂ hZ2=>?_))); obtain ⟨X2,e⟩:=hZ2
   by_cases h34:x = 34
   ·rw [decide_eq_true h34] at e
    subst e
    rw [if_pos h34] at hi
    refine stepK fun κ3 hκ3=>(wpT (hQ X2 (.inr ⟨_,rfl⟩) hi) fun f s3 hf=>hκ3 _ _ ?_)
    cases f <;> first | exact hf.elim | exact hκ2 _ _ (hκ _ _ hf)
   ·rw [decide_eq_false h34] at e
    subst e
    rw [if_neg h34] at hi
    by_cases h92:x = 92
    ·rw [if_pos h92] at hi
     cases r with
     | nil=>cases hi
     | cons d r2 =>
      dsimp only at hi
      rw [List.length_cons] at hz
      refine stepK fun κ3 hκ3=>(X2.esc G h9 h5 h6 hA hx Rk (fun _=>by simp) (fun s₃ hne X3=>absurd h92 hne) fun y r' s₃ he hrs X3=>hκ3 _ _ ?_)
      cases hrs
      refine X3.aug G h7 h10 Rk (by show 0 + 1 + r2.length <= _; simp only [List.length_nil] at hz; omega) fun s₄ X4=>?_
      refine stepK fun κ4 hκ4=>(wpT (hW X4 (.inr ⟨_,rfl⟩) hi) fun f s3 hf=>hκ4 _ _ ?_)
      cases f <;> first | exact hf.elim | exact hκ2 _ _ (hκ _ _ hf)
    ·rw [if_neg h92] at hi
     cases r with
     | nil=>simp only [scanW] at hi; cases hi
     | cons d r2 =>
      rw [List.length_cons] at hz
      refine stepK fun κ3 hκ3=>(X2.esc G h9 h5 h6 hA hx Rk (fun _=>by simp) (fun s₃ hne X3=>hκ3 _ _ ?_) fun y r' s₃ he hrs X3=>absurd he h92)
      refine X3.aug G h7 h10 Rk (by show 0 + 1 + (d :: r2).length <= _; simp only [List.length_nil,List.length_cons] at hz ⊢; omega) fun s₄ X4=>?_
      refine stepK fun κ4 hκ4=>(wpT (hW X4 (.inr ⟨_,rfl⟩) hi) fun f s3 hf=>hκ4 _ _ ?_)
      cases f <;> first | exact hf.elim | exact hκ2 _ _ (hκ _ _ hf)
 ·subst ht
  obtain ⟨rr,ll,pp⟩:=st'
  dsimp only at hnil hi hpb
  subst hnil hpb
  simp only [scanO,Option.some.injEq,Prod.mk.injEq] at hi
  obtain ⟨rfl,rfl,rfl⟩:=hi
  exact ⟨rfl,hS,hM⟩
end
end
section
theorem kind_iter:builtinKind "iter" = none:=by decide +kernel
theorem plain_iter:plainId "iter" = true:=by decide +kernel
theorem entry_iter:entryFor table "iter" = some Builtin.«iter»:=entryFor_of_tree (by kernel_rfl)
theorem args_iter_2 (a b:Value):argsOk "iter" ⟨[a,b],[]⟩:=by unfold argsOk; kernel_rfl
theorem meth_callable:typeLookup (.type "method") "__call__" = pure (some (.builtin "method.__call__")):=by rw [typeLookup_type,builtinLookup_eq_fast]; kernel_rfl
section
variable {prog:Program} {w:World} {A:Around} {E:Value -> Shared -> Prop} {s:Shared} {m:Addr} {t:Tok}
theorem ci_make {g self:Value} {Q:Value -> Shared -> Prop} (hm:s.heap.get? m = some (methodObj g self)) (h:Q (.ref s.heap.objs.size) { s with heap:=s.heap.push (ciObj m t) }):wpAny (model prog w) A (call (.builtin "iter") [.ref m,.str "" t]) Q E s:=by
 have hT:s.TypeIs (.ref m) "method":=⟨_,hm,rfl⟩
 refine Calls.call_function_entry kind_iter plain_iter entry_iter (args_iter_2 _ _) ?_
 unfold Builtin.«iter»
 refine wpAny_bind (wpAny_of_eq (a:=[.ref m,.str "" t]) (by first | rfl | kernel_rfl) ?_)
 dsimp only
 refine wpAny_bind (wpAny_specialOf hT meth_callable ?_)
 show wpAny _ _ (rule _ >>= _) _ _ _
 refine wpAny_bind (wpAny_rule (wpAny_bind ?_))
 unfold newFields
 refine wpAny_newObj_type ?_ (by size_fits)
 exact wpAny_pure ⟨_,rfl,h⟩
end
section
variable {C:Cx} {B:Base} {U:Addr -> Prop} {O:Own} {env:Env} {σ σ':Vars} {s s' s₁:Shared} {k:Nat} {A:Around} {h:Heap} {K:Frag} {c:Addr} {L:LexA} {st:LexSt} {fR I m:Addr} {t:Tok} {sc:Scope}
noncomputable def LexT (C:Cx) (k:Nat) (L:LexA) (f:Addr) (st:LexSt) (x:Str) (st':LexSt):Prop :=
 ∀ (A:Around) (s:Shared),Room k A -> OK C s -> LexMut L st s.heap -> codeAny C.M A (.call (.ref f) ⟨[.ref L.lx],[]⟩) (fun r s'=>∃ tv,r = .ok (.ret (.str x tv)) /\ OK C s' /\ LKeep C L s s' /\ LexMut L st' s'.heap) s
theorem strs_isds {Z:Addr -> Prop} {h:Heap} {vs:List Value} {ys:List Str} (x:StrsAre vs ys):IsDs C Z h vs (ys.map .str):=by
 induction x with
 | nil=>exact .nil
 | cons _ _ _ ih=>exact .cons (.str _ _) ih
theorem bound_get {y:Str} {i:Nat} {p1 p2:Pos} {Q:Value -> Shared -> Prop} (Y:ClsOk K c lexNames) (X:K.In C.h0) (FX:LexFix C c L) (S:SimO C B U O env σ s) (hy:IsVar env.scope y i) (hs:σ[i]? = some (.val (.ref L.lx))) (h1:(y == ("__debug__":Str)) = false) (h2:(y == ("__classdict__":Str)) = false)
  {es:List DictEntry} {n:Nat} (hd:s.heap.get? L.dx = some (dictOf es n)) (hf1:findIn K (.ref c) "_read_char" = some (some (.ref fR))) (hf2:isFn K (.ref fR) = true) (hg:specialIn K (.ref fR) "__get__" = some (some (.builtin "function.__get__"))) (ht:takesIn K (.ref fR) = some false) (hl:getL "_read_char" es = some none)
  (h:Q (.ref s.heap.objs.size) { s with heap:=s.heap.push (methodObj (.ref fR) (.ref L.lx)),toks:=s.toks + 1 }):wpAny C.M A (eval (.Attribute (.Name y p1) "_read_char" p2) env) Q nf s:=by
 refine Attribute_any_ (S.loadVal (kk:=0) hy hs h1 h2 ?_) (by with_unfolding_all rfl)
 have X':K.In s.heap:=X.keeps S.ok.keep
 exact get_bind X' (inst_at (S.ok.keep _ _ FX.lx) hd) (plainGet_of (name:="") Y.pg).1 (findObj_fn Y.hd hf1 hg ht (by decide +kernel) (by show lookIn _ (dictOf es n) = _; rw [lookIn_dict,hl])) (plainGet_of (name:="") Y.pg).2
  (wpAny_call (fn_get (s:={ s with toks:=s.toks + 1 }) X' (beq_iff_eq.mp hf2) (handed_on rfl h)))
set_option tactic.hygienic true in
theorem gtk_spec {f:Addr} {fd:FuncData} {yS1 yS2 yt yf yS3 yS4:Str} {q1 q2 q3 q4 q5 q8 q9 q10 q11 q14 q15 q16 q17 q18 q20 q21 q22 q97:Pos} {c19:Nat} {e7 e13 e96:Expr} {ForO:Stmt}
  (F:FnOk C f fd [.If (.Attribute (.Name yS1 q1) "pushback" q2) [.Return (some (.Call (.Attribute (.Attribute (.Name yS2 q3) "pushback" q4) "pop" q5) [e7] [] q8)) q9] [] q10,.Assign [(.Name yt q11)] e13 q14,
   .Assign [(.Name yf q15)] (.Call (.Name "iter" q16) [(.Attribute (.Name yS3 q17) "_read_char" q18),(.Constant (.str "") c19 q20)] [] q21) q22,ForO,.Return (some e96) q97] 1)
  (Bq:Bs C) (Y:ClsOk K c lexNames) (X:K.In C.h0) (hks:fd.scope.names.map (·.2) = gtKs) (hiter:GV C "iter" (.builtin "iter")) (hig:gl fd.scope "iter" = true)
  (hr:(vr fd.scope 0 yS1 && vr fd.scope 0 yS2 && vr fd.scope 0 yS3 && vr fd.scope 1 yt && vr fd.scope 2 yf && repE nmB fd.scope (.int 0) e7 && repE nmB fd.scope (.str "") e13 && notComp e13 && repE nmB fd.scope (.var 1) e96 && !isStarred e7 && q5.endLine == q8.line) = true)
  (FX:LexFix C c L) (hqn:∀ P a b,C.qn P a b ≠ "") (hf1:findIn K (.ref c) "_read_char" = some (some (.ref fR))) (hf2:isFn K (.ref fR) = true) (hg:specialIn K (.ref fR) "__get__" = some (some (.builtin "function.__get__"))) (ht:takesIn K (.ref fR) = some false)
  (hRC:∀ st,LexM C k L fR st (readc st).1 (readc st).2) (hfn:∃ o fd,C.h0.get? fR = some o /\ o.data = .func fd)
  (hO:∀ {B:Base} {U:Addr -> Prop} {env:Env} {I m:Addr} {t:Tok} {A:Around} {ch:AV} {st:LexSt} {s:Shared},GC C K B U env L c fR I m fd.scope k -> Room (k + 1) A -> GT C B U env L fR I m t [] ch st s -> chOkA ch -> ∀ {w rest:List Nat} {line:Int},scanO st.rest st.line = some (w,rest,line) ->
   wpAny C.M A (exec ForO env) (GOut C B U env L I w ⟨rest,line,st.pb⟩) nf s)
  {st:LexSt} {x:Str} {st':LexSt} (hpb:st.pb.length <= 1000) (htok:tokF st = some (x,st')):LexT C (k + 2) L f st x st':=by
 intro A s R Ks M
 refine and11 hr fun r1 r2 r3 r4 r5 r6 r7 r8 r9 r10 r11=>?_
 let Z:Addr -> Prop:=fun b=>b ∈ C.T \/ LMut L b
 have z:ZOk C Z s:=⟨fun b hb=>.inl hb,fun b hb=>hb.elim (fun q=>by obtain ⟨ps,g,_⟩:=Ks.tab b q; exact ⟨_,g⟩) M.ex⟩
 refine fn_enter F (Z:=Z) (P:=LMut L) R Ks z rfl [.val (.ref L.lx)] rfl (fun j v av e1 e2=>?_) fun env s₁ B O hA hE hcq x1 R1 S hB hPB hO'=>?_
 ·match j with
  | 0=>cases e1; cases e2; exact .inl rfl
  | j + 1=>cases e1
 rw [hks] at S
 have R0:Room k (A.deeper env):=R1.le (by omega)
 have M1:=M.ext x1 Ks
 have p1:=vr_var hA r1
 have p2:=vr_var hA r2
 have p3:=vr_var hA r3
 obtain ⟨⟨enn,gd⟩,⟨pvs,pl1,pl2⟩,n,ta,al1,al2,al3⟩:=id M1
 have pdat:IsD C (fun b=>b ∈ C.T) s₁.heap (.ref L.pl) (.lst (st.pb.map .str)):=.lst _ _ _ pl1 (M1.plT S.ok) (strs_isds pl2)
 refine genQ fun κ0 hκ0=>stepK fun κ hκ=>wpAny_If (isTrue_plain (lex_attr (v:=.ref L.pl) Y X FX S p1.1 (i:=0) rfl p1.2.1 p1.2.2 gd (by decide) (by kernel_rfl) rfl ?_) (by with_unfolding_all rfl))
 have xa:Ext C s₁ { s₁ with toks:=s₁.toks + 1 }:=.tok S.ok
 refine wpT (tru1_sound (C:=C) (a:=.lst (st.pb.map .str)) (t:=!(st.pb.map D.str).isEmpty) (by simp only [tru1]; rw [if_pos (by rw [List.length_map]; omega)]) (fun b=>b ∈ C.T) _ _ (.ref L.pl) R1.zero (S.ext xa).ok ⟨fun b hb=>hb,fun b hb=>(S.ext xa).lt b (S.zt b hb)⟩ pdat) fun bb s₂ hZ2=>?_; obtain ⟨x2,e2⟩:=hZ2
 have S2:=(S.ext xa).ext x2
 have M2:=(M1.ext xa S.ok).ext x2 (S.ext xa).ok
 cases hpbs:st.pb with
 | cons w ws =>
  rw [hpbs] at e2
  have e2':bb = true:=e2
  subst e2'
  have etok:x = w /\ st' = { rest:=st.rest,line:=st.line,pb:=ws }:=by
   unfold tokF at htok
   rw [hpbs] at htok
   simp only [Option.some.injEq,Prod.mk.injEq] at htok
   exact ⟨htok.1.symm,htok.2.symm⟩
  obtain ⟨rfl,rfl⟩:=etok
  obtain ⟨⟨en2,gd2⟩,⟨pvs2,pl12,pl22⟩,n22,ta2,al12,al22,al32⟩:=id M2
  rw [hpbs] at pl22
  cases pl22 with
  | cons _ tw0 pr =>
  rename_i prest
  have hst:isStarred e7 = false:=by simpa using r10
  have eA:EvL C k env (initA gtKs [.val (.ref L.lx)]) [e7] [.int 0]:=⟨⟨evE_s (Bq.gd _) (.int 0) hA r6 rfl,hst⟩,trivial⟩
  refine stepK fun κ1 hκ1=>wpAny_Return_some ?_
  refine MethodCall_ (lex_attr (v:=.ref L.pl) Y X FX S2 p2.1 (i:=0) rfl p2.2.1 p2.2.2 gd2 (by decide) (by kernel_rfl) rfl ?_) (meth_eq (by rfl) (by simp) r11 (EvL.stars eA))
  have xb:Ext C s₂ { s₂ with toks:=s₂.toks + 1 }:=.tok S2.ok
  have S3:=S2.ext xb
  refine getM_list (C:=C) (s:={ s₂ with toks:=s₂.toks + 1 }) pl12 PySem.F.slot_list_pop PySem.F.type_list_pop ?_
  refine callWith_G Kp.builtin eA R0 S3 fun s₃ vs x3 i3=>?_
  replace i3:=i3.iCons; obtain ⟨_,_,hqq,i31,i32⟩:=i3; cases hqq
  cases i32.iNil
  replace i31:=i31.iInt; obtain ⟨t0,hqq⟩:=i31; cases hqq
  have M3:=(M2.ext xb S2.ok).ext x3 S3.ok
  have S4:=S3.ext x3
  have plT:=M2.plT S2.ok
  have pl13:=pl12.kept fun o g=>x3.keep _ _ plT g
  have hlen:prest.length <= 1000:=by
   have h1:=strs_isds (C:=C) (Z:=fun _=>False) (h:=s₂.heap) pr
   have:=h1.length
   rw [List.length_map] at this
   rw [hpbs] at hpb
   simp at hpb
   omega
  refine pop0_lst pl13 (by omega) fun h' l' hb'=>?_
  have hk':∀ b o,b ≠ L.pl -> s₃.heap.get? b = some o -> h'.get? b = some o:=fun b o nb g=>(hb'.2 b nb).trans g
  obtain ⟨n13,g13⟩:=pl13
  have K5:OK C { s₃ with heap:=h' }:=S4.ok.but (dr:=s₃.drawn) (tk:=s₃.toks) FX.p0 plT g13 (fun vs q=>by cases q) hk'
  refine hκ1 _ _ (hκ _ _ (hκ0 _ _ ?_))
  refine ⟨tw0,rfl,K5,fun b o nT nm g=>?_,?_⟩
  ·exact hk' b o (fun q=>nm (.inr (.inl q))) (x3.keep b o nT (xb.keep b o nT (x2.keep b o nT (xa.keep b o nT (x1.keep b o nT g)))))
  ·obtain ⟨⟨en2,gd3⟩,_,n33,ta3,al13,al23,al33⟩:=M3
   exact ⟨⟨en2,hk' _ _ FX.ne1 gd3⟩,⟨_,l',pr⟩,n33,ta3,al13.kept fun o g=>hk' _ _ (Ne.symm FX.ne3) g,al23,al33⟩
 | nil =>
  rw [hpbs] at e2
  have e2':bb = false:=e2
  subst e2'
  refine wpAny_execs_nil (hκ _ _ ?_)
  clear hκ κ
  have eT:=evE_s (Bq.gd k) (.str "") hA r7 (d:=.str "") (σ:=initA gtKs [.val (.ref L.lx)]) rfl
  refine stepK fun κ hκ=>wpAny_Assign_Name (wpT (eT B Z O _ s₂ R0 S2) fun v s₃ hZ2=>?_) (swaps_no (t:=none) r8); obtain ⟨x3,i3⟩:=hZ2
  have S3:=S2.ext x3
  have M3:=M2.ext x3 S2.ok
  refine S3.store (x:=yt) (i:=1) (hA.isSto (stoB_val hks r4 (by rfl))) i3 fun s₄ S4 kb4=>hκ _ _ ?_
  clear hκ κ
  have M4:LexMut L st s₄.heap:=M3.kept fun b hb o g=>kb4 b o (S3.uo (.inr hb)) g
  obtain ⟨⟨en2,gd4⟩,_⟩:=id M4
  refine stepK fun κ hκ=>(wpAny_Assign_Name ?_ (swaps_no (t:=none) (e:=.Call (.Name "iter" q16) [(.Attribute (.Name yS3 q17) "_read_char" q18),(.Constant (.str "") c19 q20)] [] q21) rfl))
  show wpAny _ _ (do callWith q21 (<- eval (.Name "iter" q16) env) [] (backTo q21 (starEach [(.Attribute (.Name yS3 q17) "_read_char" q18),(.Constant (.str "") c19 q20)] env)) []) _ _ _
  refine wpAny_bind (wpT (GV.ev (k:=k) hiter (gl_glob hA hig) B Z O _ s₄ R0 S4) fun fv s₅ hZ2=>?_); obtain ⟨x5,e5⟩:=hZ2
  subst e5
  have S5:=S4.ext x5
  have M5:=M4.ext x5 S4.ok
  have gd5:=x5.keep _ _ (M4.dxT S4.ok) gd4
  refine callWith_of (P:=fun _=>True) rfl (fun h _=>⟨.machine,.inr (.inl rfl),.of_pure rfl⟩) (evalArgs_plain (spliced_cons ?_))
  refine bound_get Y X FX S5 p3.1 (i:=0) rfl p3.2.1 p3.2.2 gd5 hf1 hf2 hg ht (by kernel_rfl) ?_
  have x6:Ext C s₅ { s₅ with heap:=s₅.heap.push (methodObj (.ref fR) (.ref L.lx)),toks:=s₅.toks + 1 }:=.push S5.ok
  generalize hs6:({ s₅ with heap:=s₅.heap.push (methodObj (.ref fR) (.ref L.lx)),toks:=s₅.toks + 1 }:Shared) = s₆ at x6 ⊢
  have gm6:s₆.heap.get? s₅.heap.objs.size = some (methodObj (.ref fR) (.ref L.lx)):=by rw [<- hs6]; exact Heap.get?_push_size _ rfl
  have fm5:s₅.heap.get? s₅.heap.objs.size = none:=Heap.get?_none_of_le (Nat.le_refl _)
  generalize s₅.heap.objs.size = m at gm6 fm5 ⊢
  have S6:SimO C B (fun b=>Z b \/ b = m) O env _ s₆:=S5.extAvoid x6 fm5 ⟨_,gm6⟩
  have M6:=M5.ext x6 S5.ok
  refine spliced_cons (wpT (Ev.str (kk:=k) (c:=c19) (pos:=q20) B _ O _ s₆ R0 S6) fun v s₇ hZ2=>?_); obtain ⟨x7,i7⟩:=hZ2
  replace i7:=i7.iStr; obtain ⟨t7,hqq⟩:=i7; cases hqq
  refine spliced_nil ⟨trivial,?_⟩
  have S7:=S6.ext x7
  have M7:=M6.ext x7 S6.ok
  have mT:m ∉ C.T:=S5.ok.frT fm5
  have gm7:=x7.keep _ _ mT gm6
  refine ci_make gm7 ?_
  have x8:Ext C s₇ { s₇ with heap:=s₇.heap.push (ciObj m t7) }:=.push S7.ok
  generalize hs8:({ s₇ with heap:=s₇.heap.push (ciObj m t7) }:Shared) = s₈ at x8 ⊢
  have gI8:s₈.heap.get? s₇.heap.objs.size = some (ciObj m t7):=by rw [<- hs8]; exact Heap.get?_push_size _ rfl
  have fI7:s₇.heap.get? s₇.heap.objs.size = none:=Heap.get?_none_of_le (Nat.le_refl _)
  generalize s₇.heap.objs.size = I at gI8 fI7 ⊢
  have S8:SimO C B (fun b=>(Z b \/ b = m) \/ b = I) O env _ s₈:=S7.extAvoid x8 fI7 ⟨_,gI8⟩
  have M8:=M7.ext x8 S7.ok
  have gm8:=x8.keep _ _ mT gm7
  refine S8.store_av (av:=.val (.ref I)) (x:=yf) (i:=2) (hA.isSto (stoB_val hks r5 (by rfl))) (fun m' h' kd kw k' hh=>.inl hh) fun s₉ S9 kb9=>hκ _ _ ?_
  clear hκ κ
  have fresh:∀ {b:Addr},s₄.heap.get? b = none -> B.get b = none /\ C.h0.get? b = none /\ b ∉ C.T:=fun {b} fb=>by
   refine ⟨?_,?_,fun q=>?_⟩
   ·cases q:B.get b with
    | none=>rfl
    | some o=>have:=S4.keepB b o q; rw [fb] at this; cases this
   ·cases q:C.h0.get? b with
    | none=>rfl
    | some o=>have:=S4.ok.keep b o q; rw [fb] at this; cases this
   ·obtain ⟨ps,g,_⟩:=S4.ok.tab b q; rw [fb] at g; cases g
  have fm4:s₄.heap.get? m = none:=x5.fresh' fm5
  have fI4:s₄.heap.get? I = none:=x5.fresh' (x6.fresh' (x7.fresh' fI7))
  have nlm:∀ {b:Addr},s₄.heap.get? b = none -> ¬ LMut L b:=fun {b} fb q=>by obtain ⟨o,g⟩:=M4.ex q; rw [fb] at g; cases g
  have G:GC C K B (fun b=>(Z b \/ b = m) \/ b = I) env L c fR I m fd.scope k :=
   {fx:=FX,ul:=fun b hb=>.inl (.inl (.inr hb)),bl:=hPB,ui:=.inr rfl,um:=.inl (.inr rfl),bi:=(fresh fI4).1,ti:=(fresh fI4).2.2,li:=nlm fI4,tm:=mT,lm:=nlm fm4,mi:=fun q=>(by rw [q] at gm7; rw [fI7] at gm7; cases gm7),
    hi:=(fresh fI4).2.1,qn:=hqn,y:=Y,x:=X,b:=Bq,fR1:=hf1,fR2:=hf2,rc:=hRC,fn:=hfn,at_:=hA,ev:=hE,ks:=hks }
  have hz:st.rest.length <= L.txt.length:=by
   rw [al3,List.length_drop,Array.length_toList]; exact Nat.sub_le _ _
  have X9:GT C B (fun b=>(Z b \/ b = m) \/ b = I) env L fR I m t7 [] .no st s₉ :=
   ⟨⟨O,S9⟩,M8.kept fun b hb o g=>kb9 b o (S8.uo (G.ul b hb)) g,kb9 _ _ (S8.uo G.ui) gI8,kb9 _ _ (S8.uo G.um) gm8,by simpa using hz⟩
  unfold tokF at htok
  rw [hpbs] at htok
  dsimp only at htok
  cases hsc:scanO st.rest st.line with
  | none=>rw [hsc] at htok; cases htok
  | some res =>
   obtain ⟨w,rest,line⟩:=res
   rw [hsc] at htok
   simp only [Option.some.injEq,Prod.mk.injEq] at htok
   obtain ⟨rfl,rfl⟩:=htok
   have endg:∀ {v:Value} {s':Shared},GEnd C B (fun b=>(Z b \/ b = m) \/ b = I) env L w ⟨rest,line,st.pb⟩ (.ret v) s' -> κ0 (.ret v) s':=fun {v s'} hq=>by
    obtain ⟨tv,O2,σ2,e,Se,Me⟩:=hq
    subst e
    rw [hpbs] at Me
    exact hκ0 _ _ ⟨tv,rfl,Se.ok,fun b o nT nm g=>Se.keepB b o (hB b o nT nm g),Me⟩
   refine stepK fun κ hκ=>(wpT (hO G R1 X9 (.inl rfl) hsc) fun f s' hq=>hκ _ _ ?_)
   cases f with
   | next =>
    obtain ⟨rfl,⟨O2,ch2,Se⟩,Me⟩:=hq
    refine stepK fun κ1 hκ1=>(wpAny_Return_some (wpT (evE_s (Bq.gd k) (.var 1) hA r9 (d:=.str ⟨#[]⟩) (σ:=gtV L I [] ch2) rfl B _ O2 _ s' R0 Se) fun v s'' hZ2=>?_)); obtain ⟨xe,ie⟩:=hZ2
    replace ie:=ie.iStr; obtain ⟨te,hqq⟩:=ie; cases hqq
    exact hκ1 _ _ <| endg (v:=.str ⟨#[]⟩ te) ⟨te,O2,_,rfl,Se.ext xe,Me.ext xe Se.ok⟩
   | ret v=>exact endg hq
   | brk=>exact hq.elim
   | cont=>exact hq.elim
end
end
section
section
variable {C:Cx} {B:Base} {U:Addr -> Prop} {O:Own} {env:Env} {σ σ':Vars} {s s' s₁:Shared} {k:Nat} {A:Around} {h:Heap} {K:Frag} {c:Addr} {L:LexA} {st:LexSt} {fR I m:Addr} {t:Tok} {sc:Scope}
noncomputable def LexP (C:Cx) (k:Nat) (L:LexA) (f:Addr) (st:LexSt) (w:Str):Prop :=
 ∀ (A:Around) (s:Shared) (t:Tok),Room k A -> OK C s -> LexMut L st s.heap -> codeAny C.M A (.call (.ref f) ⟨[.ref L.lx,.str w t],[]⟩) (fun r s'=>r = .ok (.ret .none) /\ OK C s' /\ LKeep C L s s' /\ LexMut L { rest:=st.rest,line:=st.line,pb:=st.pb ++ [w] } s'.heap) s
theorem StrsAre.snoc' {vs:List Value} {ys:List Str} {w:Str} {t:Tok} (h:StrsAre vs ys):StrsAre (vs ++ [.str w t]) (ys ++ [w]):=by
 induction h with
 | nil=>exact .cons _ _ .nil
 | cons a b _ ih=>exact .cons _ _ ih
theorem psh_spec {f:Addr} {fd:FuncData} {yS:Str} {q1 q2 q3 q5 q6:Pos} {e4:Expr}
  (F:FnOk C f fd [.Expr (.Call (.Attribute (.Attribute (.Name yS q1) "pushback" q2) "append" q3) [e4] [] q5) q6] 2)
  (Bq:Bs C) (Y:ClsOk K c lexNames) (X:K.In C.h0) (hks:fd.scope.names.map (·.2) = [.local,.local])
  (hr:(vr fd.scope 0 yS && repE nmB fd.scope (.var 1) e4 && !isStarred e4 && q3.endLine == q5.line) = true) (FX:LexFix C c L) {w:Str} (hpb:st.pb.length <= 1000):LexP C (k + 1) L f st w:=by
 intro A s t R Ks M
 refine and4 hr fun r1 r2 r3 r4=>?_
 let Z:Addr -> Prop:=fun b=>b ∈ C.T \/ LMut L b
 have z:ZOk C Z s:=⟨fun b hb=>.inl hb,fun b hb=>hb.elim (fun q=>by obtain ⟨ps,g,_⟩:=Ks.tab b q; exact ⟨_,g⟩) M.ex⟩
 refine fn_enter F (Z:=Z) (P:=LMut L) R Ks z rfl [.val (.ref L.lx),.d (.str w)] rfl (fun j v av e1 e2=>?_) fun env s₁ B O hA hE hcq x1 R1 S hB hPB hO'=>?_
 ·match j with
  | 0=>cases e1; cases e2; exact .inl rfl
  | 1=>cases e1; cases e2; exact .inr ⟨_,rfl,.str _ _⟩
  | j + 2=>cases e1
 refine genQ fun κ0 hκ0=>?_
 rw [hks] at S
 have M1:=M.ext x1 Ks
 have p1:=vr_var hA r1
 obtain ⟨⟨enn,gd⟩,⟨pvs,pl1,pl2⟩,n,ta,al1,al2,al3⟩:=id M1
 have hst:isStarred e4 = false:=by simpa using r3
 have eA:EvL C k env (initA [.local,.local] [.val (.ref L.lx),.d (.str w)]) [e4] [.str w]:=⟨⟨evE_s (Bq.gd _) (.var 1) hA r2 rfl,hst⟩,trivial⟩
 refine stepK fun κ hκ=>(wpAny_Expr_any ?_ (notInter hE) rfl)
 refine MethodCall_ (lex_attr (v:=.ref L.pl) Y X FX S p1.1 (i:=0) rfl p1.2.1 p1.2.2 gd (by decide) (by kernel_rfl) rfl ?_) (meth_eq (by rfl) (by simp) r4 (EvL.stars eA))
 have xa:Ext C s₁ { s₁ with toks:=s₁.toks + 1 }:=.tok S.ok
 have S2:=S.ext xa
 refine getM_list (C:=C) (s:={ s₁ with toks:=s₁.toks + 1 }) pl1 PySem.F.slot_list_append PySem.F.type_list_append ?_
 refine callWith_G Kp.builtin eA R1 S2 fun s₃ vs x3 i3=>?_
 replace i3:=i3.iCons; obtain ⟨_,_,hqq,i31,i32⟩:=i3; cases hqq
 cases i32.iNil
 replace i31:=i31.iStr; obtain ⟨t0,hqq⟩:=i31; cases hqq
 have S3:=S2.ext x3
 have M3:=(M1.ext xa S.ok).ext x3 S2.ok
 have plT:=M1.plT S.ok
 have pl13:=pl1.kept fun o g=>x3.keep _ _ plT g
 have hl:pvs.length <= 1000:=by
  have h1:=(strs_isds (C:=C) (Z:=fun _=>False) (h:=s.heap) pl2).length
  rw [List.length_map] at h1; omega
 refine append_lst pl13 (by omega) fun h' l' hb'=>hκ _ _ (wpAny_execs_nil (hκ0 _ _ ?_))
 have hk':∀ b o,b ≠ L.pl -> s₃.heap.get? b = some o -> h'.get? b = some o:=fun b o nb g=>(hb'.2 b nb).trans g
 obtain ⟨n13,g13⟩:=pl13
 have K5:OK C { s₃ with heap:=h' }:=S3.ok.but (dr:=s₃.drawn) (tk:=s₃.toks) FX.p0 plT g13 (fun vs q=>by cases q) hk'
 refine ⟨rfl,K5,fun b o nT nm g=>hk' b o (fun q=>nm (.inr (.inl q))) (x3.keep b o nT (xa.keep b o nT (x1.keep b o nT g))),?_⟩
 obtain ⟨⟨en2,gd3⟩,_,n33,ta3,al13,al23,al33⟩:=M3
 exact ⟨⟨en2,hk' _ _ FX.ne1 gd3⟩,⟨_,l',StrsAre.snoc' pl2⟩,n33,ta3,al13.kept fun o g=>hk' _ _ (Ne.symm FX.ne3) g,al23,al33⟩
theorem attr_storeW {y name:Str} {i cc x dx:Addr} {p1 p2 pos:Pos} {e:Expr} {ss:List Stmt} {Qf:Flow -> Shared -> Prop} {names:List Str} {es:List DictEntry} {n n':Nat} {esF:Int -> Tok -> Value -> List DictEntry} {P:Value -> Shared -> Prop}
  (S:SimO C B U O env σ s) (hy:IsVar env.scope y i) (hs:σ[i]? = some (.val (.ref x))) (h1:(y == ("__debug__":Str)) = false) (h2:(y == ("__classdict__":Str)) = false)
  (he:wpAny C.M A (eval e env) (fun v s₁=>Ext C s s₁ /\ P v s₁) nf s) (hn:notComp e = true) (Y:ClsOk K cc names) (X:K.In C.h0) (hx:s.heap.get? x = some (instObj cc dx)) (hd:s.heap.get? dx = some (dictOf es n)) (hU:U dx) (hO:O dx = none) (hB:B.get dx = none) (h0:C.h0.get? dx = none)
  (hm:name ∈ names) (hl:(getL name es).isSome = true) (hp:∀ h t v,(putL name h (.str name t) v es,putN name es n) = (esF h t v,n')) (hz:∀ h t v,(esF h t v).length <= 1000)
  (hQ:∀ h t v s₁ s',Ext C s s₁ -> P v s₁ -> SimO C B U O env σ s' -> (∀ b o,b ≠ dx -> s₁.heap.get? b = some o -> s'.heap.get? b = some o) -> s'.heap.get? dx = some (dictOf (esF h t v) n') -> wpAny C.M A (execs ss env) Qf nf s') :
  wpAny C.M A (execs (.Assign [.Attribute (.Name y p1) name p2] e pos :: ss) env) Qf nf s:=by
 have xT:=inst_notT S.ok hx
 have dT:=dict_notT S.ok hd
 refine wpAny_execs_cons (plainObj_wpAny_Assign_Attribute (wpT he fun v s₁ hZ2=>?_) (swaps_no (t:=none) hn)); obtain ⟨x1,i1⟩:=hZ2
 have S1:=S.ext x1
 refine S1.loadVal (kk:=0) hy hs h1 h2 ?_
 have hx1:=x1.keep _ _ xT hx
 have hd1:=x1.keep _ _ dT hd
 have X1:K.In s₁.heap:=X.keeps S1.ok.keep
 refine inst_set Y X1 hx1 hd1 hm hl (hp _ _ _) (hz _ _ _) fun h' g' hb=>?_
 have hk:∀ b o,b ≠ dx -> s₁.heap.get? b = some o -> h'.get? b = some o:=fun b o nb g=>(hb.2 b nb).trans g
 have S2:SimO C B U O env σ { heap:=h',gens:=s₁.gens,drawn:=s₁.drawn,toks:=s₁.toks + 2,os:=s₁.os } :=
  S1.pokeExt (S1.ok.but h0 dT hd1 (fun vs q=>by cases q) hk) hO hU hB (fun b o _ nb g=>hk b o nb g) ⟨_,g'⟩
 exact hQ _ _ v s₁ _ x1 i1 S2 hk g'
theorem lxi_spec {f:Addr} {fd:FuncData} {y1 y2 y3 y4:Str} {q1 q2 q5 q6 q7 q9 q10 q11 q14 q15 q16 q17 q18:Pos} {yfp:Str} {qfp:Pos} {e4 e13:Expr}
  (F:FnOk C f fd [.Assign [(.Attribute (.Name y1 q1) "lineno" q2)] e4 q5,.Assign [(.Attribute (.Name y2 q6) "instream" q7)] (.Name yfp qfp) q9,.Assign [(.Attribute (.Name y3 q10) "whitespace" q11)] e13 q14,.Assign [(.Attribute (.Name y4 q15) "pushback" q16)] (.List [] q17) q18] 2)
  (Bq:Bs C) (Y:ClsOk K c lexNames) (X:K.In C.h0) (hks:fd.scope.names.map (·.2) = [.local,.local])
  (hr:(vr fd.scope 0 y1 && vr fd.scope 0 y2 && vr fd.scope 0 y3 && vr fd.scope 0 y4 && vr fd.scope 1 yfp && repE nmB fd.scope (.int 1) e4 && notComp e4 && repE nmB fd.scope (.str "\n\t\r ") e13 && notComp e13) = true)
  {x dx fp:Addr} (R:Room (k + 1) A) (Ks:OK C s) (hx:s.heap.get? x = some (instObj c dx)) (hd:s.heap.get? dx = some emptyDict) (h0:C.h0.get? dx = none) :
  codeAny C.M A (.call (.ref f) ⟨[.ref x,.ref fp],[]⟩) (fun r s'=>r = .ok (.ret .none) /\ OK C s' /\ (∀ b o,b ∉ C.T -> b ≠ dx -> s.heap.get? b = some o -> s'.heap.get? b = some o) /\
   ∃ (e:LexE) (pl:Addr),s.heap.get? pl = none /\ Lst s'.heap pl [] /\ s'.heap.get? dx = some (dictOf (e.es 1 fp pl) e.n)) s:=by
 refine and9 hr fun r1 r2 r3 r4 r5 r6 r7 r8 r9=>?_
 have xT:=inst_notT Ks hx
 have dT:dx ∉ C.T:=dict_notT (es:=[]) (n:=0) Ks hd
 have xd:x ≠ dx:=fun q=>by rw [q,hd] at hx; cases hx
 let Z:Addr -> Prop:=fun b=>b ∈ C.T \/ b = dx
 have z:ZOk C Z s:=⟨fun b hb=>.inl hb,fun b hb=>hb.elim (fun q=>by obtain ⟨ps,g,_⟩:=Ks.tab b q; exact ⟨_,g⟩) fun q=>⟨_,q ▸ hd⟩⟩
 refine fn_enter F (Z:=Z) (P:=fun b=>b = dx) R Ks z rfl [.val (.ref x),.val (.ref fp)] rfl (fun j v av e1 e2=>?_) fun env s₁ B O hA hE hcq x1 R1 S hB hPB hO'=>?_
 ·match j with
  | 0=>cases e1; cases e2; exact .inl rfl
  | 1=>cases e1; cases e2; exact .inl rfl
  | j + 2=>cases e1
 refine genQ fun κ0 hκ0=>?_
 rw [hks] at S
 have S':SimO C B Z O env [.val (.ref x),.val (.ref fp)] s₁:=S
 have p1:=vr_var hA r1
 have p2:=vr_var hA r2
 have p3:=vr_var hA r3
 have p4:=vr_var hA r4
 have pf:=vr_var hA r5
 have Od:=S'.uo (b:=dx) (.inr rfl)
 have hx1:=x1.keep _ _ xT hx
 refine attr_storeW (es:=[]) (n:=0) (n':=1) (P:=fun v s₁=>∃ t,v = .int 1 t) (esF:=fun h t v=>[⟨h,.str "lineno" t,v⟩]) S' p1.1 (i:=0) rfl p1.2.1 p1.2.2
  (wpT (evE_s (Bq.gd k) (.int 1) hA r6 (d:=.int 1) rfl B Z O _ s₁ R1 S') fun v s₂ ⟨x2,i2⟩=>⟨x2,by cases i2; exact ⟨_,rfl⟩⟩) r7 Y X hx1 (x1.keep _ _ dT hd) (.inr rfl) Od (hPB _ rfl) h0 (by decide) rfl (fun _ _ _=>rfl) (fun _ _ _=>by simp) fun h1 t1 v1 s₂ s₃ x2 hv1 S3 k3 g3=>?_
 obtain ⟨tl,rfl⟩:=hv1
 have hx3:=k3 _ _ xd (x2.keep _ _ xT hx1)
 refine attr_storeW (n':=2) (P:=fun v s₁=>v = .ref fp) (esF:=fun h t v=>[⟨h1,.str "lineno" t1,.int 1 tl⟩,⟨h,.str "instream" t,v⟩]) S3 p2.1 (i:=0) rfl p2.2.1 p2.2.2
  (S3.loadVal (kk:=0) (i:=1) pf.1 rfl pf.2.1 pf.2.2 ⟨.refl S3.ok,rfl⟩) rfl Y X hx3 g3 (.inr rfl) Od (hPB _ rfl) h0 (by decide) (by kernel_rfl) (fun _ _ _=>by kernel_rfl) (fun _ _ _=>by simp) fun h2 t2 v2 s₄ s₅ x4 hv2 S5 k5 g5=>?_
 subst hv2
 have hx5:=k5 _ _ xd (x4.keep _ _ xT hx3)
 refine attr_storeW (n':=3) (P:=fun v s₁=>∃ t,v = .str "\n\t\r " t) (esF:=fun h t v=>[⟨h1,.str "lineno" t1,.int 1 tl⟩,⟨h2,.str "instream" t2,.ref fp⟩,⟨h,.str "whitespace" t,v⟩]) S5 p3.1 (i:=0) rfl p3.2.1 p3.2.2
  (wpT (evE_s (Bq.gd k) (.str "\n\t\r ") hA r8 (d:=.str "\n\t\r ") rfl B Z O _ s₅ R1 S5) fun v s₂ ⟨x2,i2⟩=>⟨x2,by cases i2; exact ⟨_,rfl⟩⟩) r9 Y X hx5 g5 (.inr rfl) Od (hPB _ rfl) h0 (by decide) (by kernel_rfl) (fun _ _ _=>by kernel_rfl) (fun _ _ _=>by simp) fun h3 t3 v3 s₆ s₇ x6 hv3 S7 k7 g7=>?_
 obtain ⟨tw,rfl⟩:=hv3
 have hx7:=k7 _ _ xd (x6.keep _ _ xT hx5)
 refine attr_storeW (n':=4) (P:=fun v s₁=>∃ a,v = .ref a /\ s₇.heap.get? a = none /\ Lst s₁.heap a []) (esF:=fun h t v=>[⟨h1,.str "lineno" t1,.int 1 tl⟩,⟨h2,.str "instream" t2,.ref fp⟩,⟨h3,.str "whitespace" t3,.str "\n\t\r " tw⟩,⟨h,.str "pushback" t,v⟩]) S7 p4.1 (i:=0) rfl p4.2.1 p4.2.2
  (wpT (EvF.list (C:=C) (k:=k) (es:=[]) (ds:=[]) (pos:=q17) trivial (by simp) B Z O _ s₇ R1 S7) fun v s₂ ⟨x2,a,wss,e,fr,l,i⟩=>⟨x2,a,e,fr,by cases i; exact l⟩) rfl Y X hx7 g7 (.inr rfl) Od (hPB _ rfl) h0 (by decide) (by kernel_rfl) (fun _ _ _=>by kernel_rfl) (fun _ _ _=>by simp) fun h4 t4 v4 s₈ s₉ x8 hv4 S9 k9 g9=>?_
 obtain ⟨pl,rfl,fr,l8⟩:=hv4
 have pd:pl ≠ dx:=fun q=>by rw [q,g7] at fr; cases fr
 refine wpAny_execs_nil <| hκ0 _ _ ⟨rfl,S9.ok,fun b o nT nb g=>S9.keepB b o (hB b o nT nb g),⟨h1,h2,h3,h4,t1,t2,t3,t4,tl,tw,4⟩,pl,?_,l8.kept fun o g=>k9 _ _ pd g,g9⟩
 cases q:s.heap.get? pl with
 | none=>rfl
 | some o =>
  have pT:pl ∉ C.T:=S7.ok.frT fr
  have:=S7.keepB pl o (hB pl o pT pd q)
  rw [fr] at this; cases this
end
end
section
section
variable {C:Cx} {B:Base} {U:Addr -> Prop} {O:Own} {env:Env} {σ σ':Vars} {s s' s₁:Shared} {k:Nat} {A:Around}
noncomputable def isFields (o:Obj):Bool:=match o.data with
 | .fields _=>true
 | _=>false
theorem SimO.dropF (S:SimO C B U O env σ s):∃ O',SimO C B U O' env σ s /\ (∀ b,O' b ≠ none -> O b ≠ none) /\ ∀ b o,O' b ≠ none -> s.heap.get? b = some o -> isFields o = false:=by
 let O':Own:=fun b=>match s.heap.get? b with
  | some o=>if isFields o then none else O b
  | none=>O b
 have h1:∀ b,O' b ≠ none -> O b ≠ none:=fun b hb=>by
  show O b ≠ none
  have hb':(match s.heap.get? b with | some o=>if isFields o then none else O b | none=>O b) ≠ none:=hb
  split at hb'
  ·split at hb'
   ·exact absurd rfl hb'
   ·exact hb'
  ·exact hb'
 have h2:∀ b o,O' b ≠ none -> s.heap.get? b = some o -> isFields o = false:=fun b o hb g=>by
  have hb':(match s.heap.get? b with | some o=>if isFields o then none else O b | none=>O b) ≠ none:=hb
  rw [g] at hb'
  dsimp only at hb'
  split at hb'
  ·exact absurd rfl hb'
  ·rename_i q; simpa using q
 have h3:∀ b o t,O b = some t -> s.heap.get? b = some o -> isFields o = false -> O' b = some t:=fun b o t hb g hf=>by
  show (match s.heap.get? b with | some o=>if isFields o then none else O b | none=>O b) = some t
  rw [g]
  dsimp only
  rw [hf]
  exact hb
 have zz:∀ b,¬ Zf U O b -> ¬ Zf U O' b:=fun b n q=>n (q.imp id (h1 b))
 obtain ⟨m,hm,hv⟩:=S.vars
 have hL:O' env.locals = some .loc:=by
  obtain ⟨o,es,ep,g,d,r⟩:=hm
  exact h3 _ o _ S.hL g (by unfold isFields; rw [d])
 have cellO:∀ {c i v},O c = some (.cell i) -> s.heap.IsCell c v -> O' c = some (.cell i):=fun {c i v} hc ⟨o,g,d⟩=>h3 c o _ hc g (by unfold isFields; rw [d])
 have hold:∀ {i x kk v},HoldsO env m s.heap O i x kk v -> HoldsO env m s.heap O' i x kk v:=fun {i x kk v} h=>by
  rcases h with q | ⟨e,c,e1,e2,e3⟩
  ·exact .inl q
  ·exact .inr ⟨e,c,e1,cellO e2 e3,e3⟩
 refine ⟨O',⟨S.ok,S.ev,S.tu,S.bt,S.keepB,fun b hb=>S.lt b (hb.imp id (h1 b)),fun b hb=>S.ob b (h1 b hb),fun b hb=>S.oh b (h1 b hb),hL,m,hm,fun i x kk av e1 e2=>?_⟩,h1,h2⟩
 have old:=hv i x kk av e1 e2
 cases av with
 | no=>trivial
 | emp=>obtain ⟨e,c,w,g1,g2,g3⟩:=old; exact ⟨e,c,w,g1,cellO g2 g3,g3⟩
 | d d=>obtain ⟨v,g1,g2⟩:=old; exact ⟨v,hold g1,g2.mono (fun b o n g=>g) fun b o n g=>zz b n⟩
 | sd d=>obtain ⟨e,c,v,g1,g2,g3⟩:=old; exact ⟨e,c,v,g1,g2,g3.mono (fun b o n g=>g) fun b o n g=>zz b n⟩
 | own l=>obtain ⟨a,vs,g1,g2,⟨n,g3⟩,g4⟩:=old; exact ⟨a,vs,hold g1,h3 _ _ _ g2 g3 rfl,⟨n,g3⟩,g4.mono (fun b o n g=>g) fun b o n g=>zz b n⟩
 | val u=>exact old.imp hold id
 | lex L st =>
  obtain ⟨g1,g2,g3,g4,g5⟩:=old
  obtain ⟨⟨enn,gd⟩,⟨vs,⟨n,e⟩,q⟩,n2,t,⟨n3,e3⟩,q2⟩:=id g5
  exact ⟨g1.imp hold id,h3 _ _ _ g2 gd rfl,h3 _ _ _ g3 e rfl,h3 _ _ _ g4 e3 rfl,g5⟩
theorem lam_wp {params:Arguments} {body:Expr} {scope:Scope} {pos:Pos} {c P:Addr} {Q:Value -> Shared -> Prop} (S:SimO C B U O env σ s)
  (hc:env.code = .ref c) (hcp:(c,P) ∈ C.tabs) (hq:C.qn P pos.line pos.col = env.qual ++ "<lambda>") (hcl:closureFor scope env = pure []) (hdef:defaultsOf params env = ([],[]))
  (hQ:∀ f fd s₁,Ext C s s₁ -> s.heap.get? f = none -> s₁.heap.get? f = some { cls:=.type "function",data:=.func fd } -> Q (.ref f) s₁) :
  wpAny C.M A (eval (.Lambda params body scope pos) env) Q nf s:=by
 have hP:P ∈ C.T:=List.mem_map_of_mem (f:=(·.2)) hcp
 obtain ⟨ps,gP,ht,htab⟩:=S.ok.tab P hP
 have G:=S.ok.good
 have hg:s.heap.Ns mainGlobals C.mg:=G.g.keeps S.ok.keep
 have hCd:CodeHd s.heap c P:=(G.code _ hcp).keeps S.ok.keep
 obtain ⟨bm,ob,b1,b2,b3,b4,b5,b6⟩:=G.bmain
 have hgP:mainGlobals ≠ P:=fun q=>by
  obtain ⟨o,es,ep,e,hd,_⟩:=hg
  rw [q,gP] at e; cases e; cases hd
 have hbP:bm ≠ P:=fun q=>by rw [q,G.notab P hP] at b3; cases b3
 have hbG:bm ≠ mainGlobals:=fun q=>by
  obtain ⟨o,es,ep,e,hd,_⟩:=G.g
  rw [q,e] at b3; cases b3; rw [hd] at b6; cases b6
 have hb:s.heap.BuiltinsAt C.mg P:=⟨bm,ob,b1,b2,hbG,hbP,S.ok.keep _ _ b3,b4,b5,b6⟩
 refine kla_eval hdef ?_
 cases hca:codeAmong pos ps.toList with
 | some cv =>
  refine kla_makeFunctionHit (mg:=C.mg) hcl S.ev.glob hg hc hCd gP ht hca hb fun ctv h' tk hk hge=>?_
  have x:Ext C s { heap:=h'.push { cls:=.type "function",data:=.func (kla_fn "<lambda>" (env.qual ++ "<lambda>") params body scope [] ((C.mg "__name__").getD .none) cv ctv) },gens:=s.gens,drawn:=s.drawn,toks:=tk,os:=s.os } :=
   .of_keeps S.ok fun b o e=>Heap.get?_push_of_some _ (hk b o e)
  exact hQ _ _ _ x (Heap.get?_none_of_le hge) (Heap.get?_push_size _ rfl)
 | none =>
  refine kla_makeFunction (mg:=C.mg) hcl S.ev.glob hg hc hCd gP ht hca hgP hb fun c' ctv h' tk hx' hge hlt hrec htb=>?_
  have x1:Ext C s { heap:=h',gens:=s.gens,drawn:=s.drawn,toks:=tk,os:=s.os }:=made_ext (c:=c) S.ok hP gP ht hx' hge hrec htb hq
  exact hQ _ _ _ (x1.trans (Ext.push x1.ok)) x1.fresh (Heap.get?_push_size _ rfl)
inductive StreamAt (C:Cx) (name:Str) (params:Arguments) (rbody:List Stmt) (isc:Scope) (qual:Str) (text:Str) (s s':Shared) (st:Addr):Prop
 | mk (sd rd al c1 c2:Addr) (hsh:Int) (tk ta tt:Tok) (fs:FuncData) (clos:List (Str × Addr)) (doc pm cv ctv:Value) (xa xt:Str) :
  s.heap.get? st = none -> s.heap.get? sd = none -> s.heap.get? rd = none -> s.heap.get? al = none -> s.heap.get? c1 = none -> s.heap.get? c2 = none ->
  s'.heap.get? st = some { cls:=.type "function",dict:=some sd,data:=.func fs } -> s'.heap.get? sd = some (dictOf [⟨hsh,.str "read" tk,.ref rd⟩] 1) ->
  s'.heap.get? rd = some { cls:=.type "function",data:=.func (fnX name qual params rbody isc clos .none .none doc pm none cv ctv) } -> s'.heap.CodeRec cv qual -> (∃ c',cv = .ref c' /\ c' ∉ C.T) ->
  isc.names[2]? = some (xa,.free) -> isc.names[3]? = some (xt,.free) -> clos.lookup xa = some c1 -> clos.lookup xt = some c2 -> s'.heap.IsCell c1 (some (.ref al)) -> s'.heap.IsCell c2 (some (.str text tt)) -> Lst s'.heap al [.int 0 ta] -> StreamAt C name params rbody isc qual text s s' st
end
end
section
section
variable {C:Cx} {B:Base} {U:Addr -> Prop} {O:Own} {env:Env} {σ σ':Vars} {s s' s₁:Shared} {k:Nat} {A:Around}
theorem HoldsO.cellOf {m:Str -> Option Value} {h:Heap} {i:Nat} {x:Str} {v:Value} (y:HoldsO env m h O i x .cell v):∃ c,env.cells.lookup x = some c /\ O c = some (.cell i) /\ h.IsCell c (some v):=by
 rcases y with ⟨q,_⟩ | ⟨_,c,a,b,d⟩
 ·cases q
 ·exact ⟨c,a,b,d⟩
theorem stream_spec {f cc P:Addr} {fd:FuncData} {name:Str} {params lparams:Arguments} {rbody:List Stmt} {isc lsc:Scope} {dpos lpos:Pos} {lb e4:Expr} {ya yst yst2 yst3 yro:Str} {q1 q5 q39 q45 q46 q47 q48 q49 q50 q51:Pos}
  (F:FnOk C f fd [.Assign [(.Name ya q1)] e4 q5,.FunctionDef name params rbody [] none [] isc none name dpos,.Assign [(.Name yst q39)] (.Lambda lparams lb lsc lpos) q45,.Assign [(.Attribute (.Name yst2 q46) "read" q47)] (.Name yro q48) q49,.Return (some (.Name yst3 q50)) q51] 1)
  (Bq:Bs C) (hcode:fd.code = .ref cc) (hcp:(cc,P) ∈ C.tabs) (hqn:C.qn P dpos.line dpos.col = fd.qualname ++ ".<locals>." ++ name) (hqn2:C.qn P lpos.line lpos.col = fd.qualname ++ ".<locals>." ++ "<lambda>")
  (hks:fd.scope.names.map (·.2) = [.cell,.local,.local,.cell]) (iks:isc.names.map (·.2) = [.local,.local,.free,.free,.globalImplicit])
  (hr:(vr fd.scope 3 ya && vr fd.scope 1 name && vr fd.scope 2 yst && vr fd.scope 2 yst2 && vr fd.scope 2 yst3 && vr fd.scope 1 yro && repE nmB fd.scope (.lst [.int 0]) e4 && notComp e4 && innB fd.scope.names isc.names [none,none,some 3,some 0,none]) = true)
  (hd0:params.defaults = []) (hk0:params.kw_defaults = []) (ha:∀ env,annTrees params none env = []) (hlc:∀ env,closureFor lsc env = pure []) (hld:∀ env,defaultsOf lparams env = ([],[]))
  {text:Str} {t:Tok} (R:Room (k + 1) A) (Ks:OK C s):wpAny C.M A (call (.ref f) [.str text t] []) (fun v s'=>Ext C s s' /\ ∃ st,v = .ref st /\ StreamAt C name params rbody isc (fd.qualname ++ ".<locals>." ++ name) text s s' st) nf s:=by
 refine and9 hr fun r1 r2 r3 r4 r5 r6 r7 r8 r9=>?_
 have z:ZOk C (fun b=>b ∈ C.T) s:=⟨fun b hb=>hb,fun b hb=>by obtain ⟨ps,g,_⟩:=Ks.tab b hb; exact ⟨_,g⟩⟩
 refine wpAny_call (fn_enter F (Z:=fun b=>b ∈ C.T) (P:=fun _=>False) R Ks z rfl [.d (.str text)] rfl (fun j v av e1 e2=>?_) fun env s₁ B O hA hE hcq x1 R1 S hB hPB hO'=>?_)
 ·match j with
  | 0=>cases e1; cases e2; exact .inr ⟨_,rfl,.str _ _⟩
  | j + 1=>cases e1
 rw [hks] at S
 obtain ⟨g1,g2,g3⟩:=hcq
 refine genQ fun κ0 hκ0=>?_
 have hB':∀ b o,b ∉ C.T -> s.heap.get? b = some o -> B.get b = some o:=fun b o n g=>hB b o n (fun q=>q) g
 have frs:∀ {O':Own} {U':Addr -> Prop} {σ':Vars} {sx:Shared},SimO C B U' O' env σ' sx -> ∀ {b:Addr},sx.heap.get? b = none -> s.heap.get? b = none:=fun {O' U' σ' sx} S' {b} fb=>by
  cases q:s.heap.get? b with
  | none=>rfl
  | some o =>
   by_cases hT:b ∈ C.T
   ·obtain ⟨ps,g,_⟩:=S'.ok.tab b hT; rw [fb] at g; cases g
   ·have:=S'.keepB b o (hB' b o hT q); rw [fb] at this; cases this
 have fro:∀ {O':Own} {U':Addr -> Prop} {σ':Vars} {sx:Shared},SimO C B U' O' env σ' sx -> ∀ {b:Addr},O' b ≠ none -> s.heap.get? b = none:=fun {O' U' σ' sx} S' {b} hb=>by
  cases q:s.heap.get? b with
  | none=>rfl
  | some o=>have:=hB' b o (S'.nT hb) q; rw [(S'.ob b hb).1] at this; cases this
 refine exs_wp (evS_s (Bq.gd k) hE hA hks (.asgO 3 (.lst [.int 0])) (by show (vr fd.scope 3 _ && notComp _ && repE nmB fd.scope _ _) = true; rw [r1,r8,r7]; rfl) (σ':=[.d (.str text),.no,.no,.own [.int 0]]) (by kernel_rfl)) R1 S (fun O2 σ2 s₂ S2 e2=>?_) fun σ f e=>e.1
 obtain ⟨_,rfl⟩:=e2
 have t6':innB env.scope.names isc.names [none,none,some 3,some 0,none] = true:=by rw [g1]; exact r9
 obtain ⟨mo,hmo,hvo⟩:=S2.vars
 have n2:∃ xa,isc.names[2]? = some (xa,.free) /\ env.scope.names[3]? = some (xa,.cell):=by
  have h2:(isc.names.map (·.2))[2]? = some .free:=by rw [iks]; rfl
  rw [List.getElem?_map] at h2
  cases q:isc.names[2]? with
  | none=>rw [q] at h2; cases h2
  | some p =>
   obtain ⟨xa,kk⟩:=p
   rw [q] at h2; simp at h2; subst h2
   obtain ⟨_,k',f1,f2⟩:=innB_get t6' q (i:=3) rfl
   refine ⟨xa,rfl,?_⟩
   have:=ks_at hks (g1 ▸ f1)
   cases this
   exact f1
 have n3:∃ xt,isc.names[3]? = some (xt,.free) /\ env.scope.names[0]? = some (xt,.cell):=by
  have h2:(isc.names.map (·.2))[3]? = some .free:=by rw [iks]; rfl
  rw [List.getElem?_map] at h2
  cases q:isc.names[3]? with
  | none=>rw [q] at h2; cases h2
  | some p =>
   obtain ⟨xa,kk⟩:=p
   rw [q] at h2; simp at h2; subst h2
   obtain ⟨_,k',f1,f2⟩:=innB_get t6' q (i:=0) rfl
   refine ⟨xa,rfl,?_⟩
   have:=ks_at hks (g1 ▸ f1)
   cases this
   exact f1
 obtain ⟨xa,na1,na2⟩:=n2
 obtain ⟨xt,nt1,nt2⟩:=n3
 obtain ⟨clos,hcl,hcl1,_⟩:=closureFor_some (env:=env) (scope:=isc) fun x kk hx hk=>by
  subst hk
  obtain ⟨j,hj⟩:=List.getElem?_of_mem hx
  have hk:=ks_at iks hj
  match j with
  | 0 | 1 | 4=>cases hk
  | 2 =>
   rw [na1] at hj; cases hj
   obtain ⟨c,hc⟩:=(hvo 3 xa .cell _ na2 rfl).cellAt (.inl rfl) rfl; rw [hc]; rfl
  | 3 =>
   rw [nt1] at hj; cases hj
   obtain ⟨c,hc⟩:=(hvo 0 xt .cell _ nt2 rfl).cellAt (.inl rfl) rfl; rw [hc]; rfl
  | j + 5=>cases hk
 have hkn:env.kindOf name = some .local:=kd_kind hE hA r2 (kd_of hks rfl) (by decide)
 have hq:qualnameIn env name name = fd.qualname ++ ".<locals>." ++ name:=by
  unfold qualnameIn; rw [hkn,g3]; rfl
 refine stepK fun κ hκ=>(def_wp S2 (by rw [g2]; exact hcode) hcp (by rw [hq]; exact hqn) hcl hd0 hk0 (ha env) (hA.isSto (stoB_val hks r2 (by kernel_rfl))) fun rd cv ctv doc pm s₃ s2b x2b frd S3 kb3 hrd hcr hcv=>hκ _ _ ?_)
 clear hκ κ
 have S3'':SimO C B (fun b=>b ∈ C.T) O2 env [.d (.str text),.val (.ref rd),.no,.own [.int 0]] s₃:=S3
 obtain ⟨O3,S3',ho3,hf3⟩:=S3''.dropF
 have Ord:O2 rd = none:=S2.frO frd
 have hrd3:=kb3 rd _ Ord hrd
 have Ord3:O3 rd = none:=by
  cases q:O3 rd with
  | none=>rfl
  | some t=>exact absurd Ord (ho3 rd (nnS q))
 have rdT:rd ∉ C.T:=fun q=>by obtain ⟨ps,g,_⟩:=S3.ok.tab rd q; rw [hrd3] at g; cases g
 refine stepK fun κ hκ=>(wpAny_Assign_Name (lam_wp S3' (by rw [g2]; exact hcode) hcp (by rw [g3]; exact hqn2) (hlc env) (hld env) fun st fs s₄ x4 fst hst=>?_) (swaps_no (t:=none) (e:=.Lambda lparams lb lsc lpos) rfl))
 have S4:SimO C B (fun b=>b ∈ C.T \/ b = st) O3 env [.d (.str text),.val (.ref rd),.no,.own [.int 0]] s₄:=S3'.extAvoid x4 fst ⟨_,hst⟩
 have hrd4:=x4.keep _ _ rdT hrd3
 refine S4.store_av (av:=.val (.ref st)) (x:=yst) (i:=2) (hA.isSto (stoB_val hks r3 (by kernel_rfl))) (fun m' h' kd kw k' hh=>.inl hh) fun s₅ S5 kb5=>hκ _ _ ?_
 clear hκ κ
 have S5':SimO C B (fun b=>b ∈ C.T \/ b = st) O3 env [.d (.str text),.val (.ref rd),.val (.ref st),.own [.int 0]] s₅:=S5
 have Ost:O3 st = none:=S5.uo (.inr rfl)
 have hst5:=kb5 st _ Ost hst
 have hrd5:=kb5 rd _ Ord3 hrd4
 have stT:st ∉ C.T:=fun q=>by obtain ⟨ps,g,_⟩:=S5.ok.tab st q; rw [hst5] at g; cases g
 have p6:=vr_var hA r6
 have p4:=vr_var hA r4
 have p5:=vr_var hA r5
 refine stepK fun κ hκ=>(plainObj_wpAny_Assign_Attribute (S5'.loadVal (kk:=0) (i:=1) p6.1 rfl p6.2.1 p6.2.2 (S5'.loadVal (kk:=0) (i:=2) p4.1 rfl p4.2.1 p4.2.2 ?_)) (swaps_no (t:=none) (e:=.Name yro q48) rfl))
 refine fn_set hst5 fun h' hsh tk2 tk gs gd hk=>hκ _ _ ?_
 clear hκ κ
 have rst:rd ≠ st:=fun q=>by rw [q,fst] at hrd3; cases hrd3
 have K6:OK C { s₅ with heap:=h',toks:=tk }:=S5.ok.but (dr:=s₅.drawn) (tk:=tk) (S3'.ok.frH fst) stT hst5 (fun vs q=>by cases q) hk
 have Bst:B.get st = none:=S3'.frB fst
 have S6:SimO C B (fun b=>b ∈ C.T \/ b = st) O3 env [.d (.str text),.val (.ref rd),.val (.ref st),.own [.int 0]] { s₅ with heap:=h',toks:=tk } :=
  S5'.pokeP K6 (P:=fun b=>b = st) (fun b hb=>⟨by rw [hb]; exact Ost,.inr hb,by rw [hb]; exact Bst,⟨_,hb ▸ gs⟩⟩) fun b o _ nb g=>hk b o nb g
 refine stepK fun κ hκ=>(wpAny_Return_some (S6.loadVal (kk:=0) (i:=2) p5.1 rfl p5.2.1 p5.2.2 ?_))
 obtain ⟨m6,hm6,hv6⟩:=S6.vars
 obtain ⟨al,avs,ha1,ha2,ha3,ha4⟩:=hv6 3 xa .cell _ na2 rfl
 obtain ⟨c1,hc1,hc2,hc3⟩:=ha1.cellOf
 obtain ⟨tv,ht1,ht2⟩:=hv6 0 xt .cell _ nt2 rfl
 obtain ⟨c2,hd1,hd2,hd3⟩:=ht1.cellOf
 replace ht2:=ht2.iStr; obtain ⟨tt,hqq⟩:=ht2; cases hqq
 replace ha4:=ha4.iCons; obtain ⟨_,_,hqq,i1,i2⟩:=ha4; cases hqq
 cases i2.iNil
 replace i1:=i1.iInt; obtain ⟨ta,hqq⟩:=i1; cases hqq
 have sdT:s₅.heap.get? s₅.heap.objs.size = none:=Heap.get?_none_of_le (Nat.le_refl _)
 have crec:({ s₅ with heap:=h',toks:=tk }:Shared).heap.CodeRec cv (fd.qualname ++ ".<locals>." ++ name):=by
  rw [<- hq]
  obtain ⟨c2',o,vs,t',e,g,d,r⟩:=hcr
  refine ⟨c2',o,vs,t',e,?_,d,r⟩
  obtain ⟨c',hcv1,hcv2⟩:=hcv
  rw [hcv1] at e
  cases ((e))
  have nst:c2' ≠ st:=fun q=>by rw [q,fst] at g; cases g
  have g4:=x4.keep _ _ hcv2 g
  have nO:O3 c2' = none:=by
   cases q:O3 c2' with
   | none=>rfl
   | some t=>have:=hf3 c2' o (nnS q) g; unfold isFields at this; rw [d] at this; cases this
  exact hk c2' o nst (kb5 c2' o nO g4)
 refine hκ _ _ <| hκ0 _ _ ⟨⟨K6,fun b o nT g=>S6.keepB b o (hB' b o nT g)⟩,st,rfl,s₅.heap.objs.size,rd,al,c1,c2,hsh,tk2,ta,tt,fs,clos,doc,pm,cv,ctv,xa,xt,frs S3' fst,frs S5 sdT,frs S2 frd,fro S6 (nnS ha2),fro S6 (nnS hc2),fro S6 (nnS hd2),gs,gd,?_,crec,hcv,na1,nt1,hcl1 _ _ (List.mem_of_getElem? na1) hc1,hcl1 _ _ (List.mem_of_getElem? nt1) hd1,hc3,hd3,ha3⟩
 have:=hk rd _ rst hrd5
 rw [hq] at this
 exact this
end
end
section
section
variable {C:Cx} {B:Base} {U:Addr -> Prop} {O:Own} {env:Env} {σ σ':Vars} {s s' s₁:Shared} {k:Nat} {A:Around} {K:Frag} {L:LexA} {st:LexSt} {c:Addr}
theorem Kp.cls (X:K.In C.h0) (h:keepIn K (.ref c) = true):Kp C (.ref c) :=
 ⟨fun h=>K.In h,fun s K'=>X.keeps K'.keep,fun hh hX=>let ⟨k,a,b⟩:=looks_keep h hX; ⟨k,a.imp id .inl,b⟩⟩
theorem SimO.store_avx (S:SimO C B U O env σ s) {x:Str} {i:Nat} {v:Value} {av:AV} (hx:IsSto env.scope σ x i)
  {A:Around} {Q:Unit -> Shared -> Prop}
  (hav:∀ m h',(∀ b o,¬ Zf U O b -> s.heap.get? b = some o -> h'.get? b = some o) -> (∀ b j,O b = some (.oth j) -> ∀ o,s.heap.get? b = some o -> h'.get? b = some o) -> ∀ k,HoldsO env m h' O i x k v -> VarOk C B U O env m h' i x k av)
  (hQ:∀ s',SimO C B U O env (σ.set i av) s' -> Kb O s s' -> Q () s'):wpAny C.M A (storeName env x v) Q nf s:=by
 obtain ⟨k,av0,e1,e2,e3⟩:=hx
 have hlook:=lookup_of_get S.ev.nodup e1
 obtain ⟨m,hm,hv⟩:=S.vars
 have hi:i < σ.length:=(List.getElem?_eq_some_iff.mp e2).1
 cases k with
 | «local» =>
  refine wpAny_storeName_local hlook hm (fun h' hn hs=>?_) (by rw [S.ev.kind]; rfl)
  obtain ⟨oL,es,ep,gL,dL,r⟩:=id hm
  have hk:∀ b o,b ≠ env.locals -> s.heap.get? b = some o -> h'.get? b = some o:=fun b o n e=>(hs.2 b n).trans e
  have kd:∀ b o,¬ Zf U O b -> s.heap.get? b = some o -> h'.get? b = some o:=fun b o n g=>hk b o (fun q=>n (.inr (by rw [q,S.hL]; simp))) g
  have kw:∀ b j,O b = some (.own j) -> ∀ o,s.heap.get? b = some o -> h'.get? b = some o:=fun b j hc o g=>hk b o (fun q=>by rw [q,S.hL] at hc; cases hc) g
  have kx:∀ b j,O b = some (.oth j) -> ∀ o,s.heap.get? b = some o -> h'.get? b = some o:=fun b j hc o g=>hk b o (fun q=>by rw [q,S.hL] at hc; cases hc) g
  refine hQ _ ?_ (fun b o n g=>hk b o (fun q=>by rw [q,S.hL] at n; cases n) g)
  refine S.change (nnS S.hL) gL (fun vs q=>by rw [dL] at q; cases q) hk (let ⟨o,_,_,e,_⟩:=hn; ⟨o,e⟩) ⟨_,hn,fun j y k' av' g1 g2=>?_⟩
  by_cases hj:j = i
  ·subst hj
   rw [List.getElem?_set_self hi] at g2
   cases g2
   rw [e1] at g1
   cases g1
   exact hav _ _ kd kx _ (.inl ⟨rfl,by simp⟩)
  ·rw [List.getElem?_set_ne (Ne.symm hj)] at g2
   refine (hv j y k' av' g1 g2).step (fun _=>?_) (fun c hc=>⟨hc,fun o g=>hk c o (fun q=>by rw [q,S.hL] at hc; cases hc) g⟩) (fun c hc=>⟨hc,kw c j hc⟩) (fun c hc=>⟨hc,fun o g=>hk c o (fun q=>by rw [q,S.hL] at hc; cases hc) g⟩) fun b o n g=>⟨kd b o n g,n⟩
   have hne:y ≠ x:=fun q=>hj (IsVar.inj S.ev g1 e1 q)
   simp [hne]
 | cell =>
  have hkind:env.kindOf x = some .cell:=hlook
  have old:=hv i x _ av0 e1 e2
  have key:∃ c w,env.cells.lookup x = some c /\ O c = some (.cell i) /\ s.heap.IsCell c w:=by
   cases av0 with
   | no=>cases e3
   | sd d=>cases e3
   | emp=>exact old.2
   | d d =>
    obtain ⟨w,r,_⟩:=old
    rcases r with ⟨q,_⟩ | ⟨_,c,c1,c2,c3⟩
    ·cases q
    exact ⟨c,_,c1,c2,c3⟩
   | own l =>
    obtain ⟨a,vs,r,_⟩:=old
    rcases r with ⟨q,_⟩ | ⟨_,c,c1,c2,c3⟩
    ·cases q
    exact ⟨c,_,c1,c2,c3⟩
   | val u=>cases e3
   | lex L st=>cases e3
  obtain ⟨c,w,c1,c2,c3⟩:=key
  refine wpAny_storeName_cell S.ev.kind hkind c1 c3 fun h' hc' hs=>?_
  obtain ⟨oc,gc,dc⟩:=id c3
  have hk:∀ b o,b ≠ c -> s.heap.get? b = some o -> h'.get? b = some o:=fun b o n e=>(hs.2 b n).trans e
  have kd:∀ b o,¬ Zf U O b -> s.heap.get? b = some o -> h'.get? b = some o:=fun b o n g=>hk b o (fun q=>n (.inr (by rw [q,c2]; simp))) g
  have kw:∀ b j,O b = some (.own j) -> ∀ o,s.heap.get? b = some o -> h'.get? b = some o:=fun b j hc o g=>hk b o (fun q=>by rw [q,c2] at hc; cases hc) g
  have kx:∀ b j,O b = some (.oth j) -> ∀ o,s.heap.get? b = some o -> h'.get? b = some o:=fun b j hc o g=>hk b o (fun q=>by rw [q,c2] at hc; cases hc) g
  have hLc:env.locals ≠ c:=fun q=>by have:=S.hL; rw [q,c2] at this; cases this
  refine hQ _ ?_ (fun b o n g=>hk b o (fun q=>by rw [q,c2] at n; cases n) g)
  refine S.change (nnS c2) gc (fun vs q=>by rw [dc] at q; cases q) hk (let ⟨o,e,_⟩:=hc'; ⟨o,e⟩) ⟨m,hm.sameBut hs hLc,fun j y k' av' g1 g2=>?_⟩
  by_cases hj:j = i
  ·subst hj
   rw [List.getElem?_set_self hi] at g2
   cases g2
   rw [e1] at g1
   cases g1
   exact hav _ _ kd kx _ (.inr ⟨rfl,c,c1,c2,hc'⟩)
  ·rw [List.getElem?_set_ne (Ne.symm hj)] at g2
   exact (hv j y k' av' g1 g2).step (fun _=>rfl) (fun c' hc2=>⟨hc2,fun o g=>hk c' o (fun q=>by rw [q,c2] at hc2; cases hc2; exact hj rfl) g⟩) (fun c' hc2=>⟨hc2,kw c' j hc2⟩) (fun c' hc2=>⟨hc2,fun o g=>hk c' o (fun q=>by rw [q,c2] at hc2; cases hc2) g⟩) fun b o n g=>⟨kd b o n g,n⟩
 | _=>cases e3
theorem SimO.storeLex (S:SimO C B U O env σ s) (x:Ext C s s₁) (fr:∀ b,LMut L b -> s.heap.get? b = none) (M:LexMut L st s₁.heap) {nm:Str} {ix:Nat} (hx:IsSto env.scope σ nm ix)
  {Q:Unit -> Shared -> Prop} (hQ:∀ s' O',(∀ b,O' b ≠ none -> O b ≠ none \/ LMut L b) -> SimO C B U O' env (σ.set ix (.lex L st)) s' -> Kb O' s₁ s' -> Q () s'):wpAny C.M A (storeName env nm (.ref L.lx)) Q nf s₁:=by
 classical
 have ne:∀ b o,s.heap.get? b = some o -> ¬ LMut L b:=fun b o g q=>by rw [fr b q] at g; cases g
 have Oa:∀ a,LMut L a -> O a = none:=fun a ha=>by
  cases q:O a with
  | none=>rfl
  | some t=>obtain ⟨o,g⟩:=S.lt a (.inr (nnS q)); rw [fr a ha] at g; cases g
 have Ua:∀ a,LMut L a -> ¬ U a:=fun a ha q=>by obtain ⟨o,g⟩:=S.lt a (.inl q); rw [fr a ha] at g; cases g
 have Ba:∀ a,LMut L a -> B.get a = none:=fun a ha=>by
  cases q:B.get a with
  | none=>rfl
  | some o=>have:=S.keepB a o q; rw [fr a ha] at this; cases this
 have Ha:∀ a,LMut L a -> C.h0.get? a = none:=fun a ha=>by
  cases q:C.h0.get? a with
  | none=>rfl
  | some o=>have:=S.ok.keep a o q; rw [fr a ha] at this; cases this
 have kO:∀ c,O c ≠ none -> ∀ o,s.heap.get? c = some o -> s₁.heap.get? c = some o:=fun c hc o g=>x.keep c o (S.nT hc) g
 let O':Own:=fun b=>if LMut L b then some (.oth ix) else O b
 have put_ne:∀ b,¬ LMut L b -> O' b = O b:=fun b h=>if_neg h
 have put_a:∀ b,LMut L b -> O' b = some (.oth ix):=fun b h=>if_pos h
 have ex:∀ c,O c ≠ none -> ¬ LMut L c:=fun c hc=>by obtain ⟨o,g⟩:=S.lt c (.inr hc); exact ne _ _ g
 have S1:SimO C B U O' env σ s₁:=by
  obtain ⟨m,hm,hv⟩:=S.vars
  refine ⟨x.ok,S.ev,S.tu,S.bt,fun b o g=>x.keep b o (fun q=>by rw [S.bt b q] at g; cases g) (S.keepB b o g),fun b hb=>?_,fun b hb=>?_,fun b hb=>?_,?_,m,?_,fun j y kk av e1 e2=>?_⟩
  ·by_cases q:LMut L b
   ·exact M.ex q
   ·exact x.ex (S.lt b (hb.imp id fun h=>by rwa [put_ne b q] at h))
  ·by_cases q:LMut L b
   ·exact ⟨Ba b q,Ua b q⟩
   ·rw [put_ne b q] at hb; exact S.ob b hb
  ·by_cases q:LMut L b
   ·exact Ha b q
   ·rw [put_ne b q] at hb; exact S.oh b hb
  ·rw [put_ne _ (ex _ (nnS S.hL))]; exact S.hL
  ·obtain ⟨o,es,ep,g,r⟩:=hm
   exact ⟨o,es,ep,kO _ (nnS S.hL) o g,r⟩
  ·have key:∀ c,O c ≠ none -> O' c = O c /\ ∀ o,s.heap.get? c = some o -> s₁.heap.get? c = some o:=fun c hc=>⟨put_ne c (ex c hc),kO c hc⟩
   refine (hv j y kk av e1 e2).step (fun _=>rfl) (fun c hc=>?_) (fun c hc=>?_) (fun c hc=>?_) fun b o n g=>⟨x.keep b o (fun q=>n (S.zt b q)) g,fun q=>n (q.imp id fun h=>by rwa [put_ne b (ne b o g)] at h)⟩
   ·have:=key c (nnS hc); exact ⟨this.1.trans hc,this.2⟩
   ·have:=key c (nnS hc); exact ⟨this.1.trans hc,this.2⟩
   ·have:=key c (nnS hc); exact ⟨this.1.trans hc,this.2⟩
 obtain ⟨kk,av0,e1,e2,e3⟩:=id hx
 refine S1.store_avx (av:=.lex L st) hx (fun m h' kd kx kk hh=>⟨.inl hh,put_a _ (.inl rfl),put_a _ (.inr (.inl rfl)),put_a _ (.inr (.inr rfl)),M.kept fun b hb o g=>kx b ix (put_a b hb) o g⟩) fun s' S' kb=>hQ s' O' (fun b hb=>?_) S' kb
 by_cases q:LMut L b
 ·exact .inr q
 ·rw [put_ne b q] at hb; exact .inl hb
theorem SimO.takeLex (S:SimO C B U O env σ s) {ix:Nat} {x:Str} {kk:NameKind} (hx:env.scope.names[ix]? = some (x,kk)) (hs:σ[ix]? = some (.val (.ref L.lx))) (hP:∀ b,LMut L b -> U b /\ B.get b = none /\ C.h0.get? b = none /\ b ∉ C.T) (M:LexMut L st s.heap) :
  ∃ O',(∀ b,O' b ≠ none -> O b ≠ none \/ LMut L b) /\ SimO C B (fun b=>U b /\ ¬ LMut L b) O' env (σ.set ix (.lex L st)) s:=by
 classical
 let O':Own:=fun b=>if LMut L b then some (.oth ix) else O b
 have put_ne:∀ b,¬ LMut L b -> O' b = O b:=fun b h=>if_neg h
 have put_a:∀ b,LMut L b -> O' b = some (.oth ix):=fun b h=>if_pos h
 have ex:∀ c,O c ≠ none -> ¬ LMut L c:=fun c hc q=>hc (S.uo (hP c q).1)
 have zz:∀ b,¬ Zf U O b -> ¬ Zf (fun b=>U b /\ ¬ LMut L b) O' b:=fun b n q=>by
  rcases q with q | q
  ·exact n (.inl q.1)
  ·by_cases w:LMut L b
   ·exact n (.inl (hP b w).1)
   ·rw [put_ne b w] at q; exact n (.inr q)
 obtain ⟨m,hm,hv⟩:=S.vars
 have hlt:=(List.getElem?_eq_some_iff.mp hs).1
 refine ⟨O',fun b hb=>?_,S.ok,S.ev,fun b hb=>⟨S.tu b hb,fun q=>(hP b q).2.2.2 hb⟩,S.bt,S.keepB,fun b hb=>?_,fun b hb=>?_,fun b hb=>?_,?_,m,hm,fun j y k' av e1 e2=>?_⟩
 ·by_cases q:LMut L b
  ·exact .inr q
  ·rw [put_ne b q] at hb; exact .inl hb
 ·rcases hb with hb | hb
  ·exact S.lt b (.inl hb.1)
  ·by_cases q:LMut L b
   ·exact M.ex q
   ·rw [put_ne b q] at hb; exact S.lt b (.inr hb)
 ·by_cases q:LMut L b
  ·exact ⟨(hP b q).2.1,fun w=>w.2 q⟩
  ·rw [put_ne b q] at hb; exact ⟨(S.ob b hb).1,fun w=>(S.ob b hb).2 w.1⟩
 ·by_cases q:LMut L b
  ·exact (hP b q).2.2.1
  ·rw [put_ne b q] at hb; exact S.oh b hb
 ·rw [put_ne _ (ex _ (nnS S.hL))]; exact S.hL
 ·have key:∀ c,O c ≠ none -> O' c = O c /\ ∀ o,s.heap.get? c = some o -> s.heap.get? c = some o:=fun c hc=>⟨put_ne c (ex c hc),fun _ g=>g⟩
  have stp:∀ {i:Nat} {x:Str} {k:NameKind} {av:AV},VarOk C B U O env m s.heap i x k av -> VarOk C B (fun b=>U b /\ ¬ LMut L b) O' env m s.heap i x k av:=fun {i x k av} h=>by
   refine h.step (fun _=>rfl) (fun c hc=>?_) (fun c hc=>?_) (fun c hc=>?_) fun b o n g=>⟨g,zz b n⟩
   ·have:=key c (nnS hc); exact ⟨this.1.trans hc,this.2⟩
   ·have:=key c (nnS hc); exact ⟨this.1.trans hc,this.2⟩
   ·have:=key c (nnS hc); exact ⟨this.1.trans hc,this.2⟩
  by_cases hj:j = ix
  ·subst hj
   rw [List.getElem?_set_self hlt] at e2
   cases e2
   rw [hx] at e1; cases e1
   have old:=stp (hv j x kk _ hx hs)
   exact ⟨old.imp id fun ⟨q,c,o,w1,w2,w3⟩=>⟨q,c,o,w1,.inr w2,w3⟩,put_a _ (.inl rfl),put_a _ (.inr (.inl rfl)),put_a _ (.inr (.inr rfl)),M⟩
  ·rw [List.getElem?_set_ne (Ne.symm hj)] at e2
   exact stp (hv j y k' av e1 e2)
end
end
section
section
variable {C:Cx} {B:Base} {U:Addr -> Prop} {O:Own} {env:Env} {σ σ':Vars} {s s' s₁:Shared} {k:Nat} {A:Around} {K:Frag} {c:Addr}
noncomputable def lexA0 (lx dx pl al st:Addr) (txt:Str):LexA:=⟨lx,dx,pl,al,st,txt⟩
theorem lex_new {cc P fS fI:Addr} {fdS:FuncData} {name:Str} {params:Arguments} {rbody:List Stmt} {isc:Scope} {yl yn ys:Str} {p1 p2 p3 p4 p5 p6:Pos} {e:Expr} {il:Nat} {text:Str} {ss:List Stmt} {Qf:Flow -> Shared -> Prop}
  (X:K.In C.h0) (hn:GV C yn (.ref c)) (hnk:keepIn K (.ref c) = true) (hng:gl env.scope yn = true) (hsn:GV C ys (.ref fS)) (hsk:Kp C (.ref fS)) (hsg:gl env.scope ys = true)
  (hm:makesIn K c = true) (hi:findIn K (.ref c) "__init__" = some (some (.ref fI))) (hf:typeIn K (.ref fI) = some (.type "function"))
  (hS:∀ {s:Shared} {t:Tok} {A:Around},Room (k + 1) A -> OK C s -> wpAny C.M A (call (.ref fS) [.str text t] []) (fun v s'=>Ext C s s' /\ ∃ st,v = .ref st /\ StreamAt C name params rbody isc (fdS.qualname ++ ".<locals>." ++ name) text s s' st) nf s)
  (hI:∀ {x dx fp:Addr} {s:Shared} {A:Around},Room (k + 1) A -> OK C s -> s.heap.get? x = some (instObj c dx) -> s.heap.get? dx = some emptyDict -> C.h0.get? dx = none ->
   codeAny C.M A (.call (.ref fI) ⟨[.ref x,.ref fp],[]⟩) (fun r s'=>r = .ok (.ret .none) /\ OK C s' /\ (∀ b o,b ∉ C.T -> b ≠ dx -> s.heap.get? b = some o -> s'.heap.get? b = some o) /\
    ∃ (e:LexE) (pl:Addr),s.heap.get? pl = none /\ Lst s'.heap pl [] /\ s'.heap.get? dx = some (dictOf (e.es 1 fp pl) e.n)) s)
  (hR:∀ {h:Heap} {al rd:Addr} {clos:List (Str × Addr)} {doc pm cv ctv:Value},Up C h -> (C.up h).h0.get? al = none -> al ∉ C.T -> CloOk (C.up h) rd (fnX name (fdS.qualname ++ ".<locals>." ++ name) params rbody isc clos .none .none doc pm none cv ctv) rbody 1 clos ->
   CloV (C.up h) isc.names 1 clos [.int 1] [.d (.int 1),.no,.val (.ref al),.sd (.str text),.no] -> ∀ lx dx pl st,RdSpec (C.up h) rd (lexA0 lx dx pl al st text))
  (iks:isc.names.map (·.2) = [.local,.local,.free,.free,.globalImplicit]) (hi1:isc.isCoroutine = false) (hi2:isc.isGenerator = false) (hi3:isc.kind = .function) (hi4:(isc.names.map (·.1)).Nodup)
  (hbind:∀ (body:List Stmt) (clos:List (Str × Addr)) (doc pm cv ctv:Value) (qual:Str) (vs:List Value),vs.length = 1 -> bindArgs (fnX name qual params body isc clos .none .none doc pm none cv ctv) ⟨vs,[]⟩ = pure (((isc.names.take 1).map (·.1)).zip vs))
  (hl:text.length <= 900000) (hok:PyData.strOk text = true)
  (R:Room (k + 2) A) (S:SimO C B U O env σ s) (he:Ev C k env σ e (.str text)) (hst:isStarred e = false) (hx:IsSto env.scope σ yl il)
  (hQ:∀ h L s' O',Up C h -> SimO (C.up h) B U O' env (σ.set il (.lex L ⟨text.cps.toList,1,[]⟩)) s' -> LexFix (C.up h) c L -> L.txt = text -> wpAny C.M A (execs ss env) Qf nf s') :
  wpAny C.M A (execs (.Assign [.Name yl p1] (.Call (.Name yn p2) [.Call (.Name ys p3) [e] [] p4] [] p5) p6 :: ss) env) Qf nf s:=by
 obtain ⟨O0,S0,ho0,hf0⟩:=S.dropF
 have R1:Room (k + 1) A:=R.le (by omega)
 have R0:Room k A:=R.le (by omega)
 have hA:AtSc env env.scope:=AtSc.refl rfl
 refine stepK fun κ hκ=>(wpAny_Assign_Name ?_ (swaps_no (t:=none) (e:=.Call (.Name yn p2) [.Call (.Name ys p3) [e] [] p4] [] p5) rfl))
 show wpAny _ _ (do callWith p5 (<- eval (.Name yn p2) env) [] (backTo p5 (starEach [.Call (.Name ys p3) [e] [] p4] env)) []) _ _ _
 refine wpAny_bind (wpT (GV.ev (k:=k) hn (gl_glob hA hng) B U O0 _ s R0 S0) fun fv s₂ hZ2=>?_); obtain ⟨x2,e2⟩:=hZ2
 subst e2
 have S2:=S0.ext x2
 obtain ⟨PP,P1,P2⟩:=Kp.cls X hnk
 refine callWith_of (P:=PP) rfl P2 (evalArgs_plain (spliced_cons ?_))
 show wpAny _ _ (do callWith p4 (<- eval (.Name ys p3) env) [] (backTo p4 (starEach [e] env)) []) _ _ _
 refine wpAny_bind (wpT (GV.ev (k:=k) hsn (gl_glob hA hsg) B U O0 _ s₂ R0 S2) fun fv s₃ hZ2=>?_); obtain ⟨x3,e3⟩:=hZ2
 subst e3
 have S3:=S2.ext x3
 refine callWith_G (es:=[e]) (ds:=[.str text]) hsk ⟨⟨he,hst⟩,trivial⟩ R0 S3 fun s₄ vs x4 i4=>?_
 replace i4:=i4.iCons; obtain ⟨_,_,hqq,i41,i42⟩:=i4; cases hqq
 cases i42.iNil
 replace i41:=i41.iStr; obtain ⟨t4,hqq⟩:=i41; cases hqq
 have S4:=S3.ext x4
 refine wpT (hS (t:=t4) R1 S4.ok) fun v s₅ ⟨x5,st,ev,str⟩=>spliced_nil ⟨P1 _ (S4.ext x5).ok,?_⟩
 subst ev
 obtain ⟨sd,rd,al,c1,c2,hsh,tk,ta,tt,fs,clos,doc,pm,cv,ctv,xa,xt,fst,fsd,frd,fal,fc1,fc2,gst,gsd,grd,gcv,⟨c',hcv,cT⟩,na,nt,lk1,lk2,cell1,cell2,lal⟩:=str
 have S5:=S4.ext x5
 refine cls_call S5.ok X hm hi hf fun x dx s₆ x6 fx fd hx6 hd6=>?_
 have S6:=S5.ext x6
 have dx0:C.h0.get? dx = none:=S5.ok.frH fd
 refine codeAny_mono (hI (fp:=st) (R.creation _ _ _) S6.ok hx6 hd6 dx0) fun r s₇ ⟨e7,K7,k7,eL,pl,fpl,lpl,gd7⟩=>⟨e7,?_⟩
 have frs:∀ {b:Addr},s₅.heap.get? b = none -> s.heap.get? b = none:=fun {b} h=>x2.fresh' (x3.fresh' (x4.fresh' (x5.fresh' h)))
 have fr4:∀ {b:Addr},s₄.heap.get? b = none -> s.heap.get? b = none:=fun {b} h=>x2.fresh' (x3.fresh' (x4.fresh' h))
 have x06:Ext C s s₆:=(((x2.trans x3).trans x4).trans x5).trans x6
 have xx:Ext C s s₇:=⟨K7,fun b o nT g=>k7 b o nT (fun q=>by rw [q,frs fd] at g; cases g) (x06.keep b o nT g)⟩
 have dT:dx ∉ C.T:=dict_notT K7 gd7
 have al5:=lal
 obtain ⟨nal,gal⟩:=id al5
 have alT:al ∉ C.T:=lst_notT (S4.ext x5).ok al5
 have ald:al ≠ dx:=fun q=>by rw [q,fd] at gal; cases gal
 have gal6:=x6.keep _ _ alT gal
 have pal:pl ≠ al:=fun q=>by rw [q,gal6] at fpl; cases fpl
 have pld:pl ≠ dx:=fun q=>by rw [q,hd6] at fpl; cases fpl
 have gal7:=k7 _ _ alT ald gal6
 have L7:LexMut (lexA0 x dx pl al st text) ⟨text.cps.toList,1,[]⟩ s₇.heap :=
  ⟨⟨eL,gd7⟩,⟨[],lpl,.nil⟩,0,ta,⟨nal,gal7⟩,Nat.zero_le _,by simp; rfl⟩
 have hx':IsSto env.scope σ yl il:=hx
 refine S0.storeLex xx (fun b hb=>?_) L7 hx' fun s₈ O8 hO8 S8 kb8=>hκ _ _ ?_
 ·rcases hb with rfl | rfl | rfl
  ·exact frs fd
  ·exact frs (x6.fresh' fpl)
  ·exact fr4 fal
 obtain ⟨H,SU⟩:=S8.upAll (X:=ownL O8 s₈) (fun b hb=>S8.oh b (ownL_own hb)) fun b hb=>S8.mem_ownL hb
 have inH:∀ b o,b ∉ C.T -> O8 b = none -> s₈.heap.get? b = some o -> (fixH C s₈ (ownL O8 s₈)).get? b = some o:=fun b o h1 h2 g=>hideAll_get _ g fun q=>by
  rcases List.mem_append.mp q with q | q
  ·exact h1 q
  ·exact ownL_own q h2
 have nO0:∀ b,s.heap.get? b = none -> O0 b = none:=fun b hb=>S0.frO hb
 have nO8:∀ b,O0 b = none -> b ≠ dx -> b ≠ pl -> b ≠ al -> O8 b = none:=fun b h0 n1 n2 n3=>by
  cases q:O8 b with
  | none=>rfl
  | some t =>
   rcases hO8 b (nnS q) with w | w | w | w
   ·exact absurd h0 w
   ·exact absurd w n1
   ·exact absurd w n2
   ·exact absurd w n3
 have since5:∀ b o,b ∉ C.T -> O0 b = none -> b ≠ al -> s₅.heap.get? b = some o -> (fixH C s₈ (ownL O8 s₈)).get? b = some o:=fun b o nT h0 na g=>by
  have n1:b ≠ dx:=fun q=>by rw [q,fd] at g; cases g
  have g6:=x6.keep b o nT g
  have n2:b ≠ pl:=fun q=>by rw [q,fpl] at g6; cases g6
  have o8:=nO8 b h0 n1 n2 na
  exact inH b o nT o8 (kb8 b o o8 (k7 b o nT n1 g6))
 have nT5:∀ b o,s₄.heap.get? b = none -> s₅.heap.get? b = some o -> b ∉ C.T:=fun b o f g q=>by
  obtain ⟨ps,g2,_⟩:=S4.ok.tab b q; rw [f] at g2; cases g2
 have ust:=since5 st _ (nT5 _ _ fst gst) (nO0 _ (fr4 fst)) (fun q=>by rw [q,gal] at gst; simp at gst) gst
 have usd:=since5 sd _ (nT5 _ _ fsd gsd) (nO0 _ (fr4 fsd)) (fun q=>by rw [q,gal] at gsd; simp at gsd) gsd
 have urd:=since5 rd _ (nT5 _ _ frd grd) (nO0 _ (fr4 frd)) (fun q=>by rw [q,gal] at grd; simp at grd) grd
 obtain ⟨oc1,gc1,dc1⟩:=cell1
 obtain ⟨oc2,gc2,dc2⟩:=cell2
 have uc1:=since5 c1 _ (nT5 _ _ fc1 gc1) (nO0 _ (fr4 fc1)) (fun q=>by rw [q,gal] at gc1; cases gc1; cases dc1) gc1
 have uc2:=since5 c2 _ (nT5 _ _ fc2 gc2) (nO0 _ (fr4 fc2)) (fun q=>by rw [q,gal] at gc2; cases gc2; cases dc2) gc2
 have ux:(fixH C s₈ (ownL O8 s₈)).get? x = some (instObj c dx):=by
  have xT:=inst_notT S6.ok hx6
  have n1:x ≠ dx:=fun q=>by rw [q,hd6] at hx6; cases hx6
  have n2:x ≠ pl:=fun q=>by rw [q,fpl] at hx6; cases hx6
  have n3:x ≠ al:=fun q=>by rw [q,gal] at fx; cases fx
  have o8:=nO8 x (nO0 _ (frs fx)) n1 n2 n3
  exact inH x _ xT o8 (kb8 x _ o8 (k7 x _ xT n1 hx6))
 have mutH:∀ b,b = dx \/ b = pl \/ b = al -> (fixH C s₈ (ownL O8 s₈)).get? b = none:=fun b hb=>by
  obtain ⟨m8,hm8,hv8⟩:=S8.vars
  obtain ⟨kk,av0,w1,w2,w3⟩:=hx
  have hlt:il < σ.length:=(List.getElem?_eq_some_iff.mp w2).1
  obtain ⟨_,e1,e2,e3,_⟩:=hv8 il yl kk _ w1 (List.getElem?_set_self hlt)
  have hO:O8 b ≠ none:=by
   rcases hb with rfl | rfl | rfl
   ·rw [show O8 b = _ from e1]; simp
   ·rw [show O8 b = _ from e2]; simp
   ·rw [show O8 b = _ from e3]; simp
  exact hideAll_none _ (List.mem_append_right _ (S8.mem_ownL hO))
 have ucode:(fixH C s₈ (ownL O8 s₈)).CodeRec cv (fdS.qualname ++ ".<locals>." ++ name):=by
  obtain ⟨c2',o,vs,t',e,g,d,r⟩:=gcv
  rw [hcv] at e
  cases e
  refine ⟨c',o,vs,t',hcv,since5 c' o cT ?_ (fun q=>by rw [q,gal] at g; cases g; cases d) g,d,r⟩
  cases q:O0 c' with
  | none=>rfl
  | some tg =>
   obtain ⟨o2,g2⟩:=S0.lt c' (.inr (nnS q))
   have nf2:=hf0 c' o2 (nnS q) g2
   have g3:=(((x2.trans x3).trans x4).trans x5).keep c' o2 cT g2
   rw [g] at g3; cases g3
   unfold isFields at nf2; rw [d] at nf2; cases nf2
 have CL:CloOk (C.up (fixH C s₈ (ownL O8 s₈))) rd (fnX name (fdS.qualname ++ ".<locals>." ++ name) params rbody isc clos .none .none doc pm none cv ctv) rbody 1 clos:=by
  refine ⟨⟨_,urd,rfl⟩,ucode,rfl,rfl,rfl,rfl,hi1,hi2,hi3,hi4,hbind _ _ _ _ _ _ _,fun p hp=>?_,fun p hp=>?_,?_⟩
  ·obtain ⟨j,hj⟩:=List.getElem?_of_mem hp
   obtain ⟨y,kk⟩:=p
   rw [List.getElem?_take] at hj
   split at hj
   ·rename_i hlt
    have hk:=ks_at iks hj
    match j,hlt with
    | 0,_=>cases hk; rfl
   ·cases hj
  ·have:p.2 ∈ isc.names.map (·.2):=List.mem_map_of_mem (f:=(·.2)) hp
   rw [iks] at this
   intro q; rw [q] at this; simp at this
  ·have:(isc.names.map (·.2)).length = 5:=by rw [iks]; rfl
   rw [List.length_map] at this
   show 1 <= isc.names.length
   omega
 have CV:CloV (C.up (fixH C s₈ (ownL O8 s₈))) isc.names 1 clos [.int 1] [.d (.int 1),.no,.val (.ref al),.sd (.str text),.no]:=by
  intro j y kk av e1 e2
  match j with
  | 0=>cases e2; exact .inr (.inl ⟨_,by decide,rfl,rfl⟩)
  | 1=>cases e2; exact .inl rfl
  | 2=>cases e2; rw [na] at e1; cases e1; exact .inr (.inr (.inr ⟨rfl,_,c1,oc1,rfl,lk1,uc1,dc1⟩))
  | 3=>cases e2; rw [nt] at e1; cases e1; exact .inr (.inr (.inl ⟨rfl,_,c2,.str text tt,oc2,rfl,lk2,uc2,dc2,.str _ _⟩))
  | 4=>cases e2; exact .inl rfl
  | j + 5=>cases e2
 refine hQ (fixH C s₈ (ownL O8 s₈)) (lexA0 x dx pl al st text) s₈ O8 H SU ⟨ux,mutH _ (.inl rfl),mutH _ (.inr (.inl rfl)),mutH _ (.inr (.inr rfl)),Ne.symm pld,Ne.symm ald,pal,⟨sd,rd,hsh,tk,1,fs,ust,usd,Kp.fn urd rfl,hR H (mutH _ (.inr (.inr rfl))) alT CL CV x dx pl st⟩,hl,hok⟩ rfl
end
end
section
structure LexOps (C:Cx) (K:Frag) (k:Nat) (c:Addr) (L:LexA):Prop where
 fx:LexFix C c L
 y:ClsOk K c lexNames
 x:K.In C.h0
 tok:∃ f,findIn K (.ref c) "get_token" = some (some (.ref f)) /\ isFn K (.ref f) = true /\ (∃ o fd,C.h0.get? f = some o /\ o.data = .func fd) /\ ∀ st x st',st.pb.length <= 1000 -> tokF st = some (x,st') -> LexT C k L f st x st'
 psh:∃ f,findIn K (.ref c) "push_token" = some (some (.ref f)) /\ isFn K (.ref f) = true /\ (∃ o fd,C.h0.get? f = some o /\ o.data = .func fd) /\ ∀ st w,st.pb.length <= 1000 -> LexP C k L f st w
section
variable {C:Cx} {B:Base} {U:Addr -> Prop} {O:Own} {env:Env} {σ σ':Vars} {s s' s₁:Shared} {k:Nat} {A:Around} {K:Frag} {c:Addr} {L:LexA} {st st':LexSt}
theorem SimO.loadLex (S:SimO C B U O env σ s) {x:Str} {i:Nat} {pos:Pos} {Q:Value -> Shared -> Prop} (hx:IsVar env.scope x i) (hs:σ[i]? = some (.lex L st)) (hb:(x == ("__debug__":Str)) = false) (hc:(x == ("__classdict__":Str)) = false) (hQ:Q (.ref L.lx) s):wpAny C.M A (PySem.eval (.Name x pos) env) Q nf s:=by
 obtain ⟨k,e1,e2⟩:=hx.kind S.ev
 obtain ⟨m,hm,hv⟩:=S.vars
 refine wpAny_Name ?_ hb
 rcases (hv i x k _ e1 hs).1 with (⟨rfl,q⟩ | ⟨rfl,c,c1,c2,c3⟩) | ⟨hk,c,o,c1,c2,c3⟩
 ·exact wpAny_loadName_local S.ev.kind e2 hm q hQ
 ·exact wpAny_loadName_cell S.ev.kind e2 c1 c3 hQ
 ·have hcell:s.heap.IsCell c (some (.ref L.lx)):=⟨o,c2.elim (S.keepB c o) (S.ok.keep c o),c3⟩
  rcases hk with rfl | rfl
  ·exact wpAny_loadName_cell S.ev.kind e2 c1 hcell hQ
  ·exact wpAny_loadName_free S.ev.kind e2 c1 hcell hQ hc
theorem SimO.lexMut (S:SimO C B U O env σ s) {x:Str} {i:Nat} (hx:IsVar env.scope x i) (hs:σ[i]? = some (.lex L st)):LexMut L st s.heap /\ ∀ b,LMut L b -> O b = some (.oth i):=by
 obtain ⟨k,e1⟩:=hx.get
 obtain ⟨m,hm,hv⟩:=S.vars
 obtain ⟨_,h1,h2,h3,h4⟩:=hv i x k _ e1 hs
 exact ⟨h4,fun b hb=>by
  rcases hb with rfl | rfl | rfl
  ·exact h1
  ·exact h2
  ·exact h3⟩
theorem SimO.moveLex (S:SimO C B U O env σ s) {x:Str} {i:Nat} (hx:IsVar env.scope x i) (hs:σ[i]? = some (.lex L st)) (K':OK C s') (kp:LKeep C L s s') (M:LexMut L st' s'.heap):SimO C B U O env (σ.set i (.lex L st')) s':=by
 obtain ⟨M0,hO⟩:=S.lexMut hx hs
 obtain ⟨kk,e0⟩:=hx.get
 obtain ⟨m,hm,hv⟩:=S.vars
 have hlt:=(List.getElem?_eq_some_iff.mp hs).1
 have nM:∀ b t,O b = some t -> t ≠ .oth i -> ¬ LMut L b:=fun b t h n q=>by rw [hO b q] at h; cases h; exact n rfl
 have kO:∀ b t,O b = some t -> t ≠ .oth i -> ∀ o,s.heap.get? b = some o -> s'.heap.get? b = some o:=fun b t h n o g=>kp b o (S.nT (nnS h)) (nM b t h n) g
 have kD:∀ b o,¬ Zf U O b -> s.heap.get? b = some o -> s'.heap.get? b = some o:=fun b o n g=>kp b o (fun q=>n (S.zt b q)) (fun q=>n (.inr (nnS (hO b q)))) g
 refine ⟨K',S.ev,S.tu,S.bt,fun b o e=>kp b o (fun q=>by rw [S.bt b q] at e; cases e) (fun q=>by rw [(S.ob b (nnS (hO b q))).1] at e; cases e) (S.keepB b o e),fun b hb=>?_,S.ob,S.oh,S.hL,m,?_,fun j y k' av e1 e2=>?_⟩
 ·by_cases q:LMut L b
  ·exact M.ex q
  ·by_cases hT:b ∈ C.T
   ·obtain ⟨ps,g,_⟩:=K'.tab b hT; exact ⟨_,g⟩
   ·obtain ⟨o,g⟩:=S.lt b hb; exact ⟨o,kp b o hT q g⟩
 ·obtain ⟨o,es,ep,g,r⟩:=hm
  exact ⟨o,es,ep,kO _ _ S.hL (by simp) o g,r⟩
 ·by_cases hj:j = i
  ·subst hj
   rw [List.getElem?_set_self hlt] at e2
   cases e2
   rw [e0] at e1; cases e1
   obtain ⟨h1,h2,h3,h4,h5⟩:=hv j x kk _ e0 hs
   exact ⟨h1.imp (fun h=>h.step (fun _=>rfl) fun c hc=>⟨hc,kO c _ hc (by simp)⟩) id,h2,h3,h4,M⟩
  ·rw [List.getElem?_set_ne (Ne.symm hj)] at e2
   exact (hv j y k' av e1 e2).step (fun _=>rfl) (fun c hc=>⟨hc,kO c _ hc (by simp)⟩) (fun c hc=>⟨hc,kO c _ hc (by simp)⟩) (fun c hc=>⟨hc,kO c _ hc (fun q=>hj (by cases q <;> rfl))⟩) fun b o n g=>⟨kD b o n g,n⟩
theorem tok_wp (H:LexOps C K k c L) (R:Room k A) (S:SimO C B U O env σ s) {y:Str} {l:Nat} {p1 p2 p3:Pos} (hy:IsVar env.scope y l) (h1:(y == ("__debug__":Str)) = false) (h2:(y == ("__classdict__":Str)) = false) (hp:(p2.endLine == p3.line) = true) (hs:σ[l]? = some (.lex L st)) (hpb:st.pb.length <= 1000) {w:Str} (ht:tokF st = some (w,st'))
  {Q:Value -> Shared -> Prop} (hQ:∀ s' t,SimO C B U O env (σ.set l (.lex L st')) s' -> LKeep C L s s' -> Q (.str w t) s'):wpAny C.M A (eval (.Call (.Attribute (.Name y p1) "get_token" p2) [] [] p3) env) Q nf s:=by
 obtain ⟨f,f1,f2,⟨o,fd,f3,f4⟩,f5⟩:=H.tok
 obtain ⟨M,hO⟩:=S.lexMut hy hs
 obtain ⟨⟨enn,gd⟩,_⟩:=id M
 refine MethodCall_ (S.loadLex hy hs h1 h2 ?_) (meth_eq (by rfl) (by simp) hp rfl)
 refine inst_meth H.y (H.x.keeps S.ok.keep) (S.ok.keep _ _ H.fx.lx) gd f1 f2 (by kernel_rfl) ?_
 refine callWith_G (es:=[]) (ds:=[]) (Kp.fn f3 f4) trivial R S fun s₂ vs x2 i2=>?_
 cases i2
 have S2:=S.ext x2
 refine wpAny_call (codeAny_mono (f5 st w st' hpb ht A s₂ R S2.ok (M.ext x2 S.ok)) fun r s₃ hZ2=>?_); obtain ⟨tv,e,K3,k3,M3⟩:=hZ2
 subst e
 exact hQ s₃ tv (S2.moveLex hy hs K3 k3 M3) ((LKeep.ext x2).trans k3)
theorem psh_wp (H:LexOps C K k c L) (R:Room k A) (S:SimO C B U O env σ s) {y:Str} {l:Nat} {p1 p2 p3:Pos} {e:Expr} {w:Str} (hy:IsVar env.scope y l) (h1:(y == ("__debug__":Str)) = false) (h2:(y == ("__classdict__":Str)) = false) (hp:(p2.endLine == p3.line) = true) (hs:σ[l]? = some (.lex L st)) (hpb:st.pb.length <= 1000) (he:Ev C k env σ e (.str w)) (hst:isStarred e = false)
  {Q:Value -> Shared -> Prop} (hQ:∀ s',SimO C B U O env (σ.set l (.lex L { rest:=st.rest,line:=st.line,pb:=st.pb ++ [w] })) s' -> Q .none s'):wpAny C.M A (eval (.Call (.Attribute (.Name y p1) "push_token" p2) [e] [] p3) env) Q nf s:=by
 obtain ⟨f,f1,f2,⟨o,fd,f3,f4⟩,f5⟩:=H.psh
 obtain ⟨M,hO⟩:=S.lexMut hy hs
 obtain ⟨⟨enn,gd⟩,_⟩:=id M
 have eA:EvL C k env σ [e] [.str w]:=⟨⟨he,hst⟩,trivial⟩
 refine MethodCall_ (S.loadLex hy hs h1 h2 ?_) (meth_eq (by rfl) (by simp) hp (EvL.stars eA))
 refine inst_meth H.y (H.x.keeps S.ok.keep) (S.ok.keep _ _ H.fx.lx) gd f1 f2 (by kernel_rfl) ?_
 refine callWith_G (Kp.fn f3 f4) eA R S fun s₂ vs x2 i2=>?_
 replace i2:=i2.iCons; obtain ⟨_,_,hqq,i21,i22⟩:=i2; cases hqq
 cases i22.iNil
 replace i21:=i21.iStr; obtain ⟨t2,hqq⟩:=i21; cases hqq
 have S2:=S.ext x2
 refine wpAny_call (codeAny_mono (f5 st w hpb A s₂ t2 R S2.ok (M.ext x2 S.ok)) fun r s₃ hZ2=>?_); obtain ⟨e,K3,k3,M3⟩:=hZ2
 subst e
 exact hQ s₃ (S2.moveLex hy hs K3 k3 M3)
end
inductive SX where
 | st (s:St) | tok (i:Nat) | psh (e:E) | for_ (tg:Tg) (it:It) (body:List SX)
noncomputable def okSt (l:Nat):St -> Bool
 | .asg i _=>i != l
 | .asgO i _=>i != l
 | .asgC i _=>i != l
 | .app i _=>i != l
 | .ret _=>true
 | _=>false
noncomputable def okTg (l:Nat):Tg -> Bool
 | .one i=>i != l
 | .two i j=>i != l && j != l
mutual
noncomputable def evSX (g:G) (ks:List NameKind) (l:Nat):SX -> Vars -> Option (Fl × Vars)
 | .st s,σ=>if okSt l s = true then evS g ks s σ else none
 | .tok i,σ=>match σ[l]? with
  | some (.lex L st)=>if st.pb.length <= 1000 /\ i ≠ l then (match tokF st with
   | some (w,st')=>(putV ks (σ.set l (.lex L st')) i (.d (.str w))).map fun σ'=>(.next,σ')
   | none=>none) else none
  | _=>none
 | .psh e,σ=>match σ[l]?,evX g σ e with
  | some (.lex L st),some (.str w)=>if st.pb.length <= 1000 then some (.next,σ.set l (.lex L { rest:=st.rest,line:=st.line,pb:=st.pb ++ [w] })) else none
  | _,_=>none
 | .for_ tg it body,σ=>if okTg l tg = true then (match evI g it σ with
  | some items=>loopF (fun d σ'=>match setT ks σ' tg d with
   | some σ₂=>evBX g ks l body σ₂
   | none=>none) items σ
  | none=>none) else none
noncomputable def evBX (g:G) (ks:List NameKind) (l:Nat):List SX -> Vars -> Option (Fl × Vars)
 | [],σ=>some (.next,σ)
 | .st (.frz i) :: ss,σ=>evBX g ks l ss (frz1 i σ)
 | s :: ss,σ=>match evSX g ks l s σ with
  | some (.next,σ')=>evBX g ks l ss σ'
  | some (fl,σ')=>some (fl,σ')
  | none=>none
end
mutual
noncomputable def repSX (nm:Nat -> Str) (sc:Scope) (l:Nat) (ir:SX) (s:Stmt):Bool:=match ir with
 | .st t=>repS nm sc t s
 | .tok i=>sAs1 s fun x _ v _=>kMt v fun o m ap es cp=>kName o fun y _=>kNil es && (vr sc i x && vr sc l y && m == ("get_token":Str) && ap.endLine == cp.line)
 | .psh e=>sMt s fun y m ap es cp=>k1 es fun v=>vr sc l y && m == ("push_token":Str) && !isStarred v && ap.endLine == cp.line && repE nm sc e v
 | .for_ tg it body=>sFor s fun t i b o _=>kNil o && (repTg sc tg t && repI nm sc it i && repBX nm sc l body b)
noncomputable def repBX (nm:Nat -> Str) (sc:Scope) (l:Nat) (irs:List SX) (ss:List Stmt):Bool:=match irs with
 | []=>kNil ss
 | .st (.frz _) :: irs=>repBX nm sc l irs ss
 | ir :: irs=>kCons ss fun s ss=>repSX nm sc l ir s && repBX nm sc l irs ss
end
end
section
noncomputable def HasL (L:LexA) (l:Nat) (σ:Vars):Prop:=∃ st,σ[l]? = some (.lex L st)
theorem HasL.set {L:LexA} {l i:Nat} {σ:Vars} {av:AV} (h:HasL L l σ) (n:i ≠ l):HasL L l (σ.set i av):=by
 obtain ⟨st,h⟩:=h
 exact ⟨st,by rw [List.getElem?_set_ne n]; exact h⟩
theorem HasL.setL {L:LexA} {l:Nat} {σ:Vars} (h:HasL L l σ) (st:LexSt):HasL L l (σ.set l (.lex L st)):=by
 obtain ⟨st0,h⟩:=h
 exact ⟨st,List.getElem?_set_self (List.getElem?_eq_some_iff.mp h).1⟩
set_option tactic.hygienic true in
theorem HasL.frz1 {L:LexA} {l i:Nat} {σ:Vars} (h:HasL L l σ):HasL L l (frz1 i σ):=by
 unfold Mine.frz1
 split
 ·rename_i l' q
  refine h.set fun e=>?_
  obtain ⟨st,h⟩:=h
  rw [e,h] at q; cases q
 ·exact h
theorem HasL.frzAll {L:LexA} {l:Nat} {σ:Vars} (h:HasL L l σ):HasL L l (frzAll σ):=by
 obtain ⟨st,h⟩:=h
 exact ⟨st,by unfold Mine.frzAll; rw [List.getElem?_map,h]; rfl⟩
section
variable {C:Cx} {k:Nat} {g:G} {nm:Nat -> Str} {env:Env} {sc:Scope} {K:Frag} {c:Addr} {L:LexA}
theorem mLex {γ:Type} {d:γ} {P:Prop} {o:Option AV} {f:LexA -> LexSt -> Option γ} (h:(match o with | some (.lex L st)=>f L st | _=>none) = some d) (k:∀ L st,o = some (.lex L st) -> f L st = some d -> P):P:=by
 cases o with
 | none=>cases h
 | some x=>cases x with
  | lex L st=>exact k L st rfl h
  | _=>cases h
theorem mLexS {γ:Type} {d:γ} {P:Prop} {o:Option AV} {o2:Option D} {f:LexA -> LexSt -> Str -> Option γ} (h:(match o,o2 with | some (.lex L st),some (.str w)=>f L st w | _,_=>none) = some d) (k:∀ L st w,o = some (.lex L st) -> o2 = some (.str w) -> f L st w = some d -> P):P:=by
 cases o with
 | none=>cases h
 | some x=>cases x with
  | lex L st=>cases o2 with
   | none=>cases h
   | some y=>cases y with
    | str w=>exact k L st w rfl rfl h
    | _=>cases h
  | _=>cases h
theorem mTok {γ:Type} {d:γ} {P:Prop} {o:Option (Str × LexSt)} {f:Str -> LexSt -> Option γ} (h:(match o with | some (w,st)=>f w st | none=>none) = some d) (k:∀ w st,o = some (w,st) -> f w st = some d -> P):P:=by
 cases o with
 | none=>cases h
 | some x=>exact k x.1 x.2 rfl h
theorem HasL.eq {l:Nat} {σ:Vars} {L':LexA} {st:LexSt} (h:HasL L l σ) (q:σ[l]? = some (.lex L' st)):L' = L:=by
 obtain ⟨st0,h⟩:=h
 have:=q.symm.trans h
 cases this <;> rfl
theorem ne_t {i l:Nat} (h:(i != l) = true):i ≠ l:=bne_iff_ne.mp h
theorem okSt_inv {ks:List NameKind} {l:Nat} {t:St} {σ σ':Vars} {fl:Fl} (h:okSt l t = true) (he:evS g ks t σ = some (fl,σ')) (hl:HasL L l σ):HasL L l σ':=by
 cases t with
 | asg i e=>exact mD he fun d q he=>put_t (P:=fun _ v=>HasL L l v) he fun q1=>hl.set (ne_t h)
 | asgC i e=>exact mD he fun d q he=>put_t (P:=fun _ v=>HasL L l v) he fun q1=>hl.set (ne_t h)
 | asgO i e=>exact mL he fun d q he=>put_t (P:=fun _ v=>HasL L l v) he fun q1=>hl.set (ne_t h)
 | app i e=>exact mLD he fun d d2 q q2 he=>ite_t he fun _ he=>by cases he; exact hl.set (ne_t h)
 | ret e=>exact mD he fun d q he=>by cases he; exact hl.frzAll
 | _=>cases h
theorem okTg_inv {ks:List NameKind} {l:Nat} {tg:Tg} {σ σ':Vars} {d:D} (h:okTg l tg = true) (he:setT ks σ tg d = some σ') (hl:HasL L l σ):HasL L l σ':=by
 cases tg with
 | one i=>obtain ⟨_,rfl⟩:=setT_one he; exact hl.set (by simpa [okTg] using h)
 | two i j =>
  obtain ⟨a,b,_,_,_,_,rfl⟩:=setT_two he
  simp only [okTg,Bool.and_eq_true,bne_iff_ne,ne_eq] at h
  exact (hl.set h.1).set h.2
theorem loopF_inv {body:D -> Vars -> Option (Fl × Vars)} {P:Vars -> Prop} (hb:∀ d σ fl σ',P σ -> body d σ = some (fl,σ') -> P σ'):∀ (items:List D) {σ σ':Vars} {fl:Fl},P σ -> loopF body items σ = some (fl,σ') -> P σ'
 | [],σ,σ',fl,h,he=>by cases he; exact h
 | d :: ds,σ,σ',fl,h,he=>by
  rw [loopF] at he
  cases w:body d σ with
  | none=>rw [w] at he; cases he
  | some r =>
   obtain ⟨f1,σ₁⟩:=r
   rw [w] at he
   have h1:=hb d σ f1 σ₁ h w
   cases f1 with
   | next=>exact loopF_inv hb ds h1 he
   | cont=>exact loopF_inv hb ds h1 he
   | brk=>cases he; exact h1
   | ret d=>cases he; exact h1
theorem evBX_cons {ks:List NameKind} {l:Nat} {st:SX} {irs:List SX} {σ:Vars} (hf:¬ ∃ i,st = .st (.frz i)):evBX g ks l (st :: irs) σ = (match evSX g ks l st σ with
  | some (.next,σ')=>evBX g ks l irs σ'
  | some (fl,σ')=>some (fl,σ')
  | none=>none):=by
 cases st with
 | st t=>cases t <;> first | rfl | exact absurd ⟨_,rfl⟩ hf
 | _=>rfl
theorem repBX_cons {l:Nat} {st:SX} {irs:List SX} {ss:List Stmt} (hf:¬ ∃ i,st = .st (.frz i)):repBX nm sc l (st :: irs) ss = kCons ss fun s ss=>repSX nm sc l st s && repBX nm sc l irs ss:=by
 cases st with
 | st t=>cases t <;> first | rfl | exact absurd ⟨_,rfl⟩ hf
 | _=>rfl
mutual
theorem evSX_inv {ks:List NameKind} {l:Nat}:∀ (ir:SX) {σ σ':Vars} {fl:Fl},HasL L l σ -> evSX g ks l ir σ = some (fl,σ') -> HasL L l σ'
 | .st t,σ,σ',fl,hl,he=>ite_t (o:=evS g ks t σ) he fun h he=>okSt_inv h he hl
 | .tok i,σ,σ',fl,hl,he=>mLex he fun L' st q he=>ite_t he fun hc he=>mTok he fun w st' q2 he=>put_t (P:=fun _ v=>HasL L l v) he fun q1=>by
  rw [hl.eq q]; exact (hl.setL st').set hc.2
 | .psh e,σ,σ',fl,hl,he=>mLexS he fun L' st w q q2 he=>ite_t he fun hc he=>by
  cases he; rw [hl.eq q]; exact hl.setL _
 | .for_ tg it body,σ,σ',fl,hl,he=>ite_t (c:=okTg l tg = true) he fun hok he=>mL he fun items w he=>by
  refine loopF_inv (P:=HasL L l) (fun d σ₁ f1 σ₂ h1 h2=>?_) items hl he
  cases w2:setT ks σ₁ tg d with
  | none=>rw [w2] at h2; cases h2
  | some σ₃=>rw [w2] at h2; exact evBX_inv body (okTg_inv hok w2 h1) h2
theorem evBX_inv {ks:List NameKind} {l:Nat}:∀ (irs:List SX) {σ σ':Vars} {fl:Fl},HasL L l σ -> evBX g ks l irs σ = some (fl,σ') -> HasL L l σ'
 | [],σ,σ',fl,hl,he=>by cases he; exact hl
 | st :: irs,σ,σ',fl,hl,he=>by
  by_cases hf:∃ i,st = .st (.frz i)
  ·obtain ⟨i,rfl⟩:=hf
   exact evBX_inv irs hl.frz1 he
  ·have he:=(evBX_cons hf).symm.trans he
   cases w:evSX g ks l st σ with
   | none=>rw [w] at he; cases he
   | some r =>
    obtain ⟨f1,σ₁⟩:=r
    rw [w] at he
    have a2:=evSX_inv st hl w
    cases f1 with
    | next=>exact evBX_inv irs a2 he
    | brk=>cases he; exact a2
    | cont=>cases he; exact a2
    | ret d=>cases he; exact a2
end
theorem evSX_tok {ks:List NameKind} {l:Nat} (HL:LexOps C K k c L) (hA:AtSc env sc) (hks:sc.names.map (·.2) = ks) (i:Nat) {s:Stmt} {σ σ':Vars} {fl:Fl} (hr:repSX nm sc l (.tok i) s = true) (hl:HasL L l σ) (he:evSX g ks l (.tok i) σ = some (fl,σ')):ExS C k env σ s (Fin1 fl σ'):=by
 refine sAs1_t (e:=s) hr fun x px v p hr=>kMt_t (e:=v) hr fun o m ap es cp hr=>kName_t (e:=o) hr fun y py hr=>and2 hr fun hn hr=>kNil_t (l:=es) hn <| and4 hr fun h0 h1 hm h2 =>
  mLex he fun L' st q he=>ite_t he fun hc he=>mTok he fun w st' htok he=>put_t he fun hst=>?_
 cases eq_of_beq hm
 cases hl.eq q
 intro B U A s R hS
 refine wpAny_Assign_Name (hS.elim fun O S=>tok_wp (Q:=fun v s'=>_) HL R S (vr_var hA h1).1 (vr_var hA h1).2.1 (vr_var hA h1).2.2 h2 q hc.1 htok fun s' t S' _=>?_) (swaps_no (t:=none) rfl)
 exact S'.store (hA.isSto (stoB_val hks h0 hst)) (.str _ t) fun s'' S'' _=>⟨O,_,.next,S'',trivial,rfl,rfl⟩
theorem evSX_psh {ks:List NameKind} {l:Nat} (H:Gd C k g nm) (HL:LexOps C K k c L) (hE:EnvOk env) (hA:AtSc env sc) (e:E) {s:Stmt} {σ σ':Vars} {fl:Fl} (hr:repSX nm sc l (.psh e) s = true) (hl:HasL L l σ) (he:evSX g ks l (.psh e) σ = some (fl,σ')):ExS C k env σ s (Fin1 fl σ'):=by
 refine sMt_t (e:=s) hr fun y py m ap es cp p hr=>k1_t (l:=es) hr fun v hr=>and5 hr fun h1 hm h3 h2 h4 =>
  mLexS he fun L' st w q e2 he=>ite_t he fun hc he=>?_
 cases eq_of_beq hm
 cases hl.eq q
 cases he
 intro B U A s R hS
 refine wpAny_Expr_any ?_ (notInter hE) rfl
 exact hS.elim fun O S=>psh_wp HL R S (vr_var hA h1).1 (vr_var hA h1).2.1 (vr_var hA h1).2.2 h2 q hc (evX_s H hA h4 e2) (nt h3) fun s' S'=>⟨O,_,.next,S',trivial,rfl,rfl⟩
mutual
theorem evSX_s {ks:List NameKind} {l:Nat} (H:Gd C k g nm) (HL:LexOps C K k c L) (hE:EnvOk env) (hA:AtSc env sc) (hks:sc.names.map (·.2) = ks):∀ (ir:SX) {s:Stmt} {σ σ':Vars} {fl:Fl},repSX nm sc l ir s = true -> HasL L l σ -> evSX g ks l ir σ = some (fl,σ') -> ExS C k env σ s (Fin1 fl σ')
 | .st t,s,σ,σ',fl,hr,hl,he=>ite_t (o:=evS g ks t σ) he fun _ he=>evS_s H hE hA hks t hr he
 | .tok i,s,σ,σ',fl,hr,hl,he=>evSX_tok HL hA hks i hr hl he
 | .psh e,s,σ,σ',fl,hr,hl,he=>evSX_psh H HL hE hA e hr hl he
 | .for_ tg it body,s,σ,σ',fl,hr,hl,he=>sFor_t (e:=s) hr fun t i b o p hr=>and2 hr fun h0 hr=>kNil_t (l:=o) h0 <| and3 hr fun h0 h1 h2=>ite_t (c:=okTg l tg = true) he fun hok he=>mL he fun items w he =>
  for_P (F:=fun σ₂=>evBX g ks l body σ₂) (HasL L l) (evI_s H it hA h1 w) (fun d σ₁ σ₂ w=>setT_as hA hks h0 w) hl (fun d σ₁ σ₂ h1 w2=>okTg_inv hok w2 h1) (fun σ₁ σ₂ f1 hl2 w3=>⟨evBX_s H HL hE hA hks body h2 hl2 w3,evBX_inv body hl2 w3⟩) he
theorem evBX_s {ks:List NameKind} {l:Nat} (H:Gd C k g nm) (HL:LexOps C K k c L) (hE:EnvOk env) (hA:AtSc env sc) (hks:sc.names.map (·.2) = ks):∀ (irs:List SX) {ss:List Stmt} {σ σ':Vars} {fl:Fl},repBX nm sc l irs ss = true -> HasL L l σ -> evBX g ks l irs σ = some (fl,σ') -> Ex C k env σ ss (Fin1 fl σ')
 | [],ss,σ,σ',fl,hr,hl,he=>kNil_t (l:=ss) hr (by cases he; exact Ex.nil ⟨rfl,rfl⟩)
 | st :: irs,ss,σ,σ',fl,hr,hl,he=>by
  by_cases hf:∃ i,st = .st (.frz i)
  ·obtain ⟨i,rfl⟩:=hf
   exact ExG.frz (fun j=>j == i) (by rw [<- frz1_eq]; exact evBX_s H HL hE hA hks irs hr hl.frz1 he)
  ·refine kCons_t (l:=ss) ((repBX_cons hf).symm.trans hr) fun s ss hr=>and2 hr fun h0 h1=>?_
   have he:=(evBX_cons hf).symm.trans he
   cases w:evSX g ks l st σ with
   | none=>rw [w] at he; cases he
   | some r =>
    obtain ⟨f1,σ₁⟩:=r
    rw [w] at he
    have a2:=evSX_inv st hl w
    refine Ex.cons ((evSX_s H HL hE hA hks st h0 hl w).mono fun f2 σ₂ e12=>?_)
    obtain ⟨e1,e2⟩:=e12
    subst e1 e2
    cases f2 with
    | next=>exact evBX_s H HL hE hA hks irs h1 a2 he
    | brk=>cases he; exact ⟨rfl,rfl⟩
    | cont=>cases he; exact ⟨rfl,rfl⟩
    | ret d=>cases he; exact ⟨rfl,rfl⟩
end
end
end
section
noncomputable def LexC (C:Cx) (k:Nat) (L:LexA) (a:Addr) (st:LexSt) (ds:List D) (d:D) (st':LexSt):Prop :=
 ∀ Z A s vs,Room k A -> OK C s -> ZOk C Z s -> (∀ b,LMut L b -> Z b) -> LexMut L st s.heap -> IsDs C Z s.heap vs ds ->
  codeAny C.M A (.call (.ref a) ⟨.ref L.lx :: vs,[]⟩) (fun r s'=>∃ v,r = .ok (.ret v) /\ OK C s' /\ LKeep C L s s' /\ LexMut L st' s'.heap /\ IsD C Z s'.heap v d) s
section
variable {C:Cx} {k:Nat} {K:Frag} {c:Addr} {L:LexA} {st st':LexSt}
theorem lexfn_enter {a:Addr} {fd:FuncData} {body:List Stmt} {n:Nat} {ds:List D} {Z:Addr -> Prop} {A:Around} {s:Shared} {vs:List Value} {ks:List NameKind} (F:FnOk C a fd body (n + 1)) (hds:ds.length = n) (hks:fd.scope.names.map (·.2) = ks) (FX:LexFix C c L) (R:Room (k + 1) A) (Ks:OK C s) (z:ZOk C Z s) (hZ:∀ b,LMut L b -> Z b) (M:LexMut L st s.heap) (i:IsDs C Z s.heap vs ds)
  {Q:Value -> Shared -> Prop}
  (h:∀ env s₁ B O,AtSc env fd.scope -> EnvOk env -> env.scope = fd.scope -> Room k (A.deeper env) -> SimO C B (fun b=>Z b /\ ¬ LMut L b) O env (initA ks (.lex L st :: ds.map .d)) s₁ ->
   (∀ {O':Own} {σ':Vars} {s':Shared},SimO C B (fun b=>Z b /\ ¬ LMut L b) O' env σ' s' -> LKeep C L s s') ->
   wpAny C.M (A.deeper env) (execs body env) (fun f s'=>Q (match f with | .ret v=>v | _=>.none) s') nf s₁) :
  codeAny C.M A (.call (.ref a) ⟨.ref L.lx :: vs,[]⟩) (fun r s'=>∃ v,r = .ok (.ret v) /\ Q v s') s:=by
 have hl:=i.length
 refine fn_enter F (Z:=Z) (P:=LMut L) R Ks z (by rw [List.length_cons]; omega) (.val (.ref L.lx) :: ds.map .d) (by rw [List.length_cons,List.length_map]; omega) (fun j v av e1 e2=>?_) fun env s₁ B O hA hE hcq x1 R1 S hB hPB hO'=>?_
 ·cases j with
  | zero=>cases e1; cases e2; exact .inl rfl
  | succ j =>
   rw [List.getElem?_cons_succ] at e1 e2
   rw [List.getElem?_map] at e2
   cases q:ds[j]? with
   | none=>rw [q] at e2; cases e2
   | some d =>
    rw [q] at e2; cases e2
    obtain ⟨v',g1,g2⟩:=i.get j q
    rw [e1] at g1; cases g1
    exact .inr ⟨d,rfl,g2⟩
 rw [hks] at S
 have M1:=M.ext x1 Ks
 obtain ⟨x0,k0,hx0⟩:∃ x kk,env.scope.names[0]? = some (x,kk):=by
  have:0 < fd.scope.names.length:=by have:=F.len; omega
  exact ⟨(fd.scope.names[0]'this).1,(fd.scope.names[0]'this).2,by rw [hcq.1,List.getElem?_eq_getElem this]⟩
 have hk0:0 < ks.length:=by rw [<- hks,List.length_map]; have:=F.len; omega
 have hi0:(initA ks (.val (.ref L.lx) :: ds.map .d))[0]? = some (.val (.ref L.lx)):=by
  cases ks with
  | nil=>simp at hk0
  | cons a r=>rfl
 obtain ⟨O2,_,S2⟩:=S.takeLex hx0 hi0 (fun b hb=>⟨hZ b hb,hPB b hb,FX.h0 hb,M1.notT S.ok hb⟩) M1
 have es:(initA ks (.val (.ref L.lx) :: ds.map .d)).set 0 (.lex L st) = initA ks (.lex L st :: ds.map .d):=by
  cases ks with
  | nil=>simp at hk0
  | cons a r=>rfl
 rw [es] at S2
 exact wpAny_mono (h env s₁ B O2 hA hE hcq.1 R1 S2 fun {O' σ' s'} S' b o nT nm g=>S'.keepB b o (hB b o nT nm g)) (fun f s' hq=>⟨_,rfl,hq⟩) fun _ _ e=>e
theorem lexfn_run {g:G} {nm:Nat -> Str} {a:Addr} {fd:FuncData} {body:List Stmt} {n:Nat} {ir:List SX} {ks:List NameKind} {ds:List D} {d:D} {fl:Fl} {σ':Vars} (F:FnOk C a fd body (n + 1)) (H:Gd C k g nm) (HL:LexOps C K k c L) (hds:ds.length = n) (hks:fd.scope.names.map (·.2) = ks)
  (hr:repBX nm fd.scope 0 ir body = true) (he:evBX g ks 0 ir (initA ks (.lex L st :: ds.map .d)) = some (fl,σ')) (hf:fl = .ret d \/ (fl = .next /\ d = .none)) (hs':σ'[0]? = some (.lex L st')):LexC C (k + 1) L a st ds d st':=by
 intro Z A s vs R Ks z hZ M i
 refine lexfn_enter F hds hks HL.fx R Ks z hZ M i fun env s₁ B O hA hE hsc R1 S hLK=>?_
 have hk0:0 < ks.length:=by rw [<- hks,List.length_map]; have:=F.len; omega
 have hL0:HasL L 0 (initA ks (.lex L st :: ds.map .d)):=by
  cases ks with
  | nil=>simp at hk0
  | cons a r=>exact ⟨st,rfl⟩
 refine wpT (evBX_s H HL hE hA hks ir hr hL0 he B _ _ s₁ R1 ⟨O,S⟩) fun f s' hZ2=>?_; obtain ⟨O',σ2,fl2,S',hfl,e1,e2⟩:=hZ2
 subst e1 e2
 obtain ⟨x0,kk0,hx0⟩:∃ x kk,env.scope.names[0]? = some (x,kk):=by
  have:0 < fd.scope.names.length:=by have:=F.len; omega
  exact ⟨(fd.scope.names[0]'this).1,(fd.scope.names[0]'this).2,by rw [hsc,List.getElem?_eq_getElem this]⟩
 have hx:IsVar env.scope x0 0:=by unfold IsVar; rw [hx0]; rfl
 obtain ⟨M',hO⟩:=S'.lexMut hx hs'
 refine ⟨S'.ok,hLK S',M',?_⟩
 have zz:∀ b,¬ Zf (fun b=>Z b /\ ¬ LMut L b) O' b -> ¬ Z b:=fun b n q=>by
  by_cases w:LMut L b
  ·exact n (.inr (nnS (hO b w)))
  ·exact n (.inl ⟨q,w⟩)
 rcases hf with rfl | ⟨rfl,rfl⟩
 ·cases f <;> first | exact hfl.elim | exact IsD.mono (fun b o n g=>g) (fun b o n g=>zz b n) hfl
 ·cases f <;> first | exact hfl.elim | exact .none
end
end
section
section
variable {C:Cx} {env:Env} {σ σ':Vars} {k:Nat}
variable {B:Base} {U:Addr -> Prop} {O O':Own} {s s' s₂:Shared} {h':Heap} {Ac:Addr} {ys:List D} {L:LexA} {st:LexSt}
theorem comp_coreL {elt target iter:Expr} {ifs:List Expr} {gs:List Comprehension} {scope sc:Scope} {cpos pos p0:Pos} {items:List D} {use:Option (Value -> Sem Unit)} {Q:Value -> Shared -> Prop} {A:Around} {σc:Vars} {jx ix:Nat} {xl:Str} {ko:NameKind}
  (hA:AtSc env sc) (hli:σ[ix]? = some (.lex L st)) (hout:sc.names[ix]? = some (xl,ko)) (hko:ko = .cell \/ ko = .free) (hin:scope.names[jx]? = some (xl,.free)) (honly:∀ x kk,(x,kk) ∈ scope.names -> kk = .free -> x = xl) (hnocell:∀ p ∈ scope.names,p.2 ≠ .cell)
  (hσc:∀ (j:Nat) (av:AV),σc[j]? = some av -> av = .no \/ (j = jx /\ av = .lex L st)) (hnd:(scope.names.map (·.1)).Nodup) (hkind:scope.kind = .function)
  (body:Env -> Value -> Sem Unit)
  (hturn:∀ cenv it acc,compTurn (.ListComp elt (⟨target,iter,ifs,0⟩ :: gs) scope cpos) 0 it acc cenv = (standAt p0 >>= fun _=>pyNext it >>= fun r=>match r with
   | none=>pure (.done .next)
   | some v=>letOwnedTupleGo target it v >>= fun _=>assign target cenv v >>= fun _=>body cenv acc >>= fun _=>again (.compLoop (.ListComp elt (⟨target,iter,ifs,0⟩ :: gs) scope cpos) 0 it acc cenv)))
  (hit:EvIt C k env σ iter items) (J:Nat -> Vars -> Prop) (outs:Nat -> List D) (hJ:J 0 σc)
  (hbody:∀ cenv,cenv.scope = relabel scope env -> ∀ i d σ₁,items[i]? = some d -> J i σ₁ -> AsG C k cenv σ₁ target d fun σ₂=>EmP C k cenv σ₂ (body cenv) (outs i) (J (i + 1)))
  (hl:(outsTo outs items.length).length <= 1000000) (hs:∀ x,foldedSetIterable iter env x = pure x) (R:Room k A) (S:SimO C B U O env σ s)
  (hK:∀ s' Ac L',OK C s' -> LKeep C L s s' -> (∃ σ',J items.length σ' /\ ∀ stn,σ'[jx]? = some (.lex L stn) -> LexMut L stn s'.heap) -> s.heap.get? L' = none -> s.heap.get? Ac = none -> (∃ m,s'.heap.Ns L' m) -> IsD C (fun b=>Zf U O b \/ b = L') s'.heap (.ref Ac) (.lst (outsTo outs items.length)) -> compPost C.M A nf use Q (.ref Ac) L' (.ok .next) s') :
  wpAny C.M A (comprehension (.ListComp elt (⟨target,iter,ifs,0⟩ :: gs) scope cpos) scope env pos (newList []) false (eval iter env) use) Q nf s:=by
 obtain ⟨mo,hmo,hvo⟩:=S.vars
 obtain ⟨ko',w1,w2⟩:=hA.kindCF hout hko
 have lexV:=hvo ix xl ko' _ w1 hli
 obtain ⟨M0,hO0⟩:=S.lexMut (x:=xl) (i:=ix) (by unfold IsVar; rw [w1]; rfl) hli
 have hfree:∀ x k,(x,k) ∈ scope.names -> k = .free -> (env.cells.lookup x).isSome = true:=fun x k hm hk=>by
  rw [honly x k hm hk]
  obtain ⟨c,hc⟩:=lexV.cellAt w2 rfl
  rw [hc]; rfl
 obtain ⟨cl,hcl,hcl1,hcl2⟩:=closureFor_some hfree
 refine wpAny_comprehension_free rfl hs hcl hkind (fun y hy e=>?_) (wpT (hit B U O A s R S) fun x s₁ h1=>wpT h1 fun it s₂ ⟨x2,I,fp,P,St,e,W⟩=>?_)
 ·obtain ⟨j,hj⟩:=List.getElem?_of_mem hy
  have:=lookup_of_get hnd (i:=j) (x:=y.1) (k:=y.2) (by rw [hj])
  rw [this,e]
 subst e
 refine wpAny_newObj_type (newEnv_comp ?_)
 generalize hH3:s₂.heap.push { cls:=.type "list",data:=.seq ([]:List Value).toArray } = H3
 have hAcL:H3.objs.size = s₂.heap.objs.size + 1:=by rw [<- hH3,Heap.size_push]
 generalize hAcE:s₂.heap.objs.size = Ac
 generalize hLE:H3.objs.size = L'
 rw [hAcE,hLE] at hAcL
 generalize hH4:pushCells (H3.push { cls:=.type "dict",data:=.dict #[] }) scope.names = H4
 generalize hown:cellsFrom (L' + 1) scope.names [] = own
 have ok:=cellsFrom_ok scope.names (H3.push { cls:=.type "dict",data:=.dict #[] }) (L' + 1) [] ⟨fun _ _ hm=>(nomatch hm),List.Pairwise.nil⟩ (by rw [Heap.size_push,hLE]; exact Nat.le_refl _)
 rw [Heap.size_push,hLE,hown,hH4] at ok
 have k23:∀ b o,s₂.heap.get? b = some o -> H3.get? b = some o:=fun b o g=>by rw [<- hH3]; exact Heap.get?_push_of_some _ g
 have k34:∀ b o,H3.get? b = some o -> H4.get? b = some o:=fun b o g=>by rw [<- hH4]; exact pushCells_keeps _ _ _ _ (Heap.get?_push_of_some _ g)
 have k24:=fun b o g=>k34 b o (k23 b o g)
 have gAc:H4.get? Ac = some { cls:=.type "list",data:=.seq ([]:List Value).toArray }:=k34 _ _ (by rw [<- hH3,<- hAcE]; exact Heap.get?_push_size _ rfl)
 have gL:H4.Ns L' fun _=>none:=by
  have:=(Heap.Ns.new H3 (.type "dict")).keeps (h':=H4) (by rw [<- hH4]; exact pushCells_keeps _ _)
  rwa [hLE] at this
 have fr2:∀ b:Nat,Ac <= b -> s₂.heap.get? b = none:=fun b hb=>Heap.get?_none_of_le (by omega)
 have frs:∀ b:Nat,Ac <= b -> s.heap.get? b = none:=fun b hb=>by
  cases q:s.heap.get? b with
  | none=>rfl
  | some o=>obtain ⟨o',g⟩:=x2.ex ⟨o,q⟩; rw [fr2 b hb] at g; cases g
 have old:∀ (b:Nat) o,s.heap.get? b = some o -> b < Ac:=fun b o g=>by
  rcases Nat.lt_or_ge b Ac with h | h
  ·exact h
  ·rw [frs b h] at g; cases g
 have oldh:∀ (b:Nat) o,C.h0.get? b = some o -> b < Ac:=fun b o g=>old b o (S.ok.keep b o g)
 have oldT:∀ (b:Nat),b ∈ C.T -> b < Ac:=fun b hb=>by obtain ⟨ps,g,_⟩:=S.ok.tab b hb; exact old b _ g
 have IAc:(I:Nat) < Ac:=by obtain ⟨o,g,_⟩:=W.shape 0 _ W.st I W.mem; exact hAcE ▸ Heap.lt_size g
 have x4:Ext C s { heap:=H4,gens:=s₂.gens,drawn:=s₂.drawn,toks:=s₂.toks,os:=s₂.os }:=x2.trans (.of_keeps x2.ok k24)
 have fpIn:∀ (b:Nat),b ∈ fp -> b < Ac:=fun b hb=>by obtain ⟨o,g,_⟩:=W.shape 0 _ W.st b hb; exact hAcE ▸ Heap.lt_size g
 classical
 have mOld:∀ b:Nat,LMut L b -> b < Ac:=fun b hb=>by obtain ⟨o,g⟩:=M0.ex hb; exact old b o g
 let Oc:Own:=fun b=>if LMut L b then some (.oth jx) else ownO L' scope.names own b
 let Uc:Addr -> Prop:=fun b=>(Zf U O b /\ ¬ LMut L b) \/ b = I \/ b = Ac
 let Bc:Base:=⟨fun b=>if b = I \/ b ∈ C.T \/ LMut L b then none else s₂.heap.get? b⟩
 have ocM:∀ b,LMut L b -> Oc b = some (.oth jx):=fun b h=>if_pos h
 have ocN:∀ b,¬ LMut L b -> Oc b = ownO L' scope.names own b:=fun b h=>if_neg h
 have ocHi:∀ b:Nat,Oc b ≠ none -> ¬ LMut L b -> L' <= b:=fun b hb hm=>by
  rw [ocN b hm] at hb
  rcases ownO_some hb with rfl | ⟨x,hx⟩
  ·exact Nat.le_refl _
  ·have:=(ok.empty x b (mem_of_lookup hx)).2; omega
 have ocLo:∀ b:Nat,b < L' -> ¬ LMut L b -> Oc b = none:=fun b hb hm=>by
  cases q:Oc b with
  | none=>rfl
  | some t=>have:=ocHi b (nnS q) hm; omega
 have IM:¬ LMut L I:=fun q=>by obtain ⟨o,g⟩:=M0.ex q; rw [W.fresh] at g; cases g
 have acM:¬ LMut L Ac:=fun q=>absurd (mOld Ac q) (Nat.lt_irrefl _)
 have bcI:∀ b o,Bc.get b = some o -> s₂.heap.get? b = some o /\ b ≠ I /\ b ∉ C.T /\ ¬ LMut L b:=fun b o g=>by
  have g':(if b = I \/ b ∈ C.T \/ LMut L b then none else s₂.heap.get? b) = some o:=g
  split at g'
  ·cases g'
  ·rename_i q; exact ⟨g',fun r=>q (.inl r),fun r=>q (.inr (.inl r)),fun r=>q (.inr (.inr r))⟩
 have bcM:∀ b o,s₂.heap.get? b = some o -> b ≠ I -> b ∉ C.T -> ¬ LMut L b -> Bc.get b = some o:=fun b o g n1 n2 n3=>by
  show (if b = I \/ b ∈ C.T \/ LMut L b then none else s₂.heap.get? b) = some o
  rw [if_neg (fun q=>q.elim n1 fun q=>q.elim n2 n3)]; exact g
 have zM:∀ b,LMut L b -> Zf U O b:=fun b h=>.inr (nnS (hO0 b h))
 let cenv:Env:={ scope:=relabel scope env,locals:=L',globals:=env.globals,cells:=own ++ cl,qual:=env.qual,func:=none,code:=env.code,frame:=env.frame,builtins:=env.builtins }
 have LM:¬ LMut L L':=fun q=>by have:=mOld L' q; omega
 have Sc:SimO C Bc Uc Oc cenv σc { heap:=H4,gens:=s₂.gens,drawn:=s₂.drawn,toks:=s₂.toks,os:=s₂.os }:=by
  refine ⟨x4.ok,⟨hkind,S.ev.glob,S.ev.blt,by rw [relabel_keys]; exact hnd⟩,fun b hb=>.inl ⟨S.zt b hb,fun q=>M0.notT S.ok q hb⟩,fun b hb=>?_,fun b o g=>k24 b o (bcI b o g).1,fun b hb=>?_,fun b hb=>⟨?_,fun q=>?_⟩,fun b hb=>?_,by show Oc L' = _; rw [ocN L' LM]; exact ownO_L,_,gL,fun j x k' av e1 e2=>?_⟩
  ·show (if b = I \/ b ∈ C.T \/ LMut L b then none else s₂.heap.get? b) = none
   rw [if_pos (.inr (.inl hb))]
  ·by_cases hm:LMut L b
   ·obtain ⟨o,g⟩:=M0.ex hm
    exact x4.ex ⟨o,g⟩
   ·rcases hb with (hb | rfl | rfl) | hb
    ·exact x4.ex (S.lt b hb.1)
    ·obtain ⟨o,g,_⟩:=W.shape 0 _ W.st b W.mem; exact ⟨o,k24 _ _ g⟩
    ·exact ⟨_,gAc⟩
    ·rw [ocN b hm] at hb
     rcases ownO_some hb with rfl | ⟨x,hx⟩
     ·obtain ⟨o,_,_,g,_⟩:=gL; exact ⟨o,g⟩
     ·obtain ⟨⟨o,g,_⟩,_⟩:=ok.empty x b (mem_of_lookup hx); exact ⟨o,g⟩
  ·show (if b = I \/ b ∈ C.T \/ LMut L b then none else s₂.heap.get? b) = none
   by_cases hm:LMut L b
   ·rw [if_pos (.inr (.inr hm))]
   ·have:=ocHi b hb hm
    rw [fr2 b (by omega)]; simp
  ·by_cases hm:LMut L b
   ·rcases q with q | q | q
    ·exact q.2 hm
    ·exact IM (q ▸ hm)
    ·exact acM (q ▸ hm)
   ·have:=ocHi b hb hm
    rcases q with q | q | q
    ·obtain ⟨o,g⟩:=S.lt b q.1; have:=old b o g; omega
    ·exact absurd q (fun r=>by have r:@Eq Nat b I:=r; have i:@LT.lt Nat _ I Ac:=IAc; have l:@LE.le Nat _ L' b:=this; omega)
    ·have r:@Eq Nat b Ac:=q; omega
  ·by_cases hm:LMut L b
   ·exact S.oh b (nnS (hO0 b hm))
   ·have:=ocHi b hb hm
    cases q:C.h0.get? b with
    | none=>rfl
    | some o=>have:=oldh b o q; omega
  ·-- a name of the block
   rcases hσc j av e2 with rfl | ⟨rfl,rfl⟩
   ·trivial
   ·obtain ⟨k1,r1,r2,r3⟩:=(AtSc.relabel (cenv:=cenv) (sc:=scope) (env:=env) rfl).get hin
    have hk1:(xl,k1) = (x,k'):=by
     have:(cenv.scope.names)[j]? = some (x,k'):=e1
     rw [r1] at this; exact Option.some.inj this
    cases hk1
    have lk:∀ cc,env.cells.lookup xl = some cc -> (own ++ cl).lookup xl = some cc:=fun cc hc=>by
     have hx:own.lookup xl = none:=by
      cases q:own.lookup xl with
      | none=>rfl
      | some c' =>
       have:=cellsFrom_key scope.names (L' + 1) (hown ▸ mem_of_lookup q)
       exact absurd rfl (hnocell _ this)
     rw [List.lookup_append,hx]
     exact hcl1 xl cc (List.mem_of_getElem? hin) hc
    have M4:LexMut L st H4:=M0.kept fun b hb o g=>x4.keep b o (M0.notT S.ok hb) g
    refine ⟨.inr ⟨(r3 rfl).symm,?_⟩,ocM _ (.inl rfl),ocM _ (.inr (.inl rfl)),ocM _ (.inr (.inr rfl)),M4⟩
    rcases lexV.1 with q | ⟨_,cc,o,c1,c2,c3⟩
    ·rcases q with ⟨q,_⟩ | ⟨_,cc,c1,c2,o,c3,c4⟩
     ·rw [q] at w2; rcases w2 with w2 | w2 <;> cases w2
     ·have hm:¬ LMut L cc:=fun q=>by have:=hO0 cc q; rw [c2] at this; cases this
      have hcT:cc ∉ C.T:=S.nT (nnS c2)
      exact ⟨cc,o,lk cc c1,.inl (bcM cc o (x2.keep cc o hcT c3) (fun q=>by rw [q,W.fresh] at c3; cases c3) hcT hm),c4⟩
    ·rcases c2 with c2 | c2
     ·have g0:=S.keepB cc o c2
      have hm:¬ LMut L cc:=fun q=>by have:=(S.ob cc (nnS (hO0 cc q))).1; rw [c2] at this; cases this
      have hcT:cc ∉ C.T:=fun q=>by rw [S.bt cc q] at c2; cases c2
      exact ⟨cc,o,lk cc c1,.inl (bcM cc o (x2.keep cc o hcT g0) (fun q=>by rw [q,W.fresh] at g0; cases g0) hcT hm),c3⟩
     ·exact ⟨cc,o,lk cc c1,.inr c2,c3⟩
 have fresh0:∀ b,s.heap.get? b = none -> C.h0.get? b = none:=fun b hb=>by
  cases q:C.h0.get? b with
  | none=>rfl
  | some o=>have:=S.ok.keep b o q; rw [hb] at this; cases this
 have Xc:AccAt C Bc Uc Oc cenv σc Ac [] { heap:=H4,gens:=s₂.gens,drawn:=s₂.drawn,toks:=s₂.toks,os:=s₂.os } :=
  ⟨Sc,ocLo Ac (by omega) acM,.inr (.inr rfl),by show (if Ac = I \/ Ac ∈ C.T \/ LMut L Ac then none else s₂.heap.get? Ac) = none; rw [fr2 Ac (Nat.le_refl _)]; simp,fresh0 Ac (frs Ac (Nat.le_refl _)),fun q=>absurd (oldT Ac q) (Nat.lt_irrefl _),[],⟨0,gAc⟩,.nil⟩
 have fpM:∀ b ∈ fp,¬ LMut L b:=fun b hb q=>by
  rcases W.fpz b hb with rfl | ⟨n,_⟩
  ·exact IM q
  ·exact n (zM b q)
 have Wc:ItIn C Bc Uc Oc Ac { heap:=H4,gens:=s₂.gens,drawn:=s₂.drawn,toks:=s₂.toks,os:=s₂.os } I fp items P St:=by
  refine ⟨W.walks,W.shape,fun b hb=>⟨ocLo b (by have:=fpIn b hb; omega) (fpM b hb),fun q=>?_,Nat.ne_of_lt (fpIn b hb)⟩,W.mem,.inr (.inl rfl),by show (if I = I \/ I ∈ C.T \/ LMut L I then none else s₂.heap.get? I) = none; rw [if_pos (.inl rfl)],fresh0 I W.fresh,fun i v hi hP=>?_⟩
  ·rcases W.fpz b hb with rfl | ⟨n,_⟩
   ·obtain ⟨ps,g,_⟩:=S.ok.tab b q; rw [W.fresh] at g; cases g
   ·exact n (S.zt b q)
  ·obtain ⟨d,h1,h2⟩:=W.val i v hi hP
   refine ⟨d,h1,h2.mono (fun b o n g=>k24 b o g) fun b o n g q=>?_⟩
   have hb:(b:Nat) < Ac:=hAcE ▸ Heap.lt_size g
   have hm:¬ LMut L b:=fun q=>n (.inl (zM b q))
   rcases q with (q | q | q) | q
   ·exact n (.inl q.1)
   ·exact n (.inr q)
   ·exact absurd q (Nat.ne_of_lt hb)
   ·have h1:@LE.le Nat _ L' b:=ocHi b q hm; have h2:@LT.lt Nat _ b Ac:=hb; omega
 have st4:St 0 H4:=(W.walks A R.hd).frame _ _ _ W.st fun b _ o g=>k24 b o g
 have loop:=comp_loop (env:=cenv) (C:=C) (k:=k) (hturn cenv) J outs (hbody cenv rfl) R Xc hJ Wc st4 (by simpa using hl) (RR:=compPost C.M A nf use Q (.ref Ac) L') (fun s' σ' X' hJ' hkeep=>by
  have X'l:=X'.lst
  obtain ⟨vs,f1,f2⟩:=X'l
  have e':LKeep C L s s':=fun b o n nm g=>X'.sim.keepB b o (bcM b o (x2.keep b o n g) (fun q=>by rw [q,W.fresh] at g; cases g) n nm)
  refine hK s' Ac L' X'.sim.ok e' ⟨σ',hJ',fun stn hstn=>?_⟩ (frs L' (by omega)) (frs Ac (Nat.le_refl _)) ?_ ?_
  ·obtain ⟨k1,r1,r2,r3⟩:=(AtSc.relabel (cenv:=cenv) (sc:=scope) (env:=env) rfl).get hin
   exact (X'.sim.lexMut (x:=xl) (i:=jx) (by unfold IsVar; rw [r1]; rfl) hstn).1
  ·obtain ⟨mm,hm,_⟩:=X'.sim.vars; exact ⟨mm,hm⟩
  ·have f2':IsDs C (Zf (fun b=>Uc b /\ b ≠ I) Oc) s'.heap vs (outsTo outs items.length):=by
    have:([] ++ outsTo outs items.length) = outsTo outs items.length:=List.nil_append _
    rw [<- this]; exact f2
   refine .lst _ vs _ f1 (fun q=>?_) (f2'.mono (fun b o n g=>g) fun b o n g q=>?_)
   ·rcases q with q | q
    ·obtain ⟨o,g⟩:=S.lt Ac q; have:=old Ac o g; omega
    ·have r:@Eq Nat Ac L':=q; omega
   ·rcases q with q | rfl
    ·by_cases hm:LMut L b
     ·exact n (.inr (nnS (ocM b hm)))
     ·refine n (.inl ⟨.inl ⟨q,hm⟩,fun r=>?_⟩)
      obtain ⟨o,g⟩:=S.lt b q; rw [r,W.fresh] at g; cases g
    ·exact n (.inr (by rw [ocN b LM,show ownO b scope.names own b = some .loc from ownO_L]; simp)))
 exact codeAny_compStart_list loop ((W.walks A R.hd).self 0 _ _ _ st4 loop)
end
end
section
noncomputable def takenF:Nat -> LexSt -> Option (List Str × LexSt)
 | 0,st=>some ([],st)
 | n + 1,st=>if st.pb.length <= 1000 then (match tokF st with
  | some (w,st')=>(match takenF n st' with
   | some (ws,st2)=>some (w :: ws,st2)
   | none=>none)
  | none=>none) else none
theorem takenF_len:∀ {n:Nat} {st st':LexSt} {ws:List Str},takenF n st = some (ws,st') -> ws.length = n
 | 0,st,st',ws,h=>by cases h; rfl
 | n + 1,st,st',ws,h=>by
  simp only [takenF] at h
  split at h
  ·split at h
   ·split at h
    ·rename_i q; cases h; rw [List.length_cons,takenF_len q]
    ·cases h
   ·cases h
  ·cases h
section
variable {C:Cx} {env:Env} {σ σ':Vars} {k:Nat} {K:Frag} {c:Addr}
variable {B:Base} {U:Addr -> Prop} {O O':Own} {s s' s₂:Shared} {L:LexA} {st st':LexSt}
theorem EmP.tok {y:Str} {l:Nat} {p1 p2 p3:Pos} {w:Str} {J:Vars -> Prop} (H:LexOps C K k c L) (hy:IsVar env.scope y l) (h1:(y == ("__debug__":Str)) = false) (h2:(y == ("__classdict__":Str)) = false) (hp:(p2.endLine == p3.line) = true) (hs:σ[l]? = some (.lex L st)) (hpb:st.pb.length <= 1000) (ht:tokF st = some (w,st'))
  (hJ:J (σ.set l (.lex L st'))):EmP C k env σ (emitT (.Call (.Attribute (.Name y p1) "get_token" p2) [] [] p3) env) [.str w] J:=by
 intro B U O A s Ac ys R X hl
 obtain ⟨M,hO⟩:=X.sim.lexMut hy hs
 have nM:¬ LMut L Ac:=fun q=>(X.sim.ob Ac (nnS (hO Ac q))).2 X.u
 refine wpAny_bind (tok_wp H R X.sim hy h1 h2 hp hs hpb ht fun s₁ t S1 kp=>?_)
 obtain ⟨vs,l1,i1⟩:=X.lst
 have hlen:=i1.length
 have zM:∀ b,¬ Zf U O b -> ¬ LMut L b:=fun b n q=>n (.inr (nnS (hO b q)))
 have l2:Lst s₁.heap Ac vs:=l1.kept fun o g=>kp Ac o X.t nM g
 have i2:IsDs C (Zf U O) s₁.heap vs ys:=i1.mono (fun b o n g=>kp b o (fun q=>n (X.sim.zt b q)) (zM b n) g) fun b o n g=>n
 refine wpAny_bind (append_lst l2 (by simp at hl; omega) fun h' l3 hb=>wpAny_pure ?_)
 have hk:∀ b o,b ≠ Ac -> s₁.heap.get? b = some o -> h'.get? b = some o:=fun b o nb g=>(hb.2 b nb).trans g
 obtain ⟨n2,g2⟩:=l2
 have S2:SimO C B U O env (σ.set l (.lex L st')) { s₁ with heap:=h' }:=S1.pokeExt (S1.ok.but (dr:=s₁.drawn) (tk:=s₁.toks) X.h0 X.t g2 (fun vs q=>by cases q) hk) X.o X.u X.b (fun b o _ nb g=>hk b o nb g) (let ⟨_,g⟩:=l3; ⟨_,g⟩)
 refine ⟨_,⟨S2,X.o,X.u,X.b,X.h0,X.t,_,l3,?_⟩,hJ⟩
 have i3:IsDs C (Zf U O) h' vs ys:=i2.mono (fun b o n g=>hk b o (fun q=>n (.inl (q ▸ X.u))) g) fun b o n g=>n
 exact i3.snoc (.str _ t)
theorem taken_spec {f:Addr} {fd:FuncData} {isc:Scope} {yl yn yr:Str} {p1 p2 p3 p4 p5 p7 p9 p10:Pos} {e6:Expr}
  (F:FnOk C f fd [.Return (some (.ListComp (.Call (.Attribute (.Name yl p1) "get_token" p2) [] [] p3) [⟨(.Name yn p4),(.Call (.Name yr p5) [e6] [] p7),[],0⟩] isc p9)) p10] 2) (Bq:Bs C) (H:LexOps C K k c L)
  (hks:fd.scope.names.map (·.2) = [.cell,.local,.globalImplicit]) (iks:isc.names.map (·.2) = [.local,.local,.free]) (ihk:isc.kind = .function) (ind:(isc.names.map (·.1)).Nodup)
  (hr:(repI nmB fd.scope (.r1 (.var 1)) (.Call (.Name yr p5) [e6] [] p7) && vr isc 2 yl && vr isc 1 yn && p2.endLine == p3.line && vr fd.scope 0 yl) = true)
  {n:Nat} (hn:n <= 1000) {ws:List Str} (ht:takenF n st = some (ws,st')):LexC C (k + 1) L f st [.int n] (.lst (ws.map .str)) st':=by
 intro Z A s vs R Ks z hZ M i
 refine and5 hr fun r1 r2 r3 r4 r5=>?_
 refine lexfn_enter (n:=1) F rfl hks H.fx R Ks z hZ M i fun env s₁ B O hA hE hsc R1 S hLK=>?_
 have S':SimO C B (fun b=>Z b /\ ¬ LMut L b) O env [.lex L st,.d (.int n),.no] s₁:=S
 obtain ⟨it1,it2⟩:=evI_s (Bq.gd k) (.r1 (.var 1)) hA r1 (σ:=[.lex L st,.d (.int n),.no]) (l:=rng 0 n) (by
  show (if rngOk (n:Int) = true then some (rng 0 (n:Int).toNat) else none) = _
  rw [if_pos (by unfold rngOk; simp; omega),Int.toNat_natCast])
 have n0:∃ x,fd.scope.names[0]? = some (x,.cell):=by
  have h2:(fd.scope.names.map (·.2))[0]? = some .cell:=by rw [hks]; rfl
  rw [List.getElem?_map] at h2
  cases q:fd.scope.names[0]? with
  | none=>rw [q] at h2; cases h2
  | some p=>obtain ⟨x,kk⟩:=p; rw [q] at h2; simp at h2; subst h2; exact ⟨x,rfl⟩
 have n2:∃ x,isc.names[2]? = some (x,.free):=by
  have h2:(isc.names.map (·.2))[2]? = some .free:=by rw [iks]; rfl
  rw [List.getElem?_map] at h2
  cases q:isc.names[2]? with
  | none=>rw [q] at h2; cases h2
  | some p=>obtain ⟨x,kk⟩:=p; rw [q] at h2; simp at h2; subst h2; exact ⟨x,rfl⟩
 obtain ⟨x0,hx0⟩:=n0
 obtain ⟨x2,hx2⟩:=n2
 have e02:x0 = x2:=by
  unfold vr at r2 r5
  rw [hx0] at r5
  rw [hx2] at r2
  simp only [Bool.and_eq_true,beq_iff_eq] at r2 r5
  exact r5.1.1.trans r2.1.1.symm
 subst e02
 have hlen:=takenF_len ht
 have rl:(rng 0 n).length = n:=by unfold rng; simp
 have houts:∀ m,m <= n -> outsTo (fun i=>[D.str (ws.getD i "")]) m = (ws.take m).map .str:=by
  intro m
  induction m with
  | zero=>intro _; simp [outsTo]
  | succ m ih =>
   intro hm
   rw [outsTo,ih (by omega),List.take_add_one,List.map_append]
   congr 1
   rw [List.getD_eq_getElem?_getD,List.getElem?_eq_getElem (by omega)]
   rfl
 refine wpAny_execs_cons (wpAny_Return_some ?_)
 rw [eval_ListComp]
 refine comp_coreL (L:=L) (st:=st) (σc:=[.no,.no,.lex L st]) (jx:=2) (ix:=0) (xl:=x0) (ko:=.cell) (p0:=(Expr.Call (.Name yr p5) [e6] [] p7).pos) hA rfl hx0 (.inl rfl) hx2 (fun x kk hm hk=>?_) (fun p hp=>?_) (fun j av e=>?_) ind ihk
  (fun cenv=>testT [] cenv (emitT (.Call (.Attribute (.Name yl p1) "get_token" p2) [] [] p3) cenv)) (fun cenv it acc=>turn_last 0 _ _ _ _ _ _ _ _ _ _ rfl rfl) it1
  (fun i σ₁=>∃ sti av,σ₁ = [.no,av,.lex L sti] /\ chOkA av /\ takenF (n - i) sti = some (ws.drop i,st')) (fun i=>[D.str (ws.getD i "")]) ⟨st,.no,rfl,.inl rfl,by simpa using ht⟩ (fun cenv hcs i d σ₁ hd hJ=>?_) (by rw [rl,houts n (Nat.le_refl _)]; simp; omega) (it2 env) R1 S' (fun s' Ac L' K' kp ⟨σ2,⟨sti,av,e1,_,e3⟩,hM⟩ fr fr2 ⟨mm,hm⟩ ii=>?_)
 ·subst hk
  obtain ⟨j,hj⟩:=List.getElem?_of_mem hm
  have hk:=ks_at iks hj
  match j with
  | 0 | 1=>cases hk
  | 2=>rw [hx2] at hj; cases hj; rfl
  | j + 3=>cases hk
 ·have:p.2 ∈ isc.names.map (·.2):=List.mem_map_of_mem (f:=(·.2)) hp
  rw [iks] at this
  intro q; rw [q] at this; simp at this
 ·match j with
  | 0 | 1=>cases e; exact .inl rfl
  | 2=>cases e; exact .inr ⟨rfl,rfl⟩
  | j + 3=>cases e
 ·obtain ⟨sti,av,rfl,hav,hti⟩:=hJ
  have hi:i < n:=by have:=(List.getElem?_eq_some_iff.mp hd).1; omega
  have hA2:AtSc cenv isc:=AtSc.relabel hcs
  have hst:IsSto isc [.no,av,.lex L sti] yn 1:=stoB_val iks r3 (by rcases hav with rfl | ⟨_,rfl⟩ <;> rfl)
  refine AsG.name (hA2.isSto hst) ?_
  obtain ⟨m,hm⟩:∃ m,n - i = m + 1:=⟨n - i - 1,by omega⟩
  rw [hm] at hti
  simp only [takenF] at hti
  split at hti
  ·rename_i hpb
   cases htok:tokF sti with
   | none=>rw [htok] at hti; cases hti
   | some r =>
    obtain ⟨w,st1⟩:=r
    rw [htok] at hti
    dsimp only at hti
    cases hrest:takenF m st1 with
    | none=>rw [hrest] at hti; cases hti
    | some r2 =>
     obtain ⟨ws2,st2⟩:=r2
     rw [hrest] at hti
     simp only [Option.some.injEq,Prod.mk.injEq] at hti
     obtain ⟨hw,rfl⟩:=hti
     have hwi:ws.getD i "" = w:=by
      have e1:ws.drop i = ws[i]'(by omega) :: ws.drop (i + 1):=List.drop_eq_getElem_cons (by omega)
      rw [e1] at hw
      cases hw
      rw [List.getD_eq_getElem?_getD,List.getElem?_eq_getElem (by omega)]; rfl
     have hw2:ws2 = ws.drop (i + 1):=by
      have e1:ws.drop i = ws[i]'(by omega) :: ws.drop (i + 1):=List.drop_eq_getElem_cons (by omega)
      rw [e1] at hw
      cases hw <;> rfl
     obtain ⟨v1,v2,v3⟩:=vr_var hA2 r2
     have em:EmP C k cenv [.no,.d d,.lex L sti] (emitT (.Call (.Attribute (.Name yl p1) "get_token" p2) [] [] p3) cenv) [.str w] (fun σ₁=>∃ sti av,σ₁ = [.no,av,.lex L sti] /\ chOkA av /\ takenF (n - (i + 1)) sti = some (ws.drop (i + 1),st2)) :=
      EmP.tok (l:=2) H v1 v2 v3 r4 rfl hpb htok ⟨st1,.d d,rfl,.inr ⟨_,rfl⟩,by rw [show n - (i + 1) = m by omega,hrest,hw2]⟩
     refine EmP.tests (b:=true) rfl (fun _=>?_) (fun h=>by cases h)
     rw [hwi]
     exact em
  ·cases hti
 ·rw [rl] at e3
  have e3':st' = sti:=by
   rw [Nat.sub_self] at e3
   simp only [takenF,Option.some.injEq,Prod.mk.injEq] at e3
   exact e3.2.symm
  subst e3'
  have M':=hM st' (by rw [e1]; rfl)
  refine ⟨mm,hm,fun h' hs'=>?_⟩
  have h0:C.h0.get? L' = none:=S'.ok.frH fr
  have hT:L' ∉ C.T:=S'.ok.frT fr
  obtain ⟨oL,es,ep,g,dd,r⟩:=hm
  have hk:∀ b o,b ≠ L' -> s'.heap.get? b = some o -> h'.get? b = some o:=fun b o n e=>(hs'.2 b n).trans e
  obtain ⟨M0,hO0⟩:=S'.lexMut (x:=x0) (i:=0) (by unfold IsVar; rw [hsc,hx0]; rfl) rfl
  have lm:¬ LMut L L':=fun q=>by obtain ⟨o,g⟩:=M0.ex q; rw [fr] at g; cases g
  have lk1:LKeep C L s s₁:=hLK S'
  refine ⟨K'.but (tk:=s'.toks) (dr:=s'.drawn) h0 hT g (fun vs q=>by rw [dd] at q; cases q) hk,fun b o nT nm e=>hk b o (fun q=>?_) (kp b o nT nm (lk1 b o nT nm e)),M'.kept fun b hb o g=>hk b o (fun q=>lm (q ▸ hb)) g,?_⟩
  ·have:=lk1 b o nT nm e; rw [q,fr] at this; cases this
  ·rw [rl,houts n (Nat.le_refl _),List.take_of_length_le (by omega)] at ii
   refine ii.mono (fun b o nz e=>hk b o (fun q=>nz (.inr q)) e) fun b o nz e q=>nz (.inl ?_)
   by_cases w:LMut L b
   ·exact .inr (nnS (hO0 b w))
   ·exact .inl ⟨q,w⟩
end
end
section
section
variable {C:Cx} {env:Env} {σ σ':Vars} {k:Nat} {K:Frag} {c:Addr} {A:Around}
variable {B:Base} {U:Addr -> Prop} {O O':Own} {s s' s₂:Shared} {L:LexA} {st st':LexSt}
theorem lexcall_wp {f y:Str} {l:Nat} {p1 p2 p3:Pos} {es:List Expr} {ds:List D} {d:D} {a:Addr} {Q:Value -> Shared -> Prop} (H:LexOps C K k c L) (R:Room k A) (S:SimO C B U O env σ s) (hf:EvV C k env σ (.Name f p1) (.ref a)) (hk:Kp C (.ref a)) (hy:IsVar env.scope y l) (h1:(y == ("__debug__":Str)) = false) (h2:(y == ("__classdict__":Str)) = false) (hs:σ[l]? = some (.lex L st))
  (ha:EvL C k env σ es ds) (hc:LexC C k L a st ds d st') (hQ:∀ v s',SimO C B U O env (σ.set l (.lex L st')) s' -> LKeep C L s s' -> IsD C (Zf U O) s'.heap v d -> Q v s') :
  wpAny C.M A (eval (.Call (.Name f p1) (.Name y p2 :: es) [] p3) env) Q nf s:=by
 show wpAny _ _ (do callWith p3 (<- eval (.Name f p1) env) [] (backTo p3 (starEach (.Name y p2 :: es) env)) []) _ _ _
 refine wpAny_bind (wpT (hf B U O A s R S) fun fv s₁ hZ2=>?_); obtain ⟨x1,e1⟩:=hZ2
 subst e1
 have S1:=S.ext x1
 obtain ⟨P,P1,P2⟩:=hk
 have hst:(backTo p3 (starEach es env)).any (·.1) = false:=ha.noStar p3
 refine callWith_of (P:=P) (by rw [star_cons (rfl:isStarred (.Name y p2) = false)]; show ((false || (backTo p3 (starEach es env)).any (·.1)) || false) = false; rw [hst]; rfl) P2 ?_
 rw [star_cons (rfl:isStarred (.Name y p2) = false)]
 refine evalArgs_plain (spliced_cons (S1.loadLex hy hs h1 h2 (wpT (ha.spliced p3 R S1) fun vs s₂ ⟨x2,i2⟩=>⟨P1 _ (S1.ext x2).ok,?_⟩)))
 have S2:=S1.ext x2
 obtain ⟨M2,hO⟩:=S2.lexMut hy hs
 refine wpAny_call (codeAny_mono (hc (Zf U O) A s₂ vs R S2.ok S2.zok (fun b hb=>.inr (nnS (hO b hb))) M2 i2) fun r s₃ hZ2=>?_); obtain ⟨v,e,K3,k3,M3,i3⟩:=hZ2
 subst e
 exact hQ v s₃ (S2.moveLex hy hs K3 k3 M3) ((LKeep.ext (x1.trans x2)).trans k3) i3
theorem line_wp {y:Str} {l:Nat} {p1 p2:Pos} {Q:Value -> Shared -> Prop} (H:LexOps C K k c L) (S:SimO C B U O env σ s) (hy:IsVar env.scope y l) (h1:(y == ("__debug__":Str)) = false) (h2:(y == ("__classdict__":Str)) = false) (hs:σ[l]? = some (.lex L st))
  (hQ:∀ t s',Ext C s s' -> Q (.int st.line t) s'):wpAny C.M A (eval (.Attribute (.Name y p1) "lineno" p2) env) Q nf s:=by
 obtain ⟨M,hO⟩:=S.lexMut hy hs
 obtain ⟨⟨enn,gd⟩,_⟩:=id M
 refine Attribute_any_ (S.loadLex hy hs h1 h2 ?_) (by with_unfolding_all rfl)
 exact inst_get (v:=.int st.line enn.tl) H.y (H.x.keeps S.ok.keep) (S.ok.keep _ _ H.fx.lx) gd (by decide) (by kernel_rfl) rfl (hQ enn.tl _ (.tok S.ok))
end
end
section
noncomputable abbrev FT:=Nat -> LexSt -> List D -> Option (D × LexSt)
noncomputable def FTok (C:Cx) (k:Nat) (L:LexA) (F:FT) (nl:Nat -> Str):Prop :=
 ∀ j st ds d st',F j st ds = some (d,st') -> ∃ a,GV C (nl j) (.ref a) /\ Kp C (.ref a) /\ LexC C k L a st ds d st'
inductive LE where
 | e (x:E) | tok | line | call (j:Nat) (es:List E)
noncomputable def evLE (F:FT) (g:G) (l:Nat):LE -> Vars -> Option (D × Vars)
 | .e x,σ=>match evX g σ x with
  | some d=>some (d,σ)
  | none=>none
 | .tok,σ=>match σ[l]? with
  | some (.lex L st)=>if st.pb.length <= 1000 then (match tokF st with
   | some (w,st')=>some (.str w,σ.set l (.lex L st'))
   | none=>none) else none
  | _=>none
 | .line,σ=>match σ[l]? with
  | some (.lex L st)=>some (.int st.line,σ)
  | _=>none
 | .call j es,σ=>match σ[l]?,evL g es σ with
  | some (.lex L st),some ds=>(match F j st ds with
   | some (d,st')=>some (d,σ.set l (.lex L st'))
   | none=>none)
  | _,_=>none
noncomputable def repLE (nm nl:Nat -> Str) (sc:Scope) (l:Nat) (ir:LE) (x:Expr):Bool:=match ir with
 | .e ir=>repE nm sc ir x
 | .tok=>kMt x fun o m ap es cp=>kName o fun y _=>kNil es && (vr sc l y && m == ("get_token":Str) && ap.endLine == cp.line)
 | .line=>kAttribute x fun o m _=>kName o fun y _=>vr sc l y && m == ("lineno":Str)
 | .call j es=>kFn x fun f xs=>kCons xs fun y xs=>kName y fun y _=>f == nl j && gl sc f && vr sc l y && repL nm sc es xs
inductive GT1 where
 | c (a:LE) (op:CmpOp) (b:E) | t (x:T)
noncomputable def evGT (F:FT) (g:G) (l:Nat):GT1 -> Vars -> Option (Bool × Vars)
 | .c a op b,σ=>match evLE F g l a σ with
  | some (x,σ')=>(match evX g σ' b with
   | some y=>(match cmp2 op x y with
    | some t=>some (t,σ')
    | none=>none)
   | none=>none)
  | none=>none
 | .t x,σ=>match evXT g σ x with
  | some t=>some (t,σ)
  | none=>none
noncomputable def repGT (nm nl:Nat -> Str) (sc:Scope) (l:Nat) (ir:GT1) (x:Expr):Bool:=match ir with
 | .c a op b=>kCmp x fun p o q=>o == op && repLE nm nl sc l a p && repE nm sc b q && !(behindInMarks o q)
 | .t ir=>repT nm sc ir x
noncomputable def evGs (F:FT) (g:G) (l:Nat):List GT1 -> Vars -> Option Vars
 | [],σ=>some σ
 | t :: ts,σ=>match evGT F g l t σ with
  | some (false,σ')=>evGs F g l ts σ'
  | _=>none
noncomputable def repGs (nm nl:Nat -> Str) (sc:Scope) (l:Nat):List GT1 -> List Expr -> Bool
 | [],xs=>kNil xs
 | t :: ts,xs=>kCons xs fun x xs=>repGT nm nl sc l t x && repGs nm nl sc l ts xs
inductive TX where
 | sx (x:SX) | asg (i:Nat) (e:LE) | ex (j:Nat) (es:List E) | guard (ts:List GT1)
 | retc (e:LE)
noncomputable def evTX (F:FT) (g:G) (ks:List NameKind) (l:Nat):TX -> Vars -> Option (Fl × Vars)
 | .sx x,σ=>evSX g ks l x σ
 | .asg i e,σ=>if i ≠ l then (match evLE F g l e σ with
  | some (d,σ')=>(putV ks σ' i (.d d)).map fun σ2=>(.next,σ2)
  | none=>none) else none
 | .ex j es,σ=>match evLE F g l (.call j es) σ with
  | some (_,σ')=>some (.next,σ')
  | none=>none
 | .guard ts,σ=>match evGs F g l ts σ with
  | some σ'=>some (.next,σ')
  | none=>none
 | .retc e,σ=>match evLE F g l e σ with
  | some (d,σ')=>some (.ret d,σ')
  | none=>none
noncomputable def repTX (nm nl:Nat -> Str) (sc:Scope) (l:Nat) (ir:TX) (s:Stmt):Bool:=match ir with
 | .sx x=>repSX nm sc l x s
 | .asg i e=>sAs1 s fun x _ v _=>vr sc i x && notComp v && repLE nm nl sc l e v
 | .ex j es=>sExpr s fun v _=>repLE nm nl sc l (.call j es) v
 | .guard ts=>sIf s fun x _ o _=>kNil o && (kBoolOp x (fun op xs _=>isOr op && (decide (2 <= ts.length) && repGs nm nl sc l ts xs)) || repGs nm nl sc l ts [x])
 | .retc e=>sReturn s fun v _=>kSome v fun v=>repLE nm nl sc l e v
noncomputable def evTB (F:FT) (g:G) (ks:List NameKind) (l:Nat):List TX -> Vars -> Option (Fl × Vars)
 | [],σ=>some (.next,σ)
 | s :: ss,σ=>match evTX F g ks l s σ with
  | some (.next,σ')=>evTB F g ks l ss σ'
  | some (fl,σ')=>some (fl,σ')
  | none=>none
noncomputable def repTB (nm nl:Nat -> Str) (sc:Scope) (l:Nat):List TX -> List Stmt -> Bool
 | [],ss=>kNil ss
 | t :: ts,ss=>kCons ss fun s ss=>repTX nm nl sc l t s && repTB nm nl sc l ts ss
section
variable {C:Cx} {env:Env} {σ σ':Vars} {k:Nat} {K:Frag} {c:Addr} {A:Around} {g:G} {nm nl:Nat -> Str} {F:FT} {sc:Scope}
variable {B:Base} {U:Addr -> Prop} {O O':Own} {s s' s₂:Shared} {L:LexA} {st st':LexSt} {l:Nat}
theorem mDV {γ:Type} {d:γ} {P:Prop} {o:Option (D × Vars)} {f:D -> Vars -> Option γ} (h:(match o with | some (x,v)=>f x v | none=>none) = some d) (k:∀ x v,o = some (x,v) -> f x v = some d -> P):P:=by
 cases o with
 | none=>cases h
 | some x=>exact k x.1 x.2 rfl h
theorem mDS {γ:Type} {d:γ} {P:Prop} {o:Option (D × LexSt)} {f:D -> LexSt -> Option γ} (h:(match o with | some (x,v)=>f x v | none=>none) = some d) (k:∀ x v,o = some (x,v) -> f x v = some d -> P):P:=by
 cases o with
 | none=>cases h
 | some x=>exact k x.1 x.2 rfl h
theorem mLexL {γ:Type} {d:γ} {P:Prop} {o:Option AV} {o2:Option (List D)} {f:LexA -> LexSt -> List D -> Option γ} (h:(match o,o2 with | some (.lex L st),some ds=>f L st ds | _,_=>none) = some d) (k:∀ L st ds,o = some (.lex L st) -> o2 = some ds -> f L st ds = some d -> P):P:=by
 cases o with
 | none=>cases h
 | some x=>cases x with
  | lex L st=>cases o2 with
   | none=>cases h
   | some y=>exact k L st y rfl rfl h
  | _=>cases h
theorem mb {γ:Type} {d:γ} {P:Prop} {o:Option Bool} {f:Bool -> Option γ} (h:(match o with | some x=>f x | none=>none) = some d) (k:∀ x,o = some x -> f x = some d -> P):P:=by
 cases o with
 | none=>cases h
 | some x=>exact k x rfl h
theorem mfV {γ:Type} {d:γ} {P:Prop} {o:Option (Bool × Vars)} {f:Vars -> Option γ} (h:(match o with | some (false,v)=>f v | _=>none) = some d) (k:∀ v,o = some (false,v) -> f v = some d -> P):P:=by
 cases o with
 | none=>cases h
 | some x =>
  obtain ⟨b,v⟩:=x
  cases b with
  | true=>cases h
  | false=>exact k v rfl h
theorem evLE_inv {ir:LE} {d:D} (hl:HasL L l σ) (he:evLE F g l ir σ = some (d,σ')):HasL L l σ':=by
 cases ir with
 | e x=>exact mD he fun d q he=>by cases he; exact hl
 | tok=>exact mLex he fun L' st q he=>ite_t he fun _ he=>mTok he fun w st' _ he=>by cases he; rw [hl.eq q]; exact hl.setL _
 | line=>exact mLex he fun L' st q he=>by cases he; exact hl
 | call j es=>exact mLexL he fun L' st ds q q2 he=>mDS he fun x v _ he=>by cases he; rw [hl.eq q]; exact hl.setL _
theorem evLE_s (H:Gd C k g nm) (HL:LexOps C K k c L) (HF:FTok C k L F nl) (hA:AtSc env sc) {ir:LE} {x:Expr} {d:D} (hr:repLE nm nl sc l ir x = true) (hl:HasL L l σ) (he:evLE F g l ir σ = some (d,σ')) (R:Room k A) (S:SimO C B U O env σ s) :
  wpAny C.M A (eval x env) (fun v s'=>SimO C B U O env σ' s' /\ IsD C (Zf U O) s'.heap v d) nf s:=by
 cases ir with
 | e y =>
  exact mD he fun d q he=>by
   cases he
   exact wpT (evX_s H hA hr q B U O A s R S) fun v s' h=>⟨S.ext h.1,h.2⟩
 | tok =>
  exact kMt_t (e:=x) hr fun o m ap es cp hr=>kName_t (e:=o) hr fun y py hr=>and2 hr fun hn hr=>kNil_t (l:=es) hn <| and3 hr fun h1 hm h2=>mLex he fun L' st q he=>ite_t he fun hc he=>mTok he fun w st' htok he=>by
   cases eq_of_beq hm
   cases hl.eq q
   cases he
   exact tok_wp HL R S (vr_var hA h1).1 (vr_var hA h1).2.1 (vr_var hA h1).2.2 h2 q hc htok fun s' t S' _=>⟨S',.str _ t⟩
 | line =>
  exact kAttribute_t (e:=x) hr fun o m ap hr=>kName_t (e:=o) hr fun y py hr=>and2 hr fun h1 hm=>mLex he fun L' st q he=>by
   cases eq_of_beq hm
   cases hl.eq q
   cases he
   exact line_wp HL S (vr_var hA h1).1 (vr_var hA h1).2.1 (vr_var hA h1).2.2 q fun t s' x1=>⟨S.ext x1,.int _ t⟩
 | call j es =>
  exact kFn_t (e:=x) hr fun f pf xs cp hr=>kCons_t (l:=xs) hr fun y xs hr=>kName_t (e:=y) hr fun y py hr=>and4 hr fun hm h1 h2 h3=>mLexL he fun L' st ds q q2 he=>mDS he fun v st' hF he=>by
   cases eq_of_beq hm
   cases hl.eq q
   cases he
   obtain ⟨a,a1,a2,a3⟩:=HF _ _ _ _ _ hF
   exact lexcall_wp HL R S (GV.ev a1 (gl_glob hA h1)) a2 (vr_var hA h2).1 (vr_var hA h2).2.1 (vr_var hA h2).2.2 q (evL_s H es hA h3 q2) a3 fun v s' S' _ i=>⟨S',i⟩
theorem evGT_inv {ir:GT1} {t:Bool} (hl:HasL L l σ) (he:evGT F g l ir σ = some (t,σ')):HasL L l σ':=by
 cases ir with
 | c a op b=>exact mDV he fun x v w he=>mD he fun y _ he=>mb he fun t _ he=>by cases he; exact evLE_inv hl w
 | t x=>exact mb he fun t _ he=>by cases he; exact hl
theorem evGT_s (H:Gd C k g nm) (HL:LexOps C K k c L) (HF:FTok C k L F nl) (hA:AtSc env sc) {ir:GT1} {x:Expr} {t:Bool} (hr:repGT nm nl sc l ir x = true) (hl:HasL L l σ) (he:evGT F g l ir σ = some (t,σ')) (R:Room k A) (S:SimO C B U O env σ s) :
  wpAny C.M A (isTrue x env (eval x env)) (fun v s'=>SimO C B U O env σ' s' /\ v = t) nf s:=by
 cases ir with
 | c a op b =>
  exact kCmp_t (e:=x) hr fun p o q cp hr=>and4 hr fun h0 h1 h2 h3=>mDV he fun y v w he=>mD he fun z w2 he=>mb he fun t w3 he=>by
   cases ((eq_of_beq h0))
   cases he
   refine wpAny_isTrue_Compare1 (wpT (evLE_s H HL HF hA h1 hl w R S) fun va s₁ r1=>wpT (evX_s H hA h2 w2 B U O A s₁ R r1.1) fun vb s₂ r2=>?_) (nt h3)
   have S2:=r1.1.ext r2.1
   refine wpT (cmp2_sound w3 _ A s₂ va vb R.zero S2.ok S2.zok (r1.2.ext r2.1 r1.1.zt) r2.2) fun v s₃ r3=>?_
   rw [r3.2.iBool]
   exact wpAny_truthy_bool ⟨S2.ext r3.1,rfl⟩
 | t y =>
  exact mb he fun t w he=>by
   cases he
   exact wpT (evXT_s H hA hr w B U O A s R S) fun v s' r=>⟨S.ext r.1,r.2⟩
theorem evGs_inv:∀ (ts:List GT1) {σ σ':Vars},HasL L l σ -> evGs F g l ts σ = some σ' -> HasL L l σ'
 | [],σ,σ',hl,he=>by cases he; exact hl
 | t :: ts,σ,σ',hl,he=>mfV he fun v w he=>evGs_inv ts (evGT_inv hl w) he
theorem evGs_s (H:Gd C k g nm) (HL:LexOps C K k c L) (HF:FTok C k L F nl) (hA:AtSc env sc):∀ (ts:List GT1) {xs:List Expr} {σ σ':Vars} {s:Shared},ts ≠ [] -> repGs nm nl sc l ts xs = true -> HasL L l σ -> evGs F g l ts σ = some σ' -> Room k A -> SimO C B U O env σ s ->
  wpAny C.M A (allTrue .Or xs env) (fun v s'=>SimO C B U O env σ' s' /\ v = false) nf s
 | [],xs,σ,σ',s,hn,hr,hl,he,R,S=>absurd rfl hn
 | t :: ts,xs,σ,σ',s,hn,hr,hl,he,R,S=>kCons_t (l:=xs) hr fun x xs hr=>and2 hr fun h1 h2=>mfV he fun v w he=>by
  cases ts with
  | nil =>
   cases xs with
   | cons _ _=>cases h2
   | nil =>
    cases he
    rw [arm_allTrue_cons]
    refine wpAny_bind (wpT (evGT_s H HL HF hA h1 hl w R S) fun v s₁ r=>?_)
    rw [r.2]
    exact wpAny_pure ⟨r.1,rfl⟩
  | cons t2 ts =>
   cases xs with
   | nil=>cases h2
   | cons x2 xs =>
    rw [arm_allTrue_cons]
    refine wpAny_bind (wpT (evGT_s H HL HF hA h1 hl w R S) fun v s₁ r=>?_)
    rw [r.2]
    exact evGs_s H HL HF hA (t2 :: ts) (fun q=>nomatch q) h2 (evGT_inv hl w) he R r.1
theorem evTX_inv {ks:List NameKind} {ir:TX} {fl:Fl} (hl:HasL L l σ) (he:evTX F g ks l ir σ = some (fl,σ')):HasL L l σ':=by
 cases ir with
 | sx x=>exact evSX_inv x hl he
 | asg i e=>exact ite_t he fun hi he=>mDV he fun x v w he=>put_t (P:=fun _ v=>HasL L l v) he fun q1=>(evLE_inv hl w).set hi
 | ex j es=>exact mDV (f:=fun _ v=>some (Fl.next,v)) he fun x v w he=>by cases he; exact evLE_inv hl w
 | guard ts=>exact mV (f:=fun v=>some (Fl.next,v)) he fun v w he=>by cases he; exact evGs_inv ts hl w
 | retc e=>exact mDV (f:=fun d v=>some (Fl.ret d,v)) he fun x v w he=>by cases he; exact evLE_inv hl w
theorem if_false {x:Expr} {a:List Stmt} {pos:Pos} {Q:Fl -> Vars -> Prop} (h:∀ B U A s,Room k A -> (∃ O,SimO C B U O env σ s) -> wpAny C.M A (isTrue x env (eval x env)) (fun v s'=>(∃ O',SimO C B U O' env σ' s') /\ v = false) nf s) (hQ:Q .next σ'):ExS C k env σ (.If x a [] pos) Q:=by
 intro B U A s R hS
 refine wpAny_If (wpT (h B U A s R hS) fun v s₁ r=>?_)
 rw [r.2]
 exact r.1.elim fun O' S'=>wpAny_execs_nil ⟨O',_,.next,S',trivial,hQ⟩
theorem evTX_s {ks:List NameKind} (H:Gd C k g nm) (HL:LexOps C K k c L) (HF:FTok C k L F nl) (hE:EnvOk env) (hA:AtSc env sc) (hks:sc.names.map (·.2) = ks) {ir:TX} {x:Stmt} {fl:Fl} (hr:repTX nm nl sc l ir x = true) (hl:HasL L l σ) (he:evTX F g ks l ir σ = some (fl,σ')):ExS C k env σ x (Fin1 fl σ'):=by
 cases ir with
 | sx y=>exact evSX_s H HL hE hA hks y hr hl he
 | asg i e =>
  exact sAs1_t (e:=x) hr fun x px v p hr=>and3 hr fun h0 hn h1=>ite_t he fun hi he=>mDV he fun d σ1 w he=>put_t he fun hst=>by
   intro B U A s R hS
   exact hS.elim fun O S=>wpAny_Assign_Name (wpT (evLE_s H HL HF hA h1 hl w R S) fun v s' r =>
    r.1.store (hA.isSto (stoB_val hks h0 hst)) r.2 fun s'' S'' _=>⟨O,_,.next,S'',trivial,rfl,rfl⟩) (swaps_no (t:=none) hn)
 | ex j es =>
  exact sExpr_t (e:=x) hr fun v p hr=>mDV (f:=fun _ v=>some (Fl.next,v)) he fun y σ1 w he=>by
   cases he
   intro B U A s R hS
   exact hS.elim fun O S=>wpAny_Expr_any (wpT (evLE_s H HL HF hA hr hl w R S) fun v s' r=>⟨O,_,.next,r.1,trivial,rfl,rfl⟩) (notInter hE)
    (kFn_t (e:=v) (P:=fun v=>swapsWith v none p.line env = pure false) hr fun _ _ _ _ _=>rfl)
 | guard ts =>
  exact sIf_t (e:=x) hr fun x y o p hr=>and2 hr fun h0 hr=>kNil_t (l:=o) h0 <| mV (f:=fun v=>some (Fl.next,v)) he fun v w he=>by
   cases he
   refine if_false (fun B U A s R hS=>?_) ⟨rfl,rfl⟩
   refine hS.elim fun O S=>or_t hr (fun hr=>kBoolOp_t (e:=x) hr fun op xs bp hr=>and2 hr fun h0 hr=>isOr_t (o:=op) h0 <| and2 hr fun hn hr=>?a) fun hr=>?b
   case a=>exact wpT (evGs_s H HL HF hA ts (fun q=>by rw [q] at hn; cases hn) hr hl w R S) fun v s' r=>⟨⟨O,r.1⟩,r.2⟩
   case b =>
    cases ts with
    | nil=>cases hr
    | cons t ts =>
     cases ts with
     | cons _ _=>exact and2 hr fun _ h=>nomatch (show false = true from h)
     | nil =>
      exact and2 hr fun h1 _=>mfV (f:=fun v=>some v) w fun v w2 w=>by
       cases w
       exact wpT (evGT_s H HL HF hA h1 hl w2 R S) fun v s' r=>⟨⟨O,r.1⟩,r.2⟩
 | retc e =>
  exact sReturn_t (e:=x) hr fun v p hr=>kSome_t (o:=v) hr fun v hr=>mDV (f:=fun d v=>some (Fl.ret d,v)) he fun y σ1 w he=>by
   cases he
   intro B U A s R hS
   exact hS.elim fun O S=>wpAny_Return_some (wpT (evLE_s H HL HF hA hr hl w R S) fun v s' r=>⟨O,_,.ret _,r.1,r.2,rfl,rfl⟩)
theorem evTB_s {ks:List NameKind} (H:Gd C k g nm) (HL:LexOps C K k c L) (HF:FTok C k L F nl) (hE:EnvOk env) (hA:AtSc env sc) (hks:sc.names.map (·.2) = ks):∀ (irs:List TX) {ss:List Stmt} {σ σ':Vars} {fl:Fl},repTB nm nl sc l irs ss = true -> HasL L l σ -> evTB F g ks l irs σ = some (fl,σ') -> Ex C k env σ ss (Fin1 fl σ')
 | [],ss,σ,σ',fl,hr,hl,he=>kNil_t (l:=ss) hr (by cases he; exact Ex.nil ⟨rfl,rfl⟩)
 | t :: ts,ss,σ,σ',fl,hr,hl,he=>kCons_t (l:=ss) hr fun s ss hr=>and2 hr fun h1 h2=>by
  replace he:(match evTX F g ks l t σ with
   | some (.next,σ')=>evTB F g ks l ts σ'
   | some (fl,σ')=>some (fl,σ')
   | none=>none) = some (fl,σ'):=he
  cases w:evTX F g ks l t σ with
  | none=>rw [w] at he; cases he
  | some r =>
   obtain ⟨f1,σ₁⟩:=r
   rw [w] at he
   have a2:=evTX_inv hl w
   refine Ex.cons ((evTX_s H HL HF hE hA hks h1 hl w).mono fun f2 σ₂ e12=>?_)
   obtain ⟨e1,e2⟩:=e12
   subst e1 e2
   cases f2 with
   | next=>exact evTB_s H HL HF hE hA hks ts h2 a2 he
   | brk=>cases he; exact ⟨rfl,rfl⟩
   | cont=>cases he; exact ⟨rfl,rfl⟩
   | ret d=>cases he; exact ⟨rfl,rfl⟩
end
end
section
theorem law_wrap2 {prog:Program} {w:World} {s₁:Shared} {tabs:List (Addr × Addr)} {mg mb:Str -> Option Value} {qn:Addr -> Nat -> Nat -> Str} {cW:Addr} {fa a:Addr} {vs:List Value} {ns:List Int} {k:Nat}
  {cw:ClaimW} {cl:Str -> Option Addr} {mean:ExcName -> Option Value} {args:List WData}
  (hT:TabsAt tabs s₁.heap) (hg:s₁.gens = #[]) (G:(mkC prog w s₁ tabs mg mb qn cW).Good) (hk:k <= 200) (ha:Lst s₁.heap a vs) (hi:IntsAre vs ns)
  (hs:∀ Z A s v,Room k A -> OK (mkC prog w s₁ tabs mg mb qn cW) s -> ZOk (mkC prog w s₁ tabs mg mb qn cW) Z s -> IsD (mkC prog w s₁ tabs mg mb qn cW) Z s.heap v (.lst (ns.map .int)) ->
   codeAny (mkC prog w s₁ tabs mg mb qn cW).M A (.call (.ref fa) ⟨[v],[]⟩) (fun r s'=>r = .ok (.ret (.bool true)) /\ OK (mkC prog w s₁ tabs mg mb qn cW) s') s)
  (hr:∀ cls,cw.raises args cls = false) (hrec:∀ h:Heap,ReadsW cw.records cl h (.bool true) (.bool true) []) (hp:cw.post args (.bool true) args = true) :
  codeAny (model prog w) callerA (.call (.ref fa) ⟨[.ref a],[]⟩) (fun r s'=>GoodW cw cl mean args { s₁ with heap:=ghostOf s₁.heap tabs } r s' /\ GrownAll tabs s'.heap) s₁:=by
 have K:=ok_of hT G hg
 have hcm:claimMargin <= 500:=by decide
 have R:Room k callerA:=⟨rfl,by show 1 + claimMargin + k <= 800; omega,by show 4 + 40 * k <= 9000; omega⟩
 have z:ZOk (mkC prog w s₁ tabs mg mb qn cW) (fun b=>b ∈ tabs.map (·.2)) s₁:=⟨fun b hb=>hb,fun b hb=>by
  obtain ⟨q,hq,rfl⟩:=List.mem_map.mp hb; exact ⟨_,(hT q hq).2⟩⟩
 have na:¬ a ∈ tabs.map (·.2):=fun hm=>by
  obtain ⟨q,hq,rfl⟩:=List.mem_map.mp hm
  obtain ⟨n,e⟩:=ha
  rw [(hT q hq).2] at e; cases e
 refine codeAny_mono (hs _ callerA s₁ (.ref a) R K z (.lst a vs _ ha na (.of_ints hi))) fun r s' hZ2=>?_; obtain ⟨e,x⟩:=hZ2
 subst e
 refine ⟨⟨.inl ⟨_,_,[],rfl,hr,hrec _,hp,fun _=>⟨List.nodup_nil,fun a h=>nomatch h⟩⟩,fun b o e=>x.keep b o e,x.os,x.gens⟩,?_⟩
 have:∀ (ts:List (Addr × Addr)),(∀ q ∈ ts,q ∈ tabs) -> GrownAll ts s'.heap:=by
  intro ts
  induction ts with
  | nil=>intro _; trivial
  | cons t ts ih =>
   intro h
   refine ⟨?_,ih fun q hq=>h q (.tail _ hq)⟩
   obtain ⟨ps,g,_⟩:=x.tab t.2 (List.mem_map_of_mem (f:=(·.2)) (h t (.head _)))
   exact ⟨ps,g⟩
 exact this tabs fun q hq=>hq
section
variable {C:Cx} {k:Nat} {K:Frag} {c:Addr} {g:G} {nm nl:Nat -> Str} {F:LexA -> FT}
theorem law_run {a:Addr} {fd:FuncData} {s1 s2 s3 s4 s5:Stmt} {post:List Stmt} {ks:List NameKind} {i1 i2 i3 i4:St} {irs:List TX} {σ1 σ2 σ3 σ4:Vars} {il:Nat} {text:Str} {d0:D}
  (Fn:FnOk C a fd (s1 :: s2 :: s3 :: s4 :: s5 :: post) 1) (hks:fd.scope.names.map (·.2) = ks) (H:Gd C k g nm)
  (hr:(repS nm fd.scope i1 s1 && repS nm fd.scope i2 s2 && repS nm fd.scope i3 s3 && repS nm fd.scope i4 s4 && repTB nm nl fd.scope il irs post) = true)
  (e1:evS g ks i1 (initA ks [.d d0]) = some (.next,σ1)) (e2:evS g ks i2 σ1 = some (.next,σ2)) (e3:evS g ks i3 σ2 = some (.next,σ3)) (e4:evS g ks i4 σ3 = some (.next,σ4)) (hil:il < σ4.length)
  (hnew:∀ {env:Env} {B:Base} {U:Addr -> Prop} {O:Own} {A:Around} {s:Shared} {Qf:Flow -> Shared -> Prop},AtSc env fd.scope -> env.scope = fd.scope -> Room k A -> SimO C B U O env σ4 s ->
   (∀ h L s' O',Up C h -> SimO (C.up h) B U O' env (σ4.set il (.lex L ⟨text.cps.toList,1,[]⟩)) s' -> LexFix (C.up h) c L -> L.txt = text -> wpAny C.M A (execs post env) Qf nf s') ->
   wpAny C.M A (execs (s5 :: post) env) Qf nf s)
  (hops:∀ h L,Up C h -> LexFix (C.up h) c L -> L.txt = text -> LexOps (C.up h) K k c L /\ FTok (C.up h) k L (F L) nl)
  (hev:∀ L,∃ σ',evTB (F L) g ks il irs (σ4.set il (.lex L ⟨text.cps.toList,1,[]⟩)) = some (.ret (.bool true),σ')) :
  ∀ Z A s v,Room (k + 1) A -> OK C s -> ZOk C Z s -> IsD C Z s.heap v d0 -> codeAny C.M A (.call (.ref a) ⟨[v],[]⟩) (fun r s'=>r = .ok (.ret (.bool true)) /\ OK C s') s:=by
 intro Z A s v R Ks z i
 refine and5 hr fun r1 r2 r3 r4 r5=>?_
 refine fn_enter Fn (Z:=Z) (P:=fun _=>False) R Ks z rfl [.d d0] rfl (fun j w av q1 q2=>?_) fun env s₁ B O hA hE hcq x1 R1 S hB hPB hO'=>?_
 ·match j with
  | 0=>cases q1; cases q2; exact .inr ⟨_,rfl,i⟩
  | j + 1=>cases q1
 rw [hks] at S
 refine exs_wp (evS_s H hE hA hks i1 r1 e1) R1 S (fun O1 τ1 t1 S1 hZ4=>?_) fun _ _ q=>q.1; obtain ⟨_,q⟩:=hZ4
 subst q
 refine exs_wp (evS_s H hE hA hks i2 r2 e2) R1 S1 (fun O2 τ2 t2 S2 hZ4=>?_) fun _ _ q=>q.1; obtain ⟨_,q⟩:=hZ4
 subst q
 refine exs_wp (evS_s H hE hA hks i3 r3 e3) R1 S2 (fun O3 τ3 t3 S3 hZ4=>?_) fun _ _ q=>q.1; obtain ⟨_,q⟩:=hZ4
 subst q
 refine exs_wp (evS_s H hE hA hks i4 r4 e4) R1 S3 (fun O4 τ4 t4 S4 hZ4=>?_) fun _ _ q=>q.1; obtain ⟨_,q⟩:=hZ4
 subst q
 refine hnew hA hcq.1 R1 S4 fun h L s' O' hU S' FX htxt=>?_
 obtain ⟨HL,HF⟩:=hops h L hU FX htxt
 obtain ⟨σ',he⟩:=hev L
 have hl0:HasL L il (τ4.set il (.lex L ⟨text.cps.toList,1,[]⟩)):=⟨_,List.getElem?_set_self hil⟩
 refine wpT (evTB_s (H.up hU) HL HF hE hA hks irs r5 hl0 he B _ _ s' R1 ⟨O',S'⟩) fun f s2 hZ2=>?_; obtain ⟨O2,σ2,fl2,S2,hfl,q1,q2⟩:=hZ2
 subst q1
 cases f <;> first | exact hfl.elim | skip
 cases hfl
 exact ⟨rfl,S2.ok.down hU⟩
end
end
section
section
variable {C:Cx} {k:Nat}
noncomputable def maxL (n:Int) (ns:List Int):Int:=ns.foldl (fun a b=>if b > a then b else a) n
theorem argBest_max (n:Int) (ns:List Int):∀ m,m <= ns.length -> argBest (fun i j=>decide (((n :: ns)[i]?.getD 0) > ((n :: ns)[j]?.getD 0))) m <= m /\ (n :: ns)[argBest (fun i j=>decide (((n :: ns)[i]?.getD 0) > ((n :: ns)[j]?.getD 0))) m]?.getD 0 = maxL n (ns.take m)
 | 0,_=>⟨Nat.le_refl _,rfl⟩
 | m + 1,h=>by
  obtain ⟨h1,h2⟩:=argBest_max n ns m (by omega)
  have e:ns.take (m + 1) = ns.take m ++ [ns[m]'(by omega)]:=by rw [List.take_add_one,List.getElem?_eq_getElem (by omega)]; rfl
  have e2:maxL n (ns.take (m + 1)) = if ns[m]'(by omega) > maxL n (ns.take m) then ns[m]'(by omega) else maxL n (ns.take m):=by
   rw [e]; unfold maxL; rw [List.foldl_append]; rfl
  have e3:(n :: ns)[m + 1]?.getD 0 = ns[m]'(by omega):=by rw [List.getElem?_cons_succ,List.getElem?_eq_getElem (by omega)]; rfl
  rw [argBest,e2,h2,e3]
  by_cases q:ns[m]'(by omega) > maxL n (ns.take m)
  ·rw [if_pos q,if_pos (decide_eq_true q)]; exact ⟨Nat.le_refl _,e3⟩
  ·rw [if_neg q,if_neg (by simpa using q)]; exact ⟨Nat.le_succ_of_le h1,h2⟩
theorem PSpec.max {n:Int} {ns:List Int}:PSpec C k (.builtin "max") [.lst ((n :: ns).map .int)] (.int (maxL n ns)):=by
 intro Z A s vs R K z i
 replace i:=i.iCons; obtain ⟨_,_,hqq,i,j⟩:=i; cases hqq
 cases j.iNil
 replace i:=i.iLst; obtain ⟨a,vs,hqq,h1,z1,i1⟩:=i; cases hqq
 have hlen:=i1.length
 have hlt:=h1.lt
 rw [List.length_map] at hlen
 refine call_max_walk (wpAny_pyIter_list h1.is ⟨s.heap.objs.size,[s.heap.objs.size,a],[s.heap.objs.size],(n :: ns).length,fun i v=>vs.toArray[i]? = some v,fun i h=>h.IsListIter s.heap.objs.size a i /\ h.IsList a vs.toArray,fun i j=>decide (((n :: ns)[i]?.getD 0) > ((n :: ns)[j]?.getD 0)),rfl,?_,⟨⟨_,Heap.get?_push_size _ rfl,rfl,rfl⟩,h1.is.push _⟩,?_,Nat.succ_pos _,CmpOf.ints_gt (fun i=>(n :: ns)[i]?.getD 0) ?_,fun v h' tk hP hk=>⟨.of_keeps K fun b o g=>?_,?_⟩⟩)
 ·have:=Walks.list (prog:=C.prog) (w:=C.w) (A:=A.in1) R.hd s.heap.objs.size a (Nat.ne_of_lt hlt) vs.toArray
  rw [<- hlen]; simpa using this
 ·intro b hb
  rw [Heap.size_push]
  rcases List.mem_cons.mp hb with rfl | hb
  ·exact Nat.lt_succ_self _
  ·rcases List.mem_cons.mp hb with rfl | hb
   ·exact Nat.lt_succ_of_lt hlt
   ·cases hb
 ·intro i v hv
  exact i1.intAt (by simpa using hv)
 ·have hne:b ≠ s.heap.objs.size:=Nat.ne_of_lt (Heap.lt_size g)
  exact hk b o (by simpa using hne) (Heap.get?_push_of_some _ g)
 ·obtain ⟨t,e⟩:=i1.intAt (List.getElem?_toArray.symm.trans hP)
  subst e
  have m:=(argBest_max n ns ns.length (Nat.le_refl _)).2
  rw [List.take_length] at m
  have l:(n :: ns).length - 1 = ns.length:=rfl
  rw [l,m]; exact .int _ _
theorem PSpec.max2 {m n:Int}:PSpec C k (.builtin "max") [.int m,.int n] (.int (maxL m [n])):=by
 intro Z A s vs R K z i
 replace i:=i.iCons; obtain ⟨_,_,hqq,i,j⟩:=i; cases hqq
 replace j:=j.iCons; obtain ⟨_,_,hqq,j,j2⟩:=j; cases hqq
 cases j2.iNil
 replace i:=i.iInt; obtain ⟨t,hqq⟩:=i; cases hqq
 replace j:=j.iInt; obtain ⟨u,hqq⟩:=j; cases hqq
 have h1:(s.heap.push { cls:=.type "tuple",data:=.seq #[.int m t,.int n u] }).IsTuple s.heap.objs.size #[.int m t,.int n u]:=⟨_,Heap.get?_push_size _ rfl,rfl,_,rfl⟩
 have hsz:(s.heap.push { cls:=.type "tuple",data:=.seq #[.int m t,.int n u] }).objs.size = s.heap.objs.size + 1:=Heap.size_push ..
 have hI:∀ (i:Nat) (v:Value),(#[Value.int m t,Value.int n u])[i]? = some v -> ∃ w,v = Value.int ([m,n][i]?.getD 0) w:=fun i v hv=>by
  match i,hv with
  | 0,hv=>cases hv; exact ⟨_,rfl⟩
  | 1,hv=>cases hv; exact ⟨_,rfl⟩
  | _ + 2,hv=>cases hv
 refine call_max_two (wpAny_pyIter_tuple h1 ⟨_,[_,s.heap.objs.size],[_],2,fun i v=>(#[Value.int m t,.int n u])[i]? = some v,fun i h=>h.IsTupleIter _ s.heap.objs.size i /\ h.IsTuple s.heap.objs.size #[Value.int m t,.int n u],fun i j=>decide (([m,n][i]?.getD 0) > ([m,n][j]?.getD 0)),rfl,Walks.tuple (prog:=C.prog) (w:=C.w) (A:=A.in1) R.hd (s.heap.push { cls:=.type "tuple",data:=.seq #[.int m t,.int n u] }).objs.size s.heap.objs.size (fun q=>Nat.ne_of_lt (Nat.lt_succ_self _) (q.trans hsz)) #[.int m t,.int n u],⟨⟨_,Heap.get?_push_size _ rfl,rfl,rfl⟩,h1.push _⟩,?_,Nat.succ_pos _,CmpOf.ints_gt (fun i=>[m,n][i]?.getD 0) hI,fun v h' tk hP hk=>⟨.of_keeps K fun b o g=>?_,?_⟩⟩)
 ·intro b hb
  rw [Heap.size_push,hsz]
  rcases List.mem_cons.mp hb with rfl | hb
  ·exact Nat.lt_succ_of_le (Nat.le_of_eq hsz)
  ·rcases List.mem_cons.mp hb with rfl | hb
   ·exact Nat.lt_succ_of_lt (Nat.lt_succ_self _)
   ·cases hb
 ·have hlt:b < s.heap.objs.size:=Heap.lt_size g
  have hne:b ≠ (s.heap.push { cls:=.type "tuple",data:=.seq #[.int m t,.int n u] }).objs.size:=by rw [hsz]; exact Nat.ne_of_lt (Nat.lt_succ_of_lt hlt)
  exact hk b o (by simpa using hne) (Heap.get?_push_of_some _ (Heap.get?_push_of_some _ g))
 ·obtain ⟨w,e⟩:=hI _ v hP
  subst e
  have m':=(argBest_max m [n] 1 (Nat.le_refl _)).2
  have l:argBest (fun i j=>decide (([m,n][i]?.getD 0) > ([m,n][j]?.getD 0))) (2 - 1) = argBest (fun i j=>decide (([m,n][i]?.getD 0) > ([m,n][j]?.getD 0))) 1:=rfl
  rw [l,m']; exact .int _ _
noncomputable def maxF (ds:List D):Option D:=match ds with
 | []=>none
 | a :: r=>match r with
  | []=>oL a fun l=>match ints? l with
   | some ns=>(match ns with
    | []=>none
    | n :: ns=>some (.int (maxL n ns)))
   | none=>none
  | b :: r=>l0 r (iI a b fun a b=>some (.int (maxL a [b])))
theorem maxF_s:∀ {ds:List D} {d:D},maxF ds = some d -> PSpec C k (.builtin "max") ds d:=by
 intro ds d e
 cases ds with
 | nil=>cases e
 | cons a r =>
  cases r with
  | nil =>
   refine oL_t (b:=a) e fun l e=>?_
   cases q:ints? l with
   | none=>rw [q] at e; cases e
   | some ns =>
    rw [q] at e
    cases ns with
    | nil=>cases e
    | cons n ns=>cases e; rw [ints?_eq q]; exact PSpec.max
  | cons b r =>
   refine l0_t (ds:=r) e fun e=>iI_t (a:=a) (b:=b) e fun a b e=>?_
   cases e; exact PSpec.max2
end
end
section
section
variable {C:Cx} {k:Nat} {K:Frag} {c:Addr} {L:LexA} {st st':LexSt}
theorem evTB_inv {Ff:FT} {g:G} {l:Nat} {ks:List NameKind}:∀ {irs:List TX} {σ σ':Vars} {fl:Fl},HasL L l σ -> evTB Ff g ks l irs σ = some (fl,σ') -> HasL L l σ'
 | [],σ,σ',fl,hl,he=>by cases he; exact hl
 | t :: ts,σ,σ',fl,hl,he=>by
  rw [evTB] at he
  cases w:evTX Ff g ks l t σ with
  | none=>rw [w] at he; cases he
  | some r =>
   obtain ⟨f1,σ₁⟩:=r
   rw [w] at he
   have a2:=evTX_inv hl w
   cases f1 with
   | next=>exact evTB_inv (irs:=ts) a2 he
   | brk=>cases he; exact a2
   | cont=>cases he; exact a2
   | ret d=>cases he; exact a2
theorem lexfnT_run {Ff:FT} {nl:Nat -> Str} {g:G} {nm:Nat -> Str} {a:Addr} {fd:FuncData} {body:List Stmt} {n:Nat} {ir:List TX} {ks:List NameKind} {ds:List D} {d:D} {fl:Fl} {σ':Vars} (F:FnOk C a fd body (n + 1)) (H:Gd C k g nm) (HL:LexOps C K k c L) (HF:FTok C k L Ff nl) (hds:ds.length = n) (hks:fd.scope.names.map (·.2) = ks)
  (hr:repTB nm nl fd.scope 0 ir body = true) (he:evTB Ff g ks 0 ir (initA ks (.lex L st :: ds.map .d)) = some (fl,σ')) (hf:fl = .ret d \/ (fl = .next /\ d = .none)) (hs':σ'[0]? = some (.lex L st')):LexC C (k + 1) L a st ds d st':=by
 intro Z A s vs R Ks z hZ M i
 refine lexfn_enter F hds hks HL.fx R Ks z hZ M i fun env s₁ B O hA hE hsc R1 S hLK=>?_
 have hk0:0 < ks.length:=by rw [<- hks,List.length_map]; have:=F.len; omega
 have hL0:HasL L 0 (initA ks (.lex L st :: ds.map .d)):=by
  cases ks with
  | nil=>simp at hk0
  | cons a r=>exact ⟨st,rfl⟩
 refine wpT (evTB_s H HL HF hE hA hks ir hr hL0 he B _ _ s₁ R1 ⟨O,S⟩) fun f s' hZ2=>?_; obtain ⟨O',σ2,fl2,S',hfl,e1,e2⟩:=hZ2
 subst e1 e2
 obtain ⟨x0,kk0,hx0⟩:∃ x kk,env.scope.names[0]? = some (x,kk):=by
  have:0 < fd.scope.names.length:=by have:=F.len; omega
  exact ⟨(fd.scope.names[0]'this).1,(fd.scope.names[0]'this).2,by rw [hsc,List.getElem?_eq_getElem this]⟩
 have hx:IsVar env.scope x0 0:=by unfold IsVar; rw [hx0]; rfl
 obtain ⟨M',hO⟩:=S'.lexMut hx hs'
 refine ⟨S'.ok,hLK S',M',?_⟩
 have zz:∀ b,¬ Zf (fun b=>Z b /\ ¬ LMut L b) O' b -> ¬ Z b:=fun b n q=>by
  by_cases w:LMut L b
  ·exact n (.inr (nnS (hO b w)))
  ·exact n (.inl ⟨q,w⟩)
 rcases hf with rfl | ⟨rfl,rfl⟩
 ·cases f <;> first | exact hfl.elim | exact IsD.mono (fun b o n g=>g) (fun b o n g=>zz b n) hfl
 ·cases f <;> first | exact hfl.elim | exact .none
end
end
end Mine
end
section
open PySem PySem.W PyProof.Rows
section
local macro_rules | `(tactic| o_head $_)=>`(tactic| assumption)
theorem Mine.k (h:PySem.Challenge.rw_sh0056_03.row.Holds):PySem.Challenge.rw_sh0056_03.row.Holds:=by km_head
end
namespace Mine
theorem left2 {p q:Program} {loose:List Str} {Xt:Shared -> Bool} {α:Type} {Yf:Shared -> α} {Ya:World -> α} {N:Nat} {g0:Bool} (row:String)
  (e:opening p = plainProg p.main.scope.names) (hN:Nat.ble 600 N = true) (f:∀ s,fenceModules? p s = some s)
  (h:∀ b (w:World) os,(topFrom treeTable p (w.withFollow row b) N ⟨boot_heap (w.withFollow row b).params,Array.mk [],boot_drawn,boot_toks,os⟩).map (fun s=>(openSeen q loose (importedModules p.main.body) Xt g0 s,Yf s)) = some (openGood q loose,Ya (w.withFollow row b))) :
  LeftO p q loose Xt Yf Ya N g0:=fun w=>by
 have e':=World.withFollow_self w row
 obtain ⟨⟨hp,gs,d,k,os⟩,e1,e2⟩:=Option.map_eq_some_iff.mp (boot_open e hN f w)
 obtain ⟨rfl,rfl,rfl,rfl⟩:hp = boot_heap w.params /\ gs = Array.mk [] /\ d = boot_drawn /\ k = boot_toks:=by simpa using e2
 have h1:=h (w.params.followText row) w os
 rw [e'] at h1
 unfold openEnds
 rw [e1]
 exact h1
noncomputable def sel {α:Type}:List Bool -> List α -> List α
 | true :: bs,x :: xs=>x :: sel bs xs
 | false :: bs,_ :: xs=>sel bs xs
 | [],xs=>xs
 | _,[]=>[]
noncomputable def view:Program:={ PySem.Challenge.pw_sh0056_03 with main:={ PySem.Challenge.pw_sh0056_03.main with body:=sel [true,false,true,false,true,true,true,true,true,true,true,false,true,true,false,true,false,true,true,true,true,true,true,true,true,true,true,true,true,true,true,true] PySem.Challenge.pw_sh0056_03.main.body } }
noncomputable def as2:List Addr:=[2,3,15,17,18,20,21,32,34,35,37,38,39,41,42,44,45,46,48,49,51,52,53,55,56,58,59,60,62,63,65,66,67,69,70,72,73,74,76,77,79,80,81,82,83,84,85,88,90,91,93,94,95,97,98,100,101,102,104,105,107,108,109,111,112,114,115,116,118,119,121,122,123,125,126,128,129,130,132,133,135,136,144,146,147,149,150,151,153,154,156,157,158,160,161,163,164,165,167,168,170,171,172,173,174,175,176,179,181,182,184,185,186,189,190,191,194,195,196,198,199,201,202,203,205,206,208,209,210,212,213,215,216,217,219,220,222,223,224,226,227,229,230,231,234,235,236,239,240,241,243,244,246,247,248,251,252,253,256,257,258,261,262,263,266,267]
noncomputable def H2:Hook:=kmHook k.heap_1 as2 (fun _=>by kernel_rfl) [180,110,103]
noncomputable def X2:Shared -> Bool:=fun s=>xlAt view [] s && recOk (RowW.records (OpenRow.toRowW (OpenLaw.row PySem.Challenge.rw_sh0056_03))) s
noncomputable abbrev Left2 (b:Bool):Prop:=∀ (w:World) (os:OsState),(topFrom treeTable PySem.Challenge.pw_sh0056_03 (w.withFollow "special-get-raises" b) 3128 ⟨boot_heap (w.withFollow "special-get-raises" b).params,Array.mk [],boot_drawn,boot_toks,os⟩).map (fun s=>(openSeen view [Str.ofString "Whitespace"] (importedModules PySem.Challenge.pw_sh0056_03.main.body) X2 true s,H2.obs s)) = some (openGood view [Str.ofString "Whitespace"],H2.val (w.withFollow "special-get-raises" b))
theorem lf1:Left2 true:=by
 intro w os
 unfold topFrom
 rw [PySem.W.Fast.te14082659384304107361,PySem.W.Fast.te14364793385576792824,PySem.W.Fast.te4187177175401517315]
 kernel_rfl
theorem lf0:Left2 false:=by
 intro w os
 unfold topFrom
 rw [PySem.W.Fast.te14082659384304107361,PySem.W.Fast.te14364793385576792824,PySem.W.Fast.te4187177175401517315]
 kernel_rfl
theorem said:PySem.Challenge.rw_sh0056_03.wellSaid = true:=by
 rw [PySem.W.Fast.te9446332074065402090]
 kernel_rfl
theorem wit:PySem.Challenge.rw_sh0056_03.row.toRowW.promised:=by w_witness2
theorem lop:opening PySem.Challenge.pw_sh0056_03 = plainProg PySem.Challenge.pw_sh0056_03.main.scope.names:=by kernel_rfl
theorem lfe (s:Shared):fenceModules? PySem.Challenge.pw_sh0056_03 s = some s:=by kernel_rfl
theorem left02:LeftO PySem.Challenge.pw_sh0056_03 view [Str.ofString "Whitespace"] X2 H2.obs H2.val 3128:=left2 "special-get-raises" lop rfl lfe fun b=>by
 cases b
 ·exact lf0
 ·exact lf1
theorem hd0 {d:DefRec} {kwd:List (Str × Expr)} (hd:defOf view (Str.ofString "law") = some (d,kwd)) (hp:PySem.Challenge.pw_sh0056_03.theDef (Str.ofString "law") = some (d.params,d.body,d.scope)) (hk:kwWritten? d.params.kwonlyargs d.params.kw_defaults = some kwd)
  (hc:WalkO view [Str.ofString "Whitespace"] (XL view []) H2.says PySem.Challenge.rw_sh0056_03.row.toRowW d kwd fun f vs=>PySem.call f vs):PySem.Challenge.rw_sh0056_03.Holds :=
 holds_law said fun sd=>holds_open (r:=PySem.Challenge.rw_sh0056_03.row) (q:=view) (loose:=[Str.ofString "Whitespace"]) (Xt:=X2) (XP:=XL view []) (Yf:=H2.obs) (Ya:=H2.val) (YP:=H2.says) (N:=3128) left02 H2.of H2.keeps (fun s e=>xl_of s (Bool.and_eq_true_iff.mp e).1) XL.keeps hd hp hk (fun s e=>recFacts_of (Bool.and_eq_true_iff.mp e).2) (by rfl) sd (by decide +kernel) ⟨rfl,rfl,rfl,rfl,rfl,by decide +kernel⟩ wit hc
end Mine
end
section
open PySem PySem.W PyProof.Rows PySem.Calls
namespace Mine
section
noncomputable abbrev K2 (P:Params):Frag:=k.heap_1 P
noncomputable def nm2:Nat -> Str
 | 0=>"len" | 1=>"sum" | 2=>"max" | 3=>"list" | 4=>"tuple" | 5=>"divmod" | 10=>"_div2n1n" | 11=>"_int2digits" | 12=>"_digits2int" | 13=>"_divmod_pos" | 14=>"int_divmod" | 15=>"_ellipsis_match" | 16=>"Whitespace" | 17=>"_law_written" | 18=>"_law_order" | 19=>"_law_sizes" | 20=>"_law_signs" | 21=>"_law_due" | 22=>"_law_rings" | 23=>"_law_marks" | 24=>"_law_named" | 25=>"_law_product" | 26=>"_law_back" | 100=>"longest_run_of_spaces" | 101=>"indent_level" | _=>"not_equal_witness"
noncomputable def ks_ellipsis_match:List NameKind:=[.local,.local,.local,.local,.local,.local,.globalImplicit,.globalImplicit]
noncomputable def ir_ellipsis_match:List St:=[.if_ (.cmp .NotIn (.gc 1) (.var 0)) [.ret (.cmp .Eq (.var 0) (.var 1))] [],
 .asgO 2 (.meth 8 (.var 0) [(.gc 1)]),
 .asrt (.cmp .GtE (.call 0 [(.var 2)]) (.int 2)),
 .twoD 3 4 (.tup [(.int 0),(.call 0 [(.var 1)])]),
 .asg 5 (.sub (.var 2) (.int 0)),
 .if_ (.e (.var 5)) [.if_ (.e (.meth 2 (.var 1) [(.var 5)])) [.asg 3 (.call 0 [(.var 5)]),.del 2 (.int 0)] [.ret (.bool false)]] [],
 .asg 5 (.sub (.var 2) (.neg (.int 1))),
 .if_ (.e (.var 5)) [.if_ (.e (.meth 3 (.var 1) [(.var 5)])) [.aug 4 .Sub (.call 0 [(.var 5)]),.del 2 (.neg (.int 1))] [.ret (.bool false)]] [],
 .if_ (.cmp .Gt (.var 3) (.var 4)) [.ret (.bool false)] [],
 .frz 2,
 .for_ (.one 5) (.e (.var 2)) [.asg 3 (.meth 4 (.var 1) [(.var 5),(.var 3),(.var 4)]),.if_ (.cmp .Lt (.var 3) (.int 0)) [.ret (.bool false)] [],.aug 3 .Add (.call 0 [(.var 5)])],
 .ret (.bool true)]
noncomputable def ks_law_written:List NameKind:=[.local,.local]
noncomputable def ir_law_written:List St:=[.if_ (.e (.var 1)) [.ret (.bin .Add (.bin .Add (.str (Str.ofString "\"")) (.meth 0 (.str (Str.ofString "")) [(.comp [none,none] [.local,.local] (.one 1) (.e (.var 0)) [] (.ite (.cmp .In (.var 1) (.str (Str.ofString "\"\\"))) (.bin .Add (.str (Str.ofString "\\")) (.var 1)) (.var 1)))])) (.str (Str.ofString "\" ")))] [],
 .ret (.bin .Add (.meth 0 (.str (Str.ofString "")) [(.comp [none,none] [.local,.local] (.one 1) (.e (.var 0)) [] (.bin .Add (.str (Str.ofString "\\")) (.var 1)))]) (.str (Str.ofString " ")))]
noncomputable def ks_law_order:List NameKind:=[.local,.local,.local,.local,.globalImplicit,.globalImplicit]
noncomputable def ir_law_order:List St:=[.asg 1 (.bin .Add (.slcHi (.var 0) (.int 5)) (.slcLo (.lst [(.int 0),(.int 0),(.int 1),(.int 2),(.int 4)]) (.call 0 [(.slcHi (.var 0) (.int 5))]))),
 .asgO 2 (.lst []),
 .for_ (.one 3) (.r1 (.int 5)) [.ins 2 (.bin .Mod (.sub (.var 1) (.var 3)) (.bin .Add (.var 3) (.int 1))) (.var 3)],
 .ret (.var 2)]
noncomputable def ks_law_sizes:List NameKind:=[.local,.local,.local,.local,.local,.local,.globalImplicit]
noncomputable def ir_law_sizes:List St:=[.asgO 1 (.lst []),
 .asgO 2 (.lst []),
 .for_ (.one 3) (.r1 (.int 5)) [.asg 4 (.var 3),.asg 5 (.int 0),.while_ 100 (.cmp .NotIn (.var 4) (.var 1)) [.app 1 (.var 4),.asg 5 (.bin .Add (.var 5) (.int 1)),.asg 4 (.sub (.var 0) (.var 4))],.if_ (.cmp .Gt (.var 5) (.int 0)) [.app 2 (.var 5)] []],
 .ret (.var 2)]
noncomputable def ks_law_signs:List NameKind:=[.local,.local,.local,.local,.globalImplicit]
noncomputable def ir_law_signs:List St:=[.asg 1 (.str (Str.ofString "a\"\\ \n#\t")),
 .asg 2 (.bin .Mod (.call 1 [(.var 0)]) (.int 7)),
 .asg 3 (.bin .Mod (.bin .Add (.bin .Add (.var 2) (.int 1)) (.bin .Mod (.bin .FloorDiv (.call 1 [(.var 0)]) (.int 7)) (.int 6))) (.int 7)),
 .ret (.lst [(.sub (.var 1) (.var 2)),(.sub (.var 1) (.var 3))])]
noncomputable def ks_law_due:List NameKind:=[.cell,.local,.local,.globalImplicit]
noncomputable def ir_law_due:List St:=[.asg 1 (.lst [(.str (Str.ofString ""))]),
 .for_ (.one 2) (.r1 (.int 5)) [.asgC 1 (.comp2 [none,none,none,some 0] [.local,.local,.local,.free] (.one 1) (.e (.var 1)) 2 (.e (.var 3)) (.bin .Add (.var 1) (.var 2)))],
 .ret (.bin .Add (.var 1) (.lst [(.str (Str.ofString ""))]))]
noncomputable def ks_law_rings:List NameKind:=[.local,.local,.local,.local,.local,.cell,.local]
noncomputable def ir_law_rings:List St:=[.asgO 2 (.lst []),
 .asgO 3 (.lst []),
 .for_ (.one 4) (.e (.var 0)) [.asg 5 (.var 4),.asg 6 (.int 0),.while_ 100 (.cmp .NotIn (.var 5) (.var 2)) [.app 2 (.var 5),.asg 6 (.bin .Add (.var 6) (.int 1)),.asg 5 (.meth 0 (.str (Str.ofString "")) [(.comp [none,none,some 5] [.local,.local,.free] (.one 1) (.e (.var 1)) [] (.sub (.var 2) (.var 1)))])],.if_ (.cmp .Gt (.var 6) (.int 0)) [.app 3 (.tup [(.var 6),(.var 4)])] []],
 .ret (.var 3)]
noncomputable def ks_law_marks:List NameKind:=[.local,.local,.local,.local,.local,.local,.globalImplicit]
noncomputable def ir_law_marks:List St:=[.asgO 2 (.lst []),
 .for_ (.two 3 4) (.e (.var 0)) [.asg 5 (.meth 1 (.var 4) [(.var 1)]),.if_ (.cmp .IsNot (.call 15 [(.bin .Add (.bin .Mult (.bin .Add (.str (Str.ofString "...")) (.var 1)) (.var 5)) (.str (Str.ofString "..."))),(.var 4)]) (.bool true)) [.ret (.lst [])] [],.if_ (.cmp .IsNot (.call 15 [(.bin .Add (.bin .Mult (.bin .Add (.str (Str.ofString "...")) (.var 1)) (.bin .Add (.var 5) (.int 1))) (.str (Str.ofString "..."))),(.var 4)]) (.bool false)) [.ret (.lst [])] [],.app 2 (.var 5)],
 .ret (.var 2)]
noncomputable def ks_law_named:List NameKind:=[.local,.local,.cell,.local,.local,.local,.local,.globalImplicit,.globalImplicit]
noncomputable def ir_law_named:List St:=[.asgO 1 (.lst [(.lst [])]),
 .for_ (.one 2) (.r2 (.int 1) (.bin .Add (.var 0) (.int 1))) [.asg 3 (.call 16 [(.bin .Add (.bin .Mult (.str (Str.ofString " ")) (.bin .Sub (.var 2) (.int 1))) (.str (Str.ofString "\t")))]),.asg 4 (.call 16 [(.bin .Add (.bin .Mult (.str (Str.ofString " ")) (.var 2)) (.str (Str.ofString "\t")))]),.asg 5 (.wm 102 (.var 3) [(.var 4)]),.asgC 6 (.comp [none,none,some 2] [.local,.local,.free] (.one 1) (.r2 (.int 1) (.bin .Add (.var 2) (.int 1))) [(.cmp .Eq (.bin .Mod (.var 2) (.var 1)) (.int 0))] (.var 1)),.if_ (.cmp .NotEq (.var 5) (.comp [none,none,some 2] [.local,.local,.free] (.one 1) (.e (.var 6)) [] (.tup [(.var 1),(.bin .Mult (.var 1) (.bin .Add (.bin .FloorDiv (.bin .Sub (.var 2) (.int 1)) (.var 1)) (.int 1))),(.bin .Mult (.var 1) (.bin .Add (.bin .FloorDiv (.var 2) (.var 1)) (.int 1)))]))) [.ret (.lst [])] [],.app 1 (.comp [none,none] [.local,.local] (.one 1) (.e (.var 5)) [] (.sub (.var 1) (.int 0)))],
 .ret (.var 1)]
noncomputable def ks_law_product:List NameKind:=[.local,.cell,.cell,.local,.local,.local,.local,.globalImplicit]
noncomputable def ir_law_product:List St:=[.asg 4 (.int 1),
 .for_ (.one 5) (.e (.var 0)) [.asg 6 (.call 2 [(.comp [none,none,some 1,some 2] [.local,.local,.free,.free] (.one 1) (.e (.sub (.var 1) (.var 5))) [(.cmp .In (.var 1) (.sub (.var 2) (.var 3)))] (.var 1))]),.asg 4 (.bin .Mult (.var 4) (.bin .Pow (.bin .Add (.int 1) (.bin .Pow (.var 3) (.bin .FloorDiv (.var 5) (.var 6)))) (.var 6)))],
 .ret (.var 4)]
noncomputable def ks_law_back:List NameKind:=[.cell,.cell,.cell,.cell,.globalImplicit,.globalImplicit,.globalImplicit]
noncomputable def ir_law_back:List St:=[.ret (.call 1 [(.comp [none,none,some 3,some 1,some 0,some 2] [.local,.local,.free,.free,.free,.free] (.one 1) (.r1 (.call 0 [(.var 0)])) [(.cmp .Eq (.bin .Mod (.var 5) (.sub (.sub (.var 4) (.var 1)) (.int 0))) (.int 0))] (.bin .Mult (.sub (.sub (.var 4) (.var 1)) (.int 0)) (.bin .Pow (.var 2) (.sub (.var 3) (.var 1)))))])]
noncomputable def ksWhitespace_longest_run_of_spaces:List NameKind:=[.local,.local,.local,.globalImplicit,.globalImplicit]
noncomputable def irWhitespace_longest_run_of_spaces:List St:=[.two 1 2 (.attr 0 (.var 0)),
 .ret (.call 2 [(.bin .Sub (.call 0 [(.var 1)]) (.int 1)),(.var 2)])]
noncomputable def ksWhitespace_indent_level:List NameKind:=[.local,.local,.local,.local,.local,.local,.globalImplicit,.globalImplicit]
noncomputable def irWhitespace_indent_level:List St:=[.two 2 3 (.attr 0 (.var 0)),
 .asg 4 (.int 0),
 .for_ (.one 5) (.r2 (.var 1) (.call 0 [(.var 2)])) [.asg 4 (.bin .Add (.var 4) (.bin .Mult (.bin .FloorDiv (.var 5) (.var 1)) (.sub (.var 2) (.var 5))))],
 .ret (.bin .Add (.var 3) (.bin .Mult (.var 1) (.bin .Add (.var 4) (.attr 2 (.var 0)))))]
noncomputable def ksWhitespace_not_equal_witness:List NameKind:=[.local,.local,.local,.local,.local,.globalImplicit,.globalImplicit]
noncomputable def irWhitespace_not_equal_witness:List St:=[.asg 2 (.bin .Add (.call 2 [(.wm 100 (.var 0) []),(.wm 100 (.var 1) [])]) (.int 1)),
 .asgO 3 (.lst []),
 .for_ (.one 4) (.r2 (.int 1) (.bin .Add (.var 2) (.int 1))) [.if_ (.cmp .NotEq (.wm 101 (.var 0) [(.var 4)]) (.wm 101 (.var 1) [(.var 4)])) [.app 3 (.tup [(.var 4),(.wm 101 (.var 0) [(.var 4)]),(.wm 101 (.var 1) [(.var 4)])])] []],
 .ret (.var 3)]
theorem gv2 {C:Cx} {P:Params} (X:(K2 P).In C.h0) (G:C.Good) {x:Str} {a:Addr} (h:nsIn (K2 P) mainGlobals x = some (some (.ref a))) (hd:(x == ("__debug__":Str)) = false):GV C x (.ref a):=⟨.inl (mg_of X G.g h),hd⟩
theorem fn_div2n1n {C:Cx} {P:Params} (X:(K2 P).In C.h0):FnOk C 94 (fdOf (K2 P) 94) (bodyOf (fdOf (K2 P) 94)) 3:=fnok_of X (by kernel_rfl) (bind3 fun v1 v2 v3=>by kernel_rfl)
theorem add_div2n1n {C:Cx} {P:Params} {k:Nat} {g:G} (X:(K2 P).In C.h0) (G:C.Good) (H:Gd C k g nm2):Gd C (k + 1) (addF g 10 3 ks_div2 ir_div2) nm2 :=
 H.add (fn_div2n1n X) (gv2 X G (by kernel_rfl) (by kernel_rfl)) (by kernel_rfl) (by kernel_rfl) (by decide)
theorem fn_divmod_pos {C:Cx} {P:Params} (X:(K2 P).In C.h0):FnOk C 122 (fdOf (K2 P) 122) (bodyOf (fdOf (K2 P) 122)) 2:=fnok_of X (by kernel_rfl) (bind2 fun v1 v2=>by kernel_rfl)
theorem add_divmod_pos {C:Cx} {P:Params} {k:Nat} {g:G} (X:(K2 P).In C.h0) (G:C.Good) (H:Gd C k g nm2):Gd C (k + 1) (addF g 13 2 ks_dpos ir_dpos) nm2 :=
 H.add (fn_divmod_pos X) (gv2 X G (by kernel_rfl) (by kernel_rfl)) (by kernel_rfl) (by kernel_rfl) (by decide)
theorem fnint_divmod {C:Cx} {P:Params} (X:(K2 P).In C.h0):FnOk C 129 (fdOf (K2 P) 129) (bodyOf (fdOf (K2 P) 129)) 2:=fnok_of X (by kernel_rfl) (bind2 fun v1 v2=>by kernel_rfl)
theorem addint_divmod {C:Cx} {P:Params} {k:Nat} {g:G} (X:(K2 P).In C.h0) (G:C.Good) (H:Gd C k g nm2):Gd C (k + 1) (addF g 14 2 ks_idm ir_idm) nm2 :=
 H.add (fnint_divmod X) (gv2 X G (by kernel_rfl) (by kernel_rfl)) (by kernel_rfl) (by kernel_rfl) (by decide)
theorem fn_ellipsis_match {C:Cx} {P:Params} (X:(K2 P).In C.h0):FnOk C 136 (fdOf (K2 P) 136) (bodyOf (fdOf (K2 P) 136)) 2:=fnok_of X (by kernel_rfl) (bind2 fun v1 v2=>by kernel_rfl)
theorem add_ellipsis_match {C:Cx} {P:Params} {k:Nat} {g:G} (X:(K2 P).In C.h0) (G:C.Good) (H:Gd C k g nm2):Gd C (k + 1) (addF g 15 2 ks_ellipsis_match ir_ellipsis_match) nm2 :=
 H.add (fn_ellipsis_match X) (gv2 X G (by kernel_rfl) (by kernel_rfl)) (by kernel_rfl) (by kernel_rfl) (by decide)
theorem fn_law_written {C:Cx} {P:Params} (X:(K2 P).In C.h0):FnOk C 190 (fdOf (K2 P) 190) (bodyOf (fdOf (K2 P) 190)) 2:=fnok_of X (by kernel_rfl) (bind2 fun v1 v2=>by kernel_rfl)
theorem add_law_written {C:Cx} {P:Params} {k:Nat} {g:G} (X:(K2 P).In C.h0) (G:C.Good) (H:Gd C k g nm2):Gd C (k + 1) (addF g 17 2 ks_law_written ir_law_written) nm2 :=
 H.add (fn_law_written X) (gv2 X G (by kernel_rfl) (by kernel_rfl)) (by kernel_rfl) (by kernel_rfl) (by decide)
theorem fn_law_order {C:Cx} {P:Params} (X:(K2 P).In C.h0):FnOk C 209 (fdOf (K2 P) 209) (bodyOf (fdOf (K2 P) 209)) 1:=fnok_of X (by kernel_rfl) (bind1 fun v1=>by kernel_rfl)
theorem add_law_order {C:Cx} {P:Params} {k:Nat} {g:G} (X:(K2 P).In C.h0) (G:C.Good) (H:Gd C k g nm2):Gd C (k + 1) (addF g 18 1 ks_law_order ir_law_order) nm2 :=
 H.add (fn_law_order X) (gv2 X G (by kernel_rfl) (by kernel_rfl)) (by kernel_rfl) (by kernel_rfl) (by decide)
theorem fn_law_sizes {C:Cx} {P:Params} (X:(K2 P).In C.h0):FnOk C 216 (fdOf (K2 P) 216) (bodyOf (fdOf (K2 P) 216)) 1:=fnok_of X (by kernel_rfl) (bind1 fun v1=>by kernel_rfl)
theorem add_law_sizes {C:Cx} {P:Params} {k:Nat} {g:G} (X:(K2 P).In C.h0) (G:C.Good) (H:Gd C k g nm2):Gd C (k + 1) (addF g 19 1 ks_law_sizes ir_law_sizes) nm2 :=
 H.add (fn_law_sizes X) (gv2 X G (by kernel_rfl) (by kernel_rfl)) (by kernel_rfl) (by kernel_rfl) (by decide)
theorem fn_law_signs {C:Cx} {P:Params} (X:(K2 P).In C.h0):FnOk C 223 (fdOf (K2 P) 223) (bodyOf (fdOf (K2 P) 223)) 1:=fnok_of X (by kernel_rfl) (bind1 fun v1=>by kernel_rfl)
theorem add_law_signs {C:Cx} {P:Params} {k:Nat} {g:G} (X:(K2 P).In C.h0) (G:C.Good) (H:Gd C k g nm2):Gd C (k + 1) (addF g 20 1 ks_law_signs ir_law_signs) nm2 :=
 H.add (fn_law_signs X) (gv2 X G (by kernel_rfl) (by kernel_rfl)) (by kernel_rfl) (by kernel_rfl) (by decide)
theorem fn_law_due {C:Cx} {P:Params} (X:(K2 P).In C.h0):FnOk C 235 (fdOf (K2 P) 235) (bodyOf (fdOf (K2 P) 235)) 1:=fnok_of X (by kernel_rfl) (bind1 fun v1=>by kernel_rfl)
theorem add_law_due {C:Cx} {P:Params} {k:Nat} {g:G} (X:(K2 P).In C.h0) (G:C.Good) (H:Gd C k g nm2):Gd C (k + 1) (addF g 21 1 ks_law_due ir_law_due) nm2 :=
 H.add (fn_law_due X) (gv2 X G (by kernel_rfl) (by kernel_rfl)) (by kernel_rfl) (by kernel_rfl) (by decide)
theorem fn_law_rings {C:Cx} {P:Params} (X:(K2 P).In C.h0):FnOk C 240 (fdOf (K2 P) 240) (bodyOf (fdOf (K2 P) 240)) 2:=fnok_of X (by kernel_rfl) (bind2 fun v1 v2=>by kernel_rfl)
theorem add_law_rings {C:Cx} {P:Params} {k:Nat} {g:G} (X:(K2 P).In C.h0) (G:C.Good) (H:Gd C k g nm2):Gd C (k + 1) (addF g 22 2 ks_law_rings ir_law_rings) nm2 :=
 H.add (fn_law_rings X) (gv2 X G (by kernel_rfl) (by kernel_rfl)) (by kernel_rfl) (by kernel_rfl) (by decide)
theorem fn_law_marks {C:Cx} {P:Params} (X:(K2 P).In C.h0):FnOk C 247 (fdOf (K2 P) 247) (bodyOf (fdOf (K2 P) 247)) 2:=fnok_of X (by kernel_rfl) (bind2 fun v1 v2=>by kernel_rfl)
theorem add_law_marks {C:Cx} {P:Params} {k:Nat} {g:G} (X:(K2 P).In C.h0) (G:C.Good) (H:Gd C k g nm2):Gd C (k + 1) (addF g 23 2 ks_law_marks ir_law_marks) nm2 :=
 H.add (fn_law_marks X) (gv2 X G (by kernel_rfl) (by kernel_rfl)) (by kernel_rfl) (by kernel_rfl) (by decide)
theorem fn_law_named {C:Cx} {P:Params} (X:(K2 P).In C.h0):FnOk C 252 (fdOf (K2 P) 252) (bodyOf (fdOf (K2 P) 252)) 1:=fnok_of X (by kernel_rfl) (bind1 fun v1=>by kernel_rfl)
theorem add_law_named {C:Cx} {P:Params} {k:Nat} {g:G} (X:(K2 P).In C.h0) (G:C.Good) (H:Gd C k g nm2):Gd C (k + 1) (addF g 24 1 ks_law_named ir_law_named) nm2 :=
 H.add (fn_law_named X) (gv2 X G (by kernel_rfl) (by kernel_rfl)) (by kernel_rfl) (by kernel_rfl) (by decide)
theorem fn_law_product {C:Cx} {P:Params} (X:(K2 P).In C.h0):FnOk C 257 (fdOf (K2 P) 257) (bodyOf (fdOf (K2 P) 257)) 4:=fnok_of X (by kernel_rfl) (bind4 fun v1 v2 v3 v4=>by kernel_rfl)
theorem add_law_product {C:Cx} {P:Params} {k:Nat} {g:G} (X:(K2 P).In C.h0) (G:C.Good) (H:Gd C k g nm2):Gd C (k + 1) (addF g 25 4 ks_law_product ir_law_product) nm2 :=
 H.add (fn_law_product X) (gv2 X G (by kernel_rfl) (by kernel_rfl)) (by kernel_rfl) (by kernel_rfl) (by decide)
theorem fn_law_back {C:Cx} {P:Params} (X:(K2 P).In C.h0):FnOk C 262 (fdOf (K2 P) 262) (bodyOf (fdOf (K2 P) 262)) 4:=fnok_of X (by kernel_rfl) (bind4 fun v1 v2 v3 v4=>by kernel_rfl)
theorem add_law_back {C:Cx} {P:Params} {k:Nat} {g:G} (X:(K2 P).In C.h0) (G:C.Good) (H:Gd C k g nm2):Gd C (k + 1) (addF g 26 4 ks_law_back ir_law_back) nm2 :=
 H.add (fn_law_back X) (gv2 X G (by kernel_rfl) (by kernel_rfl)) (by kernel_rfl) (by kernel_rfl) (by decide)
theorem fnWhitespace_longest_run_of_spaces {C:Cx} {P:Params} (X:(K2 P).In C.h0):FnOk C 45 (fdOf (K2 P) 45) (bodyOf (fdOf (K2 P) 45)) 1:=fnok_of X (by kernel_rfl) (bind1 fun v1=>by kernel_rfl)
theorem addWhitespace_longest_run_of_spaces {C:Cx} {P:Params} {k:Nat} {g:G} (X:(K2 P).In C.h0) (hc:C.cW = 83) (H:Gd C k g nm2):Gd C (k + 1) (addW g 100 0 ksWhitespace_longest_run_of_spaces irWhitespace_longest_run_of_spaces) nm2 :=
 H.addW (fnWhitespace_longest_run_of_spaces X) (fun n nt cnt b=>ws_meth X (by rw [hc]; exact clsOk_of (by kernel_rfl)) (by kernel_rfl) (by rw [hc]; kernel_rfl) (by kernel_rfl) n nt cnt b) (by kernel_rfl) (by kernel_rfl) (by decide)
theorem fnWhitespace_indent_level {C:Cx} {P:Params} (X:(K2 P).In C.h0):FnOk C 52 (fdOf (K2 P) 52) (bodyOf (fdOf (K2 P) 52)) 2:=fnok_of X (by kernel_rfl) (bind2 fun v1 v2=>by kernel_rfl)
theorem addWhitespace_indent_level {C:Cx} {P:Params} {k:Nat} {g:G} (X:(K2 P).In C.h0) (hc:C.cW = 83) (H:Gd C k g nm2):Gd C (k + 1) (addW g 101 1 ksWhitespace_indent_level irWhitespace_indent_level) nm2 :=
 H.addW (fnWhitespace_indent_level X) (fun n nt cnt b=>ws_meth X (by rw [hc]; exact clsOk_of (by kernel_rfl)) (by kernel_rfl) (by rw [hc]; kernel_rfl) (by kernel_rfl) n nt cnt b) (by kernel_rfl) (by kernel_rfl) (by decide)
theorem fnWhitespace_not_equal_witness {C:Cx} {P:Params} (X:(K2 P).In C.h0):FnOk C 66 (fdOf (K2 P) 66) (bodyOf (fdOf (K2 P) 66)) 2:=fnok_of X (by kernel_rfl) (bind2 fun v1 v2=>by kernel_rfl)
theorem addWhitespace_not_equal_witness {C:Cx} {P:Params} {k:Nat} {g:G} (X:(K2 P).In C.h0) (hc:C.cW = 83) (H:Gd C k g nm2):Gd C (k + 1) (addW g 102 1 ksWhitespace_not_equal_witness irWhitespace_not_equal_witness) nm2 :=
 H.addW (fnWhitespace_not_equal_witness X) (fun n nt cnt b=>ws_meth X (by rw [hc]; exact clsOk_of (by kernel_rfl)) (by kernel_rfl) (by rw [hc]; kernel_rfl) (by kernel_rfl) n nt cnt b) (by kernel_rfl) (by kernel_rfl) (by decide)
end
section
theorem fn_ws {C:Cx} {P:Params} (X:(K2 P).In C.h0):FnOk C 38 (fdOf (K2 P) 38) (bodyOf (fdOf (K2 P) 38)) 2:=fnok_of X (by kernel_rfl) (bind2 fun v1 v2=>by kernel_rfl)
theorem ws_at {C:Cx} {P:Params} {k:Nat} (X:(K2 P).In C.h0) (G:C.Good) (B:Bs C) (hc:C.cW = 83) {ws:Str} (hl:ws.length <= 400000) (hok:PyData.strOk ws = true):PSpec C (k + 2) (.ref 83) [.str ws] (wsD ws):=by
 rw [<- hc]
 refine ws_spec (K:=K2 P) (fI:=38) X (by rw [hc]; kernel_rfl) (by rw [hc]; kernel_rfl) (by kernel_rfl) (fun {ws t x dx Z A s} R Ks z h1 h2 h3 h4 h5 h6 h7=>?_) hl hok
 have gW:GV C "Whitespace" (.ref C.cW):=by rw [hc]; exact gv2 X G (by kernel_rfl) (by kernel_rfl)
 refine ws_init (fn_ws X) rfl rfl rfl rfl rfl rfl rfl B (by rw [hc]; exact clsOk_of (by kernel_rfl)) X (by kernel_rfl) gW gW (tS:=209) (tT:=210) (fun A s Q K hq=>?_) (fun A s Q K hq=>?_) (by kernel_rfl) R Ks z h1 h2 h3 h4 h5 h6 h7
 ·rw [hc]; exact cls_value (mc:=.type "type") (X.keeps K.keep) (by kernel_rfl) (by kernel_rfl) rfl hq
 ·rw [hc]; exact cls_value (mc:=.type "type") (X.keeps K.keep) (by kernel_rfl) (by kernel_rfl) rfl hq
end
section
theorem ck_d2i (P:Params):fnChk (K2 P) 115 2 = true:=by kernel_rfl
theorem bd_d2i (P:Params):∀ v1 v2,bindArgs (fdOf (K2 P) 115) ⟨[v1,v2],[]⟩ = pure ((((fdOf (K2 P) 115).scope.names.take 2).map (·.1)).zip [v1,v2]):=fun v1 v2=>by kernel_rfl
theorem fn_d2i {C:Cx} {P:Params} (X:(K2 P).In C.h0):FnOk C 115 (fdOf (K2 P) 115) (bodyOf (fdOf (K2 P) 115)) 2:=fnok_of X (ck_d2i P) (bind2 (bd_d2i P))
theorem d2i_2 {C:Cx} {P:Params} (X:(K2 P).In C.h0) (B:Bs C) (hcp:(114,110) ∈ C.tabs) (hqn:C.qn 110 104 4 = "_digits2int.<locals>.inner") {ds:List Int} {n:Nat} (hds:∀ x ∈ ds,0 <= x /\ x < 2 ^ n) (hn:n * ds.length <= 2 ^ 26) (hN:ds.length <= 1000000) (hn1:n <= 2 ^ 26) :
  PSpec C 23 (.ref 115) [.lst (ds.map .int),.int n] (.int (d2v n ds)):=by
 have F:=fn_d2i X
 refine d2i_spec (cc:=114) (P:=110) rfl F B (by kernel_rfl) hcp (hqn.trans (by kernel_rfl)) (by kernel_rfl) (by kernel_rfl) (by kernel_rfl) (by kernel_rfl) (by kernel_rfl) (by kernel_rfl) (by kernel_rfl) (of_decide_eq_true (by kernel_rfl)) (by kernel_rfl) (by kernel_rfl) (fun env=>by kernel_rfl) (fun body clos doc pm cv ctv qual=>bind2 fun v1 v2=>by kernel_rfl) hds hn hN hn1
theorem ck_i2d (P:Params):fnChk (K2 P) 108 2 = true:=by kernel_rfl
theorem bd_i2d (P:Params):∀ v1 v2,bindArgs (fdOf (K2 P) 108) ⟨[v1,v2],[]⟩ = pure ((((fdOf (K2 P) 108).scope.names.take 2).map (·.1)).zip [v1,v2]):=fun v1 v2=>by kernel_rfl
theorem fn_i2d {C:Cx} {P:Params} (X:(K2 P).In C.h0):FnOk C 108 (fdOf (K2 P) 108) (bodyOf (fdOf (K2 P) 108)) 2:=fnok_of X (ck_i2d P) (bind2 (bd_i2d P))
theorem i2d_2 {C:Cx} {P:Params} (X:(K2 P).In C.h0) (B:Bs C) (hcp:(107,103) ∈ C.tabs) (hqn:C.qn 103 89 4 = "_int2digits.<locals>.inner") {x n:Nat} (hn0:0 < n) (hn:n * nDig n x <= 2 ^ 26) (hN:nDig n x <= 900000) (hn1:n <= 2 ^ 26) :
  PSpec C 23 (.ref 108) [.int x,.int n] (.lst ((i2d n x (nDig n x)).map .int)):=by
 have F:=fn_i2d X
 refine i2d_spec (cc:=107) (P:=103) rfl F B (by kernel_rfl) hcp (hqn.trans (by kernel_rfl)) (by kernel_rfl) (by kernel_rfl) (by kernel_rfl) (by kernel_rfl) (by kernel_rfl) (by kernel_rfl) (by kernel_rfl) (of_decide_eq_true (by kernel_rfl)) (by kernel_rfl) (by kernel_rfl) (fun env=>by kernel_rfl) (fun body clos doc pm cv ctv qual=>bind3 fun v1 v2 v3=>by kernel_rfl) hn0 hn hN hn1
end
section
noncomputable def nsInt (K:Frag) (n:Str) (i:Int):Bool:=match nsIn K mainGlobals n with
 | some (some (.int j _))=>j == i
 | _=>false
set_option tactic.hygienic true in
theorem nsInt_of {K:Frag} {n:Str} {i:Int} (h:nsInt K n i = true):∃ t,nsIn K mainGlobals n = some (some (.int i t)):=by
 unfold nsInt at h
 cases e:nsIn K mainGlobals n with
 | none=>rw [e] at h; cases h
 | some o =>
  rw [e] at h
  cases o with
  | none=>cases h
  | some v=>cases v with
   | int j t=>exact ⟨t,by rw [<- (eq_of_beq (show (j == i) = true from h))]⟩
   | _=>cases h
noncomputable def nsStr (K:Frag) (n:Str) (i:Str):Bool:=match nsIn K mainGlobals n with
 | some (some (.str j _))=>j == i
 | _=>false
set_option tactic.hygienic true in
theorem nsStr_of {K:Frag} {n:Str} {i:Str} (h:nsStr K n i = true):∃ t,nsIn K mainGlobals n = some (some (.str i t)):=by
 unfold nsStr at h
 cases e:nsIn K mainGlobals n with
 | none=>rw [e] at h; cases h
 | some o =>
  rw [e] at h
  cases o with
  | none=>cases h
  | some v=>cases v with
   | str j t=>exact ⟨t,by rw [<- (eq_of_beq (show (j == i) = true from h))]⟩
   | _=>cases h
section
variable {C:Cx} {P:Params} {L:LexA} {k:Nat}
theorem bs2 (X:(K2 P).In C.h0) (G:C.Good) (hc:C.cW = 83):Bs C:=by
 refine ⟨fun x hx=>?_,ws_attr X (by rw [hc]; exact clsOk_of (by kernel_rfl)),fun n d h=>?_⟩
 ·simp only [List.mem_cons,List.not_mem_nil,or_false] at hx
  rcases hx with rfl | rfl | rfl | rfl | rfl | rfl | rfl | rfl <;> exact mg_none_of X G.g (by kernel_rfl)
 ·unfold gcV at h
  split at h
  ·cases h
   obtain ⟨t,e⟩:=nsInt_of (K:=K2 P) (n:="_DIV_LIMIT") (i:=4000) (by kernel_rfl)
   exact ⟨_,⟨.inl (mg_of X G.g e),by kernel_rfl⟩,fun Z h=>.int _ _⟩
  ·cases h
   obtain ⟨t,e⟩:=nsStr_of (K:=K2 P) (n:="ELLIPSIS_MARKER") (i:="...") (by kernel_rfl)
   exact ⟨_,⟨.inl (mg_of X G.g e),by kernel_rfl⟩,fun Z h=>.str _ _⟩
  ·cases h
theorem lexY (P:Params):ClsOk (K2 P) 174 lexNames:=clsOk_of (by kernel_rfl)
theorem fn_rc (X:(K2 P).In C.h0):FnOk C 157 (fdOf (K2 P) 157) (bodyOf (fdOf (K2 P) 157)) 1:=fnok_of X (by kernel_rfl) (bind1 fun v1=>by kernel_rfl)
theorem rc2 (X:(K2 P).In C.h0) (Bq:Bs C) (FX:LexFix C 174 L) {st:LexSt}:LexM C (k + 3) L 157 st (readc st).1 (readc st).2 :=
 rc_spec (fn_rc X) Bq (lexY P) X (by kernel_rfl) (by kernel_rfl) FX
theorem fn_gtk (X:(K2 P).In C.h0):FnOk C 164 (fdOf (K2 P) 164) (bodyOf (fdOf (K2 P) 164)) 1:=fnok_of X (by kernel_rfl) (bind1 fun v1=>by kernel_rfl)
theorem gtk2 (X:(K2 P).In C.h0) (G:C.Good) (Bq:Bs C) (FX:LexFix C 174 L) (hqn:∀ P a b,C.qn P a b ≠ "") {st st':LexSt} {x:Str} (hpb:st.pb.length <= 1000) (htok:tokF st = some (x,st')):LexT C (k + 5) L 164 st x st':=by
 refine gtk_spec (k:=k + 3) (yS4:="") (fn_gtk X) Bq (lexY P) X (by kernel_rfl) ⟨.inr ⟨mg_none_of X G.g (by kernel_rfl),by kernel_rfl,by decide⟩,by kernel_rfl⟩ (by kernel_rfl) (by kernel_rfl) FX hqn (fR:=157) (by kernel_rfl) (by kernel_rfl) (by kernel_rfl) (by kernel_rfl) (fun st=>rc2 X Bq FX) ?_ (fun G R X hch w rest line hs=>?_) hpb htok
 ·obtain ⟨o,h⟩:=(fn_rc X).at0; exact ⟨o,_,h⟩
 ·exact gt_outer (posQ:=⟨0,0,0,0⟩) G R (fun X hch w rest line hs=>gt_quoted G R (by kernel_rfl) X hch hs) (fun X hch w rest line hs=>gt_word G R (by kernel_rfl) X hch hs) (by kernel_rfl) X hch hs
theorem fn_psh (X:(K2 P).In C.h0):FnOk C 171 (fdOf (K2 P) 171) (bodyOf (fdOf (K2 P) 171)) 2:=fnok_of X (by kernel_rfl) (bind2 fun v1 v2=>by kernel_rfl)
theorem psh2 (X:(K2 P).In C.h0) (Bq:Bs C) (FX:LexFix C 174 L) {st:LexSt} {w:Str} (hpb:st.pb.length <= 1000):LexP C (k + 1) L 171 st w :=
 psh_spec (fn_psh X) Bq (lexY P) X (by kernel_rfl) (by kernel_rfl) FX hpb
theorem fn_lxi (X:(K2 P).In C.h0):FnOk C 150 (fdOf (K2 P) 150) (bodyOf (fdOf (K2 P) 150)) 2:=fnok_of X (by kernel_rfl) (bind2 fun v1 v2=>by kernel_rfl)
theorem ops2 (X:(K2 P).In C.h0) (G:C.Good) (Bq:Bs C) (FX:LexFix C 174 L) (hqn:∀ P a b,C.qn P a b ≠ ""):LexOps C (K2 P) (k + 5) 174 L:=by
 refine ⟨FX,lexY P,X,⟨164,by kernel_rfl,by kernel_rfl,?_,fun st x st' hpb ht=>gtk2 X G Bq FX hqn hpb ht⟩,⟨171,by kernel_rfl,by kernel_rfl,?_,fun st w hpb=>psh2 X Bq FX hpb⟩⟩
 ·obtain ⟨o,h⟩:=(fn_gtk X).at0; exact ⟨o,_,h⟩
 ·obtain ⟨o,h⟩:=(fn_psh X).at0; exact ⟨o,_,h⟩
theorem fn_stream (X:(K2 P).In C.h0):FnOk C 185 (fdOf (K2 P) 185) (bodyOf (fdOf (K2 P) 185)) 1:=fnok_of X (by kernel_rfl) (bind1 fun v1=>by kernel_rfl)
theorem fn_taken (X:(K2 P).In C.h0):FnOk C 195 (fdOf (K2 P) 195) (bodyOf (fdOf (K2 P) 195)) 2:=fnok_of X (by kernel_rfl) (bind2 fun v1 v2=>by kernel_rfl)
theorem taken2 (X:(K2 P).In C.h0) (Bq:Bs C) (HL:LexOps C (K2 P) k 174 L) {n:Nat} (hn:n <= 1000) {ws:List Str} {st st':LexSt} (ht:takenF n st = some (ws,st')):LexC C (k + 1) L 195 st [.int n] (.lst (ws.map .str)) st' :=
 taken_spec (fn_taken X) Bq HL (by kernel_rfl) (by kernel_rfl) (by kernel_rfl) (of_decide_eq_true (by kernel_rfl)) (by kernel_rfl) hn ht
end
end
section
noncomputable def gA2:G:=putF (putF (putF (putF bg 2 maxF) 11 i2dF) 12 d2iF) 16 wsF
noncomputable def gB2:G:=addF (addF (addF (addF gA2 10 3 ks_div2 ir_div2) 13 2 ks_dpos ir_dpos) 14 2 ks_idm ir_idm) 15 2 ks_ellipsis_match ir_ellipsis_match
noncomputable def gC2:G:=addF (addF (addF (addF (addF gB2 17 2 ks_law_written ir_law_written) 18 1 ks_law_order ir_law_order) 19 1 ks_law_sizes ir_law_sizes) 20 1 ks_law_signs ir_law_signs) 21 1 ks_law_due ir_law_due
noncomputable def gM2:G:=addF (addF gC2 22 2 ks_law_rings ir_law_rings) 23 2 ks_law_marks ir_law_marks
noncomputable def gW2:G:=addW (addW (addW gM2 100 0 ksWhitespace_longest_run_of_spaces irWhitespace_longest_run_of_spaces) 101 1 ksWhitespace_indent_level irWhitespace_indent_level) 102 1 ksWhitespace_not_equal_witness irWhitespace_not_equal_witness
noncomputable def gD2:G:=addF (addF (addF gW2 24 1 ks_law_named ir_law_named) 25 4 ks_law_product ir_law_product) 26 4 ks_law_back ir_law_back
noncomputable def nl2:Nat -> Str
 | 0=>"_law_taken" | 1=>"_law_pushed" | _=>"_law_grown"
noncomputable def ks_law_pushed:List NameKind:=[.local,.local,.local]
noncomputable def sx_law_pushed:List SX:=[.for_ (.one 2) (.e (.var 1)) [.psh (.var 2)]]
noncomputable def ks_law_grown:List NameKind:=[.local,.local,.local,.local,.local,.globalImplicit,.globalImplicit]
noncomputable def sx_grow_in:List SX:=[.tok 3,.for_ (.one 4) (.e (.var 1)) [.psh (.bin .Add (.var 3) (.var 4))]]
noncomputable def tx_law_grown:List TX:=[.sx (.for_ (.one 2) (.r1 (.int 30)) sx_grow_in),.retc (.call 0 [.int 33])]
noncomputable def flOut (fl:Fl) (st:LexSt):Option (D × LexSt):=match fl with
 | .ret d=>some (d,st)
 | .next=>some (.none,st)
 | _=>none
noncomputable def lexOut (fl:Fl) (σ':Vars):Option (D × LexSt):=match (σ'[0]?:Option AV) with
 | some (.lex _ st)=>flOut fl st
 | _=>none
noncomputable def runL (g:G) (ks:List NameKind) (L:LexA) (ir:List SX) (st:LexSt) (ds:List D):Option (D × LexSt):=match evBX g ks 0 ir (initA ks (.lex L st :: ds.map .d)) with
 | some r=>lexOut r.1 r.2
 | none=>none
noncomputable def F1 (j:Nat) (st:LexSt) (ds:List D):Option (D × LexSt):=match j with
 | 0=>l1 ds fun a=>oI a fun n=>if 0 <= n /\ n <= 1000 then (match takenF n.toNat st with
  | some (ws,st')=>some (.lst (ws.map .str),st')
  | none=>none) else none
 | _=>none
noncomputable def runT (F:FT) (g:G) (ks:List NameKind) (L:LexA) (ir:List TX) (st:LexSt) (ds:List D):Option (D × LexSt):=match evTB F g ks 0 ir (initA ks (.lex L st :: ds.map .d)) with
 | some r=>lexOut r.1 r.2
 | none=>none
noncomputable def F2 (L:LexA) (j:Nat) (st:LexSt) (ds:List D):Option (D × LexSt):=match j with
 | 0=>F1 0 st ds
 | 1=>l1 ds fun d=>runL gD2 ks_law_pushed L sx_law_pushed st [d]
 | 2=>l1 ds fun d=>runT F1 gD2 ks_law_grown L tx_law_grown st [d]
 | _=>none
theorem lexOut_some {r:Fl × Vars} {st':LexSt} {d:D} (h:lexOut r.1 r.2 = some (d,st')):(r.1 = .ret d \/ (r.1 = .next /\ d = .none)) /\ ∃ L',r.2[0]? = some (.lex L' st'):=by
 refine mLex (f:=fun _ st=>flOut r.1 st) h fun L' st2 q h2=>?_
 cases hf:r.1 with
 | ret d=>rw [hf] at h2; cases h2; exact ⟨.inl rfl,_,q⟩
 | next=>rw [hf] at h2; cases h2; exact ⟨.inr ⟨rfl,rfl⟩,_,q⟩
 | brk=>rw [hf] at h2; cases h2
 | cont=>rw [hf] at h2; cases h2
set_option tactic.hygienic true in
theorem runT_some {F:FT} {g:G} {ks:List NameKind} {L:LexA} {ir:List TX} {st st':LexSt} {ds:List D} {d:D} (h:runT F g ks L ir st ds = some (d,st')) :
  ∃ fl σ',evTB F g ks 0 ir (initA ks (.lex L st :: ds.map .d)) = some (fl,σ') /\ (fl = .ret d \/ (fl = .next /\ d = .none)) /\ ∃ L',σ'[0]? = some (.lex L' st'):=by
 unfold runT at h
 cases e:evTB F g ks 0 ir (initA ks (.lex L st :: ds.map .d)) with
 | none=>rw [e] at h; cases h
 | some r=>rw [e] at h; exact ⟨r.1,r.2,rfl,lexOut_some h⟩
set_option tactic.hygienic true in
theorem runL_some {g:G} {ks:List NameKind} {L:LexA} {ir:List SX} {st st':LexSt} {ds:List D} {d:D} (h:runL g ks L ir st ds = some (d,st')) :
  ∃ fl σ',evBX g ks 0 ir (initA ks (.lex L st :: ds.map .d)) = some (fl,σ') /\ (fl = .ret d \/ (fl = .next /\ d = .none)) /\ ∃ L',σ'[0]? = some (.lex L' st'):=by
 unfold runL at h
 cases e:evBX g ks 0 ir (initA ks (.lex L st :: ds.map .d)) with
 | none=>rw [e] at h; cases h
 | some r=>rw [e] at h; exact ⟨r.1,r.2,rfl,lexOut_some h⟩
section
variable {C:Cx} {P:Params} {L:LexA} {k:Nat}
theorem runL_C {K:Frag} {c:Addr} {g:G} {nm:Nat -> Str} {a:Addr} {fd:FuncData} {body:List Stmt} {n:Nat} {ir:List SX} {ks:List NameKind} {ds:List D} {d:D} {st st':LexSt} (F:FnOk C a fd body (n + 1)) (H:Gd C k g nm) (HL:LexOps C K k c L) (hds:ds.length = n) (hks:fd.scope.names.map (·.2) = ks) (hl0:0 < ks.length)
  (hr:repBX nm fd.scope 0 ir body = true) (h:runL g ks L ir st ds = some (d,st')):LexC C (k + 1) L a st ds d st':=by
 obtain ⟨fl,σ',e1,e2,L',e3⟩:=runL_some h
 have hl:HasL L 0 (initA ks (.lex L st :: ds.map .d)):=by
  cases ks with
  | nil=>simp at hl0
  | cons a r=>exact ⟨_,rfl⟩
 obtain ⟨st2,h2⟩:=evBX_inv ir hl e1
 rw [h2] at e3
 cases e3
 exact lexfn_run F H HL hds hks hr e1 e2 h2
theorem runT_C {Ff:FT} {nl:Nat -> Str} {K:Frag} {c:Addr} {g:G} {nm:Nat -> Str} {a:Addr} {fd:FuncData} {body:List Stmt} {n:Nat} {ir:List TX} {ks:List NameKind} {ds:List D} {d:D} {st st':LexSt} (F:FnOk C a fd body (n + 1)) (H:Gd C k g nm) (HL:LexOps C K k c L) (HF:FTok C k L Ff nl) (hds:ds.length = n) (hks:fd.scope.names.map (·.2) = ks) (hl0:0 < ks.length)
  (hr:repTB nm nl fd.scope 0 ir body = true) (h:runT Ff g ks L ir st ds = some (d,st')):LexC C (k + 1) L a st ds d st':=by
 obtain ⟨fl,σ',e1,e2,L',e3⟩:=runT_some h
 have hl:HasL L 0 (initA ks (.lex L st :: ds.map .d)):=by
  cases ks with
  | nil=>simp at hl0
  | cons a r=>exact ⟨_,rfl⟩
 obtain ⟨st2,h2⟩:=evTB_inv hl e1
 rw [h2] at e3
 cases e3
 exact lexfnT_run F H HL HF hds hks hr e1 e2 h2
theorem gdA2 (X:(K2 P).In C.h0) (G:C.Good) (hc:C.cW = 83) (h1:(114,110) ∈ C.tabs) (h2:(107,103) ∈ C.tabs) (q1:C.qn 110 104 4 = "_digits2int.<locals>.inner") (q2:C.qn 103 89 4 = "_int2digits.<locals>.inner"):Gd C 23 gA2 nm2:=by
 have B:=bs2 X G hc
 have H0:Gd C 23 bg nm2:=(B.gd 23).names fun f ds d h=>by
  match f,h with
  | 0,h | 1,h | 4,h | 5,h=>rfl
  | 3,h=>first | rfl | cases h
  | 2,h | _ + 6,h=>cases h
 refine (((H0.put (f:=2) (by decide) fun ds d h=>?_).put (f:=11) (by decide) fun ds d h=>?_).put (f:=12) (by decide) fun ds d h=>?_).put (f:=16) (by decide) fun ds d h=>?_
 ·exact ⟨.builtin "max",B.gv (x:="max") (by simp) (by kernel_rfl) (by decide) (by decide),Kp.builtin,maxF_s h⟩
 ·exact ⟨.ref 108,gv2 X G (by kernel_rfl) (by kernel_rfl),(fn_i2d X).kp,i2dF_s (fun a b c e=>i2d_2 X B h2 q2 a b c e) ds d h⟩
 ·exact ⟨.ref 115,gv2 X G (by kernel_rfl) (by kernel_rfl),(fn_d2i X).kp,d2iF_s (fun a b c e=>d2i_2 X B h1 q1 a b c e) ds d h⟩
 ·exact ⟨.ref 83,gv2 X G (by kernel_rfl) (by kernel_rfl),Kp.cls X (by kernel_rfl),wsF_s (fun a b=>(ws_at (k:=21) X G B hc a b)) ds d h⟩
theorem gdD2 (X:(K2 P).In C.h0) (G:C.Good) (hc:C.cW = 83) (h1:(114,110) ∈ C.tabs) (h2:(107,103) ∈ C.tabs) (q1:C.qn 110 104 4 = "_digits2int.<locals>.inner") (q2:C.qn 103 89 4 = "_int2digits.<locals>.inner"):Gd C 40 gD2 nm2 :=
 add_law_back X G (add_law_product X G (add_law_named X G (addWhitespace_not_equal_witness X hc (addWhitespace_indent_level X hc (addWhitespace_longest_run_of_spaces X hc (add_law_marks X G (add_law_rings X G (add_law_due X G (add_law_signs X G (add_law_sizes X G (add_law_order X G (add_law_written X G (add_ellipsis_match X G (addint_divmod X G (add_divmod_pos X G (add_div2n1n X G (gdA2 X G hc h1 h2 q1 q2)))))))))))))))))
theorem fn_pushed (X:(K2 P).In C.h0):FnOk C 202 (fdOf (K2 P) 202) (bodyOf (fdOf (K2 P) 202)) 2:=fnok_of X (by kernel_rfl) (bind2 fun v1 v2=>by kernel_rfl)
theorem fn_grown (X:(K2 P).In C.h0):FnOk C 230 (fdOf (K2 P) 230) (bodyOf (fdOf (K2 P) 230)) 2:=fnok_of X (by kernel_rfl) (bind2 fun v1 v2=>by kernel_rfl)
theorem ft1 (X:(K2 P).In C.h0) (G:C.Good) (Bq:Bs C) (HL:LexOps C (K2 P) k 174 L):FTok C (k + 1) L F1 nl2:=by
 intro j st ds d st' h
 match j,h with
 | 0,h =>
  refine l1_t (ds:=ds) h fun a h=>oI_t (b:=a) h fun n h=>ite_t h fun hn h=>?_
  cases ht:takenF n.toNat st with
  | none=>rw [ht] at h; cases h
  | some r =>
   obtain ⟨ws,st2⟩:=r
   rw [ht] at h
   cases h
   obtain ⟨m,rfl⟩:=Int.eq_ofNat_of_zero_le hn.1
   exact ⟨195,gv2 X G (by kernel_rfl) (by kernel_rfl),(fn_taken X).kp,taken2 X Bq HL (by omega) ht⟩
 | _ + 1,h=>cases h
theorem LexC.le {k':Nat} {a:Addr} {st st':LexSt} {ds:List D} {d:D} (h:LexC C k L a st ds d st') (hk:k <= k'):LexC C k' L a st ds d st':=fun Z A s vs R=>h Z A s vs (R.le hk)
theorem ft2 (X:(K2 P).In C.h0) (G:C.Good) (Bq:Bs C) (H:Gd C (k + 1) gD2 nm2) (HL:LexOps C (K2 P) k 174 L) (HL1:LexOps C (K2 P) (k + 1) 174 L):FTok C (k + 2) L (F2 L) nl2:=by
 intro j st ds d st' h
 match j,h with
 | 0,h =>
  obtain ⟨a,h1,h2,h3⟩:=ft1 X G Bq HL 0 st ds d st' h
  exact ⟨a,h1,h2,h3.le (by omega)⟩
 | 1,h=>exact l1_t (ds:=ds) h fun d' h=>⟨202,gv2 X G (by kernel_rfl) (by kernel_rfl),(fn_pushed X).kp,runL_C (fn_pushed X) H HL1 rfl (by kernel_rfl) (by decide) (by kernel_rfl) h⟩
 | 2,h=>exact l1_t (ds:=ds) h fun d' h=>⟨230,gv2 X G (by kernel_rfl) (by kernel_rfl),(fn_grown X).kp,runT_C (nl:=nl2) (fn_grown X) H HL1 (ft1 X G Bq HL) rfl (by kernel_rfl) (by decide) (by kernel_rfl) h⟩
 | _ + 3,h=>cases h
end
end
section
noncomputable def ks_law:List NameKind:=[.cell,.local,.cell,.cell,.local,.local,.local,.cell,.cell,.local,.cell,.cell,.local,.local,.local,.globalImplicit,.globalImplicit,.globalImplicit,.globalImplicit,.globalImplicit,.globalImplicit,.globalImplicit,.globalImplicit,.globalImplicit,.globalImplicit,.globalImplicit,.globalImplicit,.globalImplicit,.globalImplicit,.globalImplicit,.globalImplicit,.globalImplicit,.globalImplicit]
noncomputable def law2_1:St:=.asg 1 (.call 18 [(.var 0)])
noncomputable def law2_2:St:=.asg 2 (.call 19 [(.var 1)])
noncomputable def law2_3:St:=.asg 3 (.call 20 [(.var 0)])
noncomputable def law2_4:St:=.asg 4 (.meth 0 (.str (Str.ofString "")) [(.comp [none,none,none,none,some 0,some 3] [.local,.local,.globalImplicit,.globalImplicit,.free,.free] (.one 1) (.r1 (.int 2)) [] (.call 17 [(.sub (.var 5) (.var 1)),(.cmp .Eq (.bin .Mod (.bin .Add (.call 0 [(.var 4)]) (.var 1)) (.int 2)) (.int 0))]))])
noncomputable def law2_tx:List TX:=[
 .guard [.c (.call 0 [.int 3]) .NotEq (.bin .Add (.var 3) (.lst [.str (Str.ofString "")])),.c .line .NotEq (.bin .Add (.int 1) (.meth 1 (.var 4) [.str (Str.ofString "\n")]))],
 .ex 1 [.var 3],
 .asg 6 (.call 2 [.var 3]),
 .guard [.t (.cmp .NotEq (.var 6) (.call 21 [(.var 3)]))],
 .sx (.st (.asg 7 (.call 22 [(.slcHi (.var 6) (.int 32)),(.var 1)]))),
 .sx (.st (.asg 8 (.call 23 [(.var 7),(.sub (.var 3) (.int 1))]))),
 .sx (.st (.asg 9 (.sub (.comp [none,none,some 2] [.local,.cell,.free] (.one 1) (.r2 (.int 1) (.int 7)) [(.cmp .Eq (.comp [none,none,some 1] [.local,.local,.free] (.one 1) (.e (.var 2)) [(.cmp .NotEq (.bin .Mod (.var 2) (.var 1)) (.int 0))] (.var 1)) (.lst []))] (.var 1)) (.int 0)))),
 .sx (.st (.asg 10 (.call 24 [(.var 9)]))),
 .guard [.t (.cmp .NotEq (.call 0 [(.var 8)]) (.call 0 [(.var 7)])),.t (.cmp .NotEq (.call 0 [(.var 10)]) (.bin .Add (.var 9) (.int 1)))],
 .sx (.st (.asg 11 (.bin .Add (.int 4) (.bin .Mod (.call 0 [(.var 0)]) (.int 5))))),
 .sx (.st (.asgC 12 (.comp [none,none,none,some 10,some 2,some 11] [.local,.local,.globalImplicit,.free,.free,.free] (.one 1) (.r2 (.int 1) (.bin .Add (.var 9) (.int 1))) [] (.call 25 [(.var 4),(.var 3),(.var 1),(.bin .Pow (.int 2) (.var 5))])))),
 .guard [.t (.cmp .NotEq (.var 12) (.comp [none,none,none,some 8,some 7,some 11] [.local,.local,.globalImplicit,.free,.free,.free] (.one 1) (.r2 (.int 1) (.bin .Add (.var 9) (.int 1))) [] (.call 26 [(.var 4),(.var 3),(.var 1),(.bin .Pow (.int 2) (.var 5))])))],
 .sx (.st (.asgC 13 (.comp [none,none,some 8] [.local,.local,.free] (.one 1) (.r1 (.int 6)) [] (.meth 1 (.var 2) [(.var 1)])))),
 .sx (.st (.asg 14 (.call 14 [(.call 1 [(.var 12)]),(.var 9)]))),
 .sx (.st (.ret (.and (.cmp .Eq (.var 14) (.tup [(.call 12 [(.var 13),(.var 11)]),(.int 0)])) (.cmp .Eq (.call 11 [(.sub (.var 14) (.int 0)),(.var 11)]) (.var 13)))))]
section
variable {C:Cx} {P:Params} {L:LexA} {k:Nat}
theorem fn_law2 (X:(K2 P).In C.h0):FnOk C 267 (fdOf (K2 P) 267) (bodyOf (fdOf (K2 P) 267)) 1:=fnok_of X (by kernel_rfl) (bind1 fun v1=>by kernel_rfl)
structure Q2 (C:Cx):Prop where
 ne:∀ P a b,C.qn P a b ≠ ""
 q1:C.qn 110 104 4 = "_digits2int.<locals>.inner"
 q2:C.qn 103 89 4 = "_int2digits.<locals>.inner"
 q3:C.qn 180 211 4 = "_law_stream.<locals>._law_read_on"
 q4:C.qn 180 215 13 = "_law_stream.<locals>.<lambda>"
 t1:(114,110) ∈ C.tabs
 t2:(107,103) ∈ C.tabs
 t3:(184,180) ∈ C.tabs
 cW:C.cW = 83
theorem In.up {K:Frag} {h:Heap} (H:Up C h) (X:K.In C.h0):K.In (C.up h).h0:=fun b o e=>H.sub b o (X b o e)
theorem law2_run (X:(K2 P).In C.h0) (G:C.Good) (Q:Q2 C) {d0:D} {σ1 σ2 σ3 σ4:Vars} {text:Str}
  (e1:evS gD2 ks_law law2_1 (initA ks_law [.d d0]) = some (.next,σ1)) (e2:evS gD2 ks_law law2_2 σ1 = some (.next,σ2)) (e3:evS gD2 ks_law law2_3 σ2 = some (.next,σ3)) (e4:evS gD2 ks_law law2_4 σ3 = some (.next,σ4))
  (h4:getV σ4 4 = some (.str text)) (h5:σ4[5]? = some .no) (hl:text.length <= 900000) (hok:PyData.strOk text = true)
  (hev:∀ L,∃ σ',evTB (F2 L) gD2 ks_law 5 law2_tx (σ4.set 5 (.lex L ⟨text.cps.toList,1,[]⟩)) = some (.ret (.bool true),σ')) :
  ∀ Z A s v,Room 47 A -> OK C s -> ZOk C Z s -> IsD C Z s.heap v d0 -> codeAny C.M A (.call (.ref 267) ⟨[v],[]⟩) (fun r s'=>r = .ok (.ret (.bool true)) /\ OK C s') s:=by
 have B:=bs2 X G Q.cW
 have H:=gdD2 X G Q.cW Q.t1 Q.t2 Q.q1 Q.q2
 have H4:Gd C 46 gD2 nm2:=H.le (by omega)
 have gE:∀ {h:Heap} {L:LexA},Up C h -> LexFix (C.up h) 174 L -> L.txt = text -> LexOps (C.up h) (K2 P) 46 174 L /\ FTok (C.up h) 46 L (F2 L) nl2:=fun {h L} hU FX _=>by
  have X':=In.up hU X
  have G':=hU.good'
  have B':=bs2 (C:=C.up h) X' G' Q.cW
  exact ⟨ops2 X' G' B' FX Q.ne,ft2 (k:=44) X' G' B' ((H.le (by omega:40 <= 45)).up hU) (ops2 (k:=39) X' G' B' FX Q.ne) (ops2 (k:=40) X' G' B' FX Q.ne)⟩
 refine law_run (il:=5) (c:=174) (K:=K2 P) (nl:=nl2) (F:=F2) (text:=text) (fn_law2 X) (by kernel_rfl) H4 (irs:=law2_tx) (i1:=law2_1) (i2:=law2_2) (i3:=law2_3) (i4:=law2_4) (by kernel_rfl) e1 e2 e3 e4 ?_ (fun {env B' U O A s Qf} hA hE R S hQ=>?_) (fun h L=>gE) hev
 ·exact (List.getElem?_eq_some_iff.mp h5).1
 ·refine lex_new (k:=44) (cc:=0) (P:=0) X (gv2 X G (a:=174) (by kernel_rfl) (by kernel_rfl)) (by kernel_rfl) (by rw [hE]; kernel_rfl) (gv2 X G (a:=185) (by kernel_rfl) (by kernel_rfl)) (fn_stream X).kp (by rw [hE]; kernel_rfl) (by kernel_rfl) (fI:=150) (by kernel_rfl) (by kernel_rfl)
   (fun R K=>stream_spec (cc:=184) (P:=180) (fn_stream X) B (by kernel_rfl) Q.t3 (Q.q3.trans (by kernel_rfl)) (Q.q4.trans (by kernel_rfl)) (by kernel_rfl) (by kernel_rfl) (by kernel_rfl) (by kernel_rfl) (by kernel_rfl) (fun env=>by kernel_rfl) (fun env=>by kernel_rfl) (fun env=>by kernel_rfl) R K)
   (fun R K hx hd h0=>lxi_spec (fn_lxi X) B (lexY P) X (by kernel_rfl) (by kernel_rfl) R K hx hd h0)
   (fun hU h0 hT F hv lx dx pl st A s n t1 t2 R K hL hn=>?_) (by kernel_rfl) (by kernel_rfl) (by kernel_rfl) (by kernel_rfl) (of_decide_eq_true (by kernel_rfl)) (fun body clos doc pm cv ctv qual=>bind1 fun v1=>by kernel_rfl) hl hok R S ?_ (by kernel_rfl) ?_ hQ
  ·have B':=bs2 (C:=C.up _) (In.up hU X) hU.good' Q.cW
   exact rd_spec (k:=0) (qc:=⟨0,0,0,0⟩) F B' (by kernel_rfl) (by kernel_rfl) hv h0 hT (by omega) A s n t1 t2 R K hL hn
  ·exact evE_s (g:=gD2) (nm:=nm2) (H.le (by omega:40 <= 44)) (.var 4) hA (by kernel_rfl) h4
  ·refine hA.isSto (stoB_val (ks:=ks_law) (by kernel_rfl) (by kernel_rfl) ?_)
   unfold stoB
   rw [h5]
   rfl
end
end
section
open PySem.StrLaws PySem.Builtin.Str
noncomputable def escQ (w:List Nat):List Nat:=w.flatMap fun c=>if c = 34 \/ c = 92 then [92,c] else [c]
noncomputable def escW (w:List Nat):List Nat:=w.flatMap fun c=>[92,c]
noncomputable def writL (w:List Nat) (q:Bool):List Nat:=if q = true then 34 :: (escQ w ++ [34,32]) else escW w ++ [32]
noncomputable def cN (w:List Nat):Int:=(w.count 10:Nat)
theorem cN_cons (c:Nat) (w:List Nat):cN (c :: w) = nl c + cN w:=by
 unfold cN nl
 rw [List.count_cons]
 by_cases h:c = 10
 ·subst h; simp; omega
 ·have:(c == 10) = false:=by simpa using h
  rw [this,if_neg h]; simp
theorem scanQ_esc:∀ (w rest:List Nat) (l:Int) (tk:List Nat),scanQ (escQ w ++ 34 :: 32 :: rest) l tk = some (tk ++ w,32 :: rest,l + cN w)
 | [],rest,l,tk=>by simp [escQ,scanQ,nl,cN]
 | c :: w,rest,l,tk=>by
  have ih:=scanQ_esc w rest
  by_cases h:c = 34 \/ c = 92
  ·have e:escQ (c :: w) = 92 :: c :: escQ w:=by simp [escQ,h]
   rw [e]
   show scanQ (92 :: c :: (escQ w ++ 34 :: 32 :: rest)) l tk = _
   rw [scanQ,if_neg (by decide),if_pos rfl,ih,cN_cons]
   have:nl 92 = 0:=rfl
   rw [this]; simp; omega
  ·have e:escQ (c :: w) = c :: escQ w:=by simp [escQ,h]
   rw [e]
   obtain ⟨d,r,hd⟩:∃ d r,escQ w ++ 34 :: 32 :: rest = d :: r:=by
    cases hq:escQ w ++ 34 :: 32 :: rest with
    | nil=>simp at hq
    | cons d r=>exact ⟨d,r,rfl⟩
   show scanQ (c :: (escQ w ++ 34 :: 32 :: rest)) l tk = _
   have:=ih (l + nl c) (tk ++ [c])
   rw [hd] at this ⊢
   rw [scanQ,if_neg (fun q=>h (.inl q)),if_neg (fun q=>h (.inr q)),this,cN_cons]
   simp; omega
theorem scanW_esc:∀ (w rest:List Nat) (l:Int) (tk:List Nat),scanW (escW w ++ 32 :: rest) l tk = some (tk ++ w,rest,l + cN w)
 | [],rest,l,tk=>by
  cases rest with
  | nil=>simp [escW,scanW,nl,cN,isWs]
  | cons d r=>simp [escW,scanW,nl,cN,isWs]
 | c :: w,rest,l,tk=>by
  have ih:=scanW_esc w rest
  have e:escW (c :: w) = 92 :: c :: escW w:=by simp [escW]
  rw [e]
  show scanW (92 :: c :: (escW w ++ 32 :: rest)) l tk = _
  rw [scanW,if_neg (by decide),if_pos rfl,ih,cN_cons]
  have:nl 92 = 0:=rfl
  rw [this]; simp; omega
theorem scanO_cons (c:Nat) (r:List Nat) (l:Int):scanO (c :: r) l = if isWs c = true then scanO r (l + nl c) else if c = 34 then scanQ r (l + nl c) [] else if c = 92 then (match r with
  | []=>none
  | d :: r'=>scanW r' (l + nl c + nl d) [d]) else scanW r (l + nl c) [c]:=by
 cases r <;> rfl
theorem scanO_writ (w rest:List Nat) (q:Bool) (l:Int) (hw:w ≠ []):scanO (writL w q ++ rest) l = some (w,if q = true then 32 :: rest else rest,l + cN w):=by
 unfold writL
 cases q with
 | true =>
  show scanO (34 :: ((escQ w ++ [34,32]) ++ rest)) l = _
  rw [scanO_cons,if_neg (by decide),if_pos rfl]
  have:(escQ w ++ [34,32]) ++ rest = escQ w ++ 34 :: 32 :: rest:=by simp
  rw [this,scanQ_esc]
  simp [nl]
 | false =>
  cases w with
  | nil=>exact absurd rfl hw
  | cons c w =>
   have e:escW (c :: w) = 92 :: c :: escW w:=by simp [escW]
   show scanO ((escW (c :: w) ++ [32]) ++ rest) l = _
   rw [e]
   show scanO (92 :: c :: ((escW w ++ [32]) ++ rest)) l = _
   rw [scanO_cons,if_neg (by decide),if_neg (by decide),if_pos rfl]
   have:(escW w ++ [32]) ++ rest = escW w ++ 32 :: rest:=by simp
   dsimp only
   rw [this,scanW_esc,cN_cons]
   have:nl 92 = 0:=rfl
   rw [this]; simp; omega
theorem scanO_sp (r:List Nat) (l:Int):scanO (32 :: r) l = scanO r l:=by
 rw [scanO_cons,if_pos (by decide)]
 have:nl 32 = 0:=rfl
 rw [this,Int.add_zero]
noncomputable def flatW (ps:List (List Nat × Bool)):List Nat:=ps.flatMap fun p=>writL p.1 p.2
noncomputable def sumN (ps:List (List Nat × Bool)):Int:=(ps.map fun p=>cN p.1).sum
noncomputable def strL (w:List Nat):Str:=⟨w.toArray⟩
theorem taken_flat:∀ (ps:List (List Nat × Bool)) (pre:List Nat) (l:Int),(pre = [] \/ pre = [32]) -> (∀ p ∈ ps,p.1 ≠ []) -> ∃ post,(post = [] \/ post = [32]) /\ ∀ m,takenF (ps.length + m) ⟨pre ++ flatW ps,l,[]⟩ =
  (takenF m ⟨post,l + sumN ps,[]⟩).map fun r=>(ps.map (fun p=>strL p.1) ++ r.1,r.2)
 | [],pre,l,hp,_=>⟨pre,hp,fun m=>by
  show takenF ([].length + m) ⟨pre ++ [],l,[]⟩ = _
  rw [List.append_nil]
  have:sumN [] = 0:=rfl
  rw [this,Int.add_zero,List.length_nil,Nat.zero_add]
  cases takenF m ⟨pre,l,[]⟩ <;> rfl⟩
 | p :: ps,pre,l,hp,hne=>by
  obtain ⟨post,h1,h2⟩:=taken_flat ps (if p.2 = true then [32] else []) (l + cN p.1) (by split <;> simp) (fun q hq=>hne q (.tail _ hq))
  refine ⟨post,h1,fun m=>?_⟩
  have e0:scanO (pre ++ flatW (p :: ps)) l = some (p.1,(if p.2 = true then [32] else []) ++ flatW ps,l + cN p.1):=by
   have e1:flatW (p :: ps) = writL p.1 p.2 ++ flatW ps:=by simp [flatW]
   have e2:=scanO_writ p.1 (flatW ps) p.2 l (hne p (.head _))
   have e3:(if p.2 = true then 32 :: flatW ps else flatW ps) = (if p.2 = true then [32] else []) ++ flatW ps:=by split <;> rfl
   rw [<- e3,e1,<- e2]
   rcases hp with rfl | rfl
   ·rfl
   ·exact scanO_sp _ _
  have e4:(p :: ps).length + m = (ps.length + m) + 1:=by simp; omega
  rw [e4,takenF,if_pos (by simp)]
  have e5:tokF ⟨pre ++ flatW (p :: ps),l,[]⟩ = some (strL p.1,⟨(if p.2 = true then [32] else []) ++ flatW ps,l + cN p.1,[]⟩):=by
   unfold tokF
   dsimp only
   rw [e0]; rfl
  rw [e5]
  dsimp only
  rw [h2 m]
  have e6:sumN (p :: ps) = cN p.1 + sumN ps:=by simp [sumN]
  rw [e6,show l + cN p.1 + sumN ps = l + (cN p.1 + sumN ps) by omega]
  cases takenF m ⟨post,l + (cN p.1 + sumN ps),[]⟩ <;> simp
theorem tok_end (post:List Nat) (l:Int) (h:post = [] \/ post = [32]):tokF ⟨post,l,[]⟩ = some (strL [],⟨[],l,[]⟩):=by
 rcases h with rfl | rfl
 ·rfl
 ·unfold tokF
  dsimp only
  rw [scanO_sp]; rfl
theorem count_esc (w:List Nat):(escQ w).count 10 = w.count 10 /\ (escW w).count 10 = w.count 10:=by
 induction w with
 | nil=>exact ⟨rfl,rfl⟩
 | cons c w ih =>
  have e2:escW (c :: w) = 92 :: c :: escW w:=by simp [escW]
  refine ⟨?_,?_⟩
  ·by_cases h:c = 34 \/ c = 92
   ·have e:escQ (c :: w) = 92 :: c :: escQ w:=by simp [escQ,h]
    rw [e]; simp [List.count_cons,ih.1]
   ·have e:escQ (c :: w) = c :: escQ w:=by simp [escQ,h]
    rw [e]; simp [List.count_cons,ih.1]
  ·rw [e2]; simp [List.count_cons,ih.2]
theorem count_writ (w:List Nat) (q:Bool):(writL w q).count 10 = w.count 10:=by
 unfold writL
 cases q with
 | true=>simp [(count_esc w).1]
 | false=>simp [(count_esc w).2]
theorem count_flat:∀ ps:List (List Nat × Bool),((flatW ps).count 10:Int) = sumN ps
 | []=>rfl
 | p :: ps=>by
  have e1:flatW (p :: ps) = writL p.1 p.2 ++ flatW ps:=by simp [flatW]
  have e6:sumN (p :: ps) = cN p.1 + sumN ps:=by simp [sumN]
  rw [e1,List.count_append,count_writ,e6,<- count_flat ps]
  unfold cN; omega
end
section
noncomputable def okD (n:Nat) (d:D):Prop:=d.py.canLay0 = true /\ d.py.depth <= n
theorem okD.ok {n:Nat} {d:D} (h:okD n d) (hn:n <= 50):okPy d.py = true:=by
 unfold okPy; rw [h.1,decide_eq_true (by have:=h.2; omega)]; rfl
theorem okD.int (i:Int):okD 1 (.int i):=⟨rfl,Nat.zero_le _⟩
theorem okD.str {x:Str} (h:PyData.strOk x = true):okD 1 (.str x):=⟨(show (D.str x).py.canLay0 = PyData.strOk x from rfl).trans h,Nat.zero_le _⟩
theorem okDs {n:Nat}:∀ {ds:List D},(∀ d ∈ ds,okD n d) -> PyData.canLayAll0 (D.pys ds) = true /\ PyData.depthAll (D.pys ds) <= n
 | [],_=>⟨rfl,by simp [D.pys,PyData.depthAll]⟩
 | d :: ds,h=>by
  obtain ⟨a,b⟩:=okDs (fun x hx=>h x (.tail _ hx))
  obtain ⟨c,e⟩:=h d (.head _)
  refine ⟨by rw [D.pys,PyData.canLayAll0,c,a]; rfl,by rw [D.pys,PyData.depthAll]; omega⟩
theorem okD.lst {n:Nat} {ds:List D} (h:∀ d ∈ ds,okD n d):okD (n + 1) (.lst ds):=by
 obtain ⟨a,b⟩:=okDs h
 exact ⟨by rw [D.py,PyData.canLay0]; exact a,by rw [D.py,PyData.depth]; omega⟩
theorem okD.tup {n:Nat} {ds:List D} (h:∀ d ∈ ds,okD n d):okD (n + 1) (.tup ds):=by
 obtain ⟨a,b⟩:=okDs h
 exact ⟨by rw [D.py,PyData.canLay0]; exact a,by rw [D.py,PyData.depth]; omega⟩
theorem deq_self {n:Nat} {d:D} (h:okD n d) (hn:n <= 50):deq d d = some true:=by
 have o:=h.ok hn
 unfold deq
 rw [if_pos (by rw [o]; rfl),SeqAt.eqv_refl _ h.1]
theorem ne_self {n:Nat} {d:D} (h:okD n d) (hn:n <= 50):cmp2 .NotEq d d = some false:=by
 show (deq d d).map (!·) = _
 rw [deq_self h hn]; rfl
theorem eq_self {n:Nat} {d:D} (h:okD n d) (hn:n <= 50):cmp2 .Eq d d = some true:=deq_self h hn
theorem flatM_map {α:Type} {F:D -> Option (List D)} {f:α -> D} {h:α -> List D}:∀ {xs:List α},(∀ x ∈ xs,F (f x) = some (h x)) -> flatM F (xs.map f) = some (xs.flatMap h)
 | [],_=>rfl
 | x :: xs,hx=>by
  rw [List.map_cons,flatM,hx x (.head _)]
  dsimp only
  rw [flatM_map (fun y hy=>hx y (.tail _ hy))]
  simp
theorem flatM_fil {α:Type} {F:D -> Option (List D)} {f h:α -> D} {p:α -> Bool} {xs:List α} (hx:∀ x ∈ xs,F (f x) = some (if p x = true then [h x] else [])):flatM F (xs.map f) = some ((xs.filter p).map h):=by
 rw [flatM_map (h:=fun x=>if p x = true then [h x] else []) hx]
 congr 1
 clear hx
 induction xs with
 | nil=>rfl
 | cons a r ih =>
  rw [List.flatMap_cons,ih]
  by_cases q:p a = true
  ·rw [if_pos q,List.filter_cons_of_pos q]; rfl
  ·rw [if_neg q,List.filter_cons_of_neg q]; rfl
theorem ints_map (l:List Int):ints? (l.map .int) = some l:=by
 induction l with
 | nil=>rfl
 | cons a r ih=>rw [List.map_cons,ints?,ih]; rfl
theorem strs_map (l:List Str):strs? (l.map .str) = some l:=by
 induction l with
 | nil=>rfl
 | cons a r ih=>rw [List.map_cons,strs?,ih]; rfl
end
section
section
variable {α:Type} {g:G} {σ:Vars} {ms:List (Option Nat)} {ks:List NameKind} {tg:Tg} {it:It} {ifs:List T} {elt:E} {xs:List α} {f h:α -> D} {p:α -> Bool}
theorem comp_fil (hi:evI g it σ = some (xs.map f)) (hc:capH σ ms = true) (hl:xs.length <= 1000000)
  (hx:∀ x ∈ xs,∃ σ₂,setT ks (capV σ ks ms) tg (f x) = some σ₂ /\ evTs g ifs σ₂ = some (p x) /\ (p x = true -> evE g elt σ₂ = some (h x))):evE g (.comp ms ks tg it ifs elt) σ = some (.lst ((xs.filter p).map h)):=by
 conv=>lhs; whnf
 rw [hi]
 dsimp only
 rw [if_pos hc,flatM_fil (h:=h) (p:=p) fun x hm=>?_]
 ·dsimp only
  unfold short
  rw [if_pos]
  rw [List.length_map]
  exact Nat.le_trans (List.length_filter_le _ _) hl
 ·obtain ⟨σ₂,e1,e2,e3⟩:=hx x hm
  rw [e1]
  dsimp only
  rw [e2]
  cases hp:p x with
  | true=>dsimp only; rw [e3 hp]; rfl
  | false=>rfl
theorem comp_map (hi:evI g it σ = some (xs.map f)) (hc:capH σ ms = true) (hl:xs.length <= 1000000)
  (hx:∀ x ∈ xs,∃ σ₂,setT ks (capV σ ks ms) tg (f x) = some σ₂ /\ evE g elt σ₂ = some (h x)):evE g (.comp ms ks tg it [] elt) σ = some (.lst (xs.map h)):=by
 rw [comp_fil (p:=fun _=>true) (h:=h) hi hc hl fun x hm=>?_]
 ·rw [List.filter_eq_self.mpr fun _ _=>rfl]
 ·obtain ⟨σ₂,e1,e2⟩:=hx x hm
  exact ⟨σ₂,e1,rfl,fun _=>e2⟩
theorem rng_map (n:Nat):rng 0 n = (List.range n).map fun i=>D.int (i:Nat):=by
 unfold rng
 refine List.map_congr_left fun i _=>?_
 show D.int (0 + (i:Int)) = _
 rw [Int.zero_add]
end
end
section
theorem glue_fold:∀ (ys:List (List Nat)) (acc:List Nat),(ys.map strL).foldl (fun acc p=>acc ++ (Str.ofString "").cps ++ p.cps) acc.toArray = (acc ++ ys.flatten).toArray
 | [],acc=>by simp
 | y :: ys,acc=>by
  rw [List.map_cons,List.foldl_cons]
  have:acc.toArray ++ (Str.ofString "").cps ++ (strL y).cps = (acc ++ y).toArray:=by
   have e:(Str.ofString "").cps = #[]:=rfl
   rw [e]; simp [strL]
  rw [this,glue_fold ys (acc ++ y)]
  simp
theorem join0 (ys:List (List Nat)):Txt.join (Str.ofString "") (ys.map strL) = strL ys.flatten:=by
 cases ys with
 | nil=>rfl
 | cons y ys =>
  show (⟨(ys.map strL).foldl (fun acc p=>acc ++ (Str.ofString "").cps ++ p.cps) y.toArray⟩:Str) = _
  rw [glue_fold]
  rfl
theorem mth_join0 {ys:List (List Nat)} (h:ys.flatten.length <= 16777216):mth 0 (.str (Str.ofString "")) [.lst (ys.map fun y=>.str (strL y))] = some (.str (strL ys.flatten)):=by
 have e1:strs? (ys.map fun y=>D.str (strL y)) = some (ys.map strL):=by
  have:=strs_map (ys.map strL)
  rw [List.map_map] at this
  exact this
 show (match (strs? (ys.map fun y=>D.str (strL y)):Option (List Str)) with
  | some zs=>if (zs.map Str.length).sum + zs.length * (Str.ofString "").length <= 16777216 then some (D.str (Txt.join (Str.ofString "") zs)) else none
  | none=>none) = _
 rw [e1]
 dsimp only
 rw [if_pos,join0]
 have e2:((ys.map strL).map Str.length).sum = ys.flatten.length:=by
  rw [List.map_map,List.length_flatten]
  rfl
 have e3:(Str.ofString "").length = 0:=rfl
 rw [e2,e3,Nat.mul_zero]
 exact h
section
variable {α:Type} {g:G} {σ:Vars} {ms:List (Option Nat)} {ks:List NameKind} {tg:Tg} {it it2:It} {elt:E} {xs:List α} {f:α -> D} {h:α -> List D} {j:Nat}
end
end
section
section
variable {g:G} {ks:List NameKind} {σ:Vars} {e:E} {d:D} {i:Nat} {c:T} {b:Bool}
end
end
section
section
variable {F:FT} {g:G} {ks:List NameKind} {l i j:Nat} {σ σ':Vars} {L:LexA} {st st':LexSt} {es:List E} {ds:List D} {d x y:D} {a:LE} {b:E} {op:CmpOp} {ts:List GT1} {e:LE} {t:TX} {tt:List TX} {r:Fl × Vars}
theorem le_call (h5:σ[l]? = some (.lex L st)) (hl:evL g es σ = some ds) (hF:F j st ds = some (d,st')):evLE F g l (.call j es) σ = some (d,σ.set l (.lex L st')):=by
 conv=>lhs; whnf
 simp only [h5,hl,hF]
theorem le_line (h5:σ[l]? = some (.lex L st)):evLE F g l .line σ = some (.int st.line,σ):=by
 conv=>lhs; whnf
 simp only [h5]
theorem tx_asg (he:evLE F g l e σ = some (d,σ')) (hi:i ≠ l) (hs:stoB ks σ' i = true):evTX F g ks l (.asg i e) σ = some (.next,σ'.set i (.d d)):=by
 show (if i ≠ l then (match evLE F g l e σ with
  | some (d,σ')=>(putV ks σ' i (.d d)).map fun σ2=>(Fl.next,σ2)
  | none=>none) else none) = _
 rw [if_pos hi,he]
 show (putV ks σ' i (.d d)).map _ = _
 rw [putV,if_pos hs]; rfl
theorem tx_ex (he:evLE F g l (.call j es) σ = some (d,σ')):evTX F g ks l (.ex j es) σ = some (.next,σ'):=by
 conv=>lhs; whnf
 simp only [he]
theorem gs_1 {t:GT1} (h:evGT F g l t σ = some (false,σ')):evGs F g l (t :: ts) σ = evGs F g l ts σ':=by
 show (match evGT F g l t σ with
  | some (false,σ')=>evGs F g l ts σ'
  | _=>none) = _
 rw [h]
theorem gs_c (ha:evLE F g l a σ = some (x,σ')) (hb:evE g b σ' = some y) (hc:cmp2 op x y = some false):evGs F g l (.c a op b :: ts) σ = evGs F g l ts σ':=by
 refine gs_1 ?_
 show (match evLE F g l a σ with
  | some (x,σ')=>(match evX g σ' b with
   | some y=>(match cmp2 op x y with
    | some t=>some (t,σ')
    | none=>none)
   | none=>none)
  | none=>none) = _
 rw [ha]
 show (match evX g σ' b with
   | some y=>(match cmp2 op x y with
    | some t=>some (t,σ')
    | none=>none)
   | none=>none) = _
 rw [xE hb]
 show (match cmp2 op x y with
    | some t=>some (t,σ')
    | none=>none) = _
 rw [hc]
theorem gs_t {c:T} (h:evT g c σ = some false):evGs F g l (.t c :: ts) σ = evGs F g l ts σ:=by
 refine gs_1 ?_
 show (match evXT g σ c with
  | some t=>some (t,σ)
  | none=>none) = _
 rw [xT h]
theorem tx_guard (h:evGs F g l ts σ = some σ'):evTX F g ks l (.guard ts) σ = some (.next,σ'):=by
 conv=>lhs; whnf
 simp only [h]
theorem tb_next (h:evTX F g ks l t σ = some (.next,σ')):evTB F g ks l (t :: tt) σ = evTB F g ks l tt σ':=by
 conv=>lhs; whnf
 simp only [h]
theorem tb_ret (h:evTX F g ks l t σ = some (.ret d,σ')):evTB F g ks l (t :: tt) σ = some (.ret d,σ'):=by
 conv=>lhs; whnf
 simp only [h]
end
end
section
open PySem.StrLaws PySem.Builtin.Str
theorem alln {n:Nat} {p:Nat -> Bool} (h:(List.range n).all p = true) {i:Nat} (hi:i < n):p i = true:=List.all_eq_true.mp h i (List.mem_range.mpr hi)
noncomputable def posF (c:Nat):Nat -> List Nat -> List Nat
 | _,[]=>[]
 | i,x :: xs=>if x = c then i :: posF c (i + 1) xs else posF c (i + 1) xs
theorem occ_pos_aux (x:Str) (c lim:Nat):∀ (m i f:Nat) (a:Array Nat),f <= i -> i + m = x.length + 1 ->
  (forIn (List.range' i m) (a,f) (occBody x ⟨#[c]⟩ x.length lim)).run.fst.toList = a.toList ++ (posF c i (x.cps.toList.drop i)).take (lim - a.size)
 | 0,i,f,a,h2,h3=>by
  have:x.cps.toList.length <= i:=by
   have:x.length = x.cps.toList.length:=by simp [Str.length]
   omega
  rw [List.drop_eq_nil_of_le this]
  show a.toList = a.toList ++ List.take (lim - a.size) []
  rw [List.take_nil,List.append_nil]
 | m + 1,i,f,a,h2,h3=>by
  rw [List.range'_succ,List.forIn_cons]
  have key:=subAt_one x c i
  unfold occBody
  by_cases hc:x.cps.toList[i]? = some c
  ·have hlt:i < x.cps.toList.length:=(List.getElem?_eq_some_iff.mp hc).1
   have e:x.cps.toList.drop i = c :: x.cps.toList.drop (i + 1):=by
    rw [List.drop_eq_getElem_cons hlt]
    congr 1
    exact (List.getElem?_eq_some_iff.mp hc).2
   rw [e,posF,if_pos rfl]
   by_cases hs:a.size < lim
   ·obtain ⟨k1,k2⟩:=key.mpr hc
    rw [if_pos ⟨⟨⟨hs,h2⟩,k1⟩,k2⟩]
    refine (occ_pos_aux x c lim m (i + 1) (i + 1) (a.push i) (Nat.le_refl _) (by omega)).trans ?_
    obtain ⟨k,hk⟩:∃ k,lim - a.size = k + 1:=⟨lim - a.size - 1,(Nat.sub_add_cancel (Nat.sub_pos_of_lt hs)).symm⟩
    rw [Array.toList_push,Array.size_push,Nat.sub_add_eq,hk,List.take_succ_cons,List.append_assoc]; rfl
   ·rw [if_neg (fun q=>hs q.1.1.1)]
    refine (occ_pos_aux x c lim m (i + 1) f a (Nat.le_succ_of_le h2) (by omega)).trans ?_
    rw [Nat.sub_eq_zero_of_le (Nat.le_of_not_lt hs),List.take_zero,List.take_zero]
  ·rw [if_neg (fun q=>hc (key.mp ⟨q.1.2,q.2⟩))]
   refine (occ_pos_aux x c lim m (i + 1) f a (Nat.le_succ_of_le h2) (by omega)).trans ?_
   congr 2
   by_cases hlt:i < x.cps.toList.length
   ·rw [List.drop_eq_getElem_cons hlt,posF,if_neg]
    intro q
    exact hc (by rw [List.getElem?_eq_getElem hlt,q])
   ·rw [List.drop_eq_nil_of_le (by omega),List.drop_eq_nil_of_le (by omega)]; rfl
theorem posF_len (c:Nat):∀ (i:Nat) (cs:List Nat),(posF c i cs).length = cs.count c
 | _,[]=>rfl
 | i,x :: xs=>by
  rw [posF,List.count_cons]
  by_cases q:x = c
  ·rw [if_pos q,List.length_cons,posF_len]; simp [q]
  ·rw [if_neg q,posF_len]; simp [q]
theorem occ_pos (cs:List Nat) (c:Nat):occurrences (strL cs) ⟨#[c]⟩ 0 (strL cs).length ((strL cs).length + 1) = posF c 0 cs:=by
 rw [occ_eq]
 refine (occ_pos_aux (strL cs) c ((strL cs).length + 1) ((strL cs).length + 1) 0 0 #[] (Nat.le_refl _) (Nat.zero_add _)).trans ?_
 refine (List.nil_append _).trans (List.take_of_length_le ?_)
 show (posF c 0 cs).length <= cs.toArray.size + 1 - 0
 rw [posF_len,List.size_toArray]
 exact Nat.le_succ_of_le List.count_le_length
mutual
noncomputable def eqD:D -> D -> Bool
 | .none,.none=>true
 | .bool a,.bool b=>a == b
 | .int a,.int b=>a == b
 | .str a,.str b=>a.cps.toList == b.cps.toList
 | .tup a,.tup b=>eqDs a b
 | .lst a,.lst b=>eqDs a b
 | _,_=>false
noncomputable def eqDs:List D -> List D -> Bool
 | [],[]=>true
 | a :: as,b :: bs=>eqD a b && eqDs as bs
 | _,_=>false
end
mutual
theorem eqD_s:∀ (a b:D),eqD a b = true -> a = b
 | .none,b,h=>by cases b <;> first | rfl | exact absurd h Bool.false_ne_true
 | .bool a,b,h=>by cases b <;> first | exact congrArg D.bool (eq_of_beq (show (a == _) = true from h)) | exact absurd h Bool.false_ne_true
 | .int a,b,h=>by cases b <;> first | exact congrArg D.int (eq_of_beq (show (a == _) = true from h)) | exact absurd h Bool.false_ne_true
 | .str ⟨⟨a⟩⟩,b,h=>by
  cases b with
  | str b=>obtain ⟨⟨b⟩⟩:=b; exact congrArg (fun z:List Nat=>D.str ⟨⟨z⟩⟩) (eq_of_beq (show (a == b) = true from h))
  | _=>exact absurd h Bool.false_ne_true
 | .tup a,b,h=>by
  cases b with
  | tup b=>exact congrArg D.tup (eqDs_s a b h)
  | _=>exact absurd h Bool.false_ne_true
 | .lst a,b,h=>by
  cases b with
  | lst b=>exact congrArg D.lst (eqDs_s a b h)
  | _=>exact absurd h Bool.false_ne_true
 | .ws a b c d,b',h=>absurd h (by cases b' <;> exact Bool.false_ne_true)
theorem eqDs_s:∀ (a b:List D),eqDs a b = true -> a = b
 | [],b,h=>by cases b <;> first | rfl | exact absurd h Bool.false_ne_true
 | a :: as,b,h=>by
  cases b with
  | nil=>exact absurd h Bool.false_ne_true
  | cons b bs=>exact and2 (show (eqD a b && eqDs as bs) = true from h) fun h1 h2=>by rw [eqD_s a b h1,eqDs_s as bs h2]
end
noncomputable def okO (o:Option D) (d:D):Bool:=match o with
 | some x=>eqD x d
 | none=>false
theorem okO_s {o:Option D} {d:D} (h:okO o d = true):o = some d:=by
 cases o with
 | none=>exact absurd h Bool.false_ne_true
 | some x=>exact congrArg some (eqD_s x d h)
theorem run_ret {g:G} {ks:List NameKind} {ir:List St} {ds:List D} {d:D} {σ:Vars} (h:evB g ks ir (initV ks ds) = some (.ret d,σ)):runF g ks ir ds = some d:=by
 unfold runF; rw [h]; rfl
theorem s_app {g:G} {ks:List NameKind} {σ:Vars} {i:Nat} {e:E} {d:D} {l:List D} (h1:getO σ i = some l) (h2:evX g σ e = some d) (h3:l.length <= 1000000):evS g ks (.app i e) σ = some (.next,σ.set i (.own (l ++ [d]))):=by
 show (match getO σ i,evX g σ e with
  | some l,some d=>if l.length <= 1000000 then some (Fl.next,σ.set i (.own (l ++ [d]))) else none
  | _,_=>none) = _
 rw [h1,h2]; exact if_pos h3
theorem loop_app {α:Type} {turn:D -> Vars -> Option (Fl × Vars)} {J:List D -> Vars -> Prop} {f h:α -> D}:∀ (xs:List α) (l:List D) (σ:Vars),J l σ -> l.length + xs.length <= 1000 -> (∀ x ∈ xs,∀ l σ,J l σ -> l.length <= 1000 -> ∃ σ',turn (f x) σ = some (.next,σ') /\ J (l ++ [h x]) σ') ->
  ∃ σ',loopF turn (xs.map f) σ = some (.next,σ') /\ J (l ++ xs.map h) σ'
 | [],l,σ,hJ,_,_=>⟨σ,rfl,by rw [List.map_nil,List.append_nil]; exact hJ⟩
 | x :: xs,l,σ,hJ,hl,hs=>by
  rw [List.length_cons] at hl
  obtain ⟨σ1,e1,j1⟩:=hs x (.head _) l σ hJ (by omega)
  obtain ⟨σ2,e2,j2⟩:=loop_app xs (l ++ [h x]) σ1 j1 (by rw [List.length_append]; simp; omega) fun y hy=>hs y (.tail _ hy)
  refine ⟨σ2,?_,by rw [List.append_assoc] at j2; exact j2⟩
  rw [List.map_cons,loopF,e1]; exact e2
theorem eqD_int (a b:Int):cmp2 .Eq (.int a) (.int b) = some (a == b):=by
 show deq _ _ = _
 unfold deq
 have o:∀ x:Int,okPy (D.int x).py = true:=fun x=>(okD.int x).ok (by omega)
 rw [if_pos (by rw [o,o]; rfl)]
 rfl
theorem flat_one {α:Type} (f:α -> Nat) (l:List α):(l.map fun x=>[f x]).flatten = l.map f:=by
 induction l with
 | nil=>rfl
 | cons a r ih=>rw [List.map_cons,List.flatten_cons,ih]; rfl
theorem flat_len {N:Nat}:∀ ps:List (List Nat × Bool),(∀ p ∈ ps,(writL p.1 p.2).length <= N) -> (flatW ps).length <= N * ps.length
 | [],_=>Nat.le_refl _
 | p :: ps,h=>by
  have:=flat_len ps (fun q hq=>h q (.tail _ hq))
  have:=h p (.head _)
  have e:flatW (p :: ps) = writL p.1 p.2 ++ flatW ps:=by simp [flatW]
  rw [e,List.length_append,List.length_cons,Nat.mul_add]; omega
theorem ofmap {α β:Type} {f g:α -> β} {l:List α} (h:l.map f = l.map g) {c:α} (hc:c ∈ l):f c = g c:=List.map_inj_left.mp h c hc
theorem lp {turn:D -> Vars -> Option (Fl × Vars)} {d:D} {ds:List D} {σ σ':Vars} {r:Option (Fl × Vars)} (h:turn d σ = some (.next,σ')) (h2:loopF turn ds σ' = r):loopF turn (d :: ds) σ = r:=by
 rw [loopF,h]; exact h2
theorem sxst {g:G} {ks:List NameKind} {l:Nat} {s:St} {σ:Vars} {r:Option (Fl × Vars)} (h:okSt l s = true) (h2:evS g ks s σ = r):evSX g ks l (.st s) σ = r:=by
 show (if okSt l s = true then evS g ks s σ else none) = r
 rw [if_pos h]; exact h2
theorem evB_app {g:G} {ks:List NameKind}:∀ {a:List St} {b:List St} {σ σ':Vars},evB g ks a σ = some (.next,σ') -> evB g ks (a ++ b) σ = evB g ks b σ'
 | [],b,σ,σ',h=>by cases h; rfl
 | s :: a,b,σ,σ',h=>by
  by_cases q:∃ i,s = .frz i
  ·obtain ⟨i,rfl⟩:=q
   exact evB_app (a:=a) h
  ·rw [evB_cons q] at h
   rw [List.cons_append,evB_cons q]
   cases r:evS g ks s σ with
   | none=>rw [r] at h; cases h
   | some p =>
    obtain ⟨f,σ1⟩:=p
    rw [r] at h
    cases f with
    | next=>exact evB_app (a:=a) h
    | _=>cases h
theorem txsx {F:FT} {g:G} {ks:List NameKind} {l:Nat} {s:St} {σ:Vars} {r:Option (Fl × Vars)} (h:okSt l s = true) (h2:evS g ks s σ = r):evTX F g ks l (.sx (.st s)) σ = r:=sxst h h2
end
section
noncomputable def insN (l:List Nat) (c k:Nat):List Nat:=l.take c ++ k :: l.drop c
noncomputable def permOf (a b c d:Nat):List Nat:=insN (insN (insN (insN [0] a 1) b 2) c 3) d 4
noncomputable def perms:List (List Nat):=(List.range 2).flatMap fun a=>(List.range 3).flatMap fun b=>(List.range 4).flatMap fun c=>(List.range 5).map fun d=>permOf a b c d
theorem perms_mem {a b c d:Nat} (ha:a < 2) (hb:b < 3) (hc:c < 4) (hd:d < 5):permOf a b c d ∈ perms :=
 List.mem_flatMap.mpr ⟨a,List.mem_range.mpr ha,List.mem_flatMap.mpr ⟨b,List.mem_range.mpr hb,List.mem_flatMap.mpr ⟨c,List.mem_range.mpr hc,List.mem_map.mpr ⟨d,List.mem_range.mpr hd,rfl⟩⟩⟩⟩
noncomputable def natsD (l:List Nat):D:=.lst (l.map fun i=>.int (i:Nat))
theorem s_ins {g:G} {ks:List NameKind} {σ:Vars} {i:Nat} {a e:E} {n:Int} {d:D} {l:List D} (h1:getO σ i = some l) (h2:evX g σ a = some (.int n)) (h3:evX g σ e = some d) (h4:l.length <= 1000000 /\ smallI n = true):evS g ks (.ins i a e) σ = some (.next,σ.set i (.own (insAt l n d))):=by
 show (match getO σ i,evX g σ a,evX g σ e with
  | some l,some (.int n),some d=>if l.length <= 1000000 /\ smallI n = true then some (Fl.next,σ.set i (.own (insAt l n d))) else none
  | _,_,_=>none) = _
 rw [h1,h2,h3]; exact if_pos h4
theorem insAt_N {l:List Nat} {c k:Nat} (hc:c <= l.length):insAt (l.map fun i=>D.int (i:Nat)) (c:Nat) (.int (k:Nat)) = (insN l c k).map fun i=>.int (i:Nat):=by
 unfold insAt insN
 rw [if_neg (by omega),List.length_map,Int.toNat_natCast,Nat.min_eq_left hc,List.map_append,List.map_cons,List.map_take,List.map_drop]
noncomputable def cellsOf (ns:List Int):List Int:=ns.take 5 ++ [0,0,1,2,4].drop (ns.take 5).length
theorem cells5 (ns:List Int):∃ a b c d e,cellsOf ns = [a,b,c,d,e]:=by
 unfold cellsOf
 match ns with
 | []=>exact ⟨_,_,_,_,_,rfl⟩
 | [a]=>exact ⟨_,_,_,_,_,rfl⟩
 | [a,b]=>exact ⟨_,_,_,_,_,rfl⟩
 | [a,b,c]=>exact ⟨_,_,_,_,_,rfl⟩
 | [a,b,c,d]=>exact ⟨_,_,_,_,_,rfl⟩
 | a :: b :: c :: d :: e :: r=>exact ⟨_,_,_,_,_,rfl⟩
theorem slcHi5 (l:List D) (hl:l.length <= 1000000):slc2 (.lst l) none (some 5) = some (.lst (l.take 5)):=by
 show (if l.length <= 1000000 then some (D.lst (cutL l none (some 5))) else none) = _
 rw [if_pos hl]
 unfold cutL
 simp only [Option.elim]
 have e:clipAt l.length 5 = min 5 l.length:=by
  have:=clipAt_cast l.length 5
  simp at this
  omega
 rw [e,List.drop_zero,Nat.sub_zero]
 congr 2
 by_cases h:l.length <= 5
 ·rw [Nat.min_eq_right h,List.take_of_length_le (Nat.le_refl _),List.take_of_length_le h]
 ·rw [Nat.min_eq_left (by omega)]
theorem slcLo5:((List.range 6).all fun n=>okO (slc2 (.lst [.int 0,.int 0,.int 1,.int 2,.int 4]) (some ((n:Nat):Int)) none) (.lst (([0,0,1,2,4]:List Int).drop n |>.map .int))) = true:=by kernel_rfl
noncomputable def gL2:G:=addF gB2 17 2 ks_law_written ir_law_written
noncomputable def gO2:G:=addF gL2 18 1 ks_law_order ir_law_order
noncomputable abbrev oσ (ns:List Int) (xs:List Int) (lk:List Nat) (x3:AV):Vars:=[.d (.lst (ns.map .int)),.d (.lst (xs.map .int)),.own (lk.map fun i=>.int (i:Nat)),x3,.no,.no]
noncomputable abbrev oBody:List St:=[.ins 2 (.bin .Mod (.sub (.var 1) (.var 3)) (.bin .Add (.var 3) (.int 1))) (.var 3)]
noncomputable abbrev oTurn:D -> Vars -> Option (Fl × Vars):=fun d σ'=>match setT ks_law_order σ' (.one 3) d with
 | some σ₂=>evB gL2 ks_law_order oBody σ₂
 | none=>none
noncomputable def cOf (x:Int) (k:Nat):Nat:=(x.fmod ((k:Nat) + 1)).toNat
theorem cOf_ok (x:Int) (k:Nat):x.fmod ((k:Nat) + 1) = (cOf x k:Nat) /\ cOf x k < k + 1:=by
 have h1:=Int.toNat_of_nonneg (Int.fmod_nonneg_of_pos x (Int.ofNat_lt.mpr (Nat.succ_pos k)))
 exact ⟨h1.symm,Int.ofNat_lt.mp (h1.symm ▸ Int.fmod_lt_of_pos x (Int.ofNat_lt.mpr (Nat.succ_pos k)))⟩
theorem insN_len {l:List Nat} {c k:Nat} (h:c <= l.length):(insN l c k).length = l.length + 1:=by
 unfold insN
 rw [List.length_append,List.length_cons,List.length_take,List.length_drop,Nat.min_eq_left h,<- Nat.add_assoc,Nat.add_sub_cancel' h]
theorem o_step {ns xs:List Int} {lk:List Nat} {k c:Nat} {x:Int} {x3:AV} (h3:x3.sto .local = true) (hn:nthL (xs.map .int) (k:Nat) = some (.int x)) (hl:lk.length = k) (hk:k < 5) (hx:x.fmod ((k:Nat) + 1) = (c:Nat) /\ c < k + 1):oTurn (.int (k:Nat)) (oσ ns xs lk x3) = some (.next,oσ ns xs (insN lk c k) (.d (.int (k:Nat)))):=by
 have e1:setT ks_law_order (oσ ns xs lk x3) (.one 3) (.int (k:Nat)) = some (oσ ns xs lk (.d (.int (k:Nat)))):=if_pos h3
 show (match setT ks_law_order (oσ ns xs lk x3) (.one 3) (.int (k:Nat)) with
  | some σ₂=>evB gL2 ks_law_order oBody σ₂
  | none=>none) = _
 rw [e1]
 have v1:evE gL2 (.bin .Mod (.sub (.var 1) (.var 3)) (.bin .Add (.var 3) (.int 1))) (oσ ns xs lk (.d (.int (k:Nat)))) = some (.int (c:Nat)):=by
  have v2:evE gL2 (.bin .Add (.var 3) (.int 1)) (oσ ns xs lk (.d (.int (k:Nat)))) = some (.int ((k:Nat) + 1)):=e_bin rfl rfl rfl
  exact e_bin (e_sub (x:=.lst (xs.map .int)) (y:=.int (k:Nat)) rfl rfl hn) v2 ((bin2_mod (by omega)).trans (by rw [hx.1]))
 have:=s_ins (ks:=ks_law_order) (i:=2) (l:=lk.map fun i=>.int (i:Nat)) rfl (xE v1) (xE (e:=.var 3) (d:=.int (k:Nat)) rfl) ⟨by rw [List.length_map]; omega,by unfold smallI; simp; omega⟩
 rw [insAt_N (by rw [hl]; exact Nat.le_of_lt_succ hx.2)] at this
 exact evB_one this
theorem e18 (ns:List Int) (hn:ns.length <= 63):∃ p ∈ perms,gD2 18 [.lst (ns.map .int)] = some (natsD p):=by
 have e0:gD2 18 [.lst (ns.map .int)] = runF gL2 ks_law_order ir_law_order [.lst (ns.map .int)]:=rfl
 rw [e0]
 have l5:(ns.take 5).length <= 5:=by rw [List.length_take]; omega
 have r1:evE gL2 (.slcHi (.var 0) (.int 5)) (initV ks_law_order [.lst (ns.map .int)]) = some (.lst ((ns.take 5).map .int)):=by
  refine e_slcHi (x:=.lst (ns.map .int)) rfl rfl ?_
  rw [slcHi5 _ (by rw [List.length_map]; omega),<- List.map_take]
 have r2:evE gL2 (.call 0 [(.slcHi (.var 0) (.int 5))]) (initV ks_law_order [.lst (ns.map .int)]) = some (.int ((ns.take 5).length:Nat)):=by
  refine e_call (l_one r1) ?_
  show (if ((ns.take 5).map D.int).length <= 1000000 then some (D.int (((ns.take 5).map D.int).length:Nat)) else none) = _
  rw [List.length_map,if_pos (by omega)]
 have r3:=e_bin (op:=.Add) r1 (e_slcLo (a:=.lst [(.int 0),(.int 0),(.int 1),(.int 2),(.int 4)]) (x:=.lst [.int 0,.int 0,.int 1,.int 2,.int 4]) rfl r2 (okO_s (alln slcLo5 (by omega)))) (d:=.lst ((cellsOf ns).map .int)) (by
  have:(([0,0,1,2,4]:List Int).drop (ns.take 5).length).length <= 5:=by rw [List.length_drop]; simp
  show (if ((ns.take 5).map D.int).length + ((([0,0,1,2,4]:List Int).drop (ns.take 5).length).map D.int).length <= 1000000 then some (D.lst (((ns.take 5).map D.int) ++ ((([0,0,1,2,4]:List Int).drop (ns.take 5).length).map D.int))) else none) = _
  rw [if_pos (by rw [List.length_map,List.length_map]; omega),cellsOf,List.map_append])
 have s1:=s_asg (ks:=ks_law_order) (i:=1) r3 rfl
 obtain ⟨x0,x1,x2,x3,x4,hxs⟩:=cells5 ns
 rw [hxs] at s1
 have q0:=cOf_ok x0 0
 have z0:cOf x0 0 = 0:=Nat.lt_one_iff.mp q0.2
 rw [z0] at q0
 have q1:=cOf_ok x1 1
 have q2:=cOf_ok x2 2
 have q3:=cOf_ok x3 3
 have q4:=cOf_ok x4 4
 have i1:(insN [0] (cOf x1 1) 1).length = 2:=insN_len (Nat.le_of_lt_succ q1.2)
 have i2:(insN (insN [0] (cOf x1 1) 1) (cOf x2 2) 2).length = 3:=(insN_len (by rw [i1]; exact Nat.le_of_lt_succ q2.2)).trans (congrArg (· + 1) i1)
 have i3:(insN (insN (insN [0] (cOf x1 1) 1) (cOf x2 2) 2) (cOf x3 3) 3).length = 4:=(insN_len (by rw [i2]; exact Nat.le_of_lt_succ q3.2)).trans (congrArg (· + 1) i2)
 refine ⟨permOf (cOf x1 1) (cOf x2 2) (cOf x3 3) (cOf x4 4),perms_mem q1.2 q2.2 q3.2 q4.2,?_⟩
 have lpp:loopF oTurn [.int 0,.int 1,.int 2,.int 3,.int 4] (oσ ns [x0,x1,x2,x3,x4] [] .no) = some (.next,oσ ns [x0,x1,x2,x3,x4] (permOf (cOf x1 1) (cOf x2 2) (cOf x3 3) (cOf x4 4)) (.d (.int 4))) :=
  lp (o_step (k:=0) (x:=x0) rfl rfl rfl (by decide) q0) (lp (o_step (k:=1) (x:=x1) rfl rfl rfl (by decide) q1) (lp (o_step (k:=2) (x:=x2) rfl rfl i1 (by decide) q2) (lp (o_step (k:=3) (x:=x3) rfl rfl i2 (by decide) q3) (lp (o_step (k:=4) (x:=x4) rfl rfl i3 (by decide) q4) rfl))))
 have s2:evS gL2 ks_law_order (.for_ (.one 3) (.r1 (.int 5)) oBody) (oσ ns [x0,x1,x2,x3,x4] [] .no) = _:=s_for (items:=[.int 0,.int 1,.int 2,.int 3,.int 4]) rfl lpp
 have s3:evS gL2 ks_law_order (.ret (.var 2)) (oσ ns [x0,x1,x2,x3,x4] (permOf (cOf x1 1) (cOf x2 2) (cOf x3 3) (cOf x4 4)) (.d (.int 4))) = some (.ret (natsD (permOf (cOf x1 1) (cOf x2 2) (cOf x3 3) (cOf x4 4))),frzAll (oσ ns [x0,x1,x2,x3,x4] (permOf (cOf x1 1) (cOf x2 2) (cOf x3 3) (cOf x4 4)) (.d (.int 4)))):=s_ret rfl
 exact run_ret ((evB_next s1).trans ((evB_next (s_asgO (l:=[]) rfl rfl)).trans ((evB_next s2).trans (evB_one s3))))
noncomputable def cyW (p:List Nat):Nat -> List Nat -> Nat -> Nat -> List Nat × Nat
 | 0,seen,_,size=>(seen,size)
 | n + 1,seen,place,size=>if seen.contains place = true then (seen,size) else cyW p n (seen ++ [place]) (p.getD place 0) (size + 1)
noncomputable def szOf (p:List Nat):List Nat:=((List.range 5).foldl (fun (s:List Nat × List Nat) first=>((cyW p 6 s.1 first 0).1,if (cyW p 6 s.1 first 0).2 > 0 then s.2 ++ [(cyW p 6 s.1 first 0).2] else s.2)) ([],[])).2
theorem c19:(perms.all fun p=>okO (gD2 19 [natsD p]) (natsD (szOf p))) = true:=by kernel_rfl
theorem allp {f:List Nat -> Bool} (h:perms.all f = true) {p:List Nat} (hp:p ∈ perms):f p = true:=List.all_eq_true.mp h p hp
theorem e19 {p:List Nat} (hp:p ∈ perms):gD2 19 [natsD p] = some (natsD (szOf p)):=okO_s (allp c19 hp)
noncomputable def sgn:List Nat:=[97,34,92,32,10,35,9]
noncomputable def prD (l d:Nat):D:=.lst [.str (strL [l]),.str (strL [d])]
noncomputable def liOf (ns:List Int):Nat:=(ns.sum.fmod (7:Nat)).toNat
noncomputable def daOf (ns:List Int):Nat:=(liOf ns + 1 + ((ns.sum.fdiv 7).fmod (6:Nat)).toNat) % 7
theorem fmP (x:Int) {n:Nat} (hn:0 < n):x.fmod (n:Nat) = ((x.fmod (n:Nat)).toNat:Nat) /\ (x.fmod (n:Nat)).toNat < n:=by
 have h1:=Int.toNat_of_nonneg (Int.fmod_nonneg_of_pos x (Int.ofNat_lt.mpr hn))
 exact ⟨h1.symm,Int.ofNat_lt.mp (h1.symm ▸ Int.fmod_lt_of_pos x (Int.ofNat_lt.mpr hn))⟩
theorem cLd:((List.range 7).all fun a=>(List.range 6).all fun b=>!Nat.beq a ((a + 1 + b) % 7)) = true:=by kernel_rfl
theorem ld_ok (ns:List Int):liOf ns < 7 /\ daOf ns < 7 /\ liOf ns ≠ daOf ns /\ ns.sum.fmod 7 = (liOf ns:Nat) /\ (((liOf ns:Nat):Int) + 1 + (ns.sum.fdiv 7).fmod 6).fmod 7 = (daOf ns:Nat):=by
 obtain ⟨h1,h2⟩:=fmP ns.sum (show 0 < 7 by decide)
 obtain ⟨h3,h4⟩:=fmP (ns.sum.fdiv 7) (show 0 < 6 by decide)
 refine ⟨h2,Nat.mod_lt _ (by decide),fun q=>?_,h1,?_⟩
 ·have:=alln (alln cLd h2) h4
  have e:Nat.beq (liOf ns) (daOf ns) = true:=by rw [<- q]; exact Nat.beq_refl _
  exact absurd this (by show ¬ ((!Nat.beq (liOf ns) (daOf ns)) = true); rw [e]; decide)
 ·rw [show (ns.sum.fdiv 7).fmod 6 = (((ns.sum.fdiv 7).fmod (6:Nat)).toNat:Nat) from h3,Int.fmod_eq_emod_of_nonneg _ (by decide)]
  exact (Int.natCast_emod (liOf ns + 1 + ((ns.sum.fdiv 7).fmod (6:Nat)).toNat) 7).symm
theorem cSg:((List.range 7).all fun j=>okO (sub2 (.str (Str.ofString "a\"\\ \n#\t")) (.int (j:Nat))) (.str (strL [sgn.getD j 0]))) = true:=by kernel_rfl
noncomputable abbrev liC (ns:List Int):Nat:=sgn.getD (liOf ns) 0
noncomputable abbrev daC (ns:List Int):Nat:=sgn.getD (daOf ns) 0
noncomputable def gS2:G:=addF gO2 19 1 ks_law_sizes ir_law_sizes
theorem e20 (ns:List Int):gD2 20 [.lst (ns.map .int)] = some (prD (liC ns) (daC ns)):=by
 have e0:gD2 20 [.lst (ns.map .int)] = runF gS2 ks_law_signs ir_law_signs [.lst (ns.map .int)]:=rfl
 rw [e0]
 obtain ⟨h1,h2,h3,h4,h5⟩:=ld_ok ns
 have c1:gS2 1 [.lst (ns.map .int)] = some (.int ns.sum):=by
  show (match (ints? (ns.map D.int):Option (List Int)) with
   | some ns=>some (D.int ns.sum)
   | none=>none) = _
  rw [ints_map]
 have s1:evS gS2 ks_law_signs (.asg 1 (.str (Str.ofString "a\"\\ \n#\t"))) (initV ks_law_signs [.lst (ns.map .int)]) = some (.next,[.d (.lst (ns.map .int)),.d (.str (Str.ofString "a\"\\ \n#\t")),.no,.no,.no]):=s_asg rfl rfl
 have s2:evS gS2 ks_law_signs (.asg 2 (.bin .Mod (.call 1 [(.var 0)]) (.int 7))) [.d (.lst (ns.map .int)),.d (.str (Str.ofString "a\"\\ \n#\t")),.no,.no,.no] = some (.next,[.d (.lst (ns.map .int)),.d (.str (Str.ofString "a\"\\ \n#\t")),.d (.int (liOf ns:Nat)),.no,.no]) :=
  s_asg (e_bin (e_call (l_one rfl) c1) rfl ((bin2_mod (by decide)).trans (by rw [h4]))) rfl
 have v3:evE gS2 (.bin .Mod (.bin .FloorDiv (.call 1 [(.var 0)]) (.int 7)) (.int 6)) [.d (.lst (ns.map .int)),.d (.str (Str.ofString "a\"\\ \n#\t")),.d (.int (liOf ns:Nat)),.no,.no] = some (.int ((ns.sum.fdiv 7).fmod 6)) :=
  e_bin (e_bin (e_call (l_one rfl) c1) rfl rfl) rfl (bin2_mod (by decide))
 have v4:evE gS2 (.bin .Add (.var 2) (.int 1)) [.d (.lst (ns.map .int)),.d (.str (Str.ofString "a\"\\ \n#\t")),.d (.int (liOf ns:Nat)),.no,.no] = some (.int (((liOf ns:Nat):Int) + 1)):=e_bin rfl rfl rfl
 have v5:=e_bin (op:=.Add) v4 v3 rfl
 have s3:=s_asg (ks:=ks_law_signs) (i:=3) (e_bin (op:=.Mod) v5 (b:=.int 7) (y:=.int 7) rfl ((bin2_mod (by decide)).trans (by rw [h5]))) rfl
 refine run_ret ((evB_next s1).trans ((evB_next s2).trans ((evB_next s3).trans (evB_one (s_ret (d:=prD (liC ns) (daC ns)) ?_)))))
 have q:∀ {σ:Vars} {x y:E},evE gS2 x σ = some (.str (strL [liC ns])) -> evE gS2 y σ = some (.str (strL [daC ns])) -> evE gS2 (.lst [x,y]) σ = some (prD (liC ns) (daC ns)):=fun {σ x y} hx hy=>by
  show (match evL gS2 [x,y] σ with
   | some ds=>short ds
   | none=>none) = _
  rw [l_two hx hy]; rfl
 exact q (e_sub rfl rfl (okO_s (alln cSg h1))) (e_sub rfl rfl (okO_s (alln cSg h2)))
end
section
open PySem.StrLaws PySem.Builtin.Str
noncomputable def sgC (j:Nat):Nat:=sgn.getD j 0
theorem c17:((List.range 7).all fun j=>okO (gD2 17 [.str (strL [sgC j]),.bool true]) (.str (strL (writL [sgC j] true))) && okO (gD2 17 [.str (strL [sgC j]),.bool false]) (.str (strL (writL [sgC j] false))) && decide ((writL [sgC j] true).length <= 5) && decide ((writL [sgC j] false).length <= 5) && (writL [sgC j] true).all (fun c=>decide (c < 0x110000)) && (writL [sgC j] false).all (fun c=>decide (c < 0x110000)) && decide (sgC j < 0x110000) && (List.range 7).all fun i=>i == j || !(sgC i == sgC j)) = true:=by kernel_rfl
theorem e17 {j:Nat} (hj:j < 7) (q:Bool):gD2 17 [.str (strL [sgC j]),.bool q] = some (.str (strL (writL [sgC j] q))) /\ (writL [sgC j] q).length <= 5 /\ (∀ x ∈ writL [sgC j] q,x < 0x110000) /\ sgC j < 0x110000 /\ ∀ i,i < 7 -> i ≠ j -> sgC i ≠ sgC j:=by
 have h:=alln c17 hj
 simp only [Bool.and_eq_true,decide_eq_true_eq] at h
 obtain ⟨⟨⟨⟨⟨⟨⟨h1,h2⟩,h3⟩,h4⟩,h5⟩,h6⟩,h7⟩,h8⟩:=h
 have h9:∀ i,i < 7 -> i ≠ j -> sgC i ≠ sgC j:=fun i hi hij e=>by
  have:=alln h8 hi
  rw [e] at this
  simp [hij] at this
 cases q
 ·exact ⟨okO_s h2,h4,fun x hx=>of_decide_eq_true (List.all_eq_true.mp h6 x hx),h7,h9⟩
 ·exact ⟨okO_s h1,h3,fun x hx=>of_decide_eq_true (List.all_eq_true.mp h5 x hx),h7,h9⟩
noncomputable def scD (ns:List Int):D:=.lst (ns.map .int)
noncomputable def σl (ns:List Int) (c1 c2 c3 c4 c5 c6 c7 c8 c9 cA cB cC cD cE:AV):Vars:=[.d (scD ns),c1,c2,c3,c4,c5,c6,c7,c8,c9,cA,cB,cC,cD,cE,.no,.no,.no,.no,.no,.no,.no,.no,.no,.no,.no,.no,.no,.no,.no,.no,.no,.no]
noncomputable abbrev u1 (p:List Nat):AV:=.d (natsD p)
noncomputable abbrev u2 (p:List Nat):AV:=.d (natsD (szOf p))
noncomputable abbrev u3 (ns:List Int):AV:=.d (prD (sgC (liOf ns)) (sgC (daOf ns)))
theorem p1 {ns:List Int} {p:List Nat} (h:gD2 18 [.lst (ns.map .int)] = some (natsD p)):evS gD2 ks_law law2_1 (initA ks_law [.d (scD ns)]) = some (.next,σl ns (u1 p) .emp .emp .no .no .no .emp .emp .no .emp .emp .no .no .no):=s_asg (e_call (l_one rfl) h) rfl
theorem p2 {ns:List Int} {p:List Nat} (hp:p ∈ perms):evS gD2 ks_law law2_2 (σl ns (u1 p) .emp .emp .no .no .no .emp .emp .no .emp .emp .no .no .no) = some (.next,σl ns (u1 p) (u2 p) .emp .no .no .no .emp .emp .no .emp .emp .no .no .no):=s_asg (e_call (l_one rfl) (e19 hp)) rfl
theorem p3 {ns:List Int} {p:List Nat}:evS gD2 ks_law law2_3 (σl ns (u1 p) (u2 p) .emp .no .no .no .emp .emp .no .emp .emp .no .no .no) = some (.next,σl ns (u1 p) (u2 p) (u3 ns) .no .no .no .emp .emp .no .emp .emp .no .no .no):=s_asg (e_call (l_one rfl) (e20 ns)) rfl
noncomputable def qOf (ns:List Int) (k:Nat):Bool:=((ns.length:Int) + (k:Int)).fmod 2 == 0
noncomputable def jOf (ns:List Int) (k:Nat):Nat:=if k = 0 then liOf ns else daOf ns
noncomputable def psOf (ns:List Int):List (List Nat × Bool):=(List.range 2).map fun k=>([sgC (jOf ns k)],qOf ns k)
noncomputable def txOf (ns:List Int):Str:=strL (flatW (psOf ns))
noncomputable def eQ:E:=.cmp .Eq (.bin .Mod (.bin .Add (.call 0 [(.var 4)]) (.var 1)) (.int 2)) (.int 0)
theorem jOf_lt (ns:List Int) (k:Nat):jOf ns k < 7:=by
 obtain ⟨h1,h2,_⟩:=ld_ok ns
 unfold jOf
 split
 ·exact h1
 ·exact h2
theorem p4a {ns:List Int} {p:List Nat} (hn:ns.length <= 63):evE gD2 (.comp [none,none,none,none,some 0,some 3] [.local,.local,.globalImplicit,.globalImplicit,.free,.free] (.one 1) (.r1 (.int 2)) [] (.call 17 [(.sub (.var 5) (.var 1)),eQ])) (σl ns (u1 p) (u2 p) (u3 ns) .no .no .no .emp .emp .no .emp .emp .no .no .no) = some (.lst ((psOf ns).map fun p=>.str (strL (writL p.1 p.2)))):=by
 have e:(psOf ns).map (fun p=>D.str (strL (writL p.1 p.2))) = (List.range 2).map fun k=>.str (strL (writL [sgC (jOf ns k)] (qOf ns k))):=by
  unfold psOf; rw [List.map_map]; rfl
 rw [e]
 refine comp_map (xs:=List.range 2) (f:=fun k=>.int (k:Nat)) (h:=fun k=>.str (strL (writL [sgC (jOf ns k)] (qOf ns k)))) rfl rfl (by simp) fun k hk=>⟨[.no,.d (.int (k:Nat)),.no,.no,.sd (scD ns),.sd (prD (sgC (liOf ns)) (sgC (daOf ns)))],rfl,?_⟩
 have hk':=List.mem_range.mp hk
 have v1:evE gD2 (.sub (.var 5) (.var 1)) [.no,.d (.int (k:Nat)),.no,.no,.sd (scD ns),.sd (prD (sgC (liOf ns)) (sgC (daOf ns)))] = some (.str (strL [sgC (jOf ns k)])):=by
  match k,hk' with
  | 0,_=>rfl
  | 1,_=>rfl
 have w1:evE gD2 (.call 0 [(.var 4)]) [.no,.d (.int (k:Nat)),.no,.no,.sd (scD ns),.sd (prD (sgC (liOf ns)) (sgC (daOf ns)))] = some (.int (ns.length:Nat)):=by
  refine e_call (l_one (x:=scD ns) rfl) ?_
  show (if (ns.map D.int).length <= 1000000 then some (D.int ((ns.map D.int).length:Nat)) else none) = _
  rw [List.length_map,if_pos (by omega)]
 have w2:evE gD2 (.bin .Add (.call 0 [(.var 4)]) (.var 1)) [.no,.d (.int (k:Nat)),.no,.no,.sd (scD ns),.sd (prD (sgC (liOf ns)) (sgC (daOf ns)))] = some (.int ((ns.length:Nat) + (k:Nat))):=e_bin w1 rfl rfl
 have w3:evE gD2 (.bin .Mod (.bin .Add (.call 0 [(.var 4)]) (.var 1)) (.int 2)) [.no,.d (.int (k:Nat)),.no,.no,.sd (scD ns),.sd (prD (sgC (liOf ns)) (sgC (daOf ns)))] = some (.int (((ns.length:Int) + (k:Int)).fmod 2)):=e_bin w2 rfl (bin2_mod (by decide))
 exact e_call (l_two v1 (e_cmp w3 rfl (eqD_int _ _))) (e17 (jOf_lt ns k) _).1
theorem ps_mem {ns:List Int} {p:List Nat × Bool} (h:p ∈ psOf ns):∃ j,j < 7 /\ p.1 = [sgC j]:=by
 obtain ⟨k,hk,rfl⟩:=List.mem_map.mp h
 exact ⟨_,jOf_lt ns k,rfl⟩
theorem tx_len (ns:List Int):(flatW (psOf ns)).length <= 10 :=
 flat_len (N:=5) (psOf ns) fun p hp=>by
  obtain ⟨c,hc,e⟩:=ps_mem hp
  rw [e]; exact (e17 hc _).2.1
theorem tx_ok (ns:List Int):PyData.strOk (txOf ns) = true:=by
 unfold PyData.strOk txOf strL
 rw [<- Array.all_toList,List.all_eq_true]
 intro c hc
 have hc':c ∈ flatW (psOf ns):=hc
 obtain ⟨p,hp,hcp⟩:=List.mem_flatMap.mp hc'
 obtain ⟨d,hd,e⟩:=ps_mem hp
 rw [e] at hcp
 exact decide_eq_true ((e17 hd _).2.2.1 c hcp)
theorem p4 {ns:List Int} {p:List Nat} (hn:ns.length <= 63):evS gD2 ks_law law2_4 (σl ns (u1 p) (u2 p) (u3 ns) .no .no .no .emp .emp .no .emp .emp .no .no .no) = some (.next,σl ns (u1 p) (u2 p) (u3 ns) (.d (.str (txOf ns))) .no .no .emp .emp .no .emp .emp .no .no .no):=by
 have e1:(psOf ns).map (fun p=>D.str (strL (writL p.1 p.2))) = ((psOf ns).map fun p=>writL p.1 p.2).map fun y=>.str (strL y):=by rw [List.map_map]; rfl
 have e2:((psOf ns).map fun p=>writL p.1 p.2).flatten = flatW (psOf ns):=by unfold flatW; rw [List.flatMap_def]
 have a:=p4a (p:=p) hn
 rw [e1] at a
 refine s_asg (e_meth rfl (l_one a) ?_) rfl
 rw [mth_join0 (by rw [e2]; have:=tx_len ns; omega),e2]
 rfl
noncomputable def Wl (l d:Nat) (bs:List Bool):List Nat:=bs.map fun b=>if b = true then d else l
noncomputable def bt5 (m:Nat):List Bool:=[m.testBit 4,m.testBit 3,m.testBit 2,m.testBit 1,m.testBit 0]
noncomputable def wD (l d:Nat) (m:Nat):D:=.str (strL (Wl l d (bt5 m)))
noncomputable def dueD (l d:Nat):D:=.lst ((List.range 32).map (wD l d) ++ [.str (strL [])])
theorem tPush (L:LexA) (ln:Int) (w1 w2:Str):F2 L 1 ⟨[],ln,[]⟩ [.lst [.str w1,.str w2]] = some (.none,⟨[],ln,[w1,w2]⟩):=by kernel_rfl
theorem tGrow (L:LexA) (ln:Int) (l d:Nat):F2 L 2 ⟨[],ln,[strL [l],strL [d]]⟩ [prD l d] = some (dueD l d,⟨[],ln,[]⟩):=by kernel_rfl
theorem e21 (l d:Nat):gD2 21 [prD l d] = some (dueD l d):=by kernel_rfl
end
section
noncomputable def memN (m:Nat) (l:List Nat):Bool:=@List.rec Nat (fun _=>Bool) false (fun a _ r=>bif Nat.beq a m then true else r) l
theorem memN_cons {m a:Nat} {l:List Nat}:memN m (a :: l) = bif Nat.beq a m then true else memN m l:=rfl
noncomputable def pm (p:List Nat) (m:Nat):Nat:=p.foldl (fun a i=>2 * a + m / 2 ^ (4 - i) % 2) 0
noncomputable def rgW (p:List Nat):Nat -> List Nat -> Nat -> Nat -> Option (List Nat × Nat × Nat)
 | 0,_,_,_=>none
 | n + 1,S,b,s=>bif memN b S then some (S,b,s) else rgW p n (S ++ [b]) (pm p b) (s + 1)
noncomputable def rgF (p:List Nat):List Nat -> List Nat -> List (Nat × Nat) -> Option (List (Nat × Nat))
 | [],_,R=>some R
 | w :: ws,S,R=>match rgW p 100 S w 0 with
  | some (S',_,s)=>rgF p ws S' (if 0 < s then R ++ [(s,w)] else R)
  | none=>none
noncomputable def ringsN (p:List Nat):List (Nat × Nat):=(rgF p (List.range 32) [] []).getD []
theorem c22:(perms.all fun p=>p.length == 5 && p.all (fun i=>decide (i < 5)) && ((List.range 32).all fun m=>decide (pm p m < 32) && bt5 (pm p m) == p.map fun i=>(bt5 m).getD i false) && (rgF p (List.range 32) [] []).isSome && decide ((ringsN p).length <= 32) && (ringsN p).all fun r=>decide (1 <= r.1) && decide (r.1 <= 6)) = true:=by kernel_rfl
structure PO (p:List Nat):Prop where
 len:p.length = 5
 lt:∀ i ∈ p,i < 5
 pm:∀ m,m < 32 -> pm p m < 32 /\ bt5 (pm p m) = p.map fun i=>(bt5 m).getD i false
theorem perm_ok {p:List Nat} (hp:p ∈ perms):PO p /\ rgF p (List.range 32) [] [] = some (ringsN p) /\ (ringsN p).length <= 32 /\ ∀ r ∈ ringsN p,1 <= r.1 /\ r.1 <= 6:=by
 have h:=allp c22 hp
 simp only [Bool.and_eq_true,beq_iff_eq,List.all_eq_true,decide_eq_true_eq,List.mem_range] at h
 obtain ⟨⟨⟨⟨⟨h1,h2⟩,h3⟩,h4⟩,h5⟩,h6⟩:=h
 refine ⟨⟨h1,h2,h3⟩,?_,h5,h6⟩
 unfold ringsN
 cases q:rgF p (List.range 32) [] [] with
 | none=>rw [q] at h4; cases h4
 | some r=>rfl
noncomputable def rgD (l d:Nat) (r:Nat × Nat):D:=.tup [.int (r.1:Nat),wD l d r.2]
structure LD (l d:Nat):Prop where
 lo:l < 0x110000
 hi:d < 0x110000
 ne:l ≠ d
section
variable {l d:Nat} {p:List Nat}
theorem LD.inj (h:LD l d):∀ {a b:List Bool},Wl l d a = Wl l d b -> a = b
 | [],[],_=>rfl
 | [],_ :: _,e=>by cases e
 | _ :: _,[],e=>by cases e
 | x :: a,y :: b,e=>by
  injection e with e1 e2
  rw [h.inj e2]
  cases x <;> cases y <;> first | rfl | exact absurd e1 h.ne | exact absurd e1.symm h.ne
theorem LD.ok (h:LD l d) (b:List Bool):PyData.strOk (strL (Wl l d b)) = true:=by
 unfold PyData.strOk strL
 rw [<- Array.all_toList,List.all_eq_true]
 intro c hc
 obtain ⟨x,_,rfl⟩:=List.mem_map.mp (show c ∈ b.map _ from hc)
 refine decide_eq_true ?_
 split
 ·exact h.hi
 ·exact h.lo
theorem LD.okw (h:LD l d) (b:Nat):okD 1 (wD l d b):=okD.str (h.ok _)
theorem strL_inj {a b:List Nat} (h:strL a = strL b):a = b:=by
 have:=congrArg (fun s:Str=>s.cps.toList) h
 exact this
theorem cB:((List.range 32).all fun a=>(List.range 32).all fun b=>Nat.beq a b == (bt5 a == bt5 b)) = true:=by kernel_rfl
theorem LD.eqv (h:LD l d) {a b:Nat} (ha:a < 32) (hb:b < 32):PyData.eqv (wD l d a).py (wD l d b).py = Nat.beq a b:=by
 have hc:=eq_of_beq (alln (alln cB ha) hb)
 show (strL (Wl l d (bt5 a)) == strL (Wl l d (bt5 b))) = _
 rw [hc]
 by_cases q:bt5 a = bt5 b
 ·rw [q]; simp
 ·have:strL (Wl l d (bt5 a)) ≠ strL (Wl l d (bt5 b)):=fun e=>q (h.inj (strL_inj e))
  rw [beq_eq_false_iff_ne.mpr this,beq_eq_false_iff_ne.mpr q]
theorem LD.mem (h:LD l d) (S:List Nat) {b:Nat} (hS:∀ a ∈ S,a < 32) (hb:b < 32):dmem (.lst (S.map (wD l d))) (wD l d b) = some (memN b S):=by
 have o1:okPy (D.lst (S.map (wD l d))).py = true:=(okD.lst (n:=1) fun x hx=>by obtain ⟨y,_,rfl⟩:=List.mem_map.mp hx; exact h.okw y:okD 2 _).ok (by omega)
 have o2:okPy (wD l d b).py = true:=(h.okw b).ok (by omega)
 show (if (okPy (.list (D.pys (S.map (wD l d)))) && okPy (wD l d b).py) = true then some ((D.pys (S.map (wD l d))).any fun y=>PyData.eqv y (wD l d b).py) else none) = _
 rw [if_pos (by rw [o2,show okPy (.list (D.pys (S.map (wD l d)))) = true from o1]; rfl)]
 congr 1
 clear o1
 induction S with
 | nil=>rfl
 | cons a S ih =>
  show (PyData.eqv (wD l d a).py (wD l d b).py || (D.pys (S.map (wD l d))).any fun y=>PyData.eqv y (wD l d b).py) = _
  rw [ih fun x hx=>hS x (.tail _ hx),h.eqv (hS a (.head _)) hb,memN_cons]
  cases Nat.beq a b <;> rfl
noncomputable def gR2:G:=gC2
noncomputable abbrev rσ (l d:Nat) (p:List Nat) (S:List Nat) (R:List (Nat × Nat)) (x4 x5 x6:AV):Vars:=[.d (.lst ((List.range 32).map (wD l d))),.d (natsD p),.own (S.map (wD l d)),.own (R.map (rgD l d)),x4,x5,x6]
noncomputable abbrev rCond:T:=.cmp .NotIn (.var 5) (.var 2)
noncomputable abbrev rPerm:E:=.meth 0 (.str (Str.ofString "")) [(.comp [none,none,some 5] [.local,.local,.free] (.one 1) (.e (.var 1)) [] (.sub (.var 2) (.var 1)))]
noncomputable abbrev rIn:List St:=[.app 2 (.var 5),.asg 6 (.bin .Add (.var 6) (.int 1)),.asg 5 rPerm]
theorem sub_w {b i:Nat} (hi:i < 5):sub2 (wD l d b) (.int (i:Nat)) = some (.str (strL [if (bt5 b).getD i false = true then d else l])):=by
 show (if -(1000000:Int) <= (i:Nat) /\ ((i:Nat):Int) <= 1000000 then ((seqIndex? (i:Nat) (strL (Wl l d (bt5 b))).length).bind ((strL (Wl l d (bt5 b))).cps[·]?)).map fun c=>D.str ⟨#[c]⟩ else none) = _
 have hl:(strL (Wl l d (bt5 b))).length = 5:=rfl
 have hb:(bt5 b).length = 5:=rfl
 rw [if_pos (by omega),hl,seqIx hi]
 show ((Wl l d (bt5 b)).toArray[i]?).map _ = _
 rw [List.getElem?_toArray,Wl,List.getElem?_map,List.getD_eq_getElem?_getD,List.getElem?_eq_getElem (by omega)]
 rfl
theorem perm_w {b:Nat} {S:List Nat} {R:List (Nat × Nat)} {x4 x6:AV} (hp:PO p) (hb:b < 32):evE gR2 rPerm (rσ l d p S R x4 (.d (wD l d b)) x6) = some (wD l d (pm p b)):=by
 have hl:=hp.len
 have v:evE gR2 (.comp [none,none,some 5] [.local,.local,.free] (.one 1) (.e (.var 1)) [] (.sub (.var 2) (.var 1))) (rσ l d p S R x4 (.d (wD l d b)) x6) = some (.lst (p.map fun i=>.str (strL [if (bt5 b).getD i false = true then d else l]))) :=
  comp_map (xs:=p) (f:=fun i=>.int (i:Nat)) (h:=fun i=>.str (strL [if (bt5 b).getD i false = true then d else l])) rfl rfl (by omega) fun i hi=>⟨[.no,.d (.int (i:Nat)),.sd (wD l d b)],rfl,e_sub rfl rfl (sub_w (hp.lt i hi))⟩
 refine e_meth rfl (l_one v) ?_
 have:=mth_join0 (ys:=p.map fun i=>[if (bt5 b).getD i false = true then d else l]) (by rw [flat_one,List.length_map]; omega)
 rw [List.map_map,flat_one] at this
 refine this.trans ?_
 show _ = some (D.str (strL (Wl l d (bt5 (pm p b)))))
 rw [(hp.pm b hb).2]
 unfold Wl
 rw [List.map_map]; rfl
theorem rgW_ok (hp:PO p):∀ (n:Nat) {S S':List Nat} {b b' s s':Nat},(∀ a ∈ S,a < 32) -> b < 32 -> rgW p n S b s = some (S',b',s') -> S'.length <= S.length + n /\ ∀ a ∈ S',a < 32
 | 0,_,_,_,_,_,_,_,_,h=>by cases h
 | n + 1,S,S',b,b',s,s',hS,hb,h=>by
  unfold rgW at h
  cases q:memN b S with
  | true=>rw [q] at h; cases h; exact ⟨by omega,hS⟩
  | false =>
   rw [q] at h
   obtain ⟨h1,h2⟩:=rgW_ok hp n (fun a ha=>(List.mem_append.mp ha).elim (hS a) fun e=>by rw [List.mem_singleton.mp e]; exact hb) (hp.pm b hb).1 h
   rw [List.length_append,List.length_singleton] at h1
   exact ⟨by omega,h2⟩
theorem while_w (H:LD l d) (hp:PO p) {R:List (Nat × Nat)} {x4:D}:∀ (n:Nat) {S S':List Nat} {b b' s s':Nat},S.length + n <= 100000 -> (∀ a ∈ S,a < 32) -> b < 32 -> rgW p n S b s = some (S',b',s') ->
  whileF (fun σ'=>evXT gR2 σ' rCond) (fun σ'=>evB gR2 ks_law_rings rIn σ') n (rσ l d p S R (.d x4) (.d (wD l d b)) (.d (.int (s:Nat)))) = some (.next,rσ l d p S' R (.d x4) (.d (wD l d b')) (.d (.int (s':Nat))))
 | 0,_,_,_,_,_,_,_,_,_,h=>by cases h
 | n + 1,S,S',b,b',s,s',hl,hS,hb,h=>by
  have c1:evXT gR2 (rσ l d p S R (.d x4) (.d (wD l d b)) (.d (.int (s:Nat)))) rCond = some (!memN b S):=by
   have e1:evT gR2 rCond (rσ l d p S R (.d x4) (.d (wD l d b)) (.d (.int (s:Nat)))) = none:=rfl
   unfold evXT
   rw [e1]
   refine t_cmp (x:=wD l d b) (y:=.lst (S.map (wD l d))) rfl rfl ?_
   show (dmem (.lst (S.map (wD l d))) (wD l d b)).map (!·) = _
   rw [H.mem S hS hb]; rfl
  unfold rgW at h
  rw [whileF,c1]
  cases q:memN b S with
  | true =>
   rw [q] at h
   cases h
   rfl
  | false =>
   rw [q] at h
   have a1:evS gR2 ks_law_rings (.app 2 (.var 5)) (rσ l d p S R (.d x4) (.d (wD l d b)) (.d (.int (s:Nat)))) = some (.next,rσ l d p (S ++ [b]) R (.d x4) (.d (wD l d b)) (.d (.int (s:Nat)))):=by
    have:=s_app (g:=gR2) (ks:=ks_law_rings) (σ:=rσ l d p S R (.d x4) (.d (wD l d b)) (.d (.int (s:Nat)))) (i:=2) (e:=.var 5) (d:=wD l d b) (l:=S.map (wD l d)) rfl (xE rfl) (by rw [List.length_map]; omega)
    rw [this]
    show some (Fl.next,[_,_,AV.own (S.map (wD l d) ++ [wD l d b]),_,_,_,_]) = _
    rw [show S.map (wD l d) ++ [wD l d b] = (S ++ [b]).map (wD l d) by rw [List.map_append]; rfl]
   have a2:evS gR2 ks_law_rings (.asg 6 (.bin .Add (.var 6) (.int 1))) (rσ l d p (S ++ [b]) R (.d x4) (.d (wD l d b)) (.d (.int (s:Nat)))) = some (.next,rσ l d p (S ++ [b]) R (.d x4) (.d (wD l d b)) (.d (.int ((s + 1:Nat):Int)))):=s_asg (e_bin rfl rfl rfl) rfl
   have a3:evS gR2 ks_law_rings (.asg 5 rPerm) (rσ l d p (S ++ [b]) R (.d x4) (.d (wD l d b)) (.d (.int ((s + 1:Nat):Int)))) = some (.next,rσ l d p (S ++ [b]) R (.d x4) (.d (wD l d (pm p b))) (.d (.int ((s + 1:Nat):Int)))):=s_asg (perm_w hp hb) rfl
   have e:evB gR2 ks_law_rings rIn (rσ l d p S R (.d x4) (.d (wD l d b)) (.d (.int (s:Nat)))) = some (.next,rσ l d p (S ++ [b]) R (.d x4) (.d (wD l d (pm p b))) (.d (.int ((s + 1:Nat):Int)))):=(evB_next a1).trans ((evB_next a2).trans (evB_one a3))
   show (match evB gR2 ks_law_rings rIn (rσ l d p S R (.d x4) (.d (wD l d b)) (.d (.int (s:Nat)))) with
    | some (.next,σ')=>whileF (fun σ'=>evXT gR2 σ' rCond) (fun σ'=>evB gR2 ks_law_rings rIn σ') n σ'
    | some (.cont,σ')=>whileF (fun σ'=>evXT gR2 σ' rCond) (fun σ'=>evB gR2 ks_law_rings rIn σ') n σ'
    | some (.brk,σ')=>some (.next,σ')
    | some (.ret r,σ')=>some (.ret r,σ')
    | none=>none) = _
   rw [e]
   exact while_w H hp n (by rw [List.length_append,List.length_singleton]; omega) (fun a ha=>(List.mem_append.mp ha).elim (hS a) fun e=>by rw [List.mem_singleton.mp e]; exact hb) (hp.pm b hb).1 h
noncomputable abbrev rBody:List St:=[.asg 5 (.var 4),.asg 6 (.int 0),.while_ 100 rCond rIn,.if_ (.cmp .Gt (.var 6) (.int 0)) [.app 3 (.tup [(.var 6),(.var 4)])] []]
noncomputable abbrev rTurn:D -> Vars -> Option (Fl × Vars):=fun x σ'=>match setT ks_law_rings σ' (.one 4) x with
 | some σ₂=>evB gR2 ks_law_rings rBody σ₂
 | none=>none
theorem ite_len {α:Type} {R:List α} {x:α} {s:Nat}:(if 0 < s then R ++ [x] else R).length <= R.length + 1:=by
 split
 ·rw [List.length_append]; exact Nat.le_refl _
 ·exact Nat.le_succ _
theorem rings_w (H:LD l d) (hp:PO p):∀ (ws:List Nat) {S:List Nat} {R R':List (Nat × Nat)} {x4 x5 x6:AV},x4.sto .local = true -> x5.sto .cell = true -> x6.sto .local = true -> (∀ w ∈ ws,w < 32) -> (∀ a ∈ S,a < 32) -> S.length + 100 * ws.length <= 90000 -> R.length + ws.length <= 90000 -> rgF p ws S R = some R' ->
  ∃ S' y4 y5 y6,loopF rTurn (ws.map (wD l d)) (rσ l d p S R x4 x5 x6) = some (.next,rσ l d p S' R' y4 y5 y6)
 | [],S,R,R',x4,x5,x6,_,_,_,_,_,_,_,h=>by cases h; exact ⟨_,_,_,_,rfl⟩
 | w :: ws,S,R,R',x4,x5,x6,h4,h5,h6,hw,hS,hl,hr,h=>by
  rw [List.length_cons] at hl hr
  unfold rgF at h
  cases q:rgW p 100 S w 0 with
  | none=>rw [q] at h; cases h
  | some r =>
   obtain ⟨S1,b1,s⟩:=r
   rw [q] at h
   obtain ⟨l1,hS1⟩:=rgW_ok hp 100 hS (hw w (.head _)) q
   have a0:setT ks_law_rings (rσ l d p S R x4 x5 x6) (.one 4) (wD l d w) = some (rσ l d p S R (.d (wD l d w)) x5 x6):=if_pos h4
   have a1:evS gR2 ks_law_rings (.asg 5 (.var 4)) (rσ l d p S R (.d (wD l d w)) x5 x6) = some (.next,rσ l d p S R (.d (wD l d w)) (.d (wD l d w)) x6):=s_asg rfl h5
   have a2:evS gR2 ks_law_rings (.asg 6 (.int 0)) (rσ l d p S R (.d (wD l d w)) (.d (wD l d w)) x6) = some (.next,rσ l d p S R (.d (wD l d w)) (.d (wD l d w)) (.d (.int (0:Nat)))):=s_asg rfl h6
   have a3:evS gR2 ks_law_rings (.while_ 100 rCond rIn) (rσ l d p S R (.d (wD l d w)) (.d (wD l d w)) (.d (.int (0:Nat)))) = some (.next,rσ l d p S1 R (.d (wD l d w)) (.d (wD l d b1)) (.d (.int (s:Nat)))):=while_w H hp 100 (by omega) hS (hw w (.head _)) q
   have t4:evXT gR2 (rσ l d p S1 R (.d (wD l d w)) (.d (wD l d b1)) (.d (.int (s:Nat)))) (.cmp .Gt (.var 6) (.int 0)) = some (decide (0 < s)):=by
    refine xT (t_cmp (x:=.int (s:Nat)) rfl rfl ?_)
    show some (decide ((0:Int) < (s:Nat))) = _
    congr 1
    exact decide_eq_decide.mpr (by omega)
   have a4:evS gR2 ks_law_rings (.if_ (.cmp .Gt (.var 6) (.int 0)) [.app 3 (.tup [(.var 6),(.var 4)])] []) (rσ l d p S1 R (.d (wD l d w)) (.d (wD l d b1)) (.d (.int (s:Nat)))) = some (.next,rσ l d p S1 (if 0 < s then R ++ [(s,w)] else R) (.d (wD l d w)) (.d (wD l d b1)) (.d (.int (s:Nat)))):=by
    by_cases hs:0 < s
    ·rw [if_pos hs]
     refine (evS_ift (t4.trans (by rw [decide_eq_true hs]))).trans (evB_one ?_)
     have:=s_app (g:=gR2) (ks:=ks_law_rings) (σ:=rσ l d p S1 R (.d (wD l d w)) (.d (wD l d b1)) (.d (.int (s:Nat)))) (i:=3) (e:=.tup [(.var 6),(.var 4)]) (d:=rgD l d (s,w)) (l:=R.map (rgD l d)) rfl (xE (e_tup (l_two rfl rfl) (show 2 <= 1000000 by decide))) (by rw [List.length_map]; omega)
     rw [this]
     show some (Fl.next,[_,_,_,AV.own (R.map (rgD l d) ++ [rgD l d (s,w)]),_,_,_]) = _
     rw [show R.map (rgD l d) ++ [rgD l d (s,w)] = (R ++ [(s,w)]).map (rgD l d) by rw [List.map_append]; rfl]
    ·rw [if_neg hs]
     exact (evS_iff (t4.trans (by rw [decide_eq_false hs]))).trans evB_nil
   have e:rTurn (wD l d w) (rσ l d p S R x4 x5 x6) = some (.next,rσ l d p S1 (if 0 < s then R ++ [(s,w)] else R) (.d (wD l d w)) (.d (wD l d b1)) (.d (.int (s:Nat)))):=by
    show (match setT ks_law_rings (rσ l d p S R x4 x5 x6) (.one 4) (wD l d w) with
     | some σ₂=>evB gR2 ks_law_rings rBody σ₂
     | none=>none) = _
    rw [a0]
    exact (evB_next a1).trans ((evB_next a2).trans ((evB_next a3).trans (evB_one a4)))
   obtain ⟨S',y4,y5,y6,e2⟩:=rings_w H hp ws (x4:=.d (wD l d w)) (x5:=.d (wD l d b1)) (x6:=.d (.int (s:Nat))) rfl rfl rfl (fun x hx=>hw x (.tail _ hx)) hS1 (by omega) (Nat.le_trans (Nat.add_le_add_right ite_len _) (by omega)) h
   exact ⟨S',y4,y5,y6,by rw [List.map_cons]; exact lp e e2⟩
end
noncomputable def ringsD (l d:Nat) (p:List Nat):D:=.lst ((ringsN p).map (rgD l d))
theorem e22 {l d:Nat} {p:List Nat} (H:LD l d) (hp:p ∈ perms):gD2 22 [.lst ((List.range 32).map (wD l d)),natsD p] = some (ringsD l d p):=by
 have e0:gD2 22 [.lst ((List.range 32).map (wD l d)),natsD p] = runF gR2 ks_law_rings ir_law_rings [.lst ((List.range 32).map (wD l d)),natsD p]:=rfl
 rw [e0]
 obtain ⟨h1,h2,_⟩:=perm_ok hp
 obtain ⟨S',y4,y5,y6,e⟩:=rings_w H h1 (List.range 32) (S:=[]) (R:=[]) (x4:=.no) (x5:=.emp) (x6:=.no) rfl rfl rfl (fun w hw=>List.mem_range.mp hw) (fun a ha=>nomatch ha) (by decide) (by decide) h2
 have s1:evS gR2 ks_law_rings (.for_ (.one 4) (.e (.var 0)) rBody) (rσ l d p [] [] .no .emp .no) = _:=s_for (items:=(List.range 32).map (wD l d)) rfl e
 refine run_ret ((evB_next (s_asgO (l:=[]) rfl rfl)).trans ((evB_next (s_asgO (l:=[]) rfl rfl)).trans ((evB_next s1).trans (evB_one (s_ret (d:=ringsD l d p) rfl)))))
end
section
open PySem.StrLaws PySem.Builtin.Str
theorem posF_next (c:Nat) (W:List Nat):∀ (n s:Nat),W.length <= s + n -> ∀ {p:Nat} {ps:List Nat},posF c s (W.drop s) = p :: ps -> s <= p /\ p < W.length /\ posF c (p + 1) (W.drop (p + 1)) = ps
 | 0,s,h,p,ps,e=>by
  rw [List.drop_eq_nil_of_le (show W.length <= s from h)] at e
  cases e
 | n + 1,s,h,p,ps,e=>by
  by_cases hs:s < W.length
  ·rw [List.drop_eq_getElem_cons hs,posF] at e
   split at e
   ·injection e with e1 e2
    subst e1
    exact ⟨Nat.le_refl _,hs,e2⟩
   ·obtain ⟨a,b,d⟩:=posF_next c W n (s + 1) (by omega) e
    exact ⟨by omega,b,d⟩
  ·rw [List.drop_eq_nil_of_le (by omega)] at e
   cases e
noncomputable abbrev x5 (a b c d e:Nat):List Nat:=[a,b,c,d,e]
theorem find_d (a b c d e y s:Nat) (hs:s <= 5):findD (strL (x5 a b c d e)) (strL [y]) (s:Nat) 5 = (match posF y s ((x5 a b c d e).drop s) with
  | p :: _=>(p:Int)
  | []=>-1):=by
 have hl:(strL (x5 a b c d e)).length = 5:=rfl
 have e1:atIx (strL (x5 a b c d e)).length (s:Nat) = s:=by
  unfold atIx
  rw [if_neg (by omega)]
  omega
 have e2:min (atIx (strL (x5 a b c d e)).length 5) (strL (x5 a b c d e)).length = (strL (x5 a b c d e)).length:=rfl
 have h:=occ_pos_aux (strL (x5 a b c d e)) y 1 (6 - s) s s #[] (Nat.le_refl _) (by rw [hl]; omega)
 have h2:occurrences (strL (x5 a b c d e)) (strL [y]) s (strL (x5 a b c d e)).length 1 = (posF y s ((x5 a b c d e).drop s)).take 1:=by
  rw [occ_eq]
  exact h
 unfold findD
 rw [e1,e2,h2]
 cases posF y s ((x5 a b c d e).drop s) with
 | nil=>rfl
 | cons p ps=>rfl
theorem find_e (a b c d e:Nat):((List.range 6).map fun s=>findD (strL (x5 a b c d e)) (strL []) (s:Nat) 5) = (List.range 6).map fun s=>((s:Nat):Int):=by kernel_rfl
noncomputable def wnt (k d:Nat):Str:=strL ((List.replicate k [46,46,46,d]).flatten ++ [46,46,46])
noncomputable abbrev evσ (k y:Nat) (got:Str) (own:AV) (x3 x4 x5:AV):Vars:=[.d (.str (wnt k y)),.d (.str got),own,x3,x4,x5,.no,.no]
noncomputable def ellPre:List St:=ir_ellipsis_match.take 10
noncomputable def ellItems (k y:Nat):List D:=.str (strL []) :: (List.replicate k (D.str (strL [y])) ++ [.str (strL [])])
noncomputable def gE2:G:=addF (addF (addF gA2 10 3 ks_div2 ir_div2) 13 2 ks_dpos ir_dpos) 14 2 ks_idm ir_idm
theorem ell_pre (a b c d e:Nat):((List.range 7).map fun j=>(List.range 7).map fun k=>evB gE2 ks_ellipsis_match ellPre (initV ks_ellipsis_match [.str (wnt k (sgC j)),.str (strL (x5 a b c d e))])) = (List.range 7).map fun j=>(List.range 7).map fun k=>some (.next,evσ k (sgC j) (strL (x5 a b c d e)) (.d (.lst (ellItems k (sgC j)))) (.d (.int 0)) (.d (.int 5)) (.d (.str (strL [])))):=by kernel_rfl
noncomputable abbrev ellBody:List St:=[.asg 3 (.meth 4 (.var 1) [(.var 5),(.var 3),(.var 4)]),.if_ (.cmp .Lt (.var 3) (.int 0)) [.ret (.bool false)] [],.aug 3 .Add (.call 0 [(.var 5)])]
noncomputable abbrev ellTurn:D -> Vars -> Option (Fl × Vars):=fun d σ'=>match setT ks_ellipsis_match σ' (.one 5) d with
 | some σ₂=>evB gE2 ks_ellipsis_match ellBody σ₂
 | none=>none
theorem s_aug {g:G} {ks:List NameKind} {σ:Vars} {i:Nat} {op:Operator} {e:E} {a b r:D} (h1:σ[i]? = some (.d a)) (h2:evX g σ e = some b) (h3:iop op a b = some r) (hs:stoB ks σ i = true):evS g ks (.aug i op e) σ = some (.next,σ.set i (.d r)):=by
 show (match σ[i]?,evX g σ e with
  | some (.d a),some b=>match iop op a b with
   | some d=>(putV ks σ i (.d d)).map fun σ'=>(Fl.next,σ')
   | none=>none
  | _,_=>none) = _
 rw [h1,h2]
 show (match iop op a b with
   | some d=>(putV ks σ i (.d d)).map fun σ'=>(Fl.next,σ')
   | none=>none) = _
 rw [h3]
 show (putV ks σ i (.d r)).map _ = _
 rw [putV,if_pos hs]; rfl
section
variable {k y a b c d e s p:Nat} {own w:D} {z:Str}
noncomputable abbrev eσ (k y a b c d e:Nat) (own:D) (s:Int) (w:D):Vars:=evσ k y (strL (x5 a b c d e)) (.d own) (.d (.int s)) (.d (.int 5)) (.d w)
theorem ell_set:setT ks_ellipsis_match (eσ k y a b c d e own s w) (.one 5) (.str z) = some (eσ k y a b c d e own s (.str z)):=by
 rfl
theorem ell_find {r:Int} (hf:findD (strL (x5 a b c d e)) z (s:Nat) 5 = r):evS gE2 ks_ellipsis_match (.asg 3 (.meth 4 (.var 1) [(.var 5),(.var 3),(.var 4)])) (eσ k y a b c d e own s (.str z)) = some (.next,eσ k y a b c d e own r (.str z)):=by
 refine s_asg (e_meth (x:=.str (strL (x5 a b c d e))) (ds:=[.str z,.int (s:Nat),.int 5]) rfl rfl ?_) rfl
 show some (D.int (findD (strL (x5 a b c d e)) z (s:Nat) 5)) = _
 rw [hf]
theorem ell_hit (hf:findD (strL (x5 a b c d e)) z (s:Nat) 5 = (p:Nat)) (hz:z.length <= 10):ellTurn (.str z) (eσ k y a b c d e own s w) = some (.next,eσ k y a b c d e own ((p + z.length:Nat):Int) (.str z)):=by
 show (match setT ks_ellipsis_match (eσ k y a b c d e own s w) (.one 5) (.str z) with
  | some σ₂=>evB gE2 ks_ellipsis_match ellBody σ₂
  | none=>none) = _
 rw [ell_set]
 have a2:evS gE2 ks_ellipsis_match (.if_ (.cmp .Lt (.var 3) (.int 0)) [.ret (.bool false)] []) (eσ k y a b c d e own (p:Nat) (.str z)) = some (.next,eσ k y a b c d e own (p:Nat) (.str z)):=by
  refine (evS_iff (xT (t_cmp (x:=.int (p:Nat)) rfl rfl ?_))).trans evB_nil
  show some (decide (((p:Nat):Int) < 0)) = _
  rw [decide_eq_false (by omega)]
 have a3:evS gE2 ks_ellipsis_match (.aug 3 .Add (.call 0 [(.var 5)])) (eσ k y a b c d e own (p:Nat) (.str z)) = some (.next,eσ k y a b c d e own ((p + z.length:Nat):Int) (.str z)):=by
  refine s_aug (a:=.int (p:Nat)) (b:=.int (z.length:Nat)) (r:=.int ((p + z.length:Nat):Int)) rfl (xE (e_call (l_one rfl) ?_)) rfl rfl
  show (if z.length <= 16777216 then some (D.int (z.length:Nat)) else none) = _
  rw [if_pos (by omega)]
 exact (evB_next (ell_find hf)).trans ((evB_next a2).trans (evB_one a3))
theorem ell_miss (hf:findD (strL (x5 a b c d e)) z (s:Nat) 5 = -1):ellTurn (.str z) (eσ k y a b c d e own s w) = some (.ret (.bool false),frzAll (eσ k y a b c d e own (-1) (.str z))):=by
 show (match setT ks_ellipsis_match (eσ k y a b c d e own s w) (.one 5) (.str z) with
  | some σ₂=>evB gE2 ks_ellipsis_match ellBody σ₂
  | none=>none) = _
 rw [ell_set]
 have a2:evS gE2 ks_ellipsis_match (.if_ (.cmp .Lt (.var 3) (.int 0)) [.ret (.bool false)] []) (eσ k y a b c d e own (-1) (.str z)) = some (.ret (.bool false),frzAll (eσ k y a b c d e own (-1) (.str z))):=by
  refine (evS_ift (xT (t_cmp (x:=.int (-1)) rfl rfl rfl))).trans (evB_one (s_ret rfl))
 refine (evB_next (ell_find hf)).trans ?_
 rw [evB_cons (fun ⟨i,q⟩=>by cases q),a2]
theorem ell_loop:∀ (n s:Nat) (w:D),s <= 5 -> ∃ σ',loopF ellTurn (List.replicate n (D.str (strL [y])) ++ [.str (strL [])]) (eσ k y a b c d e own s w) = some (if n <= (posF y s ((x5 a b c d e).drop s)).length then .next else .ret (.bool false),σ')
 | 0,s,w,hs=>by
  have hf:findD (strL (x5 a b c d e)) (strL []) (s:Nat) 5 = (s:Nat):=ofmap (find_e a b c d e) (List.mem_range.mpr (by omega:s < 6))
  refine ⟨eσ k y a b c d e own ((s + (strL []).length:Nat):Int) (.str (strL [])),?_⟩
  rw [if_pos (Nat.zero_le _)]
  exact lp (ell_hit hf (Nat.zero_le _)) rfl
 | n + 1,s,w,hs=>by
  have hf:=find_d a b c d e y s hs
  cases q:posF y s ((x5 a b c d e).drop s) with
  | nil =>
   rw [q] at hf
   refine ⟨frzAll (eσ k y a b c d e own (-1) (.str (strL [y]))),?_⟩
   rw [if_neg (show ¬ (n + 1 <= ([]:List Nat).length) from Nat.not_succ_le_zero n),List.replicate_succ,List.cons_append,loopF,ell_miss hf]
  | cons p ps =>
   rw [q] at hf
   obtain ⟨h1,h2,h3⟩:=posF_next y (x5 a b c d e) (5 - s) s (by show 5 <= _; omega) q
   have h2:p < 5:=h2
   obtain ⟨σ',e2⟩:=ell_loop n (p + 1) (.str (strL [y])) h2
   rw [h3] at e2
   refine ⟨σ',?_⟩
   rw [List.replicate_succ,List.cons_append]
   refine (lp (ell_hit (z:=strL [y]) hf (show (1:Nat) <= 10 by decide)) e2).trans ?_
   rw [List.length_cons]
   by_cases hn:n <= ps.length
   ·rw [if_pos hn,if_pos (by omega)]
   ·rw [if_neg hn,if_neg (by omega)]
end
noncomputable def gR3:G:=addF gC2 22 2 ks_law_rings ir_law_rings
theorem e15 {j k:Nat} (hj:j < 7) (hk:k < 7) (a b c d e:Nat):gR3 15 [.str (wnt k (sgC j)),.str (strL (x5 a b c d e))] = some (.bool (decide (k <= (x5 a b c d e).count (sgC j)))):=by
 have e0:gR3 15 [.str (wnt k (sgC j)),.str (strL (x5 a b c d e))] = runF gE2 ks_ellipsis_match (ellPre ++ [.for_ (.one 5) (.e (.var 2)) ellBody,.ret (.bool true)]) [.str (wnt k (sgC j)),.str (strL (x5 a b c d e))]:=rfl
 rw [e0]
 have pre:=ofmap (ofmap (ell_pre a b c d e) (List.mem_range.mpr hj)) (List.mem_range.mpr hk)
 have f0:findD (strL (x5 a b c d e)) (strL []) (0:Nat) 5 = (0:Nat):=ofmap (find_e a b c d e) (List.mem_range.mpr (by omega:0 < 6))
 obtain ⟨σ',l1⟩:=ell_loop (k:=k) (y:=sgC j) (a:=a) (b:=b) (c:=c) (d:=d) (e:=e) (own:=.lst (ellItems k (sgC j))) k 0 (.str (strL [])) (Nat.zero_le _)
 have l2:=lp (ell_hit (k:=k) (y:=sgC j) (own:=.lst (ellItems k (sgC j))) (w:=.str (strL [])) f0 (Nat.zero_le _)) l1
 rw [List.drop_zero,posF_len] at l2
 have s1:evS gE2 ks_ellipsis_match (.for_ (.one 5) (.e (.var 2)) ellBody) (eσ k (sgC j) a b c d e (.lst (ellItems k (sgC j))) (0:Nat) (.str (strL []))) = _:=s_for (items:=ellItems k (sgC j)) rfl l2
 have s2:∃ σ2,evB gE2 ks_ellipsis_match [.for_ (.one 5) (.e (.var 2)) ellBody,.ret (.bool true)] (eσ k (sgC j) a b c d e (.lst (ellItems k (sgC j))) (0:Nat) (.str (strL []))) = some (.ret (.bool (decide (k <= (x5 a b c d e).count (sgC j)))),σ2):=by
  by_cases h:k <= (x5 a b c d e).count (sgC j)
  ·rw [if_pos h] at s1
   rw [decide_eq_true h]
   exact ⟨_,(evB_next s1).trans (evB_one (s_ret rfl))⟩
  ·rw [if_neg h] at s1
   rw [decide_eq_false h]
   refine ⟨σ',?_⟩
   rw [evB_cons (fun ⟨i,q⟩=>by cases q),s1]
 obtain ⟨σ2,s2⟩:=s2
 exact run_ret ((evB_app pre).trans s2)
end
section
open PySem.StrLaws PySem.Builtin.Str
theorem rings_ok {p:List Nat} (hp:p ∈ perms):(ringsN p).length <= 32 /\ ∀ r ∈ ringsN p,1 <= r.1 /\ r.1 <= 6:=(perm_ok hp).2.2
noncomputable def pop (m:Nat):Nat:=(bt5 m).count true
theorem count_W {l d:Nat} (H:LD l d) (bs:List Bool):(Wl l d bs).count d = bs.count true:=by
 induction bs with
 | nil=>rfl
 | cons b bs ih =>
  show ((if b = true then d else l) :: Wl l d bs).count d = _
  rw [List.count_cons,List.count_cons,ih]
  cases b
  ·rw [if_neg (show ¬ ((if false = true then d else l) == d) = true from fun q=>H.ne (eq_of_beq q))]; rfl
  ·rw [if_pos (show ((if true = true then d else l) == d) = true from beq_self_eq_true d)]; rfl
noncomputable def marksN (p:List Nat):List Nat:=(ringsN p).map fun r=>pop r.2
noncomputable def eW1:E:=.bin .Add (.bin .Mult (.bin .Add (.str (Str.ofString "...")) (.var 1)) (.var 5)) (.str (Str.ofString "..."))
noncomputable def eW2:E:=.bin .Add (.bin .Mult (.bin .Add (.str (Str.ofString "...")) (.var 1)) (.bin .Add (.var 5) (.int 1))) (.str (Str.ofString "..."))
theorem cW:((List.range 7).all fun j=>(List.range 6).all fun k=>okO (evE gR3 eW1 [.no,.d (.str (strL [sgC j])),.no,.no,.no,.d (.int (k:Nat))]) (.str (wnt k (sgC j))) && okO (evE gR3 eW2 [.no,.d (.str (strL [sgC j])),.no,.no,.no,.d (.int (k:Nat))]) (.str (wnt (k + 1) (sgC j)))) = true:=by kernel_rfl
noncomputable abbrev mσ (R:D) (y:Nat) (l:List D) (x3 x4 x5:AV):Vars:=[.d R,.d (.str (strL [y])),.own l,x3,x4,x5,.no]
noncomputable abbrev mBody:List St:=[.asg 5 (.meth 1 (.var 4) [(.var 1)]),.if_ (.cmp .IsNot (.call 15 [eW1,(.var 4)]) (.bool true)) [.ret (.lst [])] [],.if_ (.cmp .IsNot (.call 15 [eW2,(.var 4)]) (.bool false)) [.ret (.lst [])] [],.app 2 (.var 5)]
theorem w_1 {R:D} {y:Nat} {k:Int} {own:List D} {x3 x4:AV}:evE gR3 eW1 (mσ R y own x3 x4 (.d (.int k))) = evE gR3 eW1 [.no,.d (.str (strL [y])),.no,.no,.no,.d (.int k)]:=by kernel_rfl
theorem w_2 {R:D} {y:Nat} {k:Int} {own:List D} {x3 x4:AV}:evE gR3 eW2 (mσ R y own x3 x4 (.d (.int k))) = evE gR3 eW2 [.no,.d (.str (strL [y])),.no,.no,.no,.d (.int k)]:=by kernel_rfl
theorem m_body {l j:Nat} {R:D} {r:Nat × Nat} {own:List D} {z5:AV} (hj:j < 7) (H:LD l (sgC j)) (ho:own.length <= 1000) (h5:z5.sto .local = true) :
  evB gR3 ks_law_marks mBody (mσ R (sgC j) own (.d (.int (r.1:Nat))) (.d (wD l (sgC j) r.2)) z5) = some (.next,mσ R (sgC j) (own ++ [.int (pop r.2:Nat)]) (.d (.int (r.1:Nat))) (.d (wD l (sgC j) r.2)) (.d (.int (pop r.2:Nat)))):=by
 have hc:(Wl l (sgC j) (bt5 r.2)).count (sgC j) = pop r.2:=count_W H (bt5 r.2)
 have hk:pop r.2 <= 5:=List.count_le_length (l:=bt5 r.2)
 have a1:evS gR3 ks_law_marks (.asg 5 (.meth 1 (.var 4) [(.var 1)])) (mσ R (sgC j) own (.d (.int (r.1:Nat))) (.d (wD l (sgC j) r.2)) z5) = some (.next,mσ R (sgC j) own (.d (.int (r.1:Nat))) (.d (wD l (sgC j) r.2)) (.d (.int (pop r.2:Nat)))):=by
  refine s_asg (e_meth (x:=wD l (sgC j) r.2) (ds:=[.str (strL [sgC j])]) rfl rfl ?_) h5
  show some (D.int ((occurrences (strL (Wl l (sgC j) (bt5 r.2))) ⟨#[sgC j]⟩ 0 (strL (Wl l (sgC j) (bt5 r.2))).length ((strL (Wl l (sgC j) (bt5 r.2))).length + 1)).length:Nat)) = _
  rw [occ_pos,posF_len,hc]
 have hw:=Bool.and_eq_true_iff.mp (alln (alln cW hj) (by omega:pop r.2 < 6))
 have e1:=e15 hj (by omega:pop r.2 < 7) (if r.2.testBit 4 = true then sgC j else l) (if r.2.testBit 3 = true then sgC j else l) (if r.2.testBit 2 = true then sgC j else l) (if r.2.testBit 1 = true then sgC j else l) (if r.2.testBit 0 = true then sgC j else l)
 have e2:=e15 hj (by omega:pop r.2 + 1 < 7) (if r.2.testBit 4 = true then sgC j else l) (if r.2.testBit 3 = true then sgC j else l) (if r.2.testBit 2 = true then sgC j else l) (if r.2.testBit 1 = true then sgC j else l) (if r.2.testBit 0 = true then sgC j else l)
 have hx:Wl l (sgC j) (bt5 r.2) = x5 (if r.2.testBit 4 = true then sgC j else l) (if r.2.testBit 3 = true then sgC j else l) (if r.2.testBit 2 = true then sgC j else l) (if r.2.testBit 1 = true then sgC j else l) (if r.2.testBit 0 = true then sgC j else l):=rfl
 rw [<- hx,hc] at e1 e2
 rw [decide_eq_true (Nat.le_refl _)] at e1
 rw [decide_eq_false (Nat.not_succ_le_self _)] at e2
 have a2:evS gR3 ks_law_marks (.if_ (.cmp .IsNot (.call 15 [eW1,(.var 4)]) (.bool true)) [.ret (.lst [])] []) (mσ R (sgC j) own (.d (.int (r.1:Nat))) (.d (wD l (sgC j) r.2)) (.d (.int (pop r.2:Nat)))) = some (.next,mσ R (sgC j) own (.d (.int (r.1:Nat))) (.d (wD l (sgC j) r.2)) (.d (.int (pop r.2:Nat)))) :=
  (evS_iff (xT (t_cmp (e_call (ds:=[.str (wnt (pop r.2) (sgC j)),wD l (sgC j) r.2]) (l_two (w_1.trans (okO_s hw.1)) rfl) e1) rfl rfl))).trans evB_nil
 have a3:evS gR3 ks_law_marks (.if_ (.cmp .IsNot (.call 15 [eW2,(.var 4)]) (.bool false)) [.ret (.lst [])] []) (mσ R (sgC j) own (.d (.int (r.1:Nat))) (.d (wD l (sgC j) r.2)) (.d (.int (pop r.2:Nat)))) = some (.next,mσ R (sgC j) own (.d (.int (r.1:Nat))) (.d (wD l (sgC j) r.2)) (.d (.int (pop r.2:Nat)))) :=
  (evS_iff (xT (t_cmp (e_call (ds:=[.str (wnt (pop r.2 + 1) (sgC j)),wD l (sgC j) r.2]) (l_two (w_2.trans (okO_s hw.2)) rfl) e2) rfl rfl))).trans evB_nil
 exact (evB_next a1).trans ((evB_next a2).trans ((evB_next a3).trans (evB_one (s_app rfl (xE rfl) (by omega)))))
theorem e23 {l j:Nat} {p:List Nat} (hj:j < 7) (H:LD l (sgC j)) (hp:p ∈ perms):gD2 23 [ringsD l (sgC j) p,.str (strL [sgC j])] = some (natsD (marksN p)):=by
 have e0:gD2 23 [ringsD l (sgC j) p,.str (strL [sgC j])] = runF gR3 ks_law_marks ir_law_marks [ringsD l (sgC j) p,.str (strL [sgC j])]:=rfl
 rw [e0]
 obtain ⟨r1,r2⟩:=rings_ok hp
 obtain ⟨σ',e,x3,x4,z5,h,_⟩:=loop_app (turn:=fun d σ'=>match setT ks_law_marks σ' (.two 3 4) d with
   | some σ₂=>evB gR3 ks_law_marks mBody σ₂
   | none=>none) (J:=fun own σ=>∃ x3 x4 z5,σ = mσ (ringsD l (sgC j) p) (sgC j) own x3 x4 z5 /\ x3.sto .local = true /\ x4.sto .local = true /\ z5.sto .local = true) (f:=rgD l (sgC j)) (h:=fun r=>.int (pop r.2:Nat)) (ringsN p) [] (mσ (ringsD l (sgC j) p) (sgC j) [] .no .no .no) ⟨_,_,_,rfl,rfl,rfl,rfl⟩ (by simp; omega) (fun r hr own σ ⟨x3,x4,z5,h1,h3,h4,h5⟩ hl=>by
  subst h1
  refine ⟨mσ (ringsD l (sgC j) p) (sgC j) (own ++ [.int (pop r.2:Nat)]) (.d (.int (r.1:Nat))) (.d (wD l (sgC j) r.2)) (.d (.int (pop r.2:Nat))),?_,⟨_,_,_,rfl,rfl,rfl,rfl⟩⟩
  have st':setT ks_law_marks (mσ (ringsD l (sgC j) p) (sgC j) own x3 x4 z5) (.two 3 4) (rgD l (sgC j) r) = some (mσ (ringsD l (sgC j) p) (sgC j) own (.d (.int (r.1:Nat))) (.d (wD l (sgC j) r.2)) z5):=if_pos ⟨by decide,h3,h4⟩
  rw [st']
  exact m_body hj H hl h5)
 subst h
 have s2:evS gR3 ks_law_marks (.for_ (.two 3 4) (.e (.var 0)) mBody) (mσ (ringsD l (sgC j) p) (sgC j) [] .no .no .no) = _:=s_for (items:=(ringsN p).map (rgD l (sgC j))) rfl e
 refine run_ret ((evB_next (s_asgO (l:=[]) rfl rfl)).trans ((evB_next s2).trans (evB_one (s_ret (d:=natsD (marksN p)) ?_))))
 show some (D.lst ([] ++ (ringsN p).map fun r=>D.int (pop r.2:Nat))) = _
 unfold natsD marksN
 rw [List.nil_append,List.map_map]; rfl
end
section
noncomputable def comps:List (List Nat):=[[5],[4,1],[1,4],[3,2],[2,3],[3,1,1],[1,3,1],[1,1,3],[2,2,1],[2,1,2],[1,2,2],[2,1,1,1],[1,2,1,1],[1,1,2,1],[1,1,1,2],[1,1,1,1,1]]
theorem allcp {f:List Nat -> Bool} (h:comps.all f = true) {s:List Nat} (hs:s ∈ comps):f s = true:=List.all_eq_true.mp h s hs
theorem cC:(perms.all fun p=>comps.contains (szOf p)) = true:=by kernel_rfl
theorem sz_mem {p:List Nat} (hp:p ∈ perms):szOf p ∈ comps:=List.contains_iff_mem.mp (allp cC hp)
noncomputable def mostN (s:List Nat):Nat:=((List.range 7).find? fun c=>decide (1 <= c) && s.all fun n=>c % n == 0).getD 0
noncomputable def e9:E:=.sub (.comp [none,none,some 2] [.local,.cell,.free] (.one 1) (.r2 (.int 1) (.int 7)) [(.cmp .Eq (.comp [none,none,some 1] [.local,.local,.free] (.one 1) (.e (.var 2)) [(.cmp .NotEq (.bin .Mod (.var 2) (.var 1)) (.int 0))] (.var 1)) (.lst []))] (.var 1)) (.int 0)
theorem c9:(comps.all fun s=>okO (evE gD2 e9 [.no,.no,.d (natsD s)]) (.int (mostN s:Nat)) && decide (1 <= mostN s) && decide (mostN s <= 6)) = true:=by kernel_rfl
noncomputable def divs (k:Nat):List Nat:=(List.range (k + 1)).filter fun d=>decide (1 <= d) && k % d == 0
noncomputable def namedD (m:Nat):D:=.lst ((List.range (m + 1)).map fun k=>natsD (divs k))
theorem c24:((List.range 6).all fun m=>okO (gD2 24 [.int (m + 1:Nat)]) (namedD (m + 1))) = true:=by kernel_rfl
noncomputable def bs8 (w:Nat):Nat:=2 ^ (4 + w)
noncomputable def prodN (s:List Nat) (st base:Nat):Nat:=s.foldl (fun a n=>a * (1 + base ^ (n / Nat.gcd n st)) ^ Nat.gcd n st) 1
theorem c25:(comps.all fun s=>(List.range 5).all fun w=>(List.range (mostN s)).all fun i=>okO (gD2 25 [natsD s,namedD (mostN s),.int (i + 1:Nat),.int (bs8 w:Nat)]) (.int (prodN s (i + 1) (bs8 w):Nat))) = true:=by kernel_rfl
noncomputable def totN (s:List Nat) (w:Nat):Nat:=((List.range (mostN s)).map fun i=>prodN s (i + 1) (bs8 w)).sum
theorem c14:(comps.all fun s=>(List.range 5).all fun w=>okO (gD2 14 [.int (totN s w:Nat),.int (mostN s:Nat)]) (.tup [.int (totN s w / mostN s:Nat),.int 0])) = true:=by kernel_rfl
noncomputable def cntN (p:List Nat):List Nat:=(List.range 6).map fun k=>(marksN p).count k
noncomputable def e13:E:=.comp [none,none,some 8] [.local,.local,.free] (.one 1) (.r1 (.int 6)) [] (.meth 1 (.var 2) [(.var 1)])
noncomputable def backN (R:List (Nat × Nat)) (st base:Nat):Nat:=((R.filter fun r=>st % r.1 == 0).map fun r=>r.1 * base ^ pop r.2).sum
theorem cAll:(perms.all fun p=>(okO (evE gD2 e13 [.no,.no,.no,.no,.no,.no,.no,.no,.d (natsD (marksN p))]) (natsD (cntN p))) && (((List.range 5).all fun w=>okO (gD2 12 [natsD (cntN p),.int (4 + w:Nat)]) (.int (totN (szOf p) w / mostN (szOf p):Nat)) && okO (gD2 11 [.int (totN (szOf p) w / mostN (szOf p):Nat),.int (4 + w:Nat)]) (natsD (cntN p))) && ((List.range 5).all fun w=>(List.range (mostN (szOf p))).all fun i=>prodN (szOf p) (i + 1) (bs8 w) == backN (ringsN p) (i + 1) (bs8 w)))) = true:=by kernel_rfl
theorem c13 {p:List Nat} (hp:p ∈ perms):(okO (evE gD2 e13 [.no,.no,.no,.no,.no,.no,.no,.no,.d (natsD (marksN p))]) (natsD (cntN p))) = true:=(Bool.and_eq_true_iff.mp (allp cAll hp)).1
theorem cFin {p:List Nat} (hp:p ∈ perms):((List.range 5).all fun w=>okO (gD2 12 [natsD (cntN p),.int (4 + w:Nat)]) (.int (totN (szOf p) w / mostN (szOf p):Nat)) && okO (gD2 11 [.int (totN (szOf p) w / mostN (szOf p):Nat),.int (4 + w:Nat)]) (natsD (cntN p))) = true:=(Bool.and_eq_true_iff.mp (Bool.and_eq_true_iff.mp (allp cAll hp)).2).1
theorem cBack {p:List Nat} (hp:p ∈ perms):((List.range 5).all fun w=>(List.range (mostN (szOf p))).all fun i=>prodN (szOf p) (i + 1) (bs8 w) == backN (ringsN p) (i + 1) (bs8 w)) = true:=(Bool.and_eq_true_iff.mp (Bool.and_eq_true_iff.mp (allp cAll hp)).2).2
end
section
noncomputable def gB3:G:=addF (addF gW2 24 1 ks_law_named ir_law_named) 25 4 ks_law_product ir_law_product
theorem cPw:((List.range 5).all fun w=>(List.range 6).all fun k=>okO (bin2 .Pow (.int (bs8 w:Nat)) (.int (k:Nat))) (.int (bs8 w ^ k:Nat)) && (List.range 7).all fun s=>okO (bin2 .Mult (.int (s:Nat)) (.int (bs8 w ^ k:Nat))) (.int (s * bs8 w ^ k:Nat))) = true:=by kernel_rfl
theorem map_getD {α β:Type} (R:List α) (z:α) (q:α -> Bool) (f:α -> β):((List.range R.length).filter fun k=>q (R.getD k z)).map (fun k=>f (R.getD k z)) = (R.filter q).map f:=by
 have e:R = (List.range R.length).map fun k=>R.getD k z:=by
  apply List.ext_getElem
  ·rw [List.length_map,List.length_range]
  ·intro i h1 h2
   rw [List.getElem_map,List.getElem_range,List.getD_eq_getElem?_getD,List.getElem?_eq_getElem h1]; rfl
 conv=>rhs; rw [e]
 rw [List.filter_map,List.map_map]; rfl
noncomputable def eB0:E:=.sub (.sub (.var 4) (.var 1)) (.int 0)
noncomputable def eBk:E:=.comp [none,none,some 3,some 1,some 0,some 2] [.local,.local,.free,.free,.free,.free] (.one 1) (.r1 (.call 0 [(.var 0)])) [(.cmp .Eq (.bin .Mod (.var 5) eB0) (.int 0))] (.bin .Mult eB0 (.bin .Pow (.var 2) (.sub (.var 3) (.var 1))))
theorem isum_nat (l:List Nat):(l.map fun n:Nat=>(n:Int)).sum = (l.sum:Nat):=by
 induction l with
 | nil=>rfl
 | cons a l ih=>rw [List.map_cons,List.sum_cons,List.sum_cons,ih]; rfl
theorem sum_nats {g:G} (hg:∀ l,g 1 [.lst l] = (match ints? l with
  | some ns=>some (.int ns.sum)
  | none=>none)) (l:List Nat):g 1 [natsD l] = some (.int (l.sum:Nat)):=by
 have q:ints? (l.map fun i=>D.int (i:Nat)) = some (l.map fun n:Nat=>(n:Int)):=by
  have:=ints_map (l.map fun n:Nat=>(n:Int))
  rw [List.map_map] at this
  exact this
 unfold natsD
 rw [hg,q]
 dsimp only
 rw [isum_nat]
theorem e26 {l d w st:Nat} {p:List Nat} (hp:p ∈ perms) (hw:w < 5):gD2 26 [ringsD l d p,natsD (marksN p),.int (st:Nat),.int (bs8 w:Nat)] = some (.int (backN (ringsN p) st (bs8 w):Nat)):=by
 have e0:gD2 26 [ringsD l d p,natsD (marksN p),.int (st:Nat),.int (bs8 w:Nat)] = runF gB3 ks_law_back ir_law_back [ringsD l d p,natsD (marksN p),.int (st:Nat),.int (bs8 w:Nat)]:=rfl
 rw [e0]
 obtain ⟨r1,r2⟩:=rings_ok hp
 have i0:evE gB3 (.call 0 [(.var 0)]) (initV ks_law_back [ringsD l d p,natsD (marksN p),.int (st:Nat),.int (bs8 w:Nat)]) = some (.int ((ringsN p).length:Nat)):=by
  refine e_call (l_one (x:=ringsD l d p) rfl) ?_
  show (if ((ringsN p).map (rgD l d)).length <= 1000000 then some (D.int (((ringsN p).map (rgD l d)).length:Nat)) else none) = _
  rw [List.length_map,if_pos (by omega)]
 have key:∀ k,k < (ringsN p).length -> nthL ((ringsN p).map (rgD l d)) (k:Nat) = some (rgD l d ((ringsN p).getD k (0,0))) /\ nthL ((marksN p).map fun i=>D.int (i:Nat)) (k:Nat) = some (.int (pop ((ringsN p).getD k (0,0)).2:Nat)) /\ 1 <= ((ringsN p).getD k (0,0)).1 /\ ((ringsN p).getD k (0,0)).1 <= 6:=fun k hk'=>by
  have hg:(ringsN p).getD k (0,0) = (ringsN p)[k]:=by rw [List.getD_eq_getElem?_getD,List.getElem?_eq_getElem hk']; rfl
  have nth:∀ {f:Nat × Nat -> D},nthL ((ringsN p).map f) (k:Nat) = some (f ((ringsN p).getD k (0,0))):=fun {f}=>by
   unfold nthL
   rw [if_pos ⟨by omega,by omega,by rw [List.length_map]; omega⟩,List.length_map,seqIx hk']
   exact (List.getElem?_map ..).trans (by rw [List.getElem?_eq_getElem hk',hg]; rfl)
  refine ⟨nth,?_,by rw [hg]; exact r2 _ (List.getElem_mem hk')⟩
  unfold marksN
  rw [List.map_map]
  exact nth
 have v:evE gB3 eBk (initV ks_law_back [ringsD l d p,natsD (marksN p),.int (st:Nat),.int (bs8 w:Nat)]) = some (natsD (((ringsN p).filter fun r=>st % r.1 == 0).map fun r=>r.1 * bs8 w ^ pop r.2)):=by
  have:=comp_fil (g:=gB3) (σ:=initV ks_law_back [ringsD l d p,natsD (marksN p),.int (st:Nat),.int (bs8 w:Nat)]) (ms:=[none,none,some 3,some 1,some 0,some 2]) (ks:=[.local,.local,.free,.free,.free,.free]) (tg:=.one 1) (it:=.r1 (.call 0 [(.var 0)])) (ifs:=[(.cmp .Eq (.bin .Mod (.var 5) eB0) (.int 0))]) (elt:=.bin .Mult eB0 (.bin .Pow (.var 2) (.sub (.var 3) (.var 1)))) (xs:=List.range (ringsN p).length) (f:=fun k=>.int (k:Nat)) (p:=fun k=>st % ((ringsN p).getD k (0,0)).1 == 0) (h:=fun k=>.int (((ringsN p).getD k (0,0)).1 * bs8 w ^ pop ((ringsN p).getD k (0,0)).2:Nat)) (by
   rw [<- rng_map]
   exact i_r1 i0 (by unfold rngOk; simp; omega)) rfl (by rw [List.length_range]; omega) fun k hk=>⟨[.no,.d (.int (k:Nat)),.sd (.int (bs8 w:Nat)),.sd (natsD (marksN p)),.sd (ringsD l d p),.sd (.int (st:Nat))],rfl,?_,fun _=>?_⟩
  ·refine this.trans ?_
   unfold natsD
   rw [List.map_map]
   exact congrArg (fun z=>some (D.lst z)) (map_getD (ringsN p) (0,0) (fun r=>st % r.1 == 0) (fun r=>D.int (r.1 * bs8 w ^ pop r.2:Nat)))
  ·obtain ⟨n1,n2,hr⟩:=key k (List.mem_range.mp hk)
   have b0:evE gB3 eB0 [.no,.d (.int (k:Nat)),.sd (.int (bs8 w:Nat)),.sd (natsD (marksN p)),.sd (ringsD l d p),.sd (.int (st:Nat))] = some (.int (((ringsN p).getD k (0,0)).1:Nat)):=e_sub (x:=rgD l d ((ringsN p).getD k (0,0))) (e_sub (x:=ringsD l d p) rfl rfl n1) rfl rfl
   refine ts_one ?_
   refine t_cmp (e_bin (x:=.int (st:Nat)) rfl b0 (bin2_mod (by omega))) rfl ((eqD_int _ _).trans ?_)
   rw [Int.fmod_eq_emod_of_nonneg _ (Int.natCast_nonneg _),<- Int.natCast_emod]
   congr 1
   rw [Bool.eq_iff_iff,beq_iff_eq,beq_iff_eq]
   omega
  ·obtain ⟨n1,n2,hr⟩:=key k (List.mem_range.mp hk)
   have b0:evE gB3 eB0 [.no,.d (.int (k:Nat)),.sd (.int (bs8 w:Nat)),.sd (natsD (marksN p)),.sd (ringsD l d p),.sd (.int (st:Nat))] = some (.int (((ringsN p).getD k (0,0)).1:Nat)):=e_sub (x:=rgD l d ((ringsN p).getD k (0,0))) (e_sub (x:=ringsD l d p) rfl rfl n1) rfl rfl
   have hpw:=Bool.and_eq_true_iff.mp (alln (alln cPw hw) (Nat.lt_succ_of_le (List.count_le_length (l:=bt5 ((ringsN p).getD k (0,0)).2)):pop ((ringsN p).getD k (0,0)).2 < 6))
   exact e_bin b0 (e_bin (x:=.int (bs8 w:Nat)) rfl (e_sub (x:=natsD (marksN p)) rfl rfl n2) (okO_s hpw.1)) (okO_s (alln hpw.2 (by omega)))
 have s:=sum_nats (g:=gB3) (fun _=>rfl) (((ringsN p).filter fun r=>st % r.1 == 0).map fun r=>r.1 * bs8 w ^ pop r.2)
 have s1:evE gB3 (.call 1 [eBk]) (frzAll (initV ks_law_back [ringsD l d p,natsD (marksN p),.int (st:Nat),.int (bs8 w:Nat)])) = some (.int (backN (ringsN p) st (bs8 w):Nat)):=e_call (l_one v) s
 exact run_ret (evB_one (s_ret s1))
end
end Mine
end
section
open PySem PySem.W PyProof.Rows PySem.Calls
namespace Mine
theorem lst_of_well {P:Params} {h:Heap} {a:Addr} {vs:List Value} {xs:List PyData} (W:Well P h (.ref a) (ofPy (.list xs))) (L:h.IsList a vs.toArray):Lst h a vs:=by
 have e:∃ ys,ofPy (.list xs) = .list ys:=by unfold ofPy; exact ⟨_,rfl⟩
 obtain ⟨ys,e⟩:=e
 rw [e] at W
 cases W with
 | list g _ =>
  obtain ⟨o,g2,c,n,d⟩:=L
  rw [g] at g2
  cases g2
  cases d
  exact ⟨_,g⟩
noncomputable def qn2 (P l c:Nat):Str:=if l = 104 then "_digits2int.<locals>.inner" else if l = 89 then "_int2digits.<locals>.inner" else if l = 211 then "_law_stream.<locals>._law_read_on" else "_law_stream.<locals>.<lambda>"
noncomputable def Pure2 (ns:List Int):Prop:=∃ (σ1 σ2 σ3 σ4:Vars) (text:Str),evS gD2 ks_law law2_1 (initA ks_law [.d (.lst (ns.map .int))]) = some (.next,σ1) /\ evS gD2 ks_law law2_2 σ1 = some (.next,σ2) /\ evS gD2 ks_law law2_3 σ2 = some (.next,σ3) /\ evS gD2 ks_law law2_4 σ3 = some (.next,σ4) /\
  getV σ4 4 = some (.str text) /\ σ4[5]? = some .no /\ text.length <= 900000 /\ PyData.strOk text = true /\
  ∀ L,∃ σ',evTB (F2 L) gD2 ks_law 5 law2_tx (σ4.set 5 (.lex L ⟨text.cps.toList,1,[]⟩)) = some (.ret (.bool true),σ')
end Mine
open Mine in
set_option tactic.hygienic true in
theorem t03 (hpure:∀ ns:List Int,ns.length <= 63 -> Pure2 ns):PySem.Challenge.rw_sh0056_03.Holds:=by
 refine hd0 (by rfl) (by rfl) (by rfl) (by
  unfold H2
  k_fill
  intro w s₀ s₁ mg mb G Y fa o pm cd doc dV kV ho hd hcd hD hmg hg args vals as hpre hlay hrd hwl hlo
  have KX:=km_in_of Y
  km_tabs Y
  have X:=(Ground.X G).1
  refine Ground.open G ?_
  intro T B D TE TW
  km_lay T hmg ho hd cd
  wrow_args hpre hlay hrd hwl hlo
  refine enter_call ?_
  have e267:mg "law" = some (.ref 267):=mg_of KX (Top.g T) (by kernel_rfl)
  have hfa:fa = 267:=by
   have h:=hmg.symm.trans e267
   cases h <;> rfl
  clear hd hcd hD hmg
  subst hfa
  refine kn_post hT9 (fun _ _=>rfl) ?_
  rename_i ns _ _ _ _ _ _ _ _ _ _ hL _ hW _ hI _ hlen _
  obtain ⟨σ1,σ2,σ3,σ4,text,e1,e2,e3,e4,e5,e6,e7,e8,e9⟩:=hpure ns (by omega)
  have GG:=good_of (prog:=PySem.Challenge.rw_sh0056_03.row.prog) (w:=w) (qn:=qn2) (cW:=83) hT9 (by decide) T
  exact law_wrap2 hT9 hg GG (by omega:47 <= 200) (lst_of_well hW hL) hI (law2_run (P:=w.params) (ghost_K hT9 KX (by kernel_rfl)) GG ⟨fun P a b=>by
   show qn2 P a b ≠ ""
   unfold qn2
   split
   ·decide
   ·split
    ·decide
    ·split <;> decide,rfl,rfl,rfl,rfl,by simp,by simp,by simp,rfl⟩ e1 e2 e3 e4 e5 e6 e7 e8 e9) (fun _=>rfl) (fun h=>.bool true) (by first | kernel_rfl | rfl))
end
section
open PySem PySem.W PyProof.Rows PySem.Calls
namespace Mine
theorem slc32 (l d:Nat):slc2 (dueD l d) none (some 32) = some (.lst ((List.range 32).map (wD l d))):=by kernel_rfl
theorem cP2:((List.range 5).all fun w=>okO (bin2 .Pow (.int 2) (.int (4 + w:Nat))) (.int (bs8 w:Nat))) = true:=by kernel_rfl
theorem rng1 (n:Nat):rng 1 n = (List.range n).map fun i=>D.int ((i + 1:Nat):Int):=by
 unfold rng
 refine List.map_congr_left fun i _=>?_
 rw [Int.add_comm]; rfl
theorem i_r2 {g:G} {σ:Vars} {a b:E} {m:Nat} (h1:evE g a σ = some (.int 1)) (h2:evE g b σ = some (.int (m + 1:Nat))) (hm:m <= 100):evI g (.r2 a b) σ = some ((List.range m).map fun i=>D.int ((i + 1:Nat):Int)):=by
 show (match evE g a σ,evE g b σ with
  | some (.int m),some (.int n)=>if (rngOk m && rngOk n) = true then some (rng m (n - m).toNat) else none
  | _,_=>none) = _
 rw [h1,h2]
 show (if (rngOk 1 && rngOk (m + 1:Nat)) = true then some (rng 1 (((m + 1:Nat):Int) - 1).toNat) else none) = _
 have e:(((m + 1:Nat):Int) - 1).toNat = m:=by omega +splitDisjunctions
 rw [if_pos (by unfold rngOk; simp; omega +splitDisjunctions),e,rng1]
theorem e_and {g:G} {σ:Vars} {a b:E} {d:D} (h1:evE g a σ = some (.bool true)) (h2:evE g b σ = some d):evE g (.and a b) σ = some d:=by
 show (match evE g a σ with
  | some (.bool true)=>evE g b σ
  | some (.bool false)=>some (.bool false)
  | _=>none) = _
 rw [h1]; exact h2
theorem okDue {l d:Nat} (H:LD l d):okD 2 (dueD l d):=okD.lst fun x hx=>by
 rcases List.mem_append.mp hx with q | q
 ·obtain ⟨m,_,rfl⟩:=List.mem_map.mp q
  exact H.okw m
 ·rw [List.mem_singleton.mp q]; exact okD.str (by kernel_rfl)
theorem okNats (l:List Nat):okD 2 (natsD l):=okD.lst fun x hx=>by
 obtain ⟨i,_,rfl⟩:=List.mem_map.mp hx
 exact okD.int _
noncomputable abbrev lC (ns:List Int):Nat:=sgC (liOf ns)
noncomputable abbrev dC (ns:List Int):Nat:=sgC (daOf ns)
theorem ld3 (ns:List Int):LD (lC ns) (dC ns):=by
 obtain ⟨h1,h2,h3,_⟩:=ld_ok ns
 have a:=e17 h1 true
 have b:=e17 h2 true
 exact ⟨a.2.2.2.1,b.2.2.2.1,b.2.2.2.2 _ h1 h3⟩
noncomputable def wOf (ns:List Int):Nat:=ns.length % 5
noncomputable abbrev twD (l d:Nat):D:=.lst [.str (strL [l]),.str (strL [d]),.str (strL [])]
theorem okTw {l d:Nat} (H:LD l d):okD 2 (twD l d):=okD.lst fun x hx=>by
 have o:∀ c,c < 0x110000 -> PyData.strOk (strL [c]) = true:=fun c hc=>by
  unfold PyData.strOk strL
  rw [<- Array.all_toList,List.all_eq_true]
  intro y hy
  rw [List.mem_singleton.mp hy]; exact decide_eq_true hc
 simp only [List.mem_cons,List.not_mem_nil,or_false] at hx
 rcases hx with rfl | rfl | rfl
 ·exact okD.str (o _ H.lo)
 ·exact okD.str (o _ H.hi)
 ·exact okD.str (by kernel_rfl)
noncomputable def σT (ns:List Int) (p:List Nat) (L:LexA) (st:LexSt) (c6 c7 c8 c9 cA cB cC cD cE:AV):Vars:=σl ns (u1 p) (u2 p) (u3 ns) (.d (.str (txOf ns))) (.lex L st) c6 c7 c8 c9 cA cB cC cD cE
noncomputable def ePr:E:=.comp [none,none,none,some 10,some 2,some 11] [.local,.local,.globalImplicit,.free,.free,.free] (.one 1) (.r2 (.int 1) (.bin .Add (.var 9) (.int 1))) [] (.call 25 [(.var 4),(.var 3),(.var 1),(.bin .Pow (.int 2) (.var 5))])
noncomputable def eBa:E:=.comp [none,none,none,some 8,some 7,some 11] [.local,.local,.globalImplicit,.free,.free,.free] (.one 1) (.r2 (.int 1) (.bin .Add (.var 9) (.int 1))) [] (.call 26 [(.var 4),(.var 3),(.var 1),(.bin .Pow (.int 2) (.var 5))])
theorem tr9 {ns:List Int} {p:List Nat} {L:LexA} {st:LexSt} {c6 c7 c8 c9 cA cB cC cD cE:AV}:evE gD2 e9 (σT ns p L st c6 c7 c8 c9 cA cB cC cD cE) = evE gD2 e9 [.no,.no,.d (natsD (szOf p))]:=by kernel_rfl
theorem tr13 {ns:List Int} {p:List Nat} {L:LexA} {st:LexSt} {c6 c7 c9 cA cB cC cD cE:AV} {x:D}:evE gD2 e13 (σT ns p L st c6 c7 (.d x) c9 cA cB cC cD cE) = evE gD2 e13 [.no,.no,.no,.no,.no,.no,.no,.no,.d x]:=by kernel_rfl
theorem hlen {l:List D} (h:l.length <= 1000):gD2 0 [.lst l] = some (.int (l.length:Nat)):=by
 show (if l.length <= 1000000 then some (D.int (l.length:Nat)) else none) = _
 rw [if_pos (by omega +splitDisjunctions)]
theorem tx2 {ns:List Int} {p:List Nat} (hn:ns.length <= 63) (hp:p ∈ perms) (L:LexA):∃ σ',evTB (F2 L) gD2 ks_law 5 law2_tx (σT ns p L ⟨(txOf ns).cps.toList,1,[]⟩ .no .emp .emp .no .emp .emp .no .no .no) = some (.ret (.bool true),σ'):=by
 have H:=ld3 ns
 have hj:=(ld_ok ns).2.1
 have hs:=sz_mem hp
 obtain ⟨rl,rr⟩:=rings_ok hp
 have hw:wOf ns < 5:=Nat.mod_lt _ (by decide)
 obtain ⟨post,hpo,ht⟩:=taken_flat (psOf ns) [] 1 (.inl rfl) fun q hq=>by
  obtain ⟨c,hc,e⟩:=ps_mem hq
  rw [e]; exact List.cons_ne_nil _ _
 have tk:takenF 3 ⟨(txOf ns).cps.toList,1,[]⟩ = some ([strL [lC ns],strL [dC ns],strL []],⟨[],1 + sumN (psOf ns),[]⟩):=by
  have:=ht 1
  refine Eq.trans ?_ (this.trans ?_)
  ·rfl
  ·rw [takenF,if_pos (by simp),tok_end post _ hpo]
   rfl
 have f0:F2 L 0 ⟨(txOf ns).cps.toList,1,[]⟩ [.int 3] = some (twD (lC ns) (dC ns),⟨[],1 + sumN (psOf ns),[]⟩):=by
  show (if (0:Int) <= 3 /\ (3:Int) <= 1000 then (match takenF 3 ⟨(txOf ns).cps.toList,1,[]⟩ with
   | some (ws,st')=>some (D.lst (ws.map .str),st')
   | none=>none) else none) = _
  rw [if_pos (by decide),tk]
  rfl
 generalize hln:(1:Int) + sumN (psOf ns) = ln at f0
 have c1:evE gD2 (.bin .Add (.int 1) (.meth 1 (.var 4) [.str (Str.ofString "\n")])) (σT ns p L ⟨[],ln,[]⟩ .no .emp .emp .no .emp .emp .no .no .no) = some (.int ln):=by
  have q:evE gD2 (.meth 1 (.var 4) [.str (Str.ofString "\n")]) (σT ns p L ⟨[],ln,[]⟩ .no .emp .emp .no .emp .emp .no .no .no) = some (.int (sumN (psOf ns))):=by
   refine e_meth (x:=.str (txOf ns)) (ds:=[.str (Str.ofString "\n")]) rfl rfl ?_
   show some (D.int ((Builtin.Str.occurrences (strL (flatW (psOf ns))) ⟨#[10]⟩ 0 (strL (flatW (psOf ns))).length ((strL (flatW (psOf ns))).length + 1)).length:Nat)) = _
   rw [occ_pos,posF_len,<- count_flat]
  rw [<- hln]
  exact e_bin rfl q rfl
 have a1:evTX (F2 L) gD2 ks_law 5 (.guard [.c (.call 0 [.int 3]) .NotEq (.bin .Add (.var 3) (.lst [.str (Str.ofString "")])),.c .line .NotEq (.bin .Add (.int 1) (.meth 1 (.var 4) [.str (Str.ofString "\n")]))]) (σT ns p L ⟨(txOf ns).cps.toList,1,[]⟩ .no .emp .emp .no .emp .emp .no .no .no) = some (.next,σT ns p L ⟨[],ln,[]⟩ .no .emp .emp .no .emp .emp .no .no .no):=by
  refine tx_guard ((gs_c (x:=twD (lC ns) (dC ns)) (y:=twD (lC ns) (dC ns)) (σ':=σT ns p L ⟨[],ln,[]⟩ .no .emp .emp .no .emp .emp .no .no .no) (le_call rfl (l_one rfl) f0) (e_bin (x:=prD (lC ns) (dC ns)) (y:=.lst [.str (Str.ofString "")]) rfl rfl rfl) (ne_self (okTw H) (by omega +splitDisjunctions))).trans ?_)
  refine (gs_c (x:=.int ln) (le_line (st:=⟨[],ln,[]⟩) (L:=L) rfl) c1 (ne_self (okD.int _) (by omega +splitDisjunctions))).trans ?_
  rfl
 have a2:evTX (F2 L) gD2 ks_law 5 (.ex 1 [.var 3]) (σT ns p L ⟨[],ln,[]⟩ .no .emp .emp .no .emp .emp .no .no .no) = some (.next,σT ns p L ⟨[],ln,[strL [lC ns],strL [dC ns]]⟩ .no .emp .emp .no .emp .emp .no .no .no) :=
  tx_ex (le_call (ds:=[prD (lC ns) (dC ns)]) rfl (l_one rfl) (tPush L ln _ _))
 have a3:evTX (F2 L) gD2 ks_law 5 (.asg 6 (.call 2 [.var 3])) (σT ns p L ⟨[],ln,[strL [lC ns],strL [dC ns]]⟩ .no .emp .emp .no .emp .emp .no .no .no) = some (.next,σT ns p L ⟨[],ln,[]⟩ (.d (dueD (lC ns) (dC ns))) .emp .emp .no .emp .emp .no .no .no) :=
  tx_asg (le_call (ds:=[prD (lC ns) (dC ns)]) rfl (l_one rfl) (tGrow L ln _ _)) (by decide) rfl
 have a4:evTX (F2 L) gD2 ks_law 5 (.guard [.t (.cmp .NotEq (.var 6) (.call 21 [(.var 3)]))]) (σT ns p L ⟨[],ln,[]⟩ (.d (dueD (lC ns) (dC ns))) .emp .emp .no .emp .emp .no .no .no) = some (.next,σT ns p L ⟨[],ln,[]⟩ (.d (dueD (lC ns) (dC ns))) .emp .emp .no .emp .emp .no .no .no) :=
  tx_guard ((gs_t (t_cmp (x:=dueD (lC ns) (dC ns)) rfl (e_call (l_one rfl) (e21 _ _)) (ne_self (okDue H) (by omega +splitDisjunctions)))).trans rfl)
 have a5:evTX (F2 L) gD2 ks_law 5 (.sx (.st (.asg 7 (.call 22 [(.slcHi (.var 6) (.int 32)),(.var 1)])))) (σT ns p L ⟨[],ln,[]⟩ (.d (dueD (lC ns) (dC ns))) .emp .emp .no .emp .emp .no .no .no) = some (.next,σT ns p L ⟨[],ln,[]⟩ (.d (dueD (lC ns) (dC ns))) (.d (ringsD (lC ns) (dC ns) p)) .emp .no .emp .emp .no .no .no) :=
  txsx rfl (s_asg (ks:=ks_law) (i:=7) (e_call (l_two (e_slcHi (x:=dueD (lC ns) (dC ns)) rfl rfl (slc32 _ _)) rfl) (e22 H hp)) rfl)
 have a6:evTX (F2 L) gD2 ks_law 5 (.sx (.st (.asg 8 (.call 23 [(.var 7),(.sub (.var 3) (.int 1))])))) (σT ns p L ⟨[],ln,[]⟩ (.d (dueD (lC ns) (dC ns))) (.d (ringsD (lC ns) (dC ns) p)) .emp .no .emp .emp .no .no .no) = some (.next,σT ns p L ⟨[],ln,[]⟩ (.d (dueD (lC ns) (dC ns))) (.d (ringsD (lC ns) (dC ns) p)) (.d (natsD (marksN p))) .no .emp .emp .no .no .no) :=
  txsx rfl (s_asg (ks:=ks_law) (i:=8) (e_call (l_two rfl (e_sub (x:=prD (lC ns) (dC ns)) (y:=.int 1) rfl rfl rfl)) (e23 hj H hp)) rfl)
 have h9:=Bool.and_eq_true_iff.mp (allcp c9 hs)
 have h8:=Bool.and_eq_true_iff.mp h9.1
 have m1:=of_decide_eq_true h8.2
 have m6:=of_decide_eq_true h9.2
 obtain ⟨k,hm⟩:∃ k,mostN (szOf p) = k + 1:=⟨mostN (szOf p) - 1,(Nat.sub_add_cancel m1).symm⟩
 have h9:=h8.1
 rw [hm] at m6 h9
 have a7:evTX (F2 L) gD2 ks_law 5 (.sx (.st (.asg 9 e9))) (σT ns p L ⟨[],ln,[]⟩ (.d (dueD (lC ns) (dC ns))) (.d (ringsD (lC ns) (dC ns) p)) (.d (natsD (marksN p))) .no .emp .emp .no .no .no) = some (.next,σT ns p L ⟨[],ln,[]⟩ (.d (dueD (lC ns) (dC ns))) (.d (ringsD (lC ns) (dC ns) p)) (.d (natsD (marksN p))) (.d (.int (k + 1:Nat))) .emp .emp .no .no .no) :=
  txsx rfl (s_asg (ks:=ks_law) (i:=9) (tr9.trans (okO_s h9)) rfl)
 have a8:evTX (F2 L) gD2 ks_law 5 (.sx (.st (.asg 10 (.call 24 [(.var 9)])))) (σT ns p L ⟨[],ln,[]⟩ (.d (dueD (lC ns) (dC ns))) (.d (ringsD (lC ns) (dC ns) p)) (.d (natsD (marksN p))) (.d (.int (k + 1:Nat))) .emp .emp .no .no .no) = some (.next,σT ns p L ⟨[],ln,[]⟩ (.d (dueD (lC ns) (dC ns))) (.d (ringsD (lC ns) (dC ns) p)) (.d (natsD (marksN p))) (.d (.int (k + 1:Nat))) (.d (namedD (k + 1))) .emp .no .no .no) :=
  txsx rfl (s_asg (ks:=ks_law) (i:=10) (e_call (l_one rfl) (okO_s (alln c24 (by omega +splitDisjunctions:k < 6)))) rfl)
 have ml:(marksN p).length = (ringsN p).length:=by unfold marksN; rw [List.length_map]
 have t1:evT gD2 (.cmp .NotEq (.call 0 [(.var 8)]) (.call 0 [(.var 7)])) (σT ns p L ⟨[],ln,[]⟩ (.d (dueD (lC ns) (dC ns))) (.d (ringsD (lC ns) (dC ns) p)) (.d (natsD (marksN p))) (.d (.int (k + 1:Nat))) (.d (namedD (k + 1))) .emp .no .no .no) = some false:=by
  have q1:gD2 0 [natsD (marksN p)] = some (.int ((ringsN p).length:Nat)):=(hlen (by rw [List.length_map]; omega +splitDisjunctions)).trans (by rw [List.length_map,ml])
  have q2:gD2 0 [ringsD (lC ns) (dC ns) p] = some (.int ((ringsN p).length:Nat)):=(hlen (by rw [List.length_map]; omega +splitDisjunctions)).trans (by rw [List.length_map])
  exact t_cmp (e_call (l_one rfl) q1) (e_call (l_one rfl) q2) (ne_self (okD.int _) (by omega +splitDisjunctions))
 have t2:evT gD2 (.cmp .NotEq (.call 0 [(.var 10)]) (.bin .Add (.var 9) (.int 1))) (σT ns p L ⟨[],ln,[]⟩ (.d (dueD (lC ns) (dC ns))) (.d (ringsD (lC ns) (dC ns) p)) (.d (natsD (marksN p))) (.d (.int (k + 1:Nat))) (.d (namedD (k + 1))) .emp .no .no .no) = some false:=by
  have q1:gD2 0 [namedD (k + 1)] = some (.int ((k + 1:Nat) + 1)):=(hlen (by rw [List.length_map,List.length_range]; omega +splitDisjunctions)).trans (by rw [List.length_map,List.length_range]; rfl)
  exact t_cmp (e_call (l_one rfl) q1) (e_bin rfl rfl rfl) (ne_self (okD.int _) (by omega +splitDisjunctions))
 have a9:evTX (F2 L) gD2 ks_law 5 (.guard [.t (.cmp .NotEq (.call 0 [(.var 8)]) (.call 0 [(.var 7)])),.t (.cmp .NotEq (.call 0 [(.var 10)]) (.bin .Add (.var 9) (.int 1)))]) (σT ns p L ⟨[],ln,[]⟩ (.d (dueD (lC ns) (dC ns))) (.d (ringsD (lC ns) (dC ns) p)) (.d (natsD (marksN p))) (.d (.int (k + 1:Nat))) (.d (namedD (k + 1))) .emp .no .no .no) = some (.next,σT ns p L ⟨[],ln,[]⟩ (.d (dueD (lC ns) (dC ns))) (.d (ringsD (lC ns) (dC ns) p)) (.d (natsD (marksN p))) (.d (.int (k + 1:Nat))) (.d (namedD (k + 1))) .emp .no .no .no) :=
  tx_guard ((gs_t t1).trans ((gs_t t2).trans rfl))
 have vw:evE gD2 (.bin .Add (.int 4) (.bin .Mod (.call 0 [(.var 0)]) (.int 5))) (σT ns p L ⟨[],ln,[]⟩ (.d (dueD (lC ns) (dC ns))) (.d (ringsD (lC ns) (dC ns) p)) (.d (natsD (marksN p))) (.d (.int (k + 1:Nat))) (.d (namedD (k + 1))) .emp .no .no .no) = some (.int (4 + wOf ns:Nat)):=by
  refine e_bin rfl (e_bin (e_call (l_one (x:=scD ns) rfl) (hlen (by rw [List.length_map]; omega +splitDisjunctions))) rfl (bin2_mod (by decide))) ?_
  rw [List.length_map,Int.fmod_eq_emod_of_nonneg _ (by decide)]
  rfl
 have a10:evTX (F2 L) gD2 ks_law 5 (.sx (.st (.asg 11 (.bin .Add (.int 4) (.bin .Mod (.call 0 [(.var 0)]) (.int 5)))))) (σT ns p L ⟨[],ln,[]⟩ (.d (dueD (lC ns) (dC ns))) (.d (ringsD (lC ns) (dC ns) p)) (.d (natsD (marksN p))) (.d (.int (k + 1:Nat))) (.d (namedD (k + 1))) .emp .no .no .no) = some (.next,σT ns p L ⟨[],ln,[]⟩ (.d (dueD (lC ns) (dC ns))) (.d (ringsD (lC ns) (dC ns) p)) (.d (natsD (marksN p))) (.d (.int (k + 1:Nat))) (.d (namedD (k + 1))) (.d (.int (4 + wOf ns:Nat))) .no .no .no):=txsx rfl (s_asg (ks:=ks_law) (i:=11) vw rfl)
 have hr2:∀ {cC cD cE:AV},evI gD2 (.r2 (.int 1) (.bin .Add (.var 9) (.int 1))) (σT ns p L ⟨[],ln,[]⟩ (.d (dueD (lC ns) (dC ns))) (.d (ringsD (lC ns) (dC ns) p)) (.d (natsD (marksN p))) (.d (.int (k + 1:Nat))) (.d (namedD (k + 1))) (.d (.int (4 + wOf ns:Nat))) cC cD cE) = some ((List.range (k + 1)).map fun i=>D.int ((i + 1:Nat):Int)):=fun {cC cD cE}=>i_r2 rfl (e_bin (x:=.int (k + 1:Nat)) rfl rfl rfl) (by omega +splitDisjunctions)
 have hP:=okO_s (alln cP2 hw)
 have v12:evE gD2 ePr (σT ns p L ⟨[],ln,[]⟩ (.d (dueD (lC ns) (dC ns))) (.d (ringsD (lC ns) (dC ns) p)) (.d (natsD (marksN p))) (.d (.int (k + 1:Nat))) (.d (namedD (k + 1))) (.d (.int (4 + wOf ns:Nat))) .no .no .no) = some (natsD ((List.range (k + 1)).map fun i=>prodN (szOf p) (i + 1) (bs8 (wOf ns)))):=by
  have h25:=alln (allcp c25 hs) hw
  rw [hm] at h25
  refine (comp_map (xs:=List.range (k + 1)) (f:=fun i=>.int ((i + 1:Nat):Int)) (h:=fun i=>.int (prodN (szOf p) (i + 1) (bs8 (wOf ns)):Nat)) hr2 rfl (by rw [List.length_range]; omega +splitDisjunctions) fun i hi=>⟨[.no,.d (.int ((i + 1:Nat):Int)),.no,.sd (namedD (k + 1)),.sd (natsD (szOf p)),.sd (.int (4 + wOf ns:Nat))],rfl,?_⟩).trans ?_
  ·exact e_call (l_cons (x:=natsD (szOf p)) rfl (l_cons (x:=namedD (k + 1)) rfl (l_two rfl (e_bin rfl rfl hP)))) (okO_s (alln h25 (List.mem_range.mp hi)))
  ·unfold natsD; rw [List.map_map]; rfl
 have a11:evTX (F2 L) gD2 ks_law 5 (.sx (.st (.asgC 12 ePr))) (σT ns p L ⟨[],ln,[]⟩ (.d (dueD (lC ns) (dC ns))) (.d (ringsD (lC ns) (dC ns) p)) (.d (natsD (marksN p))) (.d (.int (k + 1:Nat))) (.d (namedD (k + 1))) (.d (.int (4 + wOf ns:Nat))) .no .no .no) = some (.next,σT ns p L ⟨[],ln,[]⟩ (.d (dueD (lC ns) (dC ns))) (.d (ringsD (lC ns) (dC ns) p)) (.d (natsD (marksN p))) (.d (.int (k + 1:Nat))) (.d (namedD (k + 1))) (.d (.int (4 + wOf ns:Nat))) (.d (natsD ((List.range (k + 1)).map fun i=>prodN (szOf p) (i + 1) (bs8 (wOf ns))))) .no .no):=txsx rfl (s_asgC (ks:=ks_law) (i:=12) v12 rfl)
 have v13:∀ {cC:AV},evE gD2 eBa (σT ns p L ⟨[],ln,[]⟩ (.d (dueD (lC ns) (dC ns))) (.d (ringsD (lC ns) (dC ns) p)) (.d (natsD (marksN p))) (.d (.int (k + 1:Nat))) (.d (namedD (k + 1))) (.d (.int (4 + wOf ns:Nat))) cC .no .no) = some (natsD ((List.range (k + 1)).map fun i=>prodN (szOf p) (i + 1) (bs8 (wOf ns)))):=fun {cC}=>by
  have hb:=alln (cBack hp) hw
  rw [hm] at hb
  refine (comp_map (xs:=List.range (k + 1)) (f:=fun i=>.int ((i + 1:Nat):Int)) (h:=fun i=>.int (prodN (szOf p) (i + 1) (bs8 (wOf ns)):Nat)) hr2 rfl (by rw [List.length_range]; omega +splitDisjunctions) fun i hi=>⟨[.no,.d (.int ((i + 1:Nat):Int)),.no,.sd (natsD (marksN p)),.sd (ringsD (lC ns) (dC ns) p),.sd (.int (4 + wOf ns:Nat))],rfl,?_⟩).trans ?_
  ·refine e_call (l_cons (x:=ringsD (lC ns) (dC ns) p) rfl (l_cons (x:=natsD (marksN p)) rfl (l_two rfl (e_bin rfl rfl hP)))) ((e26 hp hw).trans ?_)
   rw [eq_of_beq (alln hb (List.mem_range.mp hi))]
  ·unfold natsD; rw [List.map_map]; rfl
 generalize hpl:(List.range (k + 1)).map (fun i=>prodN (szOf p) (i + 1) (bs8 (wOf ns))) = pl at a11 v13
 have a12:evTX (F2 L) gD2 ks_law 5 (.guard [.t (.cmp .NotEq (.var 12) eBa)]) (σT ns p L ⟨[],ln,[]⟩ (.d (dueD (lC ns) (dC ns))) (.d (ringsD (lC ns) (dC ns) p)) (.d (natsD (marksN p))) (.d (.int (k + 1:Nat))) (.d (namedD (k + 1))) (.d (.int (4 + wOf ns:Nat))) (.d (natsD pl)) .no .no) = some (.next,σT ns p L ⟨[],ln,[]⟩ (.d (dueD (lC ns) (dC ns))) (.d (ringsD (lC ns) (dC ns) p)) (.d (natsD (marksN p))) (.d (.int (k + 1:Nat))) (.d (namedD (k + 1))) (.d (.int (4 + wOf ns:Nat))) (.d (natsD pl)) .no .no) :=
  tx_guard ((gs_t (t_cmp (x:=natsD pl) rfl v13 (ne_self (okNats _) (by omega +splitDisjunctions)))).trans rfl)
 have a13:evTX (F2 L) gD2 ks_law 5 (.sx (.st (.asgC 13 e13))) (σT ns p L ⟨[],ln,[]⟩ (.d (dueD (lC ns) (dC ns))) (.d (ringsD (lC ns) (dC ns) p)) (.d (natsD (marksN p))) (.d (.int (k + 1:Nat))) (.d (namedD (k + 1))) (.d (.int (4 + wOf ns:Nat))) (.d (natsD pl)) .no .no) = some (.next,σT ns p L ⟨[],ln,[]⟩ (.d (dueD (lC ns) (dC ns))) (.d (ringsD (lC ns) (dC ns) p)) (.d (natsD (marksN p))) (.d (.int (k + 1:Nat))) (.d (namedD (k + 1))) (.d (.int (4 + wOf ns:Nat))) (.d (natsD pl)) (.d (natsD (cntN p))) .no) :=
  txsx rfl (s_asgC (ks:=ks_law) (i:=13) (tr13.trans (okO_s (c13 hp))) rfl)
 have hsum:pl.sum = totN (szOf p) (wOf ns):=by rw [<- hpl,totN,hm]
 have h14:=okO_s (alln (allcp c14 hs) hw)
 rw [hm] at h14
 have v14:evE gD2 (.call 14 [(.call 1 [(.var 12)]),(.var 9)]) (σT ns p L ⟨[],ln,[]⟩ (.d (dueD (lC ns) (dC ns))) (.d (ringsD (lC ns) (dC ns) p)) (.d (natsD (marksN p))) (.d (.int (k + 1:Nat))) (.d (namedD (k + 1))) (.d (.int (4 + wOf ns:Nat))) (.d (natsD pl)) (.d (natsD (cntN p))) .no) = some (.tup [.int (totN (szOf p) (wOf ns) / (k + 1):Nat),.int 0]):=by
  have q:=sum_nats (g:=gD2) (fun _=>rfl) pl
  rw [hsum] at q
  exact e_call (l_two (e_call (l_one rfl) q) rfl) h14
 have a14:evTX (F2 L) gD2 ks_law 5 (.sx (.st (.asg 14 (.call 14 [(.call 1 [(.var 12)]),(.var 9)])))) (σT ns p L ⟨[],ln,[]⟩ (.d (dueD (lC ns) (dC ns))) (.d (ringsD (lC ns) (dC ns) p)) (.d (natsD (marksN p))) (.d (.int (k + 1:Nat))) (.d (namedD (k + 1))) (.d (.int (4 + wOf ns:Nat))) (.d (natsD pl)) (.d (natsD (cntN p))) .no) = some (.next,σT ns p L ⟨[],ln,[]⟩ (.d (dueD (lC ns) (dC ns))) (.d (ringsD (lC ns) (dC ns) p)) (.d (natsD (marksN p))) (.d (.int (k + 1:Nat))) (.d (namedD (k + 1))) (.d (.int (4 + wOf ns:Nat))) (.d (natsD pl)) (.d (natsD (cntN p))) (.d (.tup [.int (totN (szOf p) (wOf ns) / (k + 1):Nat),.int 0]))):=txsx rfl (s_asg (ks:=ks_law) (i:=14) v14 rfl)
 have hf:=Bool.and_eq_true_iff.mp (alln (cFin hp) hw)
 have f1:=okO_s hf.1
 have f2:=okO_s hf.2
 rw [hm] at f1 f2
 have x1:evE gD2 (.cmp .Eq (.var 14) (.tup [(.call 12 [(.var 13),(.var 11)]),(.int 0)])) (frzAll (σT ns p L ⟨[],ln,[]⟩ (.d (dueD (lC ns) (dC ns))) (.d (ringsD (lC ns) (dC ns) p)) (.d (natsD (marksN p))) (.d (.int (k + 1:Nat))) (.d (namedD (k + 1))) (.d (.int (4 + wOf ns:Nat))) (.d (natsD pl)) (.d (natsD (cntN p))) (.d (.tup [.int (totN (szOf p) (wOf ns) / (k + 1):Nat),.int 0])))) = some (.bool true) :=
  e_cmp (x:=.tup [.int (totN (szOf p) (wOf ns) / (k + 1):Nat),.int 0]) rfl (e_tup (l_two (e_call (l_two (x:=natsD (cntN p)) (y:=.int (4 + wOf ns:Nat)) rfl rfl) f1) rfl) (show 2 <= 1000000 by decide)) (eq_self (n:=2) (okD.tup fun d hd=>by
   simp only [List.mem_cons,List.not_mem_nil,or_false] at hd
   rcases hd with rfl | rfl <;> exact okD.int _) (by omega +splitDisjunctions))
 have x2:evE gD2 (.cmp .Eq (.call 11 [(.sub (.var 14) (.int 0)),(.var 11)]) (.var 13)) (frzAll (σT ns p L ⟨[],ln,[]⟩ (.d (dueD (lC ns) (dC ns))) (.d (ringsD (lC ns) (dC ns) p)) (.d (natsD (marksN p))) (.d (.int (k + 1:Nat))) (.d (namedD (k + 1))) (.d (.int (4 + wOf ns:Nat))) (.d (natsD pl)) (.d (natsD (cntN p))) (.d (.tup [.int (totN (szOf p) (wOf ns) / (k + 1):Nat),.int 0])))) = some (.bool true) :=
  e_cmp (y:=natsD (cntN p)) (e_call (l_two (e_sub (x:=.tup [.int (totN (szOf p) (wOf ns) / (k + 1):Nat),.int 0]) (y:=.int 0) rfl rfl rfl) (y:=.int (4 + wOf ns:Nat)) rfl) f2) rfl (eq_self (okNats _) (by omega +splitDisjunctions))
 have a15:evTX (F2 L) gD2 ks_law 5 (.sx (.st (.ret (.and (.cmp .Eq (.var 14) (.tup [(.call 12 [(.var 13),(.var 11)]),(.int 0)])) (.cmp .Eq (.call 11 [(.sub (.var 14) (.int 0)),(.var 11)]) (.var 13)))))) (σT ns p L ⟨[],ln,[]⟩ (.d (dueD (lC ns) (dC ns))) (.d (ringsD (lC ns) (dC ns) p)) (.d (natsD (marksN p))) (.d (.int (k + 1:Nat))) (.d (namedD (k + 1))) (.d (.int (4 + wOf ns:Nat))) (.d (natsD pl)) (.d (natsD (cntN p))) (.d (.tup [.int (totN (szOf p) (wOf ns) / (k + 1):Nat),.int 0]))) = some (.ret (.bool true),frzAll (σT ns p L ⟨[],ln,[]⟩ (.d (dueD (lC ns) (dC ns))) (.d (ringsD (lC ns) (dC ns) p)) (.d (natsD (marksN p))) (.d (.int (k + 1:Nat))) (.d (namedD (k + 1))) (.d (.int (4 + wOf ns:Nat))) (.d (natsD pl)) (.d (natsD (cntN p))) (.d (.tup [.int (totN (szOf p) (wOf ns) / (k + 1):Nat),.int 0])))):=txsx rfl (s_ret (ks:=ks_law) (e_and x1 x2))
 exact ⟨_,(tb_next a1).trans ((tb_next a2).trans ((tb_next a3).trans ((tb_next a4).trans ((tb_next a5).trans ((tb_next a6).trans ((tb_next a7).trans ((tb_next a8).trans ((tb_next a9).trans ((tb_next a10).trans ((tb_next a11).trans ((tb_next a12).trans ((tb_next a13).trans ((tb_next a14).trans (tb_ret a15))))))))))))))⟩
theorem pure2 (ns:List Int) (hn:ns.length <= 63):Pure2 ns:=by
 obtain ⟨p,hp,h⟩:=e18 ns hn
 exact ⟨_,_,_,_,txOf ns,p1 h,p2 hp,p3,p4 hn,rfl,rfl,by show (flatW (psOf ns)).toArray.size <= _; rw [List.size_toArray]; have:=tx_len ns; omega +splitDisjunctions,tx_ok ns,fun L=>tx2 hn hp L⟩
end Mine
theorem fin03:PySem.Challenge.rw_sh0056_03.Holds:=t03 Mine.pure2
end
theorem PySem.Challenge.cw_sh0056_03_holds : PySem.Challenge.rw_sh0056_03.Holds :=
 fin03
