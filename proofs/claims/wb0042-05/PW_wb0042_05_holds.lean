import PyProof.Rows.All
import Wide.All
import OpenK.AllK
import Wide.FinOn
import KE.KSortTup
import Lean
import PySem.Challenge.RW_wb0042_05
set_option Elab.async false
set_option linter.all false
set_option bootstrap.genMatcherCode false
set_option compiler.extract_closed false
set_option genSizeOf false
set_option genInjectivity false
section
open Lean in
local macro_rules (kind := Lean.Parser.Command.declaration)
 | stx=>if stx.getPos?.isNone then Macro.throwUnsupported else return stx.rewriteBottomUp fun s=>s.setInfo .none
namespace Mine
universe u0 u1 u2 u3 u4 u5 u6
theorem ex0_2  {p0 p1:Prop} {G:Prop} (h:p0 /\ p1) (k:p0->p1->G):G:=k h.1 h.2
theorem ex0_3  {p0 p1 p2:Prop} {G:Prop} (h:p0 /\ p1 /\ p2) (k:p0->p1->p2->G):G:=k h.1 h.2.1 h.2.2
theorem ex0_4  {p0 p1 p2 p3:Prop} {G:Prop} (h:p0 /\ p1 /\ p2 /\ p3) (k:p0->p1->p2->p3->G):G:=k h.1 h.2.1 h.2.2.1 h.2.2.2
theorem ex1_1 {α:Sort u0} {p0:α->Prop} {G:Prop} (h:∃ x0,p0 x0) (k:∀ x0,p0 x0->G):G:=h.elim fun x0 q=>k x0 q
theorem ex1_2 {α:Sort u0} {p0 p1:α->Prop} {G:Prop} (h:∃ x0,p0 x0 /\ p1 x0) (k:∀ x0,p0 x0->p1 x0->G):G:=h.elim fun x0 q=>k x0 q.1 q.2
theorem ex1_3 {α:Sort u0} {p0 p1 p2:α->Prop} {G:Prop} (h:∃ x0,p0 x0 /\ p1 x0 /\ p2 x0) (k:∀ x0,p0 x0->p1 x0->p2 x0->G):G:=h.elim fun x0 q=>k x0 q.1 q.2.1 q.2.2
theorem ex1_4 {α:Sort u0} {p0 p1 p2 p3:α->Prop} {G:Prop} (h:∃ x0,p0 x0 /\ p1 x0 /\ p2 x0 /\ p3 x0) (k:∀ x0,p0 x0->p1 x0->p2 x0->p3 x0->G):G:=h.elim fun x0 q=>k x0 q.1 q.2.1 q.2.2.1 q.2.2.2
theorem ex1_5 {α:Sort u0} {p0 p1 p2 p3 p4:α->Prop} {G:Prop} (h:∃ x0,p0 x0 /\ p1 x0 /\ p2 x0 /\ p3 x0 /\ p4 x0) (k:∀ x0,p0 x0->p1 x0->p2 x0->p3 x0->p4 x0->G):G:=h.elim fun x0 q=>k x0 q.1 q.2.1 q.2.2.1 q.2.2.2.1 q.2.2.2.2
theorem ex2_1 {α:Sort u0} {β:Sort u1} {p0:α->β->Prop} {G:Prop} (h:∃ x0 x1,p0 x0 x1) (k:∀ x0 x1,p0 x0 x1->G):G:=h.elim fun x0 e1=>e1.elim fun x1 q=>k x0 x1 q
theorem ex2_2 {α:Sort u0} {β:Sort u1} {p0 p1:α->β->Prop} {G:Prop} (h:∃ x0 x1,p0 x0 x1 /\ p1 x0 x1) (k:∀ x0 x1,p0 x0 x1->p1 x0 x1->G):G:=h.elim fun x0 e1=>e1.elim fun x1 q=>k x0 x1 q.1 q.2
theorem ex2_3 {α:Sort u0} {β:Sort u1} {p0 p1 p2:α->β->Prop} {G:Prop} (h:∃ x0 x1,p0 x0 x1 /\ p1 x0 x1 /\ p2 x0 x1) (k:∀ x0 x1,p0 x0 x1->p1 x0 x1->p2 x0 x1->G):G:=h.elim fun x0 e1=>e1.elim fun x1 q=>k x0 x1 q.1 q.2.1 q.2.2
theorem ex2_4 {α:Sort u0} {β:Sort u1} {p0 p1 p2 p3:α->β->Prop} {G:Prop} (h:∃ x0 x1,p0 x0 x1 /\ p1 x0 x1 /\ p2 x0 x1 /\ p3 x0 x1) (k:∀ x0 x1,p0 x0 x1->p1 x0 x1->p2 x0 x1->p3 x0 x1->G):G:=h.elim fun x0 e1=>e1.elim fun x1 q=>k x0 x1 q.1 q.2.1 q.2.2.1 q.2.2.2
theorem ex2_5 {α:Sort u0} {β:Sort u1} {p0 p1 p2 p3 p4:α->β->Prop} {G:Prop} (h:∃ x0 x1,p0 x0 x1 /\ p1 x0 x1 /\ p2 x0 x1 /\ p3 x0 x1 /\ p4 x0 x1) (k:∀ x0 x1,p0 x0 x1->p1 x0 x1->p2 x0 x1->p3 x0 x1->p4 x0 x1->G):G:=h.elim fun x0 e1=>e1.elim fun x1 q=>k x0 x1 q.1 q.2.1 q.2.2.1 q.2.2.2.1 q.2.2.2.2
theorem ex2_6 {α:Sort u0} {β:Sort u1} {p0 p1 p2 p3 p4 p5:α->β->Prop} {G:Prop} (h:∃ x0 x1,p0 x0 x1 /\ p1 x0 x1 /\ p2 x0 x1 /\ p3 x0 x1 /\ p4 x0 x1 /\ p5 x0 x1) (k:∀ x0 x1,p0 x0 x1->p1 x0 x1->p2 x0 x1->p3 x0 x1->p4 x0 x1->p5 x0 x1->G):G:=h.elim fun x0 e1=>e1.elim fun x1 q=>k x0 x1 q.1 q.2.1 q.2.2.1 q.2.2.2.1 q.2.2.2.2.1 q.2.2.2.2.2
theorem ex3_1 {α:Sort u0} {β:Sort u1} {γ:Sort u2} {p0:α->β->γ->Prop} {G:Prop} (h:∃ x0 x1 x2,p0 x0 x1 x2) (k:∀ x0 x1 x2,p0 x0 x1 x2->G):G:=h.elim fun x0 e1=>e1.elim fun x1 e2=>e2.elim fun x2 q=>k x0 x1 x2 q
theorem ex3_2 {α:Sort u0} {β:Sort u1} {γ:Sort u2} {p0 p1:α->β->γ->Prop} {G:Prop} (h:∃ x0 x1 x2,p0 x0 x1 x2 /\ p1 x0 x1 x2) (k:∀ x0 x1 x2,p0 x0 x1 x2->p1 x0 x1 x2->G):G:=h.elim fun x0 e1=>e1.elim fun x1 e2=>e2.elim fun x2 q=>k x0 x1 x2 q.1 q.2
theorem ex3_3 {α:Sort u0} {β:Sort u1} {γ:Sort u2} {p0 p1 p2:α->β->γ->Prop} {G:Prop} (h:∃ x0 x1 x2,p0 x0 x1 x2 /\ p1 x0 x1 x2 /\ p2 x0 x1 x2) (k:∀ x0 x1 x2,p0 x0 x1 x2->p1 x0 x1 x2->p2 x0 x1 x2->G):G:=h.elim fun x0 e1=>e1.elim fun x1 e2=>e2.elim fun x2 q=>k x0 x1 x2 q.1 q.2.1 q.2.2
theorem ex3_4 {α:Sort u0} {β:Sort u1} {γ:Sort u2} {p0 p1 p2 p3:α->β->γ->Prop} {G:Prop} (h:∃ x0 x1 x2,p0 x0 x1 x2 /\ p1 x0 x1 x2 /\ p2 x0 x1 x2 /\ p3 x0 x1 x2) (k:∀ x0 x1 x2,p0 x0 x1 x2->p1 x0 x1 x2->p2 x0 x1 x2->p3 x0 x1 x2->G):G:=h.elim fun x0 e1=>e1.elim fun x1 e2=>e2.elim fun x2 q=>k x0 x1 x2 q.1 q.2.1 q.2.2.1 q.2.2.2
theorem ex3_5 {α:Sort u0} {β:Sort u1} {γ:Sort u2} {p0 p1 p2 p3 p4:α->β->γ->Prop} {G:Prop} (h:∃ x0 x1 x2,p0 x0 x1 x2 /\ p1 x0 x1 x2 /\ p2 x0 x1 x2 /\ p3 x0 x1 x2 /\ p4 x0 x1 x2) (k:∀ x0 x1 x2,p0 x0 x1 x2->p1 x0 x1 x2->p2 x0 x1 x2->p3 x0 x1 x2->p4 x0 x1 x2->G):G:=h.elim fun x0 e1=>e1.elim fun x1 e2=>e2.elim fun x2 q=>k x0 x1 x2 q.1 q.2.1 q.2.2.1 q.2.2.2.1 q.2.2.2.2
theorem ex4_1 {α:Sort u0} {β:Sort u1} {γ:Sort u2} {δ:Sort u3} {p0:α->β->γ->δ->Prop} {G:Prop} (h:∃ x0 x1 x2 x3,p0 x0 x1 x2 x3) (k:∀ x0 x1 x2 x3,p0 x0 x1 x2 x3->G):G:=h.elim fun x0 e1=>e1.elim fun x1 e2=>e2.elim fun x2 e3=>e3.elim fun x3 q=>k x0 x1 x2 x3 q
theorem ex4_2 {α:Sort u0} {β:Sort u1} {γ:Sort u2} {δ:Sort u3} {p0 p1:α->β->γ->δ->Prop} {G:Prop} (h:∃ x0 x1 x2 x3,p0 x0 x1 x2 x3 /\ p1 x0 x1 x2 x3) (k:∀ x0 x1 x2 x3,p0 x0 x1 x2 x3->p1 x0 x1 x2 x3->G):G:=h.elim fun x0 e1=>e1.elim fun x1 e2=>e2.elim fun x2 e3=>e3.elim fun x3 q=>k x0 x1 x2 x3 q.1 q.2
theorem ex4_3 {α:Sort u0} {β:Sort u1} {γ:Sort u2} {δ:Sort u3} {p0 p1 p2:α->β->γ->δ->Prop} {G:Prop} (h:∃ x0 x1 x2 x3,p0 x0 x1 x2 x3 /\ p1 x0 x1 x2 x3 /\ p2 x0 x1 x2 x3) (k:∀ x0 x1 x2 x3,p0 x0 x1 x2 x3->p1 x0 x1 x2 x3->p2 x0 x1 x2 x3->G):G:=h.elim fun x0 e1=>e1.elim fun x1 e2=>e2.elim fun x2 e3=>e3.elim fun x3 q=>k x0 x1 x2 x3 q.1 q.2.1 q.2.2
theorem ex4_4 {α:Sort u0} {β:Sort u1} {γ:Sort u2} {δ:Sort u3} {p0 p1 p2 p3:α->β->γ->δ->Prop} {G:Prop} (h:∃ x0 x1 x2 x3,p0 x0 x1 x2 x3 /\ p1 x0 x1 x2 x3 /\ p2 x0 x1 x2 x3 /\ p3 x0 x1 x2 x3) (k:∀ x0 x1 x2 x3,p0 x0 x1 x2 x3->p1 x0 x1 x2 x3->p2 x0 x1 x2 x3->p3 x0 x1 x2 x3->G):G:=h.elim fun x0 e1=>e1.elim fun x1 e2=>e2.elim fun x2 e3=>e3.elim fun x3 q=>k x0 x1 x2 x3 q.1 q.2.1 q.2.2.1 q.2.2.2
theorem ex4_5 {α:Sort u0} {β:Sort u1} {γ:Sort u2} {δ:Sort u3} {p0 p1 p2 p3 p4:α->β->γ->δ->Prop} {G:Prop} (h:∃ x0 x1 x2 x3,p0 x0 x1 x2 x3 /\ p1 x0 x1 x2 x3 /\ p2 x0 x1 x2 x3 /\ p3 x0 x1 x2 x3 /\ p4 x0 x1 x2 x3) (k:∀ x0 x1 x2 x3,p0 x0 x1 x2 x3->p1 x0 x1 x2 x3->p2 x0 x1 x2 x3->p3 x0 x1 x2 x3->p4 x0 x1 x2 x3->G):G:=h.elim fun x0 e1=>e1.elim fun x1 e2=>e2.elim fun x2 e3=>e3.elim fun x3 q=>k x0 x1 x2 x3 q.1 q.2.1 q.2.2.1 q.2.2.2.1 q.2.2.2.2
end Mine
namespace Mine
@[elab_as_elim] theorem rwl {α:Sort u} {a b:α} {p:α->Prop} (h:a = b) (x:p b):p a:=h ▸ x
@[elab_as_elim] theorem rwr {α:Sort u} {a b:α} {p:α->Prop} (h:a = b) (x:p a):p b:=h ▸ x
theorem cs_none {α:Type u} {x:α} {G:Prop} (h:none = some x):G:=nomatch h
theorem cs_some {α:Type u} {x:α} {G:Prop} (h:some x = none):G:=nomatch h
theorem cs_ft {G:Prop} (h:false = true):G:=nomatch h
theorem cs_tf {G:Prop} (h:true = false):G:=nomatch h
theorem cs_nil {α:Type u} {x:α} {l:List α} {G:Prop} (h : [] = x :: l):G:=nomatch h
theorem cs_cons {α:Type u} {x:α} {l:List α} {G:Prop} (h:x :: l = []):G:=nomatch h
theorem cs_pair {α:Type u} {β:Type v} {a c:α} {b d:β} {G:Prop} (h:some (a,b) = some (c,d)) (k:a = c->b = d->G):G:=k (congrArg Prod.fst (Option.some.inj h)) (congrArg Prod.snd (Option.some.inj h))
theorem cs_list {α:Type u} {a b:α} {l m:List α} {G:Prop} (h:a :: l = b :: m) (k:a = b->l = m->G):G:=k (List.cons.inj h).1 (List.cons.inj h).2
theorem cs_prod {α:Type u} {β:Type v} {a c:α} {b d:β} {G:Prop} (h:(a,b) = (c,d)) (k:a = c->b = d->G):G:=k (congrArg Prod.fst h) (congrArg Prod.snd h)
theorem cs_triv {α:Sort u} {a:α} {G:Prop} (h:a = a) (k:G):G:=k
end Mine
open Lean in
local macro_rules
 | `(tactic| obtain ⟨$ps,*⟩ := $e:term) => do
  let mut x0:Option (Array (TSyntax `ident)):=none
  let mut xs:Array (TSyntax `ident):=#[]
  let mut ts:Array (TSyntax `tactic):=#[]
  let n:=ps.getElems.size
  for p in ps.getElems do
   let q:=p.raw[0][0]
   if p.raw[1].getNumArgs != 0 || q.getNumArgs != 1 then Macro.throwUnsupported
   if q[0].getNumArgs == 1 && !(q[0][0].isIdent && q[0][0].getId == `rfl) then xs:=xs.push (if q[0][0].isIdent then ⟨q[0][0]⟩ else mkIdent `u_)
   else
    let x:=mkIdent (<- Macro.addMacroScope (.mkSimple s!"z{ts.size}"))
    xs:=xs.push x
    if x0.isNone then x0:=some xs else
     let ys:=xs
     ts := ts.push (<- `(tactic| intro $ys:ident*))
    xs:=#[]
    if q[0].getNumArgs == 1 then ts := ts.push (<- `(tactic| first | subst $x | cases $x:ident))
    else if q[0].getKind == ``Lean.Parser.Tactic.rcasesPat.tuple then ts := ts.push (<- `(tactic| obtain $(⟨p.raw[0]⟩):rcasesPatMed := $x))
    else Macro.throwUnsupported
  if n < 2 || 9 < n then Macro.throwUnsupported
  let ys:=x0.getD xs
  if x0.isSome && 0 < xs.size then ts := ts.push (<- `(tactic| intro $xs:ident*))
  let us <- ((List.range n).filter fun i=>n - 1 - i <= 6 && i + 1 <= 7).toArray.mapM fun i=>
   let f:=mkIdent (.mkStr `Mine ("ex" ++ toString (n - 1 - i) ++ "_" ++ toString (i + 1)))
   if e.raw.isIdent then `(tacticSeq| refine $f $e (clear% $(⟨e.raw⟩); fun $ys* => ?_)) else `(tacticSeq| refine $f $e fun $ys* => ?_)
  `(tactic| ((first $[| $us]* | fail); $[$ts];*))
 | `(tactic| rw [$rs,*]) => do
  let ts <- rs.getElems.mapM fun r=>do
   let e:Term:=⟨r.raw[1]⟩
   let f:=mkIdent (if r.raw[0].getNumArgs == 0 then `Mine.rwl else `Mine.rwr)
   `(tactic| first | (with_reducible_and_instances first | refine $f $e ?_ | refine $f ($e ..) ?_) | rewrite [$r])
  `(tactic| (($[$ts];*); try with_reducible rfl))
 | `(tactic| cases $x:ident with $alts:inductionAlt*) => do
  let ts <- #[`List.casesOn, `Option.casesOn, `Nat.casesOn, `Bool.casesOn, `Mine.V.casesOn, `Mine.AObj.casesOn, `PySem.Expr.casesOn, `Mine.ME.casesOn, `PySem.Value.casesOn, `Mine.LE.casesOn, `Mine.MPat.casesOn, `PySem.Data.casesOn, `PySem.UnaryOp.casesOn].mapM fun n => `(tacticSeq| induction $x:ident using $(mkIdent n):ident with $alts:inductionAlt*)
  `(tactic| first $[| $ts]* | fail)
 | `(tactic| cases $h:ident : $e:term with $alts:inductionAlt*) => do
  let z:=mkIdent (<- Macro.addMacroScope `z)
  let ts <- #[`List.casesOn, `Option.casesOn, `Nat.casesOn, `Bool.casesOn, `Mine.V.casesOn].mapM fun n => `(tacticSeq| (generalize $h:ident : $e = $z; induction $z:ident using $(mkIdent n):ident with $alts:inductionAlt*))
  `(tactic| first $[| $ts]* | fail)
 | `(tactic| cases $h:ident) => do
  let p:=mkIdent (h.getId.appendAfter "p")
  let q:=mkIdent (h.getId.appendAfter "q")
  let t1 <- #[`Mine.cs_none, `Mine.cs_some, `Mine.cs_ft, `Mine.cs_tf, `Mine.cs_nil, `Mine.cs_cons].mapM fun n => `(tacticSeq| exact $(mkIdent n) $h)
  let t2 <- #[`Mine.cs_pair, `Mine.cs_list, `Mine.cs_prod].mapM fun n => `(tacticSeq| (refine $(mkIdent n) $h fun $p $q => ?_; clear $h; cases $p:ident; cases $q:ident))
  let t3 <- `(tacticSeq| first | (have $q := Option.some.inj $h; clear $h; cases $q:ident) | subst $h | (refine Mine.cs_triv $h ?_; clear $h) | (injection $h; done) | (injection $h with $p $q; cases $p:ident; cases $q:ident) | (injection $h with $q; cases $q:ident))
  let ts:=(t1 ++ t2).push t3
  `(tactic| first $[| $ts]* | fail)
open PySem PySem.W PyProof.Rows
set_option Elab.async false
set_option autoImplicit true
namespace Mine
section
set_option maxRecDepth 100000
noncomputable def O1 {α:Type} (n:Nat) (lt:Nat->Nat->Bool):KasT α->Option α
 | .ret a=>some a
 | .ask i j k=>if i < n /\ j < n then O1 n lt (k (lt i j)) else none
theorem W6 {α:Type} {cmp:Nat->Nat->(Bool->Shared->Prop)->Shared->Prop} {n:Nat} {lt:Nat->Nat->Bool} {s:Shared} {Q:α->Shared->Prop} (h:∀ i j C,i < n->j < n->C (lt i j) s->cmp i j C s) :
  ∀ (t:KasT α) (r:α),O1 n lt t = some r->Q r s->t.kasWp cmp Q s
 | .ret _,r,e,hq=>by cases e; exact hq
 | .ask i j k,r,e,hq=>by
  have e:(if i < n /\ j < n then O1 n lt (k (lt i j)) else none) = some r:=e
  by_cases q:i < n /\ j < n
  ·rw [if_pos q] at e
   exact h i j _ q.1 q.2 (W6 h (k (lt i j)) r e hq)
  ·rw [if_neg q] at e; cases e
noncomputable def ltP (p q:Int × Int):Bool:=if p.1 == q.1 then (if p.2 == q.2 then false else decide (p.2 < q.2)) else decide (p.1 < q.1)
noncomputable def a4b (ps:List (Int × Int)) (n:Nat):Option (Array Nat):=if 2 <= n then O1 n (fun i j=>ltP (ps.getD i (0,0)) (ps.getD j (0,0))) (kas_sort n) else some (List.range n).toArray
theorem a5f {vs:List Value}:(List.range vs.length).toArray.toList.map (fun i=>vs.getD i Value.none) = vs:=by
 refine List.ext_getElem (by simp) fun i h1 h2=>?_
 simp [h2]
theorem b6m (vs ks:List Value) (h:ks.length = vs.length):(ks.toArray.zip vs.toArray).map (·.2) = vs.toArray:=by
 refine Array.ext (by simp [h]) fun i h1 h2=>?_
 simp
noncomputable def PairAt (h:Heap) (v:Value) (p:Int × Int):Prop:=∃ a n t u,v = .ref a /\ h.get? a = some { cls:=.type "tuple",dict:=none,data:=.seq #[.int p.1 t,.int p.2 u] n,slots:=#[] }
section
variable {prog:Program} {w:World} {A:Around} {E:Value->Shared->Prop} {s:Shared}
theorem b6n {x y:Value} {p q:Int × Int} (hx:PairAt s.heap x p) (hy:PairAt s.heap y q) {C:Bool->Shared->Prop} (h:C (ltP p q) s) :
  wpAny (model prog w) A (keyLt' (tuples' true) x y) C (fun u_ u_=>False) s:=by
 obtain ⟨a,n,t,u,rfl,ha⟩:=hx
 obtain ⟨b,m,t',u',rfl,hb⟩:=hy
 refine kat_lt ha rfl hb rfl ?_
 refine kat_cons (wpAny_eqBool_int ?_)
 unfold ltP at h
 cases e:p.1 == q.1 with
 | false=>
  rw [e] at h
  exact kat_no (oneLt_int h)
 | true=>
  rw [e] at h
  refine kat_yes (kat_cons (wpAny_eqBool_int ?_))
  cases e2:p.2 == q.2 with
  | true=>
   rw [e2] at h
   exact kat_yes (kat_nil h)
  | false=>
   rw [e2] at h
   refine kat_no (kat_one _ _ ?_)
   exact PyProof.Rows.lt_int h
theorem PairAt.at {h h':Heap} {v:Value} {p:Int × Int} (x:PairAt h v p) (k:∀ a,v = .ref a->∀ o,h.get? a = some o->h'.get? a = some o):PairAt h' v p:=by
 obtain ⟨a,n,t,u,rfl,ha⟩:=x
 exact ⟨a,n,t,u,rfl,k a rfl _ ha⟩
theorem a0g {h:Heap}:∀ (vs:List Value) (ps:List (Int × Int)),ps.length = vs.length->(∀ (i:Nat) (v:Value) (p:Int × Int),vs[i]? = some v->ps[i]? = some p->PairAt h v p)->
  ∃ fs,KatTups h vs fs /\ fs.length = vs.length /\ ∀ v ∈ fs,∃ n t,v = Value.int n t
 | [],_,_,_=>⟨[],KatTups.nil,rfl,fun u_ m=>(nomatch m)⟩
 | v :: vs,[],hl,_=>by simp at hl
 | v :: vs,p :: ps,hl,hp=>by
  obtain ⟨fs,h1,h2,h3⟩:=a0g vs ps (by simpa using hl) fun i v' p' e e'=>hp (i + 1) v' p' (by simpa using e) (by simpa using e')
  obtain ⟨a,n,t,u,rfl,ha⟩:=hp 0 v p rfl rfl
  refine ⟨.int p.1 t :: fs,KatTups.cons ha rfl rfl rfl h1,by simp [h2],fun v' m=>?_⟩
  rcases List.mem_cons.mp m with q | q
  ·exact ⟨_,_,q⟩
  ·exact h3 v' q
noncomputable abbrev c2h (vs:List Value) (r:Array Nat):List Value:=r.toList.map fun i=>vs.getD i Value.none
theorem T6 {a n:Nat} {vs:List Value} {ps:List (Int × Int)} {r:Array Nat} {P:PySem.Fin->Shared->Prop} (ho:s.heap.get? a = some (seqObj "list" vs.toArray n)) (h64:vs.length < 64) (hlen:ps.length = vs.length)
  (hp:∀ (i:Nat) (v:Value) (p:Int × Int),vs[i]? = some v->ps[i]? = some p->PairAt s.heap v p) (hr:a4b ps vs.length = some r)
  (h:∀ h',(∀ b o,b ≠ a->s.heap.get? b = some o->h'.get? b = some o)->(∃ c,h'.get? a = some (seqObj "list" (c2h vs r).toArray c))->P (.done (.ret .none)) { s with heap:=h' }) :
  wpAny (model prog w) A (Builtin.«list.sort» ⟨[.ref a],[]⟩) P E s:=by
 have ha:a < s.heap.objs.size:=Heap.lt_size ho
 have s1:=Heap.SameBut.update s.heap a (Obj.mapSeq fun u_=>(#[]:Array Value))
 obtain ⟨e1,ho1⟩ : ∃ e1,(s.heap.update a (Obj.mapSeq fun u_=>(#[]:Array Value))).get? a = some (seqObj "list" #[] e1):=⟨_,get?_update_seq ho fun u_=>#[]⟩
 generalize hH3:((s.heap.update a (Obj.mapSeq fun u_=>(#[]:Array Value))).push (seqObj "tuple" vs.toArray 0)).push (seqObj "list" #[] 0) = H3
 have ho3:H3.get? a = some (seqObj "list" #[] e1):=by rw [<- hH3]; exact Heap.get?_push_of_some _ (Heap.get?_push_of_some _ ho1)
 have k3:∀ b o,b ≠ a->s.heap.get? b = some o->H3.get? b = some o:=fun b o q e=>by
  rw [<- hH3]; exact Heap.get?_push_of_some _ (Heap.get?_push_of_some _ ((s1.2 b q).trans e))
 have hp3:∀ (i:Nat) (v:Value) (p:Int × Int),vs[i]? = some v->ps[i]? = some p->PairAt H3 v p:=fun i v p e e'=>by
  refine (hp i v p e e').at fun b hb o q=>k3 b o (fun w=>?_) q
  obtain ⟨a',n',t,u,hv,ha'⟩:=hp i v p e e'
  rw [hb] at hv
  cases hv
  rw [w,ho] at ha'
  simp [seqObj] at ha'
 rw [list_sort_plain]
 refine wpAny_bind (listItems_at ho rfl ?_)
 refine wpAny_bind (listUpdate_at ho rfl ?_ (by rw [List.size_toArray,sizeLine_eq]; lia) (Nat.zero_le _))
 refine wpAny_bind (seqEpoch_at ho1 rfl ?_)
 refine wpAny_bind (wpAny_newTuple ?_ (by show vs.length <= _; rw [sizeLine_eq]; lia))
 refine wpAny_bind (wpAny_newList ?_ (Nat.zero_le _))
 refine wpAny_holding ?_
 show wpAny (model prog w) A _ P E { s with heap:=((s.heap.update a (Obj.mapSeq fun u_=>(#[]:Array Value))).push (seqObj "tuple" vs.toArray 0)).push (seqObj "list" #[] 0) }
 rw [hH3]
 dsimp only
 by_cases h2:2 <= vs.length
 case neg=>
  rw [a4b,if_neg h2] at hr
  cases hr
  have hn2:vs.toArray.size < 2:=by rw [List.size_toArray]; lia
  rw [if_pos hn2,if_pos hn2]
  refine wpAny_bind (wpAny_pure ?_)
  rw [StateT.run_pure]
  refine wpAny_bind (wpAny_pure ?_)
  dsimp only
  rw [show (arrOf (SortSt.mk' general' (vs.toArray.zip vs.toArray) #[] 7 none)).map (·.2) = vs.toArray from b6m vs vs rfl]
  have s2:=Heap.SameBut.update H3 a (Obj.mapSeq fun u_=>vs.toArray)
  obtain ⟨c2,hc2⟩ : ∃ c2,(H3.update a (Obj.mapSeq fun u_=>vs.toArray)).get? a = some (seqObj "list" vs.toArray c2):=⟨_,get?_update_seq ho3 fun u_=>vs.toArray⟩
  refine wpAny_bind (seqEpoch_at (s:={ s with heap:=H3 }) ho3 rfl ?_)
  refine wpAny_bind (listUpdate_at (s:={ s with heap:=H3 }) ho3 rfl ?_ (Nat.zero_le _) (by rw [List.size_toArray,sizeLine_eq]; lia))
  simp only [bne_self_eq_false,Bool.false_eq_true,if_false]
  exact wpAny_pure (h _ (fun b o q e=>(s2.2 b q).trans (k3 b o q e)) ⟨c2,by rw [hc2]; unfold c2h; rw [a5f]⟩)
 rw [a4b,if_pos h2] at hr
 have hn2:¬ vs.toArray.size < 2:=by rw [List.size_toArray]; lia
 rw [if_neg hn2,if_neg hn2]
 obtain ⟨fs,f1,f2,f3⟩:=a0g vs ps hlen hp3
 refine wpAny_bind (kat_kind (s:={ s with heap:=H3 }) (T:=.type "int") f1 (by lia) (fun v mv=>by obtain ⟨n,t,rfl⟩:=f3 v mv; exact Looks.of_pure rfl) rfl ?_)
 have hask:(kas_sort vs.length).kasWp (kas_ask prog w A (tuples' (Value.type "int" != Value.type "tuple")) vs) (fun p s'=>p = r /\ s' = { s with heap:=H3 }) { s with heap:=H3 }:=by
  refine W6 (n:=vs.length) (fun i j C hi hj hC=>?_) _ r hr ⟨rfl,rfl⟩
  unfold kas_ask
  have ei:vs[i]? = some vs[i]:=List.getElem?_eq_getElem hi
  have ej:vs[j]? = some vs[j]:=List.getElem?_eq_getElem hj
  have pi:ps[i]? = some (ps.getD i (0,0)):=by rw [List.getD_eq_getElem?_getD,List.getElem?_eq_getElem (by lia)]; rfl
  have pj:ps[j]? = some (ps.getD j (0,0)):=by rw [List.getD_eq_getElem?_getD,List.getElem?_eq_getElem (by lia)]; rfl
  rw [List.getD_eq_getElem?_getD,List.getD_eq_getElem?_getD,ei,ej]
  exact b6n (s:={ s with heap:=H3 }) (hp3 i _ _ ei pi) (hp3 j _ _ ej pj) hC
 refine wpAny_bind (wpAny_mono (kat_run (Q:=fun st' s'=>∃ p:Array Nat,p.size = vs.length /\ arrOf st' = p.map (kas_item (vs.toArray.zip vs.toArray)) /\ failedOf st' = none /\ p = r /\ s' = { s with heap:=H3 })
  rfl h2 h64 (fun p' st' s' a1 a2 a3 a4=>⟨p',a1,a2,a3,a4.1,a4.2⟩) hask) ?_ fun u_ u_ e=>e)
 rintro ⟨⟨⟩,st'⟩ s' ⟨p,hpz,har,hf,rfl,rfl⟩
 dsimp only
 have hout:=kat_snds rfl har
 have hsz:(List.toArray (p.toList.map fun i=>vs.getD i Value.none)).size = vs.length:=by rw [List.size_toArray,List.length_map,Array.length_toList,hpz]
 rw [hout]
 have s2:=Heap.SameBut.update H3 a (Obj.mapSeq fun u_=>List.toArray (p.toList.map fun i=>vs.getD i Value.none))
 obtain ⟨c2,hc2⟩ : ∃ c2,(H3.update a (Obj.mapSeq fun u_=>List.toArray (p.toList.map fun i=>vs.getD i Value.none))).get? a = some (seqObj "list" (List.toArray (p.toList.map fun i=>vs.getD i Value.none)) c2):=⟨_,get?_update_seq ho3 fun u_=>List.toArray (p.toList.map fun i=>vs.getD i Value.none)⟩
 refine wpAny_bind (seqEpoch_at (s:={ s with heap:=H3 }) ho3 rfl ?_)
 refine wpAny_bind (listUpdate_at (s:={ s with heap:=H3 }) ho3 rfl ?_ (Nat.zero_le _) (Nat.le_trans (Nat.le_of_eq hsz) (by rw [sizeLine_eq]; lia)))
 rw [hf]
 simp only [bne_self_eq_false,Bool.false_eq_true,if_false]
 exact wpAny_pure (h _ (fun b o q e=>(s2.2 b q).trans (k3 b o q e)) ⟨c2,hc2⟩)
theorem a3g {l:Addr} {vs:List Value} {ps:List (Int × Int)} {r:Array Nat} {Q:Value->Shared->Prop} (hl:s.heap.IsList l vs.toArray) (h64:vs.length < 64) (hlen:ps.length = vs.length)
  (hp:∀ (i:Nat) (v:Value) (p:Int × Int),vs[i]? = some v->ps[i]? = some p->PairAt s.heap v p) (hr:a4b ps vs.length = some r)
  (h:∀ h',(∀ b o,s.heap.get? b = some o->h'.get? b = some o)->(∃ c,h'.get? (s.heap.objs.size + 1) = some (seqObj "list" (c2h vs r).toArray c))->Q (.ref (s.heap.objs.size + 1)) { s with heap:=h' }) :
  wpAny (model prog w) A (call (.builtin "sorted") [.ref l]) Q E s:=by
 refine Calls.call_function_entry kind_sorted plain_sorted entry_sorted (args_sorted1 _) ?_
 unfold Builtin.«sorted»
 refine wpAny_bind (m:=checkCount "sorted" 1 1 _) (wpAny_pure ?_)
 refine wpAny_bind (collect_list hl ?_ (by rw [sizeLine_eq]; lia))
 refine wpAny_bind (wpAny_newList ?_ (by rw [sizeLine_eq]; lia))
 have hsz:((s.heap.push (seqObj "list" #[] 0)).update s.heap.objs.size (Obj.mapSeq (· ++ vs.toArray))).objs.size = s.heap.objs.size + 1:=by
  rw [Heap.size_update,size_push']
 have hoL:(((s.heap.push (seqObj "list" #[] 0)).update s.heap.objs.size (Obj.mapSeq (· ++ vs.toArray))).push (seqObj "list" vs.toArray 0)).get? (s.heap.objs.size + 1) = some (seqObj "list" vs.toArray 0):=by
  rw [<- hsz]; exact Heap.get?_push_size _ rfl
 have keep:∀ b o,s.heap.get? b = some o->(((s.heap.push (seqObj "list" #[] 0)).update s.heap.objs.size (Obj.mapSeq (· ++ vs.toArray))).push (seqObj "list" vs.toArray 0)).get? b = some o:=fun b o q=>by
  have hlt:b < s.heap.objs.size:=Heap.lt_size q
  rw [Heap.get?_push_ne _ _ _ (by rw [hsz]; exact Nat.ne_of_lt (Nat.lt_succ_of_lt hlt)),Heap.get?_update_ne _ _ _ _ (Nat.ne_of_lt hlt),Heap.get?_push_ne _ _ _ (Nat.ne_of_lt hlt)]
  exact q
 show wpAny _ _ _ _ _ { s with heap:=((s.heap.push (seqObj "list" #[] 0)).update s.heap.objs.size (Obj.mapSeq (· ++ vs.toArray))).push (seqObj "list" vs.toArray 0) }
 rw [hsz]
 refine wpAny_bind (wpAny_holding (wpAny_call_entry slot_list_sort ⟨_,hoL,rfl⟩ entry_list_sort ?body (args_list_sort _)))
 case body=>
  refine T6 (s:={ s with heap:=((s.heap.push (seqObj "list" #[] 0)).update s.heap.objs.size (Obj.mapSeq (· ++ vs.toArray))).push (seqObj "list" vs.toArray 0) }) hoL h64 hlen
   (fun i v p e e'=>(hp i v p e e').at fun b u_ o q=>keep b o q) hr fun h' hk hc=>?_
  refine ⟨_,rfl,wpAny_pure ⟨_,rfl,h h' (fun b o e=>hk b o (Nat.ne_of_lt (Nat.lt_succ_of_lt (Heap.lt_size e))) (keep b o e)) hc⟩⟩
end
end
section
set_option backward.eqns.nonrecursive false
set_option genCtorIdx false in
inductive LE where
 | par | cap (i:Nat) | int (i:Int) | sub (a b:LE) | neg (a:LE) | tup (a b:LE)
structure Lam where
 x:Str
 caps:List Str
 body:LE
set_option genCtorIdx false in
inductive V where
 | imm (v:Value) | int (i:Int) | str (s:Str) | bytes (b:List UInt8)
 | tup (vs:List V) | lst (vs:List V) | rng (a b c:Int) | ref (l i:Nat) | clo (m:Lam) (vs:List V)
noncomputable def V.ctorIdx (x:V):Nat:=V.casesOn x (fun u_=>0) (fun u_=>1) (fun u_=>2) (fun u_=>3) (fun u_=>4) (fun u_=>5) (fun u_ u_ u_=>6) (fun u_ u_=>7) (fun u_ u_=>8)
noncomputable def V.isClo:V->Bool
 | .clo _ _=>true
 | _=>false
theorem a0h {v:V} (h:∀ m vs,v = .clo m vs->False):v.isClo = false:=by
 cases v with
 | clo m vs=>exact (h m vs rfl).elim
 | _=>rfl
set_option genCtorIdx false in
inductive AObj where
 | list (vs:List V) | iter (vs:List V) | tab (c:Addr) (q:Str) | dead | dct (kvs:List (Int × Int))
noncomputable def AObj.ctorIdx (x:AObj):Nat:=AObj.casesOn x (fun u_=>0) (fun u_=>1) (fun u_ u_=>2) 3 (fun u_=>4)
structure St where
 ρ:List (Option V)
 R:List (List AObj)
set_option genCtorIdx false in
inductive It where
 | seq (vs:List V)
 | ref (l i p:Nat)
 | en (k:Nat) (it:It) | dref (l i p n:Nat)
noncomputable def It.ctorIdx (x:It):Nat:=It.casesOn x (fun u_=>0) (fun u_ u_ u_=>1) (fun u_ u_=>2) (fun u_ u_ u_ u_=>3)
set_option genCtorIdx false in
mutual
inductive ME where
 | const (c:Const)
 | slot (i:Nat)
 | imm (v:Value)
 | bin (op:Operator) (a b:ME) (mu:Bool)
 | un (op:UnaryOp) (a:ME)
 | land (es:List ME) | lor (es:List ME)
 | cmp (a:ME) (ops:List CmpOp) (bs:List ME)
 | ite (t a b:ME)
 | call (f:ME) (args:List ME) (kw:List (Str × ME))
 | meth (o:ME) (n:Str) (args:List ME)
 | comp (mu:Bool) (base k:Nat) (cl:List Clause) (elt:ME)
 | sub (o i:ME)
 | slc (o:ME) (lo hi stp:Option ME) (mu:Bool)
 | rvs (o:ME) (mu:Bool)
 | lst (es:List ME) (mu:Bool)
 | tup (es:List ME)
 | dict0
 | lam (m:Lam) (c:Addr) (q:Str) (is:List Nat)
inductive MI where
 | val (e:ME) | enum (i:MI)
inductive MPat where
 | slot (i:Nat) | tup (ps:List MPat) | sub (o i:ME)
inductive Clause where
 | mk (p:MPat) (it:MI) (ifs:List ME)
end
noncomputable def ME.ctorIdx (x:ME):Nat:=ME.casesOn x (fun u_=>0) (fun u_=>1) (fun u_=>2) (fun u_ u_ u_ u_=>3) (fun u_ u_=>4) (fun u_=>5) (fun u_=>6) (fun u_ u_ u_=>7) (fun u_ u_ u_=>8) (fun u_ u_ u_=>9) (fun u_ u_ u_=>10) (fun u_ u_ u_ u_ u_=>11) (fun u_ u_=>12) (fun u_ u_ u_ u_ u_=>13) (fun u_ u_=>14) (fun u_ u_=>15) (fun u_=>16) 17 (fun u_ u_ u_ u_=>18)
noncomputable def MI.ctorIdx (x:MI):Nat:=MI.casesOn x (fun u_=>0) (fun u_=>1)
noncomputable def MPat.ctorIdx (x:MPat):Nat:=MPat.casesOn x (fun u_=>0) (fun u_=>1) (fun u_ u_=>2)
set_option genCtorIdx false in
inductive MS where
 | expr (e:ME) | ret (e:ME) | assign (p:MPat) (e:ME)
 | augS (i:Nat) (op:Operator) (e:ME) | augI (o i:ME) (op:Operator) (e:ME)
 | ite (t:ME) (a b:List MS) | whil (t:ME) (b o:List MS) | for_ (p:MPat) (it:MI) (b o:List MS) | brk
 | forGo (p:MPat) (it:It) (b o:List MS)
 | whilGo (t:ME) (b o:List MS)
 | readEnd (told tells:Nat)
 | fail
noncomputable def MS.ctorIdx (x:MS):Nat:=MS.casesOn x (fun u_=>0) (fun u_=>1) (fun u_ u_=>2) (fun u_ u_ u_=>3) (fun u_ u_ u_ u_=>4) (fun u_ u_ u_=>5) (fun u_ u_ u_=>6) (fun u_ u_ u_ u_=>7) 8 (fun u_ u_ u_ u_=>9) (fun u_ u_ u_=>10) (fun u_ u_=>11) 12
set_option genCtorIdx false in
inductive Fl where | next | brk | ret (v:V)
noncomputable def Fl.ctorIdx (x:Fl):Nat:=Fl.casesOn x 0 1 (fun u_=>2)
structure Fn where
 addr:Addr
 np:Nat
 dfl:List V
 key:Bool
 ns:Nat
 body:List MS
structure Pg where
 fns:List Fn
 gds:List (Addr × List (Int × Str))
noncomputable def St.obj (st:St) (l i:Nat):Option AObj:=match st.R[l]? with | some r=>r[i]? | none=>none
noncomputable def St.setObj (st:St) (l i:Nat) (o:AObj):St:={ st with R:=st.R.modify l (·.set i o) }
noncomputable def St.alloc (st:St) (o:AObj):Option (V × St):=match st.R.getLast? with
 | some r=>some (.ref (st.R.length - 1) r.length,{ st with R:=st.R.dropLast ++ [r ++ [o]] })
 | none=>none
noncomputable def lim:Nat:=1000000
noncomputable def mkL (mu:Bool) (vs:List V) (st:St):Option (V × St):=
 if vs.length <= lim then (if mu then st.alloc (.list vs) else some (.lst vs,st)) else none
noncomputable def small (b:Nat) (a:Int):Bool:=decide (a.natAbs < 2 ^ b)
noncomputable def a0i (op:Operator) (a b:Int):Option Int:=match op with
 | .Add=>some (a + b)
 | .Sub=>some (a - b)
 | .Mult=>if small 64 a then some (a * b) else none
 | .FloorDiv=>if decide (b ≠ 0) && small 30 b then some (a.fdiv b) else none
 | .Mod=>if b = 0 then none else some (a.fmod b)
 | .Pow=>if decide (0 <= b) && decide (b <= 4096) && small 16 a then some (a ^ b.toNat) else none
 | .LShift=>if decide (0 <= b) && decide (b <= 1000000) && small 64 a then some (a * 2 ^ b.toNat) else none
 | .RShift=>if decide (0 <= b) then some (a.fdiv (2 ^ b.toNat)) else none
 | .BitAnd=>some (Builtin.bitAnd a b)
 | .BitOr=>some (Builtin.bitOr a b)
 | .BitXor=>some (Builtin.bitXor a b)
 | _=>none
noncomputable def C7 (st:St):V->Option (List V)
 | .lst vs=>some vs
 | .ref l i=>match st.obj l i with | some (.list vs)=>some vs | _=>none
 | _=>none
noncomputable def N9 {α:Type} (v:V) (k:Int->Option α):Option α:=match v with | .int i=>k i | _=>none
noncomputable def O0 {α:Type} (st:St) (v:V) (k:List V->Option α):Option α:=match C7 st v with | some vs=>k vs | none=>none
noncomputable def d8a {α:Type} (v:V) (k:Str->Option α):Option α:=match v with | .str i=>k i | _=>none
noncomputable def a3h {α:Type} (v:V) (k:List UInt8->Option α):Option α:=match v with | .bytes i=>k i | _=>none
noncomputable def d7k {α:Type} (v:V) (k:Nat->Nat->Option α):Option α:=match v with | .ref l i=>k l i | _=>none
noncomputable def T3 {α:Type} (st:St) (l i:Nat) (k:List V->Option α):Option α:=match st.obj l i with | some (.list vs)=>k vs | _=>none
theorem a5g {α:Type} {st:St} {l i:Nat} {k:List V->Option α} {r:α} (h:T3 st l i k = some r):∃ vs,st.obj l i = some (.list vs) /\ k vs = some r:=by
 unfold T3 at h
 generalize st.obj l i = o at h
 cases o with
 | none=>cases h
 | some o=>
  cases o with
  | list vs=>exact ⟨vs,rfl,h⟩
  | _=>cases h
theorem b9f {α:Type} {st:St} {l i:Nat} {k:List V->Option α} {vs:List V} (h:st.obj l i = some (.list vs)):T3 st l i k = k vs:=by unfold T3; rw [h]
@[elab_as_elim] theorem c9v {α:Type} {v:V} {k:Nat->Nat->Option α} {r:α} {R:V->Prop} (h:d7k v k = some r) (K:∀ l i,k l i = some r->R (.ref l i)):R v:=by
 cases v with
 | ref l i=>exact K l i h
 | _=>cases h
noncomputable def d5h (st:St) (op:Operator) (x:List UInt8) (b:V):Option (V × St):=match op with
 | .Add=>a3h b fun y=>if x.length + y.length <= lim then some (.bytes (x ++ y),st) else none
 | .Mult=>N9 b fun n=>if decide (x ≠ []) && decide (x.length <= 16) && decide (-1000 <= n) && decide (n <= 1000) then some (.bytes (List.replicate n.toNat x).flatten,st) else none
 | _=>none
noncomputable def d5a (st:St) (op:Operator) (a b:V) (mu:Bool):Option (V × St):=match op with
 | .Mult=>N9 b fun n=>O0 st a fun vs=>if decide (-1000 <= n) && decide (n <= 1000) && decide (vs.length <= 64) then mkL mu (List.replicate n.toNat vs).flatten st else none
 | .Add=>O0 st a fun vs=>O0 st b fun us=>mkL mu (vs ++ us) st
 | _=>none
noncomputable def c9w (st:St) (o:Option Int):Option (V × St):=match o with | some z=>some (.int z,st) | none=>none
noncomputable def d2z (st:St) (op:Operator) (a b:V) (mu:Bool):Option (V × St):=match a with
 | .int x=>N9 b fun y=>c9w st (a0i op x y)
 | .bytes x=>d5h st op x b
 | a=>d5a st op a b mu
noncomputable def b9g (n:Nat) (i:Int):Option Nat:=if n <= lim then seqIndex? i n else none
noncomputable def c9b (vs:List V) (k:Int):Option V:=match b9g vs.length k with | some j=>vs[j]? | none=>none
noncomputable def d5b (b:List UInt8) (k:Int):Option V:=match b9g b.length k with | some j=>(match b[j]? with | some c=>some (.int (c.toNat:Int)) | none=>none) | none=>none
noncomputable def d7l (st:St) (o:V) (k:Int):Option V:=match o with
 | .tup vs=>c9b vs k
 | .bytes b=>d5b b k
 | o=>O0 st o fun vs=>c9b vs k
noncomputable def c9c (st:St) (o i:V):Option V:=N9 i (d7l st o)
noncomputable def cut {α:Type} (xs:List α) (lo hi:Option Int):List α:=
 (xs.drop (lo.elim 0 (clipAt xs.length))).take (hi.elim xs.length (clipAt xs.length) - lo.elim 0 (clipAt xs.length))
noncomputable def c8x (o:Option V):Option (Option Int):=match o with
 | none=>some none
 | some v=>match v with | .int i=>some (some i) | .imm v=>if v == .none then some none else none | _=>none
noncomputable def c9d {α:Type} (o:Option V) (k:Option Int->Option α):Option α:=match c8x o with | some x=>k x | none=>none
noncomputable def d3a (st:St) (o:V) (mu:Bool) (l h:Option Int):Option (V × St):=match o with
 | .bytes b=>if b.length <= lim then some (.bytes (cut b l h),st) else none
 | o=>O0 st o fun vs=>if vs.length <= lim then mkL mu (cut vs l h) st else none
noncomputable def c9x (st:St) (o:V) (lo hi stp:Option V) (mu:Bool):Option (V × St):=if stp.isNone = true then c9d lo fun l=>c9d hi fun h=>d3a st o mu l h else none
theorem c2v {α:Type} {o:Option V} {k:Option Int->Option α} {r:α} (h:c9d o k = some r):∃ x,c8x o = some x /\ k x = some r:=by
 unfold c9d at h
 cases e:c8x o with
 | none=>rw [e] at h; cases h
 | some x=>rw [e] at h; exact ⟨x,rfl,h⟩
mutual
noncomputable def a8m:V->Option PyData
 | .imm .none=>some .none
 | .imm (.bool b)=>some (.bool b)
 | .int i=>some (.int i)
 | .str s=>some (.str s)
 | .tup vs=>match O2 vs with | some ds=>some (.tuple ds) | none=>none
 | .lst vs=>match O2 vs with | some ds=>some (.list ds) | none=>none
 | _=>none
noncomputable def O2:List V->Option (List PyData)
 | []=>some []
 | v :: vs=>match a8m v,O2 vs with | some d,some ds=>some (d :: ds) | _,_=>none
end
noncomputable def eqd (a b:V):Option Bool:=match a8m a,a8m b with
 | some x,some y=>if SeqAt.shaped x && SeqAt.shaped y then some (PyData.eqv x y) else none
 | _,_=>none
noncomputable def b0p {α:Type} (args:List V) (k:V->Option α):Option α:=match args with | [v]=>k v | _=>none
noncomputable def c8y {α:Type} (args:List V) (k:V->V->Option α):Option α:=match args with | [v,u]=>k v u | _=>none
noncomputable def c2w (st:St):V->Option V
 | .ref l i=>match st.obj l i with | some (.list vs)=>some (.lst vs) | _=>none
 | v=>some v
noncomputable def opV {α:Type} (st:St) (v:V) (k:V->Option α):Option α:=match c2w st v with | some x=>k x | none=>none
noncomputable def eqV (st:St) (a b:V):Option Bool:=match a with
 | .bytes x=>a3h b fun y=>some (x == y)
 | .str x=>d8a b fun y=>some (x == y)
 | a=>opV st a fun x=>opV st b fun y=>eqd x y
noncomputable def F5:List V->Option (List Int)
 | []=>some []
 | .int i :: r=>match F5 r with | some l=>some (i :: l) | none=>none
 | _=>none
noncomputable def O3:List V->Option (List Str)
 | []=>some []
 | .str i :: r=>match O3 r with | some l=>some (i :: l) | none=>none
 | _=>none
noncomputable def c2i {α:Type} (st:St) (v:V) (k:List Int->Option α):Option α:=O0 st v fun vs=>match F5 vs with | some is=>k is | none=>none
noncomputable def d5c (b:Option Bool):Option Bool:=match b with | some r=>some (!r) | none=>none
noncomputable def isO (a:V):Option Bool:=match a with | .imm x=>some (x == .none) | .int _=>some false | _=>none
noncomputable def isK (a:V):Option Bool:=match a with | .clo _ _=>some false | a=>isO a
noncomputable def b6o (b:V):Bool:=match b with | .imm v=>v == .none | _=>false
noncomputable def c2p (st:St) (op:CmpOp) (a b:V):Option Bool:=match op with
 | .Eq=>eqV st a b
 | .NotEq=>d5c (eqV st a b)
 | .Is=>if b6o b = true then isO a else none
 | .Lt=>N9 a fun x=>N9 b fun y=>some (decide (x < y))
 | .LtE=>N9 a fun x=>N9 b fun y=>some (decide (x <= y))
 | .Gt=>N9 a fun x=>N9 b fun y=>some (decide (y < x))
 | .GtE=>N9 a fun x=>N9 b fun y=>some (decide (y <= x))
 | _=>none
noncomputable def d7m (n:Nat):Option Bool:=if n <= lim then some (decide (0 < n)) else none
noncomputable def c9y (v:Value):Option Bool:=match v with | .bool b=>some b | .none=>some false | _=>none
noncomputable def a5h (st:St) (v:V):Option Bool:=match v with
 | .imm v=>c9y v
 | .int i=>some (i != 0)
 | .bytes b=>d7m b.length
 | .str q=>if q.length <= lim then some ((q.length:Int) != 0) else none
 | .lst vs=>d7m vs.length
 | .ref l i=>O0 st (.ref l i) fun vs=>d7m vs.length
 | _=>none
mutual
noncomputable def V.lvlOk (l:Nat):V->Bool
 | .ref l' _=>decide (l' <= l)
 | .tup vs=>V.lvlOkL l vs
 | .lst vs=>V.lvlOkL l vs
 | .clo _ _=>false
 | _=>true
noncomputable def V.lvlOkL (l:Nat):List V->Bool
 | []=>true
 | v :: vs=>V.lvlOk l v && V.lvlOkL l vs
end
noncomputable def a1y {α β:Type} (f:α->Option β):List α->Option (List β)
 | []=>some []
 | a :: as=>match f a,a1y f as with | some b,some bs=>some (b :: bs) | _,_=>none
noncomputable def frz (reg:List AObj) (lv:Nat):Nat->V->Option V
 | 0,_=>none
 | d + 1,v=>match v with
  | .ref l i=>if l = lv then (match reg[i]? with | some (.list vs)=>(match a1y (frz reg lv d) vs with | some us=>some (.lst us) | none=>none) | _=>none)
    else if l < lv then some v else none
  | .tup vs=>match a1y (frz reg lv d) vs with | some us=>some (.tup us) | none=>none
  | .lst vs=>match a1y (frz reg lv d) vs with | some us=>some (.lst us) | none=>none
  | .clo _ _=>none
  | v=>some v
noncomputable def S1 (a b c:Int):List Int:=(List.range (Builtin.Range.rangeSize a b c).toNat).map fun (i:Nat)=>a + i * c
noncomputable def c2q (st:St):V->Option It
 | .lst vs=>some (.seq vs)
 | .tup vs=>some (.seq vs)
 | .rng a b c=>if Builtin.Range.small a b c then some (.seq ((S1 a b c).map .int)) else none
 | .ref l i=>match st.obj l i with | some (.list _)=>some (.ref l i 0) | _=>none
 | _=>none
noncomputable def It.next (st:St):It->Option (Option (V × It))
 | .seq []=>some none
 | .seq (v :: vs)=>some (some (v,.seq vs))
 | .ref l i p=>match st.obj l i with
  | some (.list vs)=>(match vs[p]? with | some v=>some (some (v,.ref l i (p + 1))) | none=>some none)
  | _=>none
 | .en k it=>match it.next st with
  | some (some (v,it'))=>some (some (.tup [.int k,v],.en (k + 1) it'))
  | some none=>some none
  | none=>none
 | .dref l i p n=>match st.obj l i with
  | some (.dct kvs)=>if kvs.length = n then (match kvs[p]? with | some kv=>some (some (.int kv.1,.dref l i (p + 1) n)) | none=>some none) else none
  | _=>none
noncomputable def ixV {α:Type} (n:Nat) (k:Int) (f:Nat->Option α):Option α:=match b9g n k with | some j=>f j | none=>none
theorem d5i {α:Type} {n:Nat} {k:Int} {f:Nat->Option α} {r:α} (h:ixV n k f = some r):∃ j,b9g n k = some j /\ f j = some r:=by
 unfold ixV at h
 cases e:b9g n k with
 | none=>rw [e] at h; cases h
 | some j=>rw [e] at h; exact ⟨j,rfl,h⟩
noncomputable def a4g (st:St) (o i v:V):Option St:=d7k o fun l j=>N9 i fun k=>T3 st l j fun vs=>ixV vs.length k fun n=>if v.lvlOk l && decide (0 <= k) then some (st.setObj l j (.list (vs.set n v))) else none
noncomputable def b6p (v:V):Option (Int × Int):=match v with
 | .tup vs=>(match F5 vs with | some is=>(match is with | a :: r=>(match r with | b :: r=>if r.isEmpty = true then some (a,b) else none | []=>none) | []=>none) | none=>none)
 | _=>none
noncomputable def Y3:List V->Option (List (Int × Int))
 | []=>some []
 | v :: r=>match b6p v with
  | some p=>(match Y3 r with | some l=>some (p :: l) | none=>none)
  | none=>none
noncomputable def a1z (vs:List V):Option (List V):=match Y3 vs with
 | some ps=>if vs.length < 64 then (match a4b ps vs.length with
  | some r=>a1y (fun i=>vs[i]?) r.toList
  | none=>none) else none
 | none=>none
noncomputable abbrev BiF:=St->List V->Option (V × St)
noncomputable def d8b (st:St) (v:V):Option (V × St):=match v with
 | .tup vs=>if vs.length <= lim then some (.int vs.length,st) else none
 | .bytes b=>if b.length <= lim then some (.int b.length,st) else none
 | v=>O0 st v fun vs=>if vs.length <= lim then some (.int vs.length,st) else none
noncomputable def d3b:BiF:=fun st args=>b0p args (d8b st)
noncomputable def d3c:BiF:=fun st args=>b0p args fun v=>N9 v fun i=>some (.int (if i < 0 then -i else i),st)
noncomputable def d3d:BiF:=fun st args=>c8y args fun v u=>N9 v fun a=>N9 u fun b=>if decide (b = 0) || !small 30 b then none else some (.tup [.int (a.fdiv b),.int (a.fmod b)],st)
noncomputable def d3e:BiF:=fun st args=>b0p args fun v=>N9 v fun i=>if (PySem.baseText "0x" 16 i).length <= lim then some (.str (PySem.baseText "0x" 16 i),st) else none
noncomputable def d5j (st:St) (v:V):Option (V × St):=match v with | .lst vs=>st.alloc (.iter vs) | _=>none
noncomputable def c2x:BiF:=fun st args=>b0p args (d5j st)
noncomputable def c2y (st:St) (l i:Nat) (o:Option AObj):Option (V × St):=match o with
 | some (.iter (v :: vs))=>some (v,st.setObj l i (.iter vs))
 | _=>none
noncomputable def d5k (st:St) (v:V):Option (V × St):=match v with | .ref l i=>c2y st l i (st.obj l i) | _=>none
noncomputable def c2z:BiF:=fun st args=>b0p args (d5k st)
noncomputable def d3f:BiF:=fun st args=>b0p args fun v=>c2i st v fun is=>if is.all (small 50) && decide (is.length <= 1000) then some (.int is.sum,st) else none
noncomputable def mm2 (f:Int->Int->Int) (g:BiF):BiF:=fun st args=>match args with | [a,b]=>N9 a fun x=>N9 b fun y=>some (.int (f x y),st) | args=>g st args
noncomputable def c3a:BiF:=fun st args=>b0p args fun v=>O0 st v fun vs=>match a1z vs with | some us=>some (.lst us,st) | none=>none
noncomputable def d7n:BiF:=fun u_ u_=>none
noncomputable def d5l (n:String):BiF:=if n = "len" then d3b else if n = "abs" then d3c else if n = "divmod" then d3d else if n = "hex" then d3e else if n = "iter" then c2x else if n = "next" then c2z else
 if n = "sum" then d3f else if n = "min" then mm2 min d7n else if n = "sorted" then c3a else d7n
noncomputable def biV (st:St) (n:String) (args:List V):Option (V × St):=d5l n st args
noncomputable def d3g:BiF:=fun st args=>b0p args fun v=>N9 v fun i=>some (.int i,st)
noncomputable def d8c (st:St) (is:List Int):Option (V × St):=match is with
 | [b]=>some (.rng 0 b 1,st)
 | [a,b]=>some (.rng a b 1,st)
 | [a,b,c]=>if decide (c = 0) || !small 30 c then none else some (.rng a b c,st)
 | _=>none
noncomputable def c3b:BiF:=fun st args=>match F5 args with | some is=>d8c st is | none=>none
noncomputable def b6q:BiF:=fun st args=>b0p args fun v=>c2i st v fun is=>if is.all (fun i=>decide (0 <= i) && decide (i < 256)) && decide (is.length <= lim) then some (.bytes (is.map fun i=>i.toNat.toUInt8),st) else none
noncomputable def d5m (n:String):BiF:=if n = "int" then d3g else if n = "range" then c3b else if n = "bytes" then b6q else d7n
noncomputable def tyV (st:St) (n:String) (args:List V):Option (V × St):=d5m n st args
@[elab_as_elim] theorem b4e {α:Type} {l:List α} {p:List α->Prop} (h:l.length = 2) (k:∀ a b,p [a,b]):p l:=by
 match l,h with
 | [a,b],_=>exact k a b
@[elab_as_elim] theorem c3c {α:Type} {l:List α} {p:List α->Prop} (h:l.length = 3) (k:∀ a b c,p [a,b,c]):p l:=by
 cases l with
 | nil=>cases h
 | cons a l=>exact b4e (l:=l) (p:=fun l=>p (a :: l)) (Nat.succ.inj h) (k a)
theorem b9h {x:V} {xs:List V} {is:List Int} (h:F5 (x :: xs) = some is):∃ i l,x = .int i /\ F5 xs = some l /\ is = i :: l:=by
 cases x with
 | int i=>
  have h:(match F5 xs with | some l=>some (i :: l) | none=>none) = some is:=h
  cases e:F5 xs with
  | none=>rw [e] at h; cases h
  | some l=>rw [e] at h; exact ⟨i,l,rfl,rfl,(Option.some.inj h).symm⟩
 | _=>cases h
theorem a5i {i:Int} {xs:List V} {l:List Int} (h:F5 xs = some l):F5 (.int i :: xs) = some (i :: l):=by
 show (match F5 xs with | some l=>some (i :: l) | none=>none) = _
 rw [h]
theorem a5j {i:Str} {xs:List V} {l:List Str} (h:O3 xs = some l):O3 (.str i :: xs) = some (i :: l):=by
 show (match O3 xs with | some l=>some (i :: l) | none=>none) = _
 rw [h]
theorem b9i {i:Str} {xs:List V} {is:List Str} (h:O3 (.str i :: xs) = some is):∃ l,O3 xs = some l /\ i :: l = is:=by
 have h:(match O3 xs with | some l=>some (i :: l) | none=>none) = some is:=h
 cases e:O3 xs with
 | none=>rw [e] at h; cases h
 | some l=>rw [e] at h; exact ⟨l,rfl,Option.some.inj h⟩
theorem c3d {α β:Type} {f:α->Option β} {a:α} {b:β} {as:List α} {bs:List β} (h1:f a = some b) (h2:a1y f as = some bs):a1y f (a :: as) = some (b :: bs):=by
 show (match f a,a1y f as with | some b,some bs=>some (b :: bs) | _,_=>none) = _
 rw [h1,h2]
theorem b4f (l:Nat) (i:Int):V.lvlOk l (.int i) = true:=rfl
theorem a2a {v:V} {vs:List V} {d:PyData} {ds:List PyData} (h1:a8m v = some d) (h2:O2 vs = some ds):O2 (v :: vs) = some (d :: ds):=by
 show (match a8m v,O2 vs with | some d,some ds=>some (d :: ds) | _,_=>none) = _
 rw [h1,h2]
theorem c3e {v:V} {vs:List V} {r:List PyData} (h:O2 (v :: vs) = some r):∃ d ds,a8m v = some d /\ O2 vs = some ds /\ d :: ds = r:=by
 have h:(match a8m v,O2 vs with | some d,some ds=>some (d :: ds) | _,_=>none) = some r:=h
 cases e1:a8m v with
 | none=>rw [e1] at h; cases h
 | some d=>
  cases e2:O2 vs with
  | none=>rw [e1,e2] at h; cases h
  | some ds=>rw [e1,e2] at h; exact ⟨d,ds,rfl,rfl,Option.some.inj h⟩
theorem b0q {st:St} {l i p:Nat} {o:Option (V × It)} (h:(It.ref l i p).next st = some o):∃ vs,st.obj l i = some (.list vs) /\ (match vs[p]? with | some v=>some (v,It.ref l i (p + 1)) | none=>none) = o:=by
 have h:(match st.obj l i with
  | some (.list vs)=>(match vs[p]? with | some v=>some (some (v,It.ref l i (p + 1))) | none=>some none)
  | _=>none) = some o:=h
 generalize st.obj l i = q at h
 cases q with
 | none=>cases h
 | some q=>
  cases q with
  | list vs=>
   refine ⟨vs,rfl,?_⟩
   have h:(match vs[p]? with | some v=>some (some (v,It.ref l i (p + 1))) | none=>some none) = some o:=h
   generalize vs[p]? = u at h ⊢
   cases u <;> exact Option.some.inj h
  | _=>cases h
theorem a0j {st:St} {l i p:Nat} {x:V} {it':It} (h:(It.ref l i p).next st = some (some (x,it'))):∃ vs,st.obj l i = some (.list vs) /\ vs[p]? = some x /\ it' = .ref l i (p + 1):=by
 obtain ⟨vs,e,h⟩:=b0q h
 refine ⟨vs,e,?_⟩
 generalize vs[p]? = u at h
 cases u with
 | none=>cases h
 | some u=>cases h; exact ⟨rfl,rfl⟩
theorem a5k {st:St} {l i p:Nat} (h:(It.ref l i p).next st = some none):∃ vs,st.obj l i = some (.list vs) /\ vs[p]? = none:=by
 obtain ⟨vs,e,h⟩:=b0q h
 refine ⟨vs,e,?_⟩
 generalize vs[p]? = u at h
 cases u with
 | none=>rfl
 | some u=>cases h
theorem a5l {st:St} {l i p n:Nat} {o:Option (V × It)} (h:(It.dref l i p n).next st = some o):∃ kvs,st.obj l i = some (.dct kvs) /\ kvs.length = n /\ (match kvs[p]? with | some kv=>some (V.int kv.1,It.dref l i (p + 1) n) | none=>none) = o:=by
 have h:(match st.obj l i with
  | some (.dct kvs)=>if kvs.length = n then (match kvs[p]? with | some kv=>some (some (V.int kv.1,It.dref l i (p + 1) n)) | none=>some none) else none
  | _=>none) = some o:=h
 generalize st.obj l i = q at h
 cases q with
 | none=>cases h
 | some q=>
  cases q with
  | dct kvs=>
   have h:(if kvs.length = n then (match kvs[p]? with | some kv=>some (some (V.int kv.1,It.dref l i (p + 1) n)) | none=>some none) else none) = some o:=h
   by_cases w:kvs.length = n
   ·rw [if_pos w] at h
    refine ⟨kvs,rfl,w,?_⟩
    generalize kvs[p]? = u at h ⊢
    cases u <;> exact Option.some.inj h
   ·rw [if_neg w] at h; cases h
  | _=>cases h
theorem a2b {st:St} {l i p n:Nat} {x:V} {it':It} (h:(It.dref l i p n).next st = some (some (x,it'))):∃ kvs kv,st.obj l i = some (.dct kvs) /\ kvs.length = n /\ kvs[p]? = some kv /\ x = .int kv.1 /\ it' = .dref l i (p + 1) n:=by
 obtain ⟨kvs,e,w,h⟩:=a5l h
 generalize hu:kvs[p]? = u at h
 cases u with
 | none=>cases h
 | some u=>cases h; exact ⟨kvs,u,e,w,hu,rfl,rfl⟩
theorem a8n {st:St} {l i p n:Nat} (h:(It.dref l i p n).next st = some none):∃ kvs,st.obj l i = some (.dct kvs) /\ kvs.length = n /\ kvs[p]? = none:=by
 obtain ⟨kvs,e,w,h⟩:=a5l h
 refine ⟨kvs,e,w,?_⟩
 generalize kvs[p]? = u at h
 cases u with
 | none=>rfl
 | some u=>cases h
theorem b6r {st:St} {k:Nat} {it:It} {o:Option (V × It)} (h:(It.en k it).next st = some o):∃ q,it.next st = some q /\ (match q with | some (v,it')=>some (V.tup [.int k,v],It.en (k + 1) it') | none=>none) = o:=by
 have h:(match it.next st with
  | some (some (v,it'))=>some (some (V.tup [.int k,v],It.en (k + 1) it'))
  | some none=>some none
  | none=>none) = some o:=h
 generalize it.next st = u at h
 cases u with
 | none=>cases h
 | some u=>refine ⟨u,rfl,?_⟩; cases u <;> exact Option.some.inj h
theorem a4h {st:St} {k:Nat} {it it':It} {x:V} (h:(It.en k it).next st = some (some (x,it'))):∃ v it2,it.next st = some (some (v,it2)) /\ x = .tup [.int k,v] /\ it' = .en (k + 1) it2:=by
 obtain ⟨q,e,h⟩:=b6r h
 cases q with
 | none=>cases h
 | some q=>
  obtain ⟨v,it2⟩:=q
  cases h; exact ⟨v,it2,e,rfl,rfl⟩
theorem b0r {st:St} {k:Nat} {it:It} (h:(It.en k it).next st = some none):it.next st = some none:=by
 obtain ⟨q,e,h⟩:=b6r h
 cases q with
 | none=>exact e
 | some q=>cases h
theorem c2j {R:String->Prop} {m n:String} {f g:BiF} {st:St} {args:List V} {r:V × St} (h:(if n = m then f else g) st args = some r) (h1:f st args = some r->R m) (h2:g st args = some r->R n):R n:=by
 by_cases q:n = m
 ·subst q
  rw [if_pos rfl] at h
  exact h1 h
 ·rw [if_neg q] at h
  exact h2 h
@[elab_as_elim] theorem b4g {α:Type} {args:List V} {k:V->Option α} {r:α} {R:List V->Prop} (h:b0p args k = some r) (K:∀ v,k v = some r->R [v]):R args:=by
 match args,h with
 | [v],h=>exact K v h
theorem a3i {α:Type} {args:List V} {k:V->Option α} {r:α} (h:b0p args k = some r):∃ v,args = [v] /\ k v = some r:=by
 match args,h with
 | [v],h=>exact ⟨v,rfl,h⟩
theorem b9j {α:Type} {args:List V} {k:V->V->Option α} {r:α} (h:c8y args k = some r):∃ v u,args = [v,u] /\ k v u = some r:=by
 match args,h with
 | [v,u],h=>exact ⟨v,u,rfl,h⟩
@[elab_as_elim] theorem b9k {α:Type} {v:V} {k:Int->Option α} {r:α} {R:V->Prop} (h:N9 v k = some r) (K:∀ i,k i = some r->R (.int i)):R v:=by
 cases v with
 | int i=>exact K i h
 | _=>cases h
@[elab_as_elim] theorem c9z {α:Type} {v:V} {k:Str->Option α} {r:α} {R:V->Prop} (h:d8a v k = some r) (K:∀ i,k i = some r->R (.str i)):R v:=by
 cases v with
 | str i=>exact K i h
 | _=>cases h
@[elab_as_elim] theorem b0s {α:Type} {v:V} {k:List UInt8->Option α} {r:α} {R:V->Prop} (h:a3h v k = some r) (K:∀ i,k i = some r->R (.bytes i)):R v:=by
 cases v with
 | bytes i=>exact K i h
 | _=>cases h
theorem b9l {α:Type} {v:V} {k:List UInt8->Option α} {r:α} (h:a3h v k = some r):∃ i,v = .bytes i /\ k i = some r:=b0s h fun i h=>⟨i,rfl,h⟩
theorem K2 {α:Type} {c:Prop} [Decidable c] {x:Option α} {r:α} (h:(if c then x else none) = some r):c /\ x = some r:=by
 by_cases q:c
 ·rw [if_pos q] at h; exact ⟨q,h⟩
 ·rw [if_neg q] at h; cases h
theorem d3h {α:Type} {st:St} {v:V} {k:V->Option α} {r:α} (h:opV st v k = some r):∃ x,c2w st v = some x /\ k x = some r:=by
 unfold opV at h
 cases e:c2w st v with
 | none=>rw [e] at h; cases h
 | some x=>rw [e] at h; exact ⟨x,rfl,h⟩
theorem d0a {b:Option Bool} {r:Bool} (h:d5c b = some r):b = some (!r):=by
 cases b with
 | none=>cases h
 | some c=>rw [<- Option.some.inj (show some (!c) = some r from h),Bool.not_not]
theorem I8 {α:Type} {v:V} {k:Int->Option α} {r:α} (h:N9 v k = some r):∃ i,v = .int i /\ k i = some r:=by
 cases v with
 | int i=>exact ⟨i,rfl,h⟩
 | _=>cases h
theorem O4 {α:Type} {st:St} {v:V} {k:List V->Option α} {r:α} (h:O0 st v k = some r):∃ vs,C7 st v = some vs /\ k vs = some r:=by
 unfold O0 at h
 cases e:C7 st v with
 | none=>rw [e] at h; cases h
 | some vs=>rw [e] at h; exact ⟨vs,rfl,h⟩
theorem b6s {α:Type} {st:St} {v:V} {k:List Int->Option α} {r:α} (h:c2i st v k = some r):∃ vs is,C7 st v = some vs /\ F5 vs = some is /\ k is = some r:=by
 obtain ⟨vs,e,h⟩:=O4 h
 cases e2:F5 vs with
 | none=>rw [e2] at h; cases h
 | some is=>rw [e2] at h; exact ⟨vs,is,e,e2,h⟩
theorem b0t {α:Type} {st:St} {v:V} {k:List V->Option α} {vs:List V} (h:C7 st v = some vs):O0 st v k = k vs:=by unfold O0; rw [h]
theorem b0u {α:Type} {st:St} {v:V} {k:List Int->Option α} {vs:List V} {is:List Int} (h:C7 st v = some vs) (h2:F5 vs = some is):c2i st v k = k is:=by unfold c2i; rw [b0t h,h2]
theorem C6 {α:Type} {c:Prop} [Decidable c] {x r:α} (h:(if c then some x else none) = some r):c /\ x = r:=by
 by_cases q:c
 ·rw [if_pos q] at h; exact ⟨q,Option.some.inj h⟩
 ·rw [if_neg q] at h; cases h
theorem b6t {α:Type} {c:Prop} [Decidable c] {x r:α} (h:(if c then none else some x) = some r):¬ c /\ x = r:=by
 by_cases q:c
 ·rw [if_pos q] at h; cases h
 ·rw [if_neg q] at h; exact ⟨q,Option.some.inj h⟩
noncomputable def insAt {α:Type} (xs:List α) (i:Int) (x:α):List α:=let k:=if i < 0 then (i + xs.length).toNat else min i.toNat xs.length; xs.take k ++ x :: xs.drop k
noncomputable def evL (st:St) (caps:List V) (x:V):LE->Option V
 | .par=>some x
 | .cap i=>caps[i]?
 | .int i=>some (.int i)
 | .sub a b=>two (evL st caps x a) (evL st caps x b) fun u v=>c9c st u v
 | .neg a=>one (evL st caps x a) fun u=>N9 u fun i=>some (.int (-i))
 | .tup a b=>two (evL st caps x a) (evL st caps x b) fun u v=>some (.tup [u,v])
where
 pick (c:Option Bool) (a b:Option V):Option V:=match c with | some t=>if t = true then a else b | none=>none
 one (a:Option V) (k:V->Option V):Option V:=match a with | some u=>k u | none=>none
 two (a b:Option V) (k:V->V->Option V):Option V:=match a,b with | some u,some v=>k u v | _,_=>none
noncomputable def b0v (st:St) (l i:Nat) (n:Str) (args:List V) (vs:List V):Option (V × St):=
 if n = "append" then b0p args fun v=>if v.lvlOk l && decide (vs.length <= lim) then some (.imm .none,st.setObj l i (.list (vs ++ [v]))) else none
 else if n = "insert" then c8y args fun kk v=>N9 kk fun k=>if v.lvlOk l && decide (vs.length <= lim) && small 60 k then some (.imm .none,st.setObj l i (.list (insAt vs k v))) else none
 else none
noncomputable def b4h (st:St) (sep:Str) (args:List V):Option (V × St):=b0p args fun v=>O0 st v fun vs=>match O3 vs with | some ss=>if JoinOk sep ss then some (.str (Txt.join sep ss),st) else none | none=>none
noncomputable def d5n (st:St) (o:Option Str) (d:V):V × St:=match o with | some s=>(.str s,st) | none=>(d,st)
noncomputable def b4i (G:Pg) (st:St) (a:Value) (args:List V):Option (V × St):=match a with
 | .ref a=>c8y args fun kk d=>N9 kk fun k=>match G.gds.lookup a with | some kvs=>some (d5n st (kvs.lookup k) d) | none=>none
 | _=>none
noncomputable def a0k (G:Pg) (st:St) (o:V) (n:Str) (args:List V):Option (V × St):=match o with
 | .ref l i=>T3 st l i (b0v st l i n args)
 | .str sep=>if n = "join" then b4h st sep args else none
 | .imm a=>if n = "get" then b4i G st a args else none
 | _=>none
noncomputable def b0w (st:St) (l i:Nat) (b:Bool):Bool:=match st.obj l i with | some (.list _)=>b | _=>false
theorem c3f {st:St} {l i:Nat} {b:Bool} (h:b0w st l i b = true):(∃ vs,st.obj l i = some (.list vs)) /\ b = true:=by
 unfold b0w at h
 generalize st.obj l i = o at h
 cases o with
 | none=>cases h
 | some o=>
  cases o with
  | list vs=>exact ⟨⟨vs,rfl⟩,h⟩
  | _=>cases h
noncomputable def c3g (G:Pg) (a:Value) (n:Str):Bool:=match a with | .ref a=>decide (n = "get") && (G.gds.lookup a).isSome | _=>false
noncomputable def a3j (G:Pg) (st:St) (o:V) (n:Str):Bool:=match o with
 | .ref l i=>b0w st l i (decide (n = "append") || decide (n = "insert"))
 | .str _=>decide (n = "join")
 | .imm a=>c3g G a n
 | _=>false
noncomputable def G0 (ns:Nat) (vs:List V):List (Option V):=vs.map some ++ List.replicate (ns - vs.length) none
noncomputable def T4 (f:Fn) (args:List V) (kw:List (Str × V)):Option (List V):=
 if args.length <= f.np then
  let need:=f.np - args.length
  if need <= f.dfl.length then
   let pos:=args ++ f.dfl.drop (f.dfl.length - need)
   if f.key then (match kw with | []=>some (pos ++ [.imm .none]) | [(k,v)]=>if k = "key" then some (pos ++ [v]) else none | _=>none)
   else (match kw with | []=>some pos | _=>none)
  else none
 else none
noncomputable def d7o (st:St):V->Option It
 | v=>match C7 st v,c2q st v with | some _,some it=>some (.en 0 it) | _,_=>none
noncomputable def d5o (st:St) (op:Operator) (l i:Nat) (b:V):Option (V × St):=match op with
 | .Add=>T3 st l i fun vs=>O0 st b fun us=>if V.lvlOkL l us && decide (vs.length + us.length <= lim) then some (.ref l i,st.setObj l i (.list (vs ++ us))) else none
 | _=>none
noncomputable def c9e (st:St) (op:Operator) (a b:V):Option (V × St):=match a with
 | .int x=>N9 b fun y=>c9w st (a0i op x y)
 | .ref l i=>d5o st op l i b
 | _=>none
end
section
set_option backward.eqns.nonrecursive false
noncomputable def a5m (x:Str):Bool:=x == ("__debug__" : Str) || x == ("__classdict__" : Str)
noncomputable def F9 {α β:Type} (f:α->β->Bool):List α->List β->Bool
 | [],[]=>true
 | a :: as,b :: bs=>f a b && F9 f as bs
 | _,_=>false
theorem B1 {a b:Bool} (h:(a && b) = true):a = true /\ b = true:=(Bool.and_eq_true_iff).mp h
theorem C3 {p:Prop} [Decidable p] (h:decide p = true):p:=of_decide_eq_true h
theorem D5 {α β:Type} {f:α->β->Bool} {as:List α} (h:F9 f as [] = true):as = []:=by
 cases as with
 | nil=>rfl
 | cons _ _=>exact (Bool.false_ne_true h).elim
theorem C2 {α β:Type} {f:α->β->Bool} {as:List α} {b:β} {bs:List β} (h:F9 f as (b :: bs) = true):∃ a as',as = a :: as' /\ f a b = true /\ F9 f as' bs = true:=by
 cases as with
 | nil=>exact (Bool.false_ne_true h).elim
 | cons a as=>exact ⟨a,as,rfl,B1 h⟩
theorem a4i {α β:Type} {f:α->β->Bool}:∀ {as:List α} {bs:List β},F9 f as bs = true->as.length = bs.length
 | [],[],_=>rfl
 | [],_ :: _,h=>(Bool.false_ne_true h).elim
 | _ :: _,[],h=>(Bool.false_ne_true h).elim
 | _ :: _,_ :: _,h=>congrArg (· + 1) (a4i (B1 h).2)
set_option genInjectivity false in
set_option genSizeOf false in
structure Pt where
 tag:Nat
 cs:Const:=.none
 x:Str:=⟨#[]⟩
 a:PySem.Expr:=.Constant .none 0 ⟨0,0,0,0⟩
 b:PySem.Expr:=.Constant .none 0 ⟨0,0,0,0⟩
 d:PySem.Expr:=.Constant .none 0 ⟨0,0,0,0⟩
 es:List PySem.Expr:=[]
 bop:Operator:=.Add
 uop:UnaryOp:=.Not
 lop:BoolOp:=.And
 cops:List CmpOp:=[]
 ks:List Keyword:=[]
 gs:List Comprehension:=[]
 sc:List Scope:=[]
 o1:Option PySem.Expr:=none
 o2:Option PySem.Expr:=none
 o3:Option PySem.Expr:=none
 n:Nat:=0
 ar:Arguments:=⟨[],[],none,[],[],none,[]⟩
 p:Pos
noncomputable def B5:PySem.Expr->Pt
 | .Constant c n p=>{ tag:=1,cs:=c,n:=n,p:=p }
 | .Name x p=>{ tag:=2,x:=x,p:=p }
 | .BinOp a op b p=>{ tag:=3,a:=a,bop:=op,b:=b,p:=p }
 | .UnaryOp op a p=>{ tag:=4,uop:=op,a:=a,p:=p }
 | .BoolOp op es p=>{ tag:=5,lop:=op,es:=es,p:=p }
 | .Compare a ops es p=>{ tag:=6,a:=a,cops:=ops,es:=es,p:=p }
 | .IfExp t a b p=>{ tag:=7,a:=t,b:=a,d:=b,p:=p }
 | .Call f as ks p=>{ tag:=8,a:=f,es:=as,ks:=ks,p:=p }
 | .Attribute o x p=>{ tag:=9,a:=o,x:=x,p:=p }
 | .ListComp m g s p=>{ tag:=10,a:=m,gs:=g,sc:=[s],p:=p }
 | .Subscript o i p=>{ tag:=11,a:=o,b:=i,p:=p }
 | .Slice l h s p=>{ tag:=12,o1:=l,o2:=h,o3:=s,p:=p }
 | .List es p=>{ tag:=13,es:=es,p:=p }
 | .Tuple es n p=>{ tag:=14,es:=es,n:=n,p:=p }
 | .Lambda ps b s p=>{ tag:=15,a:=b,ar:=ps,sc:=[s],p:=p }
 | .Dict [] [] p=>{ tag:=16,p:=p }
 | e=>{ tag:=0,a:=e,p:=⟨0,0,0,0⟩ }
noncomputable def d5p (l:List Scope) (d:PySem.Expr) (k:Scope->PySem.Expr):PySem.Expr:=match l with | [s]=>k s | _=>d
noncomputable def H9 (q:Pt):Nat->PySem.Expr
 | 1=>.Constant q.cs q.n q.p
 | 2=>.Name q.x q.p
 | 3=>.BinOp q.a q.bop q.b q.p
 | 4=>.UnaryOp q.uop q.a q.p
 | 5=>.BoolOp q.lop q.es q.p
 | 6=>.Compare q.a q.cops q.es q.p
 | 7=>.IfExp q.a q.b q.d q.p
 | 8=>.Call q.a q.es q.ks q.p
 | 9=>.Attribute q.a q.x q.p
 | 10=>d5p q.sc q.a fun s=>.ListComp q.a q.gs s q.p
 | 11=>.Subscript q.a q.b q.p
 | 12=>.Slice q.o1 q.o2 q.o3 q.p
 | 13=>.List q.es q.p
 | 14=>.Tuple q.es q.n q.p
 | 15=>d5p q.sc q.a fun s=>.Lambda q.ar q.a s q.p
 | 16=>.Dict [] [] q.p
 | _=>q.a
noncomputable def P6 (q:Pt):PySem.Expr:=H9 q q.tag
theorem D6 (e:PySem.Expr):P6 (B5 e) = e:=by
 cases e with
 | Dict ks vs p=>
  cases ks with
  | cons _ _=>rfl
  | nil=>
   cases vs with
   | cons _ _=>rfl
   | nil=>rfl
 | _=>rfl
section
variable {q:Pt}
theorem b6u (h:q.tag = 1):P6 q = .Constant q.cs q.n q.p:=congrArg (H9 q) h
theorem L0 (h:q.tag = 2):P6 q = .Name q.x q.p:=congrArg (H9 q) h
theorem c3h (h:q.tag = 3):P6 q = .BinOp q.a q.bop q.b q.p:=congrArg (H9 q) h
theorem b6v (h:q.tag = 4):P6 q = .UnaryOp q.uop q.a q.p:=congrArg (H9 q) h
theorem b6w (h:q.tag = 5):P6 q = .BoolOp q.lop q.es q.p:=congrArg (H9 q) h
theorem c3i (h:q.tag = 6):P6 q = .Compare q.a q.cops q.es q.p:=congrArg (H9 q) h
theorem c3j (h:q.tag = 7):P6 q = .IfExp q.a q.b q.d q.p:=congrArg (H9 q) h
theorem b0x (h:q.tag = 8):P6 q = .Call q.a q.es q.ks q.p:=congrArg (H9 q) h
theorem c3k (h:q.tag = 9):P6 q = .Attribute q.a q.x q.p:=congrArg (H9 q) h
theorem b9m {s:Scope} (h:q.tag = 10) (hs:q.sc = [s]):P6 q = .ListComp q.a q.gs s q.p:=(congrArg (H9 q) h).trans (congrArg (fun l=>d5p l q.a fun s=>.ListComp q.a q.gs s q.p) hs)
theorem P7 (h:q.tag = 11):P6 q = .Subscript q.a q.b q.p:=congrArg (H9 q) h
theorem b9n (h:q.tag = 12):P6 q = .Slice q.o1 q.o2 q.o3 q.p:=congrArg (H9 q) h
theorem b0y (h:q.tag = 13):P6 q = .List q.es q.p:=congrArg (H9 q) h
theorem b9o {s:Scope} (h:q.tag = 15) (hs:q.sc = [s]):P6 q = .Lambda q.ar q.a s q.p:=(congrArg (H9 q) h).trans (congrArg (fun l=>d5p l q.a fun s=>.Lambda q.ar q.a s q.p) hs)
theorem P8 (h:q.tag = 14):P6 q = .Tuple q.es q.n q.p:=congrArg (H9 q) h
theorem b9p (h:q.tag = 16):P6 q = .Dict [] [] q.p:=congrArg (H9 q) h
end
theorem G6 {R:PySem.Expr->Prop} {e x:PySem.Expr} (h:P6 (B5 e) = x) (k:R x):R e:=(h.symm.trans (D6 e)) ▸ k
noncomputable def one {α:Type} (l:List α) (k:α->Bool):Bool:=match l with | [a]=>k a | _=>false
theorem a5n {α:Type} {l:List α} {k:α->Bool} (h:one l k = true):∃ a,l = [a] /\ k a = true:=by
 match l,h with
 | [a],h=>exact ⟨a,rfl,h⟩
 | [],h=>exact (Bool.false_ne_true h).elim
 | _ :: _ :: _,h=>exact (Bool.false_ne_true h).elim
noncomputable def two {α:Type} (l:List α) (k:α->α->Bool):Bool:=match l with | [a,b]=>k a b | _=>false
theorem d5q {α:Type} {l:List α} {k:α->α->Bool} (h:two l k = true):∃ a b,l = [a,b] /\ k a b = true:=by
 match l,h with
 | [a,b],h=>exact ⟨a,b,rfl,h⟩
 | [],h=>exact (Bool.false_ne_true h).elim
 | [_],h=>exact (Bool.false_ne_true h).elim
 | _ :: _ :: _ :: _,h=>exact (Bool.false_ne_true h).elim
noncomputable def N0:PySem.Expr->Bool
 | .Slice _ _ _ _=>false
 | _=>true
noncomputable def c2k (m:Lam) (x:Option Str) (q:Pt):Bool:=decide (q.tag = 2) && (!a5m q.x && decide (x = some q.x))
noncomputable def c9f (m:Lam):LE->PySem.Expr->Bool
 | .par,e=>c2k m (some m.x) (B5 e)
 | .cap i,e=>c2k m m.caps[i]? (B5 e)
 | .int i,e=>decide ((B5 e).tag = 1 /\ (B5 e).cs = .int i)
 | .sub a b,e=>(decide ((B5 e).tag = 11) && N0 (B5 e).b) && (c9f m a (B5 e).a && c9f m b (B5 e).b)
 | .neg a,e=>decide ((B5 e).tag = 4 /\ (B5 e).uop = .USub) && c9f m a (B5 e).a
 | .tup a b,e=>decide ((B5 e).tag = 14) && two (B5 e).es (fun x y=>c9f m a x && c9f m b y)
noncomputable def b0z (m:Lam) (sc:Scope):Bool:=(decide (sc.kind = .function /\ (sc.names.map (·.1)).Nodup) && (!sc.isCoroutine && !sc.isGenerator)) && ((decide (sc.names.lookup m.x = some .local) && sc.names.all fun x=>decide (x.2 ≠ .cell)) && m.caps.all fun x=>decide (sc.names.lookup x = some .free))
noncomputable def c3l (x:Str) (ps:Arguments):Bool:=(ps.posonlyargs.isEmpty && ps.vararg.isNone) && (((ps.kwonlyargs.isEmpty && ps.kw_defaults.isEmpty) && ps.kwarg.isNone) && (ps.defaults.isEmpty && one ps.args fun a=>decide (a.arg = x)))
noncomputable def d3i (m:Lam) (ps:Arguments) (e:PySem.Expr) (sc:Scope):Bool:=(c3l m.x ps && b0z m sc) && c9f m m.body e
end
section
set_option backward.eqns.nonrecursive false
noncomputable abbrev a4c (items:Array Value) (n:Nat):Obj:={ cls:=.type "list",dict:=none,data:=.seq items n,slots:=#[] }
noncomputable abbrev d0b (items:Array Value) (n:Nat):Obj:={ cls:=.type "tuple",dict:=none,data:=.seq items n,slots:=#[] }
set_option genCtorIdx false in
inductive Loc where
 | dict (L:Addr) (x:Str) | cell (c:Addr)
noncomputable def Loc.ctorIdx (x:Loc):Nat:=Loc.casesOn x (fun u_ u_=>0) (fun u_=>1)
noncomputable def Loc.addr:Loc->Addr | .dict L _=>L | .cell c=>c
noncomputable def E4 (A:List (List Addr)) (l i:Nat):Option Addr:=match A[l]? with | some as=>as[i]? | none=>none
structure Wd where
 h:Heap
 A:List (List Addr)
 T:Addr->Prop
 M:Addr->Prop
mutual
inductive Rel (w:Wd):Nat->Value->V->Prop
 | imm {lv:Nat} {v:Value}:Rel w lv v (.imm v)
 | int {lv:Nat} {i:Int} {t:Tok}:Rel w lv (.int i t) (.int i)
 | str {lv:Nat} {x:Str} {t:Tok}:Rel w lv (.str x t) (.str x)
 | bytes {lv:Nat} {b:List UInt8} {t:Tok}:Rel w lv (.bytes b.toArray t) (.bytes b)
 | tup {lv:Nat} {a:Addr} {items:List Value} {n:Nat} {vs:List V}:¬ w.M a->w.h.get? a = some (d0b items.toArray n)->RelL w lv items vs->Rel w lv (.ref a) (.tup vs)
 | lst {lv:Nat} {a:Addr} {items:List Value} {n:Nat} {vs:List V}:¬ w.M a->w.h.get? a = some (a4c items.toArray n)->RelL w lv items vs->Rel w lv (.ref a) (.lst vs)
 | rng {lv:Nat} {a:Addr} {x y z:Int} {t u v:Tok}:¬ w.M a->IsRange w.h a x y z t u v->Rel w lv (.ref a) (.rng x y z)
 | ref {lv l i:Nat} {a:Addr}:l <= lv->E4 w.A l i = some a->Rel w lv (.ref a) (.ref l i)
inductive RelL (w:Wd):Nat->List Value->List V->Prop
 | nil {lv:Nat}:RelL w lv [] []
 | cons {lv:Nat} {v:Value} {x:V} {vs:List Value} {xs:List V}:Rel w lv v x->RelL w lv vs xs->RelL w lv (v :: vs) (x :: xs)
end
theorem RelL.ind {w:Wd} {lv:Nat} {p:List Value->List V->Prop} {vs:List Value} {xs:List V} (h:RelL w lv vs xs) (h0:p [] []) (h1:∀ {v x vs xs},Rel w lv v x->RelL w lv vs xs->p vs xs->p (v :: vs) (x :: xs)):p vs xs:=
 RelL.rec (motive_1:=fun u_ u_ u_=>True) (motive_2:=fun vs xs u_=>p vs xs) trivial trivial trivial trivial (fun u_ u_ u_ u_=>trivial) (fun u_ u_ u_ u_=>trivial) (fun u_ u_=>trivial) (fun u_ u_=>trivial) h0 (fun a b u_ ih=>h1 a b ih) h
noncomputable def d8d (w:Wd) (lv:Nat) (v:Value):V->Prop
 | .imm u=>v = u
 | .int i=>∃ t,v = .int i t
 | .str i=>∃ t,v = .str i t
 | .bytes b=>∃ t,v = .bytes b.toArray t
 | .tup vs=>∃ a items n,v = .ref a /\ ¬ w.M a /\ w.h.get? a = some (d0b items.toArray n) /\ RelL w lv items vs
 | .lst vs=>∃ a items n,v = .ref a /\ ¬ w.M a /\ w.h.get? a = some (a4c items.toArray n) /\ RelL w lv items vs
 | .rng x y z=>∃ a t u s,v = .ref a /\ ¬ w.M a /\ IsRange w.h a x y z t u s
 | .ref l i=>∃ a,v = .ref a /\ l <= lv /\ E4 w.A l i = some a
 | .clo _ _=>False
theorem Rel.inv {w:Wd} {lv:Nat} {v:Value} {x:V} (h:Rel w lv v x):d8d w lv v x:=
 Rel.rec (motive_1:=fun v x u_=>d8d w lv v x) (motive_2:=fun u_ u_ u_=>True) rfl ⟨_,rfl⟩ ⟨_,rfl⟩ ⟨_,rfl⟩ (fun a b c u_=>⟨_,_,_,rfl,a,b,c⟩) (fun a b c u_=>⟨_,_,_,rfl,a,b,c⟩) (fun a b=>⟨_,_,_,_,rfl,a,b⟩) (fun a b=>⟨_,rfl,a,b⟩) trivial (fun u_ u_ u_ u_=>trivial) h
section
variable {w:Wd} {lv:Nat} {v:Value} {R:Value->Prop}
@[elab_as_elim] theorem RelL.nil_e {vs:List Value} {R:List Value->Prop} (h:RelL w lv vs []) (K:R []):R vs:=
 h.ind (p:=fun vs xs=>xs = []->R vs) (fun u_=>K) (fun u_ u_ u_ e=>by cases e) rfl
@[elab_as_elim] theorem RelL.cons_e {vs:List Value} {x:V} {xs:List V} {R:List Value->Prop} (h:RelL w lv vs (x :: xs)) (K:∀ v vs,Rel w lv v x->RelL w lv vs xs->R (v :: vs)):R vs:=
 h.ind (p:=fun vs ys=>ys = x :: xs->R vs) (fun e=>by cases e) (fun h1 h2 u_ e=>by cases e; exact K _ _ h1 h2) rfl
@[elab_as_elim] theorem Rel.int_e {i:Int} (h:Rel w lv v (.int i)) (K:∀ t,R (.int i t)):R v:=by obtain ⟨t,e⟩:=h.inv; exact e ▸ K t
@[elab_as_elim] theorem Rel.str_e {i:Str} (h:Rel w lv v (.str i)) (K:∀ t,R (.str i t)):R v:=by obtain ⟨t,e⟩:=h.inv; exact e ▸ K t
@[elab_as_elim] theorem Rel.bytes_e {i:List UInt8} (h:Rel w lv v (.bytes i)) (K:∀ t,R (.bytes i.toArray t)):R v:=by obtain ⟨t,e⟩:=h.inv; exact e ▸ K t
@[elab_as_elim] theorem Rel.imm_e {i:Value} (h:Rel w lv v (.imm i)) (K:R i):R v:=(show v = i from h.inv) ▸ K
@[elab_as_elim] theorem Rel.tup_e {vs:List V} (h:Rel w lv v (.tup vs)) (K:∀ a items n,¬ w.M a->w.h.get? a = some (d0b (List.toArray items) n)->RelL w lv items vs->R (.ref a)):R v:=by obtain ⟨a,items,n,e,h1,h2,h3⟩:=h.inv; exact e ▸ K a items n h1 h2 h3
@[elab_as_elim] theorem Rel.lst_e {vs:List V} (h:Rel w lv v (.lst vs)) (K:∀ a items n,¬ w.M a->w.h.get? a = some (a4c (List.toArray items) n)->RelL w lv items vs->R (.ref a)):R v:=by obtain ⟨a,items,n,e,h1,h2,h3⟩:=h.inv; exact e ▸ K a items n h1 h2 h3
@[elab_as_elim] theorem Rel.ref_e {l i:Nat} (h:Rel w lv v (.ref l i)) (K:∀ a,l <= lv->E4 w.A l i = some a->R (.ref a)):R v:=by obtain ⟨a,e,h1,h2⟩:=h.inv; exact e ▸ K a h1 h2
end
noncomputable def d5r:Data->Bool
 | .dict _ _=>true
 | _=>false
noncomputable def Nd (o:Obj):Prop:=∀ es ep,o.data ≠ .dict es ep
noncomputable def Kp (h:Heap) (b:Addr) (o:Obj):Prop:=∃ sl,h.get? b = some { o with slots:=sl } /\ (Nd o->sl = o.slots)
theorem Kp.of {h:Heap} {b:Addr} {o:Obj} (e:h.get? b = some o):Kp h b o:=⟨o.slots,e,fun u_=>rfl⟩
theorem Kp.at {h:Heap} {b:Addr} {o:Obj} (k:Kp h b o) (n:Nd o):h.get? b = some o:=by
 obtain ⟨sl,e,q⟩:=k; rw [q n] at e; exact e
theorem G8 {o:Obj} (h:d5r o.data = false):Nd o:=fun es ep q=>by rw [q] at h; cases h
theorem Kp.live {h:Heap} {b:Addr} {o:Obj} (k:Kp h b o):∃ o',h.get? b = some o':=let ⟨_,e,_⟩:=k; ⟨_,e⟩
theorem Kp.then {h h':Heap} {b:Addr} {o:Obj} (k:Kp h b o) (t:∀ o',h.get? b = some o'->Kp h' b o'):Kp h' b o:=by
 obtain ⟨sl,e,q⟩:=k
 obtain ⟨sl',e',q'⟩:=t _ e
 exact ⟨sl',e',fun n=>(q' n).trans (q n)⟩
theorem Kp.ns {h h':Heap} {a:Addr} {m:Str->Option Value} (k:∀ o,h.get? a = some o->Kp h' a o) (hn:h.Ns a m):h'.Ns a m:=by
 obtain ⟨o,es,ep,ho,hd,r⟩:=hn
 obtain ⟨sl,hs,_⟩:=k o ho
 exact ⟨_,es,ep,hs,hd,r⟩
theorem Kp.cell {h h':Heap} {a:Addr} {v:Option Value} (k:∀ o,h.get? a = some o->Kp h' a o) (hn:h.IsCell a v):h'.IsCell a v:=by
 obtain ⟨o,ho,r⟩:=hn
 obtain ⟨sl,hs,_⟩:=k o ho
 exact ⟨_,hs,r⟩
structure Wd.Le (lv:Nat) (w w':Wd):Prop where
 keep:∀ b o,w.h.get? b = some o->¬ w.M b->Kp w'.h b o
 avoid:∀ b o,w.h.get? b = some o->w'.M b->w.M b
 same:∀ l i a,l <= lv->E4 w.A l i = some a->E4 w'.A l i = some a
noncomputable def c3m:Data->Bool
 | .cell _=>true
 | _=>false
structure Wd.Le0 (lv:Nat) (w w':Wd):Prop where
 keep:∀ b o,w.h.get? b = some o->¬ w.M b->Kp w'.h b o
 avoid:∀ b o,w.h.get? b = some o->c3m o.data = false->w'.M b->w.M b
 same:∀ l i a,l <= lv->E4 w.A l i = some a->E4 w'.A l i = some a
theorem Wd.Le.to0 {lv:Nat} {w w':Wd} (h:Wd.Le lv w w'):Wd.Le0 lv w w':=⟨h.keep,fun b o e u_=>h.avoid b o e,h.same⟩
theorem Rel.mono0 {w w':Wd} {lv lv':Nat} (hl:Wd.Le0 lv w w') (hlv:lv <= lv') {v:Value} {x:V} (h:Rel w lv v x):Rel w' lv' v x:=
 Rel.rec (motive_1:=fun v x u_=>Rel w' lv' v x) (motive_2:=fun vs xs u_=>RelL w' lv' vs xs) .imm .int .str .bytes
  (fun hm hg u_ ih=>.tup (fun h=>hm (hl.avoid _ _ hg rfl h)) ((hl.keep _ _ hg hm).at (G8 rfl)) ih) (fun hm hg u_ ih=>.lst (fun h=>hm (hl.avoid _ _ hg rfl h)) ((hl.keep _ _ hg hm).at (G8 rfl)) ih)
  (fun hm hg=>.rng (fun h=>hm (hl.avoid _ _ hg rfl h)) ((hl.keep _ _ hg hm).at (G8 rfl))) (fun h1 h2=>.ref (Nat.le_trans h1 hlv) (hl.same _ _ _ h1 h2)) .nil (fun u_ u_ a b=>.cons a b) h
theorem RelL.mono0 {w w':Wd} {lv lv':Nat} (hl:Wd.Le0 lv w w') (hlv:lv <= lv') {vs:List Value} {xs:List V} (h:RelL w lv vs xs):RelL w' lv' vs xs:=
 h.ind .nil fun h1 u_ ih=>.cons (h1.mono0 hl hlv) ih
theorem Rel.mono {w w':Wd} {lv lv':Nat} (hl:Wd.Le lv w w') (hlv:lv <= lv') {v:Value} {x:V} (h:Rel w lv v x):Rel w' lv' v x:=h.mono0 hl.to0 hlv
theorem RelL.mono {w w':Wd} {lv lv':Nat} (hl:Wd.Le lv w w') (hlv:lv <= lv') {vs:List Value} {xs:List V} (h:RelL w lv vs xs):RelL w' lv' vs xs:=h.mono0 hl.to0 hlv
theorem Wd.Le.refl (lv:Nat) (w:Wd):Wd.Le lv w w:=⟨fun u_ u_ e u_=>.of e,fun u_ u_ u_ h=>h,fun u_ u_ u_ u_ e=>e⟩
theorem Wd.Le.trans {lv:Nat} {a b c:Wd} (x:Wd.Le lv a b) (y:Wd.Le lv b c):Wd.Le lv a c:=
 ⟨fun d o e h=>(x.keep d o e h).then fun o' e'=>y.keep d o' e' (fun h'=>h (x.avoid d o e h')),fun d o e h=>by
  by_cases hm:a.M d
  ·exact hm
  ·obtain ⟨o',e'⟩:=(x.keep d o e hm).live
   exact absurd (x.avoid d o e (y.avoid d o' e' h)) hm,fun l i d h e=>y.same l i d h (x.same l i d h e)⟩
namespace RelL
theorem length {w:Wd} {lv:Nat} {vs:List Value} {xs:List V} (h:RelL w lv vs xs):vs.length = xs.length:=h.ind (p:=fun vs xs=>vs.length = xs.length) rfl fun u_ u_ ih=>congrArg (· + 1) ih
theorem get {w:Wd} {lv:Nat} {vs:List Value} {xs:List V} {i:Nat} {x:V} (h:RelL w lv vs xs):xs[i]? = some x->∃ v,vs[i]? = some v /\ Rel w lv v x:=
 h.ind (p:=fun vs xs=>∀ i,xs[i]? = some x->∃ v,vs[i]? = some v /\ Rel w lv v x) (fun u_ e=>by cases e) (fun h1 u_ ih i e=>match i,e with
  | 0,e=>⟨_,rfl,Option.some.inj e ▸ h1⟩
  | i + 1,e=>ih i e) i
theorem append {w:Wd} {lv:Nat} {vs us:List Value} {xs ys:List V} (h:RelL w lv vs xs) (k:RelL w lv us ys):RelL w lv (vs ++ us) (xs ++ ys):=
 h.ind (p:=fun vs xs=>RelL w lv (vs ++ us) (xs ++ ys)) k fun h1 u_ ih=>.cons h1 ih
theorem take {w:Wd} {lv:Nat} {vs:List Value} {xs:List V} (n:Nat) (h:RelL w lv vs xs):RelL w lv (vs.take n) (xs.take n):=
 h.ind (p:=fun vs xs=>∀ n,RelL w lv (vs.take n) (xs.take n)) (fun n=>match n with | 0=>.nil | _ + 1=>.nil) (fun h1 u_ ih n=>match n with | 0=>.nil | n + 1=>.cons h1 (ih n)) n
theorem drop {w:Wd} {lv:Nat} {vs:List Value} {xs:List V} (n:Nat) (h:RelL w lv vs xs):RelL w lv (vs.drop n) (xs.drop n):=
 h.ind (p:=fun vs xs=>∀ n,RelL w lv (vs.drop n) (xs.drop n)) (fun n=>match n with | 0=>.nil | _ + 1=>.nil) (fun h1 h2 ih n=>match n with | 0=>.cons h1 h2 | n + 1=>ih n) n
theorem set {w:Wd} {lv:Nat} {v:Value} {x:V} (hv:Rel w lv v x) {vs:List Value} {xs:List V} (n:Nat) (h:RelL w lv vs xs):RelL w lv (vs.set n v) (xs.set n x):=
 h.ind (p:=fun vs xs=>∀ n,RelL w lv (vs.set n v) (xs.set n x)) (fun n=>match n with | 0=>.nil | _ + 1=>.nil) (fun h1 h2 ih n=>match n with | 0=>.cons hv h2 | n + 1=>.cons h1 (ih n)) n
theorem reverse {w:Wd} {lv:Nat} {vs:List Value} {xs:List V} (h:RelL w lv vs xs):RelL w lv vs.reverse xs.reverse:=
 h.ind (p:=fun vs xs=>RelL w lv vs.reverse xs.reverse) .nil fun h1 u_ ih=>by rw [List.reverse_cons,List.reverse_cons]; exact append ih (.cons h1 .nil)
theorem replicate {w:Wd} {lv:Nat} {vs:List Value} {xs:List V} (h:RelL w lv vs xs) (n:Nat):RelL w lv (List.replicate n vs).flatten (List.replicate n xs).flatten:=
 Nat.rec .nil (fun u_ ih=>append h ih) n
theorem toInts {w:Wd} {lv:Nat} {vs:List Value} {xs:List V} {is:List Int} (h:RelL w lv vs xs):F5 xs = some is->IntsAre vs is /\ xs = is.map .int:=
 h.ind (p:=fun vs xs=>∀ is,F5 xs = some is->IntsAre vs is /\ xs = is.map .int) (fun is e=>by cases e; exact ⟨by constructor,rfl⟩) (fun {v x vs xs} h1 _ ih is e=>by
  obtain ⟨i,l,rfl,hl,rfl⟩:=b9h e
  obtain ⟨a,b⟩:=ih l hl
  exact h1.int_e fun t=>⟨by constructor; exact a,by rw [b]; rfl⟩) is
end RelL
end
section
set_option maxRecDepth 100000
section
variable {prog:Program} {w:World} {A:Around} {E:Value->Shared->Prop} {s:Shared} {kvs:List (Int × Value)} {ep:Nat} {it d:Addr}
theorem a8o {k:Int} {key v:Value} {Q:Unit->Shared->Prop} (hkey:(intKind prog w).is k key = true) (hm:s.heap.DictAt (intKind prog w) d kvs ep) (hsz:kvs.length <= sizeLine)
  (hQ:∀ h',h'.DictAt (intKind prog w) d (stored kvs k v) (if (kvs.any fun kv=>kv.1 = k) = true then ep else ep + 1)->Heap.SameBut d s.heap h'->Q () { s with heap:=h',toks:=s.toks + 1 }) :
  wpAny (model prog w) A (setItem (.ref d) key v) Q E s:=by
 have hT:=hm.dictOf.typeIs
 obtain ⟨o,es,ho,hc,hd,hk,hp,hn⟩:=hm
 have hes:es.size <= sizeLine:=by rw [<- Array.length_toList,hp.length]; exact hsz
 unfold setItem
 refine wpAny_holding (wpAny_bind (wpAny_sequenceKey hT (by decide) ?_))
 refine wpAny_bind (wpAny_callSpecial?_slot (name:=Str.ofString "__setitem__") hT slot_dict_setitem (wpAny_call_entry slot_dict_setitem hT entry_dict_setitem ?_ (args_dict_setitem _ _ _)))
 show wpAny _ _ (Builtin.Dict.notOrdered "__setitem__" ⟨[.ref d,key,v],[]⟩ >>= _) _ _ s
 refine wpAny_bind (wpAny_notOrdered_dict hT ?_)
 show wpAny _ _ (dictSet d key v >>= _) _ _ s
 refine wpAny_bind ?_
 unfold dictSet
 refine wpAny_holding (wpAny_bind ((intKind prog w).pyHash hkey ?_))
 unfold dictSetHashed
 refine wpAny_holding (wpAny_bind (wpAny_dictFind_of (s:={ s with toks:=s.toks + 1 }) hkey ho hd hk ?_))
 have fin:∀ {A':Around} h',h'.DictAt (intKind prog w) d (stored kvs k v) (if (kvs.any fun kv=>kv.1 = k) = true then ep else ep + 1)->Heap.SameBut d s.heap h'->wpAny (model prog w) A' (ret Value.none) (fun fin s'=>∃ x,fin = .done (.ret x) /\ wpAny (model prog w) A (pure ()) Q E s') E { s with heap:=h',toks:=s.toks + 1 }:=fun {A'} h' a b=>wpAny_pure ⟨_,rfl,wpAny_pure (hQ h' a b)⟩
 have el:es.toList.findIdx? (fun e=>(intKind prog w).is k e.key) = es.findIdx? fun e=>(intKind prog w).is k e.key:=by cases es; simp
 have ix:=(hp.findIdx k).symm.trans el
 cases q:es.findIdx? fun e=>(intKind prog w).is k e.key with
 | some i=>
  rw [q] at ix el
  have has:=any_of_findIdx_some ix
  refine wpAny_bind (wpAny_rule (wpAny_bind (wpAny_updateDict (s:={ s with toks:=s.toks + 1 }) ho hd (wpAny_point ?_))))
  refine fin _ ⟨_,_,Heap.get?_update_self _ ho (Obj.isFreed_of_dict (Obj.data_mapDict hd _)),hc.mapDict _,by rw [if_pos has]; exact Obj.data_mapDict hd _,hk.modify _ _,?_,?_⟩ (Heap.SameBut.update ..)
  ·rw [stored,if_pos has,Array.toList_modify]
   exact hp.modify hn el v
  ·rw [stored,if_pos has,keys_map_store]; exact hn
 | none=>
  rw [q] at ix
  have hnot:=not_mem_of_findIdx_none ix
  have has:¬ (kvs.any fun kv=>decide (kv.1 = k)) = true:=fun h=>by
   obtain ⟨x,mx,e⟩:=List.any_eq_true.mp h
   exact hnot (List.mem_map.mpr ⟨x,mx,of_decide_eq_true e⟩)
  refine wpAny_bind (wpAny_rule (wpAny_updateDictKeys (hz:=hes) (s:={ s with toks:=s.toks + 1 }) ho hd ?_))
  refine fin _ ⟨_,_,Heap.get?_update_self _ ho (Obj.isFreed_of_dict (Obj.data_mapDictKeys hd _)),hc.mapDictKeys _,by rw [if_neg has]; exact Obj.data_mapDictKeys hd _,hk.push hkey _,?_,?_⟩ (Heap.SameBut.update ..)
  ·rw [stored,if_neg has,Array.toList_push]
   exact hp.append hkey _ v
  ·rw [stored,if_neg has,List.map_append]
   exact List.nodup_append.mpr ⟨hn,List.pairwise_singleton ..,fun a ha b hb e=>hnot ((e.trans (show b = k from List.mem_singleton.mp hb)) ▸ ha)⟩
theorem T7 {i:Nat} {k:Int} {x:Value} {Q:Value->Shared->Prop} (hit:s.heap.IsKeyIter it d i kvs.length ep) (hm:s.heap.DictAt (intKind prog w) d kvs ep) (hx:kvs[i]? = some (k,x))
  (hQ:∀ t h',h'.IsKeyIter it d (i + 1) kvs.length ep->Heap.SameBut it s.heap h'->Q (.int k t) { s with heap:=h' }):wpAny (model prog w) A (Builtin.SmallTypes.nextOf (.ref it)) Q E s:=by
 unfold Builtin.SmallTypes.nextOf
 refine wpAny_bind (kdk_special hit hm hx fun key h' hk a b=>?_)
 obtain ⟨t,rfl⟩:=Value.isInt_shape hk
 exact wpAny_pure (hQ t h' a b)
theorem Y4 {Q:Value->Shared->Prop} (hh:A.handled = none) (hit:s.heap.IsKeyIter it d kvs.length kvs.length ep) (hm:s.heap.DictAt (intKind prog w) d kvs ep)
  (hE:∀ h' e,Heap.ExtBut it s.heap h'->(∃ o,h'.get? e = some o /\ o.cls = .type "StopIteration")->E (.ref e) { s with heap:=h' }):wpAny (model prog w) A (Builtin.SmallTypes.nextOf (.ref it)) Q E s:=by
 have hT:=hit.typeIs
 obtain ⟨o,ho,hc,hd⟩:=hit
 obtain ⟨od,es,hod,hcd,hdd,hk,hp,hn⟩:=hm
 have hsz:es.size = kvs.length:=by rw [<- hp.length,Array.length_toList]
 unfold Builtin.SmallTypes.nextOf
 refine wpAny_bind (wpAny_callSpecial?_slot (name:=Str.ofString "__next__") hT PySem.F.slot_dict_keyiterator_next
  (wpAny_call_entry PySem.F.slot_dict_keyiterator_next hT PySem.F.entry_dict_keyiterator_next ?_ (PySem.F.args_dict_keyiterator_next_1 _)))
 refine wpAny_bind (wpAny_pure ?_)
 refine wpAny_bind ?_
 refine wpAny_bind ?_
 refine wpAny_bind (wpAny_typeNameOfWhole_keyiter hT (wpAny_pure ?_))
 refine wpAny_bind (wpAny_fieldsOf ho hd ?_)
 have hown:Builtin.Dict_items.ownsTuple "dict_keyiterator" = false:=by decide
 rw [hown,if_neg Bool.false_ne_true]
 show wpAny _ _ (if (Value.ref d == Value.none) = true then _ else _) _ _ s
 rw [if_neg (show ¬ ((Value.ref d == Value.none) = true) from Bool.false_ne_true)]
 refine wpAny_bind (wpAny_pure ?_)
 refine wpAny_bind (wpAny_dictEntries hod hdd ?_)
 rw [if_neg (by rw [hsz]; simp)]
 refine wpAny_bind (wpAny_pure ?_)
 refine wpAny_bind (wpAny_dictEpoch hod hdd ?_)
 rw [if_neg (by simp)]
 refine wpAny_pure ?_
 dsimp only
 rw [if_neg (show ¬ ((kvs.length:Int) < 0) from Int.not_lt.mpr (Int.natCast_nonneg _)),Int.toNat_natCast,Array.getElem?_eq_none (Nat.le_of_eq hsz)]
 refine wpAny_bind ?_
 refine wpAny_bind (wpAny_typeNameOfWhole_keyiter hT (wpAny_pure ?_))
 show wpAny _ _ (setField (.ref it) 0 .none >>= _) _ _ s
 refine wpAny_bind (wpAny_setField ho hd (by simp) ?_)
 show wpAny _ _ (newExc (.type "StopIteration") [] >>= _) _ _ _
 refine wpAny_bind ?_
 simp only [newExc,newTuple]
 refine wpAny_bind (wpAny_newObj_type ?_ (by size_fits))
 refine wpAny_bind (m:=firstArgMember _ _) (wpAny_of_eq (a:=Value.none) (by first | rfl | (simp only [firstArgMember]; rfl)) ?_)
 refine wpAny_newObj_type ?_ (by size_fits)
 delta raiseNew
 refine wpAny_bind (wpAny_handled ?_)
 first | rw [show A.in1.handled = none from hh] | rw [hh]
 refine wpAny_bind (wpAny_pure (wpAny_throw ?_))
 exact hE _ _ (((Heap.SameBut.update ..).extBut.push _).push _) ⟨_,Heap.get?_push_size _ rfl,rfl⟩
end
theorem Draws.keys {prog:Program} {w:World} {A:Around} (hh:A.handled = none) (it d:Addr) (hne:d ≠ it) (kvs:List (Int × Value)) (ep:Nat) :
  Draws prog w A it [it,d] kvs.length (fun i v=>∃ k x t,kvs[i]? = some (k,x) /\ v = .int k t) (fun i h=>h.IsKeyIter it d i kvs.length ep /\ h.DictAt (intKind prog w) d kvs ep) where
 live:=fun u_ u_ st=>st.1.elim fun o r=>⟨o,r.1⟩
 frame:=fun u_ u_ u_ st hk=>⟨st.1.elim fun o r=>⟨o,hk it (.head _) o r.1,r.2⟩,st.2.elim fun o q=>q.elim fun es r=>⟨o,es,hk d (.tail _ (.head _)) o r.1,r.2⟩⟩
 item:=fun i s Q E hi st hQ=>T7 st.1 st.2 (List.getElem?_eq_getElem hi) fun t h' a b=>hQ _ h' s.toks ⟨_,_,t,List.getElem?_eq_getElem hi,rfl⟩ ⟨a,st.2.extBut b.extBut hne⟩ b
 done:=fun s Q E st hE=>Y4 hh st.1 st.2 hE
theorem b4j {prog prog':Program} {w w':World} {es:List DictEntry} {kvs:List (Int × Value)} (x:Pairs (intKind prog w) es kvs):Pairs (intKind prog' w') es kvs:=by
 induction x with
 | nil=>exact .nil
 | cons h1 h2 _ ih=>exact .cons h1 h2 ih
theorem a2c {prog prog':Program} {w w':World} {h:Heap} {d:Addr} {kvs:List (Int × Value)} {ep:Nat} (x:h.DictAt (intKind prog w) d kvs ep):h.DictAt (intKind prog' w') d kvs ep:=by
 obtain ⟨o,es,ho,hc,hd,hk,hp,hn⟩:=x
 exact ⟨o,es,ho,hc,hd,hk,b4j hp,hn⟩
noncomputable def a5o (kvs:List (Int × Int)) (k:Int):Option Int:=(kvs.find? fun p=>p.1 = k).map (·.2)
noncomputable def Y5 (kvs:List (Int × Int)) (k v:Int):List (Int × Int):=if (kvs.any fun p=>p.1 = k) = true then kvs.map fun p=>if p.1 = k then (p.1,v) else p else kvs ++ [(k,v)]
noncomputable def b4c (ts:Int->Tok) (kvs:List (Int × Int)):List (Int × Value):=kvs.map fun p=>(p.1,.int p.2 (ts p.1))
theorem c3n (ts:Int->Tok) (kvs:List (Int × Int)) (k:Int):((b4c ts kvs).any fun kv=>decide (kv.1 = k)) = kvs.any fun p=>decide (p.1 = k):=by
 unfold b4c
 rw [List.any_map]; rfl
theorem b6x (ts:Int->Tok) (kvs:List (Int × Int)) (k:Int):valueAt (b4c ts kvs) k = (a5o kvs k).map fun v=>.int v (ts k):=by
 unfold valueAt a5o
 induction kvs with
 | nil=>rfl
 | cons p kvs ih=>
  show Option.map _ (List.find? _ ((p.1,Value.int p.2 (ts p.1)) :: b4c ts kvs)) = _
  rw [List.find?_cons,List.find?_cons]
  by_cases q:p.1 = k
  ·subst q; simp
  ·rw [decide_eq_false q]; exact ih
theorem b9q (ts:Int->Tok) (kvs:List (Int × Int)) (k v:Int) (u:Tok):stored (b4c ts kvs) k (.int v u) = b4c (fun x=>if x = k then u else ts x) (Y5 kvs k v):=by
 unfold stored Y5
 rw [c3n]
 by_cases q:(kvs.any fun p=>decide (p.1 = k)) = true
 ·rw [if_pos q,if_pos q]
  unfold b4c
  rw [List.map_map,List.map_map]
  refine List.map_congr_left fun p u_=>?_
  by_cases w:p.1 = k
  ·simp [Function.comp,w]
  ·simp [Function.comp,w]
 ·rw [if_neg q,if_neg q]
  unfold b4c
  rw [List.map_append]
  congr 1
  ·refine List.map_congr_left fun p m=>?_
   have w:p.1 ≠ k:=fun e=>q (List.any_eq_true.mpr ⟨p,m,decide_eq_true e⟩)
   show _ = (p.1,Value.int p.2 (if p.1 = k then u else ts p.1))
   rw [if_neg w]
  ·simp
theorem b4k (kvs:List (Int × Int)) (k v:Int):(Y5 kvs k v).length = if (kvs.any fun p=>p.1 = k) = true then kvs.length else kvs.length + 1:=by
 unfold Y5
 by_cases q:(kvs.any fun p=>decide (p.1 = k)) = true
 ·rw [if_pos q,if_pos q,List.length_map]
 ·rw [if_neg q,if_neg q,List.length_append]; rfl
noncomputable def DctRep (h:Heap) (a:Addr) (kvs:List (Int × Int)):Prop:=(a == sysModules) = false /\ ∃ (prog:Program) (w:World) (ts:Int->Tok),h.DictAt (intKind prog w) a (b4c ts kvs) kvs.length
theorem DctRep.at {h h':Heap} {a:Addr} {kvs:List (Int × Int)} (x:DctRep h a kvs) (k:∀ o,h.get? a = some o->h'.get? a = some o):DctRep h' a kvs:=by
 obtain ⟨prog,w,ts,o,es,r⟩:=x.2
 exact ⟨x.1,prog,w,ts,o,es,k o r.1,r.2⟩
theorem DctRep.dict {h:Heap} {a:Addr} {kvs:List (Int × Int)} (x:DctRep h a kvs) (prog:Program) (w:World):∃ ts,h.DictAt (intKind prog w) a (b4c ts kvs) kvs.length:=by
 obtain ⟨_,_,ts,d⟩:=x.2
 exact ⟨ts,a2c d⟩
theorem DctRep.live {h:Heap} {a:Addr} {kvs:List (Int × Int)} (x:DctRep h a kvs):∃ o,h.get? a = some o:=by
 obtain ⟨_,_,_,o,_,r⟩:=x.2
 exact ⟨o,r.1⟩
set_option maxHeartbeats 1000000 in
theorem S2 {prog:Program} {w:World} {A:Around} {E:Value->Shared->Prop} {s:Shared} {cls:Value} {Q:Bool->Shared->Prop} (h:∀ b,Q b s):wpAny (model prog w) A (Builtin.SmallTypes.calledThroughType cls) Q E s:=by
 unfold Builtin.SmallTypes.calledThroughType
 exact wpAny_bind (wpAny_stack_any fun st=>wpAny_pure (h _))
theorem J4 (d:Addr) (kvs:List (Int × Value)) (ep:Nat) (hds:(d == sysModules) = false) :
  Meets (Builtin.«enumerate.__new__» ⟨[.type "enumerate",.ref d],[]⟩) (fun u_ R s=>(∃ prog w,s.heap.DictAt (intKind prog w) d kvs ep) /\
   R (.ok (.ret (.ref (s.heap.push { cls:=.type "dict_keyiterator",data:=.fields #[.ref d,.int 0 0,.int kvs.length 0,.int ep 0] }).objs.size)))
    { s with heap:=(s.heap.push { cls:=.type "dict_keyiterator",data:=.fields #[.ref d,.int 0 0,.int kvs.length 0,.int ep 0] }).push { cls:=.type "enumerate",data:=.fields #[.none,.bool false,.ref s.heap.objs.size,rawInt 0,.none,.none] } }):=
 .of_wp fun prog w A R s h=>by
  obtain ⟨hp,g,dd,tk,os⟩:=s
  obtain ⟨⟨_,_,hm⟩,h⟩:=h
  have hm:Heap.DictAt (intKind prog w) (Shared.heap ⟨hp,g,dd,tk,os⟩) d kvs ep:=a2c hm
  have hsub:=sub_enumerate
  wp_walk using S2
  intro b
  cases b
  ·wp_walk using wpAny_pyIter_dict hds hm
   exact ⟨_,rfl,h⟩
  ·wp_walk using wpAny_pyIter_dict hds hm
   exact ⟨_,rfl,h⟩
section
variable {prog:Program} {w:World} {A:Around} {E:Value->Shared->Prop} {s:Shared}
theorem L1 {d:Addr} {kvs:List (Int × Value)} {ep:Nat} (hds:(d == sysModules) = false) (hm:s.heap.DictAt (intKind prog w) d kvs ep) {Q:Value->Shared->Prop}
  (h:∀ h',IsEnum h' (s.heap.objs.size + 1) s.heap.objs.size 0 .none->h'.IsKeyIter s.heap.objs.size d 0 kvs.length ep->
   (∀ b o,s.heap.get? b = some o->h'.get? b = some o)->Q (.ref (s.heap.objs.size + 1)) { s with heap:=h' }) :
  wpAny (model prog w) A (call (.type "enumerate") [.ref d]) Q E s:=by
 refine callType_new F.called_enumerate (by decide) (F.typeCall_enumerate_1 _) (F.newCall_enumerate_1 _) (fun obj=>F.args_object_init_2 obj _) F.entry_enumerate_new
  (J4 d kvs ep hds) ⟨⟨_,_,hm⟩,?_⟩
 have hz:(s.heap.push { cls:=.type "dict_keyiterator",data:=.fields #[.ref d,.int 0 0,.int kvs.length 0,.int ep 0] }).objs.size = s.heap.objs.size + 1:=Heap.size_push ..
 show _ /\ _
 rw [hz]
 have he:IsEnum ((s.heap.push { cls:=.type "dict_keyiterator",data:=.fields #[.ref d,.int 0 0,.int kvs.length 0,.int ep 0] }).push
   { cls:=.type "enumerate",data:=.fields #[.none,.bool false,.ref s.heap.objs.size,rawInt 0,.none,.none] }) (s.heap.objs.size + 1) s.heap.objs.size 0 .none:=by
  have:=Heap.get?_push_size (s.heap.push { cls:=.type "dict_keyiterator",data:=.fields #[.ref d,.int 0 0,.int kvs.length 0,.int ep 0] })
   (o:={ cls:=.type "enumerate",data:=.fields #[.none,.bool false,.ref s.heap.objs.size,rawInt 0,.none,.none] }) rfl
  rw [hz] at this; exact this
 exact ⟨⟨_,he,rfl⟩,h _ he ⟨_,Heap.get?_push_of_some _ (Heap.get?_push_size _ rfl),rfl,rfl⟩ fun b o y=>Heap.get?_push_of_some _ (Heap.get?_push_of_some _ y)⟩
end
end
section
set_option backward.eqns.nonrecursive false
structure Base where
 prog:Program
 w:World
 G:Pg
 frs:List Addr
 h₀:Heap
 mg:Str->Option Value
 mb:Str->Option Value
 nsG:h₀.Ns mainGlobals mg
 nsB:h₀.Ns builtinsNs mb
 nolim:h₀.NoLimit
noncomputable def Base.on (B:Base) (frs:List Addr):Base:={ B with frs:=frs }
noncomputable def Tch (lay:List Loc) (A:List (List Addr)) (b:Addr):Prop:=(∃ l ∈ lay,l.addr = b) ∨ ∃ l i,E4 A l i = some b
noncomputable def Avd (lay:List Loc) (A:List (List Addr)) (P:Addr->Prop) (b:Addr):Prop:=Tch lay A b ∨ P b
noncomputable abbrev wd (lay:List Loc) (A:List (List Addr)) (P:Addr->Prop) (h:Heap):Wd:=⟨h,A,Tch lay A,Avd lay A P⟩
noncomputable def CodeM (w:Wd) (cv:Value) (q:Str):Prop:=∃ c o vs t,cv = .ref c /\ ¬ w.M c /\ w.h.get? c = some o /\ o.data = .fields vs /\ vs[1]? = some (.str q t)
theorem CodeM.mono0 {w w':Wd} {lv:Nat} {cv:Value} {q:Str} (le:Wd.Le0 lv w w') (h:CodeM w cv q):CodeM w' cv q:=by
 obtain ⟨c,o,vs,t,e,h1,h2,h3,h4⟩:=h
 exact ⟨c,o,vs,t,e,fun x=>h1 (le.avoid _ _ h2 (by rw [h3]; rfl) x),(le.keep _ _ h2 h1).at (G8 (by rw [h3]; rfl)),h3,h4⟩
theorem CodeM.mono {w w':Wd} {lv:Nat} {cv:Value} {q:Str} (le:Wd.Le lv w w') (h:CodeM w cv q):CodeM w' cv q:=h.mono0 le.to0
theorem CodeM.rc {w:Wd} {cv:Value} {q:Str} (h:CodeM w cv q):w.h.CodeRec cv q:=by
 obtain ⟨c,o,vs,t,e,_,h2,h3,h4⟩:=h
 exact ⟨c,o,vs,t,e,h2,h3,h4⟩
noncomputable def TabRep (w:Wd) (a c:Addr) (q:Str):Prop:=∃ ps,w.h.get? a = some (tabObj ps) /\ TriplesOk ps.toList /\ (∀ pos cv,codeAmong pos ps.toList = some cv->CodeM w cv q) /\ ¬ w.M c /\ CodeHd w.h c a
theorem TabRep.mono0 {w w':Wd} {lv:Nat} {a c:Addr} {q:Str} (le:Wd.Le0 lv w w') (ha:∀ o,w.h.get? a = some o->Nd o->w'.h.get? a = some o) (h:TabRep w a c q):TabRep w' a c q:=by
 obtain ⟨ps,h1,h2,h3,h4,o,vs,file,tf,flags,tg,inF,text,tt,e1,e2,e3,e4⟩:=h
 exact ⟨ps,ha _ h1 (G8 rfl),h2,fun pos cv e=>(h3 pos cv e).mono0 le,fun x=>h4 (le.avoid _ _ e1 (by rw [e3]; rfl) x),o,vs,file,tf,flags,tg,inF,text,tt,(le.keep _ _ e1 h4).at (G8 (by rw [e3]; rfl)),e2,e3,e4⟩
theorem TabRep.mono {w w':Wd} {lv:Nat} {a c:Addr} {q:Str} (le:Wd.Le lv w w') (ha:∀ o,w.h.get? a = some o->Nd o->w'.h.get? a = some o) (h:TabRep w a c q):TabRep w' a c q:=h.mono0 le.to0 ha
noncomputable def CloRep (w:Wd) (lv:Nat) (v:Value) (m:Lam) (vs:List V):Prop:=∃ a qual ps e sc clos pm cdv ct,v = .ref a /\ ¬ w.M a /\ w.h.get? a = some { cls:=.type "function",data:=.func (kla_fn "<lambda>" qual ps e sc clos pm cdv ct) } /\ CodeM w cdv qual /\ d3i m ps e sc = true /\
 ∀ (i:Nat) (x:Str),m.caps[i]? = some x->∃ (c:Addr) (cv:Value) (u:V),clos.lookup x = some c /\ ¬ w.M c /\ w.h.IsCell c (some cv) /\ vs[i]? = some u /\ Rel w lv cv u
theorem CloRep.mono {w w':Wd} {lv lv':Nat} {v:Value} {m:Lam} {vs:List V} (le:Wd.Le lv w w') (hlv:lv <= lv') (h:CloRep w lv v m vs):CloRep w' lv' v m vs:=by
 obtain ⟨a,qual,ps,e,sc,clos,pm,cdv,ct,e1,h1,h2,h3,h4,h5⟩:=h
 refine ⟨a,qual,ps,e,sc,clos,pm,cdv,ct,e1,fun x=>h1 (le.avoid _ _ h2 x),(le.keep _ _ h2 h1).at (G8 rfl),h3.mono le,h4,fun i x q=>?_⟩
 obtain ⟨c,cv,u,k1,k2,⟨o,k3,k4⟩,k5,k6⟩:=h5 i x q
 exact ⟨c,cv,u,k1,fun x=>k2 (le.avoid _ _ k3 x),⟨o,(le.keep _ _ k3 k2).at (G8 (by rw [k4]; rfl)),k4⟩,k5,k6.mono le hlv⟩
inductive RelO (w:Wd) (lv:Nat):Option Value->Option V->Prop
 | none {v}:RelO w lv v none
 | some {v x}:Rel w lv v x->RelO w lv (some v) (some x)
 | clo {v m vs}:CloRep w lv v m vs->RelO w lv (some v) (some (.clo m vs))
theorem RelO.mono {w w':Wd} {lv lv':Nat} (hl:Wd.Le lv w w') (hlv:lv <= lv') {v x} (h:RelO w lv v x):RelO w' lv' v x:=by
 cases h with
 | none=>exact .none
 | some h=>exact .some (h.mono hl hlv)
 | clo h=>exact .clo (h.mono hl hlv)
noncomputable def P9 (w:Wd) (lv:Nat):Loc->Option V->Prop
 | .dict L x,o=>∃ m,w.h.Ns L m /\ RelO w lv (m x) o
 | .cell c,o=>∃ cv,w.h.IsCell c cv /\ RelO w lv cv o
noncomputable def L3 (w:Wd) (l:Nat) (a:Addr):AObj->Prop
 | .list vs=>∃ items n,w.h.get? a = some (a4c (List.toArray items) n) /\ RelL w l items vs
 | .iter vs=>∃ b items n i,w.h.get? a = some { cls:=.type "list_iterator",dict:=none,data:=.fields #[.ref b,.int (i:Nat) 0],slots:=#[] } /\ ¬ w.M b /\
   w.h.get? b = some (a4c (List.toArray items) n) /\ RelL w l (items.drop i) vs
 | .tab c q=>TabRep w a c q
 | .dead=>∃ o,w.h.get? a = some o /\ Nd o
 | .dct kvs=>DctRep w.h a kvs
noncomputable def Loc.apart:Loc->Loc->Prop
 | .dict L x,.dict L' y=>L ≠ L' ∨ x ≠ y
 | .dict L _,.cell c=>L ≠ c
 | .cell c,.dict L _=>c ≠ L
 | .cell c,.cell c'=>c ≠ c'
structure Ok (B:Base) (lay:List Loc) (P:Addr->Prop) (nl:Nat) (A:List (List Addr)) (st:St) (s:Shared):Prop where
 base:∀ b o,B.h₀.get? b = some o->s.heap.get? b = some o
 baseM:∀ b o,B.h₀.get? b = some o->¬ Avd lay A P b
 frs:∀ L ∈ B.frs,∃ o es ep,s.heap.get? L = some o /\ o.data = .dict es ep /\ B.h₀.get? L = none /\ ∀ l i,E4 A l i ≠ some L
 len:st.ρ.length = lay.length
 slots:∀ (i:Nat) (l:Loc),lay[i]? = some l->P9 (wd lay A P s.heap) (nl - 1) l (st.ρ[i]?).join
 sep:∀ (i j:Nat) (l l':Loc),lay[i]? = some l->lay[j]? = some l'->i ≠ j->l.apart l'
 lenA:A.length = st.R.length
 dimA:∀ l i,E4 A l i = none ↔ st.obj l i = none
 objs:∀ l i o a,st.obj l i = some o->E4 A l i = some a->L3 (wd lay A P s.heap) l a o
 inj:∀ l i l' i' a,E4 A l i = some a->E4 A l' i' = some a->l = l' /\ i = i'
 layA:∀ l ∈ lay,∀ k i,E4 A k i ≠ some l.addr
 disP:∀ b,P b->¬ Tch lay A b
 alive:∀ b,Avd lay A P b->∃ o,s.heap.get? b = some o
 rlen:st.R.length = nl
 lvl:0 < nl
noncomputable def ign {α:Type} (_:α):Unit:=()
structure Go (lay:List Loc) (A A':List (List Addr)) (s s':Shared):Prop where
 keep:∀ b o,s.heap.get? b = some o->¬ Tch lay A b->Kp s'.heap b o
 live:∀ b o,s.heap.get? b = some o->∃ o',s'.heap.get? b = some o'
 same:∀ l i a,E4 A l i = some a->E4 A' l i = some a
 new:∀ l i a,E4 A' l i = some a->E4 A l i = some a ∨ s.heap.get? a = none
 rest:s'.gens = s.gens /\ ign s'.drawn = ign s.drawn /\ s'.os = s.os
theorem Go.refl {lay A s}:Go lay A A s s:=⟨fun u_ u_ e u_=>.of e,fun u_ o e=>⟨o,e⟩,fun u_ u_ u_ e=>e,fun u_ u_ u_ e=>.inl e,rfl,rfl,rfl⟩
theorem Go.tch {lay A A' s s'} (g:Go lay A A' s s') {b o} (e:s.heap.get? b = some o) (h:Tch lay A' b):Tch lay A b:=by
 rcases h with h | ⟨l,i,h⟩
 ·exact .inl h
 ·rcases g.new l i b h with h | h
  ·exact .inr ⟨l,i,h⟩
  ·rw [e] at h; cases h
theorem Go.trans {lay A A' A'' s s' s''} (g:Go lay A A' s s') (k:Go lay A' A'' s' s''):Go lay A A'' s s'' where
 keep b o e h:=(g.keep b o e h).then fun o' e'=>k.keep b o' e' fun h'=>h (g.tch e h')
 live b o e:=let ⟨o',e'⟩:=g.live b o e; k.live b o' e'
 same l i a e:=k.same l i a (g.same l i a e)
 new l i a e:=by
  rcases k.new l i a e with e | e
  ·exact g.new l i a e
  ·cases h:s.heap.get? a with
   | none=>exact .inr rfl
   | some o=>obtain ⟨o',h'⟩:=g.live a o h; rw [e] at h'; cases h'
 rest:=⟨k.rest.1.trans g.rest.1,k.rest.2.1.trans g.rest.2.1,k.rest.2.2.trans g.rest.2.2⟩
theorem Go.le {lay A A' s s'} (g:Go lay A A' s s') (P:Addr->Prop) (lv:Nat):Wd.Le lv (wd lay A P s.heap) (wd lay A' P s'.heap) where
 keep b o e h:=g.keep b o e fun h'=>h (.inl h')
 avoid b o e h:=by
  rcases h with h | h
  ·exact .inl (g.tch e h)
  ·exact .inr h
 same l i a _ e:=g.same l i a e
noncomputable def Post {α β:Type} (B:Base) (lay:List Loc) (P:Addr->Prop) (A:List (List Addr)) (s:Shared) (nl:Nat) (st':St) (r:β) (RR:Wd->Nat->α->β->Prop) (v:α) (s':Shared):Prop:=
 ∃ A',Go lay A A' s s' /\ Ok B lay P nl A' st' s' /\ RR (wd lay A' P s'.heap) (nl - 1) v r
theorem Post.lift {α β:Type} {B lay P A A₁ s s₁ nl st'} {r:β} {RR:Wd->Nat->α->β->Prop} {v:α} {s'} (g:Go lay A A₁ s s₁) (h:Post B lay P A₁ s₁ nl st' r RR v s'):Post B lay P A s nl st' r RR v s':=by
 obtain ⟨A',g',h⟩:=h
 exact ⟨A',g.trans g',h⟩
theorem Post.pure {α β:Type} {B lay P A s nl st} {r:β} {RR:Wd->Nat->α->β->Prop} {v:α} (ok:Ok B lay P nl A st s) (hr:RR (wd lay A P s.heap) (nl - 1) v r) :
  Post B lay P A s nl st r RR v s:=⟨A,.refl,ok,hr⟩
theorem Ok.grow {B lay P nl A st s} (ok:Ok B lay P nl A st s) {h':Heap} {tk:Nat} (hk:∀ b o,s.heap.get? b = some o->h'.get? b = some o) :
  Ok B lay P nl A st { s with heap:=h',toks:=tk } /\ Go lay A A s { s with heap:=h',toks:=tk }:=by
 have g:Go lay A A s { s with heap:=h',toks:=tk }:=⟨fun b o e u_=>.of (hk b o e),fun b o e=>⟨o,hk b o e⟩,fun u_ u_ u_ e=>e,fun u_ u_ u_ e=>.inl e,rfl,rfl,rfl⟩
 refine ⟨?_,g⟩
 have le:=fun lv=>g.le P lv
 exact {
  base:=fun b o e=>hk b o (ok.base b o e)
  baseM:=ok.baseM
  frs:=fun L m=>let ⟨o,es,ep,h1,h2⟩:=ok.frs L m; ⟨o,es,ep,hk _ _ h1,h2⟩
  len:=ok.len
  slots:=fun i l e=>by
   have:=ok.slots i l e
   cases l with
   | dict L x=>obtain ⟨m,h1,h2⟩:=this; exact ⟨m,h1.keeps hk,h2.mono (le _) (Nat.le_refl _)⟩
   | cell c=>obtain ⟨m,h1,h2⟩:=this; exact ⟨m,h1.keeps hk,h2.mono (le _) (Nat.le_refl _)⟩
  sep:=ok.sep
  lenA:=ok.lenA
  dimA:=ok.dimA
  objs:=fun l i o a h1 h2=>by
   have:=ok.objs l i o a h1 h2
   cases o with
   | list vs=>obtain ⟨items,n,h3,h4⟩:=this; exact ⟨items,n,hk _ _ h3,h4.mono (le _) (Nat.le_refl _)⟩
   | iter vs=>obtain ⟨b,items,n,j,h3,h5,h6,h4⟩:=this; exact ⟨b,items,n,j,hk _ _ h3,h5,hk _ _ h6,h4.mono (le _) (Nat.le_refl _)⟩
   | tab c q=>exact TabRep.mono (le 0) (fun o e u_=>hk _ _ e) this
   | dead=>obtain ⟨o,h3,h4⟩:=this; exact ⟨o,hk _ _ h3,h4⟩
   | dct kvs=>exact DctRep.at (h:=s.heap) this fun o e=>hk _ _ e
  inj:=ok.inj
  layA:=ok.layA
  disP:=ok.disP
  alive:=fun b h=>let ⟨o,e⟩:=ok.alive b h; ⟨o,hk b o e⟩
  rlen:=ok.rlen
  lvl:=ok.lvl }
theorem Ok.toks {B lay P nl A st s} (ok:Ok B lay P nl A st s) (tk:Nat):Ok B lay P nl A st { s with toks:=tk } /\ Go lay A A s { s with toks:=tk }:=
 ok.grow (h':=s.heap) (fun u_ u_ e=>e)
noncomputable abbrev RV:Wd->Nat->Value->V->Prop:=fun w lv v x=>Rel w lv v x
theorem Ok.fresh {B lay P nl A st s} (ok:Ok B lay P nl A st s):¬ Avd lay A P s.heap.objs.size:=fun h=>let ⟨_,e⟩:=ok.alive _ h; Nat.lt_irrefl _ (Heap.lt_size e)
end
section
theorem b4l {A:List (List Addr)} {l i:Nat} {a:Addr} (h:E4 A l i = some a):∃ as,A[l]? = some as /\ as[i]? = some a:=by
 unfold E4 at h
 split at h
 ·exact ⟨_,‹_›,h⟩
 ·cases h
theorem c3o {A:List (List Addr)} {l i:Nat} {a:Addr} (h:E4 A l i = some a):l < A.length:=by
 obtain ⟨as,h1,_⟩:=b4l h
 exact (List.getElem?_eq_some_iff.mp h1).1
theorem a5p (A0:List (List Addr)) (as:List Addr) (a:Addr) (l i:Nat) :
  E4 (A0 ++ [as ++ [a]]) l i = if l = A0.length /\ i = as.length then some a else E4 (A0 ++ [as]) l i:=by
 unfold E4
 rcases Nat.lt_trichotomy l A0.length with h | h | h
 ·rw [List.getElem?_append_left h,List.getElem?_append_left h,if_neg (fun x=>absurd x.1 (Nat.ne_of_lt h))]
 ·subst h
  simp only [List.getElem?_concat_length,true_and]
  rcases Nat.lt_trichotomy i as.length with k | k | k
  ·rw [List.getElem?_append_left k,if_neg (Nat.ne_of_lt k)]
  ·subst k; simp
  ·rw [List.getElem?_eq_none (by simp; lia),if_neg (by lia),List.getElem?_eq_none (by lia)]
 ·rw [List.getElem?_eq_none (by simp; lia),List.getElem?_eq_none (by simp; lia),if_neg (by lia)]
theorem b1a (ρ ρ':List (Option V)) (R0:List (List AObj)) (r:List AObj) (o:AObj) (l i:Nat) :
  St.obj ⟨ρ,R0 ++ [r ++ [o]]⟩ l i = if l = R0.length /\ i = r.length then some o else St.obj ⟨ρ',R0 ++ [r]⟩ l i:=by
 unfold St.obj
 dsimp only
 rcases Nat.lt_trichotomy l R0.length with h | h | h
 ·rw [List.getElem?_append_left h,List.getElem?_append_left h,if_neg (fun x=>absurd x.1 (Nat.ne_of_lt h))]
 ·subst h
  simp only [List.getElem?_concat_length,true_and]
  rcases Nat.lt_trichotomy i r.length with k | k | k
  ·rw [List.getElem?_append_left k,if_neg (Nat.ne_of_lt k)]
  ·subst k; simp
  ·rw [List.getElem?_eq_none (by simp; lia),if_neg (by lia),List.getElem?_eq_none (by lia)]
 ·rw [List.getElem?_eq_none (by simp; lia),List.getElem?_eq_none (by simp; lia),if_neg (by lia)]
theorem a2d (st:St) (l i:Nat) (o:AObj) (l' i':Nat) :
  (st.setObj l i o).obj l' i' = if l' = l /\ i' = i then (st.obj l i).map (fun u_=>o) else st.obj l' i':=by
 unfold St.setObj St.obj
 dsimp only
 rw [List.getElem?_modify]
 by_cases h:l = l'
 ·subst h
  simp only [if_true,true_and]
  cases hR:st.R[l]? with
  | none=>simp
  | some r=>
   show (match (Option.map (fun a=>a.set i o) (some r)) with | some r=>r[i']? | none=>none) = _
   simp only [Option.map_some]
   by_cases k:i = i'
   ·subst k
    simp only [if_true,List.getElem?_set]
    by_cases hl:i < r.length
    ·simp [hl]
    ·simp [hl]
   ·rw [if_neg (fun x=>k x.symm),List.getElem?_set_ne k]
 ·rw [if_neg (fun x=>h x.1.symm)]
  cases st.R[l']? <;> simp [h]
theorem O5 (st:St) (l i:Nat) (o:AObj):(st.setObj l i o).R.length = st.R.length:=by simp [St.setObj]
theorem a8p {w:Wd} {w':Wd} {l:Nat} {a:Addr} {o:AObj} (le:Wd.Le0 l w w') (ha:∀ q,w.h.get? a = some q->w'.h.get? a = some q) (h:L3 w l a o):L3 w' l a o:=by
 cases o with
 | list vs=>obtain ⟨items,n,h3,h4⟩:=h; exact ⟨items,n,ha _ h3,h4.mono0 le (Nat.le_refl _)⟩
 | iter vs=>obtain ⟨b,items,n,j,h3,h5,h6,h4⟩:=h; exact ⟨b,items,n,j,ha _ h3,fun x=>h5 (le.avoid _ _ h6 rfl x),(le.keep _ _ h6 h5).at (G8 rfl),h4.mono0 le (Nat.le_refl _)⟩
 | tab c q=>exact TabRep.mono0 le (fun o e u_=>ha _ e) h
 | dead=>obtain ⟨o,h3,h4⟩:=h; exact ⟨o,ha _ h3,h4⟩
 | dct kvs=>exact DctRep.at (h:=w.h) h ha
theorem E5 {w:Wd} {w':Wd} {l:Nat} {a:Addr} {o:AObj} (le:Wd.Le l w w') (ha:∀ q,w.h.get? a = some q->w'.h.get? a = some q) (h:L3 w l a o)
  (hm:∀ b q,w.h.get? b = some q->w'.M b->w.M b):L3 w' l a o:=by
 cases o with
 | list vs=>obtain ⟨items,n,h3,h4⟩:=h; exact ⟨items,n,ha _ h3,h4.mono le (Nat.le_refl _)⟩
 | iter vs=>obtain ⟨b,items,n,j,h3,h5,h6,h4⟩:=h; exact ⟨b,items,n,j,ha _ h3,fun x=>h5 (hm _ _ h6 x),(le.keep _ _ h6 h5).at (G8 rfl),h4.mono le (Nat.le_refl _)⟩
 | tab c q=>exact TabRep.mono le (fun o e u_=>ha _ e) h
 | dead=>obtain ⟨o,h3,h4⟩:=h; exact ⟨o,ha _ h3,h4⟩
 | dct kvs=>exact DctRep.at (h:=w.h) h ha
theorem Z9 {w:Wd} {w':Wd} {lv:Nat} {l:Loc} {o:Option V} (le:Wd.Le lv w w') (ha:∀ q,w.h.get? l.addr = some q->Kp w'.h l.addr q) (h:P9 w lv l o):P9 w' lv l o:=by
 cases l with
 | dict L x=>obtain ⟨m,h1,h2⟩:=h; exact ⟨m,Kp.ns ha h1,h2.mono le (Nat.le_refl _)⟩
 | cell c=>obtain ⟨m,h1,h2⟩:=h; exact ⟨m,Kp.cell ha h1,h2.mono le (Nat.le_refl _)⟩
theorem E6 {w:Wd} {w':Wd} {lv:Nat} {l:Loc} {o:Option V} (le:Wd.Le lv w w') (ha:∀ q,w.h.get? l.addr = some q->w'.h.get? l.addr = some q) (h:P9 w lv l o):P9 w' lv l o:=by
 cases l with
 | dict L x=>obtain ⟨m,h1,h2⟩:=h; exact ⟨m,h1.at' ha,h2.mono le (Nat.le_refl _)⟩
 | cell c=>obtain ⟨m,⟨q,h1,h1'⟩,h2⟩:=h; exact ⟨m,⟨q,ha _ h1,h1'⟩,h2.mono le (Nat.le_refl _)⟩
section
variable {B:Base} {lay:List Loc} {P:Addr->Prop} {nl:Nat} {A:List (List Addr)} {st:St} {s:Shared}
theorem Ok.obj_of (ok:Ok B lay P nl A st s) {l i:Nat} {a:Addr} (h:E4 A l i = some a):∃ o,st.obj l i = some o:=by
 cases e:st.obj l i with
 | some o=>exact ⟨o,rfl⟩
 | none=>rw [(ok.dimA l i).mpr e] at h; cases h
theorem Ok.look_of (ok:Ok B lay P nl A st s) {l i:Nat} {o:AObj} (h:st.obj l i = some o):∃ a,E4 A l i = some a:=by
 cases e:E4 A l i with
 | some o=>exact ⟨o,rfl⟩
 | none=>rw [(ok.dimA l i).mp e] at h; cases h
theorem a0l {w:Wd} {l:Nat} {a:Addr} {o:AObj} (h:L3 w l a o):∃ q,w.h.get? a = some q:=by
 cases o with
 | list vs=>obtain ⟨items,n,h3,h4⟩:=h; exact ⟨_,h3⟩
 | iter vs=>obtain ⟨b,items,n,j,h3,h5,h6,h4⟩:=h; exact ⟨_,h3⟩
 | tab c q=>obtain ⟨ps,h1,_⟩:=h; exact ⟨_,h1⟩
 | dead=>obtain ⟨o,h3,_⟩:=h; exact ⟨o,h3⟩
 | dct kvs=>exact DctRep.live (h:=w.h) h
theorem Ok.setObj (ok:Ok B lay P nl A st s) {l i:Nat} {a:Addr} {o':AObj} {h':Heap} {tk:Nat} (hl:E4 A l i = some a)
  (hk:∀ b o,b ≠ a->s.heap.get? b = some o->h'.get? b = some o) (ho:L3 (wd lay A P h') l a o') :
  Ok B lay P nl A (st.setObj l i o') { s with heap:=h',toks:=tk } /\ Go lay A A s { s with heap:=h',toks:=tk }:=by
 have ta:Tch lay A a:=.inr ⟨l,i,hl⟩
 have hlive:∀ b o,s.heap.get? b = some o->∃ o',h'.get? b = some o':=fun b o e=>by
  by_cases q:b = a
  ·subst q; exact a0l ho
  ·exact ⟨o,hk b o q e⟩
 have g:Go lay A A s { s with heap:=h',toks:=tk }:=⟨fun b o e h=>.of (hk b o (fun q=>h (q ▸ ta)) e),hlive,fun u_ u_ u_ e=>e,fun u_ u_ u_ e=>.inl e,rfl,rfl,rfl⟩
 have le:=fun lv=>g.le P lv
 refine ⟨?_,g⟩
 exact {
  base:=fun b o e=>hk b o (fun q=>ok.baseM b o e (q ▸ .inl ta)) (ok.base b o e)
  baseM:=ok.baseM
  frs:=fun L m=>let ⟨o,es,ep,h1,h2⟩:=ok.frs L m; ⟨o,es,ep,hk _ _ (fun q=>h2.2.2 l i (q ▸ hl)) h1,h2⟩
  len:=ok.len
  slots:=fun j lo e=>E6 (le _) (fun q hq=>hk _ _ (fun x=>ok.layA lo (List.mem_of_getElem? e) l i (x ▸ hl)) hq) (by rw [show (st.setObj l i o').ρ = st.ρ from rfl]; exact ok.slots j lo e)
  sep:=ok.sep
  lenA:=by rw [O5]; exact ok.lenA
  dimA:=fun l' i'=>by
   rw [a2d]
   split
   ·rename_i q
    obtain ⟨rfl,rfl⟩:=q
    obtain ⟨o,e⟩:=ok.obj_of hl
    rw [e,hl]; simp
   ·exact ok.dimA l' i'
  objs:=fun l' i' o b h1 h2=>by
   rw [a2d] at h1
   split at h1
   ·rename_i q
    obtain ⟨rfl,rfl⟩:=q
    obtain ⟨o₀,e⟩:=ok.obj_of hl
    rw [e] at h1; cases h1
    rw [hl] at h2; cases h2
    exact ho
   ·rename_i q
    have hne:b ≠ a:=fun x=>q (ok.inj l' i' l i b h2 (x ▸ hl))
    exact E5 (le _) (fun q hq=>hk _ _ hne hq) (ok.objs l' i' o b h1 h2) fun u_ u_ u_ h=>h
  inj:=ok.inj
  layA:=ok.layA
  disP:=ok.disP
  alive:=fun b h=>let ⟨o,e⟩:=ok.alive b h; hlive b o e
  rlen:=by rw [O5]; exact ok.rlen
  lvl:=ok.lvl }
theorem a2e {α:Type} {l:List α} {x:α} (h:l.getLast? = some x):l = l.dropLast ++ [x]:=by
 obtain ⟨ys,rfl⟩:=List.getLast?_eq_some_iff.mp h
 simp
theorem Ok.alloc (ok:Ok B lay P nl A st s) {o:AObj} {x:V} {st':St} {h':Heap} {tk:Nat} (h:st.alloc o = some (x,st'))
  (hk:∀ b q,s.heap.get? b = some q->h'.get? b = some q) {a:Addr} (ha:s.heap.get? a = none)
  (ho:∀ w:Wd,w.h = h'->(∀ b,w.M b->Avd lay A P b ∨ b = a)->Wd.Le (nl - 1) (wd lay A P s.heap) w->L3 w (nl - 1) a o) :
  Post B lay P A s nl st' x RV (.ref a) { s with heap:=h',toks:=tk }:=by
 unfold St.alloc at h
 split at h
 ·rename_i r hr
  cases h
  have hR:=a2e hr
  have hRl:st.R.dropLast.length = nl - 1:=by rw [List.length_dropLast,ok.rlen]
  have hAl:A ≠ []:=fun e=>by
   have:=ok.lenA
   have h2:=ok.rlen
   have h3:=ok.lvl
   rw [e] at this; simp at this; lia
  obtain ⟨as,hA⟩ : ∃ as,A = A.dropLast ++ [as]:=⟨A.getLast hAl,a2e (List.getLast?_eq_some_getLast hAl)⟩
  have hA0:A.dropLast.length = nl - 1:=by rw [List.length_dropLast,ok.lenA,ok.rlen]
  have hlen:as.length = r.length:=by
   have key:∀ i,as[i]? = none ↔ r[i]? = none:=fun i=>by
    have:=ok.dimA (nl - 1) i
    unfold E4 St.obj at this
    rw [hA,hR,<- hA0,List.getElem?_concat_length,hA0,<- hRl,List.getElem?_concat_length] at this
    exact this
   have k1:=key as.length
   have k2:=key r.length
   simp only [List.getElem?_eq_none_iff,Nat.le_refl,true_iff,iff_true] at k1 k2
   lia
  let A':=A.dropLast ++ [as ++ [a]]
  have hlook:∀ l i,E4 A' l i = if l = nl - 1 /\ i = as.length then some a else E4 A l i:=fun l i=>by
   have:=a5p A.dropLast as a l i
   rw [hA0,<- hA] at this
   exact this
  have hobj:∀ l i,St.obj ⟨st.ρ,st.R.dropLast ++ [r ++ [o]]⟩ l i = if l = nl - 1 /\ i = as.length then some o else st.obj l i:=fun l i=>by
   have:=b1a st.ρ st.ρ st.R.dropLast r o l i
   rw [hRl,<- hR,<- hlen] at this
   exact this
  have hnone:E4 A (nl - 1) as.length = none:=by
   unfold E4
   rw [hA,<- hA0,List.getElem?_concat_length]
   exact List.getElem?_eq_none (Nat.le_refl _)
  have hold:∀ l i b,E4 A l i = some b->E4 A' l i = some b:=fun l i b e=>by
   rw [hlook]
   split
   ·rename_i q; rw [q.1,q.2,hnone] at e; cases e
   ·exact e
  have hnew:∀ l i b,E4 A' l i = some b->E4 A l i = some b ∨ b = a:=fun l i b e=>by
   rw [hlook] at e
   split at e
   ·cases e; exact .inr rfl
   ·exact .inl e
  have ha':∃ q,h'.get? a = some q:=a0l (ho ⟨h',A,Tch lay A,Avd lay A P⟩ rfl (fun b h=>.inl h) ⟨fun b o e u_=>.of (hk b o e),fun u_ u_ u_ h=>h,fun u_ u_ u_ u_ e=>e⟩)
  have g:Go lay A A' s { s with heap:=h',toks:=tk }:=⟨fun b q e u_=>.of (hk b q e),fun b o e=>⟨o,hk b o e⟩,hold,fun l i b e=>(hnew l i b e).imp id (fun q=>by rw [q]; exact ha),rfl,rfl,rfl⟩
  have le:=fun lv=>g.le P lv
  have hfr:∀ b,Avd lay A P b->b ≠ a:=fun b h q=>by
   obtain ⟨o,h1⟩:=ok.alive b h
   rw [q,ha] at h1; cases h1
  have avd:∀ b,Avd lay A' P b->Avd lay A P b ∨ b = a:=fun b h=>by
   rcases h with (h | ⟨l,i,h⟩) | h
   ·exact .inl (.inl (.inl h))
   ·exact (hnew l i b h).imp (fun h=>.inl (.inr ⟨l,i,h⟩)) id
   ·exact .inl (.inr h)
  refine ⟨A',g,?_,?_⟩
  ·exact {
    base:=fun b q e=>hk b q (ok.base b q e)
    baseM:=fun b q e h=>by
     rcases avd b h with h | h
     ·exact ok.baseM b q e h
     ·have h1:=ok.base b q e
      rw [h,ha] at h1; cases h1
    frs:=fun L m=>let ⟨o,es,ep,h1,h2,h3,h4⟩:=ok.frs L m; ⟨o,es,ep,hk _ _ h1,h2,h3,fun l i e=>(hnew l i L e).elim (h4 l i) fun q=>by rw [q,ha] at h1; cases h1⟩
    len:=ok.len
    slots:=fun j lo e=>E6 (le _) (fun q hq=>hk _ _ hq) (ok.slots j lo e)
    sep:=ok.sep
    lenA:=by
     show A'.length = (st.R.dropLast ++ [r ++ [o]]).length
     simp only [A',List.length_append,hA0,hRl,List.length_singleton]
    dimA:=fun l i=>by
     rw [hlook]
     show _ ↔ St.obj ⟨st.ρ,st.R.dropLast ++ [r ++ [o]]⟩ l i = none
     rw [hobj]
     split
     ·simp
     ·exact ok.dimA l i
    objs:=fun l i q b h1 h2=>by
     have h1':St.obj ⟨st.ρ,st.R.dropLast ++ [r ++ [o]]⟩ l i = some q:=h1
     rw [hobj] at h1'
     rw [hlook] at h2
     split at h1'
     ·rename_i y
      rw [if_pos y] at h2
      cases h1'; cases h2
      obtain ⟨rfl,_⟩:=y
      exact ho _ rfl avd (le _)
     ·rename_i y
      rw [if_neg y] at h2
      exact E5 (le _) (fun q hq=>hk _ _ hq) (ok.objs l i q b h1' h2) fun c q e h=>(g.le P 0).avoid c q e h
    inj:=fun l i l' i' b h1 h2=>by
     rw [hlook] at h1 h2
     split at h1 <;> split at h2
     ·rename_i y y'; exact ⟨y.1.trans y'.1.symm,y.2.trans y'.2.symm⟩
     ·cases h1; exact absurd rfl (hfr _ (.inl (.inr ⟨_,_,h2⟩)))
     ·cases h2; exact absurd rfl (hfr _ (.inl (.inr ⟨_,_,h1⟩)))
     ·exact ok.inj l i l' i' b h1 h2
    layA:=fun lo hm k i e=>by
     rcases hnew _ _ _ e with e | e
     ·exact ok.layA lo hm k i e
     ·exact hfr lo.addr (.inl (.inl ⟨lo,hm,rfl⟩)) e
    disP:=fun b hp h=>by
     rcases h with h | ⟨l,i,h⟩
     ·exact ok.disP b hp (.inl h)
     ·rcases hnew _ _ _ h with h | h
      ·exact ok.disP b hp (.inr ⟨l,i,h⟩)
      ·exact hfr b (.inr hp) h
    alive:=fun b h=>by
     rcases avd b h with h | h
     ·obtain ⟨o,e⟩:=ok.alive b h; exact ⟨o,hk b o e⟩
     ·exact h ▸ ha'
    rlen:=by
     show (st.R.dropLast ++ [r ++ [o]]).length = nl
     have:=ok.lvl
     simp only [List.length_append,hRl,List.length_singleton]; lia
    lvl:=ok.lvl }
  ·show Rel _ _ _ _
   refine .ref (Nat.le_of_eq ?_) ?_
   ·rw [ok.rlen]
   ·show E4 A' _ _ = _
    rw [hlook,if_pos ⟨by rw [ok.rlen],hlen.symm⟩]
 ·cases h
theorem a0m (ok:Ok B lay P nl A st s) {mu:Bool} {items:List Value} {vs:List V} {x:V} {st':St} {n tk:Nat} (hr:RelL (wd lay A P s.heap) (nl - 1) items vs)
  (h:mkL mu vs st = some (x,st')):Post B lay P A s nl st' x RV (.ref s.heap.objs.size) { s with heap:=s.heap.push (a4c items.toArray n),toks:=tk }:=by
 unfold mkL at h
 have hk:∀ b q,s.heap.get? b = some q->(s.heap.push (a4c items.toArray n)).get? b = some q:=fun b q e=>Heap.get?_push_of_some _ e
 split at h
 ·split at h
  ·refine ok.alloc h hk (Heap.get?_none_of_le (Nat.le_refl _)) fun w hw u_ le=>⟨items,n,?_,hr.mono le (Nat.le_refl _)⟩
   rw [hw]; exact Heap.get?_push_size _ rfl
  ·cases h
   obtain ⟨ok',g⟩:=ok.grow (tk:=tk) hk
   exact ⟨A,g,ok',.lst (fun h=>ok.fresh h) (Heap.get?_push_size _ rfl) (hr.mono (g.le P _) (Nat.le_refl _))⟩
 ·cases h
end
end
section
theorem F1 {a:Int} {n:Nat} (h:small n a = true):Builtin.Int.intBits a <= n:=intBits_le (of_decide_eq_true h)
theorem a5q {α β:Type} {f:α->Option β} {a:α} {as:List α} {bs:List β} (h:a1y f (a :: as) = some bs):∃ b bs',f a = some b /\ a1y f as = some bs' /\ bs = b :: bs':=by
 have h:(match f a,a1y f as with | some b,some bs=>some (b :: bs) | _,_=>none) = some bs:=h
 cases e1:f a with
 | none=>rw [e1] at h; cases h
 | some b=>
  cases e2:a1y f as with
  | none=>rw [e1,e2] at h; cases h
  | some bs'=>rw [e1,e2] at h; cases h; exact ⟨b,bs',rfl,rfl,rfl⟩
section
variable {B:Base} {Ar:Around} {lay:List Loc} {P:Addr->Prop} {nl:Nat} {A:List (List Addr)} {st:St} {s:Shared} {E:Value->Shared->Prop}
theorem Ok.int_post (ok:Ok B lay P nl A st s) (i:Int) (t tk:Nat):Post B lay P A s nl st (V.int i) RV (.int i t) { s with toks:=tk }:=
 let ⟨ok',g⟩:=ok.toks tk
 ⟨A,g,ok',.int⟩
theorem a8q (ok:Ok B lay P nl A st s) {op:Operator} {a b c:Int} {t u:Tok} (h:a0i op a b = some c) :
  wpAny (model B.prog B.w) Ar (binaryOp op (.int a t) (.int b u)) (Post B lay P A s nl st (V.int c) RV) E s:=by
 cases op
 case Add=>cases h; exact add_int (ok.int_post _ _ _)
 case Sub=>cases h; exact sub_int (ok.int_post _ _ _)
 case Mult=>
  obtain ⟨q,h⟩:=C6 (show (if small 64 a then some (a * b) else none) = some c from h)
  cases h; exact mul_int (ok.int_post _ _ _) (.of_left (F1 q))
 case Mod=>
  have h:(if b = 0 then none else some (a.fmod b)) = some c:=h
  by_cases q:b = 0
  ·rw [if_pos q] at h; cases h
  ·rw [if_neg q] at h; cases h; exact mod_int' q (ok.int_post _ _ _)
 case Pow=>
  obtain ⟨q,h⟩:=C6 (show (if decide (0 <= b) && decide (b <= 4096) && small 16 a then some (a ^ b.toNat) else none) = some c from h)
  cases h
  have q1:=Bool.and_eq_true_iff.mp q
  have q2:=Bool.and_eq_true_iff.mp q1.1
  have h1:=of_decide_eq_true q2.1
  have h2:=of_decide_eq_true q2.2
  have h4:=F1 q1.2
  refine pow_int h1 ?_ (ok.int_post _ _ _)
  have:(Builtin.Int.intBits a:Int) * b <= 16 * b:=Int.mul_le_mul_of_nonneg_right (by lia) h1
  lia
 case LShift=>
  obtain ⟨q,h⟩:=C6 (show (if decide (0 <= b) && decide (b <= 1000000) && small 64 a then some (a * 2 ^ b.toNat) else none) = some c from h)
  cases h
  have q1:=Bool.and_eq_true_iff.mp q
  have q2:=Bool.and_eq_true_iff.mp q1.1
  exact lshift_int_small (of_decide_eq_true q2.1) (of_decide_eq_true q2.2) (of_decide_eq_true q1.2) (ok.int_post _ _ _)
 case RShift=>
  obtain ⟨q,h⟩:=C6 (show (if decide (0 <= b) then some (a.fdiv (2 ^ b.toNat)) else none) = some c from h)
  cases h
  exact rshift_int (of_decide_eq_true q) (ok.int_post _ _ _)
 case BitAnd=>cases h; exact and_int (ok.int_post _ _ _)
 case BitOr=>cases h; exact or_int (ok.int_post _ _ _)
 case BitXor=>cases h; exact xor_int (ok.int_post _ _ _)
 case FloorDiv=>
  obtain ⟨q,h⟩:=C6 (show (if decide (b ≠ 0) && small 30 b then some (a.fdiv b) else none) = some c from h)
  cases h
  have q:=Bool.and_eq_true_iff.mp q
  exact floordiv_int (of_decide_eq_true q.1) (ok.int_post _ _ _) (.inl (PyProof.noPylong_small (by have:=of_decide_eq_true q.2; omega)))
 all_goals cases h
theorem a0n (ok:Ok B lay P nl A st s) {op:Operator} {a b c:Int} {t u:Tok} (h:a0i op a b = some c) :
  wpAny (model B.prog B.w) Ar (inplaceOp op (.int a t) (.int b u)) (Post B lay P A s nl st (V.int c) RV) E s:=by
 cases op
 case Add=>cases h; exact iadd_int (ok.int_post _ _ _)
 case Sub=>cases h; exact isub_int (ok.int_post _ _ _)
 case Mult=>
  obtain ⟨q,h⟩:=C6 (show (if small 64 a then some (a * b) else none) = some c from h)
  cases h; exact imul_int (ok.int_post _ _ _) (.of_left (F1 q))
 case Mod=>
  have h:(if b = 0 then none else some (a.fmod b)) = some c:=h
  by_cases q:b = 0
  ·rw [if_pos q] at h; cases h
  ·rw [if_neg q] at h; cases h; exact imod_int q (ok.int_post _ _ _)
 case Pow=>
  obtain ⟨q,h⟩:=C6 (show (if decide (0 <= b) && decide (b <= 4096) && small 16 a then some (a ^ b.toNat) else none) = some c from h)
  cases h
  have q1:=Bool.and_eq_true_iff.mp q
  have q2:=Bool.and_eq_true_iff.mp q1.1
  have h1:=of_decide_eq_true q2.1
  have h2:=of_decide_eq_true q2.2
  have h4:=F1 q1.2
  refine ipow_int h1 ?_ (ok.int_post _ _ _)
  have:(Builtin.Int.intBits a:Int) * b <= 16 * b:=Int.mul_le_mul_of_nonneg_right (by lia) h1
  lia
 case LShift=>
  obtain ⟨q,h⟩:=C6 (show (if decide (0 <= b) && decide (b <= 1000000) && small 64 a then some (a * 2 ^ b.toNat) else none) = some c from h)
  cases h
  have q1:=Bool.and_eq_true_iff.mp q
  have q2:=Bool.and_eq_true_iff.mp q1.1
  exact ilshift_int_small (of_decide_eq_true q2.1) (of_decide_eq_true q2.2) (of_decide_eq_true q1.2) (ok.int_post _ _ _)
 case RShift=>
  obtain ⟨q,h⟩:=C6 (show (if decide (0 <= b) then some (a.fdiv (2 ^ b.toNat)) else none) = some c from h)
  cases h
  exact irshift_int (of_decide_eq_true q) (ok.int_post _ _ _)
 case BitAnd=>cases h; exact iand_int (ok.int_post _ _ _)
 case BitOr=>cases h; exact ior_int (ok.int_post _ _ _)
 case BitXor=>cases h; exact ixor_int (ok.int_post _ _ _)
 case FloorDiv=>
  obtain ⟨q,h⟩:=C6 (show (if decide (b ≠ 0) && small 30 b then some (a.fdiv b) else none) = some c from h)
  cases h
  have q:=Bool.and_eq_true_iff.mp q
  exact ifloordiv_int (of_decide_eq_true q.1) (ok.int_post _ _ _) (.inl (PyProof.noPylong_small (by have:=of_decide_eq_true q.2; omega)))
 all_goals cases h
theorem D4 (ok:Ok B lay P nl A st s) {v:Value} {x:V} {vs:List V} (r:Rel (wd lay A P s.heap) (nl - 1) v x) (h:C7 st x = some vs) :
  ∃ a items n,v = .ref a /\ s.heap.get? a = some (a4c (List.toArray items) n) /\ RelL (wd lay A P s.heap) (nl - 1) items vs:=by
 cases r with
 | lst h1 h2 h3=>cases h; exact ⟨_,_,_,rfl,h2,h3⟩
 | ref h1 h2=>
  simp only [C7] at h
  split at h
  ·rename_i us e
   cases h
   obtain ⟨items,n,h3,h4⟩:=ok.objs _ _ _ _ e h2
   exact ⟨_,items,n,rfl,h3,h4.mono (.refl _ _) h1⟩
  ·cases h
 | _=>cases h
theorem B8 {h:Heap} {a:Addr} {items:Array Value} {n:Nat} (e:h.get? a = some (a4c items n)):h.IsList a items:=⟨_,e,rfl,n,rfl⟩
theorem H5 {h:Heap} {a:Addr} {items:Array Value} {n:Nat} (e:h.get? a = some (d0b items n)):h.IsTuple a items:=⟨_,e,rfl,n,rfl⟩
theorem b1b (items:List Value):∀ (n:Nat) (acc:List Value),List.foldl (fun x1 x2=>x1 ++ x2) acc.toArray (List.replicate n items.toArray) = (acc ++ (List.replicate n items).flatten).toArray
 | 0,acc=>by simp
 | n + 1,acc=>by
  rw [List.replicate_succ,List.foldl_cons,List.append_toArray,b1b items n,List.replicate_succ]
  simp
theorem a3k {l:Addr} {items:Array Value} {k:Nat} {x:Int} {u:Tok} {Q:Value->Shared->Prop}
  (hl:s.heap.get? l = some { cls:=.type "list",dict:=none,data:=.seq items k,slots:=#[] })
  (hlo : -(2 ^ 63:Int) <= x) (hhi:x < 2 ^ 63) (hsz:items.size * x.toNat <= 2 ^ 24)
  (h:Q (.ref s.heap.objs.size) { s with heap:=s.heap.push { cls:=.type "list",data:=.seq (List.foldl (fun x1 x2=>x1 ++ x2) #[] (List.replicate (if items.isEmpty = true then 0 else x.toNat) items)) } }) :
  wpAny (model B.prog B.w) Ar (binaryOp .Mult (.ref l) (.int x u)) Q E s:=
 wpAny_binaryOp_repeat_ref (T := "list") (U := "int") (by decide) ⟨_,hl,rfl⟩ (fun s'=>typeIs_int s' x u) noFill_list_mul F.fills_int_mul F.slot_int_rmul repeat_list F.slot_int_index.lookup
  (call_meets F.slot_int_rmul (typeIs_int s x u) F.entry_int_rmul (F.args_int_rmul_2 _ _) (int___rmul___int_list x u l items k)
   ⟨hl,rfl,⟨_,hl,rfl⟩,call_meets F.slot_list_mul ⟨_,hl,rfl⟩ F.entry_list_mul (F.args_list_mul_2 _ _)
    (AutoListH.list___mul___list_int_3 l items k x u (by simp [Builtin.List.listFitsIndex]; lia) (by lia) (by simp [Builtin.List.listTooLong,sizeLine]; lia))
    ⟨hl,h⟩⟩)
theorem a8r (ok:Ok B lay P nl A st s) {op:Operator} {x:List UInt8} {y z:V} {t:Tok} {u:Value} {st':St} (hy:Rel (wd lay A P s.heap) (nl - 1) u y)
  (h:d5h st op x y = some (z,st')):wpAny (model B.prog B.w) Ar (binaryOp op (.bytes x.toArray t) u) (Post B lay P A s nl st' z RV) E s:=by
 cases op with
 | Add=>
  obtain ⟨y',rfl,h1⟩:=b9l h
  obtain ⟨q,h2⟩:=C6 h1
  cases h2
  refine hy.bytes_e fun u=>KBy.add_bytes ?_ fun t' k=>?_
  ·simp only [List.size_toArray]; unfold lim at q; lia
  ·rw [List.append_toArray]
   obtain ⟨ok',g⟩:=ok.toks k
   exact ⟨A,g,ok',.bytes⟩
 | Mult=>
  obtain ⟨n,rfl,h1⟩:=I8 h
  obtain ⟨q,h2⟩:=C6 h1
  cases h2
  simp only [Bool.and_eq_true,decide_eq_true_eq] at q
  refine hy.int_e fun u=>bytes_mul_any q.1.1.1 (by lia) (by lia) q.1.1.2 fun t' k=>?_
  obtain ⟨ok',g⟩:=ok.toks k
  exact ⟨A,g,ok',.bytes⟩
 | _=>cases h
theorem b9r (items:List Value) (n:Nat):List.foldl (fun x1 x2=>x1 ++ x2) #[] (List.replicate (if items.toArray.isEmpty = true then 0 else n) items.toArray) = ((List.replicate n items).flatten).toArray:=by
 have:=b1b items (if items.toArray.isEmpty = true then 0 else n) []
 rw [List.nil_append] at this
 rw [this]
 cases items with
 | nil=>simp
 | cons _ _=>rfl
theorem a8s (ok:Ok B lay P nl A st s) {op:Operator} {x y z:V} {v u:Value} {mu:Bool} {st':St} (hx:Rel (wd lay A P s.heap) (nl - 1) v x) (hy:Rel (wd lay A P s.heap) (nl - 1) u y)
  (h:d5a st op x y mu = some (z,st')):wpAny (model B.prog B.w) Ar (binaryOp op v u) (Post B lay P A s nl st' z RV) E s:=by
 cases op with
 | Mult=>
  obtain ⟨k,rfl,h1⟩:=I8 h
  obtain ⟨vs,e,h2⟩:=O4 h1
  obtain ⟨q,h3⟩:=K2 h2
  simp only [Bool.and_eq_true,decide_eq_true_eq] at q
  obtain ⟨a,items,n,rfl,hg,hr⟩:=D4 ok hx e
  refine hy.int_e fun u=>a3k hg (by lia) (by lia) ?_ ?_
  ·rw [List.size_toArray,hr.length]
   have:=Nat.mul_le_mul_right k.toNat q.2
   lia
  ·rw [b9r]
   exact a0m ok (hr.replicate _) h3
 | Add=>
  obtain ⟨vs,e1,h1⟩:=O4 h
  obtain ⟨us,e2,h2⟩:=O4 h1
  obtain ⟨a,items,n,rfl,hg,hr⟩:=D4 ok hx e1
  obtain ⟨b,items',n',rfl,hg',hr'⟩:=D4 ok hy e2
  have hz:=(K2 h2).1
  rw [List.length_append,<- hr.length,<- hr'.length] at hz
  refine PySem.P.add_list hg hg' ?_ (by simp only [List.size_toArray]; unfold lim at hz; rw [sizeLine_eq]; lia)
  rw [List.append_toArray]
  exact a0m ok (hr.append hr') h2
 | _=>cases h
theorem a8t (ok:Ok B lay P nl A st s) {op:Operator} {x y z:V} {v u:Value} {mu:Bool} {st':St} (hx:Rel (wd lay A P s.heap) (nl - 1) v x) (hy:Rel (wd lay A P s.heap) (nl - 1) u y)
  (h:d2z st op x y mu = some (z,st')):wpAny (model B.prog B.w) Ar (binaryOp op v u) (Post B lay P A s nl st' z RV) E s:=by
 have oth:=fun h=>a8s (Ar:=Ar) (E:=E) (mu:=mu) (z:=z) (st':=st') (op:=op) ok hx hy h
 cases x with
 | int i=>
  clear oth
  obtain ⟨j,rfl,h1⟩:=I8 h
  cases e:a0i op i j with
  | none=>rw [e] at h1; cases h1
  | some c=>
   rw [e] at h1
   cases h1
   exact hx.int_e fun u_=>hy.int_e fun u_=>a8q ok e
 | bytes b=>exact hx.bytes_e fun u_=>a8r ok hy h
 | _=>exact oth h
end
end
section
set_option maxRecDepth 100000
end
section
theorem b9s (vs:List V):a8m (.tup vs) = (O2 vs).map .tuple:=by show (match O2 vs with | some ds=>some (PyData.tuple ds) | none=>none) = _; cases O2 vs <;> rfl
theorem a0o (vs:List V):a8m (.lst vs) = (O2 vs).map .list:=by show (match O2 vs with | some ds=>some (PyData.list ds) | none=>none) = _; cases O2 vs <;> rfl
theorem a0p {α:Type} {o:Option AObj} {f:List V->α} {r:α} (h:(match o with | some (.list vs)=>some (f vs) | _=>none) = some r):∃ vs,o = some (.list vs) /\ f vs = r:=by
 cases o with
 | none=>cases h
 | some o=>
  cases o with
  | list vs=>exact ⟨vs,rfl,Option.some.inj h⟩
  | _=>cases h
mutual
theorem a5r {w:Wd} {lv:Nat}:∀ (x:V) {v:Value} {d:PyData},Rel w lv v x->a8m x = some d->∃ as,Reads w.h v d as
 | .imm u,v,d,hr,h=>hr.imm_e (by
  cases u with
  | none=>cases h; exact ⟨_,.none⟩
  | bool b=>cases h; exact ⟨_,.bool _⟩
  | _=>cases h)
 | .int _,_,_,hr,h=>hr.int_e fun u_=>by cases h; exact ⟨_,.int _ _⟩
 | .str _,_,_,hr,h=>hr.str_e fun u_=>by cases h; exact ⟨_,.str _ _⟩
 | .tup vs,_,_,hr,h=>hr.tup_e fun u_ u_ u_ u_ h2 h3=>by
  obtain ⟨ds,e,rfl⟩:=Option.map_eq_some_iff.mp ((b9s vs).symm.trans h)
  obtain ⟨as,r⟩:=O6 vs h3 e
  exact ⟨_,.tuple h2 rfl rfl (by simpa using r)⟩
 | .lst vs,_,_,hr,h=>hr.lst_e fun u_ u_ u_ u_ h2 h3=>by
  obtain ⟨ds,e,rfl⟩:=Option.map_eq_some_iff.mp ((a0o vs).symm.trans h)
  obtain ⟨as,r⟩:=O6 vs h3 e
  exact ⟨_,.list h2 rfl rfl (by simpa using r)⟩
 | .bytes _,_,_,_,h=>nomatch (show none = some _ from h)
 | .rng _ _ _,_,_,_,h=>nomatch (show none = some _ from h)
 | .ref _ _,_,_,_,h=>nomatch (show none = some _ from h)
 | .clo _ _,_,_,_,h=>nomatch (show none = some _ from h)
theorem O6 {w:Wd} {lv:Nat}:∀ (xs:List V) {vs:List Value} {ds:List PyData},RelL w lv vs xs->O2 xs = some ds->∃ as,ReadsAll w.h vs ds as
 | [],_,_,hr,h=>by
  cases h
  exact hr.nil_e ⟨_,.nil⟩
 | x :: xs,_,_,hr,h=>hr.cons_e fun v vs h1 h2=>by
  obtain ⟨d,ds,e1,e2,e3⟩:=c3e h
  subst e3
  obtain ⟨as,r⟩:=a5r x h1 e1
  obtain ⟨bs,q⟩:=O6 xs h2 e2
  exact ⟨_,.cons r q⟩
end
section
variable {B:Base} {Ar:Around} {lay:List Loc} {P:Addr->Prop} {nl:Nat} {A:List (List Addr)} {st:St} {s:Shared} {E:Value->Shared->Prop}
theorem a5s (ok:Ok B lay P nl A st s) {v:Value} {x y:V} {d:PyData} (r:Rel (wd lay A P s.heap) (nl - 1) v x) (h:c2w st x = some y) (hd:a8m y = some d):∃ as,Reads s.heap v d as:=by
 cases x with
 | ref l i=>
  obtain ⟨vs,e,rfl⟩:=a0p (o:=st.obj l i) (f:=V.lst) h
  obtain ⟨ds,e',rfl⟩:=Option.map_eq_some_iff.mp ((a0o vs).symm.trans hd)
  refine r.ref_e fun a h1 h2=>?_
  obtain ⟨items,n,h3,h4⟩:=ok.objs _ _ _ _ e h2
  obtain ⟨as,q⟩:=O6 vs h4 e'
  exact ⟨_,.list h3 rfl rfl (by simpa using q)⟩
 | _=>cases h; exact a5r _ r hd
theorem Ok.bool_post (ok:Ok B lay P nl A st s) (b:Bool) (tk:Nat):Post B lay P A s nl st (V.imm (.bool b)) RV (.bool b) { s with toks:=tk }:=
 let ⟨ok',g⟩:=ok.toks tk
 ⟨A,g,ok',.imm⟩
theorem d5s {a b:V} {r:Bool} (h:eqd a b = some r):∃ x y,a8m a = some x /\ a8m b = some y /\ SeqAt.shaped x = true /\ SeqAt.shaped y = true /\ PyData.eqv x y = r:=by
 unfold eqd at h
 cases e1:a8m a with
 | none=>rw [e1] at h; cases h
 | some x=>
  cases e2:a8m b with
  | none=>rw [e1,e2] at h; cases h
  | some y=>
   rw [e1,e2] at h
   obtain ⟨q,h⟩:=C6 h
   have q:=Bool.and_eq_true_iff.mp q
   exact ⟨x,y,rfl,rfl,q.1,q.2,h⟩
@[elab_as_elim] theorem RelL.one_e {w:Wd} {lv:Nat} {vs:List Value} {x:V} {R:List Value->Prop} (h:RelL w lv vs [x]) (K:∀ v,Rel w lv v x->R [v]):R vs:=h.cons_e fun v u_ h1 h2=>h2.nil_e (K v h1)
theorem a5t (ok:Ok B lay P nl A st s) (hu:Ar.units + 64 < cLine) {v u:Value} {x y:V} {b:Bool} (hx:Rel (wd lay A P s.heap) (nl - 1) v x) (hy:Rel (wd lay A P s.heap) (nl - 1) u y) (h:eqV st x y = some b) :
  wpAny (model B.prog B.w) Ar (compareOp .Eq v u) (Post B lay P A s nl st (V.imm (.bool b)) RV) E s /\
  wpAny (model B.prog B.w) Ar (compareOp .NotEq v u) (Post B lay P A s nl st (V.imm (.bool !b)) RV) E s:=by
 have oth:opV st x (fun x=>opV st y fun y=>eqd x y) = some b->wpAny (model B.prog B.w) Ar (compareOp .Eq v u) (Post B lay P A s nl st (V.imm (.bool b)) RV) E s /\
  wpAny (model B.prog B.w) Ar (compareOp .NotEq v u) (Post B lay P A s nl st (V.imm (.bool !b)) RV) E s:=fun h=>by
  obtain ⟨x',e1,k1⟩:=d3h h
  obtain ⟨y',e2,k2⟩:=d3h k1
  obtain ⟨d1,d2,h1,h2,q1,q2,rfl⟩:=d5s k2
  obtain ⟨as,r1⟩:=a5s ok hx e1 h1
  obtain ⟨bs,r2⟩:=a5s ok hy e2 h2
  exact ⟨SeqAt.compareEq_shaped r1 r2 q1 q2 hu (ok.bool_post _ s.toks),SeqAt.compareNe_shaped r1 r2 q1 q2 hu (ok.bool_post _ s.toks)⟩
 cases x with
 | bytes x=>
  clear oth
  revert hy
  refine b0s h fun y h hy=>?_
  cases h
  exact hx.bytes_e fun u_=>hy.bytes_e fun u_=>⟨eq_bytes (by simpa using ok.bool_post _ s.toks),ne_bytes (by simpa [bne] using ok.bool_post _ s.toks)⟩
 | str x=>
  clear oth
  revert hy
  refine c9z h fun y h hy=>?_
  cases h
  exact hx.str_e fun u_=>hy.str_e fun u_=>⟨eq_str (ok.bool_post _ s.toks),ne_str (by simpa only [bne] using ok.bool_post _ s.toks)⟩
 | _=>exact oth h
noncomputable abbrev d7p (B:Base) (Ar:Around) (lay:List Loc) (P:Addr->Prop) (nl:Nat) (A:List (List Addr)) (st:St) (s:Shared) (E:Value->Shared->Prop) (op:CmpOp) (v u:Value) (b:Bool):Prop:=wpAny (model B.prog B.w) Ar (compareOp op v u) (Post B lay P A s nl st (V.imm (.bool b)) RV) E s
theorem O7 {op:CmpOp} {f:Int->Int->Bool} (hf:∀ i j t u,d7p B Ar lay P nl A st s E op (.int i t) (.int j u) (f i j)) {v u:Value} {x y:V} {b:Bool} (hx:Rel (wd lay A P s.heap) (nl - 1) v x) (hy:Rel (wd lay A P s.heap) (nl - 1) u y) (h:(N9 x fun i=>N9 y fun j=>some (f i j)) = some b):d7p B Ar lay P nl A st s E op v u b:=by
 obtain ⟨i,rfl,h1⟩:=I8 h
 obtain ⟨j,rfl,h2⟩:=I8 h1
 cases h2
 exact hx.int_e fun t=>hy.int_e fun u=>hf i j t u
theorem a2f (ok:Ok B lay P nl A st s) (hu:Ar.units + 100 < cLine) {op:CmpOp} {v u:Value} {x y:V} {b:Bool} (hx:Rel (wd lay A P s.heap) (nl - 1) v x) (hy:Rel (wd lay A P s.heap) (nl - 1) u y) (h:c2p st op x y = some b) :
  wpAny (model B.prog B.w) Ar (compareOp op v u) (Post B lay P A s nl st (V.imm (.bool b)) RV) E s:=by
 have hu':Ar.units + 64 < cLine:=Nat.lt_of_le_of_lt (Nat.add_le_add_left (by decide) _) hu
 show d7p B Ar lay P nl A st s E op v u b
 cases op with
 | Eq=>exact (a5t ok hu' hx hy h).1
 | NotEq=>exact Bool.not_not b ▸ (a5t ok hu' hx hy (d0a h)).2
 | Lt=>exact O7 (f:=fun i j=>decide (i < j)) (fun u_ u_ u_ u_=>lt_int (ok.bool_post _ s.toks)) hx hy h
 | LtE=>exact O7 (f:=fun i j=>decide (i <= j)) (fun u_ u_ u_ u_=>le_int (ok.bool_post _ s.toks)) hx hy h
 | Gt=>exact O7 (f:=fun i j=>decide (j < i)) (fun u_ u_ u_ u_=>gt_int (ok.bool_post _ s.toks)) hx hy h
 | GtE=>exact O7 (f:=fun i j=>decide (j <= i)) (fun u_ u_ u_ u_=>ge_int (ok.bool_post _ s.toks)) hx hy h
 | Is=>
  by_cases q:b6o y = true
  ·have h:isO x = some b:=(if_pos q).symm.trans h
   cases y with
   | imm w=>
    obtain rfl:w = .none:=eq_of_beq q
    refine hy.imm_e ?_
    cases x with
    | imm z=>cases h; exact hx.imm_e (is_none (ok.bool_post _ s.toks))
    | int z=>cases h; exact hx.int_e fun u_=>is_none (ok.bool_post _ s.toks)
    | _=>cases h
   | _=>cases q
  ·exact nomatch (if_neg q).symm.trans h
 | _=>cases h
end
end
section
noncomputable abbrev RB:Wd->Nat->Bool->Bool->Prop:=fun u_ u_ b b'=>b = b'
section
variable {B:Base} {Ar:Around} {lay:List Loc} {P:Addr->Prop} {nl:Nat} {A:List (List Addr)} {st:St} {s:Shared} {E:Value->Shared->Prop}
theorem Ok.b_post (ok:Ok B lay P nl A st s) (b:Bool) (tk:Nat):Post B lay P A s nl st b RB b { s with toks:=tk }:=
 let ⟨ok',g⟩:=ok.toks tk
 ⟨A,g,ok',rfl⟩
theorem I9 (ok:Ok B lay P nl A st s) {v:Value} {x:V} {b:Bool} (hx:Rel (wd lay A P s.heap) (nl - 1) v x) (h:a5h st x = some b) :
  wpAny (model B.prog B.w) Ar (truthy v) (Post B lay P A s nl st b RB) E s:=by
 have lst:∀ {a:Addr} {items:List Value} {n:Nat} {vs:List V},s.heap.get? a = some (a4c items.toArray n)->items.length = vs.length->vs.length <= lim->
   wpAny (model B.prog B.w) Ar (truthy (.ref a)) (Post B lay P A s nl st (decide (0 < vs.length)) RB) E s:=fun {a items n vs} hg hl hz=>by
  refine wpAny_truthy_list (B8 hg) (by rw [List.size_toArray]; unfold lim at hz; lia) ?_
  have e:(!items.toArray.isEmpty) = decide (0 < vs.length):=by
   rw [<- hl]
   cases items <;> simp
  rw [e]
  exact ok.b_post _ _
 cases x with
 | imm w=>
  refine hx.imm_e ?_
  cases w with
  | none=>cases h; exact wpAny_pure (ok.b_post _ s.toks)
  | bool b=>cases h; exact wpAny_truthy_bool (ok.b_post _ s.toks)
  | _=>cases h
 | int i=>cases h; exact hx.int_e fun u_=>truthy_int (ok.b_post _ s.toks)
 | str q=>
  obtain ⟨hz,h1⟩:=C6 h
  cases h1
  exact hx.str_e fun u_=>KXt.truthy rfl (by unfold lim at hz; lia) fun u_=>ok.b_post _ _
 | bytes b=>
  obtain ⟨hz,h1⟩:=C6 h
  cases h1
  refine hx.bytes_e fun u_=>KBw.truthy_K rfl (by rw [KBw.ints_length,List.size_toArray]; unfold lim at hz; lia) ?_
  rw [KBw.ints_length,List.size_toArray]
  exact ok.b_post _ _
 | lst vs=>
  obtain ⟨hz,h1⟩:=C6 h
  cases h1
  exact hx.lst_e fun u_ u_ u_ u_ h2 h3=>lst h2 h3.length hz
 | ref l i=>
  obtain ⟨vs,e,h1⟩:=O4 h
  obtain ⟨hz,h2⟩:=C6 h1
  cases h2
  obtain ⟨a,items,n,rfl,hg,hr⟩:=D4 ok hx e
  exact lst hg hr.length hz
 | _=>cases h
theorem c3p {vs:List V} {k:Int} {z:V} (h:c9b vs k = some z):∃ j,b9g vs.length k = some j /\ vs[j]? = some z:=by
 unfold c9b at h
 cases e:b9g vs.length k with
 | none=>rw [e] at h; cases h
 | some j=>rw [e] at h; exact ⟨j,rfl,h⟩
theorem d0c {b:List UInt8} {k:Int} {z:V} (h:d5b b k = some z):∃ j c,b9g b.length k = some j /\ b[j]? = some c /\ z = .int (c.toNat:Int):=by
 unfold d5b at h
 cases e:b9g b.length k with
 | none=>rw [e] at h; cases h
 | some j=>
  cases e2:b[j]? with
  | none=>simp only [e,e2] at h; cases h
  | some c=>simp only [e,e2] at h; cases h; exact ⟨j,c,rfl,e2,rfl⟩
theorem a0q {n j:Nat} {k:Int} (h:b9g n k = some j):n <= lim /\ seqIndex? k n = some j:=by
 unfold b9g at h
 split at h
 ·exact ⟨‹_›,h⟩
 ·cases h
theorem a0r {n j:Nat} {k:Int} (h:seqIndex? k n = some j):(0 <= k /\ j = k.toNat /\ k < n) ∨ (k < 0 /\ -(n:Int) <= k /\ j = (k + n).toNat):=by
 unfold seqIndex? at h
 by_cases hk:k < 0
 ·rw [if_pos hk] at h
  dsimp only at h
  by_cases q:(decide (0 <= k + n) && decide (k + n < n)) = true
  ·rw [if_pos q] at h
   simp only [Bool.and_eq_true,decide_eq_true_eq] at q
   cases h; right; lia
  ·rw [if_neg q] at h; cases h
 ·rw [if_neg hk] at h
  dsimp only at h
  by_cases q:(decide (0 <= k) && decide (k < n)) = true
  ·rw [if_pos q] at h
   simp only [Bool.and_eq_true,decide_eq_true_eq] at q
   cases h; left; lia
  ·rw [if_neg q] at h; cases h
theorem E7 {slice:PySem.Expr} (h:N0 slice = true) (o i:Value):subscripted slice false o i = operate [o,i] (getItem o i):=by
 cases slice <;> first | rfl | cases h
theorem Q0 (ok:Ok B lay P nl A st s) {o i:Value} {x y z:V} (hx:Rel (wd lay A P s.heap) (nl - 1) o x) (hy:Rel (wd lay A P s.heap) (nl - 1) i y) (h:c9c st x y = some z) :
  wpAny (model B.prog B.w) Ar (getItem o i) (Post B lay P A s nl st z RV) E s:=by
 obtain ⟨k,rfl,h1⟩:=I8 h
 refine hy.int_e fun t=>?_
 have oth:O0 st x (fun vs=>c9b vs k) = some z->wpAny (model B.prog B.w) Ar (getItem o (.int k t)) (Post B lay P A s nl st z RV) E s:=fun h=>by
  obtain ⟨vs,e,h⟩:=O4 h
  obtain ⟨j,hj,hz⟩:=c3p h
  obtain ⟨a,items,n,rfl,hg,hr⟩:=D4 ok hx e
  obtain ⟨v,hv,hrv⟩:=hr.get hz
  obtain ⟨hb,hj⟩:=a0q hj
  have hlen:=hr.length
  unfold lim at hb
  have q:Post B lay P A s nl st z RV v s:=.pure ok hrv
  rcases a0r hj with ⟨h0,hj',h1⟩ | ⟨h0,h1,hj'⟩
  ·exact wpAny_getItem_list (B8 hg) h0 (by lia) (x:=v) (by rw [<- hj']; simpa using hv) q
  ·exact wpAny_getItem_list_neg (B8 hg) h0 (by rw [List.size_toArray,hlen]; lia) (by lia) (x:=v) (by rw [List.size_toArray,hlen,<- hj']; simpa using hv) q
 cases x with
 | tup vs=>
  obtain ⟨j,hj,hz⟩:=c3p h1
  refine hx.tup_e fun a items n u_ h2 h3=>?_
  obtain ⟨v,hv,hrv⟩:=h3.get hz
  obtain ⟨hb,hj⟩:=a0q hj
  unfold lim at hb
  have hb2:=a0r hj
  exact PyProof.Rows.getItem_tuple (H5 h2) (by lia) (by lia) (by rw [List.size_toArray,h3.length]; exact hj) (x:=v) (by simpa using hv) (.pure ok hrv)
 | bytes b=>
  obtain ⟨j,c,hj,hc,rfl⟩:=d0c h1
  obtain ⟨hb,hj⟩:=a0q hj
  unfold lim at hb
  have hb2:=a0r hj
  refine hx.bytes_e fun u_=>getItem_gives (typeIs_bytes s _ _) (by decide) FB.slot_bytes_getitem FB.entry_bytes_getitem (FB.args_bytes_getitem_2 _ _) (gives_bytes_getitem _ _ _ _ c ?_ ?_) ?_
  ·simp only [Builtin.Bytes.fitsIndex,Bool.and_eq_true,decide_eq_true_eq]; lia
  ·rw [List.size_toArray,hj]; simpa using hc
  ·exact ok.int_post _ _ _
 | _=>exact oth h1
theorem a2g (ok:Ok B lay P nl A st s) {o i:Value} {x y z:V} (hx:Rel (wd lay A P s.heap) (nl - 1) o x) (hy:Rel (wd lay A P s.heap) (nl - 1) i y) (h:c9c st x y = some z) (value:PySem.Expr) {slice:PySem.Expr} (hp:N0 slice = true) :
  wpAny (model B.prog B.w) Ar (subscriptTail value slice o i) (Post B lay P A s nl st z RV) E s:=by
 have g:=Q0 (Ar:=Ar) (E:=E) ok hx hy h
 have hs:∀ {vs},C7 st x = some vs->wpAny (model B.prog B.w) Ar (subscriptTail value slice o i) (Post B lay P A s nl st z RV) E s:=fun e=>by
  obtain ⟨a,items,n,rfl,hg,hr⟩:=D4 ok hx e
  exact tail_any (B8 hg).typeIs slot_list_getitem.lookup g (E7 hp _ _)
 obtain ⟨k,rfl,h1⟩:=I8 h
 have oth:=fun h:O0 st x (fun vs=>c9b vs k) = some z=>hs (O4 h).choose_spec.1
 cases x with
 | tup vs=>
  revert g
  exact hx.tup_e fun u_ u_ u_ u_ h2 u_ g=>tail_any (id := "tuple.__getitem__") ⟨_,h2,rfl⟩ (by first | exact slot_tuple_getitem.lookup | exact F.slot_tuple_getitem.lookup) g (E7 hp _ _)
 | bytes b=>
  revert g
  exact hx.bytes_e fun u_ g=>tail_any (typeIs_bytes s _ _) FB.slot_bytes_getitem.lookup g (E7 hp _ _)
 | _=>exact oth h1
end
end
section
noncomputable def RelPart (w:Wd) (lv:Nat) (v:Value):Option V->Prop
 | none=>v = .none
 | some x=>Rel w lv v x
theorem RelPart.mono {w w':Wd} {lv lv':Nat} (hl:Wd.Le lv w w') (hlv:lv <= lv') {v:Value} {x:Option V} (h:RelPart w lv v x):RelPart w' lv' v x:=by
 cases x with
 | none=>exact h
 | some x=>exact Rel.mono hl hlv h
theorem RelPart.part {w:Wd} {lv:Nat} {v:Value} {x:Option V} {k:Option Int} (h:RelPart w lv v x) (hk:c8x x = some k):IsPart v k:=by
 cases x with
 | none=>cases hk; rw [show v = .none from h]; exact .none
 | some x=>
  have h:Rel w lv v x:=h
  cases x with
  | int i=>cases hk; exact h.int_e fun u_=>.int _ _
  | imm u=>
   obtain ⟨q,e⟩:=C6 hk
   cases e
   obtain rfl:u = .none:=eq_of_beq q
   exact h.imm_e .none
  | _=>cases hk
section
variable {B:Base} {Ar:Around} {lay:List Loc} {P:Addr->Prop} {nl:Nat} {A:List (List Addr)} {st:St} {s:Shared} {E:Value->Shared->Prop}
theorem a8u (ok:Ok B lay P nl A st s) {o l u:Value} {x z:V} {lo hi:Option V} {mu:Bool} {st':St} (hx:Rel (wd lay A P s.heap) (nl - 1) o x)
  (hl:RelPart (wd lay A P s.heap) (nl - 1) l lo) (hu:RelPart (wd lay A P s.heap) (nl - 1) u hi) (h:c9x st x lo hi none mu = some (z,st')) (value:PySem.Expr) (le ue:Option PySem.Expr) (p:Pos) :
  wpAny (model B.prog B.w) Ar (subscriptTail value (.Slice le ue none p) o (.ref s.heap.objs.size)) (Post B lay P A s nl st' z RV) E
   { s with heap:=s.heap.push { cls:=.type "slice",data:=.fields #[l,u,.none] } }:=by
 have hk:∀ b q,s.heap.get? b = some q->(s.heap.push { cls:=.type "slice",data:=.fields #[l,u,.none] }).get? b = some q:=fun b q e=>Heap.get?_push_of_some _ e
 obtain ⟨ok1,g1⟩:=ok.grow (tk:=s.toks) hk
 obtain ⟨_,h1⟩:=K2 h
 obtain ⟨lk,e1,h2⟩:=c2v h1
 obtain ⟨hk',e2,h3⟩:=c2v h2
 have p1:=hl.part e1
 have p2:=hu.part e2
 clear h h1 h2 hl hu e1 e2
 have oth:O0 st x (fun vs=>if vs.length <= lim then mkL mu (cut vs lk hk') st else none) = some (z,st')->wpAny (model B.prog B.w) Ar (subscriptTail value (.Slice le ue none p) o (.ref s.heap.objs.size)) (Post B lay P A s nl st' z RV) E
   { s with heap:=s.heap.push { cls:=.type "slice",data:=.fields #[l,u,.none] } }:=fun h=>by
  obtain ⟨vs,e,h1⟩:=O4 h
  obtain ⟨hz,h2⟩:=K2 h1
  obtain ⟨a,items,n,rfl,hg,hr⟩:=D4 ok hx e
  have hlen:=hr.length
  unfold lim at hz
  refine tail_any (B8 (hk _ _ hg)).typeIs slot_list_getitem.lookup ?_ (ops:=[.ref s.heap.objs.size,.ref a]) rfl
  refine wpAny_getItem_list_slice (B8 (hk _ _ hg)) (Heap.IsSliceOf.new ..) p1 p2 .none (by simp) ?_ (by rw [List.size_toArray,hlen,sizeLine_eq]; lia)
  rw [slicePick_plain]
  have hc:RelL (wd lay A P (s.heap.push { cls:=.type "slice",data:=.fields #[l,u,.none] })) (nl - 1) (cut items lk hk') (cut vs lk hk'):=by
   unfold cut
   rw [hlen]
   exact ((hr.mono (g1.le P _) (Nat.le_refl _)).drop _).take _
  have:=(a0m ok1 (n:=0) (tk:=s.toks) hc h2).lift g1
  unfold cut at this
  simpa only [List.size_toArray] using this
 cases x with
 | bytes b=>
  clear oth
  obtain ⟨hz,e⟩:=C6 h3
  cases e
  refine hx.bytes_e fun t=>?_
  refine tail_any (typeIs_bytes _ _ _) FB.slot_bytes_getitem.lookup ?_ (ops:=[.ref s.heap.objs.size,.bytes _ _]) rfl
  refine getItem_meets (typeIs_bytes _ _ _) (by decide) FB.slot_bytes_getitem FB.entry_bytes_getitem (FB.args_bytes_getitem_2 _ _) (KBc.meets_slice2 _ _ _ p1 p2) ⟨Heap.IsSliceOf.new _ _ _ _,?_,fun t' k=>?_⟩
  ·have:=KBc.size_picked_le b.toArray lk hk'
   have h2:b.toArray.size = b.length:=List.size_toArray
   unfold lim at hz
   rw [sizeLine_eq]; lia
  ·rw [KBc.picked_eq]
   obtain ⟨ok2,g2⟩:=ok1.toks k
   refine ⟨A,g1.trans g2,ok2,?_⟩
   show Rel _ _ (Value.bytes _ _) _
   simp only [List.size_toArray]
   exact .bytes
 | _=>exact oth h3
end
end
section
theorem a5u {vs:List Value} {ns:List Int} (h:IntsAre vs ns):∃ xs:Array (Int × Tok),vs.toArray = intItems xs /\ xs.toList.map (·.1) = ns:=by
 induction h with
 | nil=>exact ⟨#[],by simp [intItems],rfl⟩
 | cons n t h ih=>
  obtain ⟨xs,h1,h2⟩:=ih
  refine ⟨((n,t) :: xs.toList).toArray,?_,by simp [h2]⟩
  have:intItems (((n,t) :: xs.toList).toArray) = ((Value.int n t) :: (intItems xs).toList).toArray:=by simp [intItems]
  rw [this,<- h1]
section
variable {B:Base} {Ar:Around} {lay:List Loc} {P:Addr->Prop} {nl:Nat} {A:List (List Addr)} {st:St} {s:Shared} {E:Value->Shared->Prop}
theorem Ok.kept_int (ok:Ok B lay P nl A st s) (i:Int) {h':Heap} (t tk:Nat) (hk:∀ b o,s.heap.get? b = some o->h'.get? b = some o) :
  Post B lay P A s nl st (V.int i) RV (.int i t) { s with heap:=h',toks:=tk }:=
 let ⟨ok',g⟩:=ok.grow (tk:=tk) hk
 ⟨A,g,ok',.int⟩
theorem a0s {l:Addr} {items:Array Value} {Q:Value->Shared->Prop} (hl:s.heap.IsList l items)
  (h:Q (.ref s.heap.objs.size) { s with heap:=s.heap.push { cls:=.type "list_iterator",data:=.fields #[.ref l,.int 0 0] } }) :
  wpAny (model B.prog B.w) Ar (call (.builtin "iter") [.ref l]) Q E s:=by
 refine Calls.call_function_entry (by decide +kernel) (by decide +kernel) kdk_entry_iter (kdk_args_iter _) ?_
 unfold Builtin.«iter»
 refine wpAny_bind (m:=someArgs "iter" 1 2 _) (wpAny_of_eq (a:=[Value.ref l]) (by first | rfl | kernel_rfl!) ?_)
 show wpAny _ _ (pyIter (.ref l) >>= _) _ _ _
 refine wpAny_bind (wpAny_pyIter_list hl ?_)
 exact wpAny_pure ⟨_,rfl,h⟩
theorem a0t {it l:Addr} {i:Nat} {items:Array Value} {x:Value} {Q:Value->Shared->Prop} (hit:s.heap.IsListIter it l i)
  (hl:s.heap.IsList l items) (hx:items[i]? = some x)
  (hQ:Q x { s with heap:=s.heap.update it (Obj.mapFields (·.setIfInBounds 1 (rawInt ((i:Int) + 1)))) }) :
  wpAny (model B.prog B.w) Ar (call (.builtin "next") [.ref it]) Q E s:=by
 obtain ⟨o,ho,hc,hd⟩:=id hit
 obtain ⟨ol,hol,_,n,hdl⟩:=hl
 refine Calls.call_function_entry (by decide +kernel) (by decide +kernel) kdk_entry_next (kdk_args_next _) ?_
 unfold Builtin.«next»
 refine wpAny_bind (m:=someArgs "next" 1 2 _) (wpAny_of_eq (a:=[Value.ref it]) (by first | rfl | kernel_rfl!) ?_)
 dsimp only
 refine wpAny_bind (wpAny_specialOf (name:=Str.ofString "__next__") hit.typeIs slot_listiter_next.lookup ?_)
 refine wpAny_ite_split (fun hab=>absurd hab (by decide)) (fun u_=>?_)
 refine wpAny_bind (wpAny_callSpecial?_slot (name:=Str.ofString "__next__") hit.typeIs slot_listiter_next
  (wpAny_call_entry slot_listiter_next hit.typeIs entry_listiter_next ?_ (args_listiter_next _)))
 show wpAny _ _ (field (.ref it) 0 >>= _) _ _ s
 refine wpAny_bind (wpAny_field ho hd (x:=.ref l) rfl ?_)
 show wpAny _ _ (if (Value.ref l == Value.none) = true then _ else _) _ _ s
 rw [if_neg (show ¬ ((Value.ref l == Value.none) = true) from Bool.false_ne_true)]
 show wpAny _ _ (field (.ref it) 1 >>= _) _ _ s
 refine wpAny_bind (wpAny_field ho hd (x:=.int i 0) rfl ?_)
 show wpAny _ _ (seqItems? (.ref l) >>= _) _ _ s
 refine wpAny_bind (wpAny_seqItems hol hdl ?_)
 simp only [Int.toNat_natCast,hx]
 exact wpAny_bind (wpAny_setField ho hd (by simp) (wpAny_pure ⟨x,rfl,wpAny_pure ⟨_,rfl,hQ⟩⟩))
theorem b9t {xs:Array (Int × Tok)} {is:List Int} (h:xs.toList.map (·.1) = is) {j:Nat} (hj:j < is.length):is[j]? = some (numAt xs j):=by
 subst h
 have hj':j < xs.size:=by simpa using hj
 unfold numAt
 simp [hj']
theorem b6y {z:Int} (h:z.natAbs <= 2 ^ 50 * 1000):InLong z:=by
 have h2:(z.natAbs:Int) < 9223372036854775808:=Int.ofNat_lt.mpr (Nat.lt_of_le_of_lt h (show 2 ^ 50 * 1000 < 9223372036854775808 by decide))
 have h3 : -z <= (z.natAbs:Int):=Int.natAbs_neg z ▸ Int.le_natAbs
 exact ⟨Int.le_of_lt (Int.neg_lt_of_neg_lt (Int.lt_of_le_of_lt h3 h2)),Int.lt_of_le_of_lt Int.le_natAbs h2⟩
theorem b6z:∀ js:List Int,(∀ i ∈ js,i.natAbs <= 2 ^ 50)->js.sum.natAbs <= 2 ^ 50 * js.length
 | [],_=>Nat.le_refl _
 | a :: r,h=>by
  rw [List.sum_cons,List.length_cons,Nat.mul_succ,Nat.add_comm]
  exact Nat.le_trans (Int.natAbs_add_le a r.sum) (Nat.add_le_add (h a (.head _)) (b6z r fun i m=>h i (.tail _ m)))
theorem b4m (ok:Ok B lay P nl A st s) (hh:Ar.handled = none) {a:Addr} {items:List Value} {n:Nat} {is:List Int} (hg:s.heap.get? a = some (a4c items.toArray n)) (hi:IntsAre items is)
  (hs:∀ i ∈ is,small 50 i = true) (hz:is.length <= 1000):wpAny (model B.prog B.w) Ar (call (.builtin "sum") [.ref a]) (Post B lay P A s nl st (V.int is.sum) RV) E s:=by
 obtain ⟨xs,h1,h2⟩:=a5u hi
 have hlen:xs.size = is.length:=by rw [<- h2]; simp
 have hl:=B8 hg
 rw [h1] at hl
 refine sum_intList hh hl (fun j hj=>?_) fun h' tk t' hk=>?_
 ·rw [preSum_eq,h2]
  have h3:(numAt xs j).natAbs < 2 ^ 50:=of_decide_eq_true (hs _ (List.mem_of_getElem? (b9t h2 (hlen ▸ hj))))
  have h4:=Nat.le_trans (b6z (is.take (j + 1)) fun i hi=>Nat.le_of_lt (of_decide_eq_true (hs i (List.mem_of_mem_take hi)))) (Nat.mul_le_mul_left (2 ^ 50) (Nat.le_trans (List.length_take_le' _ _) hz))
  exact ⟨b6y (Nat.le_trans (Nat.le_of_lt h3) (by decide)),b6y h4⟩
 ·rw [preSum_eq,h2,hlen,List.take_of_length_le (Nat.le_refl _)]
  exact ok.kept_int _ _ _ hk
end
end
section
set_option maxRecDepth 100000
section
variable {prog:Program} {w:World} {A:Around} {E:Value->Shared->Prop} {s:Shared}
end
section
variable {B:Base} {Ar:Around} {lay:List Loc} {P:Addr->Prop} {nl:Nat} {A:List (List Addr)} {st:St} {s:Shared} {E:Value->Shared->Prop}
end
end
section
theorem RelL.one {w:Wd} {lv:Nat} {vs:List Value} {x:V} (h:RelL w lv vs [x]):∃ v,vs = [v] /\ Rel w lv v x:=by
 cases h with | cons h1 h2=>cases h2; exact ⟨_,rfl,h1⟩
theorem RelL.two {w:Wd} {lv:Nat} {vs:List Value} {x y:V} (h:RelL w lv vs [x,y]):∃ v u,vs = [v,u] /\ Rel w lv v x /\ Rel w lv u y:=by
 cases h with | cons h1 h2=>obtain ⟨u,rfl,h3⟩:=h2.one; exact ⟨_,_,rfl,h1,h3⟩
structure GdOk (B:Base):Prop where
 meth:∀ a,(B.G.gds.lookup a).isSome = true->∀ (Ar:Around) (E:Value->Shared->Prop) (s:Shared) (pl:Sem Bool) (Q:Value × List Value->Shared->Prop),(∀ b o,B.h₀.get? b = some o->s.heap.get? b = some o)->
  Q (.builtin "dict.get",[.ref a]) s->wpAny (model B.prog B.w) Ar (getMethod (.ref a) "get" pl) Q E s
 get:∀ a kvs,B.G.gds.lookup a = some kvs->∀ (Ar:Around) (E:Value->Shared->Prop) (s:Shared) (k:Int) (t:Tok) (d:Value) (Q:Value->Shared->Prop),(∀ b o,B.h₀.get? b = some o->s.heap.get? b = some o)->
  (∀ tk,match kvs.lookup k with | some x=>∀ t',Q (.str x t') { s with toks:=tk } | none=>Q d { s with toks:=tk })->
  wpAny (model B.prog B.w) Ar (call (.builtin "dict.get") [.ref a,.int k t,d]) Q E s
section
variable {B:Base} {Ar:Around} {lay:List Loc} {P:Addr->Prop} {nl:Nat} {A:List (List Addr)} {st:St} {s:Shared} {E:Value->Shared->Prop}
theorem Ok.str_post (ok:Ok B lay P nl A st s) (x:Str) (t tk:Nat):Post B lay P A s nl st (V.str x) RV (.str x t) { s with toks:=tk }:=
 let ⟨ok',g⟩:=ok.toks tk
 ⟨A,g,ok',.str⟩
theorem c3q {v:V} {p:Int × Int} (h:b6p v = some p):∃ vs,v = .tup vs /\ F5 vs = some [p.1,p.2]:=by
 cases v with
 | tup vs=>
  refine ⟨vs,rfl,?_⟩
  unfold b6p at h
  cases e:F5 vs with
  | none=>simp only [e] at h; cases h
  | some is=>
   simp only [e] at h
   cases is with
   | nil=>cases h
   | cons a r=>
    cases r with
    | nil=>cases h
    | cons b r=>
     obtain ⟨q,h⟩:=C6 h
     rw [<- h,List.isEmpty_iff.mp q]
 | _=>cases h
theorem c3r {w:Wd} {lv:Nat} {v:Value} {x:V} {p:Int × Int} (h:Rel w lv v x) (e:b6p x = some p):PairAt w.h v p:=by
 obtain ⟨vs,rfl,e2⟩:=c3q e
 refine h.tup_e fun a items n u_ h2 h3=>?_
 have hv:=(h3.toInts e2).2
 rw [hv] at h3
 exact RelL.cons_e (R:=fun items=>w.h.get? a = some (d0b (List.toArray items) n)->PairAt w.h (.ref a) p) h3 (fun v vs r1 h3=>h3.cons_e fun u us r2 h4=>h4.nil_e (r1.int_e fun t=>r2.int_e fun t2 h2=>⟨_,_,_,_,rfl,h2⟩)) h2
theorem b1c {w:Wd} {lv:Nat}:∀ (vs:List V) (items:List Value) (ps:List (Int × Int)),RelL w lv items vs->Y3 vs = some ps->
  ps.length = items.length /\ ∀ (i:Nat) (v:Value) (p:Int × Int),items[i]? = some v->ps[i]? = some p->PairAt w.h v p
 | [],_,ps,h,e=>h.nil_e (by cases e; exact ⟨rfl,fun i v p e=>nomatch e⟩)
 | x :: vs,_,ps,h,e=>h.cons_e fun v items h1 h2=>by
  cases e1:b6p x with
  | none=>rw [Y3,e1] at e; cases e
  | some p=>
   cases e2:Y3 vs with
   | none=>rw [Y3,e1,e2] at e; cases e
   | some l=>
    rw [Y3,e1,e2] at e
    cases e
    obtain ⟨k1,k2⟩:=b1c vs items l h2 e2
    refine ⟨congrArg (· + 1) k1,fun i v' p' q q'=>?_⟩
    cases i with
    | zero=>cases q; cases q'; exact c3r h1 e1
    | succ i=>exact k2 i v' p' q q'
theorem a4j {w:Wd} {lv:Nat} {items:List Value} {vs:List V} (h:RelL w lv items vs):∀ (r:List Nat) (us:List V),a1y (fun i=>vs[i]?) r = some us->RelL w lv (r.map fun i=>items.getD i Value.none) us
 | [],us,e=>by cases e; exact .nil
 | i :: r,us,e=>by
  obtain ⟨b,bs,e1,e2,rfl⟩:=a5q e
  obtain ⟨v,hv,hr⟩:=h.get e1
  refine .cons ?_ (a4j h r bs e2)
  show Rel w lv (items.getD i Value.none) b
  rw [List.getD_eq_getElem?_getD,hv]
  exact hr
noncomputable abbrev a8i (B:Base) (Ar:Around) (lay:List Loc) (P:Addr->Prop) (nl:Nat) (A:List (List Addr)) (s:Shared) (E:Value->Shared->Prop) (z:V) (st':St) (t:Sem Value):Prop:=wpAny (model B.prog B.w) Ar t (Post B lay P A s nl st' z RV) E s
theorem a8v (ok:Ok B lay P nl A st s) {v:Value} {x z:V} {st':St} (hv:Rel (wd lay A P s.heap) (nl - 1) v x) (h:d8b st x = some (z,st')):a8i B Ar lay P nl A s E z st' (call (.builtin "len") [v]):=by
 have fin:∀ {n:Nat},(if n <= lim then some (V.int n,st) else none) = some (z,st')->(n <= lim->(∀ t tk,Post B lay P A s nl st (V.int n) RV (.int n t) { s with toks:=tk })->a8i B Ar lay P nl A s E (V.int n) st (call (.builtin "len") [v]))->a8i B Ar lay P nl A s E z st' (call (.builtin "len") [v]):=fun h k=>by
  obtain ⟨hz,h⟩:=C6 h
  cases h
  exact k hz fun t tk=>ok.int_post _ _ _
 have sq:O0 st x (fun vs=>if vs.length <= lim then some (V.int vs.length,st) else none) = some (z,st')->a8i B Ar lay P nl A s E z st' (call (.builtin "len") [v]):=fun h=>by
  obtain ⟨vs,hs,h⟩:=O4 h
  obtain ⟨a,its,k,rfl,hg,hr'⟩:=D4 ok hv hs
  refine fin h fun hz hp=>Calls.call_len_list (B8 hg) (by rw [List.size_toArray,hr'.length]; unfold lim at hz; lia) ?_
  rw [List.size_toArray,hr'.length]
  exact hp _ _
 cases x with
 | tup vs=>
  revert fin
  refine hv.tup_e fun a its n u_ h2 h3 fin=>fin h fun hz hp=>PyProof.Rows.len_tuple (H5 h2) (by rw [List.size_toArray,h3.length]; unfold lim at hz; lia) ?_
  rw [List.size_toArray,h3.length]
  exact hp _ _
 | bytes b=>
  revert fin
  refine hv.bytes_e fun t fin=>fin h fun hz hp=>len_bytes (by rw [List.size_toArray]; unfold lim at hz; lia) ?_
  rw [List.size_toArray]
  exact hp _ _
 | _=>exact sq h
theorem a5v (ok:Ok B lay P nl A st s) {items:List Value} {args:List V} {z:V} {st':St} (hr:RelL (wd lay A P s.heap) (nl - 1) items args) (h:d3b st args = some (z,st')):a8i B Ar lay P nl A s E z st' (call (.builtin "len") items):=by
 revert hr
 exact b4g h fun x h hr=>hr.one_e fun v hv=>a8v ok hv h
theorem a5w (ok:Ok B lay P nl A st s) {items:List Value} {args:List V} {z:V} {st':St} (hr:RelL (wd lay A P s.heap) (nl - 1) items args) (h:d3c st args = some (z,st')):a8i B Ar lay P nl A s E z st' (call (.builtin "abs") items):=by
 revert hr
 exact b4g h fun x h=>b9k h fun i h hr=>hr.one_e fun v hv=>hv.int_e fun t=>by
  cases h
  exact call_abs_int fun u tk=>ok.int_post _ _ _
theorem a5x (ok:Ok B lay P nl A st s) {items:List Value} {args:List V} {z:V} {st':St} (hr:RelL (wd lay A P s.heap) (nl - 1) items args) (h:d3d st args = some (z,st')):a8i B Ar lay P nl A s E z st' (call (.builtin "divmod") items):=by
 obtain ⟨x,y,rfl,h1⟩:=b9j h
 obtain ⟨a,rfl,h2⟩:=I8 h1
 obtain ⟨b,rfl,h3⟩:=I8 h2
 obtain ⟨q,h4⟩:=b6t h3
 cases h4
 rw [Bool.or_eq_true,not_or,decide_eq_true_eq,Bool.not_eq_true',Bool.not_eq_false] at q
 refine hr.cons_e fun v u_ hv hr=>hr.one_e fun u hu=>hv.int_e fun t=>hu.int_e fun t2=>divmod_int q.1 ?_ (.inl (PyProof.noPylong_small (by have:=of_decide_eq_true q.2; omega)))
 obtain ⟨ok',g⟩:=ok.grow (h':=s.heap.push { cls:=.type "tuple",data:=.seq #[.int (Int.fdiv _ _) s.toks,.int (Int.fmod _ _) (s.toks + 1)] }) (tk:=s.toks + 1 + 1) (fun b q e=>Heap.get?_push_of_some _ e)
 exact ⟨A,g,ok',.tup (items:=[_,_]) ok.fresh (Heap.get?_push_size _ rfl) (.cons .int (.cons .int .nil))⟩
theorem a5y (ok:Ok B lay P nl A st s) {items:List Value} {args:List V} {z:V} {st':St} (hr:RelL (wd lay A P s.heap) (nl - 1) items args) (h:d3e st args = some (z,st')):a8i B Ar lay P nl A s E z st' (call (.builtin "hex") items):=by
 revert hr
 refine b4g h fun x h=>b9k h fun i h hr=>hr.one_e fun v hv=>hv.int_e fun t=>?_
 obtain ⟨hz,h1⟩:=C6 h
 cases h1
 unfold lim at hz
 exact PySem.P.hex_of_int (ok.str_post _ _ _) (by rw [sizeLine_eq]; lia)
theorem a3l (ok:Ok B lay P nl A st s) {items:List Value} {args:List V} {z:V} {st':St} (hr:RelL (wd lay A P s.heap) (nl - 1) items args) (h:c2x st args = some (z,st')):a8i B Ar lay P nl A s E z st' (call (.builtin "iter") items):=by
 obtain ⟨x,rfl,h⟩:=a3i h
 obtain ⟨v,rfl,hv⟩:=hr.one
 cases x with
 | lst vs=>
  refine hv.lst_e fun a0 its0 k0 h1 h2 h3=>?_
  refine a0s (B8 h2) ?_
  refine ok.alloc (tk:=s.toks) h (fun b q e=>Heap.get?_push_of_some _ e) (Heap.get?_none_of_le (Nat.le_refl _)) fun w hw hm le=>⟨a0,its0,k0,0,?_,?_,?_,?_⟩
  ·rw [hw]; exact Heap.get?_push_size _ rfl
  ·intro q
   rcases hm _ q with q | q
   ·exact h1 q
   ·subst q; exact absurd (Heap.lt_size h2) (Nat.lt_irrefl _)
  ·rw [hw]; exact Heap.get?_push_of_some _ h2
  ·rw [List.drop_zero]; exact h3.mono le (Nat.le_refl _)
 | _=>cases h
theorem a3m (ok:Ok B lay P nl A st s) {items:List Value} {args:List V} {z:V} {st':St} (hr:RelL (wd lay A P s.heap) (nl - 1) items args) (h:c2z st args = some (z,st')):a8i B Ar lay P nl A s E z st' (call (.builtin "next") items):=by
 obtain ⟨x,rfl,h⟩:=a3i h
 obtain ⟨v,rfl,hv⟩:=hr.one
 cases x with
 | ref l0 i0=>
  refine hv.ref_e fun a0 h1 h2=>?_
  have hn:∃ vs,st.obj l0 i0 = some (.iter (z :: vs)) /\ st' = st.setObj l0 i0 (.iter vs):=by
   change c2y st l0 i0 (st.obj l0 i0) = _ at h
   generalize st.obj l0 i0 = o at h
   match o,h with
   | some (.iter (v :: vs)),h=>cases h; exact ⟨vs,rfl,rfl⟩
  obtain ⟨vs,e,rfl⟩:=hn
  obtain ⟨b,its,k,i,h3,h4,h5,h6⟩:=ok.objs _ _ _ _ e h2
  obtain ⟨x,hx,hxr⟩:=h6.get (i:=0) rfl
  have hx':its[i]? = some x:=by
   rw [List.getElem?_drop] at hx; simpa using hx
  refine a0t (i:=i) ⟨_,h3,rfl,rfl⟩ (B8 h5) (x:=x) (by simpa using hx') ?_
  have hne:b ≠ _:=fun q=>h4 (q ▸ .inl (.inr ⟨_,_,h2⟩))
  have hs:=Heap.SameBut.update s.heap a0 (Obj.mapFields (·.setIfInBounds 1 (rawInt ((i:Int) + 1))))
  obtain ⟨ok',g⟩:=ok.setObj (tk:=s.toks) (h':=s.heap.update a0 (Obj.mapFields (·.setIfInBounds 1 (rawInt ((i:Int) + 1))))) (o':=.iter _) h2 (fun b o hb e=>(hs.2 b hb).trans e)
   ⟨b,its,k,i + 1,by rw [Heap.get?_update_self _ h3 rfl]; simp [Obj.mapFields,rawInt],h4,(hs.2 b hne).trans h5,by
    have le:∀ lv,Wd.Le lv (wd lay A P s.heap) (wd lay A P (s.heap.update a0 (Obj.mapFields (·.setIfInBounds 1 (rawInt ((i:Int) + 1)))))):=
     fun lv=>⟨fun c o e q=>.of ((hs.2 c (fun x=>q (x ▸ .inl (.inr ⟨_,_,h2⟩)))).trans e),fun u_ u_ u_ h=>h,fun u_ u_ u_ u_ e=>e⟩
    have:=(h6.drop 1).mono (le _) (Nat.le_refl _)
    simpa [List.drop_drop,Nat.add_comm] using this⟩
  refine ⟨A,g,ok',?_⟩
  exact (hxr.mono (lv':=nl - 1) (.refl _ _) h1).mono (g.le P _) (Nat.le_refl _)
 | _=>cases h
theorem d5t {f:Int->Int->Int} {g:BiF} {st:St} {args:List V} {r:V × St} (h:mm2 f g st args = some r):(∃ x y,args = [.int x,.int y] /\ (.int (f x y),st) = r) ∨ g st args = some r:=by
 match args,h with
 | [],h=>exact .inr h
 | [_],h=>exact .inr h
 | _ :: _ :: _ :: _,h=>exact .inr h
 | [a,b],h=>
  obtain ⟨x,rfl,h⟩:=I8 (v:=a) h
  obtain ⟨y,rfl,h⟩:=I8 h
  exact .inl ⟨x,y,rfl,Option.some.inj h⟩
theorem b4n {f:Int->Int->Int} {g:BiF} {n:String} {items:List Value} {args:List V} {z:V} {st':St} (hs:∀ a b t u,a8i B Ar lay P nl A s E (.int (f a b)) st (call (.builtin n) [.int a t,.int b u]))
  (hr:RelL (wd lay A P s.heap) (nl - 1) items args) (hg:g st args = some (z,st')->a8i B Ar lay P nl A s E z st' (call (.builtin n) items)) (h:mm2 f g st args = some (z,st')):a8i B Ar lay P nl A s E z st' (call (.builtin n) items):=by
 rcases d5t h with ⟨x,y,rfl,e⟩ | h
 ·cases e
  exact hr.cons_e fun v u_ hv hr=>hr.one_e fun u hu=>hv.int_e fun t=>hu.int_e fun t2=>hs _ _ _ _
 ·exact hg h
theorem Ok.int_heap (ok:Ok B lay P nl A st s) {h':Heap} (hk:∀ c o,s.heap.get? c = some o->h'.get? c = some o) (i:Int) (t tk:Nat):Post B lay P A s nl st (V.int i) RV (.int i t) { s with heap:=h',toks:=tk }:=
 let ⟨ok',g⟩:=ok.grow (tk:=tk) hk
 ⟨A,g,ok',.int⟩
theorem a8w (ok:Ok B lay P nl A st s) (hh:Ar.handled = none) (a b:Int) (t u:Tok):a8i B Ar lay P nl A s E (.int (min a b)) st (call (.builtin "min") [.int a t,.int b u]):=min_two_ints hh fun h' tk hk=>by
 by_cases q:b < a
 ·rw [if_pos q,Int.min_eq_right (Int.le_of_lt q)]; exact ok.int_heap hk _ _ _
 ·rw [if_neg q,Int.min_eq_left (Int.not_lt.mp q)]; exact ok.int_heap hk _ _ _
theorem a5z (ok:Ok B lay P nl A st s) (hh:Ar.handled = none) {items:List Value} {args:List V} {z:V} {st':St} (hr:RelL (wd lay A P s.heap) (nl - 1) items args) (h:d3f st args = some (z,st')):a8i B Ar lay P nl A s E z st' (call (.builtin "sum") items):=by
 obtain ⟨x,rfl,h⟩:=a3i h
 obtain ⟨vs,is,e,e2,h⟩:=b6s h
 obtain ⟨v,rfl,hv⟩:=hr.one
 obtain ⟨a,its,k,rfl,hg,hr'⟩:=D4 ok hv e
 obtain ⟨q,h⟩:=C6 h
 cases h
 simp only [Bool.and_eq_true,List.all_eq_true,decide_eq_true_eq] at q
 exact b4m ok hh hg (hr'.toInts e2).1 q.1 q.2
theorem a3n (ok:Ok B lay P nl A st s) {items:List Value} {args:List V} {z:V} {st':St} (hr:RelL (wd lay A P s.heap) (nl - 1) items args) (h:c3a st args = some (z,st')):a8i B Ar lay P nl A s E z st' (call (.builtin "sorted") items):=by
 obtain ⟨x,rfl,h⟩:=a3i h
 obtain ⟨vs,e,h⟩:=O4 h
 obtain ⟨v,rfl,hv⟩:=hr.one
 obtain ⟨a,its,k,rfl,hg,hr'⟩:=D4 ok hv e
 split at h
 ·rename_i us hus
  cases h
  unfold a1z at hus
  split at hus
  ·rename_i ps hps
   split at hus
   ·rename_i hc
    split at hus
    ·rename_i r hpr
     obtain ⟨k1,k2⟩:=b1c vs its ps hr' hps
     have hl:=hr'.length
     refine a3g (B8 hg) (by lia) k1 k2 (by rw [hl]; exact hpr) fun h' hk hc=>?_
     obtain ⟨c,hc⟩:=hc
     obtain ⟨ok',g⟩:=ok.grow (tk:=s.toks) hk
     refine ⟨A,g,ok',.lst (fun q=>?_) hc ((a4j hr' _ _ hus).mono (g.le P _) (Nat.le_refl _))⟩
     obtain ⟨o,e⟩:=ok.alive _ q
     exact Nat.lt_irrefl _ (Nat.lt_of_succ_lt (Heap.lt_size e))
    ·cases hus
   ·cases hus
  ·cases hus
 ·cases h
noncomputable abbrev BiR (B:Base) (Ar:Around) (lay:List Loc) (P:Addr->Prop) (nl:Nat) (A:List (List Addr)) (s:Shared) (E:Value->Shared->Prop) (z:V) (st':St) (items:List Value) (n:String):Prop:=a8i B Ar lay P nl A s E z st' (call (.builtin n) items)
theorem b4o (ok:Ok B lay P nl A st s) (hh:Ar.handled = none) {n:String} {items:List Value} {args:List V} {z:V} {st':St} (hr:RelL (wd lay A P s.heap) (nl - 1) items args)
  (h:biV st n args = some (z,st')):wpAny (model B.prog B.w) Ar (call (.builtin n) items) (Post B lay P A s nl st' z RV) E s:=
 c2j (R:=BiR B Ar lay P nl A s E z st' items) h (a5v ok hr) fun h=>c2j (R:=BiR B Ar lay P nl A s E z st' items) h (a5w ok hr) fun h=>c2j (R:=BiR B Ar lay P nl A s E z st' items) h (a5x ok hr) fun h=>
 c2j (R:=BiR B Ar lay P nl A s E z st' items) h (a5y ok hr) fun h=>c2j (R:=BiR B Ar lay P nl A s E z st' items) h (a3l ok hr) fun h=>c2j (R:=BiR B Ar lay P nl A s E z st' items) h (a3m ok hr) fun h=>
 c2j (R:=BiR B Ar lay P nl A s E z st' items) h (a5z ok hh hr) fun h=>c2j (R:=BiR B Ar lay P nl A s E z st' items) h (b4n (a8w ok hh) hr (fun h=>nomatch h)) fun h => 
 c2j (R:=BiR B Ar lay P nl A s E z st' items) h (a3n ok hr) fun h =>  nomatch h
theorem Ok.rng_post (ok:Ok B lay P nl A st s) (a b c:Int) (t u v tk:Nat) :
  Post B lay P A s nl st (V.rng a b c) RV (.ref s.heap.objs.size) { s with heap:=s.heap.push { cls:=.type "range",data:=.fields #[.int a t,.int b u,.int c v] },toks:=tk }:=
 let ⟨ok',g⟩:=ok.grow (h':=s.heap.push { cls:=.type "range",data:=.fields #[.int a t,.int b u,.int c v] }) (tk:=tk) (fun u_ u_ e=>Heap.get?_push_of_some _ e)
 ⟨A,g,ok',.rng ok.fresh (IsRange.new ..)⟩
theorem a6a (ok:Ok B lay P nl A st s) {items:List Value} {args:List V} {z:V} {st':St} (hr:RelL (wd lay A P s.heap) (nl - 1) items args) (h:c3b st args = some (z,st')):a8i B Ar lay P nl A s E z st' (call (.type "range") items):=by
 cases e:F5 args with
 | none=>unfold c3b at h; rw [e] at h; cases h
 | some is=>
  have h0:d8c st is = some (z,st'):=by unfold c3b at h; rw [e] at h; exact h
  clear h
  have h:=h0
  obtain rfl:=(hr.toInts e).2
  clear e h0
  cases is with
  | nil=>cases h
  | cons a r=>
  cases r with
  | nil=>
   cases h
   exact hr.one_e fun v hv=>hv.int_e fun t=>call_range_1 (ok.rng_post _ _ _ _ _ _ _)
  | cons b r=>
  cases r with
  | nil=>
   cases h
   exact hr.cons_e fun v u_ hv hr=>hr.one_e fun u hu=>hv.int_e fun t=>hu.int_e fun t2=>call_range_2 (ok.rng_post _ _ _ _ _ _ _)
  | cons c r=>
  cases r with
  | cons _ _=>cases h
  | nil=>
   obtain ⟨q,h1⟩:=b6t h
   cases h1
   rw [Bool.or_eq_true,not_or,decide_eq_true_eq,Bool.not_eq_true',Bool.not_eq_false] at q
   exact hr.cons_e fun v u_ hv hr=>hr.cons_e fun u u_ hu hr=>hr.one_e fun t ht=>hv.int_e fun t1=>hu.int_e fun t2=>ht.int_e fun t3=>
    call_range_3 q.1 (ok.rng_post _ _ _ _ _ _ _) (.inl (PyProof.noPylong_small (by have:=of_decide_eq_true q.2; lia)))
theorem a0u (hh:Ar.handled = none) (ok:Ok B lay P nl A st s) {items:List Value} {args:List V} {z:V} {st':St} (hr:RelL (wd lay A P s.heap) (nl - 1) items args) (h:b6q st args = some (z,st')):a8i B Ar lay P nl A s E z st' (call (.type "bytes") items):=by
 obtain ⟨x,rfl,h1⟩:=a3i h
 obtain ⟨vs,is,e,e2,h2⟩:=b6s h1
 obtain ⟨q,h3⟩:=C6 h2
 cases h3
 refine hr.one_e fun v hv=>?_
 obtain ⟨a,its,k,rfl,hg,hr'⟩:=D4 ok hv e
 simp only [Bool.and_eq_true,List.all_eq_true,decide_eq_true_eq] at q
 have hi:=(hr'.toInts e2).1
 have hl:=hi.length
 have hz:=q.2
 unfold lim at hz
 refine call_bytes_ints (B8 hg) hi (fun n hn=>q.1 n hn) (by rw [sizeLine_eq]; lia) hh fun h' t k hk=>?_
 obtain ⟨ok',g⟩:=ok.grow (tk:=k) hk
 exact ⟨A,g,ok',.bytes⟩
theorem a6b (ok:Ok B lay P nl A st s) {items:List Value} {args:List V} {z:V} {st':St} (hr:RelL (wd lay A P s.heap) (nl - 1) items args) (h:d3g st args = some (z,st')):a8i B Ar lay P nl A s E z st' (call (.type "int") items):=by
 revert hr
 exact b4g h fun x h=>b9k h fun i h hr=>hr.one_e fun v hv=>hv.int_e fun t=>by
  cases h
  exact call_int_int (ok.int_post _ _ s.toks)
noncomputable abbrev TyR (B:Base) (Ar:Around) (lay:List Loc) (P:Addr->Prop) (nl:Nat) (A:List (List Addr)) (s:Shared) (E:Value->Shared->Prop) (z:V) (st':St) (items:List Value) (n:String):Prop:=a8i B Ar lay P nl A s E z st' (call (.type n) items)
theorem b4p (ok:Ok B lay P nl A st s) (hh:Ar.handled = none) {n:String} {items:List Value} {args:List V} {z:V} {st':St} (hr:RelL (wd lay A P s.heap) (nl - 1) items args)
  (h:tyV st n args = some (z,st')):wpAny (model B.prog B.w) Ar (call (.type n) items) (Post B lay P A s nl st' z RV) E s:=
 c2j (R:=TyR B Ar lay P nl A s E z st' items) h (a6b ok hr) fun h=>c2j (R:=TyR B Ar lay P nl A s E z st' items) h (a6a ok hr) fun h=>c2j (R:=TyR B Ar lay P nl A s E z st' items) h (a0u hh ok hr) fun h =>  nomatch h
end
end
section
theorem a6c (items:List Value) (x:Int) (y:Value) :
  (items.toArray.extract 0 (if x < 0 then (x + (items.toArray.size:Int)).toNat else min x.toNat items.toArray.size)).push y ++ items.toArray.extract (if x < 0 then (x + (items.toArray.size:Int)).toNat else min x.toNat items.toArray.size) = (insAt items x y).toArray:=by
 unfold insAt
 simp
 exact List.take_of_length_le (by rw [List.length_drop]; lia)
theorem RelL.insAt {w:Wd} {lv:Nat} {vs:List Value} {xs:List V} (h:RelL w lv vs xs) (k:Int) {v:Value} {x:V} (hv:Rel w lv v x):RelL w lv (insAt vs k v) (insAt xs k x):=by
 unfold Mine.insAt
 rw [h.length]
 exact (h.take _).append (.cons hv (h.drop _))
theorem a3o {α:Type} (xs:List α) (k:Int) (x:α):(insAt xs k x).length = xs.length + 1:=by
 unfold insAt
 rw [List.length_append,List.length_cons,<- Nat.add_assoc,<- List.length_append,List.take_append_drop]
mutual
theorem T8 {w:Wd} {lv l:Nat}:∀ {x:V} {v:Value},Rel w lv v x->x.lvlOk l = true->Rel w l v x
 | .imm _,_,h,_=>h.imm_e .imm
 | .int _,_,h,_=>h.int_e fun u_=>.int
 | .str _,_,h,_=>h.str_e fun u_=>.str
 | .bytes _,_,h,_=>h.bytes_e fun u_=>.bytes
 | .tup vs,_,h,q=>h.tup_e fun u_ u_ u_ a b c=>.tup a b (O8 c q)
 | .lst vs,_,h,q=>h.lst_e fun u_ u_ u_ a b c=>.lst a b (O8 c q)
 | .rng _ _ _,_,h,_=>by cases h with | rng a b=>exact .rng a b
 | .ref _ _,_,h,q=>h.ref_e fun u_ a b=>.ref (of_decide_eq_true q) b
 | .clo _ _,_,h,_=>by cases h
theorem O8 {w:Wd} {lv l:Nat}:∀ {xs:List V} {vs:List Value},RelL w lv vs xs->V.lvlOkL l xs = true->RelL w l vs xs
 | [],_,h,_=>h.nil_e .nil
 | x :: xs,_,h,q=>h.cons_e fun u_ u_ a b=>by
  have q:(V.lvlOk l x && V.lvlOkL l xs) = true:=q
  rw [Bool.and_eq_true] at q
  exact .cons (T8 a q.1) (O8 b q.2)
end
section
variable {B:Base} {Ar:Around} {lay:List Loc} {P:Addr->Prop} {nl:Nat} {A:List (List Addr)} {st:St} {s:Shared} {E:Value->Shared->Prop}
theorem Ok.setList (ok:Ok B lay P nl A st s) {l i:Nat} {a:Addr} {items:List Value} {vs:List V} {n:Nat} {h':Heap} {tk:Nat} (hl:E4 A l i = some a)
  (hs:Heap.SameBut a s.heap h') (hg:h'.get? a = some (a4c items.toArray n)) (hr:RelL (wd lay A P s.heap) l items vs) :
  Ok B lay P nl A (st.setObj l i (.list vs)) { s with heap:=h',toks:=tk } /\ Go lay A A s { s with heap:=h',toks:=tk }:=by
 have le:Wd.Le l (wd lay A P s.heap) (wd lay A P h'):=⟨fun c o e q=>.of ((hs.2 c (fun x=>q (x ▸ .inl (.inr ⟨_,_,hl⟩)))).trans e),fun u_ u_ u_ h=>h,fun u_ u_ u_ u_ e=>e⟩
 exact ok.setObj hl (fun b o hb e=>(hs.2 b hb).trans e) ⟨items,n,hg,hr.mono le (Nat.le_refl _)⟩
noncomputable def a8x (B:Base) (Ar:Around) (lay:List Loc) (P:Addr->Prop) (nl:Nat) (n:Str) (ov:Value) (o:V) (id:String):Prop:=
 ∀ (A:List (List Addr)) (st:St) (s:Shared) (E:Value->Shared->Prop),Ok B lay P nl A st s->Rel (wd lay A P s.heap) (nl - 1) ov o->∀ (items:List Value) (args:List V) (z:V) (st':St),
  RelL (wd lay A P s.heap) (nl - 1) items args->a0k B.G st o n args = some (z,st')->wpAny (model B.prog B.w) Ar (call (.builtin id) (ov :: items)) (Post B lay P A s nl st' z RV) E s
theorem a8y {l i:Nat} {ov:Value}:a8x B Ar lay P nl "append" ov (.ref l i) "list.append" := fun A st s E ok hv items args z st' hr h=>by
 obtain ⟨vs,e,h1⟩:=a5g h
 obtain ⟨x,rfl,h2⟩:=a3i ((if_pos rfl).symm.trans h1)
 obtain ⟨q,h3⟩:=C6 h2
 cases h3
 rw [Bool.and_eq_true,decide_eq_true_eq] at q
 obtain ⟨v,rfl,hv'⟩:=hr.one
 refine hv.ref_e fun a h1 h2=>?_
 obtain ⟨its,k,h3,h4⟩:=ok.objs _ _ _ _ e h2
 have hz:=q.2
 have hl:=h4.length
 unfold lim at hz
 refine append_at h3 (fun h' hs hg=>?_) (by rw [List.size_toArray,sizeLine_eq]; lia)
 obtain ⟨ok',g⟩:=ok.setList (tk:=s.toks) (items:=its ++ [v]) (vs:=vs ++ [x]) (n:=k + 1) h2 hs (by rw [hg]; simp) (h4.append (.cons (T8 hv' q.1) .nil))
 exact ⟨A,g,ok',.imm⟩
theorem a8z {l i:Nat} {ov:Value}:a8x B Ar lay P nl "insert" ov (.ref l i) "list.insert" := fun A st s E ok hv items args z st' hr h=>by
 obtain ⟨vs,e,h1⟩:=a5g h
 unfold b0v at h1
 rw [if_neg (by decide +kernel),if_pos rfl] at h1
 obtain ⟨kk,x,rfl,h2⟩:=b9j h1
 obtain ⟨k0,rfl,h3⟩:=I8 h2
 obtain ⟨q,h4⟩:=C6 h3
 cases h4
 rw [Bool.and_eq_true,Bool.and_eq_true,decide_eq_true_eq] at q
 obtain ⟨v,u,rfl,hv',hu⟩:=hr.two
 refine hv'.int_e fun t=>hv.ref_e fun a h1 h2=>?_
 obtain ⟨its,k,h3,h4⟩:=ok.objs _ _ _ _ e h2
 have hz:=q.1.2
 have hl:=h4.length
 unfold lim at hz
 have hsm:=of_decide_eq_true q.2
 have fin:∀ h',Heap.SameBut a s.heap h'->h'.get? a = some (a4c (insAt its k0 u).toArray (k + 1))->Post B lay P A s nl (st.setObj l i (.list (insAt vs k0 x))) (V.imm .none) RV .none { s with heap:=h',toks:=s.toks }:=fun h' hs hg=>by
  obtain ⟨ok',g⟩:=ok.setList (tk:=s.toks) h2 hs hg (h4.insAt _ (T8 hu q.1.1))
  exact ⟨A,g,ok',.imm⟩
 refine call_meets PySem.F.slot_list_insert ⟨_,h3,rfl⟩ PySem.F.entry_list_insert (PySem.F.args_list_insert_3 _ _ _) (PySem.AutoSeq1.list_insert_list_int_val_1 a _ k _ _ u (by simp [Builtin.List.listFitsIndex]; lia) (by rw [List.size_toArray,sizeLine_eq]; lia)) ⟨h3,fin _ (Heap.SameBut.update ..) ?_⟩
 rw [Heap.get?_update_self _ h3 rfl]
 show some (Obj.mapSeq _ _) = _
 unfold Obj.mapSeq
 dsimp only
 rw [a6c,if_neg]
 rw [List.size_toArray,List.size_toArray,a3o,beq_iff_eq]; lia
theorem b7a {w:Wd} {lv:Nat}:∀ {xs:List V} {vs:List Value} {ss:List Str},RelL w lv vs xs->O3 xs = some ss->∃ l:List (Str × Tok),vs = strValues l /\ l.map (·.1) = ss
 | [],_,_,h,e=>h.nil_e (by cases e; exact ⟨[],rfl,rfl⟩)
 | x :: xs,_,_,h,e=>h.cons_e fun v vs h1 h2=>by
  cases x with
  | str x=>
   obtain ⟨l,q,e⟩:=b9i e
   subst e
   obtain ⟨l',rfl,rfl⟩:=b7a h2 q
   exact h1.str_e fun t=>⟨(x,t) :: l',rfl,rfl⟩
  | _=>cases e
theorem methV_join {G:Pg} {st:St} {x:Str} {args:List V}:a0k G st (.str x) "join" args = b4h st x args:=by
 delta a0k
 dsimp only
 exact if_pos rfl
theorem b9u {x:Str} {ov:Value}:a8x B Ar lay P nl "join" ov (.str x) "str.join" := fun A st s E ok hv items args z st' hr h=>by
 obtain ⟨y,rfl,h1⟩:=a3i (methV_join.symm.trans h)
 obtain ⟨vs,e,h2⟩:=O4 h1
 obtain ⟨v,rfl,hv'⟩:=hr.one
 obtain ⟨a,its,k,rfl,hg,hr'⟩:=D4 ok hv' e
 cases q:O3 vs with
 | none=>rw [q] at h2; cases h2
 | some ss=>
  rw [q] at h2
  obtain ⟨hj,h3⟩:=C6 h2
  cases h3
  obtain ⟨l,rfl,rfl⟩:=b7a hr' q
  exact hv.str_e fun t=>SC.join (B8 hg) rfl hj fun t' k=>ok.str_post _ _ _
theorem c3s (gd:GdOk B) {a:Addr} {ov:Value}:a8x B Ar lay P nl "get" ov (.imm (.ref a)) "dict.get" := fun A st s E ok hv items args z st' hr h=>by
 obtain ⟨kk,d,rfl,h1⟩:=b9j (show b4i B.G st (.ref a) args = _ from (K2 (c:=("get" : Str) = "get") h).2)
 obtain ⟨k,rfl,h2⟩:=I8 h1
 cases e:B.G.gds.lookup a with
 | none=>rw [e] at h2; cases h2
 | some kvs=>
  rw [e] at h2
  have h3:d5n st (kvs.lookup k) d = (z,st'):=Option.some.inj h2
  obtain ⟨v,u,rfl,hv',hu⟩:=hr.two
  refine hv.imm_e (hv'.int_e fun t=>gd.get _ kvs e _ _ _ _ _ _ _ (fun b o e=>ok.base b o e) fun tk=>?_)
  generalize kvs.lookup k = o at h3
  cases o with
  | some x=>cases h3; exact fun t'=>ok.str_post _ _ _
  | none=>
   cases h3
   obtain ⟨ok',g⟩:=ok.toks tk
   exact ⟨A,g,ok',hu.mono (g.le P _) (Nat.le_refl _)⟩
theorem T9 (gd:GdOk B) (ok:Ok B lay P nl A st s) {ov:Value} {o:V} {n:Str} (hx:Rel (wd lay A P s.heap) (nl - 1) ov o) (h:a3j B.G st o n = true) :
  ∃ id,(∀ (pl:Sem Bool) (Q:Value × List Value->Shared->Prop),Q (.builtin id,[ov]) s->wpAny (model B.prog B.w) Ar (getMethod ov n pl) Q E s) /\ a8x B Ar lay P nl n ov o id:=by
 cases o with
 | ref l i=>
  obtain ⟨⟨vs,e⟩,h⟩:=c3f h
  refine hx.ref_e fun a h1 h2=>?_
  obtain ⟨its,k,h3,h4⟩:=ok.objs _ _ _ _ e h2
  rcases Bool.or_eq_true_iff.mp h with q | q
  ·obtain rfl:=of_decide_eq_true q
   exact ⟨"list.append",fun pl Q hq=>Calls.getMethod_list_append h3 rfl rfl hq,a8y⟩
  ·
    obtain rfl:=of_decide_eq_true q
    exact ⟨"list.insert",fun pl Q hq=>getMethod_list_of PySem.F.slot_list_insert PySem.F.type_list_insert (B8 h3) ⟨_,h3,rfl⟩ hq,a8z⟩
 | str x=>
  obtain rfl:=of_decide_eq_true h
  exact hx.str_e fun t=>⟨"str.join",fun pl Q hq=>by with_reducible exact GM.join hq,b9u⟩
 | imm v=>
  cases v with
  | ref a=>
   obtain ⟨q,h2⟩:=Bool.and_eq_true_iff.mp h
   obtain rfl:=of_decide_eq_true q
   exact hx.imm_e ⟨"dict.get",fun pl Q hq=>gd.meth _ h2 _ _ _ _ _ (fun b o e=>ok.base b o e) hq,c3s gd⟩
  | _=>cases h
 | _=>cases h
end
end
section
noncomputable abbrev RU:Wd->Nat->Unit->Unit->Prop:=fun u_ u_ u_ u_=>True
section
variable {B:Base} {Ar:Around} {lay:List Loc} {P:Addr->Prop} {nl:Nat} {A:List (List Addr)} {st:St} {s:Shared} {E:Value->Shared->Prop}
theorem a6d {l:Addr} {items:Array Value} {n:Nat} {k:Int} {t:Tok} {v:Value} {Q:Unit->Shared->Prop} (hl:s.heap.get? l = some (a4c items n))
  (h0:0 <= k) (hfit:k < 2 ^ 63) (hn:k < items.size)
  (hQ:Q () { s with heap:=s.heap.update l (Obj.mapSeq (·.setIfInBounds k.toNat v)) }) :
  wpAny (model B.prog B.w) Ar (setItem (.ref l) (.int k t) v) Q E s:=by
 have hl':=B8 hl
 have hj:k.toNat < items.size:=by lia
 have hfits:=fitsIndex_of h0 hfit
 unfold setItem
 refine wpAny_holding ?_
 first | refine wpAny_bind (wpAny_pure ?_) | skip
 refine wpAny_bind (wpAny_sequenceKey hl'.typeIs (by decide) ?_)
 refine wpAny_bind (wpAny_callSpecial?_slot (name:=Str.ofString "__setitem__") hl'.typeIs slot_list_setitem
  (wpAny_call_entry slot_list_setitem hl'.typeIs entry_list_setitem ?_ (args_list_setitem _ _ _)))
 show wpAny _ _ (Builtin.List.listSubscript? (.int k t) >>= _) _ _ s
 refine wpAny_bind (wpAny_listSubscript_int hfits ?_)
 obtain ⟨j,rfl⟩:=Int.eq_ofNat_of_zero_le h0
 have hj':j < items.size:=hj
 show wpAny _ _ ((seqItemAt l j >>= fun r=>pure (r.map (j,·))) >>= _) _ _ s
 refine wpAny_bind (wpAny_bind (wpAny_seqItemAt hl rfl (wpAny_pure ?_)))
 rw [Array.getElem?_eq_getElem hj']
 show wpAny _ _ (setSeqItemAt l j v >>= _) _ _ s
 refine wpAny_bind (wpAny_setSeqItemAt hl rfl ?_)
 first
  | exact wpAny_bind (wpAny_pure (wpAny_pure ⟨.none,rfl,wpAny_pure hQ⟩))
  | exact wpAny_pure ⟨.none,rfl,wpAny_pure hQ⟩
theorem Y6 (ok:Ok B lay P nl A st s) {o i v:Value} {x y z:V} {st':St} (hx:Rel (wd lay A P s.heap) (nl - 1) o x) (hy:Rel (wd lay A P s.heap) (nl - 1) i y)
  (hz:Rel (wd lay A P s.heap) (nl - 1) v z) (h:a4g st x y z = some st') :
  wpAny (model B.prog B.w) Ar (setItem o i v) (Post B lay P A s nl st' () RU) E s:=by
 revert hx
 refine c9v h fun l9 j9 h1 hx=>?_
 obtain ⟨k9,rfl,h2⟩:=I8 h1
 obtain ⟨vs,e,h3⟩:=a5g h2
 obtain ⟨j,hj,h4⟩:=d5i h3
 obtain ⟨q,h5⟩:=C6 h4
 cases h5
 rw [Bool.and_eq_true,decide_eq_true_eq] at q
 obtain ⟨hb,hj⟩:=a0q hj
 unfold lim at hb
 refine hy.int_e fun t=>hx.ref_e fun a h1 h2=>?_
 obtain ⟨its,k,h3,h4⟩:=ok.objs _ _ _ _ e h2
 have hlen:=h4.length
 have hc:=a0r hj
 have hjk:j = k9.toNat:=by lia
 refine a6d h3 q.2 (by lia) (by rw [List.size_toArray,hlen]; lia) ?_
 obtain ⟨ok',g⟩:=ok.setList (tk:=s.toks) (h':=s.heap.update a (Obj.mapSeq (·.setIfInBounds k9.toNat v))) (items:=its.set k9.toNat v) (vs:=vs.set k9.toNat z) (n:=k) h2 (Heap.SameBut.update ..) (by
  rw [Heap.get?_update_self _ h3 rfl]
  simp [Obj.mapSeq]) (h4.set (T8 hz q.1) _)
 rw [hjk]
 exact ⟨A,g,ok',trivial⟩
theorem a0v {l b:Addr} {items items2:Array Value} {n n2:Nat} {Q:Value->Shared->Prop} (hl:s.heap.get? l = some (a4c items n)) (hb:s.heap.get? b = some (a4c items2 n2))
  (hsz:items.size + items2.size <= sizeLine) (h:Q (.ref l) { s with heap:=s.heap.update l (Obj.mapSeq fun x=>x ++ items2) }) :
  wpAny (model B.prog B.w) Ar (inplaceOp .Add (.ref l) (.ref b)) Q E s:=by
 have tl:=(B8 hl).typeIs
 have tb:=(B8 hb).typeIs
 unfold inplaceOp
 refine wpAny_holding ?_
 have hfi:fillsInplaceSlot (.type "list") "add" (Operator.Add == .Add) = pure false:=by
  unfold fillsInplaceSlot
  show (typeLookup (.type "list") (dunderI "add") >>= fun fi=>pure (fi.isSome && !isSeqSlot fi)) = pure false
  rw [PySem.F.slot_list_iadd.lookup]
  rfl
 have hsi:seqSlot? (.type "list") (dunderI "add") = pure (some (.builtin "list.__iadd__")):=PySem.seqSlot_of PySem.F.slot_list_iadd.lookup (by decide +kernel)
 refine wpAny_bind (wpAny_typeOf tl (wpAny_bind (wpAny_of_eq hfi ?_)))
 show wpAny _ _ (if false = true then _ else _) Q E s
 rw [if_neg Bool.false_ne_true]
 refine wpAny_bind (wpAny_binaryOp1_none (nm := "add") tl tb noFill_list_add ?_)
 refine wpAny_bind (wpAny_of_eq hsi ?_)
 refine wpAny_bind (wpAny_rule ?_)
 refine call_meets PySem.F.slot_list_iadd tl PySem.F.entry_list_iadd (PySem.F.args_list_iadd_2 _ _) (PySem.AutoSeq1.list___iadd___list_list_0 l items n b items2 n2 ?_ (by lia) (by lia)) ⟨hl,hb,h⟩
 have:Builtin.List.listTooLong (items.size + items2.size) = false:=by simp [Builtin.List.listTooLong]; lia
 rw [this]; simp
theorem a2h (ok:Ok B lay P nl A st s) {op:Operator} {o i:Value} {x y z:V} {st':St} (hx:Rel (wd lay A P s.heap) (nl - 1) o x) (hy:Rel (wd lay A P s.heap) (nl - 1) i y)
  (h:c9e st op x y = some (z,st')):wpAny (model B.prog B.w) Ar (inplaceOp op o i) (Post B lay P A s nl st' z RV) E s:=by
 cases x with
 | int x=>
  obtain ⟨j,rfl,h1⟩:=I8 h
  cases e:a0i op x j with
  | none=>rw [e] at h1; cases h1
  | some c=>
   rw [e] at h1
   cases h1
   exact hx.int_e fun u_=>hy.int_e fun u_=>a0n ok e
 | ref l0 i0=>
  cases op with
  | Add=>
   obtain ⟨vs,e1,h1⟩:=a5g h
   obtain ⟨us,e2,h2⟩:=O4 h1
   obtain ⟨q,h3⟩:=C6 h2
   cases h3
   rw [Bool.and_eq_true,decide_eq_true_eq] at q
   obtain ⟨b,its2,k2,rfl,hg2,hr2⟩:=D4 ok hy e2
   refine hx.ref_e fun a h1 h2=>?_
   obtain ⟨its,k,h3,h4⟩:=ok.objs _ _ _ _ e1 h2
   have hl:=h4.length
   have hl2:=hr2.length
   have hz:=q.2
   unfold lim at hz
   refine a0v h3 hg2 (by rw [List.size_toArray,List.size_toArray,sizeLine_eq]; lia) ?_
   obtain ⟨ok',g⟩:=ok.setList (tk:=s.toks) (h':=s.heap.update a (Obj.mapSeq fun x=>x ++ its2.toArray)) (items:=its ++ its2) (vs:=vs ++ us) (n:=if its2 = [] then k else k + 1) h2 (Heap.SameBut.update ..) (by
    rw [Heap.get?_update_self _ h3 rfl]
    cases its2 <;> simp [Obj.mapSeq]) (h4.append (O8 hr2 q.1))
   exact ⟨A,g,ok',.ref h1 h2⟩
  | _=>cases h
 | _=>cases h
theorem Ok.setDict (ok:Ok B lay P nl A st s) {i:Nat} {L:Addr} {x:Str} {v:Option Value} {z:Option V} {h':Heap} {tk:Nat} (hi:lay[i]? = some (.dict L x)) {m:Str->Option Value} (hm:s.heap.Ns L m)
  (hn:h'.Ns L (fun y=>if y = x then v else m y)) (hs:Heap.SameBut L s.heap h') (hv:RelO (wd lay A P s.heap) (nl - 1) v z) :
  Ok B lay P nl A { st with ρ:=st.ρ.set i z } { s with heap:=h',toks:=tk } /\ Go lay A A s { s with heap:=h',toks:=tk }:=by
 have ta:Tch lay A L:=.inl ⟨_,List.mem_of_getElem? hi,rfl⟩
 have hk:∀ b o,b ≠ L->s.heap.get? b = some o->h'.get? b = some o:=fun b o hb e=>(hs.2 b hb).trans e
 have hL:∃ o,h'.get? L = some o:=let ⟨o,_,_,e,_⟩:=hn; ⟨o,e⟩
 have hlive:∀ b o,s.heap.get? b = some o->∃ o',h'.get? b = some o':=fun b o e=>by
  by_cases q:b = L
  ·subst q; exact hL
  ·exact ⟨o,hk b o q e⟩
 have g:Go lay A A s { s with heap:=h',toks:=tk }:=⟨fun b o e h=>.of (hk b o (fun q=>h (q ▸ ta)) e),hlive,fun u_ u_ u_ e=>e,fun u_ u_ u_ e=>.inl e,rfl,rfl,rfl⟩
 have le:=fun lv=>g.le P lv
 refine ⟨?_,g⟩
 exact {
  base:=fun b o e=>hk b o (fun q=>ok.baseM b o e (q ▸ .inl ta)) (ok.base b o e)
  baseM:=ok.baseM
  frs:=fun M hM=>by
   obtain ⟨o,es,ep,h1,h2,h3⟩:=ok.frs M hM
   by_cases q:M = L
   ·subst q
    obtain ⟨o',es',ep',e',d',_⟩:=hn
    exact ⟨o',es',ep',e',d',h3⟩
   ·exact ⟨o,es,ep,hk _ _ q h1,h2,h3⟩
  len:=by rw [List.length_set]; exact ok.len
  slots:=fun j lo e=>by
   have old:=ok.slots j lo e
   by_cases hji:j = i
   ·subst hji
    rw [hi] at e; cases e
    have hlt:j < st.ρ.length:=by rw [ok.len]; exact (List.getElem?_eq_some_iff.mp hi).1
    refine ⟨_,hn,?_⟩
    rw [if_pos rfl,List.getElem?_set_self hlt]
    exact hv.mono (le _) (Nat.le_refl _)
   ·rw [List.getElem?_set_ne (fun q=>hji q.symm)]
    have ap:=ok.sep j i lo _ e hi hji
    cases lo with
    | dict L' y=>
     obtain ⟨m',h1,h2⟩:=old
     by_cases hLL:L' = L
     ·subst hLL
      have hyx:y ≠ x:=by
       rcases ap with q | q
       ·exact absurd rfl q
       ·exact q
      refine ⟨_,hn,?_⟩
      rw [if_neg hyx]
      have:m' y = m y:=by
       obtain ⟨o1,es1,ep1,a1,b1,c1,d1⟩:=h1
       obtain ⟨o2,es2,ep2,a2,b2,c2,d2⟩:=hm
       rw [a1] at a2; cases a2
       rw [b1] at b2; cases b2
       rw [<- d1,<- d2]
      rw [<- this]
      exact h2.mono (le _) (Nat.le_refl _)
     ·exact ⟨m',h1.sameBut hs hLL,h2.mono (le _) (Nat.le_refl _)⟩
    | cell c=>
     have hc:c ≠ L:=ap
     obtain ⟨cv,⟨q,h1,h1'⟩,h2⟩:=old
     exact ⟨cv,⟨q,hk _ _ hc h1,h1'⟩,h2.mono (le _) (Nat.le_refl _)⟩
  sep:=ok.sep
  lenA:=ok.lenA
  dimA:=ok.dimA
  objs:=fun l' i' o b h1 h2=>E5 (le _) (fun q hq=>hk _ _ (fun x=>ok.layA _ (List.mem_of_getElem? hi) l' i' (by rw [h2,x]; rfl)) hq) (ok.objs l' i' o b h1 h2) fun u_ u_ u_ h=>h
  inj:=ok.inj
  layA:=ok.layA
  disP:=ok.disP
  alive:=fun b h=>let ⟨o,e⟩:=ok.alive b h; hlive b o e
  rlen:=ok.rlen
  lvl:=ok.lvl }
theorem Ok.setCell (ok:Ok B lay P nl A st s) {i:Nat} {c:Addr} {v:Value} {z:V} {h':Heap} {tk:Nat} (hi:lay[i]? = some (.cell c))
  (hn:h'.IsCell c (some v)) (hs:Heap.SameBut c s.heap h') (hv:Rel (wd lay A P s.heap) (nl - 1) v z) :
  Ok B lay P nl A { st with ρ:=st.ρ.set i (some z) } { s with heap:=h',toks:=tk } /\ Go lay A A s { s with heap:=h',toks:=tk }:=by
 have ta:Tch lay A c:=.inl ⟨_,List.mem_of_getElem? hi,rfl⟩
 have hk:∀ b o,b ≠ c->s.heap.get? b = some o->h'.get? b = some o:=fun b o hb e=>(hs.2 b hb).trans e
 have hL:∃ o,h'.get? c = some o:=let ⟨o,e,_⟩:=hn; ⟨o,e⟩
 have hlive:∀ b o,s.heap.get? b = some o->∃ o',h'.get? b = some o':=fun b o e=>by
  by_cases q:b = c
  ·subst q; exact hL
  ·exact ⟨o,hk b o q e⟩
 have g:Go lay A A s { s with heap:=h',toks:=tk }:=⟨fun b o e h=>.of (hk b o (fun q=>h (q ▸ ta)) e),hlive,fun u_ u_ u_ e=>e,fun u_ u_ u_ e=>.inl e,rfl,rfl,rfl⟩
 have le:=fun lv=>g.le P lv
 refine ⟨?_,g⟩
 exact {
  base:=fun b o e=>hk b o (fun q=>ok.baseM b o e (q ▸ .inl ta)) (ok.base b o e)
  baseM:=ok.baseM
  frs:=fun M hM=>by
   obtain ⟨o,es,ep,h1,h2,h3⟩:=ok.frs M hM
   refine ⟨o,es,ep,hk _ _ (fun q=>?_) h1,h2,h3⟩
   subst q
   obtain ⟨cv,⟨o',e',d'⟩,_⟩:=ok.slots i _ hi
   have e2:=Option.some.inj (h1.symm.trans e')
   rw [e2,d'] at h2; cases h2
  len:=by rw [List.length_set]; exact ok.len
  slots:=fun j lo e=>by
   have old:=ok.slots j lo e
   by_cases hji:j = i
   ·subst hji
    rw [hi] at e; cases e
    have hlt:j < st.ρ.length:=by rw [ok.len]; exact (List.getElem?_eq_some_iff.mp hi).1
    refine ⟨_,hn,?_⟩
    rw [List.getElem?_set_self hlt]
    exact .some (hv.mono (le _) (Nat.le_refl _))
   ·rw [List.getElem?_set_ne (fun q=>hji q.symm)]
    have ap:=ok.sep j i lo _ e hi hji
    refine E6 (le _) (fun q hq=>hk _ _ ?_ hq) old
    cases lo with
    | dict L' y=>exact ap
    | cell c'=>exact ap
  sep:=ok.sep
  lenA:=ok.lenA
  dimA:=ok.dimA
  objs:=fun l' i' o b h1 h2=>E5 (le _) (fun q hq=>hk _ _ (fun x=>ok.layA _ (List.mem_of_getElem? hi) l' i' (by rw [h2,x]; rfl)) hq) (ok.objs l' i' o b h1 h2) fun u_ u_ u_ h=>h
  inj:=ok.inj
  layA:=ok.layA
  disP:=ok.disP
  alive:=fun b h=>let ⟨o,e⟩:=ok.alive b h; hlive b o e
  rlen:=ok.rlen
  lvl:=ok.lvl }
end
end
section
structure CX where
 res:Str->Option Nat
 cel:Str->Bool
 gl:Str->Option Value
 n:Nat
 code:Value
 qual:Str
noncomputable def E1 (scope:Scope):List Str:=(scope.names.filter fun x=>x.2 == .local || x.2 == .cell).map (·.1)
noncomputable def I0 (cx:CX) (Gl:Str->Option Value) (scope:Scope):CX where
 res x:=match scope.names.lookup x with
  | some .local=>((E1 scope).idxOf? x).map (cx.n + ·)
  | some .cell=>((E1 scope).idxOf? x).map (cx.n + ·)
  | some .free=>cx.res x
  | _=>none
 cel x:=match scope.names.lookup x with | some .cell=>true | some .free=>cx.cel x | _=>false
 gl x:=match scope.names.lookup x with | some .globalImplicit=>Gl x | _=>none
 n:=cx.n + (E1 scope).length
 code:=cx.code
 qual:=cx.qual
structure Hn where
 mu:Pos->Bool
 gl:Str->Option Value
 pv:Addr
noncomputable def c8z (gl:Str->Option Value) (x:Str) (v:Value):Bool:=!a5m x && decide (gl x = some v)
noncomputable def c9g (res:Str->Option Nat) (x:Str) (i:Nat):Bool:=!a5m x && decide (res x = some i)
noncomputable def S3 (gl:Str->Option Value) (v:Value) (q:Pt) (k:List PySem.Expr->Bool):Bool:=(decide (q.tag = 8 /\ (B5 q.a).tag = 2) && q.ks.isEmpty) && (c8z gl (B5 q.a).x v && k q.es)
noncomputable def c9h (f:PySem.Expr->ME->Bool) (gl:Str->Option Value) (e:PySem.Expr):MI->Bool
 | .val m=>f e m
 | .enum (.val m)=>S3 gl (.type "enumerate") (B5 e) fun as=>F9 f as [m]
 | _=>false
noncomputable def a6e (f:PySem.Expr->ME->Bool) (res:Str->Option Nat):Nat->PySem.Expr->MPat->Bool
 | 0,_,_=>false
 | d + 1,e,p=>match p with
  | .slot i=>decide ((B5 e).tag = 2) && decide (res (B5 e).x = some i)
  | .tup ps=>decide ((B5 e).tag = 14) && F9 (a6e f res d) (B5 e).es ps
  | .sub o i=>(decide ((B5 e).tag = 11) && N0 (B5 e).b) && (f (B5 e).a o && f (B5 e).b i)
noncomputable def d3j (f:PySem.Expr->ME->Bool):Option PySem.Expr->Option ME->Bool
 | none,none=>true
 | some e,some m=>f e m
 | _,_=>false
noncomputable def d3k (f:PySem.Expr->ME->Bool) (k:Keyword) (m:Str × ME):Bool:=decide (k.arg = some m.1) && f k.value m.2
noncomputable def c3t:MI->PySem.Expr->Bool
 | .enum _,t=>decide ((B5 t).tag = 14)
 | _,_=>true
noncomputable def c3u (f:PySem.Expr->ME->Bool) (gl:Str->Option Value) (res:Str->Option Nat):(PySem.Expr->MI->Bool)->List Comprehension->List Clause->Bool
 | _,[],[]=>true
 | fi,⟨t,i,ifs,a⟩ :: r,.mk p m fs :: cs=>(decide (a = 0) && c3t m t) && ((a6e f res 4 t p && fi i m) && (F9 f ifs fs && c3u f gl res (c9h f gl) r cs))
 | _,_,_=>false
noncomputable def b1d (cx:CX) (scope:Scope):Bool:=decide (scope.kind = .function) && decide ((scope.names.map (·.1)).Nodup) && scope.names.all (fun x=>x.2 != .free || cx.cel x.1) && decide (scope.names.lookup (".0" : Str) = some .local)
noncomputable def b1e:ME->Nat
 | .const _=>1 | .slot _=>2 | .imm _=>2 | .bin _ _ _ _=>3 | .un _ _=>4 | .land _=>5 | .lor _=>5 | .cmp _ _ _=>6 | .ite _ _ _=>7 | .call _ _ _=>8 | .meth _ _ _=>8 | .comp _ _ _ _ _=>10 | .sub _ _=>11 | .slc _ _ _ _ _=>11 | .rvs _ _=>11
 | .lst _ _=>13 | .tup _=>14 | .lam _ _ _ _=>15 | .dict0=>16
noncomputable def d8e (H:Hn) (f:CX->PySem.Expr->ME->Bool) (cx:CX) (q:Pt):ME->Bool
 | .const c=>decide (q.cs = c)
 | .slot i=>c9g cx.res q.x i
 | .imm v=>c8z cx.gl q.x v
 | .bin op a b mu=>decide (q.bop = op /\ H.mu q.p = mu) && (f cx q.a a && f cx q.b b)
 | .un op a=>decide (q.uop = op) && f cx q.a a
 | .land es=>decide (q.lop = .And) && F9 (f cx) q.es es
 | .lor es=>decide (q.lop = .Or) && F9 (f cx) q.es es
 | .cmp a ops bs=>decide (q.cops = ops) && (f cx q.a a && F9 (f cx) q.es bs)
 | .ite t a b=>f cx q.a t && (f cx q.b a && f cx q.d b)
 | .call g as ks=>decide ((B5 q.a).tag = 2) && (f cx q.a g && (F9 (f cx) q.es as && F9 (d3k (f cx)) q.ks ks))
 | .meth o nm as=>(decide ((B5 q.a).tag = 9 /\ (B5 q.a).x = nm /\ q.es.length < 20 /\ (B5 (B5 q.a).a).tag ≠ 8) && (((B5 q.a).p.endLine == q.p.line) && q.ks.isEmpty)) && (f cx (B5 q.a).a o && F9 (f cx) q.es as)
 | .comp mu base k cl m=>one q.sc fun scope=>(decide (H.mu q.p = mu /\ base = cx.n /\ k = (E1 scope).length) && b1d cx scope) &&
   (c3u (f (I0 cx H.gl scope)) (I0 cx H.gl scope).gl (I0 cx H.gl scope).res (c9h (f cx) cx.gl) q.gs cl && f (I0 cx H.gl scope) q.a m)
 | .sub o i=>N0 q.b && (f cx q.a o && f cx q.b i)
 | .slc o lo hi stp mu=>(decide (H.mu q.p = mu /\ (B5 q.b).tag = 12) && ((B5 q.b).o3.isNone && stp.isNone)) && (f cx q.a o && (d3j (f cx) (B5 q.b).o1 lo && d3j (f cx) (B5 q.b).o2 hi))
 | .rvs o mu=>(decide (H.mu q.p = mu /\ (B5 q.b).tag = 12) && ((B5 q.b).o1.isNone && (B5 q.b).o2.isNone)) && (f cx q.a o && d3j (f cx) (B5 q.b).o3 (some (.un .USub (.const (.int 1)))))
 | .lst es mu=>decide (H.mu q.p = mu) && F9 (f cx) q.es es
 | .tup es=>decide (q.es.length <= 1000) && F9 (f cx) q.es es
 | .dict0=>true
 | .lam m c0 qn is=>one q.sc fun sc=>(decide (cx.code = .ref c0 /\ cx.qual ++ ("<lambda>" : Str) = qn) && d3i m q.ar q.a sc) && (F9 (fun x i=>c9g cx.res x i && cx.cel x) m.caps is && sc.names.all (fun x=>decide (x.2 ≠ .free) || m.caps.contains x.1))
noncomputable def a2i (H:Hn) (f:CX->PySem.Expr->ME->Bool) (cx:CX) (q:Pt) (m:ME):Bool:=decide (q.tag = b1e m /\ b1e m ≠ 0) && d8e H f cx q m
noncomputable def cmp (H:Hn):Nat->CX->PySem.Expr->ME->Bool
 | 0,_,_,_=>false
 | n + 1,cx,e,m=>a2i H (cmp H n) cx (B5 e) m
section
variable {H:Hn} {f:CX->PySem.Expr->ME->Bool} {cx:CX} {e:PySem.Expr} {R:PySem.Expr->Prop}
theorem Q1:∀ {n:Nat} {m:ME},cmp H n cx e m = true->(B5 e).tag ≠ 0
 | 0,_,h=>(Bool.false_ne_true h).elim
 | _ + 1,_,h=>(C3 (B1 h).1).1 ▸ (C3 (B1 h).1).2
theorem cm {m:ME} (h:a2i H f cx (B5 e) m = true):(B5 e).tag = b1e m /\ d8e H f cx (B5 e) m = true:=⟨(C3 (B1 h).1).1,(B1 h).2⟩
@[elab_as_elim] theorem U2 {c} (h:a2i H f cx (B5 e) (.const c) = true) (K:∀ n p,R (.Constant c n p)):R e:=by
 obtain ⟨t,h⟩:=cm h
 obtain rfl:=C3 h
 exact G6 (b6u t) (K _ _)
@[elab_as_elim] theorem a4k {i} (h:a2i H f cx (B5 e) (.slot i) = true) (K:∀ x p,c9g cx.res x i = true->R (.Name x p)):R e:=G6 (L0 (cm h).1) (K _ _ (cm h).2)
@[elab_as_elim] theorem c3v {v} (h:a2i H f cx (B5 e) (.imm v) = true) (K:∀ x p,c8z cx.gl x v = true->R (.Name x p)):R e:=G6 (L0 (cm h).1) (K _ _ (cm h).2)
@[elab_as_elim] theorem c3w {op a b mu} (h:a2i H f cx (B5 e) (.bin op a b mu) = true) (K:∀ a' b' p,H.mu p = mu->f cx a' a = true->f cx b' b = true->R (.BinOp a' op b' p)):R e:=by
 obtain ⟨t,h⟩:=cm h
 obtain ⟨h,k⟩:=B1 h
 obtain ⟨rfl,hm⟩:=C3 h
 exact G6 (c3h t) (K _ _ _ hm (B1 k).1 (B1 k).2)
@[elab_as_elim] theorem c3x {op a} (h:a2i H f cx (B5 e) (.un op a) = true) (K:∀ a' p,f cx a' a = true->R (.UnaryOp op a' p)):R e:=by
 obtain ⟨t,h⟩:=cm h
 obtain ⟨h,k⟩:=B1 h
 obtain rfl:=C3 h
 exact G6 (b6v t) (K _ _ k)
@[elab_as_elim] theorem b1f {es} (h:a2i H f cx (B5 e) (.land es) = true) (K:∀ es' p,F9 (f cx) es' es = true->R (.BoolOp .And es' p)):R e:=by
 obtain ⟨t,h⟩:=cm h
 obtain ⟨h,k⟩:=B1 h
 exact G6 ((b6w t).trans (by rw [C3 h])) (K _ _ k)
@[elab_as_elim] theorem a2j {es} (h:a2i H f cx (B5 e) (.lor es) = true) (K:∀ es' p,F9 (f cx) es' es = true->R (.BoolOp .Or es' p)):R e:=by
 obtain ⟨t,h⟩:=cm h
 obtain ⟨h,k⟩:=B1 h
 exact G6 ((b6w t).trans (by rw [C3 h])) (K _ _ k)
@[elab_as_elim] theorem b1g {a ops bs} (h:a2i H f cx (B5 e) (.cmp a ops bs) = true) (K:∀ a' bs' p,f cx a' a = true->F9 (f cx) bs' bs = true->R (.Compare a' ops bs' p)):R e:=by
 obtain ⟨t,h⟩:=cm h
 obtain ⟨h,k⟩:=B1 h
 obtain rfl:=C3 h
 exact G6 (c3i t) (K _ _ _ (B1 k).1 (B1 k).2)
@[elab_as_elim] theorem b7b {t a b} (h:a2i H f cx (B5 e) (.ite t a b) = true) (K:∀ t' a' b' p,f cx t' t = true->f cx a' a = true->f cx b' b = true->R (.IfExp t' a' b' p)):R e:=
 have k:=B1 (cm h).2
 G6 (c3j (cm h).1) (K _ _ _ _ k.1 (B1 k.2).1 (B1 k.2).2)
@[elab_as_elim] theorem W7 {g as ks} (h:a2i H f cx (B5 e) (.call g as ks) = true) (K:∀ x p as' ks' q,f cx (.Name x p) g = true->F9 (f cx) as' as = true->F9 (d3k (f cx)) ks' ks = true->R (.Call (.Name x p) as' ks' q)):R e:=by
 obtain ⟨t,h⟩:=cm h
 obtain ⟨hn,k⟩:=B1 h
 obtain ⟨k1,k2⟩:=B1 k
 refine G6 (b0x t) ?_
 have e1:=(L0 (C3 hn)).symm.trans (D6 _)
 rw [<- e1] at k1 ⊢
 exact K _ _ _ _ _ k1 (B1 k2).1 (B1 k2).2
@[elab_as_elim] theorem b1h {o nm as} (h:a2i H f cx (B5 e) (.meth o nm as) = true) (K:∀ o' p as' q,(p.endLine == q.line) = true->(B5 o').tag ≠ 8->as'.length < 20->f cx o' o = true->F9 (f cx) as' as = true->R (.Call (.Attribute o' nm p) as' [] q)):R e:=by
 obtain ⟨t,h⟩:=cm h
 obtain ⟨h,k⟩:=B1 h
 obtain ⟨h,h2⟩:=B1 h
 obtain ⟨ha,rfl,hl,hc⟩:=C3 h
 refine G6 (b0x t) ?_
 rw [List.isEmpty_iff.mp (B1 h2).2,<- (c3k ha).symm.trans (D6 _)]
 exact K _ _ _ _ (B1 h2).1 hc hl (B1 k).1 (B1 k).2
@[elab_as_elim] theorem b9v {mu base k cl m} (h:a2i H f cx (B5 e) (.comp mu base k cl m) = true) (K:∀ elt gens scope p,H.mu p = mu->base = cx.n->k = (E1 scope).length->b1d cx scope = true->c3u (f (I0 cx H.gl scope)) (I0 cx H.gl scope).gl (I0 cx H.gl scope).res (c9h (f cx) cx.gl) gens cl = true->f (I0 cx H.gl scope) elt m = true->R (.ListComp elt gens scope p)):R e:=by
 obtain ⟨t,h⟩:=cm h
 obtain ⟨scope,hs,h⟩:=a5n h
 obtain ⟨h,k⟩:=B1 h
 obtain ⟨h,hk⟩:=B1 h
 obtain ⟨h1,h2,h3⟩:=C3 h
 exact G6 (b9m t hs) (K _ _ _ _ h1 h2 h3 hk (B1 k).1 (B1 k).2)
@[elab_as_elim] theorem b7c {o i} (h:a2i H f cx (B5 e) (.sub o i) = true) (K:∀ o' i' p,N0 i' = true->f cx o' o = true->f cx i' i = true->R (.Subscript o' i' p)):R e:=
 have k:=B1 (cm h).2
 G6 (P7 (cm h).1) (K _ _ _ k.1 (B1 k.2).1 (B1 k.2).2)
@[elab_as_elim] theorem c3y {o lo hi stp mu} (h:a2i H f cx (B5 e) (.slc o lo hi stp mu) = true) (K:∀ o' lo' hi' p q,stp = none->f cx o' o = true->d3j (f cx) lo' lo = true->d3j (f cx) hi' hi = true->R (.Subscript o' (.Slice lo' hi' none p) q)):R e:=by
 obtain ⟨t,h⟩:=cm h
 obtain ⟨h,k⟩:=B1 h
 obtain ⟨h,h2⟩:=B1 h
 obtain ⟨hm,hs⟩:=C3 h
 refine G6 (P7 t) ?_
 rw [<- (b9n hs).symm.trans (D6 _),Option.isNone_iff_eq_none.mp (B1 h2).1]
 exact K _ _ _ _ _ (Option.isNone_iff_eq_none.mp (B1 h2).2) (B1 k).1 (B1 (B1 k).2).1 (B1 (B1 k).2).2
@[elab_as_elim] theorem c3z {es mu} (h:a2i H f cx (B5 e) (.lst es mu) = true) (K:∀ es' p,H.mu p = mu->F9 (f cx) es' es = true->R (.List es' p)):R e:=
 have k:=B1 (cm h).2
 G6 (b0y (cm h).1) (K _ _ (C3 k.1) k.2)
@[elab_as_elim] theorem b4q (h:a2i H f cx (B5 e) .dict0 = true) (K:∀ p,R (.Dict [] [] p)):R e:=G6 (b9p (cm h).1) (K _)
@[elab_as_elim] theorem c4a {es} (h:a2i H f cx (B5 e) (.tup es) = true) (K:∀ es' n p,es'.length <= 1000->F9 (f cx) es' es = true->R (.Tuple es' n p)):R e:=
 have k:=B1 (cm h).2
 G6 (P8 (cm h).1) (K _ _ _ (C3 k.1) k.2)
@[elab_as_elim] theorem b1i {gl v k} (h:S3 gl v (B5 e) k = true) (K:∀ x p as q,c8z gl x v = true->k as = true->R (.Call (.Name x p) as [] q)):R e:=by
 obtain ⟨h,h2⟩:=B1 h
 obtain ⟨h,hk⟩:=B1 h
 obtain ⟨t,hn⟩:=C3 h
 refine G6 (b0x t) ?_
 rw [List.isEmpty_iff.mp hk,<- (L0 hn).symm.trans (D6 _)]
 exact K _ _ _ _ (B1 h2).1 (B1 h2).2
end
structure EnvOk (B:Base) (cx:CX) (env:Env) (lay:List Loc):Prop where
 kind:env.scope.kind = .function
 globals:env.globals = mainGlobals
 builtins:env.builtins = builtinsNs
 len:lay.length = cx.n
 var:∀ x i,cx.res x = some i->(env.kindOf x = some .local /\ lay[i]? = some (.dict env.locals x)) ∨
  ((env.kindOf x = some .cell ∨ env.kindOf x = some .free) /\ ∃ c,env.cells.lookup x = some c /\ lay[i]? = some (.cell c))
 cell:∀ x,cx.cel x = true->(env.kindOf x = some .cell ∨ env.kindOf x = some .free) /\ ∃ c,env.cells.lookup x = some c
 code:env.code = cx.code
 qual:env.qual = cx.qual
 glob:∀ x v,cx.gl x = some v->env.kindOf x = some .globalImplicit /\ (B.mg x = some v ∨ (B.mg x = none /\ B.mb x = some v))
noncomputable def c9i (l:List Env) (frs:List Addr):Prop:=l.map (·.frame) = frs.map some /\ ∀ env ∈ l,env.scope.kind ≠ .module
structure ArOk (B:Base) (Ar:Around) (nl:Nat):Prop where
 handled:Ar.handled = none
 frames:∃ l,Ar.frames = some l /\ c9i l B.frs
 depth:Ar.depth <= 400 + nl
 units:Ar.units <= 200 + 20 * nl
 nl:nl <= 100
theorem ArOk.cmp {B:Base} {Ar:Around} {nl:Nat} (ao:ArOk B Ar nl):Ar.units + 100 < cLine:=by
 have:=ao.units
 have:=ao.nl
 have e:cLine = 9900:=rfl
 lia
inductive RelK (w:Wd) (lv:Nat):List (Str × Value)->List (Str × V)->Prop
 | nil:RelK w lv [] []
 | cons {k:Str} {v:Value} {x:V} {vs xs}:RelO w lv (some v) (some x)->RelK w lv vs xs->RelK w lv ((k,v) :: vs) ((k,x) :: xs)
noncomputable def RelS (w:Wd) (lv:Nat) (vs:List Value) (xs:List V):Prop:=vs.length = xs.length /\ ∀ (i:Nat),RelO w lv vs[i]? xs[i]?
theorem RelL.toS {w:Wd} {lv:Nat} {vs:List Value} {xs:List V} (h:RelL w lv vs xs):RelS w lv vs xs:=⟨h.length,fun i=>by
 cases e:xs[i]? with
 | none=>rw [List.getElem?_eq_none (h.length ▸ List.getElem?_eq_none_iff.mp e)]; exact .none
 | some x=>obtain ⟨v,e1,e2⟩:=h.get e; rw [e1]; exact .some e2⟩
theorem RelS.snoc {w:Wd} {lv:Nat} {vs:List Value} {xs:List V} {v:Value} {x:V} (h:RelL w lv vs xs) (k:RelO w lv (some v) (some x)):RelS w lv (vs ++ [v]) (xs ++ [x]):=⟨by rw [List.length_append,List.length_append,h.length]; rfl,fun i=>by
 by_cases q:i < vs.length
 ·rw [List.getElem?_append_left q,List.getElem?_append_left (h.length ▸ q)]; exact h.toS.2 i
 ·rw [List.getElem?_append_right (Nat.le_of_not_lt q),List.getElem?_append_right (h.length ▸ Nat.le_of_not_lt q),h.length]
  generalize i - xs.length = j
  cases j with
  | zero=>exact k
  | succ j=>exact .none⟩
theorem RelK.mono {w w':Wd} {lv lv':Nat} (hl:Wd.Le lv w w') (hlv:lv <= lv') {vs xs} (h:RelK w lv vs xs):RelK w' lv' vs xs:=by
 induction h with
 | nil=>exact .nil
 | cons h1 _ ih=>exact .cons (h1.mono hl hlv) ih
noncomputable abbrev RL:Wd->Nat->List Value->List V->Prop:=fun w lv vs xs=>RelL w lv vs xs
inductive RelF (w:Wd) (lv:Nat):Flow->Fl->Prop
 | next:RelF w lv .next .next
 | brk:RelF w lv .brk .brk
 | ret {v x}:Rel w lv v x->RelF w lv (.ret v) (.ret x)
end
section
noncomputable def a6f:MPat->List Nat
 | .tup ps=>ps.filterMap fun p=>match p with | .slot i=>some i | _=>none
 | _=>[]
noncomputable def b4r (t v:PySem.Expr) (p:MPat):Bool:=!decide ((B5 t).tag = 14 /\ (B5 v).tag = 14) || ((!((B5 v).es.all (constantsAlone 8)) || (B5 v).es.all (foldedForSure 8)) && decide (a6f p).Nodup)
set_option genInjectivity false in
set_option genSizeOf false in
structure SPt where
 tag:Nat
 e:PySem.Expr:=.Constant .none 0 ⟨0,0,0,0⟩
 e2:PySem.Expr:=.Constant .none 0 ⟨0,0,0,0⟩
 oe:Option PySem.Expr:=none
 oe2:Option PySem.Expr:=none
 ts:List PySem.Expr:=[]
 op:Operator:=.Add
 a:List Stmt:=[]
 b:List Stmt:=[]
 d:List Stmt:=[]
 hs:List ExceptHandler:=[]
 p:Pos
noncomputable def G1:Stmt->SPt
 | .Expr e p=>{ tag:=1,e:=e,p:=p }
 | .Return e p=>{ tag:=2,oe:=e,p:=p }
 | .Assign ts v p=>{ tag:=3,ts:=ts,e:=v,p:=p }
 | .AugAssign t op v p=>{ tag:=4,e:=t,op:=op,e2:=v,p:=p }
 | .If t a b p=>{ tag:=5,e:=t,a:=a,b:=b,p:=p }
 | .While t a b p=>{ tag:=6,e:=t,a:=a,b:=b,p:=p }
 | .For t i a b p=>{ tag:=7,e:=t,e2:=i,a:=a,b:=b,p:=p }
 | .Break p=>{ tag:=8,p:=p }
 | .Raise a b p=>{ tag:=9,oe:=a,oe2:=b,p:=p }
 | .Try a hs b d p=>{ tag:=10,a:=a,hs:=hs,b:=b,d:=d,p:=p }
 | s=>{ tag:=0,a:=[s],p:=⟨0,0,0,0⟩ }
noncomputable def a6g (q:SPt):Nat->Stmt
 | 1=>.Expr q.e q.p
 | 2=>.Return q.oe q.p
 | 3=>.Assign q.ts q.e q.p
 | 4=>.AugAssign q.e q.op q.e2 q.p
 | 5=>.If q.e q.a q.b q.p
 | 6=>.While q.e q.a q.b q.p
 | 7=>.For q.e q.e2 q.a q.b q.p
 | 8=>.Break q.p
 | 9=>.Raise q.oe q.oe2 q.p
 | 10=>.Try q.a q.hs q.b q.d q.p
 | _=>(match q.a with | [s]=>s | _=>.Break q.p)
noncomputable def d0d (q:SPt):Stmt:=a6g q q.tag
theorem U3 (s:Stmt):d0d (G1 s) = s:=by cases s <;> rfl
theorem S4 {R:Stmt->Prop} {s x:Stmt} {n:Nat} (h:(G1 s).tag = n) (hx:a6g (G1 s) n = x) (k:R x):R s:=((congrArg (a6g (G1 s)) h).symm.trans (U3 s)) ▸ hx ▸ k
noncomputable def c2r (res:Str->Option Nat) (i:Nat) (e:PySem.Expr):Bool:=decide ((B5 e).tag = 2) && c9g res (B5 e).x i
noncomputable def d7q (gl:Str->Option Value) (v:Value) (e:PySem.Expr):Bool:=decide ((B5 e).tag = 2) && c8z gl (B5 e).x v
noncomputable def c9j (s:Stmt) (k:PySem.Expr->Bool):Bool:=decide ((G1 s).tag = 2) && one (G1 s).oe.toList k
noncomputable def d9a (h:ExceptHandler) (k:PySem.Expr->List Stmt->Bool):Bool:=match h with | .ExceptHandler t n b _=>n.isNone && one t.toList fun t=>k t b
noncomputable def d0e (H:Hn) (cx:CX) (i j:Nat) (q:SPt):Bool:=(q.b.isEmpty && q.d.isEmpty) &&
 (one q.a (fun s1=>c9j s1 fun e1=>decide ((B5 e1).tag = 13) && one (B5 e1).es fun e2=>S3 cx.gl (.ref H.pv) (B5 e2) fun as=>one as (c2r cx.res j)) &&
 one q.hs (fun h=>d9a h fun t body=>d7q cx.gl (.type "StopIteration") t && one body fun s2=>c9j s2 (c2r cx.res i)))
noncomputable def d8f:MS->Nat
 | .expr _=>1 | .ret _=>2 | .assign _ _=>3 | .augS _ _ _=>4 | .augI _ _ _ _=>4 | .ite _ _ _=>5 | .whil _ _ _=>6 | .for_ _ _ _ _=>7 | .brk=>8 | .fail=>9 | .readEnd _ _=>10 | _=>11
noncomputable def d3l (H:Hn) (f:PySem.Expr->ME->Bool) (g:Stmt->MS->Bool) (cx:CX) (q:SPt):MS->Bool
 | .expr e=>decide ((B5 q.e).tag ≠ 10) && f q.e e
 | .ret e=>one q.oe.toList fun e'=>f e' e
 | .assign p e=>one q.ts fun t=>b4r t q.e p && (a6e f cx.res 4 t p && f q.e e)
 | .augS i op e=>(decide (q.op = op) && c2r cx.res i q.e) && f q.e2 e
 | .augI o i op e=>(decide (q.op = op /\ (B5 q.e).tag = 11) && N0 (B5 q.e).b) && ((f (B5 q.e).a o && f (B5 q.e).b i) && f q.e2 e)
 | .ite t a b=>f q.e t && (F9 g q.a a && F9 g q.b b)
 | .whil t a b=>f q.e t && (F9 g q.a a && F9 g q.b b)
 | .for_ p i a b=>(c3t i q.e && (a6e f cx.res 4 q.e p && c9h f cx.gl q.e2 i)) && (F9 g q.a a && F9 g q.b b)
 | .brk=>true
 | .fail=>true
 | .readEnd i j=>d0e H cx i j q
 | _=>false
noncomputable def a0w (H:Hn) (n:Nat):Nat->CX->Stmt->MS->Bool
 | 0,_,_,_=>false
 | d + 1,cx,s,m=>decide ((G1 s).tag = d8f m) && d3l H (cmp H n cx) (a0w H n d cx) cx (G1 s) m
section
variable {H:Hn} {n d:Nat} {cx:CX} {s:Stmt} {R:Stmt->Prop}
theorem W8 {α:Type} {o:Option α} {k:α->Bool} (h:one o.toList k = true):∃ a,o = some a /\ k a = true:=by
 cases o with
 | none=>exact (Bool.false_ne_true h).elim
 | some a=>exact ⟨a,rfl,h⟩
theorem I1 {R:Stmt->Prop} {m:MS} (h:a0w H n d cx s m = true) (K:∀ d,(G1 s).tag = d8f m->d3l H (cmp H n cx) (a0w H n d cx) cx (G1 s) m = true->R s):R s:=by
 cases d with
 | zero=>exact (Bool.false_ne_true h).elim
 | succ d=>exact K d (C3 (B1 h).1) (B1 h).2
@[elab_as_elim] theorem b4s {e} (h:a0w H n d cx s (.expr e) = true) (K:∀ e' p,(B5 e').tag ≠ 10->cmp H n cx e' e = true->R (.Expr e' p)):R s:=
 I1 h fun u_ t h=>S4 t rfl (K _ _ (C3 (B1 h).1) (B1 h).2)
@[elab_as_elim] theorem b9w {e} (h:a0w H n d cx s (.ret e) = true) (K:∀ e' p,cmp H n cx e' e = true->R (.Return (some e') p)):R s:=
 I1 h fun u_ t h=>let ⟨_,ho,h⟩:=W8 h; S4 t (congrArg (fun o=>Stmt.Return o _) ho) (K _ _ h)
@[elab_as_elim] theorem a6h {p e} (h:a0w H n d cx s (.assign p e) = true) (K:∀ t v q,b4r t v p = true->a6e (cmp H n cx) cx.res 4 t p = true->cmp H n cx v e = true->R (.Assign [t] v q)):R s:=
 I1 h fun u_ t h=>let ⟨_,ho,h⟩:=a5n h; S4 t (congrArg (fun o=>Stmt.Assign o _ _) ho) (K _ _ _ (B1 h).1 (B1 (B1 h).2).1 (B1 (B1 h).2).2)
@[elab_as_elim] theorem b4t {i op e} (h:a0w H n d cx s (.augS i op e) = true) (K:∀ t v p,c2r cx.res i t = true->cmp H n cx v e = true->R (.AugAssign t op v p)):R s:=
 I1 h fun u_ t h=>S4 t (congrArg (fun o=>Stmt.AugAssign _ o _ _) (C3 (B1 (B1 h).1).1)) (K _ _ _ (B1 (B1 h).1).2 (B1 h).2)
@[elab_as_elim] theorem b4u {o i op e} (h:a0w H n d cx s (.augI o i op e) = true) (K:∀ o' i' v p q,N0 i' = true->cmp H n cx o' o = true->cmp H n cx i' i = true->cmp H n cx v e = true->R (.AugAssign (.Subscript o' i' q) op v p)):R s:=
 I1 h fun u_ t h=>by
  obtain ⟨h1,h2⟩:=B1 h
  obtain ⟨h1,hp⟩:=B1 h1
  obtain ⟨h3,h4⟩:=C3 h1
  have e1:=(P7 h4).symm.trans (D6 _)
  exact S4 (x:=.AugAssign (.Subscript (B5 (G1 _).e).a (B5 (G1 _).e).b _) op _ _) t (by rw [e1,<- h3]; rfl) (K _ _ _ _ _ hp (B1 (B1 h2).1).1 (B1 (B1 h2).1).2 (B1 h2).2)
@[elab_as_elim] theorem b1j {t a b} (h:a0w H n d cx s (.ite t a b) = true) (K:∀ d t' a' b' p,cmp H n cx t' t = true->F9 (a0w H n d cx) a' a = true->F9 (a0w H n d cx) b' b = true->R (.If t' a' b' p)):R s:=
 I1 h fun u_ t h=>S4 t rfl (K _ _ _ _ _ (B1 h).1 (B1 (B1 h).2).1 (B1 (B1 h).2).2)
@[elab_as_elim] theorem b4v {t a b} (h:a0w H n d cx s (.whil t a b) = true) (K:∀ d t' a' b' p,cmp H n cx t' t = true->F9 (a0w H n d cx) a' a = true->F9 (a0w H n d cx) b' b = true->R (.While t' a' b' p)):R s:=
 I1 h fun u_ t h=>S4 t rfl (K _ _ _ _ _ (B1 h).1 (B1 (B1 h).2).1 (B1 (B1 h).2).2)
@[elab_as_elim] theorem b9x {p i a b} (h:a0w H n d cx s (.for_ p i a b) = true) (K:∀ d t i' a' b' q,c3t i t = true->a6e (cmp H n cx) cx.res 4 t p = true->c9h (cmp H n cx) cx.gl i' i = true->F9 (a0w H n d cx) a' a = true->F9 (a0w H n d cx) b' b = true->R (.For t i' a' b' q)):R s:=
 I1 h fun u_ t h=>S4 t rfl (K _ _ _ _ _ _ (B1 (B1 h).1).1 (B1 (B1 (B1 h).1).2).1 (B1 (B1 (B1 h).1).2).2 (B1 (B1 h).2).1 (B1 (B1 h).2).2)
@[elab_as_elim] theorem b9y (h:a0w H n d cx s .brk = true) (K:∀ p,R (.Break p)):R s:=I1 h fun u_ t u_=>S4 t rfl (K _)
@[elab_as_elim] theorem b7d {k} (h:c9j s k = true) (K:∀ e p,k e = true->R (.Return (some e) p)):R s:=
 let ⟨_,ho,h'⟩:=W8 (B1 h).2
 S4 (C3 (B1 h).1) (congrArg (fun o=>Stmt.Return o _) ho) (K _ _ h')
end
noncomputable def HOk (B:Base) (H:Hn):Prop:=∀ x v,H.gl x = some v->B.mg x = some v ∨ (B.mg x = none /\ B.mb x = some v)
noncomputable def cx0 (code:Value) (qual:Str):CX:=⟨fun u_=>none,fun u_=>false,fun u_=>none,0,code,qual⟩
noncomputable def b6l (H:Hn) (fd:FuncData):CX:=I0 (cx0 fd.code (fd.qualname ++ ".<locals>.")) H.gl fd.scope
noncomputable def c4b (B:Base) (f:Fn) (fd:FuncData) (params:List Str):Prop:=∀ (w:Wd) (lv:Nat) (s:Shared) (items:List Value) (args:List V) (ks:List (Str × Value)) (kws:List (Str × V)) (vs:List V),(∀ b o,B.h₀.get? b = some o->s.heap.get? b = some o)->w.h = s.heap->RelL w lv items args->RelK w lv ks kws->T4 f args kws = some vs->
  ∃ vals,BindsTo s fd ⟨items,ks⟩ (params.zip vals) /\ RelS w lv vals vs /\ vals.length = params.length
structure FnOk (B:Base) (H:Hn) (f:Fn) (o:Obj) (fd:FuncData) (body:List Stmt) (params:List Str):Prop where
 ho:B.h₀.get? f.addr = some o
 hd:o.data = .func fd
 hbody:fd.body = .stmts body
 hclo:fd.closure = []
 hglob:fd.globals = mainGlobals
 hbuilt:fd.builtins = builtinsNs
 hcd:B.h₀.CodeRec fd.code fd.qualname
 hco:fd.scope.isCoroutine = false
 hgen:fd.scope.isGenerator = false
 hkind:fd.scope.kind = .function
 hnd:(fd.scope.names.map (·.1)).Nodup
 hcomp:∃ n d,F9 (a0w H n d (b6l H fd)) body f.body = true
 hns:f.ns = (E1 fd.scope).length
 hpar:(E1 fd.scope).take params.length = params
 hbind:c4b B f fd params
structure RdOk (B:Base) (H:Hn) (f:Fn) (o:Obj) (fd:FuncData) (rest:List Stmt) (params:List Str) (b e:PySem.Expr) (q:Pos):Prop where
 fo:FnOk B H f o fd (.Assign [b] e q :: rest) params
 addr:f.addr = H.pv
 bi:∀ v,T4 f [v] [] = some [v]
 ask:S3 (b6l H fd).gl (.builtin "next") (B5 e) (fun as=>one as (c2r (b6l H fd).res 0)) = true
noncomputable def d3m (B:Base):Prop:=∃ bm o,B.mg "__builtins__" = some (.ref bm) /\ B.h₀.get? bm = some o /\ bm ≠ builtinsNs /\ o.cls = .type "module" /\ o.dict = some builtinsNs /\ o.data = .plain
structure Wl (P:Pg) (B:Base) (H:Hn):Prop where
 hG:B.G = P
 hg:HOk B H
 gd:GdOk B
 bm:d3m B
 pg:∀ f ∈ P.fns,∃ o fd body params,FnOk B H f o fd body params
 rd:∃ f o fd rest params b e q,RdOk B H f o fd rest params b e q
theorem FnOk.on {B:Base} {H:Hn} {f:Fn} {o:Obj} {fd:FuncData} {body:List Stmt} {params:List Str} (h:FnOk B H f o fd body params) (frs:List Addr):FnOk (B.on frs) H f o fd body params:=
 ⟨h.ho,h.hd,h.hbody,h.hclo,h.hglob,h.hbuilt,h.hcd,h.hco,h.hgen,h.hkind,h.hnd,h.hcomp,h.hns,h.hpar,h.hbind⟩
theorem Wl.on {P:Pg} {B:Base} {H:Hn} (h:Wl P B H) (frs:List Addr):Wl P (B.on frs) H where
 hG:=h.hG
 hg:=h.hg
 gd:=⟨h.gd.meth,h.gd.get⟩
 bm:=h.bm
 pg:=fun f m=>let ⟨o,fd,body,params,x⟩:=h.pg f m; ⟨o,fd,body,params,x.on frs⟩
 rd:=by
  obtain ⟨f,o,fd,rest,params,b,e,q,x⟩:=h.rd
  exact ⟨f,o,fd,rest,params,b,e,q,x.fo.on frs,x.addr,x.bi,x.ask⟩
noncomputable def c9k (s:Shared) (fv:Value):Prop:=(∀ a,fv ≠ .ref a) ∨ ∃ a o fd,fv = .ref a /\ s.heap.get? a = some o /\ o.data = .func fd
structure Cf (P:Pg) where
 B:Base
 H:Hn
 cx:CX
 env:Env
 lay:List Loc
 Q:Addr->Prop
 nl:Nat
 Ar:Around
 wl:Wl P B H
 eo:EnvOk B cx env lay
 ao:ArOk B Ar nl
section
variable {P:Pg}
noncomputable abbrev Cf.pr (c:Cf P) (Q:Addr->Prop):Cf P:={ c with Q:=Q }
noncomputable abbrev Cf.wd (c:Cf P) (A:List (List Addr)) (h:Heap):Wd:=Mine.wd c.lay A c.Q h
noncomputable abbrev Cf.Ok (c:Cf P) (A:List (List Addr)) (st:St) (s:Shared):Prop:=Mine.Ok c.B c.lay c.Q c.nl A st s
noncomputable abbrev Cf.W {α:Type} (c:Cf P) (t:Sem α) (Q:α->Shared->Prop) (E:Value->Shared->Prop) (s:Shared):Prop:=wpAny (model c.B.prog c.B.w) c.Ar t Q E s
noncomputable abbrev Cf.Po {α β:Type} (c:Cf P) (A:List (List Addr)) (s:Shared) (st':St) (r:β) (RR:Wd->Nat->α->β->Prop) (v:α) (s':Shared):Prop:=Post c.B c.lay c.Q A s c.nl st' r RR v s'
noncomputable abbrev Cf.Rel (c:Cf P) (A:List (List Addr)) (s:Shared) (v:Value) (x:V):Prop:=Mine.Rel (c.wd A s.heap) (c.nl - 1) v x
noncomputable def Cf.Tri {α β:Type} (c:Cf P) (t:Sem α) (st:St) (r:β) (st':St) (RR:Wd->Nat->α->β->Prop):Prop:=∀ A s E,c.Ok A st s->c.W t (c.Po A s st' r RR) E s
theorem Cf.go {c:Cf P} {α β:Type} {t:Sem α} {st:St} {r:β} {st':St} {RR:Wd->Nat->α->β->Prop} (h:c.Tri t st r st' RR) {A s E} (ok:c.Ok A st s) {Q:α->Shared->Prop}
  (k:∀ v s₁ A₁,Go c.lay A A₁ s s₁->c.Ok A₁ st' s₁->RR (c.wd A₁ s₁.heap) (c.nl - 1) v r->Q v s₁):c.W t Q E s:=
 wpAny_mono (h A s E ok) (fun v s₁ ⟨A₁,g,ok₁,hr⟩=>k v s₁ A₁ g ok₁ hr) (fun u_ u_ e=>e)
theorem Cf.end {c:Cf P} {α β:Type} {t:Sem α} {r:β} {st':St} {RR:Wd->Nat->α->β->Prop} {A A₁ s s₁ E} (g:Go c.lay A A₁ s s₁) (h:c.W t (c.Po A₁ s₁ st' r RR) E s₁):c.W t (c.Po A s st' r RR) E s₁:=
 wpAny_mono h (fun u_ u_ q=>q.lift g) (fun u_ u_ e=>e)
theorem Cf.end' {c:Cf P} {α β:Type} {t:Sem α} {r:β} {st':St} {RR:Wd->Nat->α->β->Prop} {A A₁ s s₁ s₂ E} (g:Go c.lay A A₁ s s₁) (h:c.W t (c.Po A₁ s₁ st' r RR) E s₂):c.W t (c.Po A s st' r RR) E s₂:=
 wpAny_mono h (fun u_ u_ q=>q.lift g) (fun u_ u_ e=>e)
theorem Cf.use {c:Cf P} {α β:Type} {t:Sem α} {r:β} {st':St} {RR:Wd->Nat->α->β->Prop} {A s s₀ E} (h:c.W t (c.Po A s₀ st' r RR) E s) {Q:α->Shared->Prop}
  (k:∀ v s₁ A₁,Go c.lay A A₁ s₀ s₁->c.Ok A₁ st' s₁->RR (c.wd A₁ s₁.heap) (c.nl - 1) v r->Q v s₁):c.W t Q E s:=
 wpAny_mono h (fun v s₁ ⟨A₁,g,ok₁,hr⟩=>k v s₁ A₁ g ok₁ hr) (fun u_ u_ e=>e)
theorem Cf.Rel.go {c:Cf P} {A A' s s' v x} (h:c.Rel A s v x) (g:Go c.lay A A' s s'):c.Rel A' s' v x:=h.mono (g.le c.Q _) (Nat.le_refl _)
theorem RelL.go {c:Cf P} {A A':List (List Addr)} {s s':Shared} {vs xs} (h:RelL (c.wd A s.heap) (c.nl - 1) vs xs) (g:Go c.lay A A' s s'):RelL (c.wd A' s'.heap) (c.nl - 1) vs xs:=h.mono (g.le c.Q _) (Nat.le_refl _)
noncomputable def b1k (P:Pg) (m:ME) (st:St) (v:V) (st':St):Prop:=∀ (c:Cf P) n elt gens scope pos,a2i c.H (cmp c.H n) c.cx (B5 (.ListComp elt gens scope pos)) m = true->∀ A s F,c.Ok A st s->
  ∀ (use:Option (Value->Sem Unit)) (Q:Value->Shared->Prop),
  (∀ (a C:Addr) (A6:List (List Addr)) (s6:Shared),Go c.lay A A6 s s6->(c.pr fun b=>c.Q b ∨ b ∈ [C]).Ok A6 st' s6->(c.pr fun b=>c.Q b ∨ b ∈ [C]).Rel A6 s6 (.ref a) v->s.heap.get? C = none->(∃ m,s6.heap.Ns C m)->
   match use with
   | none=>∀ h',Heap.SameBut C s6.heap h'->Q (.ref a) { s6 with heap:=h' }
   | some u=>c.W (u (.ref a)) (fun u_ s''=>∃ m,s''.heap.Ns C m /\ ∀ h',Heap.SameBut C s''.heap h'->Q .none { s'' with heap:=h' }) F s6)->
  c.W (comprehension (.ListComp elt gens scope pos) scope c.env (firstIterPos gens pos) (newList []) (firstAsync gens) (firstIter gens c.env) use) Q F s
noncomputable def d8g (m:ME):Bool:=decide (b1e m ≠ 10)
noncomputable def E (P:Pg) (m:ME) (st:St) (v:V) (st':St):Prop:=(d8g m = true ∨ b1k P m st v st') /\ ∀ (c:Cf P) n e,a2i c.H (cmp c.H n) c.cx (B5 e) m = true->c.Tri (eval e c.env) st v st' RV
theorem E.of {m st v st'} (h:d8g m = true) (k:∀ (c:Cf P) n e,a2i c.H (cmp c.H n) c.cx (B5 e) m = true->c.Tri (eval e c.env) st v st' RV):E P m st v st':=⟨.inl h,k⟩
theorem E.at {m st v st'} (h:E P m st v st') {c:Cf P} {n e} (hc:cmp c.H n c.cx e m = true):c.Tri (eval e c.env) st v st' RV:=by
 cases n with
 | zero=>exact (Bool.false_ne_true hc).elim
 | succ n=>exact h.2 c n e hc
noncomputable def Es (P:Pg) (ms:List ME) (st:St) (vs:List V) (st':St):Prop:=(vs.length = ms.length /\ (ms = []->st' = st)) /\ ∀ (c:Cf P) n es pos,F9 (cmp c.H n c.cx) es ms = true->c.Tri (spliced (backTo pos (starEach es c.env))) st vs st' RL
noncomputable def Ek (P:Pg) (ms:List (Str × ME)) (st:St) (vs:List (Str × V)) (st':St):Prop:=∀ (c:Cf P) n (es:List Keyword) pos,F9 (d3k (cmp c.H n c.cx)) es ms = true->
 c.Tri (evalAll ((backToKw pos (keywordEach es c.env)).map (·.2))) st vs st' (fun w lv us xs=>RelK w lv ((ms.map (·.1)).zip us) xs)
noncomputable def Eo (P:Pg) (m:Option ME) (st:St) (v:Option V) (st':St):Prop:=(m = none->v = none /\ st' = st) /\ ∀ (c:Cf P) n e,d3j (cmp c.H n c.cx) e m = true->c.Tri (evalPart e c.env) st v st' RelPart
noncomputable def T (P:Pg) (_:Nat) (m:ME) (st:St) (b:Bool) (st':St):Prop:=∀ (c:Cf P) n e,a2i c.H (cmp c.H n) c.cx (B5 e) m = true->c.Tri (isTrue e c.env (eval e c.env)) st b st' RB
theorem T.at {d m st v st'} (h:T P d m st v st') {c:Cf P} {n e} (hc:cmp c.H n c.cx e m = true):c.Tri (isTrue e c.env (eval e c.env)) st v st' RB:=by
 cases n with
 | zero=>exact (Bool.false_ne_true hc).elim
 | succ n=>exact h c n e hc
noncomputable def Ap (P:Pg) (f:V) (args:List V) (kw:List (Str × V)) (st:St) (z:V) (st':St):Prop:=∀ (c:Cf P) A s E,c.Ok A st s->∀ fv items ks,c.Rel A s fv f->RelL (c.wd A s.heap) (c.nl - 1) items args->RelK (c.wd A s.heap) (c.nl - 1) ks kw->
 c9k s fv /\ c.W (call fv items ks) (c.Po A s st' z RV) E s
noncomputable def ApO (P:Pg) (f:V) (args:List V) (st:St) (z:V) (st':St):Prop:=∀ (c:Cf P) A s E,c.Ok A st s->∀ fv items,RelO (c.wd A s.heap) (c.nl - 1) (some fv) (some f)->RelL (c.wd A s.heap) (c.nl - 1) items args->
 c9k s fv /\ c.W (call fv items []) (c.Po A s st' z RV) E s
end
end
section
section
variable {H:Hn} {n:Nat} {cx:CX} {e:PySem.Expr} {m:ME} {env:Env}
theorem Q2 (h:cmp H n cx e m = true) (rest:List PySem.Expr):starEach (e :: rest) env = (false,eval e env) :: starEach rest env:=by
 have:=Q1 h
 cases e with
 | Starred _ _=>exact absurd rfl this
 | _=>rfl
theorem a6i {op:CmpOp} (h:cmp H n cx e m = true):behindInMarks op e = false:=by
 have:=Q1 h
 cases e with
 | Set _ _ _=>exact absurd rfl this
 | _=>rfl
theorem F0 (pos:Pos):∀ (es:List PySem.Expr) (ms:List ME),F9 (cmp H n cx) es ms = true->(backTo pos (starEach es env)).any (·.1) = false
 | [],_,_=>rfl
 | _ :: _,[],h=>(Bool.false_ne_true h).elim
 | e :: es,m :: ms,h=>by
  rw [Q2 (B1 h).1]
  exact F0 pos es ms (B1 h).2
theorem W9 (pos:Pos) {f:PySem.Expr->ME->Bool}:∀ (es:List Keyword) (ms:List (Str × ME)),F9 (d3k f) es ms = true->
  (backToKw pos (keywordEach es env)).any (·.1.isNone) = false /\ (backToKw pos (keywordEach es env)).all (·.1.isSome) = true /\ (backToKw pos (keywordEach es env)).filterMap (·.1) = ms.map (·.1)
 | [],[],_=>⟨rfl,rfl,rfl⟩
 | _ :: _,[],h=>(Bool.false_ne_true h).elim
 | [],_ :: _,h=>(Bool.false_ne_true h).elim
 | ⟨k,v,p⟩ :: r,m :: ms,h=>by
  obtain ⟨h1,h2⟩:=B1 h
  obtain rfl:=C3 (B1 h1).1
  obtain ⟨a,b,c⟩:=W9 pos r ms h2
  exact ⟨a,b,congrArg (m.1 :: ·) c⟩
theorem Q3 {pos:Pos} {k:Str} {v:PySem.Expr} {p:Pos} {r:List Keyword} {M:Model} {A:Around} {Q:List Value->Shared->Prop} {E:Value->Shared->Prop} {s:Shared}
  (h:wpAny M A (eval v env) (fun u s=>wpAny M A (evalAll ((backToKw pos (keywordEach r env)).map (·.2))) (fun us s=>Q (u :: us) s) E s) E s) :
  wpAny M A (evalAll ((backToKw pos (keywordEach (⟨some k,v,p⟩ :: r) env)).map (·.2))) Q E s:=
 wpAny_evalAll_cons (x:=do let v <- eval v env; standAt pos; pure v) (wpAny_bind (wpAny_mono h (fun u_ u_ q=>wpAny_bind (wpAny_standAt (wpAny_pure q))) fun u_ u_ e=>e))
end
theorem E0 {M:Model} {A:Around} {E:Value->Shared->Prop} {s:Shared} {pos:Pos} {fv:Value} {first:List Value} {args:List (Bool × Sem Value)} {keywords:List (Option Str × Sem Value)} {Q:Value->Shared->Prop}
  (hp:(args.any (·.1) || keywords.any (·.1.isNone)) = false)
  (h:wpAny M A (evalArgs fv true args keywords) (fun x s₁=>c9k s₁ fv /\ wpAny M A (call fv (first ++ x.pos) x.kw) Q E s₁) E s) :
  wpAny M A (callWith pos fv first args keywords) Q E s:=by
 unfold callWith
 refine wpAny_bind (wpAny_holding (wpAny_mono h (fun x s₁ h₁=>wpAny_bind (wpAny_standAt ?_)) fun u_ u_ x=>x))
 have tail:∀ {t:Sem Value},wpAny M A t Q E s₁->wpAny M A (t >>= fun r=>holding [r] point >>= fun u_=>pure r) Q E s₁:=
  fun ht=>wpAny_bind (wpAny_mono ht (fun r s₂ hr=>wpAny_bind (wpAny_holding (wpAny_point (wpAny_pure hr)))) fun u_ u_ x=>x)
 rw [hp]
 obtain ⟨hk,hc⟩:=h₁
 rcases hk with hk | ⟨a,o,fd,rfl,ho,hd⟩
 ·have e:keeperOf fv = pure .machine:=by
   cases fv <;> first | rfl | exact absurd rfl (hk _)
  exact wpAny_bind (wpAny_of_eq e (tail hc))
 ·refine wpAny_bind (m:=keeperOf (.ref a)) ?_
  unfold keeperOf
  refine wpAny_bind (wpAny_load ho ?_)
  rw [hd]
  refine wpAny_pure ?_
  dsimp only
  split
  ·exact tail hc
  ·exact tail (by unfold callMarked; exact Calls.wpAny_keep hc)
theorem a4l {H:Hn} {n:Nat} {cx:CX}:∀ {ops:List CmpOp} {es:List PySem.Expr} {ms:List ME},F9 (cmp H n cx) es ms = true->lastMarks ops es = false
 | [],[],_,_=>rfl
 | [],_ :: _,_,_=>rfl
 | [_],[],_,_=>rfl
 | [_],[_],_ :: _,h=>a6i (B1 h).1
 | [_],[_],[],h=>(Bool.false_ne_true h).elim
 | [_],_ :: _ :: _,_,_=>rfl
 | _ :: _ :: _,[],_,_=>rfl
 | _ :: op :: ops,_ :: es,_ :: _,h=>a4l (ops:=op :: ops) (es:=es) (B1 h).2
 | _ :: _ :: _,_ :: _,[],h=>(Bool.false_ne_true h).elim
section
variable {P:Pg} {st st1 st2 st3 st4:St}
theorem B9 {i:Int}:E P (.const (.int i)) st (.int i) st:=E.of rfl fun u_ u_ u_ h u_ s u_ ok=>U2 h fun u_ u_=>wpAny_Constant_int (ok.int_post _ _ _)
theorem F6:E P (.const .none) st (.imm .none) st:=E.of rfl fun u_ u_ u_ h u_ u_ u_ ok=>U2 h fun u_ u_=>wpAny_Constant_none (.pure ok .imm)
theorem G2 {x:Str}:E P (.const (.str x)) st (.str x) st:=E.of rfl fun u_ u_ u_ h u_ u_ u_ ok=>U2 h fun u_ u_=>wpAny_Constant_str (ok.str_post _ _ _)
theorem D8 {b:List UInt8}:E P (.const (.bytes b)) st (.bytes b) st:=E.of rfl fun u_ u_ u_ h A s u_ ok=>U2 h fun u_ u_=>
 let ⟨ok',g⟩:=ok.toks (s.toks + 1)
 wpAny_mkTextBytes ⟨A,g,ok',.bytes⟩
theorem a9a {x:Str} (hb:(!a5m x) = true):(x == ("__debug__" : Str)) = false /\ (x == ("__classdict__" : Str)) = false:=Bool.or_eq_false_iff.mp ((Bool.not_eq_true' _).mp hb)
theorem a2k {c:Cf P} {Ar:Around} {s:Shared} {E:Value->Shared->Prop} {Q:Value->Shared->Prop} {x:Str} {pos:Pos} {v:Value} (base:∀ b o,c.B.h₀.get? b = some o->s.heap.get? b = some o) (hi:c8z c.cx.gl x v = true) (h:Q v s):wpAny (model c.B.prog c.B.w) Ar (eval (.Name x pos) c.env) Q E s:=by
 obtain ⟨k,hg⟩:=c.eo.glob x _ (C3 (B1 hi).2)
 refine wpAny_Name ?_ (a9a (B1 hi).1).1
 rw [loadName_read c.eo.kind k]
 have e1:s.heap.Ns c.env.globals c.B.mg:=c.eo.globals ▸ c.B.nsG.keeps base
 rcases hg with hg | hg
 ·exact Calls.loadGlobal_global e1 hg h
 ·exact Calls.loadGlobal_builtin e1 hg.1 (c.eo.builtins ▸ c.B.nsB.keeps base) hg.2 h
theorem L4 {c:Cf P} {A:List (List Addr)} {st:St} {s:Shared} {E:Value->Shared->Prop} {Q:Value->Shared->Prop} {x:Str} {pos:Pos} {v:Value} (ok:c.Ok A st s) (hi:c8z c.cx.gl x v = true) (h:Q v s):c.W (eval (.Name x pos) c.env) Q E s:=a2k ok.base hi h
theorem C5 {v:Value}:E P (.imm v) st (.imm v) st:=E.of rfl fun u_ u_ u_ h u_ u_ u_ ok=>c3v h fun u_ u_ h=>L4 ok h (.pure ok .imm)
theorem b1l {c:Cf P} {Ar:Around} {A:List (List Addr)} {st:St} {s:Shared} {E:Value->Shared->Prop} {Q:Value->Shared->Prop} {x:Str} {i:Nat} {v:V} (ok:c.Ok A st s) (h:c9g c.cx.res x i = true)
  (hv:st.ρ[i]? = some (some v)) (hq:∀ u,RelO (c.wd A s.heap) (c.nl - 1) (some u) (some v)->Q u s):wpAny (model c.B.prog c.B.w) Ar (loadName c.env x) Q E s:=by
 have b2:=(a9a (B1 h).1).2
 have sl:=fun l hl=>ok.slots i l hl
 rw [hv] at sl
 rcases c.eo.var x i (C3 (B1 h).2) with ⟨k,l⟩ | ⟨k,a,hc,l⟩
 ·obtain ⟨m,h1,h2⟩:=sl _ l
  cases hmx:m x with
  | none=>rw [hmx] at h2; cases h2
  | some u=>exact wpAny_loadName_local c.eo.kind k h1 hmx (hq _ (hmx ▸ h2))
 ·obtain ⟨cv,h1,h2⟩:=sl _ l
  cases cv with
  | none=>cases h2
  | some u=>exact k.elim (fun k=>wpAny_loadName_cell c.eo.kind k hc h1 (hq _ h2)) (fun k=>wpAny_loadName_free c.eo.kind k hc h1 (hq _ h2) b2)
theorem RelO.rel {w:Wd} {lv:Nat} {u:Value} {v:V} (h:RelO w lv (Option.some u) (Option.some v)) (hc:v.isClo = false):Rel w lv u v:=by
 cases h with
 | some h=>exact h
 | clo _=>cases hc
theorem RelO.cl {w:Wd} {lv:Nat} {u:Value} {m:Lam} {vs:List V} (h:RelO w lv (Option.some u) (Option.some (V.clo m vs))):CloRep w lv u m vs:=by
 cases h with
 | some h=>exact h.inv.elim
 | clo h=>exact h
theorem c4c {c:Cf P} {Ar:Around} {A:List (List Addr)} {st:St} {s:Shared} {E:Value->Shared->Prop} {Q:Value->Shared->Prop} {x:Str} {i:Nat} {v:V} (ok:c.Ok A st s) (h:c9g c.cx.res x i = true)
  (hv:st.ρ[i]? = some (some v)) (hc:v.isClo = false) (hq:∀ u,c.Rel A s u v->Q u s):wpAny (model c.B.prog c.B.w) Ar (loadName c.env x) Q E s:=b1l ok h hv fun u hu=>hq u (hu.rel hc)
theorem O9 {c:Cf P} {Ar:Around} {A:List (List Addr)} {st:St} {s:Shared} {E:Value->Shared->Prop} {Q:Value->Shared->Prop} {x:Str} {p:Pos} {i:Nat} {v:V} (ok:c.Ok A st s) (h:c9g c.cx.res x i = true)
  (hv:st.ρ[i]? = some (some v)) (hq:∀ u,RelO (c.wd A s.heap) (c.nl - 1) (some u) (some v)->Q u s):wpAny (model c.B.prog c.B.w) Ar (eval (.Name x p) c.env) Q E s:=wpAny_Name (b1l ok h hv hq) (a9a (B1 h).1).1
theorem B0 {i:Nat} {v:V} (h:st.ρ[i]? = some (some v)) (hn:v.isClo = false:=by first | rfl | assumption):E P (.slot i) st v st:=E.of rfl fun u_ u_ u_ hc u_ u_ u_ ok=>a4k hc fun u_ u_ hc=>O9 ok hc h fun u_ hu=>.pure ok (hu.rel hn)
theorem Cf.two {c:Cf P} {n a b a' b' x y z} {t:Value->Value->Sem Value} (h1:E P a st x st1) (h2:E P b st1 y st2) (ha:cmp c.H n c.cx a' a = true) (hb:cmp c.H n c.cx b' b = true) {A s E} (ok:c.Ok A st s)
  (k:∀ u v A s,c.Ok A st2 s->c.Rel A s u x->c.Rel A s v y->c.W (t u v) (c.Po A s st3 z RV) E s) :
  c.W (eval a' c.env) (fun u s1=>c.W (eval b' c.env) (fun v s2=>c.W (t u v) (c.Po A s st3 z RV) E s2) E s1) E s:=
 Cf.go (h1.at ha) ok fun u_ u_ u_ g1 ok1 r1=>Cf.go (h2.at hb) ok1 fun u_ u_ u_ g2 ok2 r2=>Cf.end (g1.trans g2) (k _ _ _ _ ok2 (Cf.Rel.go r1 g2) r2)
theorem a4d {op a b mu x y z} (h1:E P a st x st1) (h2:E P b st1 y st2) (h3:d2z st2 op x y mu = some (z,st3)):E P (.bin op a b mu) st z st3:=E.of rfl fun u_ u_ u_ h u_ u_ u_ ok=>
 c3w h fun u_ u_ u_ u_ ha hb=>wpAny_BinOp (Cf.two h1 h2 ha hb ok fun u_ u_ u_ u_ ok r1 r2=>a8t ok r1 r2 h3)
theorem C4 {op a b mu x y z} (h1:E P a st (.int x) st1) (h2:E P b st1 (.int y) st2) (h3:a0i op x y = some z):E P (.bin op a b mu) st (.int z) st2:=
 a4d h1 h2 (show (match a0i op x y with | some z=>some (V.int z,st2) | none=>none) = _ by rw [h3])
theorem M6 {a i} (h1:E P a st (.int i) st1):E P (.un .USub a) st (.int (-i)) st1:=E.of rfl fun u_ u_ u_ h u_ u_ u_ ok=>c3x h fun u_ u_ k=>by
 refine wpAny_UnaryOp (Cf.go (h1.at k) ok fun v s1 A1 g1 ok1 r1=>?_)
 cases r1
 exact neg_int ((ok1.int_post _ _ _).lift g1)
theorem L5 {op a b x y r} (h1:E P a st x st1) (h2:E P b st1 y st2) (h3:c2p st2 op x y = some r):E P (.cmp a [op] [b]) st (.imm (.bool r)) st2:=E.of rfl fun c u_ u_ h u_ u_ u_ ok=>b1g h fun u_ u_ u_ ha hb=>by
 obtain ⟨b',_,rfl,hb2,hn⟩:=C2 hb
 cases D5 hn
 exact wpAny_Compare1 (Cf.two h1 h2 ha hb2 ok fun u_ u_ u_ u_ ok r1 r2=>a2f ok c.ao.cmp r1 r2 h3) (a6i hb2)
theorem d7r {b:Bool} {p q:Prop} (h:b = true) (k:p):if b = true then p else q:=by rw [if_pos h]; exact k
theorem d5u {b:Bool} {p q:Prop} (h:b = false) (k:q):if b = true then p else q:=by rw [if_neg (h ▸ Bool.false_ne_true)]; exact k
theorem d0f {t a b v} (h1:T P 8 t st true st1) (h2:E P a st1 v st2):E P (.ite t a b) st v st2:=E.of rfl fun u_ u_ u_ h u_ u_ u_ ok=>b7b h fun u_ u_ u_ u_ kt ka u_=>
 wpAny_IfExp (Cf.go (h1.at kt) ok fun u_ s1 A1 g1 ok1 r1=>d7r r1 (Cf.end g1 (h2.at ka A1 s1 _ ok1)))
theorem d0g {t a b v} (h1:T P 8 t st false st1) (h2:E P b st1 v st2):E P (.ite t a b) st v st2:=E.of rfl fun u_ u_ u_ h u_ u_ u_ ok=>b7b h fun u_ u_ u_ u_ kt u_ kb=>
 wpAny_IfExp (Cf.go (h1.at kt) ok fun u_ s1 A1 g1 ok1 r1=>d5u r1 (Cf.end g1 (h2.at kb A1 s1 _ ok1)))
theorem H6 {o i ov iv v} (h1:E P o st ov st1) (h2:E P i st1 iv st2) (h3:c9c st2 ov iv = some v):E P (.sub o i) st v st2:=E.of rfl fun u_ u_ u_ h u_ u_ u_ ok=>b7c h fun u_ u_ u_ hp ha hb=>
 Subscript_ (Cf.two h1 h2 ha hb ok fun u_ u_ u_ u_ ok r1 r2=>a2g ok r1 r2 h3 _ hp)
theorem C9:Eo P none st none st:=⟨fun u_=>⟨rfl,rfl⟩,fun c n e h A s E ok=>by
 cases e with
 | some _=>exact (Bool.false_ne_true h).elim
 | none=>rw [evalPart_none]; exact wpAny_pure (.pure ok rfl)⟩
theorem D3 {e v} (h1:E P e st v st1):Eo P (some e) st (some v) st1:=⟨(fun h=>nomatch h),fun c n e h A s E ok=>by
 cases e with
 | none=>exact (Bool.false_ne_true h).elim
 | some e=>rw [evalPart_some]; exact h1.at h A s E ok⟩
theorem J3 {o lo hi stp mu ov l h p v st'} (h1:E P o st ov st1) (h2:Eo P lo st1 l st2) (h3:Eo P hi st2 h st3) (h4:Eo P stp st3 p st4) (h5:c9x st4 ov l h p mu = some (v,st')):E P (.slc o lo hi stp mu) st v st':=E.of rfl fun c n e hc A s E ok=>c3y hc fun u_ u_ u_ u_ u_ hn k1 k2 k3=>by
 obtain ⟨rfl,rfl⟩:=h4.1 hn
 refine Subscript_ (Cf.go (h1.at k1) ok fun v s1 A1 g1 ok1 r1=>wpAny_Slice (Cf.go (h2.2 c n _ k2) ok1 fun lv s2 A2 g2 ok2 r2=>Cf.go (h3.2 c n _ k3) ok2 fun uv s3 A3 g3 ok3 r3=>?_))
 rw [evalPart_none]
 exact wpAny_pure (Cf.end' (g1.trans (g2.trans g3)) (a8u ok3 (Cf.Rel.go r1 (g2.trans g3)) (r2.mono (g3.le c.Q _) (Nat.le_refl _)) r3 h5 _ _ _ _))
theorem B3:Es P [] st [] st:=⟨⟨rfl,fun u_=>rfl⟩,fun c n es pos h A s E ok=>by
 obtain rfl:=D5 h
 exact wpAny_items_nil (.pure ok .nil)⟩
theorem A9 {e es v vs} (h1:E P e st v st1) (h2:Es P es st1 vs st2):Es P (e :: es) st (v :: vs) st2:=⟨⟨congrArg (· + 1) h2.1.1,fun h=>nomatch h⟩,fun c n xs pos h A s E ok=>by
 obtain ⟨x,xs,rfl,h,k⟩:=C2 h
 exact wpAny_items_cons (Cf.go (h1.at h) ok fun v' s1 A1 g1 ok1 r1=>Cf.go (h2.2 c n xs pos k) ok1 fun vs' s2 A2 g2 ok2 r2=>⟨A2,g1.trans g2,ok2,.cons (Cf.Rel.go r1 g2) r2⟩) (Q2 h _)⟩
theorem B6:Ek P [] st [] st:=fun c n es pos h A s E ok=>by
 obtain rfl:=D5 h
 exact wpAny_evalAll_nil (.pure ok .nil)
theorem D7 {e es v vs k} (h1:E P e st v st1) (h2:Ek P es st1 vs st2):Ek P ((k,e) :: es) st ((k,v) :: vs) st2:=fun c n xs pos h A s E ok=>by
 obtain ⟨⟨k',x,p⟩,xs,rfl,h,hr⟩:=C2 h
 obtain ⟨hk,h⟩:=B1 h
 obtain rfl:=C3 hk
 exact Q3 (Cf.go (h1.at h) ok fun v' s1 A1 g1 ok1 r1=>Cf.go (h2 c n xs pos hr) ok1 fun vs' s2 A2 g2 ok2 r2=>⟨A2,g1.trans g2,ok2,.cons (.some (Cf.Rel.go r1 g2)) r2⟩)
theorem K4 {H:Hn} {n:Nat} {cx:CX} {e:PySem.Expr} {m:ME} (h:cmp H n cx e m = true):∃ k,a2i H (cmp H k) cx (B5 e) m = true:=by
 cases n with
 | zero=>exact (Bool.false_ne_true h).elim
 | succ n=>exact ⟨n,h⟩
theorem c4d {k:Str} {i:Nat} {v:V} (h:st.ρ[i]? = some (some v)):Ek P [(k,.slot i)] st [(k,v)] st:=fun c n xs pos h' A s E ok=>by
 obtain ⟨⟨k',x,p⟩,xs,rfl,h1,hr⟩:=C2 h'
 obtain ⟨hk,h1⟩:=B1 h1
 obtain rfl:=C3 hk
 obtain rfl:=D5 hr
 obtain ⟨d,h1⟩:=K4 (show cmp c.H n c.cx x (.slot i) = true from h1)
 refine Q3 ?_
 refine a4k h1 fun y q hy=>?_
 exact O9 ok hy h fun u hu=>wpAny_evalAll_nil ⟨A,.refl,ok,.cons hu .nil⟩
theorem F3 {es mu vs v} (h1:Es P es st vs st1) (h2:mkL mu vs st1 = some (v,st2)):E P (.lst es mu) st v st2:=E.of rfl fun c n e h A s E ok=>c3z h fun u_ u_ u_ k=>by
 refine wpAny_List (Cf.go (h1.2 c n _ _ k) ok fun items s1 A1 g1 ok1 r1=>⟨?_,(a0m (tk:=s1.toks) (n:=0) ok1 r1 h2).lift g1⟩)
 have hz:vs.length <= lim:=by
  unfold mkL at h2
  split at h2
  ·assumption
  ·cases h2
 unfold lim at hz
 rw [sizeLine_eq,r1.length]; lia
theorem G9 {es vs} (h1:Es P es st vs st1):E P (.tup es) st (.tup vs) st1:=E.of rfl fun c n e h A s E ok=>c4a h fun u_ u_ u_ hl k=>by
 refine wpAny_Tuple (Cf.go (h1.2 c n _ _ k) ok fun items s1 A1 g1 ok1 r1=>⟨?_,?_⟩)
 ·rw [a4i k,<- h1.1.1] at hl
  rw [sizeLine_eq,r1.length]; lia
 ·obtain ⟨ok2,g2⟩:=ok1.grow (h':=s1.heap.push { cls:=.type "tuple",data:=.seq items.toArray }) (tk:=s1.toks) (fun u_ u_ e=>Heap.get?_push_of_some _ e)
  exact ⟨A1,g1.trans g2,ok2,.tup ok1.fresh (Heap.get?_push_size _ rfl) (r1.mono (g2.le c.Q _) (Nat.le_refl _))⟩
theorem Cf.argsG {c:Cf P} {n as as' ks ks' vs fv pos} (h2:Es P as st1 vs st2) (ha:F9 (cmp c.H n c.cx) as' as = true) (hk:F9 (d3k (cmp c.H n c.cx)) ks' ks = true) {A s E} (ok:c.Ok A st1 s) {Q:Args->Shared->Prop}
  (k:∀ items A2 s2,Go c.lay A A2 s s2->c.Ok A2 st2 s2->RelL (c.wd A2 s2.heap) (c.nl - 1) items vs->c.W (evalAll ((backToKw pos (keywordEach ks' c.env)).map (·.2))) (fun kvals s3=>Q ⟨items,(ks.map (·.1)).zip kvals⟩ s3) E s2) :
  c.W (evalArgs fv true (backTo pos (starEach as' c.env)) (backToKw pos (keywordEach ks' c.env))) Q E s:=by
 obtain ⟨_,k2,k3⟩:=W9 (env:=c.env) pos _ _ hk
 rw [<- k3] at k
 have key:=h2.2 c n as' pos ha
 cases as' with
 | nil=>
  cases as with
  | cons _ _=>exact (Bool.false_ne_true ha).elim
  | nil=>
   obtain rfl:=List.length_eq_zero_iff.mp h2.1.1
   exact evalArgs_kw_nil k2 (k [] A s .refl (h2.1.2 rfl ▸ ok) .nil)
 | cons e es=>
  cases as with
  | nil=>exact (Bool.false_ne_true ha).elim
  | cons m ms=>
   rw [Q2 (B1 ha).1] at key ⊢
   exact evalArgs_kw k2 (Cf.go key ok fun items s2 A2 g2 ok2 r2=>k items A2 s2 g2 ok2 r2)
theorem Cf.args {c:Cf P} {n as as' ks ks' vs kvs fv pos} (h2:Es P as st1 vs st2) (h3:Ek P ks st2 kvs st3) (ha:F9 (cmp c.H n c.cx) as' as = true) (hk:F9 (d3k (cmp c.H n c.cx)) ks' ks = true) {A s E} (ok:c.Ok A st1 s) {Q:Args->Shared->Prop}
  (k:∀ items kv A3 s3,Go c.lay A A3 s s3->c.Ok A3 st3 s3->RelL (c.wd A3 s3.heap) (c.nl - 1) items vs->RelK (c.wd A3 s3.heap) (c.nl - 1) kv kvs->Q ⟨items,kv⟩ s3) :
  c.W (evalArgs fv true (backTo pos (starEach as' c.env)) (backToKw pos (keywordEach ks' c.env))) Q E s:=
 Cf.argsG h2 ha hk ok fun u_ u_ u_ g2 ok2 r2=>Cf.go (h3 c n ks' pos hk) ok2 fun u_ u_ u_ g3 ok3 r3=>k _ _ _ _ (g2.trans g3) ok3 (RelL.go r2 g3) r3
theorem B7 {f args kw fv vs ks v} (h1:E P f st fv st1) (h2:Es P args st1 vs st2) (h3:Ek P kw st2 ks st3) (h4:Ap P fv vs ks st3 v st4):E P (.call f args kw) st v st4:=E.of rfl fun c n e h A s E ok=>W7 h fun u_ u_ u_ u_ pos hf ha hk=>
 wpAny_Call_Name_kw (Cf.go (h1.at hf) ok fun f' s1 A1 g1 ok1 r1=>E0 (by rw [F0 pos _ _ ha,(W9 pos _ _ hk).1]; rfl)
  (Cf.args h2 h3 ha hk ok1 fun items kv A3 s3 g3 ok3 r3 rk=>let ⟨hk,hc⟩:=h4 c A3 s3 E ok3 f' items kv (Cf.Rel.go r1 g3) r3 rk; ⟨hk,Cf.end (g1.trans g3) hc⟩))
theorem Ap.toO {f args v} (h:Ap P f args [] st v st1) (hc:f.isClo = false:=by rfl):ApO P f args st v st1:=fun c A s E ok fv items hf hr=>h c A s E ok fv items [] (hf.rel hc) hr .nil
theorem b1m {i args fv vs v} (h1:st.ρ[i]? = some (some fv)) (h2:Es P args st vs st1) (h4:ApO P fv vs st1 v st2):E P (.call (.slot i) args []) st v st2:=E.of rfl fun c n e h A s E ok=>W7 h fun x p u_ u_ pos hf ha hk=>by
 obtain ⟨d,hf⟩:=K4 hf
 have hx:c9g c.cx.res x i = true:=(cm hf).2
 exact wpAny_Call_Name_kw (O9 ok hx h1 fun u hu=>E0 (by rw [F0 pos _ _ ha,(W9 pos _ _ hk).1]; rfl)
  (Cf.args h2 B6 ha hk ok fun items kv A3 s3 g3 ok3 r3 rk=>by
   cases rk
   obtain ⟨hk,hc⟩:=h4 c A3 s3 E ok3 u items (hu.mono (g3.le c.Q _) (Nat.le_refl _)) r3
   exact ⟨hk,Cf.end g3 hc⟩))
theorem L6 {H:Hn} {n:Nat} {cx:CX} {env:Env} {o:PySem.Expr} {name:Str} {apos pos:Pos} {args:List PySem.Expr} {ms:List ME} (hp:(apos.endLine == pos.line) = true) (ho:(B5 o).tag ≠ 8) (hl:args.length < 20) (hm:F9 (cmp H n cx) args ms = true) :
  eval (.Call (.Attribute o name apos) args [] pos) env = (do
   let ov <- eval o env
   standAt apos.atName
   let (f,first) <- holding [ov] (getMethod ov name (do return (<- importBound o env).getD true))
   callWith pos f first (backTo pos (starEach args env)) []):=by
 have hform:methodCallForm (args.length + 0) (backTo pos (starEach args env)) [] = true:=by
  unfold methodCallForm
  rw [List.all_eq_not_any_not]
  simp only [Bool.not_not,F0 (env:=env) pos args ms hm,Bool.not_false,Bool.and_eq_true,decide_eq_true_eq]
  exact ⟨⟨trivial,rfl⟩,by simp; lia⟩
 show (do
  let ov <- attributeBase o name env (eval o env)
  standAt apos.atName
  methodCall o name apos pos env ov (args.length + 0) (backTo pos (starEach args env)) []) = _
 have e1:attributeBase o name env (eval o env) = eval o env:=by
  cases o with
  | Call _ _ _ _=>exact absurd rfl ho
  | _=>rfl
 rw [e1]
 unfold methodCall
 rw [hform]
 have e2:methodCallPos true o env apos pos = pure pos:=by
  unfold methodCallPos
  rw [hp]
  rfl
 rw [e2]
 rfl
theorem E8 {o n args ov vs v st'} (h1:E P o st ov st1) (hok:a3j P st1 ov n = true) (h2:Es P args st1 vs st2) (h3:a0k P st2 ov n vs = some (v,st')):E P (.meth o n args) st v st':=E.of rfl fun c nn e h A s E ok=>b1h h fun u_ u_ u_ pos hp ho hl k1 k2=>by
 rw [L6 hp ho hl k2]
 rw [<- c.wl.hG] at hok h3
 refine wpAny_bind (Cf.go (h1.at k1) ok fun v s1 A1 g1 ok1 r1=>wpAny_bind (wpAny_standAt ?_))
 obtain ⟨id,hg,hm⟩:=T9 (Ar:=c.Ar) (E:=E) c.wl.gd ok1 r1 hok
 refine wpAny_bind (wpAny_holding (hg _ _ (E0 (by rw [F0 pos _ _ k2]; rfl) ?_)))
 refine Cf.args (ks':=[]) h2 B6 k2 rfl ok1 fun items kv A2 s2 g2 ok2 r2 rk=>⟨.inl fun a e=>(nomatch e),?_⟩
 cases rk
 exact Cf.end (g1.trans g2) (hm A2 _ s2 E ok2 (Cf.Rel.go r1 g2) items vs _ st' r2 h3)
end
end
section
noncomputable def b4w:ME->Bool
 | .un .Not _=>false | .land _=>false | .lor _=>false | .ite _ _ _=>false | .cmp _ _ _=>false | _=>true
section
variable {P:Pg} {st st1 st2 st3 st4:St}
theorem Cf.last {c:Cf P} {n b b' y v x op r pos} (h2:E P b st y st1) (h3:c2p st1 op x y = some r) (hb:F9 (cmp c.H n c.cx) b' [b] = true) {A s E} (ok:c.Ok A st s) (hv:c.Rel A s v x) :
  c.W (testChain pos v [op] (evalEach b' c.env)) (c.Po A s st1 r RB) E s:=by
 obtain ⟨b',_,rfl,hb1,hn⟩:=C2 hb
 cases D5 hn
 exact test_last (Cf.go (h2.at hb1) ok fun u_ u_ u_ g1 ok1 r1=>Cf.use (a2f ok1 c.ao.cmp (Cf.Rel.go hv g1) r1 h3) fun u_ u_ A2 g2 ok2 r2=>by
  cases r2
  exact wpAny_truthy_bool ⟨A2,g1.trans g2,ok2,rfl⟩)
theorem D2 {d op a b x y r} (h1:E P a st x st1) (h2:E P b st1 y st2) (h3:c2p st2 op x y = some r):T P (d + 1) (.cmp a [op] [b]) st r st2:=fun c u_ u_ h u_ u_ u_ ok=>b1g h fun a' bs' p ha hb=>by
 show c.W (do testChain p (<- eval a' c.env) [op] (markedEach [op] bs' (evalEach bs' c.env))) _ _ _
 rw [markedEach_of_false _ _ _ (a4l hb)]
 exact wpAny_bind (Cf.go (h1.at ha) ok fun u_ u_ u_ g1 ok1 r1=>Cf.end g1 (Cf.last h2 h3 hb ok1 r1))
theorem d3n {d i v r} (h:st.ρ[i]? = some (some v)) (hk:isK v = some r):T P (d + 1) (.cmp (.slot i) [.Is] [.const .none]) st r st:=by
 cases hc:v.isClo with
 | false=>
  refine D2 (B0 h hc) F6 ?_
  cases v <;> first | exact hk | cases hc
 | true=>
  cases v with
  | clo m vs=>
   cases hk
   refine fun c n e h' A s E ok=>b1g h' fun a' bs' p ha hb=>?_
   show c.W (do testChain p (<- eval a' c.env) [.Is] (markedEach [.Is] bs' (evalEach bs' c.env))) _ _ _
   rw [markedEach_of_false _ _ _ (a4l hb)]
   obtain ⟨d,ha⟩:=K4 ha
   refine wpAny_bind ?_
   refine a4k ha fun x q hx=>O9 ok hx h fun u hu=>?_
   obtain ⟨b',_,rfl,hb1,hn⟩:=C2 hb
   cases D5 hn
   refine test_last (Cf.go ((F6 (P:=P) (st:=st)).at hb1) ok fun w u_ A2 g1 ok1 r1=>r1.imm_e ?_)
   obtain ⟨a,_,_,_,_,_,_,_,_,rfl,_⟩:=hu.cl
   exact is_none (wpAny_truthy_bool ⟨A2,g1,ok1,rfl⟩)
  | _=>cases hc
theorem d5v {d a b} (h1:T P d a st b st1):T P (d + 1) (.un .Not a) st (!b) st1:=fun u_ u_ u_ h u_ u_ u_ ok=>c3x h fun u_ u_ k=>
 wpAny_isTrue_Not (Cf.go (h1.at k) ok fun u_ u_ A1 g1 ok1 r1=>⟨A1,g1,ok1,congrArg not r1⟩)
theorem a9b {m:ME} (hp:b4w m = true):(b1e m == 5 || (b1e m == 6 || b1e m == 7)) = false:=by
 cases m with
 | land _=>exact (Bool.false_ne_true hp).elim
 | lor _=>exact (Bool.false_ne_true hp).elim
 | cmp _ _ _=>exact (Bool.false_ne_true hp).elim
 | ite _ _ _=>exact (Bool.false_ne_true hp).elim
 | _=>rfl
theorem b4x {m:ME} (hp:b4w m = true) (t:b1e m = 4):∃ op a,m = .un op a /\ op ≠ .Not:=by
 cases m with
 | un op a=>exact ⟨op,a,rfl,fun q=>by subst q; exact Bool.false_ne_true hp⟩
 | _=>exact nomatch t
theorem a9c {H:Hn} {f:CX->PySem.Expr->ME->Bool} {cx:CX} {e:PySem.Expr} {m:ME} (h:a2i H f cx (B5 e) m = true) (hp:b4w m = true) (env:Env) (whole:Sem Value):isTrue e env whole = (do let v <- whole; standAt e.pos; holding [v] (truthy v)):=by
 obtain ⟨t,h⟩:=cm h
 have k:=a9b hp
 rw [<- t] at k
 cases e with
 | UnaryOp op x p=>
  obtain ⟨op',a,rfl,hn⟩:=b4x hp t.symm
  obtain rfl:op = op':=C3 (B1 h).1
  cases op with
  | Not=>exact absurd rfl hn
  | _=>rfl
 | BoolOp _ _ _=>exact nomatch k
 | Compare _ _ _ _=>exact nomatch k
 | IfExp _ _ _ _=>exact nomatch k
 | _=>rfl
theorem a4e {d m v b} (h1:E P m st v st1) (h2:a5h st1 v = some b) (hp:b4w m = true):T P d m st b st1:=fun c n e h u_ u_ u_ ok=>
 wpAny_isTrue_value (Cf.go (h1.2 c n e h) ok fun u_ u_ u_ g1 ok1 r1=>Cf.end g1 (I9 ok1 r1 h2)) (a9c h hp _ _)
theorem d0h {d e e2 es b} (h1:T P d e st false st1) (h2:T P (d + 1) (.lor (e2 :: es)) st1 b st2):T P (d + 1) (.lor (e :: e2 :: es)) st b st2:=fun c n u_ h u_ u_ u_ ok=>a2j h fun u_ p k=>by
 obtain ⟨_,xs,rfl,k1,k2⟩:=C2 k
 exact wpAny_isTrue_BoolOp (wpAny_allTrue_Or_cons (Cf.go (h1.at k1) ok fun u_ u_ A1 g1 ok1 r1=>d5u r1 (Cf.end g1 (h2 c n (.BoolOp .Or xs p) k2 _ _ _ ok1))))
theorem d0i {d e b} (h1:T P d e st b st1):T P (d + 1) (.lor [e]) st b st1:=fun u_ u_ u_ h u_ u_ u_ ok=>a2j h fun u_ u_ k=>by
 obtain ⟨_,_,rfl,k1,k2⟩:=C2 k
 cases D5 k2
 refine wpAny_isTrue_BoolOp (wpAny_allTrue_Or_cons (Cf.go (h1.at k1) ok fun u_ u_ A1 g1 ok1 r1=>?_))
 cases b with
 | true=>exact d7r r1 ⟨A1,g1,ok1,rfl⟩
 | false=>exact d5u r1 (wpAny_allTrue_Or_nil ⟨A1,g1,ok1,rfl⟩)
theorem c4e {e e2 es v} (h1:E P e st v st1) (ht:a5h st1 v = some true):E P (.lor (e :: e2 :: es)) st v st1:=E.of rfl fun c u_ u_ h u_ u_ u_ ok=>a2j h fun u_ u_ k=>by
 obtain ⟨x,_,rfl,k1,k⟩:=C2 k
 obtain ⟨y,ys,rfl,_,_⟩:=C2 k
 exact wpAny_bind (Cf.go (h1.at k1) ok fun u u_ u_ g1 ok1 r1=>wpAny_bind (wpAny_standAt (wpAny_bind (wpAny_holding (Cf.use (I9 ok1 r1 ht) fun b u_ A2 g2 ok2 hb=>by
  cases hb
  exact wpAny_pure ⟨A2,g1.trans g2,ok2,Cf.Rel.go r1 g2⟩)))))
theorem c4f {e e2 es v w} (h1:E P e st v st1) (ht:a5h st1 v = some false) (h2:E P (.lor (e2 :: es)) st1 w st2):E P (.lor (e :: e2 :: es)) st w st2:=E.of rfl fun c n u_ h u_ u_ u_ ok=>a2j h fun u_ p k=>by
 obtain ⟨x,xs,rfl,k1,k2⟩:=C2 k
 obtain ⟨y,ys,rfl,_,_⟩:=C2 k2
 exact wpAny_bind (Cf.go (h1.at k1) ok fun u u_ u_ g1 ok1 r1=>wpAny_bind (wpAny_standAt (wpAny_bind (wpAny_holding (Cf.use (I9 ok1 r1 ht) fun b u_ A2 g2 ok2 hb=>by
  cases hb
  exact Cf.end (g1.trans g2) (h2.2 c n (.BoolOp .Or (y :: ys) p) k2 _ _ _ ok2))))))
theorem c4g {e v} (h1:E P e st v st1):E P (.lor [e]) st v st1:=E.of rfl fun c n u_ h u_ u_ u_ ok=>a2j h fun u_ u_ k=>by
 obtain ⟨x,xs,rfl,k1,k2⟩:=C2 k
 cases D5 k2
 exact h1.at k1 _ _ _ ok
theorem c4h {e e2 es v w} (h1:E P e st v st1) (ht:a5h st1 v = some true) (h2:E P (.land (e2 :: es)) st1 w st2):E P (.land (e :: e2 :: es)) st w st2:=E.of rfl fun c n u_ h u_ u_ u_ ok=>b1f h fun u_ p k=>by
 obtain ⟨x,xs,rfl,k1,k2⟩:=C2 k
 obtain ⟨y,ys,rfl,_,_⟩:=C2 k2
 exact wpAny_bind (Cf.go (h1.at k1) ok fun u u_ u_ g1 ok1 r1=>wpAny_bind (wpAny_standAt (wpAny_bind (wpAny_holding (Cf.use (I9 ok1 r1 ht) fun b u_ A2 g2 ok2 hb=>by
  cases hb
  exact Cf.end (g1.trans g2) (h2.2 c n (.BoolOp .And (y :: ys) p) k2 _ _ _ ok2))))))
theorem c4i {e v} (h1:E P e st v st1):E P (.land [e]) st v st1:=E.of rfl fun c n u_ h u_ u_ u_ ok=>b1f h fun u_ u_ k=>by
 obtain ⟨x,xs,rfl,k1,k2⟩:=C2 k
 cases D5 k2
 exact h1.at k1 _ _ _ ok
noncomputable def d5w (es:List PySem.Expr) (env:Env):Sem Bool:=forIn es true fun c r=>if r = true then do let ok <- isTrue c env (eval c env); pure (ForInStep.yield ok) else pure (ForInStep.yield r)
noncomputable def Ifs (P:Pg) (fs:List ME) (st:St) (b:Bool) (st':St):Prop:=∀ (c:Cf P) n es,F9 (cmp c.H n c.cx) es fs = true->c.Tri (d5w es c.env) st b st' RB
theorem b7e:Ifs P [] st true st:=fun u_ u_ u_ h u_ u_ u_ ok=>by
 cases D5 h
 exact wpAny_pure (.pure ok rfl)
theorem b7f {f b} (h:T P 8 f st b st1):Ifs P [f] st b st1:=fun c n es k u_ u_ u_ ok=>by
 obtain ⟨e,_,rfl,k1,k2⟩:=C2 k
 cases D5 k2
 unfold d5w
 rw [List.forIn_cons,if_pos rfl]
 exact wpAny_bind (wpAny_bind (Cf.go (h.at k1) ok fun u_ u_ A1 g1 ok1 r1=>wpAny_pure (wpAny_pure ⟨A1,g1,ok1,r1⟩)))
end
end
section
set_option maxRecDepth 100000
open PySem.W.KBw
section
variable {prog:Program} {w:World} {A:Around} {E:Value->Shared->Prop} {s:Shared} {b:Array UInt8} {t:Tok}
end
end
section
set_option maxRecDepth 100000
open PySem.W.KBw
section
variable {prog:Program} {w:World} {A:Around} {E:Value->Shared->Prop} {s:Shared} {b:Array UInt8} {t:Tok}
end
end
section
set_option maxRecDepth 100000
open PySem.W.KBw
section
variable {prog:Program} {w:World} {A:Around} {E:Value->Shared->Prop} {s:Shared} {b:Array UInt8} {t:Tok}
end
end
section
inductive Src (h:Heap) (it:Addr):Nat->List Int->Prop
 | bytes {b:List UInt8} {t:Tok} {i:Nat} {is:List Int}:i <= b.length->is = (b.drop i).map (fun c=>(c.toNat:Int))->KBw.IsBytesIter h it b.toArray t i->Src h it i is
section
variable {prog:Program} {w:World} {A:Around} {E:Value->Shared->Prop} {s:Shared}
end
end
section
theorem c4j {h h':Heap} {it d:Addr} {i n ep:Nat} (x:h.IsKeyIter it d i n ep) (k:∀ o,h.get? it = some o->h'.get? it = some o):h'.IsKeyIter it d i n ep:=
 let ⟨o,ho,r⟩:=x
 ⟨o,k o ho,r⟩
inductive ItRep (w:Wd) (lv:Nat):Addr->List Addr->It->Prop
 | list {I a:Addr} {i:Nat} {items:List Value} {n:Nat} {vs:List V}:w.h.IsListIter I a i->¬ w.M a->w.h.get? a = some (a4c items.toArray n)->RelL w lv (items.drop i) vs->ItRep w lv I [I] (.seq vs)
 | tuple {I a:Addr} {i:Nat} {items:List Value} {n:Nat} {vs:List V}:w.h.IsTupleIter I a i->¬ w.M a->w.h.get? a = some (d0b items.toArray n)->RelL w lv (items.drop i) vs->ItRep w lv I [I] (.seq vs)
 | range {I:Addr} {x left step:Int} {vs:List V}:IsRangeIter w.h I x left step->vs = (List.range left.toNat).map (fun (j:Nat)=>V.int (x + j * step))->ItRep w lv I [I] (.seq vs)
 | ref {I a:Addr} {l k p:Nat}:w.h.IsListIter I a p->l <= lv->E4 w.A l k = some a->ItRep w lv I [I] (.ref l k p)
 | enList {I it a:Addr} {i:Nat} {old:Value} {items:List Value} {n:Nat} {vs:List V}:IsEnum w.h I it i old->I ≠ it->w.h.IsListIter it a i->¬ w.M a->w.h.get? a = some (a4c items.toArray n)->RelL w lv (items.drop i) vs->ItRep w lv I [I,it] (.en i (.seq vs))
 | enRef {I it a:Addr} {l k p:Nat} {old:Value}:IsEnum w.h I it p old->I ≠ it->w.h.IsListIter it a p->l <= lv->E4 w.A l k = some a->ItRep w lv I [I,it] (.en p (.ref l k p))
 | enDct {I it a:Addr} {l k p n:Nat} {old:Value}:IsEnum w.h I it p old->I ≠ it->w.h.IsKeyIter it a p n n /\ a ≠ it /\ p <= n->l <= lv->E4 w.A l k = some a->ItRep w lv I [I,it] (.en p (.dref l k p n))
section
variable {B:Base} {Ar:Around} {lay:List Loc} {P P':Addr->Prop} {nl:Nat} {A A':List (List Addr)} {st:St} {s s':Shared} {E:Value->Shared->Prop}
theorem Ok.weaken (ok:Ok B lay P' nl A st s) (hp:∀ b,P b->P' b):Ok B lay P nl A st s:=by
 have ha:∀ b,Avd lay A P b->Avd lay A P' b:=fun b h=>h.imp id (hp b)
 have le:∀ lv,Wd.Le lv (wd lay A P' s.heap) (wd lay A P s.heap):=fun lv=>⟨fun u_ u_ e u_=>.of e,fun b u_ u_ h=>ha b h,fun u_ u_ u_ u_ e=>e⟩
 exact {
  base:=ok.base
  baseM:=fun b o e h=>ok.baseM b o e (ha b h)
  frs:=ok.frs
  len:=ok.len
  slots:=fun i l e=>E6 (le _) (fun u_ h=>h) (ok.slots i l e)
  sep:=ok.sep
  lenA:=ok.lenA
  dimA:=ok.dimA
  objs:=fun l i o a h1 h2=>E5 (le _) (fun u_ h=>h) (ok.objs l i o a h1 h2) fun b u_ u_ h=>ha b h
  inj:=ok.inj
  layA:=ok.layA
  disP:=fun b h=>ok.disP b (hp b h)
  alive:=fun b h=>ok.alive b (ha b h)
  rlen:=ok.rlen
  lvl:=ok.lvl }
theorem Ok.guard (ok:Ok B lay P nl A st s) (wr:List Addr) (h1:∀ b ∈ wr,s.heap.get? b = none) {h':Heap} {tk:Nat} (hk:∀ b o,s.heap.get? b = some o->h'.get? b = some o)
  (h3:∀ b ∈ wr,∃ o,h'.get? b = some o):Ok B lay (fun b=>P b ∨ b ∈ wr) nl A st { s with heap:=h',toks:=tk }:=by
 have old:∀ b o,s.heap.get? b = some o->b ∉ wr:=fun b o e m=>by rw [h1 b m] at e; cases e
 have av:∀ b o,s.heap.get? b = some o->Avd lay A (fun b=>P b ∨ b ∈ wr) b->Avd lay A P b:=fun b o e h=>by
  rcases h with h | h | h
  ·exact .inl h
  ·exact .inr h
  ·exact absurd h (old b o e)
 have le:∀ lv,Wd.Le lv (wd lay A P s.heap) (wd lay A (fun b=>P b ∨ b ∈ wr) h'):=fun lv=>⟨fun b o e u_=>.of (hk b o e),av,fun u_ u_ u_ u_ e=>e⟩
 exact {
  base:=fun b o e=>hk b o (ok.base b o e)
  baseM:=fun b o e h=>ok.baseM b o e (av b o (ok.base b o e) h)
  frs:=fun L m=>let ⟨o,es,ep,h1,h2⟩:=ok.frs L m; ⟨o,es,ep,hk _ _ h1,h2⟩
  len:=ok.len
  slots:=fun i l e=>E6 (le _) (fun q h=>hk _ _ h) (ok.slots i l e)
  sep:=ok.sep
  lenA:=ok.lenA
  dimA:=ok.dimA
  objs:=fun l i o a q1 q2=>E5 (le _) (fun q h=>hk _ _ h) (ok.objs l i o a q1 q2) av
  inj:=ok.inj
  layA:=ok.layA
  disP:=fun b h q=>by
   rcases h with h | h
   ·exact ok.disP b h q
   ·obtain ⟨o,e⟩:=ok.alive b (.inl q)
    exact old b o e h
  alive:=fun b h=>by
   rcases h with h | h | h
   ·obtain ⟨o,e⟩:=ok.alive b (.inl h); exact ⟨o,hk b o e⟩
   ·obtain ⟨o,e⟩:=ok.alive b (.inr h); exact ⟨o,hk b o e⟩
   ·exact h3 b h
  rlen:=ok.rlen
  lvl:=ok.lvl }
theorem Ok.notFr (ok:Ok B lay P nl A st s) {b:Addr} (h:∀ o,s.heap.get? b = some o->Nd o):b ∉ B.frs:=fun m=>
 let ⟨o,es,ep,h1,h2,_⟩:=ok.frs b m; h o h1 es ep h2
theorem Ok.newFr (ok:Ok B lay P nl A st s) {b:Addr} (h:s.heap.get? b = none):b ∉ B.frs:=fun m=>by
 obtain ⟨o,es,ep,h1,_⟩:=ok.frs b m; rw [h] at h1; cases h1
theorem Ok.priv (ok:Ok B lay P nl A st s) (wr:List Addr) (hw:∀ b ∈ wr,P b) {h':Heap} {tk:Nat} (hk:∀ b o,b ∉ wr->s.heap.get? b = some o->h'.get? b = some o) (hl:∀ b ∈ wr,∃ o,h'.get? b = some o) (hd:∀ b ∈ wr,b ∉ B.frs) :
  Ok B lay P nl A st { s with heap:=h',toks:=tk }:=by
 have hn:∀ b,¬ Avd lay A P b->b ∉ wr:=fun b h m=>h (.inr (hw b m))
 have ht:∀ b,Tch lay A b->b ∉ wr:=fun b h m=>ok.disP b (hw b m) h
 have le:∀ lv,Wd.Le lv (wd lay A P s.heap) (wd lay A P h'):=fun lv=>⟨fun b o e h=>.of (hk b o (hn b h) e),fun u_ u_ u_ h=>h,fun u_ u_ u_ u_ e=>e⟩
 exact {
  base:=fun b o e=>hk b o (hn b (ok.baseM b o e)) (ok.base b o e)
  baseM:=ok.baseM
  frs:=fun L m=>let ⟨o,es,ep,h1,h2,h3⟩:=ok.frs L m; ⟨o,es,ep,hk _ _ (fun q=>hd L q m) h1,h2,h3⟩
  len:=ok.len
  slots:=fun i l e=>E6 (le _) (fun q h=>hk _ _ (ht _ (.inl ⟨l,List.mem_of_getElem? e,rfl⟩)) h) (ok.slots i l e)
  sep:=ok.sep
  lenA:=ok.lenA
  dimA:=ok.dimA
  objs:=fun l i o a h1 h2=>E5 (le _) (fun q h=>hk _ _ (ht _ (.inr ⟨l,i,h2⟩)) h) (ok.objs l i o a h1 h2) fun u_ u_ u_ h=>h
  inj:=ok.inj
  layA:=ok.layA
  disP:=ok.disP
  alive:=fun b h=>by
   by_cases m:b ∈ wr
   ·exact hl b m
   ·obtain ⟨o,e⟩:=ok.alive b h; exact ⟨o,hk b o m e⟩
  rlen:=ok.rlen
  lvl:=ok.lvl }
theorem ItRep.nf {w:Wd} {lv:Nat} {I:Addr} {wr:List Addr} {it:It} (h:ItRep w lv I wr it):∀ b ∈ wr,∀ o,w.h.get? b = some o->Nd o:=by
 intro b m o e
 have fld:(∃ q vs,w.h.get? b = some q /\ q.data = .fields vs)->Nd o:=fun ⟨q,vs,e',hc⟩=>by
  rw [e] at e'; cases e'; intro es ep; rw [hc]; exact fun q=>nomatch q
 have en:∀ {it i old},IsEnum w.h b it i old->Nd o:=fun {it i old} e'=>fld ⟨_,_,e',rfl⟩
 cases h with
 | list h1=>obtain ⟨q,ho,hc,hd⟩:=h1; rw [List.mem_singleton.mp m] at fld; exact fld ⟨q,_,ho,hd⟩
 | tuple h1=>obtain ⟨q,ho,hc,hd⟩:=h1; rw [List.mem_singleton.mp m] at fld; exact fld ⟨q,_,ho,hd⟩
 | range h1=>rw [List.mem_singleton.mp m] at fld; exact fld ⟨_,_,h1,rfl⟩
 | ref h1=>obtain ⟨q,ho,hc,hd⟩:=h1; rw [List.mem_singleton.mp m] at fld; exact fld ⟨q,_,ho,hd⟩
 | enList h1 h0 h2=>
  rcases List.mem_cons.mp m with rfl | m
  ·exact en h1
  ·obtain ⟨q,ho,hc,hd⟩:=h2; rw [List.mem_singleton.mp m] at fld; exact fld ⟨q,_,ho,hd⟩
 | enRef h1 h0 h2=>
  rcases List.mem_cons.mp m with rfl | m
  ·exact en h1
  ·obtain ⟨q,ho,hc,hd⟩:=h2; rw [List.mem_singleton.mp m] at fld; exact fld ⟨q,_,ho,hd⟩
 | enDct h1 h0 h2=>
  rcases List.mem_cons.mp m with rfl | m
  ·exact en h1
  ·obtain ⟨q,ho,hc,hd⟩:=h2.1; rw [List.mem_singleton.mp m] at fld; exact fld ⟨q,_,ho,hd⟩
theorem ItRep.go (ok:Ok B lay P nl A st s) {I:Addr} {wr:List Addr} {it:It} {lv:Nat} (hw:∀ b ∈ wr,P b) (g:Go lay A A' s s') (h:ItRep (wd lay A P s.heap) lv I wr it):ItRep (wd lay A' P s'.heap) lv I wr it:=by
 have kp:∀ b,b ∈ wr->∀ o,s.heap.get? b = some o->s'.heap.get? b = some o:=fun b m o e=>(g.keep b o e (ok.disP b (hw b m))).at (h.nf b m o e)
 have le:=g.le P lv
 cases h with
 | list h1 h2 h3 h4=>exact .list (h1.at (kp _ (.head _))) (fun q=>h2 (le.avoid _ _ h3 q)) ((le.keep _ _ h3 h2).at (G8 rfl)) (h4.mono le (Nat.le_refl _))
 | tuple h1 h2 h3 h4=>exact .tuple (h1.at (kp _ (.head _))) (fun q=>h2 (le.avoid _ _ h3 q)) ((le.keep _ _ h3 h2).at (G8 rfl)) (h4.mono le (Nat.le_refl _))
 | range h1 h2=>exact .range (kp _ (.head _) _ h1) h2
 | ref h1 h2 h3=>exact .ref (h1.at (kp _ (.head _))) h2 (g.same _ _ _ h3)
 | enList h1 h0 h2 h3 h4 h5=>exact .enList (kp _ (.head _) _ h1) h0 (h2.at (kp _ (.tail _ (.head _)))) (fun q=>h3 (le.avoid _ _ h4 q)) ((le.keep _ _ h4 h3).at (G8 rfl)) (h5.mono le (Nat.le_refl _))
 | enRef h1 h0 h2 h3 h4=>exact .enRef (kp _ (.head _) _ h1) h0 (h2.at (kp _ (.tail _ (.head _)))) h3 (g.same _ _ _ h4)
 | enDct h1 h0 h2 h3 h4=>exact .enDct (kp _ (.head _) _ h1) h0 ⟨c4j h2.1 (kp _ (.tail _ (.head _))),h2.2⟩ h3 (g.same _ _ _ h4)
noncomputable def b1n (it:It) (t:PySem.Expr):Prop:=match it with
 | .en _ _=>∃ es k p,t = .Tuple es k p
 | _=>True
theorem a6j {t:PySem.Expr} {I:Addr} {v:Value} {o:Obj} {T:String} {Q:Unit->Shared->Prop} (ho:s.heap.get? I = some o) (hc:o.cls = .type T)
  (hT : ["enumerate", "zip", "dict_itemiterator", "dict_reverseitemiterator", "odict_iterator", "itertools.zip_longest", "itertools.pairwise"].contains T = false) (hq:Q () s) :
  wpAny (model B.prog B.w) Ar (letOwnedTupleGo t (.ref I) v) Q E s:=by
 obtain ⟨c,d,dt,sl⟩:=o
 simp only at hc
 subst hc
 have two:wpAny (model B.prog B.w) Ar (do
   let (.ref r,.ref a):=((Value.ref I),v) | return
   let o <- load r
   match o.cls,o.data with
   | .type n,.fields vs=>
    if ["enumerate", "zip", "dict_itemiterator", "dict_reverseitemiterator", "odict_iterator", "itertools.zip_longest", "itertools.pairwise"].contains n && vs[0]? == some (rawInt a) then
     rule "for.unpacks-the-owned-tuple"
     updateField r 0 .none
   | _,_=>pure ():Sem Unit) Q E s:=by
  cases v with
  | ref a=>
   refine wpAny_bind (wpAny_load ho ?_)
   dsimp only
   cases dt with
   | fields vs=>
    dsimp only
    rw [hT,Bool.false_and,if_neg Bool.false_ne_true]
    exact wpAny_pure hq
   | _=>exact wpAny_pure hq
  | _=>exact wpAny_pure hq
 cases t <;> first | exact two | exact wpAny_pure hq
structure Stepped (wr:List Addr) (s s':Shared):Prop where
 keep:∀ b o,b ∉ wr->s.heap.get? b = some o->s'.heap.get? b = some o
 rest:s'.gens = s.gens /\ ign s'.drawn = ign s.drawn /\ s'.os = s.os
end
end
section
theorem N1 (k:Nat) (x step:Int):(List.range (k + 1)).map (fun (j:Nat)=>V.int (x + j * step)) = V.int x :: (List.range k).map (fun (j:Nat)=>V.int (x + step + j * step)):=by
 rw [List.range_succ_eq_map,List.map_cons,List.map_map]
 congr 1
 ·simp
 ·apply List.map_congr_left
  intro j _
  simp only [Function.comp,Nat.succ_eq_add_one]
  congr 1
  rw [Int.natCast_add,Int.add_mul]; lia
theorem P0 {α:Type} {xs:List α} {i:Nat} {x:α} {ys:List α} (h:xs.drop i = x :: ys):xs[i]? = some x /\ xs.drop (i + 1) = ys:=by
 constructor
 ·have:(xs.drop i)[0]? = some x:=by rw [h]; rfl
  simpa [List.getElem?_drop] using this
 ·rw [<- List.drop_drop,h]; rfl
theorem drop_nil {α:Type} {xs:List α} {i:Nat} (h:xs.drop i = []):xs[i]? = none:=by
 have:=List.drop_eq_nil_iff.mp h
 exact List.getElem?_eq_none this
section
variable {B:Base} {Ar:Around} {lay:List Loc} {P:Addr->Prop} {nl:Nat} {A:List (List Addr)} {st:St} {s:Shared} {E:Value->Shared->Prop}
noncomputable def d8h (B:Base) (lay:List Loc) (P:Addr->Prop) (nl:Nat) (A:List (List Addr)) (st:St) (s:Shared) (I:Addr) (wr:List Addr) (it':It) (v:Value) (x:V) (s2:Shared):Prop:=
 Stepped wr s s2 /\ Ok B lay P nl A st s2 /\ Rel (wd lay A P s2.heap) (nl - 1) v x /\ ItRep (wd lay A P s2.heap) (nl - 1) I wr it'
theorem a2l {wr:List Addr} (hw:∀ b ∈ wr,P b) {h':Heap} (hk:∀ b o,b ∉ wr->s.heap.get? b = some o->h'.get? b = some o) (lv:Nat):Wd.Le lv (wd lay A P s.heap) (wd lay A P h'):=
 ⟨fun b o e h=>.of (hk b o (fun m=>h (.inr (hw b m))) e),fun u_ u_ u_ h=>h,fun u_ u_ u_ u_ e=>e⟩
noncomputable abbrev c9l (B:Base) (Ar:Around) (lay:List Loc) (P:Addr->Prop) (nl:Nat) (A:List (List Addr)) (st:St) (s:Shared) (I:Addr) (wr:List Addr) (it':It) (x:V) (t:PySem.Expr) (E:Value->Shared->Prop) (r:Option Value) (s1:Shared):Prop:=
 ∃ v,r = some v /\ wpAny (model B.prog B.w) Ar (letOwnedTupleGo t (.ref I) v) (fun u_ s2=>d8h B lay P nl A st s I wr it' v x s2) E s1
theorem U4 (ok:Ok B lay P nl A st s) {I:Addr} {h':Heap} {o:Obj} {T:String} {tk:Nat} {v:Value} {x:V} {it':It} {t:PySem.Expr} (hw:∀ b ∈ [I],P b) (hnf:∀ b ∈ [I],b ∉ B.frs) (hs:Heap.SameBut I s.heap h') (ho:h'.get? I = some o) (hc:o.cls = .type T)
  (hT : ["enumerate", "zip", "dict_itemiterator", "dict_reverseitemiterator", "odict_iterator", "itertools.zip_longest", "itertools.pairwise"].contains T = false)
  (hr:(∀ lv,Wd.Le lv (wd lay A P s.heap) (wd lay A P h'))->Rel (wd lay A P h') (nl - 1) v x /\ ItRep (wd lay A P h') (nl - 1) I [I] it') :
  c9l B Ar lay P nl A st s I [I] it' x t E (some v) { s with heap:=h',toks:=tk }:=by
 have hk:∀ b o,b ∉ [I]->s.heap.get? b = some o->h'.get? b = some o:=fun b o m e=>(hs.2 b (fun q=>m (q ▸ List.mem_cons_self))).trans e
 obtain ⟨h1,h2⟩:=hr fun lv=>a2l (lay:=lay) (A:=A) hw hk lv
 exact ⟨v,rfl,a6j ho hc hT ⟨⟨hk,rfl,rfl,rfl⟩,ok.priv (tk:=tk) [I] hw hk (fun b m=>by rw [List.mem_singleton.mp m]; exact ⟨o,ho⟩) hnf,h1,h2⟩⟩
theorem b4y {p:Nat->Prop} {a c:Nat} (h1:p a) (h2:p c):∀ b ∈ [a,c],p b:=fun b m=>(List.mem_cons.mp m).elim (fun e=>e.symm ▸ h1) fun m=>(List.mem_singleton.mp m).symm ▸ h2
theorem a4m (ok:Ok B lay P nl A st s) {I it2:Addr} {h':Heap} {i u tk:Nat} {j:Int} {old v:Value} {w:V} {it':It} {es:List PySem.Expr} {x1:Nat} {kk:Pos} (hw:∀ b ∈ [I,it2],P b) (hnf:∀ b ∈ [I,it2],b ∉ B.frs) (h1:IsEnum s.heap I it2 i old)
  (he:IsEnumOut h' I it2 j v s.heap.objs.size) (h0:I ≠ it2) (hT:h'.get? s.heap.objs.size = some (d0b #[.int i u,v] 0)) (hk:∀ b o,b ≠ I->b ≠ it2->s.heap.get? b = some o->h'.get? b = some o)
  (hr:∀ h2',IsEnum h2' I it2 j v->(∀ o,h'.get? it2 = some o->h2'.get? it2 = some o)->(∀ lv,Wd.Le lv (wd lay A P s.heap) (wd lay A P h2'))->(∃ o,h2'.get? it2 = some o) /\ Rel (wd lay A P h2') (nl - 1) v w /\ ItRep (wd lay A P h2') (nl - 1) I [I,it2] it') :
  c9l B Ar lay P nl A st s I [I,it2] it' (.tup [.int (i:Nat),w]) (.Tuple es x1 kk) E (some (.ref s.heap.objs.size)) { s with heap:=h',toks:=tk }:=by
 refine ⟨_,rfl,wpAny_letOwnedTupleGo_enum he fun h2' he' hs'=>?_⟩
 have hk':∀ b o,b ∉ [I,it2]->s.heap.get? b = some o->h2'.get? b = some o:=fun b o m e=>
  (hs'.2 b (fun q=>m (q ▸ .head _))).trans (hk b o (fun q=>m (q ▸ .head _)) (fun q=>m (q ▸ .tail _ (.head _))) e)
 have le:=a2l (lay:=lay) (A:=A) hw hk'
 obtain ⟨r0,r1,r2⟩:=hr h2' he' (fun o e=>(hs'.2 _ (fun q=>h0 q.symm)).trans e) le
 exact ⟨⟨hk',rfl,rfl,rfl⟩,ok.priv [I,it2] hw hk' (b4y ⟨_,he'⟩ r0) hnf,.tup (items:=[_,_]) ok.fresh ((hs'.2 _ fun q=>Nat.lt_irrefl _ (q ▸ Heap.lt_size h1)).trans hT) (.cons .int (.cons r1 .nil)),r2⟩
theorem a6k (ok:Ok B lay P nl A st s) (hh:Ar.handled = none) {I:Addr} {wr:List Addr} {it it':It} {x:V} (hw:∀ b ∈ wr,P b) (hr:ItRep (wd lay A P s.heap) (nl - 1) I wr it) (hn:it.next st = some (some (x,it')))
  {t:PySem.Expr} (ht:b1n it t) :
  wpAny (model B.prog B.w) Ar (pyNext (.ref I)) (fun r s1=>∃ v,r = some v /\ wpAny (model B.prog B.w) Ar (letOwnedTupleGo t (.ref I) v) (fun u_ s2=>d8h B lay P nl A st s I wr it' v x s2) E s1) E s:=by
 have hnf:∀ b ∈ wr,b ∉ B.frs:=fun b m=>ok.notFr (hr.nf b m)
 show wpAny (model B.prog B.w) Ar (pyNext (.ref I)) (c9l B Ar lay P nl A st s I wr it' x t E) E s
 cases hr with
 | @list a i items n vs h1 h2 h3 h4=>
  cases vs with
  | nil=>cases hn
  | cons x0 vs0=>
   cases hn
   generalize hd:items.drop i = ds at h4
   revert hd
   refine h4.cons_e fun v u_ r1 r2 hd=>?_
   obtain ⟨hx,hd'⟩:=P0 hd
   refine wpAny_pyNext_list_item h1 (B8 h3) (x:=v) (by simpa using hx) fun h' hi hs=>?_
   obtain ⟨o,ho,hc,_⟩:=id hi
   exact U4 (tk:=s.toks) ok hw hnf hs ho hc (by decide) fun le=>⟨r1.mono (le _) (Nat.le_refl _),.list hi h2 (((le 0).keep _ _ h3 h2).at (G8 rfl)) (by rw [hd']; exact r2.mono (le _) (Nat.le_refl _))⟩
 | @tuple a i items n vs h1 h2 h3 h4=>
  cases vs with
  | nil=>cases hn
  | cons x0 vs0=>
   cases hn
   generalize hd:items.drop i = ds at h4
   revert hd
   refine h4.cons_e fun v u_ r1 r2 hd=>?_
   obtain ⟨hx,hd'⟩:=P0 hd
   refine wpAny_pyNext_tuple_item h1 (H5 h3) (x:=v) (by simpa using hx) fun h' hi hs=>?_
   obtain ⟨o,ho,hc,_⟩:=id hi
   exact U4 (tk:=s.toks) ok hw hnf hs ho hc (by decide) fun le=>⟨r1.mono (le _) (Nat.le_refl _),.tuple hi h2 (((le 0).keep _ _ h3 h2).at (G8 rfl)) (by rw [hd']; exact r2.mono (le _) (Nat.le_refl _))⟩
 | @range x1 left step vs h1 h2=>
  cases vs with
  | nil=>cases hn
  | cons x0 vs0=>
   cases hn
   obtain ⟨k,hk0⟩ : ∃ k,left.toNat = k + 1:=by
    cases hl:left.toNat with
    | zero=>rw [hl] at h2; cases h2
    | succ k=>exact ⟨k,rfl⟩
   rw [hk0,N1] at h2
   cases h2
   exact wpAny_pyNext_range_item h1 (Int.lt_toNat.mp (hk0 ▸ Nat.succ_pos k)) fun h' hi hs=>U4 ok hw hnf hs hi rfl (by decide) fun u_=>⟨.int,.range hi (by rw [Int.pred_toNat,hk0]; rfl)⟩
 | @ref a l k p h1 h2 h3=>
  obtain ⟨vs,e,hv,hi2⟩:=a0j hn
  subst hi2
  obtain ⟨items,n,h4,h5⟩:=ok.objs _ _ _ _ e h3
  obtain ⟨v,hx,r1⟩:=h5.get hv
  refine wpAny_pyNext_list_item h1 (B8 h4) (x:=v) (by simpa using hx) fun h' hi hs=>?_
  obtain ⟨o,ho,hc,_⟩:=id hi
  exact U4 (tk:=s.toks) ok hw hnf hs ho hc (by decide) fun le=>⟨r1.mono (le _) h2,.ref hi h2 h3⟩
 | @enList it2 a i old items n vs h1 h0 h2 h3 h4 h5=>
  obtain ⟨es,kk,pp,rfl⟩:=ht
  cases vs with
  | nil=>cases hn
  | cons x0 vs0=>
   cases hn
   generalize hd:items.drop i = ds at h5
   cases h5 with
   | @cons v _ vs1 _ r1 r2=>
    obtain ⟨hx,hd'⟩:=P0 hd
    refine wpAny_pyNext_enum_item h1 h2 (B8 h4) (x:=v) (by simpa using hx) h0 fun h' he hi hT hz hk=>a4m ok hw hnf h1 he h0 hT hk fun h2' he' hs' le=>?_
    have hi':h2'.IsListIter it2 a (i + 1):=hi.at hs'
    exact ⟨let ⟨o,ho,_⟩:=hi'; ⟨o,ho⟩,r1.mono (le _) (Nat.le_refl _),.enList (by simpa using he') h0 hi' h3 (((le 0).keep _ _ h4 h3).at (G8 rfl)) (by rw [hd']; exact r2.mono (le _) (Nat.le_refl _))⟩
 | @enRef it2 a l k p old h1 h0 h2 h3 h4=>
  obtain ⟨es,kk,pp,rfl⟩:=ht
  obtain ⟨v0,it3,hn2,hx0,hx1⟩:=a4h hn
  subst hx0; subst hx1
  obtain ⟨vs,e,hv,hi3⟩:=a0j hn2
  subst hi3
  obtain ⟨items,n,h5,h6⟩:=ok.objs _ _ _ _ e h4
  obtain ⟨v,hx,r1⟩:=h6.get hv
  refine wpAny_pyNext_enum_item h1 h2 (B8 h5) (x:=v) (by simpa using hx) h0 fun h' he hi hT hz hk=>a4m ok hw hnf h1 he h0 hT hk fun h2' he' hs' le=>?_
  have hi':h2'.IsListIter it2 a (p + 1):=hi.at hs'
  exact ⟨let ⟨o,ho,_⟩:=hi'; ⟨o,ho⟩,r1.mono (le _) h3,.enRef (by simpa using he') h0 hi' h3 h4⟩
 | @enDct it2 a l k p n old h1 h0 h2 h3 h4=>
  obtain ⟨es,kk,pp,rfl⟩:=ht
  obtain ⟨v0,it3,hn2,hx0,hx1⟩:=a4h hn
  subst hx0; subst hx1
  obtain ⟨kvs,kv,e,hl,hv,hx,hi3⟩:=a2b hn2
  subst hi3; subst hx; subst hl
  obtain ⟨ts,hd⟩:=DctRep.dict (h:=s.heap) (ok.objs _ _ _ _ e h4) B.prog B.w
  have hkl:(b4c ts kvs).length = kvs.length:=List.length_map ..
  have hlt:p < kvs.length:=(List.getElem?_eq_some_iff.mp hv).1
  refine wpAny_pyNext_enum_itemD (Draws.keys (A:=Ar.in1) hh it2 a h2.2.1 (b4c ts kvs) kvs.length) h1 ⟨hkl ▸ h2.1,hd⟩ (hkl ▸ hlt) h0 (fun m=>?_) fun x h' tk hx he hst hT hz hk=>?_
  ·rcases List.mem_cons.mp m with q | m
   ·exact h0 q
   ·exact ok.disP I (hw I (.head _)) ((List.mem_singleton.mp m) ▸ .inr ⟨_,_,h4⟩)
  ·obtain ⟨k',x',t,e1,rfl⟩:=hx
   have e1:(kvs.map fun p=>(p.1,Value.int p.2 (ts p.1)))[p]? = some (k',x'):=e1
   rw [List.getElem?_map,hv] at e1
   cases e1
   refine a4m ok hw hnf h1 he h0 hT hk fun h2' he' hs' le=>?_
   have hi':h2'.IsKeyIter it2 a (p + 1) kvs.length kvs.length:=c4j (hkl ▸ hst.1) hs'
   exact ⟨let ⟨o,ho,_⟩:=hi'; ⟨o,ho⟩,.int,.enDct (by simpa using he') h0 ⟨hi',h2.2.1,hlt⟩ h3 h4⟩
end
end
section
section
variable {B:Base} {Ar:Around} {lay:List Loc} {P:Addr->Prop} {nl:Nat} {A:List (List Addr)} {st:St} {s:Shared} {E:Value->Shared->Prop}
theorem a6l (ok:Ok B lay P nl A st s) (hh:Ar.handled = none) {I:Addr} {wr:List Addr} {it:It} (hr:ItRep (wd lay A P s.heap) (nl - 1) I wr it) (hn:it.next st = some none) :
  wpAny (model B.prog B.w) Ar (pyNext (.ref I)) (fun r s1=>r = none /\ Stepped wr s s1) E s:=by
 have one:∀ {J:Addr} {h':Heap},Heap.ExtBut J s.heap h'->Stepped [J] s { s with heap:=h' }:=fun hk=>⟨fun b o m e=>hk b o (fun q=>m (by simp [q])) e,rfl,rfl,rfl⟩
 cases hr with
 | @list a i items n vs h1 h2 h3 h4=>
  cases vs with
  | cons _ _=>cases hn
  | nil=>
   generalize hd:items.drop i = ds at h4
   cases h4
   exact wpAny_pyNext_list_end hh h1 (B8 h3) (by simpa using drop_nil hd) fun h' hk=>⟨rfl,one hk⟩
 | @tuple a i items n vs h1 h2 h3 h4=>
  cases vs with
  | cons _ _=>cases hn
  | nil=>
   generalize hd:items.drop i = ds at h4
   cases h4
   exact wpAny_pyNext_tuple_end hh h1 (H5 h3) (by simpa using drop_nil hd) fun h' hk=>⟨rfl,one hk⟩
 | @range x1 left step vs h1 h2=>
  cases vs with
  | cons _ _=>cases hn
  | nil=>
   have:left.toNat = 0:=by
    cases hl:left.toNat with
    | zero=>rfl
    | succ k=>rw [hl,N1] at h2; cases h2
   exact wpAny_pyNext_range_end hh h1 (by lia) fun h' hk=>⟨rfl,one hk⟩
 | @ref a l k p h1 h2 h3=>
  obtain ⟨vs,e,hv⟩:=a5k hn
  obtain ⟨items,n,h4,h5⟩:=ok.objs _ _ _ _ e h3
  have hl:=h5.length
  exact wpAny_pyNext_list_end hh h1 (B8 h4) (by rw [List.getElem?_eq_none_iff] at hv; simp; lia) fun h' hk=>⟨rfl,one hk⟩
 | @enList it2 a i old items n vs h1 h0 h2 h3 h4 h5=>
  cases vs with
  | cons _ _=>cases hn
  | nil=>
   generalize hd:items.drop i = ds at h5
   cases h5
   exact wpAny_pyNext_enum_end hh h1 h2 (B8 h4) (by simpa using drop_nil hd) fun h' hk=>⟨rfl,⟨fun b o m e=>hk b o (fun q=>m (by simp [q])) e,rfl,rfl,rfl⟩⟩
 | @enRef it2 a l k p old h1 h0 h2 h3 h4=>
  obtain ⟨vs,e,hv⟩:=a5k (b0r hn)
  obtain ⟨items,n,h5,h6⟩:=ok.objs _ _ _ _ e h4
  have hl:=h6.length
  exact wpAny_pyNext_enum_end hh h1 h2 (B8 h5) (by rw [List.getElem?_eq_none_iff] at hv; simp; lia) fun h' hk=>⟨rfl,⟨fun b o m e=>hk b o (fun q=>m (by simp [q])) e,rfl,rfl,rfl⟩⟩
 | @enDct it2 a l k p n old h1 h0 h2 h3 h4=>
  obtain ⟨kvs,e,hl,hv⟩:=a8n (b0r hn)
  subst hl
  obtain ⟨ts,hd⟩:=DctRep.dict (h:=s.heap) (ok.objs _ _ _ _ e h4) B.prog B.w
  have hkl:(b4c ts kvs).length = kvs.length:=List.length_map ..
  have hp:p = kvs.length:=Nat.le_antisymm h2.2.2 (List.getElem?_eq_none_iff.mp hv)
  subst hp
  exact wpAny_pyNext_enum_endD (Draws.keys (A:=Ar.in1) hh it2 a h2.2.1 (b4c ts kvs) kvs.length) h1 ⟨by rw [hkl]; exact h2.1,hd⟩ fun h' hk=>⟨rfl,⟨fun b o m e=>hk b o (fun q=>m (by simp [q])) e,rfl,rfl,rfl⟩⟩
noncomputable def Made0 (B:Base) (lay:List Loc) (P:Addr->Prop) (nl:Nat) (A:List (List Addr)) (s:Shared) (st':St) (it:It) (iv:Value) (s2:Shared):Prop:=
 ∃ I wr A1,iv = .ref I /\ Go lay A A1 s s2 /\ (∀ b ∈ wr,s.heap.get? b = none) /\ Ok B lay (fun b=>P b ∨ b ∈ wr) nl A1 st' s2 /\ ItRep (wd lay A1 (fun b=>P b ∨ b ∈ wr) s2.heap) (nl - 1) I wr it
theorem Made0.lift {A1:List (List Addr)} {s1:Shared} {st':St} {it:It} {iv:Value} {s2:Shared} (g:Go lay A A1 s s1) (h:Made0 B lay P nl A1 s1 st' it iv s2):Made0 B lay P nl A s st' it iv s2:=by
 obtain ⟨I,wr,A2,h1,h2,h3,h4,h5⟩:=h
 refine ⟨I,wr,A2,h1,g.trans h2,fun b m=>?_,h4,h5⟩
 cases e:s.heap.get? b with
 | none=>rfl
 | some o=>obtain ⟨o',e'⟩:=g.live b o e; rw [h3 b m] at e'; cases e'
theorem b1o (wr:List Addr) (h1:∀ b ∈ wr,s.heap.get? b = none) {h':Heap} (hk:∀ b o,s.heap.get? b = some o->h'.get? b = some o) (lv:Nat):Wd.Le lv (wd lay A P s.heap) (wd lay A (fun b=>P b ∨ b ∈ wr) h'):=
 ⟨fun b o e u_=>.of (hk b o e),(fun b o e h=>by
  rcases h with h | h | h
  ·exact .inl h
  ·exact .inr h
  ·rw [h1 b h] at e; cases e),fun u_ u_ u_ u_ e=>e⟩
theorem a9d (ok:Ok B lay P nl A st s) {v:Value} {x:V} {it:It} (hx:Rel (wd lay A P s.heap) (nl - 1) v x) (h:c2q st x = some it) :
  wpAny (model B.prog B.w) Ar (pyIter v) (Made0 B lay P nl A s st it) E s:=by
 have hn:s.heap.get? s.heap.objs.size = none:=Heap.get?_none_of_le (Nat.le_refl _)
 have fr:∀ b ∈ [s.heap.objs.size],s.heap.get? b = none:=fun b m=>by rw [List.mem_singleton.mp m]; exact hn
 have key:∀ (o:Obj) (ho:o.isFreed = false),(∀ w:Wd,w.h = s.heap.push o->w.A = A->Wd.Le (nl - 1) (wd lay A P s.heap) w->ItRep w (nl - 1) s.heap.objs.size [s.heap.objs.size] it)->
   Made0 B lay P nl A s st it (.ref s.heap.objs.size) { s with heap:=s.heap.push o }:=fun o ho hi=>by
  have hk:∀ b q,s.heap.get? b = some q->(s.heap.push o).get? b = some q:=fun b q e=>Heap.get?_push_of_some _ e
  have ok':=ok.guard (tk:=s.toks) [s.heap.objs.size] fr hk (fun b m=>⟨o,by rw [List.mem_singleton.mp m]; exact Heap.get?_push_size _ ho⟩)
  exact ⟨_,[s.heap.objs.size],A,rfl,(ok.grow (tk:=s.toks) hk).2,fr,ok',hi _ rfl rfl (b1o [s.heap.objs.size] fr hk _)⟩
 cases x with
 | lst vs=>
  refine hx.lst_e fun a items n h1 h2 h3=>?_
  ·cases h
   refine wpAny_pyIter_list (B8 h2) (key _ rfl fun w hw hA le=>?_)
   exact .list (i:=0) ⟨_,by rw [hw]; exact Heap.get?_push_size _ rfl,rfl,rfl⟩ (fun q=>h1 (le.avoid _ _ h2 q)) ((le.keep _ _ h2 h1).at (G8 rfl)) (by rw [List.drop_zero]; exact h3.mono le (Nat.le_refl _))
 | tup vs=>
  refine hx.tup_e fun a items n h1 h2 h3=>?_
  ·cases h
   refine wpAny_pyIter_tuple (H5 h2) (key _ rfl fun w hw hA le=>?_)
   exact .tuple (i:=0) ⟨_,by rw [hw]; exact Heap.get?_push_size _ rfl,rfl,rfl⟩ (fun q=>h1 (le.avoid _ _ h2 q)) ((le.keep _ _ h2 h1).at (G8 rfl)) (by rw [List.drop_zero]; exact h3.mono le (Nat.le_refl _))
 | rng a b c=>
  cases hx with
  | rng h1 h2=>
   obtain ⟨hs,h⟩:=C6 (show (if Builtin.Range.small a b c then some (It.seq ((S1 a b c).map .int)) else none) = some it from h)
   cases h
   refine wpAny_pyIter_range h2 hs (key _ rfl fun w hw hA le=>?_)
   refine .range (by show w.h.get? _ = _; rw [hw]; exact Heap.get?_push_size _ rfl) ?_
   unfold S1
   rw [List.map_map]
   rfl
 | ref l i=>
  refine hx.ref_e fun a h1 h2=>?_
  ·obtain ⟨vs,e,rfl⟩:=a0p (o:=st.obj l i) (f:=fun u_=>It.ref l i 0) h
   obtain ⟨items,n,h3,h4⟩:=ok.objs _ _ _ _ e h2
   refine wpAny_pyIter_list (B8 h3) (key _ rfl fun w hw hA le=>?_)
   exact .ref (p:=0) ⟨_,by rw [hw]; exact Heap.get?_push_size _ rfl,rfl,rfl⟩ h1 (by rw [hA]; exact h2)
 | _=>cases h
theorem a9e (ok:Ok B lay P nl A st s) {v:Value} {x:V} {vs:List V} {it:It} (hx:Rel (wd lay A P s.heap) (nl - 1) v x) (hv:C7 st x = some vs) (h:c2q st x = some it) :
  wpAny (model B.prog B.w) Ar (call (.type "enumerate") [v]) (fun r s1=>wpAny (model B.prog B.w) Ar (pyIter r) (Made0 B lay P nl A s st (.en 0 it)) E s1) E s:=by
 obtain ⟨a,items,n,rfl,hg,hr⟩:=D4 ok hx hv
 refine call_enumerate_list (B8 hg) fun h' he hi hz hk=>?_
 refine wpAny_pyIter_enum he ?_
 have fr:∀ b ∈ [s.heap.objs.size + 1,s.heap.objs.size],s.heap.get? b = none:=fun b m=>by
  rcases List.mem_cons.mp m with rfl | m
  ·exact Heap.get?_none_of_le (Nat.le_succ _)
  ·rw [List.mem_singleton.mp m]; exact Heap.get?_none_of_le (Nat.le_refl _)
 have lv:∀ b ∈ [s.heap.objs.size + 1,s.heap.objs.size],∃ o,h'.get? b = some o:=fun b m=>by
  rcases List.mem_cons.mp m with rfl | m
  ·exact ⟨_,he⟩
  ·rw [List.mem_singleton.mp m]; obtain ⟨o,ho,_⟩:=hi; exact ⟨o,ho⟩
 have ok':=ok.guard (tk:=s.toks) _ fr hk lv
 have le:=b1o (lay:=lay) (A:=A) (P:=P) _ fr hk (nl - 1)
 refine ⟨_,[s.heap.objs.size + 1,s.heap.objs.size],A,rfl,(ok.grow (tk:=s.toks) hk).2,fr,ok',?_⟩
 have hne:s.heap.objs.size + 1 ≠ s.heap.objs.size:=Nat.succ_ne_self _
 cases x with
 | lst us=>
  cases hx with
  | @lst _ items' n' _ h1 h2 h3=>
   cases h
   exact .enList (i:=0) (old:=.none) (by simpa using he) hne hi (fun q=>h1 (le.avoid _ _ h2 q)) ((le.keep _ _ h2 h1).at (G8 rfl)) (by rw [List.drop_zero]; exact h3.mono le (Nat.le_refl _))
 | ref l i=>
  cases hx with
  | ref h1 h2=>
   obtain ⟨vs,e,rfl⟩:=a0p (o:=st.obj l i) (f:=fun u_=>It.ref l i 0) h
   exact .enRef (p:=0) (old:=.none) (by simpa using he) hne hi h1 h2
 | _=>cases hv
theorem a9f (ok:Ok B lay P nl A st s) {v:Value} {x:V} {it:It} (hx:Rel (wd lay A P s.heap) (nl - 1) v x) (h:d7o st x = some it) :
  wpAny (model B.prog B.w) Ar (call (.type "enumerate") [v]) (fun r s1=>wpAny (model B.prog B.w) Ar (pyIter r) (Made0 B lay P nl A s st it) E s1) E s:=by
 have old:∀ {x:V} {it:It},Rel (wd lay A P s.heap) (nl - 1) v x->(match C7 st x,c2q st x with | some _,some it=>some (It.en 0 it) | _,_=>none) = some it->
   wpAny (model B.prog B.w) Ar (call (.type "enumerate") [v]) (fun r s1=>wpAny (model B.prog B.w) Ar (pyIter r) (Made0 B lay P nl A s st it) E s1) E s:=fun {x it} hx h=>by
  split at h
  ·cases h; exact a9e ok hx ‹_› ‹_›
  ·cases h
 exact old hx h
end
section
variable {P:Pg} {st st1:St}
theorem X0 {a:PySem.Expr} (h:(B5 a).tag ≠ 0) (p:Pos) (env:Env):backTo p (starEach [a] env) = [(false,eval a env)]:=by
 cases a with
 | Starred _ _=>exact absurd rfl h
 | _=>rfl
theorem b1p {a:PySem.Expr} (h:(B5 a).tag ≠ 0) (env:Env) (x:Value):foldedSetIterable a env x = pure x:=by
 cases a with
 | Set _ _ _=>exact absurd rfl h
 | _=>rfl
theorem Cf.call1 {c:Cf P} {n e m x v A s} {F:Value->Shared->Prop} {Q:Value->Shared->Prop} (h:S3 c.cx.gl v (B5 e) (fun as=>F9 (cmp c.H n c.cx) as [m]) = true) (h1:E P m st x st1) (ok:c.Ok A st s)
  (k:∀ u A1 s1,Go c.lay A A1 s s1->c.Ok A1 st1 s1->c.Rel A1 s1 u x->c9k s1 v /\ c.W (call v [u] []) Q F s1):c.W (eval e c.env) Q F s:=by
 refine b1i h fun y p as q hg ha=>?_
 obtain ⟨a,_,rfl,ha1,hn⟩:=C2 ha
 cases D5 hn
 refine wpAny_Call_Name_kw (L4 ok hg ?_)
 rw [X0 (Q1 ha1)]
 exact E0 rfl (Calls.evalArgs_plain (Calls.spliced_cons (Cf.go (h1.at ha1) ok fun u s1 A1 g1 ok1 r1=>Calls.spliced_nil (k u A1 s1 g1 ok1 r1))))
theorem b1q {s:Shared} {T:String}:c9k s (.type T):=.inl fun u_ q=>(nomatch q)
noncomputable abbrev Cf.Iter (c:Cf P) (A:List (List Addr)) (s:Shared) (st1:St) (it:It) (F:Value->Shared->Prop) (x:Value) (s1:Shared):Prop:=c.W (pyIter x) (Made0 c.B c.lay c.Q c.nl A s st1 it) F s1
noncomputable def b4z (i:MI) (it:It):Prop:=match it with | .en _ _=>∃ j,i = .enum j | _=>True
theorem c4k {i:MI} {it:It} {t:PySem.Expr} (h:b4z i it) (hc:c3t i t = true):b1n it t:=by
 cases it with
 | en k it=>
  obtain ⟨j,rfl⟩:=h
  exact ⟨_,_,_,(D6 t).symm.trans (P8 (C3 hc))⟩
 | _=>trivial
theorem b1r {j:MI}:∀ {it:It},b4z (.enum j) it
 | .en _ _=>⟨j,rfl⟩
 | .seq _=>trivial
 | .ref _ _ _=>trivial
 | .dref _ _ _ _=>trivial
theorem b9z {st:St} {v:V} {it:It} (h:c2q st v = some it) (i:MI):b4z i it:=by
 cases v with
 | lst _=>cases h; trivial
 | tup _=>cases h; trivial
 | rng a b c=>
  obtain ⟨_,h⟩:=C6 (show (if Builtin.Range.small a b c then some (It.seq ((S1 a b c).map .int)) else none) = some it from h)
  cases h; trivial
 | ref l k=>
  obtain ⟨vs,e,rfl⟩:=a0p (o:=st.obj l k) (f:=fun u_=>It.ref l k 0) h
  trivial
 | _=>cases h
noncomputable def I (P:Pg) (m:MI) (st:St) (it:It) (st':St):Prop:=b4z m it /\ ∀ (c:Cf P) n e,c9h (cmp c.H n c.cx) c.cx.gl e m = true->(∀ x,foldedSetIterable e c.env x = pure x) /\ ∀ A s F,c.Ok A st s->c.W (eval e c.env) (c.Iter A s st' it F) F s
theorem Cf.Iter.lift {c:Cf P} {A A1 s s1 st1 it F x s2} (g:Go c.lay A A1 s s1) (h:c.Iter A1 s1 st1 it F x s2):c.Iter A s st1 it F x s2:=wpAny_mono h (fun u_ u_ q=>q.lift g) fun u_ u_ e=>e
theorem cmpI_enum {f gl e m}:c9h f gl e (.enum (.val m)) = S3 gl (.type "enumerate") (B5 e) (fun as=>F9 f as [m]):=rfl
theorem K8 {gl v q k} (h:S3 gl v q k = true):q.tag = 8:=(C3 (B1 (B1 h).1).1).1
theorem T5 {e v it} (h1:E P e st v st1) (h2:c2q st1 v = some it):I P (.val e) st it st1:=⟨b9z h2 _,fun c u_ u_ h=>
 ⟨b1p (Q1 h) _,fun u_ u_ u_ ok=>Cf.go (h1.at h) ok fun u_ u_ u_ g1 ok1 r1=>Cf.Iter.lift g1 (a9d ok1 r1 h2)⟩⟩
theorem b5a {e v it} (h1:E P e st v st1) (h2:d7o st1 v = some it):I P (.enum (.val e)) st it st1:=⟨b1r,fun c u_ u_ h=>
 have h:=cmpI_enum.symm.trans h
 ⟨b1p (fun q=>(nomatch (K8 h).symm.trans q)) _,fun u_ u_ u_ ok=>Cf.call1 h h1 ok fun u_ u_ u_ g1 ok1 r1=>⟨b1q,wpAny_mono (a9f ok1 r1 h2) (fun u_ u_ q=>Cf.Iter.lift g1 q) fun u_ u_ e=>e⟩⟩⟩
end
end
section
noncomputable def H0 (ρ:List (Option V)) (l:List (Nat × V)):List (Option V):=l.foldl (fun ρ p=>ρ.set p.1 (some p.2)) ρ
section
variable {P:Pg} {st st1 st2 st3:St}
theorem Q4 {c:Cf P} {A:List (List Addr)} {s:Shared} {F:Value->Shared->Prop} (ok:c.Ok A st s) {x:Str} {i:Nat} (hx:c.cx.res x = some i) {v:Value} {z:V} (hv:c.Rel A s v z) :
  c.W (storeName c.env x v) (c.Po A s { st with ρ:=st.ρ.set i (some z) } () RU) F s:=by
 rcases c.eo.var x i hx with ⟨k,l⟩ | ⟨k,a,hc,l⟩
 ·obtain ⟨m,h1,_⟩:=ok.slots i _ l
  refine wpAny_storeName_local k h1 (fun h' hn hs=>?_) (by rw [c.eo.kind]; rfl)
  obtain ⟨ok',g⟩:=ok.setDict (tk:=s.toks + 1) l h1 hn hs (.some hv)
  exact ⟨A,g,ok',trivial⟩
 ·obtain ⟨cv,h1,_⟩:=ok.slots i _ l
  have fin:∀ h',h'.IsCell a (some v)->Heap.SameBut a s.heap h'->c.Po A s { st with ρ:=st.ρ.set i (some z) } () RU () { s with heap:=h' }:=fun h' hn hs=>
   let ⟨ok',g⟩:=ok.setCell (tk:=s.toks) l hn hs hv
   ⟨A,g,ok',trivial⟩
  rcases k with k | k
  ·exact wpAny_storeName_cell c.eo.kind k hc h1 fin
  ·delta storeName
   simp only [k,c.eo.kind]
   exact wpAny_bind (wpAny_cellOf hc (wpAny_cellSet h1 fin))
noncomputable def As (P:Pg) (_:Nat) (p:MPat) (z:V) (st st':St):Prop:=
 ((∀ i,p = .slot i->st' = { st with ρ:=st.ρ.set i (some z) }) /\ (∀ l:List Nat,p = .tup (l.map .slot)->∃ zs,z = .tup zs /\ zs.length = l.length /\ st' = { st with ρ:=H0 st.ρ (l.zip zs) })) /\
 ∀ (c:Cf P) n d e,a6e (cmp c.H n c.cx) c.cx.res d e p = true->∀ A s F v,c.Ok A st s->c.Rel A s v z->c.W (assign e c.env v) (c.Po A s st' () RU) F s
@[elab_as_elim] theorem U5 {f:PySem.Expr->ME->Bool} {res:Str->Option Nat} {d i e} {R:PySem.Expr->Prop} (h:a6e f res d e (.slot i) = true) (K:∀ x p,res x = some i->R (.Name x p)):R e:=by
 cases d with
 | zero=>exact (Bool.false_ne_true h).elim
 | succ d=>exact G6 (L0 (C3 (B1 h).1)) (K _ _ (C3 (B1 h).2))
@[elab_as_elim] theorem a0x {f:PySem.Expr->ME->Bool} {res:Str->Option Nat} {d ps e} {R:PySem.Expr->Prop} (h:a6e f res d e (.tup ps) = true) (K:∀ d es n p,F9 (a6e f res d) es ps = true->R (.Tuple es n p)):R e:=by
 cases d with
 | zero=>exact (Bool.false_ne_true h).elim
 | succ d=>exact G6 (P8 (C3 (B1 h).1)) (K _ _ _ _ (B1 h).2)
@[elab_as_elim] theorem a0y {f:PySem.Expr->ME->Bool} {res:Str->Option Nat} {d o i e} {R:PySem.Expr->Prop} (h:a6e f res d e (.sub o i) = true) (K:∀ o' i' p,f o' o = true->f i' i = true->R (.Subscript o' i' p)):R e:=by
 cases d with
 | zero=>exact (Bool.false_ne_true h).elim
 | succ d=>exact G6 (P7 (C3 (B1 (B1 h).1).1)) (K _ _ _ (B1 (B1 h).2).1 (B1 (B1 h).2).2)
theorem c0a {f:PySem.Expr->ME->Bool} {res:Str->Option Nat} {d p e} (h:a6e f res d e p = true):(B5 e).tag ≠ 0:=by
 cases p with
 | slot i=>exact U5 (R:=fun e=>(B5 e).tag ≠ 0) h fun u_ u_ u_ q=>nomatch q
 | tup ps=>exact a0x (R:=fun e=>(B5 e).tag ≠ 0) h fun u_ u_ u_ u_ u_ q=>nomatch q
 | sub o i=>exact a0y (R:=fun e=>(B5 e).tag ≠ 0) h fun u_ u_ u_ u_ u_ q=>nomatch q
theorem c4l {d i v} (_:i < st.ρ.length):As P (d + 1) (.slot i) v st { st with ρ:=st.ρ.set i (some v) }:=
 ⟨⟨fun u_ e=>by cases e; rfl,fun u_ e=>nomatch e⟩,fun u_ u_ u_ u_ h u_ u_ u_ u_ ok hv=>U5 h fun u_ u_ hx=>wpAny_assign_Name (Q4 ok hx hv)⟩
theorem K5 {f:PySem.Expr->ME->Bool} {res:Str->Option Nat} {env:Env} {d:Nat}:∀ {es:List PySem.Expr} {ps:List MPat},F9 (a6e f res d) es ps = true->
  (assignEach es env).findIdx? (·.1) = none /\ (assignEach es env).map (·.2) = es.map (fun e=>assign e env)
 | [],_,_=>⟨rfl,rfl⟩
 | _ :: _,[],h=>(Bool.false_ne_true h).elim
 | e :: es,p :: ps,h=>by
  obtain ⟨q2,q3⟩:=K5 (env:=env) (B1 h).2
  have he:assignEach (e :: es) env = (false,assign e env) :: assignEach es env:=by
   have:=c0a (B1 h).1
   cases e with
   | Starred _ _=>exact absurd rfl this
   | _=>rfl
  rw [he]
  exact ⟨by rw [List.findIdx?_cons,q2]; rfl,congrArg (assign e env :: ·) q3⟩
noncomputable def AsL (P:Pg) (d:Nat) (ps:List MPat) (xs:List V) (st st':St):Prop:=
 (ps.length = xs.length /\ ∀ l:List Nat,ps = l.map .slot->st' = { st with ρ:=H0 st.ρ (l.zip xs) }) /\
 ∀ (c:Cf P) n d es,F9 (a6e (cmp c.H n c.cx) c.cx.res d) es ps = true->∀ A s F items,c.Ok A st s->RelL (c.wd A s.heap) (c.nl - 1) items xs->c.W (assignInOrder (es.map fun e=>assign e c.env) items) (c.Po A s st' () RU) F s
theorem b7g {d}:AsL P d [] [] st st:=⟨⟨rfl,fun l e=>by cases l with | nil=>rfl | cons _ _=>cases e⟩,fun c u_ u_ es h A s F items ok hr=>by
 obtain rfl:=D5 h
 exact hr.nil_e (wpAny_pure ⟨A,.refl,ok,trivial⟩)⟩
theorem K6 {d p x ps xs} (h1:As P d p x st st1) (h2:AsL P d ps xs st1 st2):AsL P d (p :: ps) (x :: xs) st st2:=
 ⟨⟨congrArg (· + 1) h2.1.1,fun l e=>by
  cases l with
  | nil=>cases e
  | cons i l=>
   obtain ⟨e1,e2⟩:=List.cons.inj e
   rw [h2.1.2 l e2,h1.1.1 i e1]
   rfl⟩,fun c n d es h A s F items ok hr=>by
  obtain ⟨e,es,rfl,k1,k2⟩:=C2 h
  refine RelL.cons_e (R:=fun items=>c.W (assignInOrder ((e :: es).map fun e=>assign e c.env) items) (c.Po A s st2 () RU) F s) hr fun v vs r1 r2=>?_
  exact wpAny_bind (wpAny_holding (Cf.use (h1.2 c n d e k1 _ _ F v ok r1) fun u_ s2 A2 g2 ok2 u_=>Cf.end g2 (h2.2 c n d es k2 A2 s2 F vs ok2 (RelL.go r2 g2))))⟩
theorem c4m {d ps xs} (h:AsL P d ps xs st st1):As P (d + 1) (.tup ps) (.tup xs) st st1:=
 ⟨⟨fun u_ e=>(nomatch e),fun l e=>by
  cases e
  exact ⟨xs,rfl,by rw [<- h.1.1,List.length_map],h.1.2 l rfl⟩⟩,fun c n u_ u_ hc A s F v ok hv=>a0x hc fun d es u_ u_ ha=>by
  obtain ⟨q2,q3⟩:=K5 (env:=c.env) ha
  refine hv.tup_e fun a items m u_ g2 g3=>?_
  refine wpAny_assign_Tuple c.ao.handled (H5 g2) ?_ q2 fun h' hx=>?_
  ·have:=congrArg List.length q3
   rw [List.length_map,List.length_map] at this
   rw [this,List.size_toArray,g3.length,<- h.1.1,a4i ha]
  ·rw [q3]
   obtain ⟨ok1,g1⟩:=ok.grow (tk:=s.toks) (fun b o e=>hx b o (Nat.ne_of_lt (Heap.lt_size e)) e)
   exact Cf.end' g1 (h.2 c n d es ha A _ F items ok1 (RelL.go g3 g1))⟩
theorem N2 {d p q x y} (h1:As P d p x st st1) (h2:As P d q y st1 st2):As P (d + 1) (.tup [p,q]) (.tup [x,y]) st st2:=c4m (K6 h1 (K6 h2 b7g))
end
end
section
structure GoX (X:Addr->Prop) (lay:List Loc) (A A':List (List Addr)) (s s':Shared):Prop where
 keep:∀ b o,s.heap.get? b = some o->¬ Tch lay A b->¬ X b->Kp s'.heap b o
 live:∀ b o,s.heap.get? b = some o->¬ X b->∃ o',s'.heap.get? b = some o'
 same:∀ l i a,E4 A l i = some a->E4 A' l i = some a
 new:∀ l i a,E4 A' l i = some a->E4 A l i = some a ∨ s.heap.get? a = none ∨ X a
 rest:s'.gens = s.gens /\ ign s'.drawn = ign s.drawn /\ s'.os = s.os
theorem Go.toX {X:Addr->Prop} {lay A A' s s'} (g:Go lay A A' s s'):GoX X lay A A' s s':=
 ⟨fun b o e h u_=>g.keep b o e h,fun b o e u_=>g.live b o e,g.same,fun l i a e=>(g.new l i a e).imp id .inl,g.rest⟩
theorem GoX.refl {X:Addr->Prop} {lay A s}:GoX X lay A A s s:=Go.refl.toX
theorem GoX.tch {X:Addr->Prop} {lay A A' s s'} (g:GoX X lay A A' s s') {b o} (e:s.heap.get? b = some o) (hx:¬ X b) (h:Tch lay A' b):Tch lay A b:=by
 rcases h with h | ⟨l,i,h⟩
 ·exact .inl h
 ·rcases g.new l i b h with h | h | h
  ·exact .inr ⟨l,i,h⟩
  ·rw [e] at h; cases h
  ·exact absurd h hx
theorem GoX.fresh {X Y:Addr->Prop} {lay A A' A'' s s' s''} (g:GoX Y lay A A' s s') (k:GoX X lay A' A'' s' s'') (h:∀ b o,s.heap.get? b = some o->X b->Y b):GoX Y lay A A'' s s'' where
 keep b o e t y:=(g.keep b o e t y).then fun o' e'=>k.keep b o' e' (fun h'=>t (g.tch e y h')) (fun x=>y (h b o e x))
 live b o e y:=let ⟨o',e'⟩:=g.live b o e y; k.live b o' e' (fun x=>y (h b o e x))
 same l i a e:=k.same l i a (g.same l i a e)
 new l i a e:=by
  rcases k.new l i a e with e | e | e
  ·exact g.new l i a e
  ·cases h1:s.heap.get? a with
   | none=>exact .inr (.inl rfl)
   | some o=>
    by_cases y:Y a
    ·exact .inr (.inr y)
    ·obtain ⟨o',h'⟩:=g.live a o h1 y; rw [e] at h'; cases h'
  ·cases h1:s.heap.get? a with
   | none=>exact .inr (.inl rfl)
   | some o=>exact .inr (.inr (h a o h1 e))
 rest:=⟨k.rest.1.trans g.rest.1,k.rest.2.1.trans g.rest.2.1,k.rest.2.2.trans g.rest.2.2⟩
theorem GoX.trans {X:Addr->Prop} {lay A A' A'' s s' s''} (g:GoX X lay A A' s s') (k:GoX X lay A' A'' s' s''):GoX X lay A A'' s s'':=g.fresh k fun u_ u_ u_ x=>x
theorem GoX.mono {X Y:Addr->Prop} {lay A A' s s'} (g:GoX X lay A A' s s') (h:∀ b,X b->Y b):GoX Y lay A A' s s':=
 ⟨fun b o e t y=>g.keep b o e t (fun x=>y (h b x)),fun b o e y=>g.live b o e (fun x=>y (h b x)),g.same,fun l i a e=>(g.new l i a e).imp id (Or.imp id (h a)),g.rest⟩
theorem GoX.le2 {X:Addr->Prop} {lay A A' s s'} (g:GoX X lay A A' s s') {P P':Addr->Prop} (hx:∀ b,X b->P b) (hp:∀ b,P' b->P b) (lv:Nat):Wd.Le lv (wd lay A P s.heap) (wd lay A' P' s'.heap) where
 keep b o e h:=g.keep b o e (fun h'=>h (.inl h')) (fun x=>h (.inr (hx b x)))
 avoid b o e h:=by
  by_cases q:X b
  ·exact .inr (hx b q)
  ·rcases h with h | h
   ·exact .inl (g.tch e q h)
   ·exact .inr (hp b h)
 same l i a _ e:=g.same l i a e
theorem GoX.le {X:Addr->Prop} {lay A A' s s'} (g:GoX X lay A A' s s') {P:Addr->Prop} (hx:∀ b,X b->P b) (lv:Nat):Wd.Le lv (wd lay A P s.heap) (wd lay A' P s'.heap):=g.le2 hx (fun u_ h=>h) lv
theorem GoX.toGo {X:Addr->Prop} {lay A A' s s'} (g:GoX X lay A A' s s') (h:∀ b,X b->s.heap.get? b = none):Go lay A A' s s':=by
 have h':∀ b o,s.heap.get? b = some o->¬ X b:=fun b o e x=>by rw [h b x] at e; cases e
 exact ⟨fun b o e t=>g.keep b o e t (h' b o e),fun b o e=>g.live b o e (h' b o e),g.same,fun l i a e=>by
  rcases g.new l i a e with q | q | q
  ·exact .inl q
  ·exact .inr q
  ·exact .inr (h a q),g.rest⟩
section
variable {B:Base} {env:Env} {lay:List Loc} {P:Addr->Prop} {nl:Nat} {Ar:Around} {A A':List (List Addr)} {st:St} {s s':Shared} {E:Value->Shared->Prop}
theorem ItRep.goX (ok:Ok B lay P nl A st s) {X:Addr->Prop} {I:Addr} {wr:List Addr} {it:It} {lv:Nat} (hw:∀ b ∈ wr,P b) (hx:∀ b,X b->P b) (hxw:∀ b ∈ wr,¬ X b) (g:GoX X lay A A' s s') (h:ItRep (wd lay A P s.heap) lv I wr it):ItRep (wd lay A' P s'.heap) lv I wr it:=by
 have kp:∀ b,b ∈ wr->∀ o,s.heap.get? b = some o->s'.heap.get? b = some o:=fun b m o e=>(g.keep b o e (ok.disP b (hw b m)) (hxw b m)).at (h.nf b m o e)
 have le:=g.le hx lv
 cases h with
 | list h1 h2 h3 h4=>exact .list (h1.at (kp _ (.head _))) (fun q=>h2 (le.avoid _ _ h3 q)) ((le.keep _ _ h3 h2).at (G8 rfl)) (h4.mono le (Nat.le_refl _))
 | tuple h1 h2 h3 h4=>exact .tuple (h1.at (kp _ (.head _))) (fun q=>h2 (le.avoid _ _ h3 q)) ((le.keep _ _ h3 h2).at (G8 rfl)) (h4.mono le (Nat.le_refl _))
 | range h1 h2=>exact .range (kp _ (.head _) _ h1) h2
 | ref h1 h2 h3=>exact .ref (h1.at (kp _ (.head _))) h2 (g.same _ _ _ h3)
 | enList h1 h0 h2 h3 h4 h5=>exact .enList (kp _ (.head _) _ h1) h0 (h2.at (kp _ (.tail _ (.head _)))) (fun q=>h3 (le.avoid _ _ h4 q)) ((le.keep _ _ h4 h3).at (G8 rfl)) (h5.mono le (Nat.le_refl _))
 | enRef h1 h0 h2 h3 h4=>exact .enRef (kp _ (.head _) _ h1) h0 (h2.at (kp _ (.tail _ (.head _)))) h3 (g.same _ _ _ h4)
 | enDct h1 h0 h2 h3 h4=>exact .enDct (kp _ (.head _) _ h1) h0 ⟨c4j h2.1 (kp _ (.tail _ (.head _))),h2.2⟩ h3 (g.same _ _ _ h4)
theorem a6m {w:Wd} {lv:Nat} {I:Addr} {wr:List Addr} {it:It} (h:ItRep w lv I wr it) (hw:w.h = s.heap) {Q:Value->Shared->Prop} (hq:Q (.ref I) s):wpAny (model B.prog B.w) Ar (pyIter (.ref I)) Q E s:=by
 cases h with
 | list h1=>rw [hw] at h1; exact wpAny_pyIter_listiter h1 hq
 | tuple h1=>rw [hw] at h1; exact wpAny_pyIter_tupleiter h1 hq
 | range h1=>rw [hw] at h1; exact wpAny_pyIter_rangeiter h1 hq
 | ref h1=>rw [hw] at h1; exact wpAny_pyIter_listiter h1 hq
 | enList h1=>rw [hw] at h1; exact wpAny_pyIter_enum h1 hq
 | enRef h1=>rw [hw] at h1; exact wpAny_pyIter_enum h1 hq
 | enDct h1=>rw [hw] at h1; exact wpAny_pyIter_enum h1 hq
theorem U6 {elt:PySem.Expr} {gens:List Comprehension} {scope:Scope} {pos:Pos} {depth:Nat} {acc:Value} {R:Result->Shared->Prop} {t i:PySem.Expr} {ifs:List PySem.Expr}
  (hg:gens[depth]? = some ⟨t,i,ifs,0⟩) {w:Wd} {lv:Nat} {I:Addr} {wr:List Addr} {it:It} (hi:ItRep w lv I wr it) (hw:w.h = s.heap)
  (h:codeAny (model B.prog B.w) Ar (.compLoop (.ListComp elt gens scope pos) depth (.ref I) acc env) R s) :
  codeAny (model B.prog B.w) Ar (.compStart (.ListComp elt gens scope pos) depth (.ref I) acc env) R s:=by
 refine codeAny_of_tree ?_
 show wpAny _ Ar ((compStart (.ListComp elt gens scope pos) depth (.ref I) acc env).onRaise (fun x=>do noteFrame x env; standAt theWindowsPlace)) _ _ s
 refine wpAny_onRaise ?_
 unfold compStart
 have e1:(((clausesOf (.ListComp elt gens scope pos))[depth]?).elim false fun x=>x.is_async != 0) = false:=by
  show ((gens[depth]?).elim false fun x=>x.is_async != 0) = false
  rw [hg]; rfl
 rw [e1,if_neg Bool.false_ne_true]
 refine wpAny_bind (wpAny_askSetting ?_)
 have fin:wpAny (model B.prog B.w) Ar (again (.compLoop (.ListComp elt gens scope pos) depth (.ref I) acc env)) (fun fin s'=>match fin with | .done f=>R (.ok f) s' | .again c'=>c'.quiet = true /\ codeAny (model B.prog B.w) Ar c' R s')
   (fun e s'=>wpAny (model B.prog B.w) Ar (do noteFrame e env; standAt theWindowsPlace) (fun u_ s''=>R (.error e) s'') (fun e s'=>R (.error e) s') s') s:=wpAny_pure ⟨rfl,h⟩
 split
 ·exact fin
 ·refine wpAny_bind (wpAny_rule ?_)
  have e2:(clausesOf (.ListComp elt gens scope pos))[depth]? = some ⟨t,i,ifs,0⟩:=hg
  rw [e2]
  refine wpAny_bind (wpAny_standAt ?_)
  exact wpAny_bind (a6m hi hw fin)
noncomputable def d5x (B:Base) (lay:List Loc) (P:Addr->Prop) (nl:Nat) (X:Addr->Prop) (A:List (List Addr)) (s:Shared) (acc:Addr) (items:List Value) (st':St) (vs:List V) (r:Result) (s':Shared):Prop:=
 r = .ok .next /\ ∃ A' its k,GoX X lay A A' s s' /\ Ok B lay P nl A' st' s' /\ s'.heap.get? acc = some (a4c (items ++ its).toArray k) /\ RelL (wd lay A' P s'.heap) (nl - 1) its vs
theorem Ok.forget (wr:List Addr) (ok:Ok B lay (fun b=>P b ∨ b ∈ wr) nl A st s) (hw:∀ b ∈ wr,¬ P b) (sp:Stepped wr s s') (hd:∀ b ∈ wr,b ∉ B.frs):Ok B lay P nl A st s':=by
 have hn:∀ b,¬ Avd lay A (fun b=>P b ∨ b ∈ wr) b->b ∉ wr:=fun b h m=>h (.inr (.inr m))
 have ht:∀ b,Tch lay A b->b ∉ wr:=fun b h m=>ok.disP b (.inr m) h
 have ha:∀ b,Avd lay A P b->Avd lay A (fun b=>P b ∨ b ∈ wr) b:=fun b h=>h.imp id .inl
 have le:∀ lv,Wd.Le lv (wd lay A (fun b=>P b ∨ b ∈ wr) s.heap) (wd lay A P s'.heap):=fun lv=>⟨fun b o e h=>.of (sp.keep b o (hn b h) e),fun b u_ u_ h=>ha b h,fun u_ u_ u_ u_ e=>e⟩
 exact {
  base:=fun b o e=>sp.keep b o (hn b (ok.baseM b o e)) (ok.base b o e)
  baseM:=fun b o e h=>ok.baseM b o e (ha b h)
  frs:=fun L m=>let ⟨o,es,ep,h1,h2⟩:=ok.frs L m; ⟨o,es,ep,sp.keep _ _ (fun q=>hd L q m) h1,h2⟩
  len:=ok.len
  slots:=fun i l e=>E6 (le _) (fun q h=>sp.keep _ _ (ht _ (.inl ⟨l,List.mem_of_getElem? e,rfl⟩)) h) (ok.slots i l e)
  sep:=ok.sep
  lenA:=ok.lenA
  dimA:=ok.dimA
  objs:=fun l i o a h1 h2=>E5 (le _) (fun q h=>sp.keep _ _ (ht _ (.inr ⟨l,i,h2⟩)) h) (ok.objs l i o a h1 h2) fun b u_ u_ h=>ha b h
  inj:=ok.inj
  layA:=ok.layA
  disP:=fun b h=>ok.disP b (.inl h)
  alive:=fun b h=>by
   have:b ∉ wr:=by
    rcases h with h | h
    ·exact ht b h
    ·exact fun m=>hw b m h
   obtain ⟨o,e⟩:=ok.alive b (ha b h)
   exact ⟨o,sp.keep b o this e⟩
  rlen:=ok.rlen
  lvl:=ok.lvl }
theorem a4n {it it':It} {x:V} {t:PySem.Expr} (h:it.next st = some (some (x,it'))) (ht:b1n it t):b1n it' t:=by
 cases it with
 | seq vs=>
  cases vs with
  | nil=>cases h
  | cons v vs=>cases h; trivial
 | ref l i p=>
  obtain ⟨_,_,_,e⟩:=a0j h
  subst e; trivial
 | en k it=>
  obtain ⟨_,_,_,_,e⟩:=a4h h
  subst e; exact ht
 | dref l i p n=>
  obtain ⟨_,_,_,_,_,_,e⟩:=a2b h
  subst e; trivial
end
noncomputable def d3o (e:PySem.Expr) (acc:Value) (env:Env):Sem Unit:=do let _ <- call (.builtin "list.append") [acc,<- eval e env]
noncomputable def c2l (e:PySem.Expr) (gens:List Comprehension) (scope:Scope) (pos:Pos) (depth:Nat) (it acc:Value) (env:Env) (ok:Bool):Sem Fin:=
 if ok = true then (match gens[depth + 1]? with
  | some g'=>do
   let x <- eval g'.iter env
   standAt g'.iter.pos
   let x <- if g'.is_async != 0 then foldedIterable g'.iter x else foldedSetIterable g'.iter env x
   let _ <- runOwn (.compStart (.ListComp e gens scope pos) (depth + 1) (<- holding [x] (if g'.is_async != 0 then asyncIter x else pyIter x)) acc env) env
   again (.compLoop (.ListComp e gens scope pos) depth it acc env)
  | none=>do
   d3o e acc env
   again (.compLoop (.ListComp e gens scope pos) depth it acc env))
 else again (.compLoop (.ListComp e gens scope pos) depth it acc env)
theorem a0z {e:PySem.Expr} {gens:List Comprehension} {scope:Scope} {pos:Pos} {depth:Nat} {it acc:Value} {env:Env} {t i:PySem.Expr} {ifs:List PySem.Expr} (hg:gens[depth]? = some ⟨t,i,ifs,0⟩) :
  compTurn (.ListComp e gens scope pos) depth it acc env = (do
   standAt i.pos
   match <- pyNext it with
   | none=>pure (.done .next)
   | some v=>do
    letOwnedTupleGo t it v
    assign t env v
    let ok <- d5w ifs env
    c2l e gens scope pos depth it acc env ok):=by
 unfold compTurn
 dsimp only
 rw [hg]
 rfl
end
section
theorem b1s {α:Type} {xs:List α} {i:Nat} {x:α} {ys:List α} (h:xs.drop i = x :: ys):xs[i]? = some x /\ xs.drop (i + 1) = ys:=P0 h
section
variable {P:Pg}
structure Turn (c:Cf P) (e:PySem.Expr) (elt:ME) (n:Nat) (gens:List Comprehension) (depth:Nat) (p:MPat) (fs:List ME) (cs:List Clause) (t i:PySem.Expr) (ifs:List PySem.Expr) (rest:List Comprehension):Prop where
 he:cmp c.H n c.cx e elt = true
 hd:gens.drop depth = ⟨t,i,ifs,0⟩ :: rest
 hp:a6e (cmp c.H n c.cx) c.cx.res 4 t p = true
 hf:F9 (cmp c.H n c.cx) ifs fs = true
 hc:c3u (cmp c.H n c.cx) c.cx.gl c.cx.res (c9h (cmp c.H n c.cx) c.cx.gl) rest cs = true
noncomputable abbrev Cf.pw (c:Cf P) (wr:List Addr):Cf P:=c.pr fun b=>c.Q b ∨ b ∈ wr
structure TurnS (c:Cf P) (A:List (List Addr)) (st:St) (s:Shared) (I:Addr) (wr:List Addr) (acc:Addr) (items:List Value) (k:Nat) (it:It):Prop where
 ok:(c.pw wr).Ok A st s
 hi:ItRep ((c.pw wr).wd A s.heap) (c.nl - 1) I wr it
 hg:s.heap.get? acc = some (a4c items.toArray k)
noncomputable abbrev Own (wr:List Addr) (acc:Addr) (b:Addr):Prop:=b ∈ wr ∨ b = acc
noncomputable def CS (P:Pg) (p:MPat) (fs:List ME) (cs:List Clause) (elt:ME) (it:It) (st:St) (vs:List V) (st':St):Prop:=
 ∀ (c:Cf P) e n gens scope pos depth t i ifs rest,Turn c e elt n gens depth p fs cs t i ifs rest->b1n it t->∀ A s I wr acc items k,(∀ b ∈ wr,¬ c.Q b)->c.Q acc->TurnS c A st s I wr acc items k it->items.length + vs.length <= lim->
  codeAny (model c.B.prog c.B.w) c.Ar (.compLoop (.ListComp e gens scope pos) depth (.ref I) (.ref acc) c.env) (d5x c.B c.lay c.Q c.nl (Own wr acc) A s acc items st' vs) s
noncomputable def C (P:Pg) (cl:List Clause) (elt:ME) (it:It) (st:St) (vs:List V) (st':St):Prop:=match cl with
 | []=>True
 | .mk p _ fs :: cs=>CS P p fs cs elt it st vs st'
section
variable {c:Cf P} {e:PySem.Expr} {elt:ME} {n:Nat} {gens:List Comprehension} {scope:Scope} {pos:Pos} {depth:Nat} {p:MPat} {fs:List ME} {cs:List Clause} {t i:PySem.Expr} {ifs:List PySem.Expr} {rest:List Comprehension}
 {A:List (List Addr)} {s:Shared} {I:Addr} {wr:List Addr} {acc:Addr} {items:List Value} {k:Nat} {R:Result->Shared->Prop} {st st1 st2:St} {it it':It} {x:V} {b:Bool}
noncomputable def Fin.to (c:Cf P) (R:Result->Shared->Prop) (r:Fin) (s:Shared):Prop:=match r with | .done f=>R (.ok f) s | .again d=>d.quiet = true /\ codeAny (model c.B.prog c.B.w) c.Ar d R s
theorem a6n (tu:Turn c e elt n gens depth p fs cs t i ifs rest)
  (h:∀ F,c.W (pyNext (.ref I)) (fun r s1=>c.W (match r with
   | none=>pure (.done .next)
   | some v=>do
    letOwnedTupleGo t (.ref I) v
    assign t c.env v
    let ok <- d5w ifs c.env
    c2l e gens scope pos depth (.ref I) (.ref acc) c.env ok) (Fin.to c R) F s1) F s) :
  codeAny (model c.B.prog c.B.w) c.Ar (.compLoop (.ListComp e gens scope pos) depth (.ref I) (.ref acc) c.env) R s:=by
 refine codeAny_of_tree ?_
 show wpAny _ c.Ar ((compTurn (.ListComp e gens scope pos) depth (.ref I) (.ref acc) c.env).onRaise (fun x=>do noteFrame x c.env; theTreesLotGoes x)) _ _ s
 refine wpAny_onRaise ?_
 rw [a0z (b1s tu.hd).1]
 exact wpAny_bind (wpAny_standAt (wpAny_bind (wpAny_mono (h _) (fun r s1 h=>by cases r <;> exact h) fun u_ u_ e=>e)))
theorem d3p {P:Pg} {p i ifs cs elt it st} (h0:it.next st = some none):C P (.mk p i ifs :: cs) elt it st [] st:=fun c u_ u_ u_ u_ u_ u_ u_ u_ u_ u_ tu u_ A s I wr acc items k hwP hacc ts u_=>
 a6n tu fun u_=>wpAny_mono (a6l ts.ok c.ao.handled ts.hi h0) (fun _ _ ⟨hr,sp⟩=>hr ▸ wpAny_pure ⟨rfl,A,[],k,⟨fun b o e u_ x=>.of (sp.keep b o (fun q=>x (.inl q)) e),fun b o e x=>⟨o,sp.keep b o (fun q=>x (.inl q)) e⟩,fun u_ u_ u_ e=>e,fun u_ u_ u_ e=>.inl e,sp.rest⟩,
  ts.ok.forget wr hwP sp (fun b m=>ts.ok.notFr (ts.hi.nf b m)),by rw [List.append_nil]; exact sp.keep acc _ (fun m=>hwP acc m hacc) ts.hg,.nil⟩) fun u_ u_ e=>e
theorem d0j {A' s'} (ok:(c.pw wr).Ok A st s) (hacc:c.Q acc) (g:Go c.lay A A' s s') (hg:s.heap.get? acc = some (a4c items.toArray k)):s'.heap.get? acc = some (a4c items.toArray k):=
 (g.keep acc _ hg (ok.disP acc (.inl hacc))).at (G8 rfl)
theorem TurnS.go {A' s' st'} (ts:TurnS c A st s I wr acc items k it) (hacc:c.Q acc) (g:Go c.lay A A' s s') (ok:(c.pw wr).Ok A' st' s'):TurnS c A' st' s' I wr acc items k it:=
 ⟨ok,ts.hi.go ts.ok (fun u_ m=>.inr m) g,d0j ts.ok hacc g ts.hg⟩
theorem a6o (h0:it.next st = some (some (x,it'))) (h1:As P 4 p x st st1) (h2:Ifs P fs st1 b st2) (tu:Turn c e elt n gens depth p fs cs t i ifs rest) (ht:b1n it t) (hwP:∀ b ∈ wr,¬ c.Q b) (hacc:c.Q acc) (ts:TurnS c A st s I wr acc items k it)
  (K:∀ A4 s4 F,GoX (Own wr acc) c.lay A A4 s s4->TurnS c A4 st2 s4 I wr acc items k it'->c.W (c2l e gens scope pos depth (.ref I) (.ref acc) c.env b) (Fin.to c R) F s4) :
  codeAny (model c.B.prog c.B.w) c.Ar (.compLoop (.ListComp e gens scope pos) depth (.ref I) (.ref acc) c.env) R s:=by
 refine a6n tu fun F=>wpAny_mono (a6k (E:=F) ts.ok c.ao.handled (fun u_ m=>.inr m) ts.hi h0 ht) (fun r s1 hpat=>?_) fun u_ u_ e=>e
 obtain ⟨v,hr,hv⟩:=hpat
 subst hr
 refine wpAny_bind (wpAny_mono hv (fun u_ s2 hpat=>?_) fun u_ u_ e=>e)
 obtain ⟨sp,ok2,r2,hi2⟩:=hpat
 have gx2:GoX (Own wr acc) c.lay A A s s2:=⟨fun b o e u_ x=>.of (sp.keep b o (fun q=>x (.inl q)) e),fun b o e x=>⟨o,sp.keep b o (fun q=>x (.inl q)) e⟩,fun u_ u_ u_ e=>e,fun u_ u_ u_ e=>.inl e,sp.rest⟩
 have ts2:TurnS c A st s2 I wr acc items k it':=⟨ok2,hi2,sp.keep acc _ (fun m=>hwP acc m hacc) ts.hg⟩
 refine wpAny_bind (Cf.use (c:=c.pw wr) (h1.2 (c.pw wr) n 4 t tu.hp A s2 _ v ok2 r2) fun u_ s3 A3 g3 ok3 u_=>?_)
 refine wpAny_bind (Cf.go (c:=c.pw wr) (h2 (c.pw wr) n ifs tu.hf) ok3 fun b' s4 A4 g4 ok4 r4=>?_)
 obtain rfl:b' = b:=r4
 exact K A4 s4 F (gx2.trans (g3.trans g4).toX) (ts2.go hacc (g3.trans g4) ok4)
theorem X2 {d:Code} {F} (hq:d.quiet = true) (h:codeAny (model c.B.prog c.B.w) c.Ar d R s):c.W (again d) (Fin.to c R) F s:=wpAny_pure ⟨hq,h⟩
theorem d0k {P:Pg} {p i ifs cs elt it it' v xs st st1 st2 st3} (h0:it.next st = some (some (v,it'))) (h1:As P 4 p v st st1) (h2:Ifs P ifs st1 false st2) (h4:C P (.mk p i ifs :: cs) elt it' st2 xs st3):C P (.mk p i ifs :: cs) elt it st xs st3:=fun c e n gens scope pos depth t u_ u_ rest tu ht A s I wr acc items k hwP hacc ts hz=>
 a6o h0 h1 h2 tu ht hwP hacc ts fun A4 s4 u_ g4 ts4=>by
  unfold c2l
  rw [if_neg Bool.false_ne_true]
  refine X2 rfl (codeAny_mono (h4 c e n gens scope pos depth t _ _ rest tu (a4n h0 ht) A4 s4 I wr acc items k hwP hacc ts4 hz) fun r s8 hpat=>?_)
  obtain ⟨hr,A8,its8,k8,gx8,h8⟩:=hpat
  exact ⟨hr,A8,its8,k8,g4.trans gx8,h8⟩
theorem d8i {P:Pg} {p i ifs elt it it' v x xs st st1 st2 st3 st4} (h0:it.next st = some (some (v,it'))) (h1:As P 4 p v st st1) (h2:Ifs P ifs st1 true st2) (h3:E P elt st2 x st3) (h4:C P [.mk p i ifs] elt it' st3 xs st4):C P [.mk p i ifs] elt it st (x :: xs) st4:=fun c e n gens scope pos depth t u_ u_ rest tu ht A s I wr acc items k hwP hacc ts hz=>
 a6o h0 h1 h2 tu ht hwP hacc ts fun A4 s4 u_ g4 ts4=>by
  have hr:rest = []:=by
   have:=tu.hc
   cases rest with
   | nil=>rfl
   | cons g _=>obtain ⟨_,_,_,_⟩:=g; exact (Bool.false_ne_true this).elim
  subst hr
  unfold c2l d3o
  rw [if_pos rfl,List.getElem?_eq_none (List.drop_eq_nil_iff.mp (b1s tu.hd).2)]
  refine wpAny_bind (wpAny_bind (Cf.go (c:=c.pw wr) (h3.at tu.he) ts4.ok fun v5 s5 A5 g5 ok5 r5=>?_))
  have ts5:=ts4.go hacc g5 ok5
  rw [List.length_cons] at hz
  unfold lim at hz
  refine wpAny_bind (append_at ts5.hg (fun h' hs hg'=>wpAny_pure ?_) (by rw [List.size_toArray,sizeLine_eq]; lia))
  have gx6:GoX (fun b=>b = acc) c.lay A5 A5 s5 { s5 with heap:=h' }:=⟨fun b o e u_ x=>.of ((hs.2 b x).trans e),fun b o e x=>⟨o,(hs.2 b x).trans e⟩,fun u_ u_ u_ e=>e,fun u_ u_ u_ e=>.inl e,rfl,rfl,rfl⟩
  have hq:∀ b,b = acc->(c.pw wr).Q b:=fun b q=>.inl (q ▸ hacc)
  have ok6:=ok5.priv (tk:=s5.toks) (h':=h') [acc] (fun b q=>hq b (List.mem_singleton.mp q)) (fun b o q e=>(hs.2 b (fun x=>q (List.mem_singleton.mpr x))).trans e) (fun b q=>by rw [List.mem_singleton.mp q]; exact ⟨_,hg'⟩) (fun b q=>ok5.notFr fun o e es ep h=>by rw [List.mem_singleton.mp q,ts5.hg] at e; cases e; cases h)
  have ts6:TurnS c A5 st3 { s5 with heap:=h' } I wr acc (items ++ [v5]) (k + 1) it':=⟨ok6,ts5.hi.goX (X:=fun b=>b = acc) ok5 (fun u_ m=>.inr m) hq (fun b q x=>hwP acc (x ▸ q) hacc) gx6,by rw [hg']; simp⟩
  refine X2 rfl (codeAny_mono (h4 c e n gens scope pos depth t _ _ [] tu (a4n h0 ht) A5 _ I wr acc (items ++ [v5]) (k + 1) hwP hacc ts6 (by simp; unfold lim; lia)) fun r s7 hpat=>?_)
  obtain ⟨hr,A7,its,k7,gx7,ok7,hg7,r7⟩:=hpat
  refine ⟨hr,A7,v5 :: its,k7,(g4.trans g5.toX).trans ((gx6.mono fun b q=>.inr q).trans gx7),ok7,by rw [hg7]; simp,.cons ?_ r7⟩
  have hx:∀ b,Own wr acc b->(c.pw wr).Q b:=fun b q=>q.elim .inr (hq b)
  exact (r5.mono (gx6.le hq (c.nl - 1)) (Nat.le_refl _)).mono (gx7.le2 hx (fun b q=>.inl q) (c.nl - 1)) (Nat.le_refl _)
end
end
end
section
theorem F7:∀ (names:List (Str × NameKind)) (cl:List (Str × Addr)) (h:Heap),(names.map (·.1)).Nodup->
  (∀ x,(x,NameKind.cell) ∉ names->(cellsFrom h.objs.size names cl).lookup x = cl.lookup x) /\
  (∀ x,(x,NameKind.cell) ∈ names->∃ c,(cellsFrom h.objs.size names cl).lookup x = some c /\ (pushCells h names).IsCell c none /\ h.objs.size <= c) /\
  (∀ x y c,(x,NameKind.cell) ∈ names->(y,NameKind.cell) ∈ names->(cellsFrom h.objs.size names cl).lookup x = some c->(cellsFrom h.objs.size names cl).lookup y = some c->x = y)
 | [],cl,h,_=>⟨fun u_ u_=>rfl,fun u_ m=>(nomatch m),fun u_ u_ u_ m=>(nomatch m)⟩
 | (n,k) :: r,cl,h,hd=>by
  obtain ⟨hn,hr⟩:=List.nodup_cons.mp hd
  have notin:∀ j,(n,j) ∉ r:=fun j m=>hn (List.mem_map.mpr ⟨_,m,rfl⟩)
  by_cases hk:k = .cell
  ·subst hk
   obtain ⟨i1,i2,i3⟩:=F7 r ((n,h.objs.size) :: cl) (h.push { cls:=.type "cell",data:=.cell none }) hr
   rw [Heap.size_push] at i1 i2 i3
   have e1:cellsFrom h.objs.size ((n,NameKind.cell) :: r) cl = cellsFrom (h.objs.size + 1) r ((n,h.objs.size) :: cl):=by
    rw [cellsFrom]; exact if_pos rfl
   have e2:pushCells h ((n,NameKind.cell) :: r) = pushCells (h.push { cls:=.type "cell",data:=.cell none }) r:=by
    rw [pushCells]; exact if_pos rfl
   rw [e1,e2]
   have hhead:(cellsFrom (h.objs.size + 1) r ((n,h.objs.size) :: cl)).lookup n = some h.objs.size:=by
    rw [i1 n (notin _)]; simp [List.lookup_cons]
   have hcell:(pushCells (h.push { cls:=.type "cell",data:=.cell none }) r).IsCell h.objs.size none:=
    ⟨_,pushCells_keeps r _ _ _ (Heap.get?_push_size _ rfl),rfl⟩
   refine ⟨fun x m=>?_,fun x m=>?_,fun x y c mx my ex ey=>?_⟩
   ·have hne:x ≠ n:=fun q=>m (by rw [q]; exact List.mem_cons_self)
    rw [i1 x fun q=>m (List.mem_cons_of_mem _ q),List.lookup_cons]
    have:(x == n) = false:=by simpa using hne
    rw [this]
   ·rcases List.mem_cons.mp m with q | q
    ·cases q; exact ⟨_,hhead,hcell,Nat.le_refl _⟩
    ·obtain ⟨c,h1,h2,h3⟩:=i2 x q
     exact ⟨c,h1,h2,Nat.le_of_succ_le h3⟩
   ·rcases List.mem_cons.mp mx with q | q <;> rcases List.mem_cons.mp my with q' | q'
    ·cases q; cases q'; rfl
    ·cases q
     rw [hhead] at ex
     obtain ⟨c',h1,_,h3⟩:=i2 y q'
     rw [h1] at ey; cases ex; cases ey; lia
    ·cases q'
     rw [hhead] at ey
     obtain ⟨c',h1,_,h3⟩:=i2 x q
     rw [h1] at ex; cases ex; cases ey; lia
    ·exact i3 x y c q q' ex ey
  ·obtain ⟨i1,i2,i3⟩:=F7 r cl h hr
   have hk':(k == NameKind.cell) = false:=by simpa using hk
   have e1:cellsFrom h.objs.size ((n,k) :: r) cl = cellsFrom h.objs.size r cl:=by rw [cellsFrom]; simp only [hk',Bool.false_eq_true,if_false]
   have e2:pushCells h ((n,k) :: r) = pushCells h r:=by rw [pushCells]; simp only [hk',Bool.false_eq_true,if_false]
   rw [e1,e2]
   have sub:∀ x,(x,NameKind.cell) ∈ (n,k) :: r->(x,NameKind.cell) ∈ r:=fun x m=>by
    rcases List.mem_cons.mp m with q | q
    ·cases q; exact absurd rfl hk
    ·exact q
   exact ⟨fun x m=>i1 x fun q=>m (List.mem_cons_of_mem _ q),fun x m=>i2 x (sub x m),fun x y c mx my=>i3 x y c (sub x mx) (sub y my)⟩
section
variable {M:Model} {Ar:Around} {E:Value->Shared->Prop} {s:Shared} {env:Env}
theorem S5 {scope:Scope} {g:Addr} {cl:List (Str × Addr)} {qual:Str} {Q:Env->Shared->Prop}
  (hQ:Q { scope,locals:=s.heap.objs.size,globals:=g,cells:=cellsFrom (s.heap.objs.size + 1) scope.names cl,qual,func:=none,code:=env.code,frame:=env.frame,builtins:=env.builtins }
   { s with heap:=pushCells (s.heap.push { cls:=.type "dict",data:=.dict #[] }) scope.names }) :
  wpAny M Ar (newFunctionEnv scope g cl [] qual none .none (some env)) Q E s:=by
 simp only [newFunctionEnv,Option.isSome_some,if_true]
 refine wpAny_bind (wpAny_alloc ?_)
 refine wpAny_bind (wpAny_layCells _ (fun name kind cells=>by cases hkc:kind == NameKind.cell <;> simp [hkc]) _ _ _ _ ?_)
 rw [show ({ s with heap:=s.heap.push { cls:=.type "dict",data:=.dict #[] } }:Shared).heap.objs.size = s.heap.objs.size + 1 from Heap.size_push ..]
 refine wpAny_bind ?_
 rw [List.forIn_nil]
 exact wpAny_pure (wpAny_pure hQ)
theorem Q5 (scope:Scope) (h:∀ x ∈ scope.names,x.2 = .free->∃ c,env.cells.lookup x.1 = some c) :
  ∃ cl,closureFor scope env = pure cl /\ (∀ x c,cl.lookup x = some c->env.cells.lookup x = some c) /\ ∀ x,(x,NameKind.free) ∈ scope.names->cl.lookup x = env.cells.lookup x:=by
 have key:∀ (names:List (Str × NameKind)) (acc:List (Str × Addr)),(∀ x ∈ names,x.2 = .free->∃ c,env.cells.lookup x.1 = some c)->
   (∀ x c,acc.lookup x = some c->env.cells.lookup x = some c)->
   ∃ cl,(forIn names acc (fun (x:Str × NameKind) (r:List (Str × Addr))=>if (x.2 == NameKind.free) = true then (do let a <- cellOf env x.1; pure (ForInStep.yield ((x.1,a) :: r)):Sem _) else pure (ForInStep.yield r))) = (pure cl:Sem _) /\
    (∀ x c,cl.lookup x = some c->env.cells.lookup x = some c) /\ (∀ x,(acc.lookup x).isSome ∨ (x,NameKind.free) ∈ names->cl.lookup x = env.cells.lookup x):=by
  intro names
  induction names with
  | nil=>
   intro acc _ ha
   refine ⟨acc,by rw [List.forIn_nil],ha,fun x q=>?_⟩
   rcases q with q | q
   ·obtain ⟨c,hc⟩:=Option.isSome_iff_exists.mp q
    rw [hc,ha x c hc]
   ·cases q
  | cons y r ih=>
   intro acc hn ha
   have hr:∀ x ∈ r,x.2 = .free->∃ c,env.cells.lookup x.1 = some c:=fun x m=>hn x (List.mem_cons_of_mem _ m)
   by_cases hk:(y.2 == NameKind.free) = true
   ·have hk':y.2 = .free:=by simpa using hk
    obtain ⟨c,hc⟩:=hn y List.mem_cons_self hk'
    have ha':∀ x c',((y.1,c) :: acc).lookup x = some c'->env.cells.lookup x = some c':=fun x c' e=>by
     rw [List.lookup_cons] at e
     split at e
     ·rename_i q; cases e; rw [beq_iff_eq.mp q]; exact hc
     ·exact ha x c' e
    obtain ⟨cl,h1,h2,h3⟩:=ih ((y.1,c) :: acc) hr ha'
    refine ⟨cl,?_,h2,fun x q=>?_⟩
    ·rw [List.forIn_cons,if_pos hk]
     have:cellOf env y.1 = (pure c:Sem _):=by unfold cellOf; rw [hc]
     rw [this]
     simp only [pure_bind]
     exact h1
    ·apply h3
     rcases q with q | q
     ·left; rw [List.lookup_cons]; split
      ·rfl
      ·exact q
     ·rcases List.mem_cons.mp q with q | q
      ·left; rw [List.lookup_cons]; rw [<- q]; simp
      ·exact .inr q
   ·obtain ⟨cl,h1,h2,h3⟩:=ih acc hr ha
    refine ⟨cl,?_,h2,fun x q=>?_⟩
    ·rw [List.forIn_cons,if_neg hk]
     simp only [pure_bind]
     exact h1
    ·apply h3
     rcases q with q | q
     ·exact .inl q
     ·rcases List.mem_cons.mp q with q | q
      ·exact absurd (by rw [<- q]; rfl) hk
      ·exact .inr q
 obtain ⟨cl,h1,h2,h3⟩:=key scope.names [] h (fun u_ u_ e=>by simp at e)
 refine ⟨cl,?_,h2,fun x m=>h3 x (.inr m)⟩
 show ((forIn scope.names [] (fun (x:Str × NameKind) (r:List (Str × Addr))=>if (x.2 == NameKind.free) = true then (do let a <- cellOf env x.1; pure (ForInStep.yield ((x.1,a) :: r)):Sem _) else pure (ForInStep.yield r)):Sem _) >>= fun cs=>pure cs) = pure cl
 rw [h1,pure_bind]
end
section
variable {B:Base} {lay lay':List Loc} {P P':Addr->Prop} {nl:Nat} {A A':List (List Addr)} {st:St} {s s':Shared} {E:Value->Shared->Prop}
theorem ItRep.ext {w w':Wd} {lv:Nat} {I:Addr} {wr:List Addr} {it:It} (le:Wd.Le lv w w') (kp:∀ b ∈ wr,∀ o,w.h.get? b = some o->w'.h.get? b = some o) (h:ItRep w lv I wr it):ItRep w' lv I wr it:=by
 cases h with
 | list h1 h2 h3 h4=>exact .list (h1.at (kp _ (.head _))) (fun q=>h2 (le.avoid _ _ h3 q)) ((le.keep _ _ h3 h2).at (G8 rfl)) (h4.mono le (Nat.le_refl _))
 | tuple h1 h2 h3 h4=>exact .tuple (h1.at (kp _ (.head _))) (fun q=>h2 (le.avoid _ _ h3 q)) ((le.keep _ _ h3 h2).at (G8 rfl)) (h4.mono le (Nat.le_refl _))
 | range h1 h2=>exact .range (kp _ (.head _) _ h1) h2
 | ref h1 h2 h3=>exact .ref (h1.at (kp _ (.head _))) h2 (le.same _ _ _ h2 h3)
 | enList h1 h0 h2 h3 h4 h5=>exact .enList (kp _ (.head _) _ h1) h0 (h2.at (kp _ (.tail _ (.head _)))) (fun q=>h3 (le.avoid _ _ h4 q)) ((le.keep _ _ h4 h3).at (G8 rfl)) (h5.mono le (Nat.le_refl _))
 | enRef h1 h0 h2 h3 h4=>exact .enRef (kp _ (.head _) _ h1) h0 (h2.at (kp _ (.tail _ (.head _)))) h3 (le.same _ _ _ h3 h4)
 | enDct h1 h0 h2 h3 h4=>exact .enDct (kp _ (.head _) _ h1) h0 ⟨c4j h2.1 (kp _ (.tail _ (.head _))),h2.2⟩ h3 (le.same _ _ _ h3 h4)
theorem Ok.extend (ok:Ok B lay P nl A st s) (new:List Loc) (h1:∀ l ∈ new,s.heap.get? l.addr = none) {h':Heap} {tk:Nat} (hk:∀ b o,s.heap.get? b = some o->h'.get? b = some o)
  (hs:∀ l ∈ new,match l with | .dict L x=>∃ m,h'.Ns L m /\ m x = none | .cell c=>h'.IsCell c none)
  (hp:∀ (i j:Nat) (l l':Loc),new[i]? = some l->new[j]? = some l'->i ≠ j->l.apart l') :
  Ok B (lay ++ new) P nl A { st with ρ:=st.ρ ++ List.replicate new.length none } { s with heap:=h',toks:=tk } /\
  ∀ lv,Wd.Le lv (wd lay A P s.heap) (wd (lay ++ new) A P h'):=by
 have nw:∀ b o,s.heap.get? b = some o->∀ l ∈ new,l.addr ≠ b:=fun b o e l m q=>by have:=h1 l m; rw [q,e] at this; cases this
 have tc:∀ b,Tch (lay ++ new) A b->Tch lay A b ∨ ∃ l ∈ new,l.addr = b:=fun b h=>by
  rcases h with ⟨l,m,q⟩ | h
  ·rcases List.mem_append.mp m with m | m
   ·exact .inl (.inl ⟨l,m,q⟩)
   ·exact .inr ⟨l,m,q⟩
  ·exact .inl (.inr h)
 have av:∀ b o,s.heap.get? b = some o->Avd (lay ++ new) A P b->Avd lay A P b:=fun b o e h=>by
  rcases h with h | h
  ·rcases tc b h with h | ⟨l,m,q⟩
   ·exact .inl h
   ·exact absurd q (nw b o e l m)
  ·exact .inr h
 have le:∀ lv,Wd.Le lv (wd lay A P s.heap) (wd (lay ++ new) A P h'):=fun lv=>⟨fun b o e u_=>.of (hk b o e),av,fun u_ u_ u_ u_ e=>e⟩
 have hlive:∀ l ∈ new,∃ o,h'.get? l.addr = some o:=fun l m=>by
  have:=hs l m
  cases l with
  | dict L x=>obtain ⟨m,h,_⟩:=this; obtain ⟨o,_,_,e,_⟩:=h; exact ⟨o,e⟩
  | cell c=>obtain ⟨o,e,_⟩:=this; exact ⟨o,e⟩
 refine ⟨?_,le⟩
 exact {
  base:=fun b o e=>hk b o (ok.base b o e)
  baseM:=fun b o e h=>ok.baseM b o e (av b o (ok.base b o e) h)
  frs:=fun L m=>let ⟨o,es,ep,h1,h2⟩:=ok.frs L m; ⟨o,es,ep,hk _ _ h1,h2⟩
  len:=by simp [ok.len]
  slots:=fun i l e=>by
   show P9 _ _ _ ((st.ρ ++ List.replicate new.length none)[i]?).join
   by_cases hi:i < lay.length
   ·rw [List.getElem?_append_left hi] at e
    rw [List.getElem?_append_left (ok.len ▸ hi)]
    exact E6 (le _) (fun q h=>hk _ _ h) (ok.slots i l e)
   ·have hi':=Nat.not_lt.mp hi
    rw [List.getElem?_append_right hi'] at e
    rw [List.getElem?_append_right (ok.len ▸ hi')]
    have hm:=List.mem_of_getElem? e
    have hl:=(List.getElem?_eq_some_iff.mp e).1
    have:((List.replicate new.length (none:Option V))[i - st.ρ.length]?).join = none:=by
     cases q:(List.replicate new.length (none:Option V))[i - st.ρ.length]? with
     | none=>rfl
     | some u=>have:=List.eq_of_mem_replicate (List.mem_of_getElem? q); rw [this]; rfl
    rw [this]
    have:=hs l hm
    cases l with
    | dict L x=>obtain ⟨m,q1,q2⟩:=this; exact ⟨m,q1,q2 ▸ .none⟩
    | cell c=>exact ⟨none,this,.none⟩
  sep:=fun i j l l' e e' hij=>by
   have old_new:∀ (l l':Loc),l ∈ lay->l' ∈ new->l.addr ≠ l'.addr:=fun l l' m m' q=>by
    obtain ⟨o,e⟩:=ok.alive l.addr (.inl (.inl ⟨l,m,rfl⟩))
    exact nw _ o e l' m' q.symm
   have ap:∀ (l l':Loc),l.addr ≠ l'.addr->l.apart l':=fun l l' h=>by
    cases l <;> cases l' <;> first | exact .inl h | exact h
   by_cases hi:i < lay.length <;> by_cases hj:j < lay.length
   ·rw [List.getElem?_append_left hi] at e
    rw [List.getElem?_append_left hj] at e'
    exact ok.sep i j l l' e e' hij
   ·rw [List.getElem?_append_left hi] at e
    rw [List.getElem?_append_right (Nat.not_lt.mp hj)] at e'
    exact ap _ _ (old_new l l' (List.mem_of_getElem? e) (List.mem_of_getElem? e'))
   ·rw [List.getElem?_append_right (Nat.not_lt.mp hi)] at e
    rw [List.getElem?_append_left hj] at e'
    exact ap _ _ (old_new l' l (List.mem_of_getElem? e') (List.mem_of_getElem? e)).symm
   ·rw [List.getElem?_append_right (Nat.not_lt.mp hi)] at e
    rw [List.getElem?_append_right (Nat.not_lt.mp hj)] at e'
    exact hp _ _ l l' e e' (by lia)
  lenA:=ok.lenA
  dimA:=ok.dimA
  objs:=fun l i o a q1 q2=>E5 (le _) (fun q h=>hk _ _ h) (ok.objs l i o a q1 q2) av
  inj:=ok.inj
  layA:=fun l m k i e=>by
   rcases List.mem_append.mp m with m | m
   ·exact ok.layA l m k i e
   ·obtain ⟨o,q⟩:=ok.alive l.addr (.inl (.inr ⟨k,i,e⟩))
    exact nw _ o q l m rfl
  disP:=fun b hb h=>by
   rcases tc b h with h | ⟨l,m,q⟩
   ·exact ok.disP b hb h
   ·obtain ⟨o,e⟩:=ok.alive b (.inr hb)
    exact nw _ o e l m q
  alive:=fun b h=>by
   rcases h with h | h
   ·rcases tc b h with h | ⟨l,m,q⟩
    ·obtain ⟨o,e⟩:=ok.alive b (.inl h); exact ⟨o,hk b o e⟩
    ·exact q ▸ hlive l m
   ·obtain ⟨o,e⟩:=ok.alive b (.inr h); exact ⟨o,hk b o e⟩
  rlen:=ok.rlen
  lvl:=ok.lvl }
theorem Ok.shrink' {new:List Loc} (ok:Ok B (lay ++ new) P nl A st s) {C:Addr} (hC:∃ l ∈ new,l.addr = C) (hl:∀ l ∈ lay,l.addr ≠ C) :
  Ok B lay (fun b=>P b ∨ b ∈ [C]) nl A { st with ρ:=st.ρ.take lay.length } s /\ ∀ lv,Wd.Le lv (wd (lay ++ new) A P s.heap) (wd lay A (fun b=>P b ∨ b ∈ [C]) s.heap):=by
 have tc:∀ b,Tch lay A b->Tch (lay ++ new) A b:=fun b h=>h.imp (fun ⟨l,m,q⟩=>⟨l,List.mem_append_left _ m,q⟩) id
 have tC:Tch (lay ++ new) A C:=let ⟨l,m,q⟩:=hC; .inl ⟨l,List.mem_append_right _ m,q⟩
 have av:∀ b,Avd lay A (fun b=>P b ∨ b ∈ [C]) b->Avd (lay ++ new) A P b:=fun b h=>by
  rcases h with h | h | h
  ·exact .inl (tc b h)
  ·exact .inr h
  ·exact .inl (List.mem_singleton.mp h ▸ tC)
 have lkC:∀ l i,E4 A l i ≠ some C:=fun l i e=>let ⟨l',m,q⟩:=hC; ok.layA l' (List.mem_append_right _ m) l i (q ▸ e)
 have le:∀ lv,Wd.Le lv (wd (lay ++ new) A P s.heap) (wd lay A (fun b=>P b ∨ b ∈ [C]) s.heap):=fun lv=>⟨fun b o e u_=>.of e,fun b u_ u_ h=>av b h,fun u_ u_ u_ u_ e=>e⟩
 refine ⟨?_,le⟩
 exact {
  base:=ok.base
  baseM:=fun b o e h=>ok.baseM b o e (av b h)
  frs:=ok.frs
  len:=by simp [ok.len]
  slots:=fun i l e=>by
   have hi:=(List.getElem?_eq_some_iff.mp e).1
   show P9 _ _ _ ((st.ρ.take lay.length)[i]?).join
   rw [List.getElem?_take_of_lt hi]
   exact E6 (le _) (fun q h=>h) (ok.slots i l (by rw [List.getElem?_append_left hi]; exact e))
  sep:=fun i j l l' e e' hij=>ok.sep i j l l' (by rw [List.getElem?_append_left (List.getElem?_eq_some_iff.mp e).1]; exact e) (by rw [List.getElem?_append_left (List.getElem?_eq_some_iff.mp e').1]; exact e') hij
  lenA:=ok.lenA
  dimA:=ok.dimA
  objs:=fun l i o a q1 q2=>E5 (le _) (fun q h=>h) (ok.objs l i o a q1 q2) fun b u_ u_ h=>av b h
  inj:=ok.inj
  layA:=fun l m=>ok.layA l (List.mem_append_left _ m)
  disP:=fun b hb h=>by
   rcases hb with hb | hb
   ·exact ok.disP b hb (tc b h)
   ·have hb:=List.mem_singleton.mp hb
    subst hb
    rcases h with ⟨l,m,q⟩ | ⟨l,i,q⟩
    ·exact hl l m q
    ·exact lkC l i q
  alive:=fun b h=>ok.alive b (av b h)
  rlen:=ok.rlen
  lvl:=ok.lvl }
theorem Ok.adopt (ok:Ok B lay P' nl A st s) (hP:∀ b,P b->P' b) {a:Addr} (ha:P' a) (hnf:a ∉ B.frs) (hna:¬ P a) {o:AObj} {x:V} {st':St} (h:st.alloc o = some (x,st'))
  (ho:∀ w:Wd,w.h = s.heap->Wd.Le (nl - 1) (wd lay A P' s.heap) w->(∀ b,w.M b->Avd lay A P' b)->L3 w (nl - 1) a o) :
  ∃ A',(∀ l i b,E4 A l i = some b->E4 A' l i = some b) /\ (∀ l i b,E4 A' l i = some b->E4 A l i = some b ∨ b = a) /\ Ok B lay P nl A' st' s /\ Rel (wd lay A' P s.heap) (nl - 1) (.ref a) x:=by
 unfold St.alloc at h
 split at h
 ·rename_i r hr
  cases h
  have hR:=a2e hr
  have hRl:st.R.dropLast.length = nl - 1:=by rw [List.length_dropLast,ok.rlen]
  have hAl:A ≠ []:=fun e=>by
   have:=ok.lenA
   have h2:=ok.rlen
   have h3:=ok.lvl
   rw [e] at this; simp at this; lia
  obtain ⟨as,hA⟩ : ∃ as,A = A.dropLast ++ [as]:=⟨A.getLast hAl,a2e (List.getLast?_eq_some_getLast hAl)⟩
  have hA0:A.dropLast.length = nl - 1:=by rw [List.length_dropLast,ok.lenA,ok.rlen]
  have hlen:as.length = r.length:=by
   have key:∀ i,as[i]? = none ↔ r[i]? = none:=fun i=>by
    have:=ok.dimA (nl - 1) i
    unfold E4 St.obj at this
    rw [hA,hR,<- hA0,List.getElem?_concat_length,hA0,<- hRl,List.getElem?_concat_length] at this
    exact this
   have k1:=key as.length
   have k2:=key r.length
   simp only [List.getElem?_eq_none_iff,Nat.le_refl,true_iff,iff_true] at k1 k2
   exact Nat.le_antisymm k2 k1
  let A':=A.dropLast ++ [as ++ [a]]
  have hlook:∀ l i,E4 A' l i = if l = nl - 1 /\ i = as.length then some a else E4 A l i:=fun l i=>by
   have:=a5p A.dropLast as a l i
   rw [hA0,<- hA] at this
   exact this
  have hobj:∀ l i,St.obj ⟨st.ρ,st.R.dropLast ++ [r ++ [o]]⟩ l i = if l = nl - 1 /\ i = as.length then some o else st.obj l i:=fun l i=>by
   have:=b1a st.ρ st.ρ st.R.dropLast r o l i
   rw [hRl,<- hR,<- hlen] at this
   exact this
  have hnone:E4 A (nl - 1) as.length = none:=by
   unfold E4
   rw [hA,<- hA0,List.getElem?_concat_length]
   exact List.getElem?_eq_none (Nat.le_refl _)
  have hold:∀ l i b,E4 A l i = some b->E4 A' l i = some b:=fun l i b e=>by
   rw [hlook]
   split
   ·rename_i q; rw [q.1,q.2,hnone] at e; cases e
   ·exact e
  have hnew:∀ l i b,E4 A' l i = some b->E4 A l i = some b ∨ b = a:=fun l i b e=>by
   rw [hlook] at e
   split at e
   ·cases e; exact .inr rfl
   ·exact .inl e
  have avd:∀ b,Avd lay A' P b->Avd lay A P' b:=fun b h=>by
   rcases h with (h | ⟨l,i,h⟩) | h
   ·exact .inl (.inl h)
   ·rcases hnew l i b h with h | h
    ·exact .inl (.inr ⟨l,i,h⟩)
    ·exact .inr (h ▸ ha)
   ·exact .inr (hP b h)
  have le:∀ lv,Wd.Le lv (wd lay A P' s.heap) (wd lay A' P s.heap):=fun lv=>⟨fun b o e u_=>.of e,fun b u_ u_ h=>avd b h,fun l i b u_ e=>hold l i b e⟩
  have hnt:=ok.disP a ha
  refine ⟨A',hold,hnew,?_,?_⟩
  ·exact {
    base:=ok.base
    baseM:=fun b q e h=>ok.baseM b q e (avd b h)
    frs:=fun L m=>let ⟨o,es,ep,h1,h2,h3,h4⟩:=ok.frs L m; ⟨o,es,ep,h1,h2,h3,fun l i e=>(hnew l i L e).elim (h4 l i) fun q=>hnf (q ▸ m)⟩
    len:=ok.len
    slots:=fun j lo e=>E6 (le _) (fun q hq=>hq) (ok.slots j lo e)
    sep:=ok.sep
    lenA:=by
     show A'.length = (st.R.dropLast ++ [r ++ [o]]).length
     simp only [A',List.length_append,hA0,hRl,List.length_singleton]
    dimA:=fun l i=>by
     rw [hlook]
     show _ ↔ St.obj ⟨st.ρ,st.R.dropLast ++ [r ++ [o]]⟩ l i = none
     rw [hobj]
     split
     ·simp
     ·exact ok.dimA l i
    objs:=fun l i q b h1 h2=>by
     have h1':St.obj ⟨st.ρ,st.R.dropLast ++ [r ++ [o]]⟩ l i = some q:=h1
     rw [hobj] at h1'
     rw [hlook] at h2
     split at h1'
     ·rename_i y
      rw [if_pos y] at h2
      cases h1'; cases h2
      obtain ⟨rfl,_⟩:=y
      exact ho _ rfl (le _) avd
     ·rename_i y
      rw [if_neg y] at h2
      exact E5 (le _) (fun q hq=>hq) (ok.objs l i q b h1' h2) fun c q e h=>avd c h
    inj:=fun l i l' i' b h1 h2=>by
     rw [hlook] at h1 h2
     split at h1 <;> split at h2
     ·rename_i y y'; exact ⟨y.1.trans y'.1.symm,y.2.trans y'.2.symm⟩
     ·cases h1; exact absurd (.inr ⟨_,_,h2⟩) hnt
     ·cases h2; exact absurd (.inr ⟨_,_,h1⟩) hnt
     ·exact ok.inj l i l' i' b h1 h2
    layA:=fun lo hm k i e=>by
     rcases hnew _ _ _ e with e | e
     ·exact ok.layA lo hm k i e
     ·exact hnt (.inl ⟨lo,hm,e⟩)
    disP:=fun b hp h=>by
     rcases h with h | ⟨l,i,h⟩
     ·exact ok.disP b (hP b hp) (.inl h)
     ·rcases hnew _ _ _ h with h | h
      ·exact ok.disP b (hP b hp) (.inr ⟨l,i,h⟩)
      ·exact hna (h ▸ hp)
    alive:=fun b h=>ok.alive b (avd b h)
    rlen:=by
     show (st.R.dropLast ++ [r ++ [o]]).length = nl
     have:=ok.lvl
     rw [List.length_append,hRl]
     exact Nat.sub_add_cancel this
    lvl:=ok.lvl }
  ·refine .ref (Nat.le_of_eq ?_) ?_
   ·rw [ok.rlen]
   ·show E4 A' _ _ = _
    rw [hlook,if_pos ⟨by rw [ok.rlen],hlen.symm⟩]
 ·cases h
end
end
section
theorem a0a (f:Str->NameKind->NameKind) (x:Str):∀ l:List (Str × NameKind),(l.map fun y=>(y.1,f y.1 y.2)).lookup x = (l.lookup x).map (f x)
 | []=>rfl
 | (n,k) :: r=>by
  simp only [List.map_cons,List.lookup_cons]
  cases h:x == n with
  | true=>rw [beq_iff_eq.mp h]; rfl
  | false=>exact a0a f x r
theorem Y7 (scope:Scope) (env:Env) (x:Str):(relabel scope env).names.lookup x =
  (scope.names.lookup x).map fun k=>if (k == .free && env.scope.kind == .function && env.kindOf x == some .cell) = true then NameKind.cell else k:=by
 rw [<- a0a (fun x k=>if (k == .free && env.scope.kind == .function && env.kindOf x == some .cell) = true then NameKind.cell else k)]
 unfold relabel
 dsimp only
 congr 1
 refine List.map_congr_left fun y u_=>?_
 split <;> rfl
theorem X3 {l:List (Str × NameKind)} (hd:(l.map (·.1)).Nodup) {x:Str} {k:NameKind} (h:(x,k) ∈ l):l.lookup x = some k:=by
 induction l with
 | nil=>cases h
 | cons y r ih=>
  obtain ⟨n,j⟩:=y
  obtain ⟨hn,hr⟩:=List.nodup_cons.mp hd
  rw [List.lookup_cons]
  rcases List.mem_cons.mp h with q | q
  ·cases q; simp
  ·have:x ≠ n:=fun e=>hn (e ▸ List.mem_map.mpr ⟨_,q,rfl⟩)
   have hx':(x == n) = false:=by simpa using this
   rw [hx']; exact ih hr q
theorem a6p {scope:Scope} (hd:(scope.names.map (·.1)).Nodup):(E1 scope).Nodup:=by
 unfold E1
 exact List.Nodup.sublist (List.Sublist.map _ List.filter_sublist) hd
theorem c4n {scope:Scope} {x:Str} {k:NameKind} (h:scope.names.lookup x = some k) (hk:k = .local ∨ k = .cell):x ∈ E1 scope:=by
 unfold E1
 refine List.mem_map.mpr ⟨(x,k),List.mem_filter.mpr ⟨mem_of_lookup h,?_⟩,rfl⟩
 rcases hk with rfl | rfl <;> rfl
theorem a4o {scope:Scope} (hd:(scope.names.map (·.1)).Nodup) {x:Str} (h:x ∈ E1 scope):scope.names.lookup x = some .local ∨ scope.names.lookup x = some .cell:=by
 unfold E1 at h
 obtain ⟨⟨y,k⟩,h1,h2⟩:=List.mem_map.mp h
 obtain ⟨h3,h4⟩:=List.mem_filter.mp h1
 simp only at h2
 subst h2
 have:=X3 hd h3
 simp only [Bool.or_eq_true,beq_iff_eq] at h4
 rcases h4 with q | q <;> rw [q] at this
 ·exact .inl this
 ·exact .inr this
noncomputable def F4 (scope:Scope) (C:Addr) (cs:List (Str × Addr)) (x:Str):Loc:=if scope.names.lookup x = some .cell then .cell ((cs.lookup x).getD 0) else .dict C x
theorem b1t {l:List Str} {x:Str} {i:Nat} (h:l.idxOf? x = some i):l[i]? = some x:=by
 induction l generalizing i with
 | nil=>simp at h
 | cons y r ih=>
  rw [List.idxOf?_cons] at h
  split at h
  ·rename_i q; cases h; simp [(beq_iff_eq.mp q)]
  ·cases e:r.idxOf? x with
   | none=>rw [e] at h; cases h
   | some j=>rw [e] at h; cases h; simpa using ih e
theorem c0b {l:List Str} {x:Str} (h:x ∈ l):∃ i,l.idxOf? x = some i:=by
 cases e:l.idxOf? x with
 | some i=>exact ⟨i,rfl⟩
 | none=>exact absurd h (List.idxOf?_eq_none_iff.mp e)
theorem EnvOk.inner {B:Base} {H:Hn} {cx:CX} {env:Env} {lay:List Loc} (hg:HOk B H) (eo:EnvOk B cx env lay) {scope:Scope} (hk:scope.kind = .function) (hd:(scope.names.map (·.1)).Nodup) (hf:∀ x ∈ scope.names,(x.2 != .free || cx.cel x.1) = true) {C:Addr} {cs:List (Str × Addr)}
  (hcell:∀ x,scope.names.lookup x = some .cell->∃ c,cs.lookup x = some c) (hfree:∀ x,scope.names.lookup x = some .free->cs.lookup x = env.cells.lookup x)
  {cenv:Env} (h1:cenv.scope = relabel scope env) (h2:cenv.locals = C) (h3:cenv.cells = cs) (h4:cenv.globals = env.globals) (h5:cenv.builtins = env.builtins) (h6:cenv.code = env.code) (h7:cenv.qual = env.qual) :
  EnvOk B (I0 cx H.gl scope) cenv (lay ++ (E1 scope).map (F4 scope C cs)):=by
 have kd:∀ x k,scope.names.lookup x = some k->cenv.kindOf x = some (if (k == .free && env.scope.kind == .function && env.kindOf x == some .cell) = true then NameKind.cell else k):=fun x k e=>by
  unfold Env.kindOf
  rw [h1,Y7,e]; rfl
 have fr:∀ x,scope.names.lookup x = some .free->cx.cel x = true:=fun x e=>by
  have:=hf _ (mem_of_lookup e)
  simpa using this
 have frk:∀ x,scope.names.lookup x = some .free->cenv.kindOf x = some .cell ∨ cenv.kindOf x = some .free:=fun x e=>by
  rw [kd x _ e]
  split
  ·exact .inl rfl
  ·exact .inr rfl
 have slot:∀ x i,((E1 scope).idxOf? x).map (cx.n + ·) = some i->(lay ++ (E1 scope).map (F4 scope C cs))[i]? = some (F4 scope C cs x):=fun x i e=>by
  cases q:(E1 scope).idxOf? x with
  | none=>rw [q] at e; cases e
  | some j=>
   rw [q] at e; cases e
   dsimp only
   rw [<- eo.len,List.getElem?_append_right (Nat.le_add_right _ _),Nat.add_sub_cancel_left,List.getElem?_map,b1t q]
   rfl
 exact {
  kind:=by rw [h1]; exact hk
  globals:=h4.trans eo.globals
  builtins:=h5.trans eo.builtins
  len:=by rw [List.length_append,List.length_map,eo.len]; rfl
  var:=fun x i e=>by
   delta I0 at e; dsimp only at e
   cases q:scope.names.lookup x with
   | none=>rw [q] at e; cases e
   | some k=>
    rw [q] at e
    cases k with
    | «local»=>
     have:=slot x i e
     unfold F4 at this
     rw [q,if_neg (by decide)] at this
     exact .inl ⟨kd x _ q,h2 ▸ this⟩
    | cell=>
     have:=slot x i e
     unfold F4 at this
     rw [q,if_pos rfl] at this
     obtain ⟨c,hc⟩:=hcell x q
     rw [hc] at this
     exact .inr ⟨.inl (kd x _ q),c,h3 ▸ hc,this⟩
    | free=>
     dsimp only at e
     obtain ⟨hkk,c,hc⟩:=eo.cell x (fr x q)
     rcases eo.var x i e with ⟨k,_⟩ | ⟨_,c',hc',hl⟩
     ·rcases hkk with hkk | hkk <;> rw [hkk] at k <;> cases k
     ·refine .inr ⟨frk x q,c',by rw [h3,hfree x q]; exact hc',?_⟩
      rw [List.getElem?_append_left (List.getElem?_eq_some_iff.mp hl).1]
      exact hl
    | _=>cases e
  cell:=fun x e=>by
   delta I0 at e; dsimp only at e
   cases q:scope.names.lookup x with
   | none=>rw [q] at e; cases e
   | some k=>
    rw [q] at e
    cases k with
    | cell=>
     obtain ⟨c,hc⟩:=hcell x q
     exact ⟨.inl (kd x _ q),c,h3 ▸ hc⟩
    | free=>
     obtain ⟨_,c,hc⟩:=eo.cell x (fr x q)
     exact ⟨frk x q,c,by rw [h3,hfree x q]; exact hc⟩
    | _=>cases e
  code:=h6.trans eo.code
  qual:=h7.trans eo.qual
  glob:=fun x v e=>by
   delta I0 at e; dsimp only at e
   cases q:scope.names.lookup x with
   | none=>rw [q] at e; cases e
   | some k=>
    rw [q] at e
    cases k with
    | globalImplicit=>exact ⟨kd x _ q,hg x v e⟩
    | _=>cases e
 }
section
variable {scope:Scope} {cs:List (Str × Addr)} {C:Addr} {h:Heap}
theorem a4p {h:Heap} {b:Addr} (k:∀ o,h.get? b = some o->False):h.get? b = none:=by
 cases q:h.get? b with
 | none=>rfl
 | some o=>exact (k o q).elim
theorem d0l (hc:∀ x,scope.names.lookup x = some .cell->∃ c,cs.lookup x = some c /\ h.IsCell c none /\ C + 1 <= c) {l:Loc} (ml:l ∈ (E1 scope).map (F4 scope C cs)):C <= l.addr:=by
 obtain ⟨x,mx,rfl⟩:=List.mem_map.mp ml
 unfold F4
 split
 ·rename_i q
  obtain ⟨c,q1,_,q3⟩:=hc x q
  rw [q1]
  exact Nat.le_of_succ_le q3
 ·exact Nat.le_refl _
theorem c0c (hc:∀ x,scope.names.lookup x = some .cell->∃ c,cs.lookup x = some c /\ h.IsCell c none /\ C + 1 <= c) (hns:h.Ns C fun u_=>none):∀ l ∈ (E1 scope).map (F4 scope C cs),match l with | .dict L x=>∃ m,h.Ns L m /\ m x = none | .cell c=>h.IsCell c none:=fun l ml=>by
 obtain ⟨x,mx,rfl⟩:=List.mem_map.mp ml
 unfold F4
 split
 ·rename_i q
  split at q
  ·cases q
  ·cases q; exact ⟨_,hns,rfl⟩
 ·rename_i q
  split at q
  ·rename_i w
   obtain ⟨c,q1,q2,_⟩:=hc x w
   rw [q1] at q; cases q
   exact q2
  ·cases q
theorem b5b (hc:∀ x,scope.names.lookup x = some .cell->∃ c,cs.lookup x = some c /\ h.IsCell c none /\ C + 1 <= c) (f3:∀ x y c,(x,NameKind.cell) ∈ scope.names->(y,NameKind.cell) ∈ scope.names->cs.lookup x = some c->cs.lookup y = some c->x = y) (own:(E1 scope).Nodup) :
  ∀ (i j:Nat) (l l':Loc),((E1 scope).map (F4 scope C cs))[i]? = some l->((E1 scope).map (F4 scope C cs))[j]? = some l'->i ≠ j->l.apart l':=fun i j l l' e e' hij=>by
 rw [List.getElem?_map] at e e'
 cases q:(E1 scope)[i]? with
 | none=>rw [q] at e; cases e
 | some x=>
  cases q':(E1 scope)[j]? with
  | none=>rw [q'] at e'; cases e'
  | some y=>
   rw [q] at e; rw [q'] at e'; cases e; cases e'
   have hxy:x ≠ y:=fun w=>by
    subst w
    exact hij ((List.getElem?_inj (List.getElem?_eq_some_iff.mp q).1 own).mp (q.trans q'.symm))
   unfold F4
   split <;> split
   ·rename_i w w'
    obtain ⟨c,q1,_,_⟩:=hc x w
    obtain ⟨c',q1',_,_⟩:=hc y w'
    rw [q1,q1']
    exact fun (w2:c = c')=>hxy (f3 x y c (mem_of_lookup w) (mem_of_lookup w') q1 (w2 ▸ q1'))
   ·rename_i w w'
    obtain ⟨c,q1,_,q3⟩:=hc x w
    rw [q1]
    exact fun w=>Nat.lt_irrefl _ (show C < C from w ▸ q3)
   ·rename_i w w'
    obtain ⟨c,q1,_,q3⟩:=hc y w'
    rw [q1]
    exact fun w=>Nat.lt_irrefl _ (show C < C from w ▸ q3)
   ·exact .inr hxy
end
section
variable {P:Pg} {st st1 st2:St}
theorem b5c {mu:Bool} {base k:Nat} {p:MPat} {mi:MI} {fs:List ME} {cls:List Clause} {m:ME} {it:It} {vs:List V} {v:V} {st5 st':St} (hi1:I P mi st it st1) (hbase:st1.ρ.length = base) (h2:C P (.mk p mi fs :: cls) m it { st1 with ρ:=st1.ρ ++ List.replicate k none } vs st5)
  (hf:mkL mu vs { st5 with ρ:=st5.ρ.take base } = some (v,st')):b1k P (.comp mu base k (.mk p mi fs :: cls) m) st v st':=by
 intro c n elt gens scope pos h A s F ok use Q K
 have h:=B1 (cm h).2
 obtain ⟨hk,hcl⟩:=B1 h.1
 obtain ⟨_,hbn,rfl⟩:=C3 hk
 obtain ⟨hcl0,hm⟩:=B1 h.2
 unfold b1d at hcl
 simp only [Bool.and_eq_true,decide_eq_true_eq,List.all_eq_true] at hcl
 obtain ⟨⟨⟨hkind,hnd⟩,hfr⟩,hdot⟩:=hcl
 cases gens with
 | nil=>exact (Bool.false_ne_true hcl0).elim
 | cons g r=>
 obtain ⟨t,i,ifs,as⟩:=g
 obtain ⟨w1,w2⟩:=B1 hcl0
 obtain ⟨has,hen⟩:=B1 w1
 obtain rfl:=C3 has
 obtain ⟨w3,w4⟩:=B1 w2
 obtain ⟨c1,c2⟩:=B1 w3
 obtain ⟨c3,c4⟩:=B1 w4
 obtain ⟨hfold,hit⟩:=hi1.2 c n i c2
 obtain ⟨cl,hclos,hcl1,hcl2⟩:=Q5 (env:=c.env) scope fun x mx hx=>by
  have:=hfr x mx
  rw [hx] at this
  exact (c.eo.cell x.1 (by simpa using this)).2
 refine wpAny_comprehension_free (use:=use) (cl:=cl) (g:=⟨t,i,ifs,0⟩) (gs:=r) rfl hfold hclos hkind (fun x mx hx=>X3 hnd (by rw [<- hx]; exact mx)) ?_
 show wpAny _ _ (eval i c.env) _ _ _
 refine wpAny_mono (hit A s F ok) (fun x s1 h1=>wpAny_mono h1 (fun iv s2 hh2=>?_) fun u_ u_ e=>e) fun u_ u_ e=>e
 obtain ⟨I,wr,A1,rfl,g2,fr2,ok2,hi2⟩:=hh2
 refine wpAny_newObj_type (S5 ?_)
 dsimp only
 generalize ha:s2.heap.objs.size = a
 have hka:∀ b o,s2.heap.get? b = some o->b ≠ a:=fun b o e q=>Nat.lt_irrefl _ (ha ▸ q ▸ Heap.lt_size e)
 have han:s2.heap.get? a = none:=Heap.get?_none_of_le (by lia)
 generalize hH2:s2.heap.push { cls:=.type "list",dict:=none,data:=.seq ([]:List Value).toArray } = H2
 have hk2:∀ b o,s2.heap.get? b = some o->H2.get? b = some o:=fun b o e=>hH2 ▸ Heap.get?_push_of_some _ e
 have hga:H2.get? a = some (a4c ([]:List Value).toArray 0):=by rw [<- hH2,<- ha]; exact Heap.get?_push_size _ rfl
 have hsz2:H2.objs.size = a + 1:=by rw [<- hH2,Heap.size_push,ha]
 generalize hC:H2.objs.size = C
 have hCn:H2.get? C = none:=Heap.get?_none_of_le (by lia)
 obtain ⟨f1,f2,f3⟩:=F7 scope.names cl (H2.push { cls:=.type "dict",data:=.dict #[] }) hnd
 rw [Heap.size_push,hC] at f1 f2 f3
 generalize hcs:cellsFrom (C + 1) scope.names cl = cs at f1 f2 f3
 generalize hH4:pushCells (H2.push { cls:=.type "dict",data:=.dict #[] }) scope.names = H4 at f2
 have hk4:∀ b o,H2.get? b = some o->H4.get? b = some o:=fun b o e=>hH4 ▸ pushCells_keeps _ _ _ _ (Heap.get?_push_of_some _ e)
 have hns:H4.Ns C fun u_=>none:=by
  rw [<- hH4,<- hC]; exact (Heap.Ns.new H2 (.type "dict")).keeps (pushCells_keeps _ _)
 have ok3:=ok2.guard (tk:=s2.toks) [a] (fun b mb=>by rw [List.mem_singleton.mp mb]; exact han) hk2 (fun b mb=>by rw [List.mem_singleton.mp mb]; exact ⟨_,hga⟩)
 have ok3':Ok c.B c.lay (fun b=>(c.Q b ∨ b = a) ∨ b ∈ wr) c.nl A1 st1 { s2 with heap:=H2,toks:=s2.toks }:=ok3.weaken fun b q=>by
  rcases q with (q | q) | q
  ·exact .inl (.inl q)
  ·exact .inr (List.mem_singleton.mpr q)
  ·exact .inl (.inr q)
 have own:=a6p hnd
 have cellAddr:∀ x,scope.names.lookup x = some .cell->∃ c,cs.lookup x = some c /\ H4.IsCell c none /\ C + 1 <= c:=fun x q=>f2 x (mem_of_lookup q)
 have lge:=fun {l}=>d0l (l:=l) cellAddr
 obtain ⟨ok4,le4⟩:=ok3'.extend (h':=H4) (tk:=s2.toks) ((E1 scope).map (F4 scope C cs)) (fun l ml=>Heap.get?_none_of_le (hC ▸ lge ml)) hk4 (c0c cellAddr hns) (b5b cellAddr f3 own)
 have gx24:∀ b o,s2.heap.get? b = some o->H4.get? b = some o:=fun b o e=>hk4 b o (hk2 b o e)
 have fresh2:∀ b,s2.heap.get? b = none->s.heap.get? b = none:=fun b e=>a4p fun o q=>by
  obtain ⟨o',e'⟩:=g2.live b o q; rw [e] at e'; cases e'
 have hIw:∀ b ∈ wr,∃ o,s2.heap.get? b = some o:=fun b mb=>ok2.alive b (.inr (.inr mb))
 have hi4:ItRep (wd (c.lay ++ (E1 scope).map (F4 scope C cs)) A1 (fun b=>(c.Q b ∨ b = a) ∨ b ∈ wr) H4) (c.nl - 1) I wr it:=by
  refine hi2.ext (w:=wd c.lay A1 (fun b=>c.Q b ∨ b ∈ wr) s2.heap) ⟨fun b o e u_=>.of (gx24 b o e),fun b o e q=>?_,fun u_ u_ u_ u_ e=>e⟩ (fun b mb o e=>gx24 b o e)
  have:=(le4 0).avoid b o (hk2 b o e) q
  rcases this with q | (q | q) | q
  ·exact .inl q
  ·exact .inr (.inl q)
  ·exact absurd q (hka b o e)
  ·exact .inr (.inr q)
 have eo':=EnvOk.inner c.wl.hg c.eo (scope:=scope) hkind hnd (fun x mx=>hfr x mx) (C:=C) (cs:=cs) (fun x q=>let ⟨c,q1,_⟩:=cellAddr x q; ⟨c,q1⟩)
  (fun x q=>by
   rw [f1 x (fun w=>by rw [X3 hnd w] at q; cases q)]
   exact hcl2 x (mem_of_lookup q)) (cenv:={ scope:=relabel scope c.env,locals:=C,globals:=c.env.globals,cells:=cs,qual:=c.env.qual,func:=none,code:=c.env.code,frame:=c.env.frame,builtins:=c.env.builtins }) rfl rfl rfl rfl rfl rfl rfl
 refine U6 (w:=wd (c.lay ++ (E1 scope).map (F4 scope C cs)) A1 (fun b=>(c.Q b ∨ b = a) ∨ b ∈ wr) H4) (gens:=⟨t,i,ifs,0⟩ :: r) rfl hi4 rfl ?_
 unfold mkL at hf
 split at hf
 case isFalse=>cases hf
 rename_i hlen
 have hst:({ st1 with ρ:=st1.ρ ++ List.replicate (E1 scope).length none }:St) = { st1 with ρ:=st1.ρ ++ List.replicate ((E1 scope).map (F4 scope C cs)).length none }:=by rw [List.length_map]
 rw [hst] at h2
 have hPa:∀ b ∈ wr,¬ (c.Q b ∨ b = a):=fun b mb q=>by
  obtain ⟨o,e⟩:=hIw b mb
  rcases q with q | q
  ·obtain ⟨o',e'⟩:=ok.alive b (.inr q)
   rw [fr2 b mb] at e'; cases e'
  ·exact hka b o e q
 refine codeAny_mono (h2 ⟨c.B,c.H,I0 c.cx c.H.gl scope,_,_,fun b=>c.Q b ∨ b = a,c.nl,c.Ar,c.wl,eo',c.ao⟩ elt n (⟨t,i,ifs,0⟩ :: r) scope pos 0 t i ifs r ⟨hm,rfl,c1,c3,c4⟩ (c4k hi1.1 hen) A1 _ I wr a [] 0 hPa (.inr rfl) ⟨ok4,hi4,hk4 _ _ hga⟩ (by simpa using hlen)) fun rr s6 h6=>?_
 obtain ⟨rfl,A2,its,k,gx,ok5,hg5,r5⟩:=h6
 have hdotI:∃ j:Nat,(E1 scope)[j]? = some (".0" : Str):=by
  obtain ⟨j,hj⟩:=c0b (c4n hdot (.inl rfl))
  exact ⟨j,b1t hj⟩
 obtain ⟨j,hj⟩:=hdotI
 have hlj:((E1 scope).map (F4 scope C cs))[j]? = some (.dict C (".0" : Str)):=by
  rw [List.getElem?_map,hj]
  show some (F4 scope C cs _) = _
  unfold F4
  rw [hdot,if_neg (by decide)]
 have hlj':(c.lay ++ (E1 scope).map (F4 scope C cs))[c.lay.length + j]? = some (.dict C (".0" : Str)):=by
  rw [List.getElem?_append_right (Nat.le_add_right _ _),Nat.add_sub_cancel_left]; exact hlj
 obtain ⟨mC,hmC,_⟩:=ok5.slots _ _ hlj'
 have hlC:∀ l ∈ c.lay,l.addr ≠ C:=fun l ml q=>by
  obtain ⟨o,e⟩:=ok.alive l.addr (.inl (.inl ⟨l,ml,rfl⟩))
  obtain ⟨o',e'⟩:=g2.live _ o e
  have:=hk2 _ _ e'
  rw [q,hCn] at this; cases this
 obtain ⟨ok6,le6⟩:=ok5.shrink' ⟨_,List.mem_of_getElem? hlj,rfl⟩ hlC
 have hr6:=r5.mono (le6 (c.nl - 1)) (Nat.le_refl _)
 have haC:a ≠ C:=fun q=>Nat.lt_irrefl a (by
  have:a < C:=by rw [<- hC,hsz2]; exact Nat.lt_succ_self a
  rw [<- q] at this; exact this)
 have hnone4:∀ b,H4.get? b = none->s.heap.get? b = none:=fun b e=>fresh2 b (by
  cases q:s2.heap.get? b with
  | none=>rfl
  | some o=>rw [gx24 b o q] at e; cases e)
 have hX:∀ b,(b ∈ wr ∨ b = a)->s.heap.get? b = none:=fun b q=>by
  rcases q with q | q
  ·exact fr2 b q
  ·exact fresh2 b (q ▸ han)
 have hnew:∀ l ∈ (E1 scope).map (F4 scope C cs),s.heap.get? l.addr = none:=fun l ml=>fresh2 _ (a4p fun o q=>by
  have:=hk2 _ _ q
  rw [Heap.get?_none_of_le (hC ▸ lge ml)] at this; cases this)
 have hkeep:∀ b o,s.heap.get? b = some o->¬ Tch c.lay A b->Kp s6.heap b o:=fun b o e nt=>by
  refine (g2.keep b o e nt).then fun o2 e2=>?_
  have e4:=gx24 b o2 e2
  exact gx.keep b o2 e4 (fun q=>by
   rcases q with ⟨l,ml,q⟩ | q
   ·rcases List.mem_append.mp ml with ml | ml
    ·exact nt (.inl ⟨l,ml,q⟩)
    ·have:=hnew l ml; rw [q,e] at this; cases this
   ·exact nt (g2.tch e (.inr q))) (fun q=>by rw [hX b q] at e; cases e)
 have hlive:∀ b o,s.heap.get? b = some o->∃ o',s6.heap.get? b = some o':=fun b o e=>by
  obtain ⟨o2,e2⟩:=g2.live b o e
  exact gx.live b o2 (gx24 b o2 e2) (fun q=>by rw [hX b q] at e; cases e)
 have hsame:∀ l i b,E4 A l i = some b->E4 A2 l i = some b:=fun l i b e=>gx.same l i b (g2.same l i b e)
 have hnw:∀ l i b,E4 A2 l i = some b->E4 A l i = some b ∨ s.heap.get? b = none:=fun l i b e=>by
  rcases gx.new l i b e with q | q | q
  ·exact g2.new l i b q
  ·exact .inr (hnone4 b q)
  ·exact .inr (hX b q)
 have hrest:s6.gens = s.gens /\ ign s6.drawn = ign s.drawn /\ s6.os = s.os:=⟨gx.rest.1.trans g2.rest.1,gx.rest.2.1.trans g2.rest.2.1,gx.rest.2.2.trans g2.rest.2.2⟩
 have hna:¬ c.Q a:=fun q=>by
  obtain ⟨o,e⟩:=ok.alive a (.inr q)
  rw [hX a (.inr rfl)] at e; cases e
 have hbl:c.cx.n = c.lay.length:=c.eo.len.symm
 have hCs:s.heap.get? C = none:=fresh2 C (a4p fun o q=>by rw [hk2 _ _ q] at hCn; cases hCn)
 rw [hbn,hbl] at hf
 have fin:∃ A3,Go c.lay A A3 s s6 /\ Ok c.B c.lay (fun b=>c.Q b ∨ b ∈ [C]) c.nl A3 st' s6 /\ Rel (wd c.lay A3 (fun b=>c.Q b ∨ b ∈ [C]) s6.heap) (c.nl - 1) (.ref a) v:=by
  split at hf
  ·obtain ⟨A3,a1,a2,ok7,r7⟩:=ok6.adopt (P:=fun b=>c.Q b ∨ b ∈ [C]) (fun b q=>q.imp .inl id) (.inl (.inr rfl)) (ok6.notFr fun o e es ep w=>by rw [hg5] at e; cases e; cases w) (fun q=>q.elim hna fun q=>haC (List.mem_singleton.mp q)) hf fun w hw le u_=>⟨its,k,by rw [hw]; exact hg5,hr6.mono le (Nat.le_refl _)⟩
   refine ⟨A3,⟨hkeep,hlive,fun l i b e=>a1 l i b (hsame l i b e),fun l i b e=>?_,hrest⟩,ok7,r7⟩
   rcases a2 l i b e with q | q
   ·exact hnw l i b q
   ·exact .inr (by rw [q]; exact hX a (.inr rfl))
  ·cases hf
   refine ⟨A2,⟨hkeep,hlive,hsame,hnw,hrest⟩,ok6.weaken fun b q=>q.imp .inl id,.lst (fun q=>?_) hg5 (hr6.mono (show Wd.Le (c.nl - 1) (wd c.lay A2 (fun b=>(c.Q b ∨ b = a) ∨ b ∈ [C]) s6.heap) (wd c.lay A2 (fun b=>c.Q b ∨ b ∈ [C]) s6.heap) from ⟨fun u_ u_ e u_=>.of e,fun b _ _ (q:Avd c.lay A2 (fun b=>c.Q b ∨ b ∈ [C]) b)=>q.imp id fun q=>q.imp .inl id,fun u_ u_ u_ u_ e=>e⟩) (Nat.le_refl _))⟩
   rcases q with q | q | q
   ·exact ok6.disP a (.inl (.inr rfl)) q
   ·exact hna q
   ·exact haC (List.mem_singleton.mp q)
 obtain ⟨A3,g3,ok7,r7⟩:=fin
 have:=K a C A3 s6 g3 ok7 r7 hCs ⟨mC,hmC⟩
 cases use with
 | none=>exact ⟨mC,hmC,this⟩
 | some u=>exact this
theorem a6q {c:Cf P} {A A6 s s6 C} (ok:c.Ok A st s) (g:Go c.lay A A6 s s6) (ok6:(c.pr fun b=>c.Q b ∨ b ∈ [C]).Ok A6 st1 s6) (hC:s.heap.get? C = none) {h':Heap} (hs:Heap.SameBut C s6.heap h') :
  Go c.lay A A6 s { s6 with heap:=h' } /\ c.Ok A6 st1 { s6 with heap:=h' } /\ ∀ lv,Wd.Le lv ((c.pr fun b=>c.Q b ∨ b ∈ [C]).wd A6 s6.heap) (c.wd A6 h'):=by
 have hnC:∀ b ∈ [C],¬ c.Q b:=fun b q w=>by
  rw [List.mem_singleton.mp q] at w
  obtain ⟨o,e⟩:=ok.alive C (.inr w)
  rw [hC] at e; cases e
 have kp:∀ b o,b ≠ C->s6.heap.get? b = some o->h'.get? b = some o:=fun b o q e=>(hs.2 b q).trans e
 have ne:∀ b o,s.heap.get? b = some o->b ≠ C:=fun b o e q=>by rw [q,hC] at e; cases e
 refine ⟨⟨fun b o e nt=>(g.keep b o e nt).then fun o' e'=>.of (kp b o' (ne b o e) e'),fun b o e=>let ⟨o',e'⟩:=g.live b o e; ⟨o',kp b o' (ne b o e) e'⟩,g.same,g.new,g.rest⟩,
  Ok.forget (s':={ s6 with heap:=h' }) [C] ok6 hnC ⟨fun b o q e=>kp b o (fun w=>q (List.mem_singleton.mpr w)) e,rfl,rfl,rfl⟩ (fun b q=>ok.newFr (List.mem_singleton.mp q ▸ hC)),
  fun u_=>⟨fun b o e q=>.of (kp b o (fun w=>q (.inr (.inr (List.mem_singleton.mpr w)))) e),fun b u_ u_ q=>q.imp id .inl,fun u_ u_ u_ u_ e=>e⟩⟩
theorem c4o {mu base n p i ifs cs elt it vs v st'} (h1:I P i st it st1) (hb:st1.ρ.length = base) (h2:C P (.mk p i ifs :: cs) elt it { st1 with ρ:=st1.ρ ++ List.replicate n none } vs st2) (h3:mkL mu vs { st2 with ρ:=st2.ρ.take base } = some (v,st')) :
  E P (.comp mu base n (.mk p i ifs :: cs) elt) st v st':=
 have u:=b5c h1 hb h2 h3
 ⟨.inr u,fun c u_ u_ h A s F ok=>b9v (R:=fun e=>a2i c.H (cmp c.H _) c.cx (B5 e) _ = true->c.W (eval e c.env) (c.Po A s st' v RV) F s) h (fun u_ u_ u_ u_ u_ u_ u_ u_ u_ u_ h=>by
  rw [eval_ListComp]
  refine u c _ _ _ _ _ h A s F ok none _ fun a C A6 s6 g ok6 r6 hC u_ h' hs=>?_
  obtain ⟨g7,ok7,le⟩:=a6q ok g ok6 hC hs
  exact ⟨A6,g7,ok7,r6.mono (le _) (Nat.le_refl _)⟩) h⟩
end
end
section
noncomputable def d5d (Ar:Around) (env:Env):Prop:=∃ l,Ar.frames = some (env :: l)
section
variable {B:Base} {lay:List Loc} {P:Addr->Prop} {nl:Nat} {Ar:Around} {A:List (List Addr)} {st:St} {s:Shared} {E:Value->Shared->Prop}
end
theorem M7 (o i:PySem.Expr) (spos:Pos) (op:Operator) (value:PySem.Expr) (pos:Pos) (hi:N0 i = true):exec (.AugAssign (.Subscript o i spos) op value pos) env = (do
  standAt pos
  let ov <- eval o env
  let iv <- holding [ov] (eval i env)
  let new <- holding [ov,iv] do
   standAt spos
   let old <- getItem ov iv
   let v <- holding [old] (eval value env)
   standAt pos
   operate [old,v] (inplaceOp op old v)
  standAt spos
  holding [new,ov,iv] (setItem ov iv new)
  release [new,ov,iv] []
  pure .next):=by
 have e:exec (.AugAssign (.Subscript o i spos) op value pos) env = (do
  standAt pos
  let ov <- eval o env
  let iv <- holding [ov] (eval i env)
  let new <- holding [ov,iv] do
   standAt spos
   let old <- getItem ov iv
   let v <- holding [old] (eval value env)
   standAt pos
   operate [old,v] (inplaceOp op old v)
  standAt spos
  augStore i ov iv new):=rfl
 rw [e]
 cases i <;> first | rfl | cases hi
theorem a4q {v:PySem.Expr} (h:(B5 v).tag ≠ 10) (h0:(B5 v).tag ≠ 0) (t:Option PySem.Expr) (l:Nat) (env:Env):swapsWith v t l env = pure false:=by
 cases v with
 | ListComp _ _ _ _=>exact absurd rfl h
 | SetComp _ _ _ _=>exact absurd rfl h0
 | DictComp _ _ _ _ _=>exact absurd rfl h0
 | _=>rfl
theorem quiet {P:Pg} (c:Cf P):interactive c.env = false:=by
 unfold interactive
 rw [c.eo.kind]; rfl
section
variable {P:Pg}
noncomputable def LPost (c:Cf P) (X:Addr->Prop) (A:List (List Addr)) (s:Shared) (st':St) (fl:Fl) (r:Result) (s':Shared):Prop:=
 ∃ f,r = .ok f /\ ∃ A',GoX X c.lay A A' s s' /\ c.Ok A' st' s' /\ RelF (c.wd A' s'.heap) (c.nl - 1) f fl
theorem LPost.lift {c:Cf P} {X:Addr->Prop} {A A1 s s1 st' fl r s'} (g:GoX X c.lay A A1 s s1) (h:LPost c X A1 s1 st' fl r s'):LPost c X A s st' fl r s':=
 let ⟨f,hr,A',g',h⟩:=h
 ⟨f,hr,A',g.trans g',h⟩
noncomputable def d3q:MS->Bool
 | .whilGo _ _ _=>false
 | .forGo _ _ _ _=>false
 | _=>true
noncomputable def X1 (P:Pg) (m:MS) (st:St) (fl:Fl) (st':St):Prop:=d3q m = true /\ ∀ (c:Cf P) n d s,d5d c.Ar c.env->a0w c.H n d c.cx s m = true->c.Tri (exec s c.env) st fl st' RelF
noncomputable def XS (P:Pg) (ms:List MS) (st:St) (fl:Fl) (st':St):Prop:=∀ (c:Cf P) n d ss,d5d c.Ar c.env->F9 (a0w c.H n d c.cx) ss ms = true->c.Tri (execs ss c.env) st fl st' RelF
noncomputable def XW (P:Pg) (t:ME) (b o:List MS) (st:St) (fl:Fl) (st':St):Prop:=∀ (c:Cf P) n d t' b' o',d5d c.Ar c.env->cmp c.H n c.cx t' t = true->F9 (a0w c.H n d c.cx) b' b = true->F9 (a0w c.H n d c.cx) o' o = true->∀ A s,c.Ok A st s->
 codeAny (model c.B.prog c.B.w) c.Ar (.whileLoop t' b' o' c.env) (LPost c (fun u_=>False) A s st' fl) s
noncomputable def XF (P:Pg) (p:MPat) (it:It) (b o:List MS) (st:St) (fl:Fl) (st':St):Prop:=∀ (c:Cf P) n d t b' o',d5d c.Ar c.env->a6e (cmp c.H n c.cx) c.cx.res 4 t p = true->F9 (a0w c.H n d c.cx) b' b = true->F9 (a0w c.H n d c.cx) o' o = true->b1n it t->
 ∀ A s I wr,(c.pw wr).Ok A st s->(∀ b ∈ wr,¬ c.Q b)->ItRep ((c.pw wr).wd A s.heap) (c.nl - 1) I wr it->codeAny (model c.B.prog c.B.w) c.Ar (.forLoop t (.ref I) b' o' c.env) (LPost c (fun b=>b ∈ wr) A s st' fl) s
noncomputable def X (P:Pg) (ms:List MS) (st:St) (fl:Fl) (st':St):Prop:=match ms with
 | .whilGo t b o :: _=>XW P t b o st fl st'
 | .forGo p it b o :: _=>XF P p it b o st fl st'
 | ms=>XS P ms st fl st'
theorem X.of {m ms st fl st'} (hm:d3q m = true) (h:XS P (m :: ms) st fl st'):X P (m :: ms) st fl st':=by
 cases m <;> first | exact h | exact (Bool.false_ne_true hm).elim
theorem X.at {ms st fl st'} (h:X P ms st fl st'):XS P ms st fl st':=by
 have no:∀ {m ms},(∀ {H n d cx s},a0w H n d cx s m = true->False)->XS P (m :: ms) st fl st':=fun {m ms} k c n d ss _ h=>by
  cases ss with
  | nil=>exact (Bool.false_ne_true h).elim
  | cons _ _=>exact (k (B1 h).1).elim
 match ms,h with
 | [],h=>exact h
 | m :: ms,h=>
  cases m with
  | whilGo _ _ _=>exact no fun h=>I1 (R:=fun u_=>False) h fun u_ u_ h=>Bool.false_ne_true h
  | forGo _ _ _ _=>exact no fun h=>I1 (R:=fun u_=>False) h fun u_ u_ h=>Bool.false_ne_true h
  | _=>exact h
variable {st st1 st2 st3 st4:St}
theorem J0:X P [] st .next st:=fun u_ u_ u_ u_ u_ h u_ u_ u_ ok=>by
 cases D5 h
 exact wpAny_execs_nil (.pure ok .next)
theorem C0 {m ms fl} (h1:X1 P m st .next st1) (h2:X P ms st1 fl st2):X P (m :: ms) st fl st2:=.of h1.1 fun c n d u_ hd h u_ u_ u_ ok=>by
 obtain ⟨s,ss,rfl,h,k⟩:=C2 h
 refine wpAny_execs_cons (Cf.go (h1.2 c n d s hd h) ok fun f s1 A1 g1 ok1 r1=>?_)
 cases r1
 exact Cf.end g1 (h2.at c n d ss hd k _ _ _ ok1)
theorem a8k {m ms v} (h1:X1 P m st (.ret v) st1):X P (m :: ms) st (.ret v) st1:=.of h1.1 fun c n d u_ hd h u_ u_ u_ ok=>by
 obtain ⟨s,ss,rfl,h,k⟩:=C2 h
 refine wpAny_execs_cons (Cf.go (h1.2 c n d s hd h) ok fun f s1 A1 g1 ok1 r1=>?_)
 cases r1
 exact ⟨A1,g1,ok1,.ret ‹_›⟩
theorem c4p {m ms} (h1:X1 P m st .brk st1):X P (m :: ms) st .brk st1:=.of h1.1 fun c n d u_ hd h u_ u_ u_ ok=>by
 obtain ⟨s,ss,rfl,h,k⟩:=C2 h
 refine wpAny_execs_cons (Cf.go (h1.2 c n d s hd h) ok fun f s1 A1 g1 ok1 r1=>?_)
 cases r1
 exact ⟨A1,g1,ok1,.brk⟩
theorem G3 {m fl} (h:X1 P m st fl st1):X P [m] st fl st1:=by
 cases fl with
 | next=>exact C0 h J0
 | brk=>exact c4p h
 | ret v=>exact a8k h
theorem D0 {e v} (h1:E P e st v st1):X1 P (.expr e) st .next st1:=⟨rfl,fun c u_ u_ u_ u_ h u_ u_ u_ ok=>b4s h fun u_ u_ hn h=>
 wpAny_Expr_any (Cf.go (h1.at h) ok fun u_ u_ A1 g1 ok1 u_=>⟨A1,g1,ok1,.next⟩) (quiet c) (a4q hn (Q1 h) _ _ _)⟩
theorem E2 {e v} (h1:E P e st v st1):X1 P (.ret e) st (.ret v) st1:=⟨rfl,fun u_ u_ u_ u_ u_ h u_ u_ u_ ok=>b9w h fun u_ u_ h=>
 wpAny_Return_some (Cf.go (h1.at h) ok fun u_ u_ A1 g1 ok1 r1=>⟨A1,g1,ok1,.ret r1⟩)⟩
theorem d0m:X1 P .brk st .brk st:=⟨rfl,fun u_ u_ u_ u_ u_ h u_ u_ u_ ok=>b9y h fun p=>wpAny_bind (m:=standAt p) (wpAny_standAt (wpAny_pure (.pure ok .brk)))⟩
theorem b7h {t a b fl} (h1:T P 8 t st true st1) (h2:X P a st1 fl st2):X1 P (.ite t a b) st fl st2:=⟨rfl,fun c n u_ u_ hd h u_ u_ u_ ok=>b1j h fun d u_ u_ u_ u_ ht ha u_=>
 wpAny_If (Cf.go (h1.at ht) ok fun u_ u_ u_ g1 ok1 r1=>d7r r1 (Cf.end g1 (h2.at c n d _ hd ha _ _ _ ok1)))⟩
theorem L7 {t a b fl} (h1:T P 8 t st false st1) (h2:X P b st1 fl st2):X1 P (.ite t a b) st fl st2:=⟨rfl,fun c n u_ u_ hd h u_ u_ u_ ok=>b1j h fun d u_ u_ u_ u_ ht u_ hb=>
 wpAny_If (Cf.go (h1.at ht) ok fun u_ u_ u_ g1 ok1 r1=>d5u r1 (Cf.end g1 (h2.at c n d _ hd hb _ _ _ ok1)))⟩
theorem b7i {i op e old v new} (h0:st.ρ[i]? = some (some old)) (h1:E P e st v st1) (h2:c9e st1 op old v = some (new,st2)) (_:i < st2.ρ.length):X1 P (.augS i op e) st .next { st2 with ρ:=st2.ρ.set i (some new) }:=⟨rfl,fun c n u_ u_ u_ h A s F ok=>b4t h fun t v' p ht hv=>by
 obtain ⟨ht,hr⟩:=B1 ht
 rw [<- (L0 (C3 ht)).symm.trans (D6 t)]
 exact wpAny_AugAssign_Name (c4c ok hr h0 (a0h fun u_ u_ q=>by rw [q] at h2; cases h2) fun u hu=>Cf.go (h1.at hv) ok fun u_ u_ u_ g1 ok1 r1=>Cf.use (a2h ok1 (Cf.Rel.go hu g1) r1 h2) fun u_ u_ u_ g2 ok2 r2=>
  Cf.use (Q4 ok2 (C3 (B1 hr).2) r2) fun u_ u_ A3 g3 ok3 u_=>⟨A3,(g1.trans g2).trans g3,ok3,.next⟩)⟩
theorem c4q {o i op e ov iv old v new st5} (h1:E P o st ov st1) (h2:E P i st1 iv st2) (h3:c9c st2 ov iv = some old) (h4:E P e st2 v st3) (h5:c9e st3 op old v = some (new,st4)) (h6:a4g st4 ov iv new = some st5):X1 P (.augI o i op e) st .next st5:=⟨rfl,fun c n u_ u_ u_ h A s F ok=>b4u h fun o' i' v' p q hp ho hi hv=>by
 rw [M7 o' i' _ op v' _ hp]
 refine wpAny_bind (wpAny_standAt (wpAny_bind (Cf.go (h1.at ho) ok fun ova s1 A1 g1 ok1 r1=>wpAny_bind (wpAny_holding (Cf.go (h2.at hi) ok1 fun iva s2 A2 g2 ok2 r2=>?_)))))
 have r1':=Cf.Rel.go r1 g2
 refine wpAny_bind (wpAny_holding (wpAny_bind (wpAny_standAt (wpAny_bind (Cf.use (Q0 ok2 r1' r2 h3) fun olda s3 A3 g3 ok3 r3=>wpAny_bind (wpAny_holding (Cf.go (h4.at hv) ok3 fun va s4 A4 g4 ok4 r4=>?_)))))))
 refine wpAny_bind (wpAny_standAt (wpAny_operateT (Cf.use (a2h ok4 (Cf.Rel.go r3 g4) r4 h5) fun newa s5 A5 g5 ok5 r5=>?_)))
 have g25:=(g3.trans g4).trans g5
 refine wpAny_bind (wpAny_standAt (wpAny_bind (wpAny_holding (Cf.use (Y6 ok5 (Cf.Rel.go r1' g25) (Cf.Rel.go r2 g25) r5 h6) fun u_ s6 A6 g6 ok6 u_=>?_))))
 exact wpAny_bind (wpAny_release (wpAny_pure ⟨A6,((g1.trans g2).trans g25).trans g6,ok6,.next⟩))⟩
noncomputable def c4r (t:PySem.Expr) (b o:List Stmt) (env:Env) (v:Bool):Sem Fin:=if v = true then (do
  match <- execs b env with
  | .next | .cont=>again (.whileLoop t b o env)
  | .brk=>pure (.done .next)
  | .ret v=>pure (.done (.ret v)))
 else do return .done (<- execs o env)
section
variable {c:Cf P} {n d:Nat} {A:List (List Addr)} {s:Shared} {R:Result->Shared->Prop} {t':PySem.Expr} {b' o':List Stmt} {fl:Fl} {v:V}
theorem a2m (h:∀ F,c.W (isTrue t' c.env (eval t' c.env)) (fun v s1=>c.W (c4r t' b' o' c.env v) (Fin.to c R) F s1) F s):codeAny (model c.B.prog c.B.w) c.Ar (.whileLoop t' b' o' c.env) R s:=by
 refine codeAny_of_tree ?_
 show wpAny _ c.Ar ((isTrue t' c.env (eval t' c.env) >>= c4r t' b' o' c.env).onRaise (fun x=>do noteFrame x c.env; theTreesLotGoes x)) _ _ s
 exact wpAny_onRaise (wpAny_bind (wpAny_mono (h _) (fun u_ u_ h=>wpAny_mono h (fun r s1 h=>by cases r <;> exact h) fun u_ u_ e=>e) fun u_ u_ e=>e))
end
theorem a6r {t b o fl} (h:X P [.whilGo t b o] st fl st1):X1 P (.whil t b o) st fl st1:=⟨rfl,fun c n u_ u_ hd hc A s u_ ok=>b4v hc fun d t' b' o' u_ ht hb ho=>
 wpAny_While (codeAny_mono (h c n d t' b' o' hd ht hb ho A s ok) fun r s1 ⟨f,hr,A1,g,ok1,r1⟩=>hr ▸ ⟨A1,g.toGo fun u_ h=>h.elim,ok1,r1⟩)⟩
theorem d9b {t b o fl} (h1:T P 8 t st true st1) (h2:X P b st1 .next st2) (h3:X P [.whilGo t b o] st2 fl st3):X P [.whilGo t b o] st fl st3:=fun c n d t' b' o' hd ht hb ho A s ok=>a2m fun F=>Cf.go (h1.at ht) ok fun v s1 A1 g1 ok1 r1=>by
 cases r1
 refine wpAny_bind (Cf.go (h2.at c n d b' hd hb) ok1 fun f s2 A2 g2 ok2 r2=>?_)
 cases r2
 exact X2 rfl (codeAny_mono (h3 c n d t' b' o' hd ht hb ho A2 s2 ok2) fun u_ u_ q=>q.lift (g1.trans g2).toX)
theorem d5y {t b o fl} (h1:T P 8 t st false st1) (h2:X P o st1 fl st2):X P [.whilGo t b o] st fl st2:=fun c n d t' b' o' hd ht hb ho A s ok=>a2m fun F=>Cf.go (h1.at ht) ok fun v s1 A1 g1 ok1 r1=>by
 cases r1
 exact wpAny_bind (Cf.go (h2.at c n d o' hd ho) ok1 fun f s2 A2 g2 ok2 r2=>wpAny_pure ⟨f,rfl,A2,(g1.trans g2).toX,ok2,r2⟩)
end
end
section
noncomputable def d8j (t:PySem.Expr) (it:Value) (b o:List Stmt) (env:Env):Sem Fin:=do
 match <- execs b env with
 | .next | .cont=>again (.forLoop t it b o env)
 | .brk=>pure (.done .next)
 | .ret v=>pure (.done (.ret v))
noncomputable def d8k (t:PySem.Expr) (it:Value) (b o:List Stmt) (env:Env):Option Value->Sem Fin
 | none=>again (.block o env)
 | some v=>do
  letOwnedTupleGo t it v
  assign t env v
  d8j t it b o env
theorem Stepped.toX {lay A wr s s'} (sp:Stepped wr s s'):GoX (fun b=>b ∈ wr) lay A A s s':=⟨fun b o e u_ x=>.of (sp.keep b o x e),fun b o e x=>⟨o,sp.keep b o x e⟩,fun u_ u_ u_ e=>e,fun u_ u_ u_ e=>.inl e,sp.rest⟩
section
variable {P:Pg} {c:Cf P} {n d:Nat} {A:List (List Addr)} {s:Shared} {R:Result->Shared->Prop} {t':PySem.Expr} {b' o':List Stmt} {I:Addr} {wr:List Addr} {st st1 st2 st3:St} {it it':It} {p:MPat} {b o:List MS} {v:V} {fl:Fl}
theorem b1u (h:∀ F,c.W (pyNext (.ref I)) (fun r s1=>c.W (d8k t' (.ref I) b' o' c.env r) (Fin.to c R) F s1) F s):codeAny (model c.B.prog c.B.w) c.Ar (.forLoop t' (.ref I) b' o' c.env) R s:=by
 refine codeAny_of_tree ?_
 show wpAny _ c.Ar ((do
  standAt t'.pos
  let r <- (pyNext (.ref I)).onRaise (fun u_=>standAt { t'.pos with line:=0 })
  d8k t' (.ref I) b' o' c.env r).onRaise (fun x=>do noteFrame x c.env; theTreesLotGoes x)) _ _ s
 exact wpAny_onRaise (wpAny_bind (wpAny_standAt (wpAny_bind (wpAny_onRaise (wpAny_mono (h _) (fun u_ u_ h=>wpAny_mono h (fun r s1 h=>by cases r <;> exact h) fun u_ u_ e=>e) fun u_ u_ e=>wpAny_standAt e)))))
theorem c4s (h0:it.next st = some (some (v,it'))) (h1:As P 4 p v st st1) (hp:a6e (cmp c.H n c.cx) c.cx.res 4 t' p = true) (ht:b1n it t') (ok:(c.pw wr).Ok A st s) (hi:ItRep ((c.pw wr).wd A s.heap) (c.nl - 1) I wr it)
  (K:∀ A3 s3 F,GoX (fun b=>b ∈ wr) c.lay A A3 s s3->(c.pw wr).Ok A3 st1 s3->ItRep ((c.pw wr).wd A3 s3.heap) (c.nl - 1) I wr it'->c.W (d8j t' (.ref I) b' o' c.env) (Fin.to c R) F s3) :
  codeAny (model c.B.prog c.B.w) c.Ar (.forLoop t' (.ref I) b' o' c.env) R s:=
 b1u fun F=>wpAny_mono (a6k (E:=F) ok c.ao.handled (fun u_ m=>.inr m) hi h0 ht) (fun r s1 ⟨v,hr,hv⟩=>by
  subst hr
  exact wpAny_bind (wpAny_mono hv (fun _ s2 ⟨sp,ok2,r2,hi2⟩=>wpAny_bind (Cf.use (c:=c.pw wr) (h1.2 (c.pw wr) n 4 t' hp A s2 _ _ ok2 r2) fun u_ s3 A3 g3 ok3 u_=>K A3 s3 F (sp.toX.trans g3.toX) ok3 (hi2.go ok2 (fun u_ m=>.inr m) g3))) fun u_ u_ e=>e)) fun u_ u_ e=>e
theorem d5e {fl} (h0:it.next st = some (some (v,it'))) (h1:As P 4 p v st st1) (h2:X P b st1 .next st2) (h3:X P [.forGo p it' b o] st2 fl st3):X P [.forGo p it b o] st fl st3:=fun c n d t' b' o' hd hp hb ho ht A s I wr ok hw hi=>
 c4s h0 h1 hp ht ok hi fun A3 s3 F g3 ok3 hi3=>by
  refine wpAny_bind (Cf.go (c:=c.pw wr) (h2.at (c.pw wr) n d b' hd hb) ok3 fun f s4 A4 g4 ok4 r4=>?_)
  cases r4
  exact X2 rfl (codeAny_mono (h3 c n d t' b' o' hd hp hb ho (a4n h0 ht) A4 s4 I wr ok4 hw (hi3.go ok3 (fun u_ m=>.inr m) g4)) fun u_ u_ q=>q.lift (g3.trans g4.toX))
theorem d5z (h0:it.next st = some (some (v,it'))) (h1:As P 4 p v st st1) (h2:X P b st1 .brk st2):X P [.forGo p it b o] st .next st2:=fun c n d t' b' o' hd hp hb ho ht A s I wr ok hw hi=>
 c4s h0 h1 hp ht ok hi fun A3 s3 F g3 ok3 hi3=>by
  refine wpAny_bind (Cf.go (c:=c.pw wr) (h2.at (c.pw wr) n d b' hd hb) ok3 fun f s4 A4 g4 ok4 r4=>?_)
  cases r4
  exact wpAny_pure ⟨_,rfl,A4,g3.trans g4.toX,ok4.weaken fun b q=>.inl q,.next⟩
theorem c4t {fl} (h0:it.next st = some none) (h1:X P o st fl st1):X P [.forGo p it b o] st fl st1:=fun c n d t' b' o' hd hp hb ho ht A s I wr ok hw hi=>
 b1u fun F=>wpAny_mono (a6l ok c.ao.handled hi h0) (fun r0 s1 ⟨hr,sp⟩=>by
  subst hr
  exact X2 rfl (codeAny_block (Cf.go (h1.at c n d o' hd ho) (ok.forget wr hw sp fun b m=>ok.notFr (hi.nf b m)) fun f s2 A2 g2 ok2 r2=>⟨f,rfl,A2,sp.toX.trans g2.toX,ok2,r2⟩))) fun u_ u_ e=>e
end
section
variable {P:Pg} {st st1 st2:St}
theorem Y8 {p i b o it fl} (h1:I P i st it st1) (h2:X P [.forGo p it b o] st1 fl st2):X1 P (.for_ p i b o) st fl st2:=⟨rfl,fun c n u_ u_ hd hc A s F ok=>b9x hc fun d t i' b' o' u_ he hp hI hb ho=>by
 obtain ⟨hfold,hit⟩:=h1.2 c n i' hI
 refine wpAny_For (wpAny_mono (hit A s F ok) (fun x s1 q1=>wpAny_mono q1 (fun iv s2 q2=>?_) fun u_ u_ e=>e) fun u_ u_ e=>e) hfold
 obtain ⟨I,wr,A1,rfl,g2,fr2,ok2,hi2⟩:=q2
 have hwP:∀ b ∈ wr,¬ c.Q b:=fun b mb w=>by
  obtain ⟨o,e⟩:=ok.alive b (.inr w)
  rw [fr2 b mb] at e; cases e
 refine codeAny_mono (h2 c n d t b' o' hd hp hb ho (c4k h1.1 he) A1 s2 I wr ok2 hwP hi2) fun r s3 hpat=>?_
 obtain ⟨f,hr,A3,g3,ok3,r3⟩:=hpat
 subst hr
 exact ⟨A3,(g2.toX.trans g3).toGo fr2,ok3,r3⟩⟩
end
end
section
theorem U7 (t v:PySem.Expr) (pos:Pos):exec (.Assign [t] v pos) env = (do
  standAt pos
  if <- swapsWith v (some t) pos.line env then do
   evalThenUse v env fun v=>assignAll v ((assignEach [t] env).map (·.2))
   pure .next
  else do
   let x <- eval v env
   assignStores env x (<- swappedStores [t] v env) ((assignEach [t] env).map (·.2))):=rfl
noncomputable def Y9 (env:Env) (line:Nat):PySem.Expr->Option Str
 | .Name id pos=>if (env.kindOf id == some .local && pos.line == line) = true then some id else none
 | _=>none
noncomputable def c9m (env:Env) (ts vs:List PySem.Expr) (names:List Str):Sem (Option (List Str)):=
 if (!(ts.length == 2 || ts.length == 3) || vs.length != ts.length || env.blockKind != .function) = true then pure none
 else if (vs.any fun | .Starred ..=>true | _=>false) = true then pure none
 else if (names.length != ts.length || names.eraseDups.length != names.length) = true then pure none
 else if (vs.all (foldedForSure 8)) = true then pure none
 else if (vs.all (constantsAlone 8)) = true then unsupported "assign.tuple-of-constant-expressions:order-of-the-stores"
 else pure (some names)
theorem b5d {p:Prop} [Decidable p] {α:Type} {a b x:α} {Q:Prop} (h:¬ p->b = a ∨ b = x /\ Q):(if p then a else b) = a ∨ (if p then a else b) = x /\ Q:=by
 by_cases k:p
 ·exact .inl (if_pos k)
 ·rw [if_neg k]; exact h k
theorem a6s {env:Env} {ts vs:List PySem.Expr} {names:List Str} (hk:(!(vs.all (constantsAlone 8)) || vs.all (foldedForSure 8)) = true):c9m env ts vs names = pure none ∨ c9m env ts vs names = pure (some names) /\ names.length = ts.length:=
 b5d fun u_=>b5d fun u_=>b5d fun hl=>b5d fun h4=>by
  cases h5:vs.all (constantsAlone 8) with
  | true=>rw [h5] at hk; exact absurd hk h4
  | false=>exact .inr ⟨if_neg Bool.false_ne_true,by
   cases q:names.length != ts.length with
   | true=>exact absurd (by rw [q]; rfl) hl
   | false=>simpa using q⟩
theorem a1a (env:Env) (t v:PySem.Expr) (p:MPat) {f:PySem.Expr->ME->Bool} {res:Str->Option Nat} {d:Nat} (hp:a6e f res d t p = true) (hk:b4r t v p = true) :
  swappedStores [t] v env = pure none ∨ ∃ ts k q line,t = .Tuple ts k q /\ swappedStores [t] v env = pure (some (ts.filterMap (Y9 env line))) /\ (ts.filterMap (Y9 env line)).length = ts.length /\ (a6f p).Nodup:=by
 have two:(B5 t).tag ≠ 14->swappedStores [t] v env = pure none:=fun h=>by
  have tg:(B5 t).tag = 2 ∨ (B5 t).tag = 14 ∨ (B5 t).tag = 11:=by
   cases p with
   | slot i=>exact U5 (R:=fun e=>(B5 e).tag = 2 ∨ (B5 e).tag = 14 ∨ (B5 e).tag = 11) hp fun u_ u_ u_=>.inl rfl
   | tup ps=>exact a0x (R:=fun e=>(B5 e).tag = 2 ∨ (B5 e).tag = 14 ∨ (B5 e).tag = 11) hp fun u_ u_ u_ u_ u_=>.inr (.inl rfl)
   | sub o i=>exact a0y (R:=fun e=>(B5 e).tag = 2 ∨ (B5 e).tag = 14 ∨ (B5 e).tag = 11) hp fun u_ u_ u_ u_ u_=>.inr (.inr rfl)
  rcases tg with q | q | q
  ·exact G6 (R:=fun t=>swappedStores [t] v env = pure none) (L0 q) rfl
  ·exact absurd q h
  ·exact G6 (R:=fun t=>swappedStores [t] v env = pure none) (P7 q) rfl
 by_cases ht:(B5 t).tag = 14
 ·have et:=(P8 ht).symm.trans (D6 t)
  rw [<- et] at hk ⊢
  generalize (B5 t).es = ts at hk ⊢
  by_cases hv:(B5 v).tag = 14
  ·rw [<- (P8 hv).symm.trans (D6 v)] at hk ⊢
   generalize (B5 v).es = vs at hk ⊢
   have hk:=B1 (show ((!(vs.all (constantsAlone 8)) || vs.all (foldedForSure 8)) && decide (a6f p).Nodup) = true from hk)
   have e:swappedStores [.Tuple ts (B5 t).n (B5 t).p] (.Tuple vs (B5 v).n (B5 v).p) env = c9m env ts vs (ts.filterMap (Y9 env ((ts.head?.map (·.pos.line)).getD 0))):=rfl
   rw [e]
   exact (a6s hk.1).imp id fun h=>⟨ts,_,_,_,rfl,h.1,h.2,C3 hk.2⟩
  ·refine .inl ?_
   cases v with
   | Tuple _ _ _=>exact absurd rfl hv
   | _=>rfl
 ·exact .inl (two ht)
theorem b7j (x:Nat × V):∀ (l:List (Nat × V)) (ρ:List (Option V)),x.1 ∉ l.map (·.1)->H0 (ρ.set x.1 (some x.2)) l = (H0 ρ l).set x.1 (some x.2)
 | [],_,_=>rfl
 | y :: r,ρ,h=>by
  have h1:x.1 ≠ y.1:=fun q=>h (by rw [q]; exact List.mem_cons_self)
  have h2:x.1 ∉ r.map (·.1):=fun q=>h (List.mem_cons_of_mem _ q)
  show H0 ((ρ.set x.1 (some x.2)).set y.1 (some y.2)) r = _
  rw [List.set_comm _ _ h1,b7j x r _ h2]; rfl
theorem Z0 (l l':List (Nat × V)) (ρ:List (Option V)):H0 ρ (l ++ l') = H0 (H0 ρ l) l':=by
 unfold H0; rw [List.foldl_append]
theorem a0b:∀ (l:List (Nat × V)) (ρ:List (Option V)),(l.map (·.1)).Nodup->H0 ρ l.reverse = H0 ρ l
 | [],_,_=>rfl
 | x :: r,ρ,h=>by
  obtain ⟨h1,h2⟩:=List.nodup_cons.mp h
  rw [List.reverse_cons,Z0]
  show (H0 ρ r.reverse).set x.1 (some x.2) = H0 (ρ.set x.1 (some x.2)) r
  rw [a0b r ρ h2,b7j x r ρ h1]
section
variable {P:Pg} {st st1 st2:St}
theorem a2n {c:Cf P} {F:Value->Shared->Prop}:∀ (l:List (Str × Nat)) (items:List Value) (zs:List V) (st:St) (A:List (List Addr)) (s:Shared),(∀ x ∈ l,c.cx.res x.1 = some x.2)->zs.length = l.length->c.Ok A st s->RelL (c.wd A s.heap) (c.nl - 1) items zs->
  c.W (assignInOrder (l.map fun x=>bindName c.env x.1) items) (c.Po A s { st with ρ:=H0 st.ρ ((l.map (·.2)).zip zs) } () RU) F s
 | [],items,zs,st,A,s,_,hz,ok,hr=>by
  cases zs with
  | cons _ _=>cases hz
  | nil=>
   cases hr
   exact wpAny_pure (.pure ok trivial)
 | x :: r,items,zs,st,A,s,hx,hz,ok,hr=>by
  cases hr with
  | nil=>cases hz
  | cons r1 r2=>exact wpAny_bind (wpAny_holding (wpAny_bindName (Cf.use (Q4 ok (hx x List.mem_cons_self) r1) fun u_ s1 A1 g1 ok1 u_=>
    Cf.end g1 (a2n r _ _ _ A1 s1 (fun y m=>hx y (List.mem_cons_of_mem _ m)) (Nat.succ.inj hz) ok1 (RelL.go r2 g1)))))
theorem a2o {f:PySem.Expr->ME->Bool} {res:Str->Option Nat} {d line:Nat} {env:Env}:∀ {ts:List PySem.Expr} {ps:List MPat},F9 (a6e f res d) ts ps = true->(ts.filterMap (Y9 env line)).length = ts.length->
  ∃ l:List (Str × Nat),ts.filterMap (Y9 env line) = l.map (·.1) /\ (∀ x ∈ l,res x.1 = some x.2) /\ ps = (l.map (·.2)).map .slot
 | [],[],_,_=>⟨[],rfl,fun u_ m=>(nomatch m),rfl⟩
 | [],_ :: _,h,_=>(Bool.false_ne_true h).elim
 | _ :: _,[],h,_=>(Bool.false_ne_true h).elim
 | t :: ts,p :: ps,h,hl=>by
  cases hid:Y9 env line t with
  | none=>
   rw [List.filterMap_cons_none hid] at hl
   exact absurd (List.length_filterMap_le (Y9 env line) ts) (by rw [hl]; exact Nat.not_succ_le_self _)
  | some id=>
   rw [List.filterMap_cons_some hid] at hl ⊢
   obtain ⟨l,a1,a2,a3⟩:=a2o (env:=env) (line:=line) (B1 h).2 (Nat.succ.inj hl)
   cases t with
   | Name x pos=>
    have hxe:x = id:=by
     exact (C6 (show (if (env.kindOf x == some .local && pos.line == line) = true then some x else none) = some id from hid)).2
    subst hxe
    have hp:=(B1 h).1
    have tg:∀ i,p = .slot i->res x = some i:=fun i q=>by
     subst q
     exact U5 (R:=fun e=>e = .Name x pos->res x = some i) hp (fun y q hy e=>by cases e; exact hy) rfl
    cases p with
    | slot i=>exact ⟨(x,i) :: l,by rw [a1]; rfl,fun y m=>(List.mem_cons.mp m).elim (fun q=>q ▸ tg i rfl) (a2 y),by rw [a3]; rfl⟩
    | tup _=>exact (a0x (R:=fun e=>e = .Name x pos->False) hp (fun u_ u_ u_ u_ u_ e=>nomatch e) rfl).elim
    | sub _ _=>exact (a0y (R:=fun e=>e = .Name x pos->False) hp (fun u_ u_ u_ u_ u_ e=>nomatch e) rfl).elim
   | _=>cases hid
theorem b1v:∀ l:List Nat,a6f (.tup (l.map .slot)) = l
 | []=>rfl
 | x :: l=>congrArg (x :: ·) (b1v l)
theorem c4u {α β:Type} {l:List α} {m:List β} (h:m.length = l.length):(l.reverse.zip m.reverse) = (l.zip m).reverse:=by
 induction l generalizing m with
 | nil=>rfl
 | cons a l ih=>
  cases m with
  | nil=>cases h
  | cons b m=>
   rw [List.reverse_cons,List.reverse_cons,List.zip_append (by simpa using h.symm),ih (Nat.succ.inj h)]
   exact List.reverse_cons.symm
theorem a9g {f:PySem.Expr->ME->Bool} {res:Str->Option Nat} {d k:Nat} {q:Pos} {ts:List PySem.Expr} {p:MPat} (h:a6e f res (d + 1) (.Tuple ts k q) p = true):∃ ps,p = .tup ps /\ F9 (a6e f res d) ts ps = true:=by
 cases p with
 | tup ps=>exact ⟨ps,rfl,h⟩
 | slot i=>exact (Bool.false_ne_true h).elim
 | sub _ _=>exact (Bool.false_ne_true h).elim
theorem a6t {c:Cf P} {n t' v' p z x A s F} (h2:As P 4 p z st st1) (hk:b4r t' v' p = true) (hp:a6e (cmp c.H n c.cx) c.cx.res 4 t' p = true) (ok:c.Ok A st s) (hx:c.Rel A s x z) :
  c.W (do assignStores c.env x (<- swappedStores [t'] v' c.env) ((assignEach [t'] c.env).map (·.2))) (c.Po A s st1 .next RelF) F s:=by
 have hea:(assignEach [t'] c.env).map (·.2) = [assign t' c.env]:=(K5 (f:=cmp c.H n c.cx) (res:=c.cx.res) (d:=4) (es:=[t']) (ps:=[p]) (Bool.and_eq_true_iff.mpr ⟨hp,rfl⟩)).2
 rcases a1a c.env t' v' p hp hk with h | ⟨ts,k,q,line,rfl,h,hlen,hnd⟩
 ·rw [h]
  refine wpAny_bind (wpAny_pure ?_)
  show c.W (do assignAll x ((assignEach [t'] c.env).map (·.2)); pure Flow.next) _ _ _
  rw [hea]
  exact wpAny_bind (Cf.use (h2.2 c n 4 t' hp A s F x ok hx) fun u_ u_ A2 g2 ok2 u_=>wpAny_pure ⟨A2,g2,ok2,.next⟩)
 ·rw [h]
  refine wpAny_bind (wpAny_pure ?_)
  obtain ⟨ps,rfl,ha⟩:=a9g (d:=3) hp
  obtain ⟨l,a1,a2,rfl⟩:=a2o (env:=c.env) (line:=line) ha hlen
  obtain ⟨zs,rfl,hz,hst⟩:=h2.1.2 _ rfl
  rw [List.length_map] at hz
  cases hx with
  | @tup a items mm _ h1 h2 h3=>
   show c.W (do
    rule "assign.swapped-stores"
    let items <- unpackItems _ (ts.filterMap (Y9 c.env line)).length none
    assignInOrder ((ts.filterMap (Y9 c.env line)).reverse.map fun n=>bindName c.env n) items.reverse
    pure Flow.next) _ _ _
   rw [a1,show (l.map (·.1)).length = items.toArray.size by rw [List.length_map,List.size_toArray,h3.length,hz]]
   refine wpAny_bind (wpAny_rule (wpAny_bind (wpAny_unpackItems_tuple c.ao.handled (H5 h2) fun h' hx=>?_)))
   obtain ⟨ok2,g2⟩:=ok.grow (tk:=s.toks) (h':=h') fun b o e=>hx b o (Nat.ne_of_lt (Heap.lt_size e)) e
   rw [show (l.map (·.1)).reverse.map (fun n=>bindName c.env n) = l.reverse.map (fun x=>bindName c.env x.1) by rw [<- List.map_reverse,List.map_map]; rfl]
   have hrev:=RelL.reverse (h3.mono (g2.le c.Q _) (Nat.le_refl _))
   refine wpAny_bind (Cf.use (a2n l.reverse _ zs.reverse st A _ (fun y my=>a2 y (List.mem_reverse.mp my)) (by simpa using hz) ok2 hrev) fun u_ s3 A3 g3 ok3 u_=>?_)
   rw [List.map_reverse,c4u (by simpa using hz),a0b _ _ (by rw [List.map_fst_zip (by simpa using Nat.le_of_eq hz.symm)]; rw [b1v] at hnd; exact hnd),<- hst] at ok3
   exact wpAny_pure ⟨A3,g2.trans g3,ok3,.next⟩
theorem d6a {v:PySem.Expr} (h:(B5 v).tag = 10):∃ a b s p,v = .ListComp a b s p:=by
 cases v with
 | ListComp a b s p=>exact ⟨a,b,s,p,rfl⟩
 | Dict ks vs p=>
  cases ks with
  | cons _ _=>exact nomatch h
  | nil=>
   cases vs with
   | cons _ _=>exact nomatch h
   | nil=>exact nomatch h
 | _=>exact nomatch h
theorem c0d (elt:PySem.Expr) (gens:List Comprehension) (scope:Scope) (vpos:Pos) (t:PySem.Expr) (l:Nat) (env:Env):swapsWith (.ListComp elt gens scope vpos) (some t) l env = pure false ∨ ∃ x p,t = .Name x p:=by
 cases t with
 | Name x p=>exact .inr ⟨x,p,rfl⟩
 | _=>exact .inl rfl
theorem B4 {p e v} (h1:E P e st v st1) (h2:As P 4 p v st1 st2):X1 P (.assign p e) st .next st2:=⟨rfl,fun c n u_ u_ u_ h A s F ok=>a6h h fun t' v' pos hk hp hm=>by
 rw [U7]
 refine wpAny_bind (wpAny_standAt ?_)
 have plain:swapsWith v' (some t') pos.line c.env = pure false->c.W (do
   if <- swapsWith v' (some t') pos.line c.env then do
    evalThenUse v' c.env fun v=>assignAll v ((assignEach [t'] c.env).map (·.2))
    pure .next
   else do
    let x <- eval v' c.env
    assignStores c.env x (<- swappedStores [t'] v' c.env) ((assignEach [t'] c.env).map (·.2))) (c.Po A s st2 .next RelF) F s:=fun hs=>by
  rw [hs]
  exact wpAny_bind (wpAny_pure (wpAny_bind (Cf.go (h1.at hm) ok fun x s1 A1 g1 ok1 r1=>Cf.end g1 (a6t h2 hk hp ok1 r1))))
 by_cases hv:(B5 v').tag = 10
 ·obtain ⟨elt,gens,scope,vpos,rfl⟩:=d6a hv
  rcases c0d elt gens scope vpos t' pos.line c.env with hs | ⟨x,xpos,rfl⟩
  ·exact plain hs
  ·cases hb:(c.env.blockKind == .function && c.env.kindOf x == some .local && xpos.line == vpos.line && !(scope.names.any fun (n,k)=>n == x && (k == .local || k == .cell))) with
   | false=>exact plain (congrArg (fun b=>(pure b:Sem Bool)) hb)
   | true=>
    have hs:swapsWith (.ListComp elt gens scope vpos) (some (.Name x xpos)) pos.line c.env = pure true:=congrArg (fun b=>(pure b:Sem Bool)) hb
    have hu:b1k P e st v st1:=h1.1.resolve_left fun hn=>C3 hn (by
     cases n with
     | zero=>exact (Bool.false_ne_true hm).elim
     | succ n=>exact (cm hm).1.symm)
    rw [hs]
    refine wpAny_bind (wpAny_pure (wpAny_bind ?_))
    show c.W (do let _ <- comprehension (.ListComp elt gens scope vpos) scope c.env (firstIterPos gens vpos) (newList []) (firstAsync gens) (firstIter gens c.env) (some fun v=>assignAll v [assign (.Name x xpos) c.env])) _ _ _
    cases n with
    | zero=>exact (Bool.false_ne_true hm).elim
    | succ n=>
    refine wpAny_bind (wpAny_mono (hu c n elt gens scope vpos hm A s F ok _ (fun u_ s'=>c.Po A s st2 .next RelF .next s') fun a C A6 s6 g6 ok6 r6 hC hpat=>?_) (fun u_ s' h=>wpAny_pure (wpAny_pure h)) fun u_ u_ e=>e)
    obtain ⟨mC,hmC⟩:=hpat
    refine Cf.use (c:=c.pr fun b=>c.Q b ∨ b ∈ [C]) (h2.2 (c.pr fun b=>c.Q b ∨ b ∈ [C]) (n + 1) 4 _ hp A6 s6 F (.ref a) ok6 r6) fun u_ s7 A7 g7 ok7 u_=>⟨mC,Kp.ns (fun o e=>g7.keep C o e (ok6.disP C (.inr List.mem_cons_self))) hmC,fun h' hs'=>?_⟩
    obtain ⟨g8,ok8,_⟩:=a6q ok (g6.trans g7) ok7 hC hs'
    exact ⟨A7,g8,ok8,.next⟩
 ·exact plain (a4q hv (Q1 hm) _ _ _)⟩
end
end
section
theorem D9 (A:List (List Addr)) (l i:Nat):E4 (A ++ [[]]) l i = E4 A l i:=by
 unfold E4
 rcases Nat.lt_trichotomy l A.length with h | h | h
 ·rw [List.getElem?_append_left h]
 ·subst h; rw [List.getElem?_concat_length,List.getElem?_eq_none (Nat.le_refl _)]; rfl
 ·rw [List.getElem?_eq_none (by simp; lia),List.getElem?_eq_none (by lia)]
theorem L8 (ρ ρ':List (Option V)) (R:List (List AObj)) (l i:Nat):St.obj ⟨ρ,R ++ [[]]⟩ l i = St.obj ⟨ρ',R⟩ l i:=by
 unfold St.obj
 dsimp only
 rcases Nat.lt_trichotomy l R.length with h | h | h
 ·rw [List.getElem?_append_left h]
 ·subst h; rw [List.getElem?_concat_length,List.getElem?_eq_none (Nat.le_refl _)]; rfl
 ·rw [List.getElem?_eq_none (by simp; lia),List.getElem?_eq_none (by lia)]
theorem G7 (A:List (List Addr)) (l i:Nat):E4 A.dropLast l i = if l < A.length - 1 then E4 A l i else none:=by
 unfold E4
 by_cases h:l < A.length - 1
 ·rw [if_pos h,List.dropLast_eq_take,List.getElem?_take_of_lt h]
 ·rw [if_neg h,List.getElem?_eq_none (by rw [List.length_dropLast]; lia)]
theorem b1w (ρ ρ':List (Option V)) (R:List (List AObj)) (l i:Nat):St.obj ⟨ρ,R.dropLast⟩ l i = if l < R.length - 1 then St.obj ⟨ρ',R⟩ l i else none:=by
 unfold St.obj
 dsimp only
 by_cases h:l < R.length - 1
 ·rw [if_pos h,List.dropLast_eq_take,List.getElem?_take_of_lt h]
 ·rw [if_neg h,List.getElem?_eq_none (by rw [List.length_dropLast]; lia)]
section
variable {B:Base} {lay new:List Loc} {P:Addr->Prop} {nl:Nat} {A A2:List (List Addr)} {st st2:St} {s s' s2:Shared}
noncomputable abbrev PX (lay:List Loc) (P:Addr->Prop):Addr->Prop:=fun b=>P b ∨ ∃ l ∈ lay,l.addr = b
noncomputable abbrev PK (lay:List Loc) (P:Addr->Prop) (K:List Addr):Addr->Prop:=fun b=>PX lay P b /\ b ∉ K
noncomputable abbrev wdK (lay:List Loc) (A:List (List Addr)) (P:Addr->Prop) (K:List Addr) (h:Heap):Wd:=⟨h,A,Tch lay A,fun b=>Avd lay A P b /\ b ∉ K⟩
theorem a6u {K:List Addr} {h:Heap} (lv:Nat):Wd.Le lv (wd lay A P h) (wdK lay A P K h):=⟨fun u_ u_ e u_=>.of e,fun u_ u_ u_ h=>h.1,fun u_ u_ u_ u_ e=>e⟩
theorem b1x {K:List Addr} (hK:∀ b ∈ K,∀ l i,E4 A l i ≠ some b) (hf:∀ l ∈ new,s.heap.get? l.addr = none) {h':Heap} (hk:∀ b o,s.heap.get? b = some o->h'.get? b = some o) (lv:Nat):Wd.Le lv (wdK lay A P K s.heap) (wd new (A ++ [[]]) (PK lay P K) h') where
 keep b o e _:=.of (hk b o e)
 avoid b o e h:=by
  rcases h with (⟨l,m,q⟩ | ⟨l,i,q⟩) | ⟨h | ⟨l,m,q⟩,n⟩
  ·have:=hf l m; rw [q] at this; rw [this] at e; cases e
  ·rw [D9] at q; exact ⟨.inl (.inr ⟨l,i,q⟩),fun m=>hK b m l i q⟩
  ·exact ⟨.inr h,n⟩
  ·exact ⟨.inl (.inl ⟨l,m,q⟩),n⟩
 same l i a _ e:=by show E4 (A ++ [[]]) l i = some a; rw [D9]; exact e
theorem Ok.enter {K:List Addr} (ok:Ok B lay P nl A st s) (hK:∀ b ∈ K,∃ l ∈ lay,l.addr = b) (hf:∀ l ∈ new,s.heap.get? l.addr = none) {h':Heap} {tk:Nat} (hk:∀ b o,s.heap.get? b = some o->h'.get? b = some o) {ρ:List (Option V)} (hlen:ρ.length = new.length)
  (hs:∀ (w:Wd),w.h = h'->Wd.Le (nl - 1) (wdK lay A P K s.heap) w->∀ (i:Nat) (l:Loc),new[i]? = some l->P9 w nl l (ρ[i]?).join) (hlive:∀ l ∈ new,∃ o,h'.get? l.addr = some o)
  (hp:∀ (i j:Nat) (l l':Loc),new[i]? = some l->new[j]? = some l'->i ≠ j->l.apart l') {frs:List Addr} (hF:∀ M ∈ frs,M ∈ B.frs ∨ s.heap.get? M = none /\ ∃ o es ep,h'.get? M = some o /\ o.data = .dict es ep) :
  Ok (B.on frs) new (PK lay P K) (nl + 1) (A ++ [[]]) { ρ:=ρ,R:=st.R ++ [[]] } { s with heap:=h',toks:=tk }:=by
 have leK:=fun lv=>b1x (lay:=lay) (A:=A) (P:=P) (K:=K) (fun b m l i e=>let ⟨x,mx,q⟩:=hK b m; ok.layA x mx l i (q ▸ e)) hf hk lv
 have le:=fun lv=>(a6u (lay:=lay) (A:=A) (P:=P) (K:=K) (h:=s.heap) lv).trans (leK lv)
 have av:∀ b o,s.heap.get? b = some o->Avd new (A ++ [[]]) (PK lay P K) b->Avd lay A P b:=fun b o e h=>(le 0).avoid b o e h
 exact {
  base:=fun b o e=>hk b o (ok.base b o e)
  baseM:=fun b o e h=>ok.baseM b o e (av b o (ok.base b o e) h)
  frs:=fun M m=>by
   rcases hF M m with m | ⟨hL0,o,es,ep,h1,h2⟩
   ·obtain ⟨o,es,ep,h1,h2,h3,h4⟩:=ok.frs M m; exact ⟨o,es,ep,hk _ _ h1,h2,h3,fun l i e=>h4 l i (by rw [D9] at e; exact e)⟩
   ·refine ⟨o,es,ep,h1,h2,?_,fun l i e=>by rw [D9] at e; obtain ⟨o,q⟩:=ok.alive M (.inl (.inr ⟨l,i,e⟩)); rw [hL0] at q; cases q⟩
    cases q:B.h₀.get? M with
    | none=>exact q
    | some o=>rw [ok.base _ _ q] at hL0; cases hL0
  len:=hlen
  slots:=fun i l e=>hs _ rfl (leK _) i l e
  sep:=hp
  lenA:=by simp [ok.lenA]
  dimA:=fun l i=>by rw [D9,L8 ρ st.ρ]; exact ok.dimA l i
  objs:=fun l i o a h1 h2=>by
   rw [L8 ρ st.ρ] at h1
   rw [D9] at h2
   exact E5 (le _) (fun q e=>hk _ _ e) (ok.objs l i o a h1 h2) av
  inj:=fun l i l' i' a h1 h2=>ok.inj l i l' i' a (by rwa [D9] at h1) (by rwa [D9] at h2)
  layA:=fun l m k i e=>by
   rw [D9] at e
   obtain ⟨o,q⟩:=ok.alive l.addr (.inl (.inr ⟨k,i,e⟩))
   rw [hf l m] at q; cases q
  disP:=fun b hb h=>by
   have hal:∃ o,s.heap.get? b = some o:=by
    rcases hb.1 with hb | ⟨l,m,q⟩
    ·exact ok.alive b (.inr hb)
    ·exact ok.alive b (.inl (.inl ⟨l,m,q⟩))
   obtain ⟨o,e⟩:=hal
   rcases h with ⟨l,m,q⟩ | ⟨l,i,q⟩
   ·have:=hf l m; rw [q,e] at this; cases this
   ·rw [D9] at q
    rcases hb.1 with hb | ⟨l',m,q'⟩
    ·exact ok.disP b hb (.inr ⟨l,i,q⟩)
    ·exact ok.layA l' m l i (q' ▸ q)
  alive:=fun b h=>by
   rcases h with (⟨l,m,q⟩ | ⟨l,i,q⟩) | ⟨h | ⟨l,m,q⟩,_⟩
   ·exact q ▸ hlive l m
   ·rw [D9] at q
    obtain ⟨o,e⟩:=ok.alive b (.inl (.inr ⟨l,i,q⟩)); exact ⟨o,hk b o e⟩
   ·obtain ⟨o,e⟩:=ok.alive b (.inr h); exact ⟨o,hk b o e⟩
   ·obtain ⟨o,e⟩:=ok.alive b (.inl (.inl ⟨l,m,q⟩)); exact ⟨o,hk b o e⟩
  rlen:=by simp [ok.rlen]
  lvl:=Nat.succ_pos _ }
theorem a4r {B':Base} {P':Addr->Prop} (ok:Ok B lay P nl A st s) (ok2:Ok B' new P' (nl + 1) A2 st2 s2) (hf:∀ l ∈ new,s.heap.get? l.addr = none) (hk:∀ b o,s.heap.get? b = some o->s'.heap.get? b = some o)
  (hrest:s'.gens = s.gens /\ ign s'.drawn = ign s.drawn /\ s'.os = s.os) (g:Go new (A ++ [[]]) A2 s' s2):Go lay A A2.dropLast s s2:=by
 have hl:A2.length - 1 = A.length:=by rw [ok2.lenA,ok2.rlen,Nat.add_sub_cancel,ok.lenA,ok.rlen]
 refine ⟨fun b o e nt=>g.keep b o (hk b o e) fun h=>?_,fun b o e=>g.live b o (hk b o e),fun l i b e=>?_,fun l i b e=>?_,g.rest.1.trans hrest.1,g.rest.2.1.trans hrest.2.1,g.rest.2.2.trans hrest.2.2⟩
 ·rcases h with ⟨l,m,q⟩ | ⟨l,i,q⟩
  ·have:=hf l m; rw [q,e] at this; cases this
  ·rw [D9] at q; exact nt (.inr ⟨l,i,q⟩)
 ·rw [G7,if_pos (by rw [hl]; exact c3o e)]
  exact g.same l i b (by rw [D9]; exact e)
 ·rw [G7] at e
  split at e
  ·rcases g.new l i b e with q | q
   ·rw [D9] at q; exact .inl q
   ·right
    cases w:s.heap.get? b with
    | none=>rfl
    | some o=>rw [hk b o w] at q; cases q
  ·cases e
noncomputable def b5e (K:List Addr) (h:Heap):Prop:=∀ b ∈ K,∀ o,h.get? b = some o->c3m o.data = true
theorem b1y {B':Base} {K:List Addr} (ok2:Ok B' new (PK lay P K) (nl + 1) A2 st2 s2) (hc:b5e K s2.heap) {b:Addr} {o:Obj} (e:s2.heap.get? b = some o) (hn:c3m o.data = false) (h:Avd lay A2.dropLast P b):Avd new A2 (PK lay P K) b:=by
 have nk:b ∉ K:=fun m=>by rw [hc b m o e] at hn; cases hn
 rcases h with (h | ⟨l,i,q⟩) | h
 ·exact .inr ⟨.inr h,nk⟩
 ·refine .inl (.inr ⟨l,i,?_⟩)
  rw [G7] at q
  split at q
  ·exact q
  ·cases q
 ·exact .inr ⟨.inl h,nk⟩
theorem Ok.leave {frs:List Addr} {K:List Addr} (hfr:∀ M ∈ B.frs,M ∈ frs) (ok:Ok B lay P nl A st s) (hK:∀ b ∈ K,∃ l ∈ lay,l.addr = b) (hc:b5e K s2.heap) (ok2:Ok (B.on frs) new (PK lay P K) (nl + 1) A2 st2 s2) (hf:∀ l ∈ new,s.heap.get? l.addr = none) (hk:∀ b o,s.heap.get? b = some o->s'.heap.get? b = some o)
  (hrest:s'.gens = s.gens /\ ign s'.drawn = ign s.drawn /\ s'.os = s.os) (g:Go new (A ++ [[]]) A2 s' s2):Ok B lay P nl A2.dropLast { ρ:=st.ρ,R:=st2.R.dropLast } s2:=by
 have gg:=a4r ok ok2 hf hk hrest g
 have le:=fun lv=>gg.le P lv
 have hl:A2.length - 1 = nl:=by rw [ok2.lenA,ok2.rlen,Nat.add_sub_cancel]
 have hR:st2.R.length - 1 = nl:=by rw [ok2.rlen,Nat.add_sub_cancel]
 have sub:∀ l i a,E4 A2.dropLast l i = some a->E4 A2 l i = some a /\ l < nl:=fun l i a e=>by
  rw [G7,hl] at e
  split at e
  ·exact ⟨e,‹_›⟩
  ·cases e
 have le2:∀ lv,lv < nl->Wd.Le0 lv (wd new A2 (PK lay P K) s2.heap) (wd lay A2.dropLast P s2.heap):=fun lv hlv=>⟨fun u_ u_ e u_=>.of e,fun b o e n h=>b1y ok2 hc e n h,fun l i a q e=>by
  show E4 A2.dropLast l i = some a
  rw [G7,hl,if_pos (Nat.lt_of_le_of_lt q hlv)]; exact e⟩
 have hkeep:∀ l ∈ lay,∀ q,s.heap.get? l.addr = some q->Kp s2.heap l.addr q:=fun l m q e=>g.keep _ _ (hk _ _ e) fun h=>by
  rcases h with ⟨l',m',w⟩ | ⟨k,i,w⟩
  ·have:=hf l' m'; rw [w,e] at this; cases this
  ·rw [D9] at w; exact ok.layA l m k i w
 exact {
  base:=ok2.base
  baseM:=fun b o e h=>by
   rcases h with (h | ⟨l,i,q⟩) | h
   ·exact ok.baseM b o e (.inl (.inl h))
   ·exact ok2.baseM b o e (.inl (.inr ⟨l,i,(sub l i b q).1⟩))
   ·exact ok.baseM b o e (.inr h)
  frs:=fun M m=>let ⟨o,es,ep,h1,h2,h3,h4⟩:=ok2.frs M (hfr M m); ⟨o,es,ep,h1,h2,h3,fun l i e=>h4 l i (sub l i M e).1⟩
  len:=ok.len
  slots:=fun i l e=>Z9 (le _) (fun q h=>hkeep l (List.mem_of_getElem? e) q h) (ok.slots i l e)
  sep:=ok.sep
  lenA:=by rw [List.length_dropLast,List.length_dropLast,ok2.lenA]
  dimA:=fun l i=>by
   rw [G7,b1w st.ρ st2.ρ,hl,hR]
   split
   ·exact ok2.dimA l i
   ·simp
  objs:=fun l i o a h1 h2=>by
   obtain ⟨h3,h4⟩:=sub l i a h2
   rw [b1w st.ρ st2.ρ,hR,if_pos h4] at h1
   exact a8p (le2 l h4) (fun q e=>e) (ok2.objs l i o a h1 h3)
  inj:=fun l i l' i' a h1 h2=>ok2.inj l i l' i' a (sub _ _ _ h1).1 (sub _ _ _ h2).1
  layA:=fun l m k i e=>by
   obtain ⟨o,w⟩:=ok.alive l.addr (.inl (.inl ⟨l,m,rfl⟩))
   rcases g.new k i _ (sub _ _ _ e).1 with q | q
   ·rw [D9] at q; exact ok.layA l m k i q
   ·rw [hk _ _ w] at q; cases q
  disP:=fun b hb h=>by
   rcases h with h | ⟨l,i,q⟩
   ·exact ok.disP b hb (.inl h)
   ·exact ok2.disP b ⟨.inl hb,fun m=>let ⟨l,ml,q⟩:=hK b m; ok.disP b hb (.inl ⟨l,ml,q⟩)⟩ (.inr ⟨l,i,(sub _ _ _ q).1⟩)
  alive:=fun b h=>by
   rcases h with (⟨l,m,rfl⟩ | ⟨l,i,q⟩) | h
   ·obtain ⟨o,w⟩:=ok.alive l.addr (.inl (.inl ⟨l,m,rfl⟩)); exact gg.live _ o w
   ·exact ok2.alive b (.inl (.inr ⟨l,i,(sub l i b q).1⟩))
   ·obtain ⟨o,w⟩:=ok.alive b (.inr h); exact gg.live _ o w
  rlen:=by rw [List.length_dropLast,hR]
  lvl:=ok.lvl }
theorem a6v {B:Base} {K:List Addr} (hc:b5e K s2.heap) (ok2:Ok B new (PK lay P K) (nl + 1) A2 st2 s2) (hnl:0 < nl) {reg:List AObj} (hr:st2.R.getLast? = some reg):∀ (d:Nat) (v:Value) (x u:V),Rel (wd new A2 (PK lay P K) s2.heap) nl v x->frz reg nl d x = some u->
  Rel (wd lay A2.dropLast P s2.heap) (nl - 1) v u
 | 0,_,_,_,_,h=>nomatch h
 | d + 1,v,x,u,hv,h=>by
  have hl:A2.length - 1 = nl:=by rw [ok2.lenA,ok2.rlen,Nat.add_sub_cancel]
  have sub:∀ l i a,E4 A2.dropLast l i = some a->E4 A2 l i = some a /\ l < nl:=fun l i a e=>by
   rw [G7,hl] at e
   split at e
   ·exact ⟨e,‹_›⟩
   ·cases e
  have av:=fun {b:Addr} {o:Obj} (e:s2.heap.get? b = some o) (n:c3m o.data = false) h=>b1y (lay:=lay) (P:=P) ok2 hc e n h
  have many:∀ (vs:List Value) (xs us:List V),RelL (wd new A2 (PK lay P K) s2.heap) nl vs xs->a1y (frz reg nl d) xs = some us->RelL (wd lay A2.dropLast P s2.heap) (nl - 1) vs us:=by
   intro vs
   induction vs with
   | nil=>intro xs us h1 h2; cases h1; cases h2; exact .nil
   | cons v vs ih=>
    intro xs us h1 h2
    cases h1 with
    | cons h1 h1'=>
     obtain ⟨b,bs,q1,q2,rfl⟩:=a5q h2
     exact .cons (a6v hc ok2 hnl hr d _ _ _ h1 q1) (ih _ _ h1' q2)
  cases hv with
  | imm=>cases h; exact .imm
  | int=>cases h; exact .int
  | str=>cases h; exact .str
  | bytes=>cases h; exact .bytes
  | tup h1 h2 h3=>
   rename_i vs
   have h:(match a1y (frz reg nl d) vs with | some us=>some (V.tup us) | none=>none) = some u:=h
   cases e:a1y (frz reg nl d) vs with
   | none=>rw [e] at h; cases h
   | some us=>rw [e] at h; cases h; exact .tup (fun q=>h1 (av h2 rfl q)) h2 (many _ _ _ h3 e)
  | lst h1 h2 h3=>
   rename_i vs
   have h:(match a1y (frz reg nl d) vs with | some us=>some (V.lst us) | none=>none) = some u:=h
   cases e:a1y (frz reg nl d) vs with
   | none=>rw [e] at h; cases h
   | some us=>rw [e] at h; cases h; exact .lst (fun q=>h1 (av h2 rfl q)) h2 (many _ _ _ h3 e)
  | rng h1 h2=>cases h; exact .rng (fun q=>h1 (av h2 rfl q)) h2
  | @ref l i a h1 h2=>
   have h:(if l = nl then (match reg[i]? with | some (.list vs)=>(match a1y (frz reg nl d) vs with | some us=>some (V.lst us) | none=>none) | _=>none) else if l < nl then some (.ref l i) else none) = some u:=h
   split at h
   ·rename_i hln
    subst hln
    split at h
    ·rename_i vs hvs
     split at h
     ·cases h
      have hR:=a2e hr
      have hRl:st2.R.dropLast.length = l:=by rw [List.length_dropLast,ok2.rlen,Nat.add_sub_cancel]
      have ho:st2.obj l i = some (.list vs):=by
       unfold St.obj
       rw [hR,<- hRl,List.getElem?_concat_length]
       exact hvs
      obtain ⟨items,n,e,hrr⟩:=ok2.objs l i _ a ho h2
      refine .lst (fun q=>?_) e (many _ _ _ hrr ‹_›)
      rcases q with (⟨l',m,q⟩ | ⟨l',i',q⟩) | q
      ·exact ok2.disP a ⟨.inr ⟨l',m,q⟩,fun m=>by cases hc a m _ e⟩ (.inr ⟨_,_,h2⟩)
      ·obtain ⟨q1,q2⟩:=sub _ _ _ q
       have:=(ok2.inj _ _ _ _ _ h2 q1).1
       lia
      ·exact ok2.disP a ⟨.inl q,fun m=>by cases hc a m _ e⟩ (.inr ⟨_,_,h2⟩)
     ·cases h
    ·cases h
   ·split at h
    ·rename_i hlt
     cases h
     refine .ref (by lia) ?_
     show E4 A2.dropLast l i = some a
     rw [G7,hl,if_pos hlt]; exact h2
    ·cases h
end
end
section
theorem a6w {kindOf:Str->Option NameKind} {x:Str} (hk:kindOf x = some .local):∀ (binds:List (Str × Value)) (m:Str->Option Value),(binds.map (·.1)).Nodup->
  bindL kindOf binds m x = match binds.lookup x with | some v=>some v | none=>m x
 | [],_,_=>rfl
 | (n,v) :: r,m,h=>by
  obtain ⟨h1,h2⟩:=List.nodup_cons.mp h
  show bindL kindOf r (if kindOf n = some .local then fun y=>if y = n then some v else m y else m) x = _
  rw [a6w hk r _ h2,List.lookup_cons]
  by_cases q:x = n
  ·subst q
   have:r.lookup x = none:=by
    cases e:r.lookup x with
    | none=>rfl
    | some u=>exact absurd (List.mem_map.mpr ⟨_,mem_of_lookup e,rfl⟩) h1
   rw [this,if_pos hk]
   simp
  ·have q':(x == n) = false:=by simpa using q
   rw [q']
   dsimp only
   cases e:r.lookup x with
   | some u=>rfl
   | none=>
    by_cases hl:kindOf n = some .local
    ·rw [if_pos hl]; exact if_neg q
    ·rw [if_neg hl]
theorem a6x {kindOf:Str->Option NameKind} {x:Str} (hk:kindOf x = some .cell):∀ (binds:List (Str × Value)) (m:Str->Option Value),(binds.map (·.1)).Nodup->
  bindC kindOf binds m x = match binds.lookup x with | some v=>some v | none=>m x
 | [],_,_=>rfl
 | (n,v) :: r,m,h=>by
  obtain ⟨h1,h2⟩:=List.nodup_cons.mp h
  show bindC kindOf r (if kindOf n = some .local then m else fun y=>if y = n then some v else m y) x = _
  rw [a6x hk r _ h2,List.lookup_cons]
  by_cases q:x = n
  ·subst q
   have:r.lookup x = none:=by
    cases e:r.lookup x with
    | none=>rfl
    | some u=>exact absurd (List.mem_map.mpr ⟨_,mem_of_lookup e,rfl⟩) h1
   rw [this,if_neg (by rw [hk]; decide)]
   simp
  ·have q':(x == n) = false:=by simpa using q
   rw [q']
   dsimp only
   cases e:r.lookup x with
   | some u=>rfl
   | none=>
    by_cases hl:kindOf n = some .local
    ·rw [if_pos hl]
    ·rw [if_neg hl]; exact if_neg q
theorem a2p:∀ (ps:List Str) (vs:List Value) (i:Nat) (x:Str),ps.Nodup->ps.length = vs.length->ps[i]? = some x->(ps.zip vs).lookup x = vs[i]?
 | [],_,i,x,_,_,h=>by simp at h
 | p :: ps,[],_,_,_,h,_=>by simp at h
 | p :: ps,v :: vs,0,x,_,_,h=>by
  simp only [List.getElem?_cons_zero,Option.some.injEq] at h
  subst h
  simp
 | p :: ps,v :: vs,i + 1,x,hn,hl,h=>by
  obtain ⟨h1,h2⟩:=List.nodup_cons.mp hn
  rw [List.getElem?_cons_succ] at h
  have hx:x ≠ p:=fun q=>h1 (q ▸ List.mem_of_getElem? h)
  have hx':(x == p) = false:=by simpa using hx
  rw [List.zip_cons_cons,List.lookup_cons,hx',List.getElem?_cons_succ]
  exact a2p ps vs i x h2 (by simpa using hl) h
theorem U8 {ps:List Str} {vs:List Value} {x:Str} (h:x ∉ ps):(ps.zip vs).lookup x = none:=by
 cases e:(ps.zip vs).lookup x with
 | none=>rfl
 | some u=>exact absurd (List.of_mem_zip (mem_of_lookup e)).1 h
section
variable {B:Base} {H:Hn} {lay:List Loc} {P:Addr->Prop} {nl:Nat} {Ar:Around} {A:List (List Addr)} {st:St} {s:Shared} {E:Value->Shared->Prop}
theorem EnvOk.fn (hg:HOk B H) {fd:FuncData} (hk:fd.scope.kind = .function) {C:Addr} {cs:List (Str × Addr)} (hcell:∀ x,fd.scope.names.lookup x = some .cell->∃ c,cs.lookup x = some c)
  {cenv:Env} (h1:cenv.scope = fd.scope) (h2:cenv.locals = C) (h3:cenv.cells = cs) (h4:cenv.globals = mainGlobals) (h5:cenv.builtins = builtinsNs) (h6:cenv.code = fd.code) (h7:cenv.qual = fd.qualname ++ ".<locals>.") :
  EnvOk B (b6l H fd) cenv ((E1 fd.scope).map (F4 fd.scope C cs)):=by
 have kd:∀ x,cenv.kindOf x = fd.scope.names.lookup x:=fun x=>by unfold Env.kindOf; rw [h1]
 have slot:∀ x i,((E1 fd.scope).idxOf? x).map (0 + ·) = some i->((E1 fd.scope).map (F4 fd.scope C cs))[i]? = some (F4 fd.scope C cs x):=fun x i e=>by
  cases q:(E1 fd.scope).idxOf? x with
  | none=>rw [q] at e; cases e
  | some j=>
   rw [q] at e
   have e:0 + j = i:=Option.some.inj e
   rw [<- e,Nat.zero_add,List.getElem?_map,b1t q]
   rfl
 exact {
  kind:=by rw [h1]; exact hk
  globals:=h4
  builtins:=h5
  len:=by rw [List.length_map]; exact (Nat.zero_add _).symm
  var:=fun x i e=>by
   delta b6l I0 cx0 at e; dsimp only at e
   cases q:fd.scope.names.lookup x with
   | none=>rw [q] at e; cases e
   | some k=>
    rw [q] at e
    cases k with
    | «local»=>
     have:=slot x i e
     unfold F4 at this
     rw [q,if_neg (by decide)] at this
     exact .inl ⟨(kd x).trans q,h2 ▸ this⟩
    | cell=>
     have:=slot x i e
     unfold F4 at this
     rw [q,if_pos rfl] at this
     obtain ⟨c,hc⟩:=hcell x q
     rw [hc] at this
     exact .inr ⟨.inl ((kd x).trans q),c,h3 ▸ hc,this⟩
    | _=>cases e
  cell:=fun x e=>by
   delta b6l I0 cx0 at e; dsimp only at e
   cases q:fd.scope.names.lookup x with
   | none=>rw [q] at e; cases e
   | some k=>
    rw [q] at e
    cases k with
    | cell=>
     obtain ⟨c,hc⟩:=hcell x q
     exact ⟨.inl ((kd x).trans q),c,h3 ▸ hc⟩
    | _=>cases e
  code:=h6
  qual:=h7
  glob:=fun x v e=>by
   delta b6l I0 cx0 at e; dsimp only at e
   cases q:fd.scope.names.lookup x with
   | none=>rw [q] at e; cases e
   | some k=>
    rw [q] at e
    cases k with
    | globalImplicit=>exact ⟨(kd x).trans q,hg x v e⟩
    | _=>cases e
 }
theorem EnvOk.on {B:Base} {cx:CX} {env:Env} {lay:List Loc} (h:EnvOk B cx env lay) (frs:List Addr):EnvOk (B.on frs) cx env lay:=⟨h.kind,h.globals,h.builtins,h.len,h.var,h.cell,h.code,h.qual,h.glob⟩
theorem ArOk.deeper (ao:ArOk B Ar nl) (h:nl < 100) (env:Env) {L:Addr} (hf:env.frame = some L) (hk:env.scope.kind ≠ .module):ArOk (B.on (L :: B.frs)) (Ar.deeper env) (nl + 1):=
 ⟨ao.handled,by
  obtain ⟨l,h1,h2,h3⟩:=ao.frames
  refine ⟨env :: l,Around.frames_deeper h1,?_,?_⟩
  ·rw [List.map_cons,h2,hf]; rfl
  ·intro e m
   rcases List.mem_cons.mp m with rfl | m
   ·exact hk
   ·exact h3 e m,by have:=ao.depth; show Ar.depth + 1 <= _; lia,by have:=ao.units; show Ar.units + 3 <= _; lia,by lia⟩
theorem a2q {K:List Addr} (hg:HOk B H) {f:Fn} {o:Obj} {fd:FuncData} {body:List Stmt} {params:List Str} (fo:FnOk B H f o fd body params) (ok:Ok B lay P nl A st s) (hK:∀ b ∈ K,∃ l ∈ lay,l.addr = b) (ao:ArOk B Ar nl) (hroom:nl < 100)
  {items:List Value} {args:List V} {ks:List (Str × Value)} {kws:List (Str × V)} {vs:List V} (hr:RelL (wd lay A P s.heap) (nl - 1) items args) (hkw:RelK (wdK lay A P K s.heap) (nl - 1) ks kws)
  (hvs:T4 f args kws = some vs) {Q:Value->Shared->Prop}
  (KK:∀ (env:Env) (new:List Loc) (h1:Heap) (tk:Nat),EnvOk (B.on (s.heap.objs.size :: B.frs)) (b6l H fd) env new->ArOk (B.on (s.heap.objs.size :: B.frs)) (Ar.deeper env) (nl + 1)->d5d (Ar.deeper env) env->env.frame = some s.heap.objs.size->
   (∀ l ∈ new,s.heap.get? l.addr = none)->(∀ b o,s.heap.get? b = some o->h1.get? b = some o)->(∀ x,env.kindOf x = fd.scope.names.lookup x)->
   Ok (B.on (s.heap.objs.size :: B.frs)) new (PK lay P K) (nl + 1) (A ++ [[]]) { ρ:=G0 f.ns vs,R:=st.R ++ [[]] } { s with heap:=h1,toks:=tk }->
   wpAny (model B.prog B.w) (Ar.deeper env) (execs body env) (fun fl s'=>Q (match fl with | .ret v=>v | _=>.none) s')
    (fun e s'=>wpAny (model B.prog B.w) (Ar.deeper env) (leaving env e) (fun u_ s''=>E e s'') (fun e' s''=>E e' s'') s') { s with heap:=h1,toks:=tk }) :
  wpAny (model B.prog B.w) Ar (call (.ref f.addr) items ks) Q E s:=by
 obtain ⟨vals,hbt,hvr,hvl⟩:=fo.hbind (wdK lay A P K s.heap) (nl - 1) s items args ks kws vs ok.base rfl (hr.mono (a6u _) (Nat.le_refl _)) hkw hvs
 refine wpAny_call (codeAny_call_function (by have:=ao.depth; have:=ao.nl; unfold recursionLimit; lia) (ok.base _ _ fo.ho) fo.hd fo.hco fo.hgen fo.hbody (fo.hcd.keeps ok.base) (hbt _ _ _ _ ?_))
 rw [fo.hclo]
 have own:=a6p fo.hnd
 have hpn:params.Nodup:=by rw [<- fo.hpar]; exact own.sublist (List.take_sublist _ _)
 have hzm:(params.zip vals).map (·.1) = params:=List.map_fst_zip (by lia)
 have facts:=F7 fd.scope.names [] (s.heap.push { cls:=.type "frame",data:=.dict #[] }) fo.hnd
 rw [Heap.size_push] at facts
 obtain ⟨f1,f2,f3⟩:=facts
 have cellAddr:∀ x,fd.scope.names.lookup x = some .cell->∃ c,(cellsFrom (s.heap.objs.size + 1) fd.scope.names []).lookup x = some c /\ s.heap.objs.size + 1 <= c:=fun x q=>by
  obtain ⟨c,q1,_,q3⟩:=f2 x (mem_of_lookup q); exact ⟨c,q1,q3⟩
 refine wpAny_newFunctionEnv_cells fo.hkind (fun x mx=>?_) (fun env he s1 X=>?_)
 ·have hm:x.1 ∈ params:=by rw [<- hzm]; exact List.mem_map.mpr ⟨x,mx,rfl⟩
  rw [<- fo.hpar] at hm
  rcases a4o fo.hnd (List.mem_of_mem_take hm) with q | q
  ·exact .inl q
  ·obtain ⟨c,q1,_⟩:=cellAddr _ q
   exact .inr ⟨q,by rw [q1]; rfl⟩
 ·subst he
  obtain ⟨h1,tk,rfl,hk⟩:=X.done
  refine ⟨B.nolim.keeps fun b o e=>hk b o (ok.base b o e),codeAny_func ?_⟩
  generalize hcs:cellsFrom (s.heap.objs.size + 1) fd.scope.names [] = cs at *
  generalize henv:newEnv fd.scope s.heap.objs.size fd.globals cs (fd.qualname ++ ".<locals>.") (some f.addr) fd.code none fd.builtins = env at *
  have e1:env.scope = fd.scope:=by rw [<- henv]; rfl
  have hfrm:env.frame = some s.heap.objs.size:=by rw [<- henv]; rfl
  have e2':env.locals = s.heap.objs.size:=by rw [<- henv]; rfl
  have e3:env.cells = cs:=by rw [<- henv]; rfl
  have e4:env.globals = mainGlobals:=by rw [<- henv]; exact fo.hglob
  have e5:env.builtins = builtinsNs:=by rw [<- henv]; exact fo.hbuilt
  have hkd:∀ x,env.kindOf x = fd.scope.names.lookup x:=fun x=>by unfold Env.kindOf; rw [e1]
  have eo:=EnvOk.fn (C:=s.heap.objs.size) (cs:=cs) hg fo.hkind (fun x q=>let ⟨c,q1,_⟩:=cellAddr x q; ⟨c,q1⟩) e1 e2' e3 e4 e5 (by rw [<- henv]; rfl) (by rw [<- henv]; rfl)
  have hL:s.heap.get? s.heap.objs.size = none:=Heap.get?_none_of_le (Nat.le_refl _)
  have hnew:∀ l ∈ (E1 fd.scope).map (F4 fd.scope s.heap.objs.size cs),s.heap.get? l.addr = none:=fun l ml=>by
   obtain ⟨x,mx,rfl⟩:=List.mem_map.mp ml
   unfold F4
   split
   ·rename_i q
    obtain ⟨c,q1,q3⟩:=cellAddr x q
    rw [q1]
    exact Heap.get?_none_of_le (Nat.le_of_succ_le q3)
   ·exact hL
  have hvlen:vs.length = params.length:=hvr.1.symm.trans hvl
  have hple:params.length <= (E1 fd.scope).length:=by
   have:=congrArg List.length fo.hpar
   rw [List.length_take] at this; lia
  have hgetρ:∀ i x,(E1 fd.scope)[i]? = some x->∀ w:Wd,Wd.Le (nl - 1) (wdK lay A P K s.heap) w->RelO w nl ((params.zip vals).lookup x) ((G0 f.ns vs)[i]?).join:=fun i x hi w le=>by
   unfold G0
   by_cases hlt:i < params.length
   ·have hpi:params[i]? = some x:=by
     rw [<- fo.hpar,List.getElem?_take_of_lt hlt]; exact hi
    rw [a2p params vals i x hpn hvl.symm hpi,List.getElem?_append_left (by rw [List.length_map,hvlen]; exact hlt),List.getElem?_map]
    cases hv:vs[i]? with
    | none=>have:=List.getElem?_eq_none_iff.mp hv; lia
    | some u=>
     have:=(hvr.2 i).mono le (Nat.sub_le _ _)
     rw [hv] at this
     exact this
   ·have hnp:x ∉ params:=fun m=>by
     obtain ⟨j,hj⟩:=List.mem_iff_getElem?.mp m
     have hjl:=(List.getElem?_eq_some_iff.mp hj).1
     have hj':(E1 fd.scope)[j]? = some x:=by
      rw [<- fo.hpar,List.getElem?_take_of_lt hjl] at hj; exact hj
     obtain ⟨hjl',_⟩:=List.getElem?_eq_some_iff.mp hj'
     have:=(List.getElem?_inj hjl' own).mp (hj'.trans hi.symm)
     lia
    rw [U8 hnp,List.getElem?_append_right (by rw [List.length_map,hvlen]; lia)]
    have:((List.replicate (f.ns - vs.length) (none:Option V))[i - (vs.map some).length]?).join = none:=by
     cases q:(List.replicate (f.ns - vs.length) (none:Option V))[i - (vs.map some).length]? with
     | none=>rfl
     | some u=>have:=List.eq_of_mem_replicate (List.mem_of_getElem? q); rw [this]; rfl
    rw [this]
    exact .none
  have ok1:=ok.enter (K:=K) (ρ:=G0 f.ns vs) (tk:=tk) hK hnew hk (by simp only [G0,List.length_append,List.length_map,List.length_replicate]; rw [fo.hns]; lia) (fun w hw le i l hi=>by
    rw [List.getElem?_map] at hi
    cases q:(E1 fd.scope)[i]? with
    | none=>rw [q] at hi; cases hi
    | some x=>
     rw [q] at hi
     have hi:F4 fd.scope s.heap.objs.size cs x = l:=Option.some.inj hi
     have key:=hgetρ i x q w le
     rcases a4o fo.hnd (List.mem_of_getElem? q) with k | k
     ·unfold F4 at hi
      rw [k,if_neg (by decide)] at hi
      subst hi
      refine ⟨_,by rw [hw,<- e2']; exact X.toInCall.ns,?_⟩
      rw [a6w ((hkd x).trans k) _ _ (by rw [hzm]; exact hpn)]
      generalize (params.zip vals).lookup x = oo at key
      cases oo <;> exact key
     ·unfold F4 at hi
      obtain ⟨c,q1,_⟩:=cellAddr x k
      rw [k,if_pos rfl,q1] at hi
      subst hi
      refine ⟨_,by rw [hw]; exact X.cell x c (by rw [e3]; exact q1),?_⟩
      rw [a6x ((hkd x).trans k) _ _ (by rw [hzm]; exact hpn)]
      generalize (params.zip vals).lookup x = oo at key
      cases oo <;> exact key) (fun l ml=>by
    obtain ⟨x,mx,rfl⟩:=List.mem_map.mp ml
    rcases a4o fo.hnd mx with k | k
    ·unfold F4
     rw [k,if_neg (by decide)]
     obtain ⟨oo,_,_,q,_⟩:=X.toInCall.ns
     exact ⟨oo,by rw [<- e2']; exact q⟩
    ·obtain ⟨c,q1,_⟩:=cellAddr x k
     unfold F4
     rw [k,if_pos rfl,q1]
     obtain ⟨oo,q,_⟩:=X.cell x c (by rw [e3]; exact q1)
     exact ⟨oo,q⟩) (fun i j l l' hi hj hij=>by
    rw [List.getElem?_map] at hi hj
    cases q:(E1 fd.scope)[i]? with
    | none=>rw [q] at hi; cases hi
    | some x=>
     cases q':(E1 fd.scope)[j]? with
     | none=>rw [q'] at hj; cases hj
     | some y=>
      rw [q] at hi; rw [q'] at hj
      have hi:F4 fd.scope s.heap.objs.size cs x = l:=Option.some.inj hi
      have hj:F4 fd.scope s.heap.objs.size cs y = l':=Option.some.inj hj
      subst hi; subst hj
      have hxy:x ≠ y:=fun w=>by
       subst w
       obtain ⟨hil,_⟩:=List.getElem?_eq_some_iff.mp q
       exact hij ((List.getElem?_inj hil own).mp (q.trans q'.symm))
      unfold F4
      split <;> split
      ·rename_i w w'
       obtain ⟨c,q1,_⟩:=cellAddr x w
       obtain ⟨c',q1',_⟩:=cellAddr y w'
       rw [q1,q1']
       intro w2
       have w3:c = c':=w2
       subst w3
       exact hxy (f3 x y c (mem_of_lookup w) (mem_of_lookup w') q1 q1')
      ·rename_i w w'
       obtain ⟨c,q1,q3⟩:=cellAddr x w
       rw [q1]
       exact fun w=>Nat.lt_irrefl _ (show s.heap.objs.size < s.heap.objs.size from w ▸ q3)
      ·rename_i w w'
       obtain ⟨c,q1,q3⟩:=cellAddr y w'
       rw [q1]
       exact fun w=>Nat.lt_irrefl _ (show s.heap.objs.size < s.heap.objs.size from w ▸ q3)
      ·exact .inr hxy) (frs:=s.heap.objs.size :: B.frs) (fun M m=>by
    rcases List.mem_cons.mp m with rfl | m
    ·obtain ⟨oo,es,ep,q,q2,_⟩:=X.toInCall.ns
     exact .inr ⟨hL,oo,es,ep,by rw [<- e2']; exact q,q2⟩
    ·exact .inl m)
  exact KK env _ h1 tk (eo.on _) (ao.deeper hroom env hfrm (by rw [e1,fo.hkind]; decide)) (let ⟨l,h1,_⟩:=ao.frames; ⟨l,Around.frames_deeper h1⟩) hfrm hnew hk hkd ok1
end
section
variable {P:Pg} {st st1 st2:St}
theorem a2r {B:Base} {lay new:List Loc} {P:Addr->Prop} {nl:Nat} {A A2:List (List Addr)} {st:St} {s s' s2:Shared} {K:List Addr} (hK:∀ b ∈ K,∃ l ∈ lay,l.addr = b) (ok:Ok B lay P nl A st s) (hc:b5e K s.heap) (hf:∀ l ∈ new,s.heap.get? l.addr = none) (hk:∀ b o,s.heap.get? b = some o->s'.heap.get? b = some o) (g:Go new (A ++ [[]]) A2 s' s2):b5e K s2.heap:=fun b m o e=>by
 obtain ⟨l,ml,q⟩:=hK b m
 obtain ⟨o1,e1⟩:=ok.alive b (.inl (.inl ⟨l,ml,q⟩))
 obtain ⟨sl,e2,_⟩:=g.keep b o1 (hk b o1 e1) fun t=>by
  rcases t with ⟨x,mx,w⟩ | ⟨k,i,w⟩
  ·have:=hf x mx; rw [w,e1] at this; cases this
  ·rw [D9] at w; exact ok.layA l ml k i (q ▸ w)
 rw [e2] at e
 cases e
 exact hc b m o1 e1
noncomputable def Call (P:Pg) (f:Fn) (args:List V) (kw:List (Str × V)) (st:St) (z:V) (st':St):Prop:=∀ (c:Cf P) o fd body params,FnOk c.B c.H f o fd body params->∀ A s F K,c.Ok A st s->(∀ b ∈ K,∃ l ∈ c.lay,l.addr = b)->b5e K s.heap->∀ items ks,RelL (c.wd A s.heap) (c.nl - 1) items args->RelK (wdK c.lay A c.Q K s.heap) (c.nl - 1) ks kw->
 c.W (call (.ref f.addr) items ks) (c.Po A s st' z RV) F s
theorem c4v {f:Fn} {args kw vs fl st2 z reg} (hR:st.R.length < 100) (hb:T4 f args kw = some vs) (h:X P f.body ⟨G0 f.ns vs,st.R ++ [[]]⟩ fl st2) (hreg:st2.R.getLast? = some reg) (hz:fl = .next /\ z = .imm .none ∨ ∃ v,fl = .ret v /\ frz reg st.R.length 4 v = some z) :
  Call P f args kw st z ⟨st.ρ,st2.R.dropLast⟩:=by
 intro c o fd body params fo A s F K ok hK hKc items ks hr hkw
 obtain ⟨n,d,hcomp⟩:=fo.hcomp
 rw [ok.rlen] at hR
 refine a2q (K:=K) c.wl.hg fo ok hK c.ao hR hr hkw hb fun env new h1 tk eo ao' hdf u_ hnew hk u_ ok1=>?_
 refine wpAny_mono (Cf.go (c:=⟨c.B.on (s.heap.objs.size :: c.B.frs),c.H,b6l c.H fd,env,new,PK c.lay c.Q K,c.nl + 1,c.Ar.deeper env,c.wl.on _,eo,ao'⟩) (h.at _ n d body hdf hcomp) ok1 (Q:=fun fl s'=>c.Po A s ⟨st.ρ,st2.R.dropLast⟩ z RV (match fl with | .ret v=>v | _=>.none) s') (E:=fun u_ u_=>False) fun flv s3 A3 g3 ok3 r3=>?_) (fun u_ u_ h=>h) (fun u_ u_ h=>h.elim)
 have hgo:=a4r (s':={ s with heap:=h1,toks:=tk }) ok ok3 hnew hk ⟨rfl,rfl,rfl⟩ g3
 have hc3:=a2r hK ok hKc hnew hk g3
 have hok:=Ok.leave (s':={ s with heap:=h1,toks:=tk }) (fun u_ m=>.tail _ m) ok hK hc3 ok3 hnew hk ⟨rfl,rfl,rfl⟩ g3
 rcases hz with ⟨rfl,rfl⟩ | ⟨v,rfl,hu⟩
 ·cases r3
  exact ⟨_,hgo,hok,.imm⟩
 ·cases r3 with
  | ret r3=>
   rw [ok.rlen] at hu
   exact ⟨_,hgo,hok,a6v hc3 ok3 ok.lvl hreg 4 _ _ _ r3 hu⟩
theorem H7 {f:Fn} {args kw vs v u ρ2 R2 reg} (hR:st.R.length < 100) (hb:T4 f args kw = some vs) (h:X P f.body ⟨G0 f.ns vs,st.R ++ [[]]⟩ (.ret v) ⟨ρ2,R2 ++ [reg]⟩) (hu:frz reg st.R.length 4 v = some u):Call P f args kw st u ⟨st.ρ,R2⟩:=by
 have:=c4v hR hb h (List.getLast?_concat ..) (.inr ⟨v,rfl,hu⟩)
 rwa [List.dropLast_concat] at this
theorem b5f {f:Fn} {args kw vs ρ2 R2 reg} (hR:st.R.length < 100) (hb:T4 f args kw = some vs) (h:X P f.body ⟨G0 f.ns vs,st.R ++ [[]]⟩ .next ⟨ρ2,R2 ++ [reg]⟩):Call P f args kw st (.imm .none) ⟨st.ρ,R2⟩:=by
 have:=c4v hR hb h (List.getLast?_concat ..) (.inl ⟨rfl,rfl⟩)
 rwa [List.dropLast_concat] at this
theorem Q6 {a f args kw v} (hf:P.fns.find? (fun f=>f.addr == a) = some f) (h:Call P f args kw st v st1):Ap P (.imm (.ref a)) args kw st v st1:=fun c A s F ok fv items ks hfv hr hk=>by
 obtain ⟨o,fd,body,params,fo⟩:=c.wl.pg f (List.mem_of_find?_eq_some hf)
 have ha:=List.find?_some hf
 obtain rfl:=beq_iff_eq.mp ha
 cases hfv
 exact ⟨.inr ⟨_,o,fd,rfl,ok.base _ _ fo.ho,fo.hd⟩,h c o fd body params fo A s F [] ok (fun u_ m=>nomatch m) (fun u_ m=>nomatch m) items ks hr (hk.mono (a6u _) (Nat.le_refl _))⟩
theorem N3 {n args v} (h:biV st n args = some (v,st1)):Ap P (.imm (.builtin n)) args [] st v st1:=fun c A s F ok fv items ks hfv hr hk=>by
 cases hfv
 cases hk
 exact ⟨.inl fun a q=>(nomatch q),b4o ok c.ao.handled hr h⟩
theorem b5g {n args v} (h:tyV st n args = some (v,st1)):Ap P (.imm (.type n)) args [] st v st1:=fun c A s F ok fv items ks hfv hr hk=>by
 cases hfv
 cases hk
 exact ⟨.inl fun a q=>(nomatch q),b4p ok c.ao.handled hr h⟩
end
end
section
section
variable {B:Base} {Ar:Around} {E:Value->Shared->Prop} {s:Shared}
theorem a3p {it l:Addr} {i:Nat} {items:Array Value} {Q:Value->Shared->Prop} (hh:Ar.handled = none) (hit:s.heap.IsListIter it l i) (hl:s.heap.IsList l items) (hx:items[i]? = none)
  (hE:∀ h1 h' e t oe vs,Heap.SameBut it s.heap h1->(∃ o,h1.get? it = some o /\ Nd o)->(∀ b o,h1.get? b = some o->h'.get? b = some o)->h1.get? e = none->h'.get? e = some oe->oe.cls = .type "StopIteration" -> oe.data = .fields vs->vs[0]? = some (.ref t)->vs[1]? = some .none->E (.ref e) { s with heap:=h' }) :
  wpAny (model B.prog B.w) Ar (call (.builtin "next") [.ref it]) Q E s:=by
 obtain ⟨o,ho,hc,hd⟩:=id hit
 obtain ⟨ol,hol,_,n,hdl⟩:=hl
 refine Calls.call_function_entry (by decide +kernel) (by decide +kernel) kdk_entry_next (kdk_args_next _) ?_
 unfold Builtin.«next»
 refine wpAny_bind (m:=someArgs "next" 1 2 _) (wpAny_of_eq (a:=[Value.ref it]) (by first | rfl | kernel_rfl!) ?_)
 dsimp only
 refine wpAny_bind (wpAny_specialOf (name:=Str.ofString "__next__") hit.typeIs slot_listiter_next.lookup ?_)
 refine wpAny_ite_split (fun hab=>absurd hab (by decide)) (fun u_=>?_)
 refine wpAny_bind (wpAny_callSpecial?_slot (name:=Str.ofString "__next__") hit.typeIs slot_listiter_next
  (wpAny_call_entry slot_listiter_next hit.typeIs entry_listiter_next ?_ (args_listiter_next _)))
 show wpAny _ _ (field (.ref it) 0 >>= _) _ _ s
 refine wpAny_bind (wpAny_field ho hd (x:=.ref l) rfl ?_)
 show wpAny _ _ (if (Value.ref l == Value.none) = true then _ else _) _ _ s
 rw [if_neg (show ¬ ((Value.ref l == Value.none) = true) from Bool.false_ne_true)]
 show wpAny _ _ (field (.ref it) 1 >>= _) _ _ s
 refine wpAny_bind (wpAny_field ho hd (x:=.int i 0) rfl ?_)
 show wpAny _ _ (seqItems? (.ref l) >>= _) _ _ s
 refine wpAny_bind (wpAny_seqItems hol hdl ?_)
 simp only [Int.toNat_natCast,hx]
 refine wpAny_bind (wpAny_rule (wpAny_bind (wpAny_setField ho hd (by simp) ?_)))
 show wpAny _ _ (newExc (.type "StopIteration") [] >>= _) _ _ _
 refine wpAny_bind ?_
 simp only [newExc,newTuple]
 refine wpAny_bind (wpAny_newObj_type ?_ (by size_fits))
 refine wpAny_bind (m:=firstArgMember _ _) (wpAny_of_eq (a:=Value.none) (by first | rfl | (simp only [firstArgMember]; rfl)) ?_)
 refine wpAny_newObj_type ?_ (by size_fits)
 delta raiseNew
 refine wpAny_bind (wpAny_handled ?_)
 have hs:Heap.SameBut it s.heap (s.heap.update it (Obj.mapFields (·.setIfInBounds 0 Value.none))):=Heap.SameBut.update ..
 have ho1:=Heap.get?_update_self (Obj.mapFields (·.setIfInBounds 0 Value.none)) ho (Obj.isFreed_of_fields (Obj.data_mapFields hd _))
 generalize hh1:s.heap.update it (Obj.mapFields (·.setIfInBounds 0 Value.none)) = h1 at *
 rw [show Ar.in1.in1.handled = none from hh]
 refine wpAny_bind (wpAny_pure (wpAny_throw ?_))
 refine hE h1 _ _ h1.objs.size _ _ hs ⟨_,ho1,fun es ep q=>by rw [Obj.data_mapFields hd] at q; cases q⟩ (fun b o e=>Heap.get?_push_of_some _ (Heap.get?_push_of_some _ e)) ?_ (Heap.get?_push_size _ rfl) rfl rfl ?_ ?_
 ·exact Heap.get?_none_of_le (Nat.le_of_lt (by rw [Heap.size_push]; exact Nat.lt_succ_self _))
 ·exact Array.getElem?_append_left (by simp)
 ·exact Array.getElem?_append_left (by simp)
end
theorem a9h {w:Wd} {w':Wd} {l:Nat} {a:Addr} {o:AObj} (le:Wd.Le l w w') (ha:∀ q,w.h.get? a = some q->Nd q->w'.h.get? a = some q) (h:L3 w l a o)
  (hm:∀ b q,w.h.get? b = some q->w'.M b->w.M b) (hd:∀ q,w.h.get? a = some q->w'.h.get? a = some q):L3 w' l a o:=by
 cases o with
 | list vs=>obtain ⟨items,n,h3,h4⟩:=h; exact ⟨items,n,ha _ h3 (fun u_ u_ q=>nomatch q),h4.mono le (Nat.le_refl _)⟩
 | iter vs=>obtain ⟨b,items,n,j,h3,h5,h6,h4⟩:=h; exact ⟨b,items,n,j,ha _ h3 (fun u_ u_ q=>nomatch q),fun x=>h5 (hm _ _ h6 x),(le.keep _ _ h6 h5).at (G8 rfl),h4.mono le (Nat.le_refl _)⟩
 | tab c q=>exact TabRep.mono le ha h
 | dead=>obtain ⟨o,h3,h4⟩:=h; exact ⟨o,ha _ h3 h4,h4⟩
 | dct kvs=>exact DctRep.at (h:=w.h) h hd
section
variable {B:Base} {lay:List Loc} {P:Addr->Prop} {nl:Nat} {A:List (List Addr)} {st:St} {s:Shared}
theorem Ok.setObjK (ok:Ok B lay P nl A st s) {l i:Nat} {a:Addr} {o':AObj} {h':Heap} {tk:Nat} (hl:E4 A l i = some a)
  (hb:∀ b o,B.h₀.get? b = some o->h'.get? b = some o) (hk:∀ b o,b ≠ a->s.heap.get? b = some o->Kp h' b o) (hx:∀ b o,b ≠ a->b ∉ B.frs->s.heap.get? b = some o->h'.get? b = some o) (ho:L3 (wd lay A P h') l a o') :
  Ok B lay P nl A (st.setObj l i o') { s with heap:=h',toks:=tk } /\ Go lay A A s { s with heap:=h',toks:=tk }:=by
 have ta:Tch lay A a:=.inr ⟨l,i,hl⟩
 have hlive:∀ b o,s.heap.get? b = some o->∃ o',h'.get? b = some o':=fun b o e=>by
  by_cases q:b = a
  ·subst q; exact a0l ho
  ·exact (hk b o q e).live
 have g:Go lay A A s { s with heap:=h',toks:=tk }:=⟨fun b o e h=>hk b o (fun q=>h (q ▸ ta)) e,hlive,fun u_ u_ u_ e=>e,fun u_ u_ u_ e=>.inl e,rfl,rfl,rfl⟩
 have le:=fun lv=>g.le P lv
 refine ⟨?_,g⟩
 exact {
  base:=hb
  baseM:=ok.baseM
  frs:=fun L m=>by
   obtain ⟨o,es,ep,h1,h2,h3⟩:=ok.frs L m
   obtain ⟨sl,e,_⟩:=hk L o (fun q=>h3.2 l i (q ▸ hl)) h1
   exact ⟨_,es,ep,e,h2,h3⟩
  len:=ok.len
  slots:=fun j lo e=>Z9 (le _) (fun q hq=>hk _ _ (fun x=>ok.layA lo (List.mem_of_getElem? e) l i (x ▸ hl)) hq) (by rw [show (st.setObj l i o').ρ = st.ρ from rfl]; exact ok.slots j lo e)
  sep:=ok.sep
  lenA:=by rw [O5]; exact ok.lenA
  dimA:=fun l' i'=>by
   rw [a2d]
   split
   ·rename_i q
    obtain ⟨rfl,rfl⟩:=q
    obtain ⟨o,e⟩:=ok.obj_of hl
    rw [e,hl]; simp
   ·exact ok.dimA l' i'
  objs:=fun l' i' o b h1 h2=>by
   rw [a2d] at h1
   split at h1
   ·rename_i q
    obtain ⟨rfl,rfl⟩:=q
    obtain ⟨o₀,e⟩:=ok.obj_of hl
    rw [e] at h1; cases h1
    rw [hl] at h2; cases h2
    exact ho
   ·rename_i q
    have hne:b ≠ a:=fun x=>q (ok.inj l' i' l i b h2 (x ▸ hl))
    exact a9h (le _) (fun q hq nd=>(hk _ _ hne hq).at nd) (ok.objs l' i' o b h1 h2) (fun u_ u_ u_ h=>h) fun q hq=>hx _ _ hne (fun m=>let ⟨_,_,_,_,_,_,h4⟩:=ok.frs b m; h4 _ _ h2) hq
  inj:=ok.inj
  layA:=ok.layA
  disP:=ok.disP
  alive:=fun b h=>let ⟨o,e⟩:=ok.alive b h; hlive b o e
  rlen:=by rw [O5]; exact ok.rlen
  lvl:=ok.lvl }
end
theorem d3r {h base:Heap}:∀ {l:List Env} {frs:List Addr},c9i l frs->(∀ L ∈ frs,base.get? L = none /\ ∃ o es ep,h.get? L = some o /\ o.data = .dict es ep)->h.FunFrames base l
 | [],_,_,_=>trivial
 | env :: l,[],fe,_=>by have:=fe.1; simp at this
 | env :: l,L :: frs,fe,hf=>by
  have e:=fe.1
  rw [List.map_cons,List.map_cons] at e
  injection e with e1 e2
  obtain ⟨h1,o,es,ep,h2,h3⟩:=hf L (.head _)
  exact ⟨fe.2 env (.head _),⟨L,o,e1,h1,h2,fun vs q=>by rw [h3] at q; cases q⟩,d3r ⟨e2,fun x m=>fe.2 x (.tail _ m)⟩ fun M m=>hf M (.tail _ m)⟩
theorem a9i:isSubtype (.type "StopIteration") (.type "BaseException") = pure true:=by rw [isSubtype_type]; kernel_rfl
theorem a1b:isSubtype (.type ((Manifest.find? "StopIteration").elim "type" fun x=>x.metatype)) (.type "tuple") = pure false:=by
 rw [show ((Manifest.find? "StopIteration").elim "type" fun x=>x.metatype) = "type" from by kernel_rfl,isSubtype_type]; kernel_rfl
theorem b5h:isSubtype (.type "StopIteration") (.type "StopIteration") = pure true:=by rw [isSubtype_type]; kernel_rfl
section
variable {P:Pg} {st:St}
@[elab_as_elim] theorem b5i {H:Hn} {n d:Nat} {cx:CX} {s:Stmt} {R:Stmt->Prop} {i j:Nat} (h:a0w H n d cx s (.readEnd i j) = true)
  (K:∀ e t y p4 p5 p8 p9 p10,S3 cx.gl (.ref H.pv) (B5 e) (fun as=>one as (c2r cx.res j)) = true->d7q cx.gl (.type "StopIteration") t = true->c2r cx.res i y = true->R (.Try [.Return (some (.List [e] p4)) p5] [.ExceptHandler (some t) none [.Return (some y) p8] p9] [] [] p10)):R s:=
 I1 h fun u_ tg h=>by
  obtain ⟨h1,h2⟩:=B1 h
  obtain ⟨h2,h3⟩:=B1 h2
  obtain ⟨s1,ha,h2⟩:=a5n h2
  obtain ⟨hd,hh,h3⟩:=a5n h3
  refine S4 tg (x:=.Try [s1] [hd] [] [] _) (show Stmt.Try (G1 _).a (G1 _).hs (G1 _).b (G1 _).d (G1 _).p = _ by rw [ha,hh,List.isEmpty_iff.mp (B1 h1).1,List.isEmpty_iff.mp (B1 h1).2]) ?_
  obtain ⟨t,nm,b,p⟩:=hd
  obtain ⟨hn,h3⟩:=B1 h3
  cases nm with
  | some _=>exact (Bool.false_ne_true hn).elim
  | none=>
  obtain ⟨t,ht,h3⟩:=W8 h3
  subst ht
  obtain ⟨h5,h4⟩:=B1 h3
  obtain ⟨s2,hb,h4⟩:=a5n h4
  subst hb
  refine b7d (R:=fun s=>R (.Try [s] _ [] [] _)) h2 fun e1 p5 he=>b7d (R:=fun s=>R (.Try _ [.ExceptHandler _ _ [s] _] [] [] _)) h4 fun y p8 hy=>?_
  obtain ⟨h13,he⟩:=B1 he
  obtain ⟨e2,h6,he⟩:=a5n he
  rw [<- (b0y (C3 h13)).symm.trans (D6 e1),h6]
  exact K e2 t y _ p5 p8 p _ he h5 hy
theorem b7k {c:Cf P} {Ar:Around} {A s y i v} {F:Value->Shared->Prop} {Q:Value->Shared->Prop} (h:c2r c.cx.res i y = true) (ok:c.Ok A st s) (hv:st.ρ[i]? = some (some v)) (hc:v.isClo = false) (k:∀ u,c.Rel A s u v->Q u s):wpAny (model c.B.prog c.B.w) Ar (eval y c.env) Q F s:=
 G6 (R:=fun y=>wpAny (model c.B.prog c.B.w) Ar (eval y c.env) Q F s) (L0 (C3 (B1 h).1)) (O9 ok (B1 h).2 hv fun u hu=>k u (hu.rel hc))
theorem b5j {c:Cf P} {Ar:Around} {s y v} {F:Value->Shared->Prop} {Q:Value->Shared->Prop} (h:d7q c.cx.gl v y = true) (base:∀ b o,c.B.h₀.get? b = some o->s.heap.get? b = some o) (k:Q v s):wpAny (model c.B.prog c.B.w) Ar (eval y c.env) Q F s:=
 G6 (R:=fun y=>wpAny (model c.B.prog c.B.w) Ar (eval y c.env) Q F s) (L0 (C3 (B1 h).1)) (a2k base (B1 h).2 k)
theorem b7l {c:Cf P} {A s e j v fv} {F:Value->Shared->Prop} {Q:Value->Shared->Prop} (h:S3 c.cx.gl fv (B5 e) (fun as=>one as (c2r c.cx.res j)) = true) (ok:c.Ok A st s) (hk:c9k s fv) (hv:st.ρ[j]? = some (some v)) (hc:v.isClo = false)
  (k:∀ u,c.Rel A s u v->c.W (call fv [u] []) Q F s):c.W (eval e c.env) Q F s:=by
 refine b1i h fun y p as q hg ha=>?_
 obtain ⟨a,rfl,ha⟩:=a5n ha
 refine wpAny_Call_Name_kw (L4 ok hg ?_)
 rw [X0 fun q=>(nomatch (C3 (B1 ha).1).symm.trans q)]
 exact E0 rfl (Calls.evalArgs_plain (Calls.spliced_cons (b7k ha ok hv hc fun u hu=>Calls.spliced_nil ⟨hk,k u hu⟩)))
theorem a9j {told tells l k v} (hroom:st.R.length < 100) (hj:st.ρ[tells]? = some (some (.ref l k))) (hobj:st.obj l k = some (.iter [])) (hv:st.ρ[told]? = some (some v)) (hcv:v.isClo = false:=by rfl):X1 P (.readEnd told tells) st (.ret v) (st.setObj l k .dead):=⟨rfl,fun c n u_ u_ hdf h A s E ok=>b5i h fun e t y p4 p5 p8 p9 p10 he ht hy=>by
 rw [ok.rlen] at hroom
 obtain ⟨f,o,fd,rest,params,b,ne,q,rd⟩:=c.wl.rd
 have fo:=rd.fo
 have eo:=c.eo
 have ao:=c.ao
 refine wpAny_mono (Q:=c.Po A s (st.setObj l k .dead) (Fl.ret v) RelF) (E:=fun u_ u_=>False) ?_ (fun u_ u_ h=>h) (fun u_ u_ h=>h.elim)
 refine wpAny_Try_except (wpAny_execs_cons (wpAny_Return_some (wpAny_List ?_)))
 rw [X0 fun q=>nomatch (K8 he).symm.trans q]
 refine Calls.spliced_cons ?_
 refine b7l he ok (.inr ⟨_,o,fd,congrArg Value.ref rd.addr.symm,ok.base _ _ fo.ho,fo.hd⟩) hj rfl fun u hu=>?_
 rw [<- rd.addr]
 refine a2q (K:=[]) c.wl.hg fo ok (fun u_ m=>nomatch m) ao hroom (.cons hu .nil) .nil (rd.bi _) fun env2 new h1 tk eo2 ao2 hdf2 hfr2 hnew hk1 hkd ok1=>?_
 refine wpAny_execs_cons ?_
 rw [U7]
 refine wpAny_bind (wpAny_standAt ?_)
 rw [a4q (fun q=>nomatch (K8 rd.ask).symm.trans q) (fun q=>nomatch (K8 rd.ask).symm.trans q)]
 refine wpAny_bind (wpAny_pure ?_)
 rw [if_neg Bool.false_ne_true]
 refine wpAny_bind ?_
 refine b7l (c:=⟨c.B.on (s.heap.objs.size :: c.B.frs),c.H,b6l c.H fd,env2,new,PK c.lay c.Q [],c.nl + 1,c.Ar.deeper env2,c.wl.on _,eo2,ao2⟩) rd.ask ok1 (.inl (fun a q=>nomatch q)) (v:=.ref l k) rfl rfl fun u2 hu2=>?_
 obtain ⟨hle2,hlook2⟩ : l <= c.nl + 1 - 1 /\ ∃ a,u2 = .ref a /\ E4 (A ++ [[]]) l k = some a:=by
  cases hu2 with | ref h1 h2=>exact ⟨h1,_,rfl,h2⟩
 obtain ⟨a,rfl,hlook2⟩:=hlook2
 have hlook:E4 A l k = some a:=by rw [<- D9]; exact hlook2
 obtain ⟨b0,items,ni,i0,e1,e2,e3,e4⟩:=ok.objs l k _ a hobj hlook
 have hend:items.toArray[i0]? = none:=by
  have:items.drop i0 = []:=by
   generalize items.drop i0 = zs at e4
   cases e4; rfl
  simpa using drop_nil this
 refine a3p (B:=c.B.on (s.heap.objs.size :: c.B.frs)) ao2.handled ⟨_,hk1 _ _ e1,rfl,rfl⟩ (B8 (hk1 _ _ e3)) hend fun h2 h3 ea t oe vs hs ha2 hk3 hea he3 hec hed hv0 hv1=>?_
 obtain ⟨l0,hl0,fe0⟩:=ao.frames
 obtain ⟨oa,hoa,hnda⟩:=ha2
 have hfrs:∀ L ∈ s.heap.objs.size :: c.B.frs,∃ o es ep,h2.get? L = some o /\ o.data = .dict es ep:=fun L m=>by
  obtain ⟨o,es,ep,q1,q2,_⟩:=ok1.frs L m
  refine ⟨o,es,ep,(hs.2 L fun q=>?_).trans q1,q2⟩
  subst q
  have q3:h1.get? L = some o:=q1
  rw [hk1 _ _ e1] at q3
  cases q3; cases q2
 have haf:a ∉ s.heap.objs.size :: c.B.frs:=fun m=>by
  obtain ⟨o,es,ep,q1,q2⟩:=hfrs a m
  rw [hoa] at q1; cases q1
  exact hnda _ _ q2
 generalize hbase:hideAll h2 (s.heap.objs.size :: c.B.frs) = base
 have hbn1:∀ L ∈ s.heap.objs.size :: c.B.frs,base.get? L = none:=fun L m=>hbase ▸ hideAll_none _ m
 have hbg:∀ b o,h2.get? b = some o->b ∉ s.heap.objs.size :: c.B.frs->base.get? b = some o:=fun b o q m=>hbase ▸ hideAll_get _ q m
 have hbo:∀ b o,base.get? b = some o->h2.get? b = some o:=fun b o q=>of_hideAll (s.heap.objs.size :: c.B.frs) (hbase ▸ q)
 have hen:base.get? ea = none:=by
  cases q:base.get? ea with
  | none=>rfl
  | some o=>rw [hbo _ _ q] at hea; cases hea
 have fe2:c9i (env2 :: l0) (s.heap.objs.size :: c.B.frs):=by
  obtain ⟨l2,q1,q2⟩:=ao2.frames
  rw [Around.frames_deeper hl0] at q1
  cases q1; exact q2
 refine wpAny_leaving_firstW (base:=base) (outer:=l0) (Around.frames_deeper hl0) (d3r fe2 fun L m=>⟨hbn1 L m,let ⟨o,es,ep,q1,q2⟩:=hfrs L m; ⟨o,es,ep,hk3 _ _ q1,q2⟩⟩) hfr2 he3 (fun b o q=>hk3 _ _ (hbo _ _ q)) hen hed hv1 hv0 fun h4 hL=>?_
 obtain ⟨k1,k2,k3,k4⟩:=hL
 obtain ⟨ll,hll⟩:=hdf
 rw [hl0] at hll
 cases hll
 have fl4:Heap.FlyingW base (c.env :: ll) ea oe.cls (.ref t) h4:=⟨k1,hen,k2.2.2,k3⟩
 obtain ⟨_,⟨L,_,hf,_⟩,_⟩:=k2.2.2
 refine wpAny_looks_onW hl0 hf fl4 fun h5 held5 u45=>?_
 refine wpAny_landsW held5 fun h6 fl6 u56=>?_
 rw [hec] at fl6
 have inb:∀ (h':Heap),base.StaysIn h'->∀ b o,c.B.h₀.get? b = some o->h'.get? b = some o:=fun h' hst b o q=>by
  have hb:b ∉ s.heap.objs.size :: c.B.frs:=fun m=>by
   obtain ⟨_,_,_,_,_,q3⟩:=ok1.frs b m
   have q4:c.B.h₀.get? b = none:=q3.1
   rw [q] at q4; cases q4
  have hba:b ≠ a:=fun q5=>ok.baseM b o q (.inl (.inr ⟨l,k,q5 ▸ hlook⟩))
  exact hst b o (hbg b o ((hs.2 b hba).trans (hk1 b o (ok.base b o q))) hb)
 obtain ⟨ob,hob,hobc⟩:=fl6.there
 refine wpAny_handleBy_builtin (X := "StopIteration") (T := "StopIteration") (b:=true) a9i a1b b5h ?_
 refine b5j ht (inb h6 fl6.1) ⟨rfl,⟨ob,hob,hobc⟩,?_⟩
 rw [if_pos rfl]
 refine lands_againW fl6 fun h7 fl7 u67=>?_
 have hk7:∀ b o,b ≠ a->s.heap.get? b = some o->Kp h7 b o:=fun b o hba q=>by
  have q2:h2.get? b = some o:=(hs.2 b hba).trans (hk1 b o q)
  by_cases m:b ∈ s.heap.objs.size :: c.B.frs
  ·obtain ⟨o',es,ep,q3,q4⟩:=hfrs b m
   rw [q2] at q3; cases q3
   have up:h3.UpToSlots h7:=((show h3.UpToSlots h4 from k4).trans u45).trans (u56.trans u67)
   obtain ⟨sl,q5⟩:=up b o (hk3 _ _ q2) fun vs w=>by rw [q4] at w; cases w
   exact ⟨sl,q5,fun nd=>absurd q4 (nd _ _)⟩
  ·exact .of (fl7.1 b o (hbg b o q2 m))
 have ha7:h7.get? a = some oa:=fl7.1 a oa (hbg a oa hoa haf)
 obtain ⟨ok7,g7⟩:=ok.setObjK (tk:=tk) (o':=.dead) hlook (inb h7 fl7.1) hk7 (fun b o hba hnf q=>fl7.1 b o (hbg b o ((hs.2 b hba).trans (hk1 b o q)) fun m=>(List.mem_cons.mp m).elim (fun w=>Nat.lt_irrefl _ (w ▸ Heap.lt_size q)) hnf)) ⟨oa,ha7,hnda⟩
 refine wpAny_execs_cons (wpAny_Return_some (b7k hy ok7 (v:=v) hv hcv fun u3 hu3=>⟨A,g7,ok7,.ret hu3⟩))⟩
end
end
section
noncomputable def a6y (h:Heap) (a:Addr) (k:Obj->Bool):Bool:=match h.get? a with | some o=>k o | none=>false
theorem Q7 {h:Heap} {a:Addr} {k:Obj->Bool} (e:a6y h a k = true):∃ o,h.get? a = some o /\ k o = true:=by
 unfold a6y at e
 cases q:h.get? a with
 | none=>rw [q] at e; exact (Bool.false_ne_true e).elim
 | some o=>rw [q] at e; exact ⟨o,rfl,e⟩
noncomputable def d3s (d:Data) (k:FuncData->Bool):Bool:=match d with | .func fd=>k fd | _=>false
noncomputable def b5k (d:Data) (k:Array DictEntry->Bool):Bool:=match d with | .dict es _=>k es | _=>false
noncomputable def d3t (d:Data) (k:Array Value->Bool):Bool:=match d with | .seq vs _=>k vs | _=>false
noncomputable def a1c (d:Data) (k:Array Value->Bool):Bool:=match d with | .fields vs=>k vs | _=>false
theorem c4w {d:Data} {k:FuncData->Bool} (e:d3s d k = true):∃ fd,d = .func fd /\ k fd = true:=by
 cases d with
 | func fd=>exact ⟨fd,rfl,e⟩
 | _=>exact (Bool.false_ne_true e).elim
theorem a4s {d:Data} {k:Array DictEntry->Bool} (e:b5k d k = true):∃ es ep,d = .dict es ep /\ k es = true:=by
 cases d with
 | dict es ep=>exact ⟨es,ep,rfl,e⟩
 | _=>exact (Bool.false_ne_true e).elim
theorem c4x {d:Data} {k:Array Value->Bool} (e:d3t d k = true):∃ vs n,d = .seq vs n /\ k vs = true:=by
 cases d with
 | seq vs n=>exact ⟨vs,n,rfl,e⟩
 | _=>exact (Bool.false_ne_true e).elim
theorem X4 {d:Data} {k:Array Value->Bool} (e:a1c d k = true):∃ vs,d = .fields vs /\ k vs = true:=by
 cases d with
 | fields vs=>exact ⟨vs,rfl,e⟩
 | _=>exact (Bool.false_ne_true e).elim
noncomputable def b5l (v:Value) (k:Addr->Bool):Bool:=match v with | .ref a=>k a | _=>false
noncomputable def c4y (v:Value) (q:Str):Bool:=match v with | .str x _=>decide (x = q) | _=>false
noncomputable def isInt (v:Value) (i:Int):Bool:=match v with | .int x _=>decide (x = i) | _=>false
noncomputable def isNone (v:Value):Bool:=match v with | .none=>true | _=>false
theorem a6z {v:Value} {k:Addr->Bool} (e:b5l v k = true):∃ a,v = .ref a /\ k a = true:=by
 cases v with
 | ref a=>exact ⟨a,rfl,e⟩
 | _=>exact (Bool.false_ne_true e).elim
theorem b1z {v:Value} {q:Str} (e:c4y v q = true):∃ t,v = .str q t:=by
 cases v with
 | str x t=>exact ⟨t,by rw [C3 e]⟩
 | _=>exact (Bool.false_ne_true e).elim
theorem b2a {v:Value} {i:Int} (e:isInt v i = true):∃ t,v = .int i t:=by
 cases v with
 | int x t=>exact ⟨t,by rw [C3 e]⟩
 | _=>exact (Bool.false_ne_true e).elim
theorem X5 {v:Value} (e:isNone v = true):v = .none:=by
 cases v with
 | none=>rfl
 | _=>exact (Bool.false_ne_true e).elim
noncomputable def b7m (h:Heap) (cd:Value) (q:Str):Bool:=b5l cd fun c=>a6y h c fun o=>a1c o.data fun vs=>(vs[1]?).any (c4y · q)
theorem a9k {h:Heap} {cd:Value} {q:Str} (e:b7m h cd q = true):h.CodeRec cd q:=by
 obtain ⟨c,rfl,e⟩:=a6z e
 obtain ⟨o,ho,e⟩:=Q7 e
 obtain ⟨vs,hd,e⟩:=X4 e
 obtain ⟨v,hv,e⟩:=Option.any_eq_true _ _ |>.mp e
 obtain ⟨t,rfl⟩:=b1z e
 exact ⟨c,o,vs,t,rfl,ho,hd,hv⟩
noncomputable def d6b (es:Array DictEntry) (p:Str × Addr):Bool:=(nsFind es p.1).any (b5l · fun b=>decide (b = p.2))
noncomputable def d0n (es:Array DictEntry) (p:Str × Value):Bool:=(nsFind es p.1).isNone
noncomputable def d3u (G:List (Str × Addr)) (Bt:List (Str × Value)) (x:Str):Option Value:=match G.lookup x with | some a=>some (.ref a) | none=>Bt.lookup x
noncomputable def c9n (h:Heap) (G:List (Str × Addr)) (Bt:List (Str × Value)):Bool:=a6y h mainGlobals fun o=>b5k o.data fun es=>G.all (d6b es) && Bt.all (d0n es)
theorem c4z {α β:Type} [BEq α] [LawfulBEq α] {a:α} {b:β}:∀ {l:List (α × β)},l.lookup a = some b->(a,b) ∈ l
 | [],h=>by cases h
 | (x,y) :: r,h=>by
  rw [List.lookup_cons] at h
  split at h
  ·rename_i q
   have:=eq_of_beq q
   subst this
   cases h; exact .head _
  ·exact .tail _ (c4z h)
theorem d3v {h0 h:Heap} {G:List (Str × Addr)} {Bt:List (Str × Value)} {mg:Str->Option Value} (hk:∀ b o,h0.get? b = some o->h.get? b = some o) (e:c9n h0 G Bt = true) (hn:h.Ns mainGlobals mg) :
  (∀ p ∈ G,mg p.1 = some (.ref p.2)) /\ ∀ p ∈ Bt,mg p.1 = none:=by
 obtain ⟨o,ho,e⟩:=Q7 e
 obtain ⟨es,ep,hd,e⟩:=a4s e
 obtain ⟨h1,h2⟩:=B1 e
 have hm:∀ x,mg x = nsFind es x:=fun x=>by
  obtain ⟨o',es',ep',q1,q2,_,q3⟩:=hn
  rw [hk _ _ ho] at q1
  cases q1
  rw [hd] at q2
  cases q2
  exact (q3 x).symm
 refine ⟨fun p m=>?_,fun p m=>(hm _).trans (Option.isNone_iff_eq_none.mp (List.all_eq_true.mp h2 _ m))⟩
 obtain ⟨u,hu,q⟩:=Option.any_eq_true _ _ |>.mp (List.all_eq_true.mp h1 _ m)
 obtain ⟨b,rfl,q⟩:=a6z q
 rw [hm,hu,C3 q]
theorem d0o {B:Base} {G:List (Str × Addr)} {Bt:List (Str × Value)} {mu:Pos->Bool} {pv:Addr} {h0:Heap} (hk:∀ b o,h0.get? b = some o->B.h₀.get? b = some o) (e:c9n h0 G Bt = true) (hb:∀ x:Str,x ≠ "__name__" -> B.mb x = bootBuiltins x)
  (h3:∀ p ∈ Bt,p.1 ≠ "__name__" /\ bootBuiltins p.1 = some p.2):HOk B ⟨mu,d3u G Bt,pv⟩:=by
 obtain ⟨g1,g2⟩:=d3v hk e B.nsG
 intro x v h
 change d3u G Bt x = some v at h
 unfold d3u at h
 split at h
 ·rename_i a ha
  cases h
  exact .inl (g1 _ (c4z ha))
 ·have hmem:=c4z h
  obtain ⟨h4,h5⟩:=h3 _ hmem
  exact .inr ⟨g2 _ hmem,(hb _ h4).trans h5⟩
noncomputable def c5a (e:DictEntry) (p:Int × Str):Bool:=decide (e.hash = hashInt p.1) && (isInt e.key p.1 && c4y e.val p.2)
noncomputable def gdChk (h:Heap) (p:Addr × List (Int × Str)):Bool:=!(p.1 == sysModules) && a6y h p.1 fun o=>(isTy o.cls && (o.dict.isNone && o.slots.isEmpty)) && b5k o.data fun es=>F9 c5a es.toList p.2
 where isTy (v:Value):Bool:=match v with | .type n=>n == "dict" | _=>false
theorem d0p {v:Value} (e:gdChk.isTy v = true):v = .type "dict" := by
 cases v with
 | type n=>exact congrArg Value.type (beq_iff_eq.mp e)
 | _=>exact (Bool.false_ne_true e).elim
theorem a7a (k:Int):∀ (es:List DictEntry) (L:List (Int × Str)),F9 c5a es L = true->(match L.lookup k with | some x=>∃ t,findBy Value.isInt es.toArray k = some (.str x t) | none=>findBy Value.isInt es.toArray k = none)
 | [],[],_=>rfl
 | [],_ :: _,h=>(Bool.false_ne_true h).elim
 | _ :: _,[],h=>(Bool.false_ne_true h).elim
 | e :: es,(k',x) :: L,h=>by
  have ih:=a7a k es L (B1 h).2
  obtain ⟨h1,h2⟩:=B1 (B1 h).1
  obtain ⟨t',hk⟩:=b2a (B1 h2).1
  obtain ⟨t,hv⟩:=b1z (B1 h2).2
  unfold findBy at *
  simp only [List.lookup_cons,List.find?_toArray,List.find?_cons,hk] at *
  by_cases q:k = k'
  ·subst q
   have e2:Value.isInt k (.int k t') = true:=by simp [Value.isInt]
   rw [beq_self_eq_true k,e2]
   exact ⟨t,congrArg some hv⟩
  ·have e2:Value.isInt k (.int k' t') = false:=by
    simp [Value.isInt]; exact fun w=>q (by lia)
   rw [show (k == k') = false from beq_eq_false_iff_ne.mpr q,e2]
   exact ih
theorem b2b {e:DictEntry}:∀ {es:List DictEntry} {L:List (Int × Str)},F9 c5a es L = true->e ∈ es->∃ k t,e.key = .int k t /\ e.hash = hashInt k
 | _ :: _,[],h,_=>(Bool.false_ne_true h).elim
 | _ :: es,p :: L,h,m=>by
  rcases List.mem_cons.mp m with rfl | m
  ·obtain ⟨h1,h2⟩:=B1 (B1 h).1
   obtain ⟨t,hk⟩:=b2a (B1 h2).1
   exact ⟨p.1,t,hk,C3 h1⟩
  ·exact b2b (B1 h).2 m
theorem c5b {B:Base} {h0:Heap} (hk:∀ b o,h0.get? b = some o->B.h₀.get? b = some o) (e:B.G.gds.all (gdChk h0) = true):GdOk B:=by
 have one:∀ b kvs,B.G.gds.lookup b = some kvs->(b == sysModules) = false /\ ∃ es:Array DictEntry,F9 c5a es.toList kvs = true /\ ∀ s:Shared,(∀ b o,B.h₀.get? b = some o->s.heap.get? b = some o)->s.heap.MapOf (intKind B.prog B.w) b (findBy Value.isInt es):=fun b kvs hl=>by
  obtain ⟨e1,e2⟩:=B1 (List.all_eq_true.mp e _ (c4z hl))
  obtain ⟨o,ho,e2⟩:=Q7 e2
  obtain ⟨e2,e3⟩:=B1 e2
  obtain ⟨e4,e5⟩:=B1 e2
  obtain ⟨es,ep,hd,e3⟩:=a4s e3
  refine ⟨(Bool.not_eq_true' _).mp e1,es,e3,fun s hs=>⟨o,es,ep,hs _ _ (hk _ _ ho),⟨d0p e4,Option.isNone_iff_eq_none.mp (B1 e5).1,Array.isEmpty_iff.mp (B1 e5).2⟩,hd,fun x hx=>?_,fun u_=>rfl⟩⟩
  obtain ⟨k,t,q1,q2⟩:=b2b e3 (Array.mem_def.mp hx)
  exact ⟨k,q1 ▸ intKind_is _ _ _ _,q2⟩
 constructor
 ·intro b hb Ar E s pl Q hs hq
  obtain ⟨kvs,hb⟩:=Option.isSome_iff_exists.mp hb
  obtain ⟨_,es,_,hm⟩:=one b kvs hb
  have:=hm s hs
  exact getMethod_builtin this.typeIs PySem.F.plainAttrs_dict PySem.F.slot_dict_get PySem.F.type_dict_get this.noDict hq
 ·intro b kvs hb Ar E s k t d Q hs hq
  obtain ⟨hsm,es,ha,hm⟩:=one b kvs hb
  have hmm:=hm s hs
  refine call_meetsIn PySem.F.slot_dict_get hmm.typeIs PySem.F.entry_dict_get (PySem.F.args_dict_get_3 _ _ _) (meets_dict_get_default (intKind B.prog B.w) b (intKind_is _ _ k t) hsm d) ⟨_,hmm,?_⟩
  have hf:=a7a k _ _ ha
  have hq':=hq (s.toks + 1)
  split at hf
  ·rename_i x hx
   rw [hx] at hq'
   obtain ⟨t',ht⟩:=hf
   rw [ht]
   exact hq' t'
  ·rename_i hx
   rw [hx] at hq'
   rw [hf]
   exact hq'
end
section
noncomputable def I2 (l:List Arg):List Str:=l.map (·.arg)
theorem a1d {l:List Arg} {a:Str} {r:List Str} (h:I2 l = a :: r):∃ n p l',l = ⟨a,n,p⟩ :: l' /\ I2 l' = r:=by
 cases l with
 | nil=>cases h
 | cons x l=>
  obtain ⟨b,n,p⟩:=x
  cases h
  exact ⟨n,p,l,rfl,rfl⟩
theorem a9l {l:List Arg} (h:I2 l = []):l = []:=List.map_eq_nil_iff.mp h
theorem c0e {s:Shared} {fd:FuncData} {args:Args} {binds:List (Str × Value)} {T D:Addr} {o:Obj} {items:Array Value} {n:Nat} {m:Str->Option Value} {name:Str} {α β:Type} {a:α} {b:β}
  {k:Option (Array Value)->Sem (List (Str × Value))} {f1:Option Value->Sem α} {f2:α->Sem β} {f3:β->Sem (List (Str × Value))} (hd:fd.defaults = .ref T) (ho:s.heap.get? T = some o) (hs:o.data = .seq items n) (hN:s.heap.Ns D m) 
  (h₁:bindArgs fd args = seqItems? fd.defaults >>= k) (h₂:k (some items) = ((nsGet D name >>= f1) >>= f2) >>= f3) (h₃:f1 (m name) = pure a) (h₄:f2 a = pure b) (h₅:f3 b = pure binds):BindsTo s fd args binds:=
 fun u_ u_ u_ u_ hq=>by
  rw [h₁,hd]
  refine wpAny_bind (wpAny_seqItems ho hs ?_)
  rw [h₂]
  refine wpAny_bind (wpAny_bind (wpAny_bind (wpAny_nsGet hN ?_)))
  rw [h₃]
  refine wpAny_pure ?_
  rw [h₄]
  refine wpAny_pure ?_
  rw [h₅]
  exact wpAny_pure hq
section
variable {fd:FuncData} {T D:Addr} {t0:Tok} {n1 n2 n3 n4 n5:Option PySem.Expr} {p1 p2 p3 p4 p5:Pos} {kd dfl} {s:Shared} {o oD:Obj} {n ep:Nat} {m:Str->Option Value} {i1 i2 i3 i4 v:Value}
noncomputable abbrev KP:List Str:=["a", "x", "lo", "hi", "key"]
noncomputable abbrev d8l (t0:Tok) (items:List Value) (v:Value):List (Str × Value):=KP.zip ((items ++ [Value.int 0 t0,.none].drop (items.length - 2)) ++ [v])
theorem d9c (hp:fd.params = ⟨[],[⟨"a",n1,p1⟩,⟨"x",n2,p2⟩,⟨"lo",n3,p3⟩,⟨"hi",n4,p4⟩],none,[⟨"key",n5,p5⟩],kd,none,dfl⟩) (hd:fd.defaults = .ref T) (hkd:fd.kwdefaults = .ref D)
  (ho:s.heap.get? T = some o) (hs:o.data = .seq #[.int 0 t0,.none] n) (hN:s.heap.Ns D m) (hm:m "key" = some .none) {items:List Value} (h2:2 <= items.length) (h4:items.length <= 4) :
  BindsTo s fd ⟨items,[]⟩ (d8l t0 items .none) /\ ∀ v,BindsTo s fd ⟨items,[("key",v)]⟩ (d8l t0 items v):=by
 obtain ⟨nm,qn,ps,body,sc,gl,cl,df,kw,doc,pm,an,code,ct,bi⟩:=fd
 simp only at hp hd hkd
 subst hp hd hkd
 cases items with
 | nil=>cases h2
 | cons i1 r=>
 cases r with
 | nil=>cases h2 with | step h=>cases h
 | cons i2 r=>
 cases r with
 | nil=>exact ⟨c0e rfl ho hs hN rfl rfl (by rw [hm]) rfl rfl,fun u_=>.of_defaults rfl ho hs rfl rfl⟩
 | cons i3 r=>
 cases r with
 | nil=>exact ⟨c0e rfl ho hs hN rfl rfl (by rw [hm]) rfl rfl,fun u_=>.of_defaults rfl ho hs rfl rfl⟩
 | cons i4 r=>
 cases r with
 | nil=>exact ⟨c0e rfl ho hs hN rfl rfl (by rw [hm]) rfl rfl,fun u_=>.of_defaults rfl ho hs rfl rfl⟩
 | cons _ r=>exact absurd h4 (Nat.not_le_of_gt (Nat.succ_le_succ (Nat.succ_le_succ (Nat.succ_le_succ (Nat.succ_le_succ (Nat.succ_pos _))))))
end
theorem d3w {α:Type} {l:List α} {n:Nat} (h:l.length = n + 1):∃ a t,l = a :: t /\ t.length = n:=by
 cases l with
 | nil=>cases h
 | cons a t=>exact ⟨a,t,rfl,Nat.succ.inj h⟩
noncomputable def Z1 (l:List Str):Prop:=∀ (nm qn:Str) (as:List Arg) kd dfl (body:FuncBody) (sc:Scope) (gl:Addr) cl kw doc pm an code ct (bi:Addr) (items:List Value),I2 as = l->items.length = l.length->
 bindArgs ⟨nm,qn,⟨[],as,none,[],kd,none,dfl⟩,body,sc,gl,cl,.none,kw,doc,pm,an,code,ct,bi⟩ ⟨items,[]⟩ = pure (l.zip items)
theorem U9 {a:Str} (h:∀ (nm qn:Str) n p kd dfl (body:FuncBody) (sc:Scope) (gl:Addr) cl kw doc pm an code ct (bi:Addr) (i:Value),
  bindArgs ⟨nm,qn,⟨[],[⟨a,n,p⟩],none,[],kd,none,dfl⟩,body,sc,gl,cl,.none,kw,doc,pm,an,code,ct,bi⟩ ⟨[i],[]⟩ = pure [(a,i)]):Z1 [a]:=fun nm qn as kd dfl body sc gl cl kw doc pm an code ct bi items ha hi=>by
 obtain ⟨n,p,l,rfl,ha1⟩:=a1d ha
 cases a9l ha1
 obtain ⟨i,rfl⟩:=List.length_eq_one_iff.mp hi
 exact h ..
theorem c5c {a b:Str} (h:∀ (nm qn:Str) n p n2 p2 kd dfl (body:FuncBody) (sc:Scope) (gl:Addr) cl kw doc pm an code ct (bi:Addr) (i j:Value),
  bindArgs ⟨nm,qn,⟨[],[⟨a,n,p⟩,⟨b,n2,p2⟩],none,[],kd,none,dfl⟩,body,sc,gl,cl,.none,kw,doc,pm,an,code,ct,bi⟩ ⟨[i,j],[]⟩ = pure [(a,i),(b,j)]):Z1 [a,b]:=fun nm qn as kd dfl body sc gl cl kw doc pm an code ct bi items ha hi=>by
 obtain ⟨n,p,l1,rfl,ha1⟩:=a1d ha
 obtain ⟨n2,p2,l2,rfl,ha2⟩:=a1d ha1
 cases a9l ha2
 obtain ⟨i,t,rfl,h1⟩:=d3w hi
 obtain ⟨j,t2,rfl,h2⟩:=d3w h1
 obtain rfl:=List.length_eq_zero_iff.mp h2
 exact h ..
noncomputable def d5f (fd:FuncData):List Str:=I2 fd.params.args ++ I2 fd.params.kwonlyargs
noncomputable def a7b (p:Arguments):Bool:=p.posonlyargs.isEmpty && (p.vararg.isNone && p.kwarg.isNone)
noncomputable def isDfl (l:List V):Bool:=match l with
 | x :: r=>isZero x && (match r with | y :: r=>isNo y && r.isEmpty | []=>false)
 | []=>false
 where
  isZero (v:V):Bool:=match v with | .int i=>decide (i = 0) | _=>false
  isNo (v:V):Bool:=match v with | .imm v=>isNone v | _=>false
theorem c0f {v:V} (h:isDfl.isZero v = true):v = .int 0:=by
 cases v with
 | int i=>rw [C3 h]
 | _=>exact (Bool.false_ne_true h).elim
theorem d0q {v:V} (h:isDfl.isNo v = true):v = .imm .none:=by
 cases v with
 | imm v=>rw [X5 h]
 | _=>exact (Bool.false_ne_true h).elim
theorem c5d {l:List V} (h:isDfl l = true):l = [.int 0,.imm .none]:=by
 cases l with
 | nil=>exact (Bool.false_ne_true h).elim
 | cons x r=>
  cases r with
  | nil=>exact (Bool.false_ne_true (B1 h).2).elim
  | cons y r=>rw [c0f (B1 h).1,d0q (B1 (B1 h).2).1,List.isEmpty_iff.mp (B1 (B1 h).2).2]
noncomputable def d8m {α:Type} (l:List α) (k:α->α->Bool):Bool:=match l with | [a,b]=>k a b | _=>false
theorem d0r {α:Type} {l:List α} {k:α->α->Bool} (h:d8m l k = true):∃ a b,l = [a,b] /\ k a b = true:=by
 match l,h with
 | [a,b],h=>exact ⟨a,b,rfl,h⟩
 | [],h=>exact (Bool.false_ne_true h).elim
 | [_],h=>exact (Bool.false_ne_true h).elim
 | _ :: _ :: _ :: _,h=>exact (Bool.false_ne_true h).elim
noncomputable def kT4 (u v:Value):Bool:=isInt u 0 && isNone v
noncomputable def kT3 (vs:Array Value):Bool:=d8m vs.toList kT4
noncomputable def kT2 (o:Obj):Bool:=d3t o.data kT3
noncomputable def kT1 (h:Heap) (T:Addr):Bool:=a6y h T kT2
noncomputable def kD4 (e:DictEntry):Bool:=c4y e.key "key" && isNone e.val
noncomputable def kD3 (es:Array DictEntry):Bool:=one es.toList kD4
noncomputable def kD2 (o:Obj):Bool:=b5k o.data kD3
noncomputable def kD1 (h:Heap) (D:Addr):Bool:=a6y h D kD2
noncomputable def d8n (f:Fn) (p:Arguments):Bool:=decide (f.key = true /\ f.np = 4 /\ I2 p.args = [("a" : Str), "x", "lo", "hi"] /\ I2 p.kwonlyargs = [("key" : Str)])
noncomputable def d8o (h:Heap) (fd:FuncData):Bool:=b5l fd.defaults (kT1 h) && b5l fd.kwdefaults (kD1 h)
noncomputable def d0s (h:Heap) (f:Fn) (fd:FuncData):Bool:=(d8n f fd.params && isDfl f.dfl) && d8o h fd
noncomputable def plA (PN:List (List Str)) (f:Fn) (p:Arguments):Bool:=decide (f.key = false /\ f.np = p.args.length /\ I2 p.args ∈ PN)
noncomputable def plB (f:Fn) (fd:FuncData):Bool:=f.dfl.isEmpty && (fd.params.kwonlyargs.isEmpty && isNone fd.defaults)
noncomputable def b7n (h:Heap) (PN:List (List Str)) (f:Fn) (fd:FuncData):Bool:=a7b fd.params && (d0s h f fd || (plA PN f fd.params && plB f fd))
noncomputable def kwV (key:Bool) (pos:List V) (kw:List (Str × V)):Option (List V):=
 if key then (match kw with | []=>some (pos ++ [.imm .none]) | [(k,v)]=>if k = "key" then some (pos ++ [v]) else none | _=>none)
 else (match kw with | []=>some pos | _=>none)
theorem b7o {f:Fn} {args:List V} {kws:List (Str × V)} {vs:List V} (h:T4 f args kws = some vs):args.length <= f.np /\ f.np - args.length <= f.dfl.length /\ kwV f.key (args ++ f.dfl.drop (f.dfl.length - (f.np - args.length))) kws = some vs:=
 let ⟨a,h⟩:=K2 h
 ⟨a,K2 h⟩
theorem a7c {B:Base} {f:Fn} {fd:FuncData} {params:List Str} (h1:f.np = params.length) (h2:f.dfl = []) (h3:f.key = false)
  (hb:∀ items:List Value,items.length = params.length->bindArgs fd ⟨items,[]⟩ = pure (params.zip items)):c4b B f fd params:=fun w lv s items args ks kws vs u_ hw hr hk hf=>by
 obtain ⟨hle,hz,hf⟩:=b7o hf
 rw [h1] at hle hz
 rw [h2] at hz
 have hl:items.length = params.length:=hr.length.trans (Nat.le_antisymm hle (Nat.le_of_sub_eq_zero (Nat.le_zero.mp hz)))
 rw [h3,h2] at hf
 cases hk with
 | nil=>
  rw [List.drop_nil,List.append_nil] at hf
  obtain rfl:args = vs:=Option.some.inj hf
  exact ⟨items,.of_eq (hb items hl),hr.toS,hl⟩
 | cons _ _=>cases hf
theorem RelL.dfl {w:Wd} {lv:Nat} {t0:Tok} (n:Nat):RelL w lv ([Value.int 0 t0,.none].drop n) ([V.int 0,.imm .none].drop n):=match n with
 | 0=>.cons .int (.cons .imm .nil)
 | 1=>.cons .imm .nil
 | k + 2=>by rw [show [Value.int 0 t0,.none].drop (k + 2) = [] from List.drop_nil,show [V.int 0,.imm .none].drop (k + 2) = [] from List.drop_nil]; exact .nil
theorem d9d {h:Heap} {v:Value} (e:b5l v (kT1 h) = true):∃ T o n t0,v = .ref T /\ h.get? T = some o /\ o.data = .seq #[.int 0 t0,.none] n:=by
 obtain ⟨T,hd,e⟩:=a6z e
 obtain ⟨o,hg,e⟩:=Q7 e
 obtain ⟨us,n,hs,e⟩:=c4x e
 obtain ⟨u,v,hus,e⟩:=d0r e
 obtain ⟨t0,rfl⟩:=b2a (B1 e).1
 obtain rfl:=X5 (B1 e).2
 exact ⟨T,o,n,t0,hd,hg,(Array.toList_inj.mp hus:us = #[.int 0 t0,.none]) ▸ hs⟩
theorem d9e {h:Heap} {v:Value} (e:b5l v (kD1 h) = true):∃ D o m,v = .ref D /\ h.get? D = some o /\ m "key" = some .none /\ ∀ h':Heap,h'.get? D = some o->h'.Ns D m:=by
 obtain ⟨D,hd,e⟩:=a6z e
 obtain ⟨o,hg,e⟩:=Q7 e
 obtain ⟨es,ep,hs,e⟩:=a4s e
 obtain ⟨x,hes,e⟩:=a5n e
 obtain ⟨hh,ky,vl⟩:=x
 obtain ⟨t1,rfl⟩:=b1z (B1 e).1
 obtain rfl:=X5 (B1 e).2
 obtain rfl:es = #[⟨hh,.str "key" t1,.none⟩]:=Array.toList_inj.mp hes
 exact ⟨D,o,nsFind #[⟨hh,.str "key" t1,.none⟩],hd,hg,rfl,fun h' q=>⟨_,_,_,q,hs,fun e he=>by
  rcases List.mem_singleton.mp (List.mem_toArray.mp he) with rfl
  exact ⟨_,_,rfl⟩,fun u_=>rfl⟩⟩
theorem c5e {p:Arguments} (h:a7b p = true):p = ⟨[],p.args,none,p.kwonlyargs,p.kw_defaults,none,p.defaults⟩:=by
 obtain ⟨po,as,va,ko,kd,ka,dd⟩:=p
 obtain ⟨b1,b2⟩:=B1 h
 obtain rfl:po = []:=List.isEmpty_iff.mp b1
 obtain rfl:va = none:=Option.isNone_iff_eq_none.mp (B1 b2).1
 obtain rfl:ka = none:=Option.isNone_iff_eq_none.mp (B1 b2).2
 rfl
theorem c5f {f:Fn} {p:Arguments} (h:a7b p = true) (ha:I2 p.args = [("a" : Str), "x", "lo", "hi"]) (hk:I2 p.kwonlyargs = [("key" : Str)]):∃ n1 p1 n2 p2 n3 p3 n4 p4 n5 p5,p = ⟨[],[⟨"a",n1,p1⟩,⟨"x",n2,p2⟩,⟨"lo",n3,p3⟩,⟨"hi",n4,p4⟩],none,[⟨"key",n5,p5⟩],p.kw_defaults,none,p.defaults⟩:=by
 rw [c5e h]
 generalize p.args = as at ha
 generalize p.kwonlyargs = ko at hk
 obtain ⟨n1,p1,l1,rfl,ha1⟩:=a1d ha
 obtain ⟨n2,p2,l2,rfl,ha2⟩:=a1d ha1
 obtain ⟨n3,p3,l3,rfl,ha3⟩:=a1d ha2
 obtain ⟨n4,p4,l4,rfl,ha4⟩:=a1d ha3
 cases a9l ha4
 obtain ⟨n5,p5,l5,rfl,hk5⟩:=a1d hk
 cases a9l hk5
 exact ⟨_,_,_,_,_,_,_,_,_,_,rfl⟩
theorem b5m {B:Base} {h0:Heap} (hh:∀ b o,h0.get? b = some o->B.h₀.get? b = some o) {f:Fn} {fd:FuncData} (hb:a7b fd.params = true) (h2:f.dfl = [.int 0,.imm .none]) (hA:d8n f fd.params = true) (hB:d8o h0 fd = true):c4b B f fd KP:=by
 obtain ⟨h3,h1,ha,hka⟩:=C3 hA
 obtain ⟨T,oT,nT,t0,hd,hgT,hsT⟩:=d9d (B1 hB).1
 obtain ⟨D,oD,mD,hkd,hgD,hmD,hNs⟩:=d9e (B1 hB).2
 obtain ⟨n1,p1,n2,p2,n3,p3,n4,p4,n5,p5,hps⟩:=c5f (f:=f) hb ha hka
 intro w lv s items args ks kws vs hbase hw hr hk hf
 obtain ⟨hle,hz,hf⟩:=b7o hf
 rw [h1] at hle hz
 rw [h2] at hz
 rw [h3,h2,h1] at hf
 have hl:=hr.length
 have hg:2 <= args.length:=Nat.le_of_add_le_add_right (b:=2) (show 2 + 2 <= args.length + 2 from Nat.sub_le_iff_le_add'.mp hz)
 obtain ⟨k0,k1⟩:=d9c hps hd hkd (hbase _ _ (hh _ _ hgT)) hsT (hNs _ (hbase _ _ (hh _ _ hgD))) hmD (items:=items) (hl ▸ hg) (hl ▸ hle)
 have dr : [V.int 0,.imm .none].length - (4 - args.length) = items.length - 2:=by
  rw [hl]
  obtain ⟨d,hd⟩:=Nat.exists_eq_add_of_le hg
  rw [hd] at hle ⊢
  rw [Nat.add_sub_cancel_left]
  exact (congrArg (2 - ·) (Nat.add_sub_add_left 2 2 d)).trans (Nat.sub_sub_self (Nat.le_of_add_le_add_left hle))
 rw [dr] at hf
 have fin:∀ {v x},RelO w lv (some v) (some x)->RelS w lv ((items ++ [Value.int 0 t0,.none].drop (items.length - 2)) ++ [v]) ((args ++ [V.int 0,.imm .none].drop (items.length - 2)) ++ [x]):=fun h=>RelS.snoc (hr.append (RelL.dfl _)) h
 have len:∀ v,((items ++ [Value.int 0 t0,.none].drop (items.length - 2)) ++ [v]).length = KP.length:=fun v=>by
  rw [List.length_append,List.length_append,List.length_drop]
  show items.length + (2 - (items.length - 2)) + 1 = 5
  rw [hl]
  obtain ⟨d,hd⟩:=Nat.exists_eq_add_of_le hg
  rw [hd] at hle ⊢
  rw [Nat.add_sub_cancel_left,Nat.add_assoc 2,Nat.add_sub_of_le (Nat.le_of_add_le_add_left hle)]
 cases hk with
 | nil=>
  cases hf
  exact ⟨_,k0,fin (.some .imm),len _⟩
 | @cons k v x _ _ qk hk=>
  cases hk with
  | nil=>
   obtain ⟨rfl,hf⟩:=K2 (c:=k = ("key" : Str)) hf
   cases hf
   exact ⟨_,k1 v,fin qk,len _⟩
  | cons _ _=>cases hf
noncomputable def d6c (k:ScopeKind):Bool:=match k with | .function=>true | _=>false
noncomputable def fdA (fd:FuncData):Bool:=decide (fd.globals = mainGlobals /\ fd.builtins = builtinsNs) && fd.closure.isEmpty
noncomputable def fdB (s:Scope):Bool:=(!s.isCoroutine && !s.isGenerator) && d6c s.kind
noncomputable def fdC (ns:Nat) (params:List Str) (s:Scope):Bool:=decide ((s.names.map (·.1)).Nodup /\ ns = (E1 s).length /\ (E1 s).take params.length = params)
noncomputable def d6d (h:Heap) (ns:Nat) (params:List Str) (fd:FuncData):Bool:=(fdA fd && b7m h fd.code fd.qualname) && (fdB fd.scope && fdC ns params fd.scope)
noncomputable def c5g (b:FuncBody) (k:List Stmt->Bool):Bool:=match b with | .stmts l=>k l | .expr _=>false
theorem c0g {b:FuncBody} {k:List Stmt->Bool} (e:c5g b k = true):∃ l,b = .stmts l /\ k l = true:=by
 cases b with
 | stmts l=>exact ⟨l,rfl,e⟩
 | expr _=>exact (Bool.false_ne_true e).elim
noncomputable def d0t (H:Hn) (f:Fn) (fd:FuncData) (body:List Stmt):Bool:=F9 (a0w H 40 40 (b6l H fd)) body f.body
noncomputable def fnC (h:Heap) (PN:List (List Str)) (H:Hn) (f:Fn) (K:FuncData->List Stmt->Bool) (fd:FuncData) (body:List Stmt):Bool:=(d6d h f.ns (d5f fd) fd && b7n h PN f fd) && (d0t H f fd body && K fd body)
noncomputable def fnB (h:Heap) (PN:List (List Str)) (H:Hn) (f:Fn) (K:FuncData->List Stmt->Bool) (fd:FuncData):Bool:=c5g fd.body (fnC h PN H f K fd)
noncomputable def fnA (h:Heap) (PN:List (List Str)) (H:Hn) (f:Fn) (K:FuncData->List Stmt->Bool) (o:Obj):Bool:=d3s o.data (fnB h PN H f K)
noncomputable def d3x (h:Heap) (PN:List (List Str)) (H:Hn) (f:Fn) (K:FuncData->List Stmt->Bool):Bool:=a6y h f.addr (fnA h PN H f K)
theorem c0h {B:Base} {h0:Heap} (hh:∀ b o,h0.get? b = some o->B.h₀.get? b = some o) {PN:List (List Str)} (hPN:∀ l ∈ PN,Z1 l) {f:Fn} {fd:FuncData} (e:b7n h0 PN f fd = true):c4b B f fd (d5f fd):=by
 obtain ⟨hb,e⟩:=B1 e
 rcases Bool.or_eq_true_iff.mp e with e | e
 ·obtain ⟨e,e'⟩:=B1 e
  have:=b5m (B:=B) hh hb (c5d (B1 e).2) (B1 e).1 e'
  obtain ⟨_,_,k3,k4⟩:=C3 (B1 e).1
  unfold d5f
  rw [k3,k4]
  exact this
 ·obtain ⟨k1,k3,k4⟩:=C3 (B1 e).1
  obtain ⟨e1,e2⟩:=B1 (B1 e).2
  have hp:=hPN _ k4
  unfold d5f
  rw [List.isEmpty_iff.mp (B1 e2).1,show I2 [] = [] from rfl,List.append_nil]
  refine a7c (k3.trans (List.length_map _).symm) (List.isEmpty_iff.mp e1) k1 fun items hi=>?_
  have df:=X5 (B1 e2).2
  have hps:=c5e hb
  rw [List.isEmpty_iff.mp (B1 e2).1] at hps
  obtain ⟨nm,qn,ps,body,sc,gl,cl,df',kw',doc,pm,an,code,ct,bi⟩:=fd
  obtain rfl:df' = .none:=df
  have:=hp nm qn ps.args ps.kw_defaults ps.defaults body sc gl cl kw' doc pm an code ct bi items rfl hi
  rw [<- hps] at this
  exact this
theorem c5h {B:Base} {h0:Heap} (hh:∀ b o,h0.get? b = some o->B.h₀.get? b = some o) {PN:List (List Str)} (hPN:∀ l ∈ PN,Z1 l) {H:Hn} {f:Fn} {K:FuncData->List Stmt->Bool} (e:d3x h0 PN H f K = true) :
  ∃ o fd body params,FnOk B H f o fd body params /\ K fd body = true:=by
 obtain ⟨o,ho,e⟩:=Q7 e
 obtain ⟨fd,hd,e⟩:=c4w e
 obtain ⟨body,hbody,e⟩:=c0g e
 obtain ⟨e1,e2⟩:=B1 e
 obtain ⟨e1,eb⟩:=B1 e1
 obtain ⟨e2,ek⟩:=B1 e2
 obtain ⟨ea,es⟩:=B1 e1
 obtain ⟨ea,ec⟩:=B1 ea
 obtain ⟨eA,e0⟩:=B1 ea
 obtain ⟨c2,c3⟩:=C3 eA
 obtain ⟨es,eC⟩:=B1 es
 obtain ⟨c8,c9,c10⟩:=C3 eC
 obtain ⟨es,c7⟩:=B1 es
 obtain ⟨c5,c6⟩:=B1 es
 have hkind:fd.scope.kind = .function:=by
  generalize fd.scope.kind = k at c7
  cases k <;> first | rfl | exact (Bool.false_ne_true c7).elim
 exact ⟨o,fd,body,d5f fd,⟨hh _ _ ho,hd,hbody,List.isEmpty_iff.mp e0,c2,c3,(a9k ec).keeps hh,(Bool.not_eq_true' _).mp c5,(Bool.not_eq_true' _).mp c6,hkind,c8,⟨40,40,e2⟩,c9,c10,c0h hh hPN eb⟩,ek⟩
noncomputable def d6e (H:Hn) (fd:FuncData) (q:SPt):Bool:=decide (q.tag = 3 /\ q.ts.length = 1) && S3 (b6l H fd).gl (.builtin "next") (B5 q.e) (fun as=>one as (c2r (b6l H fd).res 0))
noncomputable def d3y (H:Hn) (fd:FuncData) (body:List Stmt):Bool:=match body with
 | s :: _=>d6e H fd (G1 s)
 | []=>false
theorem c5i {H:Hn} {fd:FuncData} {body:List Stmt} (h:d3y H fd body = true):∃ b e q rest,body = .Assign [b] e q :: rest /\ S3 (b6l H fd).gl (.builtin "next") (B5 e) (fun as=>one as (c2r (b6l H fd).res 0)) = true:=by
 cases body with
 | nil=>exact (Bool.false_ne_true h).elim
 | cons s r=>
  have h1:=C3 (B1 h).1
  obtain ⟨b,hb⟩:=List.length_eq_one_iff.mp h1.2
  exact ⟨b,(G1 s).e,(G1 s).p,r,congrArg (· :: r) (((congrArg (a6g (G1 s)) h1.1).symm.trans (U3 s)).symm.trans (congrArg (fun l=>Stmt.Assign l _ _) hb)),(B1 h).2⟩
end
section
theorem b7p {R:WRecords} {P:Params} {h:Heap}:∀ {xs:List WData} {vs:List Value},WShape.hasItems R xs .int = true->WellAll P h vs xs->
  ∃ is:List Int,xs = is.map .int /\ is.length = xs.length /\ ∀ (w:Wd) (lv:Nat),RelL w lv vs (is.map .int)
 | [],vs,_,hw=>by cases hw; exact ⟨[],rfl,rfl,fun u_ u_=>.nil⟩
 | x :: xs,vs,hi,hw=>by
  cases hw with
  | cons hv hr=>
   have hi':WShape.has R x .int = true /\ WShape.hasItems R xs .int = true:=by simpa [WShape.hasItems] using hi
   obtain ⟨i,rfl⟩:=hasW_int hi'.1
   obtain ⟨is,h1,h2,h3⟩:=b7p hi'.2 hr
   cases hv with
   | int _ t=>exact ⟨i :: is,by rw [h1]; rfl,by simp [h2],fun w lv=>.cons .int (h3 w lv)⟩
theorem c0i {l:OpenLaw} (hmost:l.most = some 63) {args:List WData} {vals:List Value} {P:Params} {h:Heap} (hpre:l.row.claim.pre args = true) (hwl:WellAll P h vals args) :
  ∃ (is:List Int) (a:Addr) (vs:List Value),is.length <= 63 /\ vals = [.ref a] /\ h.get? a = some (a4c vs.toArray 0) /\ ∀ (w:Wd) (lv:Nat),RelL w lv vs (is.map .int):=by
 have hsh:=(pre_splitW hpre).1
 have hcond:=(pre_splitW hpre).2
 have hsh':WShape.hasAll [] args [.list .int] = true:=hsh
 obtain ⟨d,r,rfl,hd,hr⟩:=hasAllW_cons hsh'
 obtain rfl:=hasAllW_nil hr
 obtain ⟨xs,rfl,hx⟩:=hasW_list hd
 cases hwl with
 | cons hv hn=>
  cases hn
  cases hv with
  | @list a vs _ hg hw=>
   obtain ⟨is,h1,h2,h3⟩:=b7p hx hw
   refine ⟨is,a,vs,?_,rfl,hg,h3⟩
   rw [h2]
   have hc:(OpenLaw.pre l).holds [] { args:=[.list xs] } = true:=hcond
   unfold OpenLaw.pre at hc
   rw [hmost] at hc
   dsimp only at hc
   unfold WTm.holds at hc
   split at hc
   ·rename_i hval
    by_cases hle:xs.length <= 63
    ·exact hle
    ·exfalso
     have:(63:Int) < (xs.length:Int):=by omega
     have e:PySem.W.less? (.int 63) (.int (xs.length:Int)) = some true:=by
      simp [PySem.W.less?,Num.less?,this]
     simp [WTm.value,e] at hval
   ·cases hc
end
section
theorem ArOk.caller (B:Base) (hf:B.frs = []):ArOk B callerA 1:=
 ⟨rfl,⟨[],rfl,by rw [hf]; exact ⟨rfl,fun u_ h=>nomatch h⟩⟩,by decide,by decide,by decide⟩
noncomputable def d9f:Env:={ scope:=⟨.function,[],false,false,[]⟩,locals:=0,globals:=mainGlobals,cells:=[],builtins:=builtinsNs }
noncomputable def d0u (chk:Heap->Bool):Hook:=⟨Bool,fun s=>chk s.heap,fun u_=>true,fun u_ h=>∃ h0,chk h0 = true /\ ∀ b o,h0.get? b = some o->h.get? b = some o,fun u_ s e=>⟨s.heap,e,fun u_ u_ e=>e⟩,fun _ _ _ ⟨h0,e,k⟩ kk=>⟨h0,e,fun b o q=>kk b o (k b o q)⟩⟩
noncomputable def d0v (H:Hn) (f:Fn) (fd:FuncData) (body:List Stmt):Bool:=!decide (f.addr = H.pv) || d3y H fd body
noncomputable def d6f (P:Pg) (H:Hn) (PN:List (List Str)) (h:Heap) (f:Fn):Bool:=d3x h PN H f (d0v H f)
noncomputable def c5j (P:Pg) (H:Hn) (G:List (Str × Addr)) (Bt:List (Str × Value)) (PN:List (List Str)) (h:Heap):Bool:=(c9n h G Bt && P.gds.all (gdChk h)) && P.fns.all (d6f P H PN h)
theorem d6g {P:Pg} {B:Base} (hG:B.G = P) {G:List (Str × Addr)} {Bt:List (Str × Value)} {mu:Pos->Bool} {pv:Addr} {PN:List (List Str)} {h0:Heap} (hk:∀ b o,h0.get? b = some o->B.h₀.get? b = some o) (e:c5j P ⟨mu,d3u G Bt,pv⟩ G Bt PN h0 = true)
  (hb:∀ x:Str,x ≠ "__name__" -> B.mb x = bootBuiltins x) (hbm:d3m B) (h3:∀ p ∈ Bt,p.1 ≠ "__name__" /\ bootBuiltins p.1 = some p.2) (hPN:∀ l ∈ PN,Z1 l) {fpv:Fn} (hpv:fpv ∈ P.fns) (ha:fpv.addr = pv) (hbi:∀ v,T4 fpv [v] [] = some [v]):Wl P B ⟨mu,d3u G Bt,pv⟩:=by
 obtain ⟨e,e3⟩:=B1 e
 have fn:=fun f m=>c5h (B:=B) hk hPN (List.all_eq_true.mp e3 f m)
 refine ⟨hG,d0o hk (B1 e).1 hb h3,c5b hk (hG ▸ (B1 e).2),hbm,fun f m=>by
  obtain ⟨o,fd,body,params,x,_⟩:=fn f m
  exact ⟨o,fd,body,params,x⟩,?_⟩
 obtain ⟨o,fd,body,params,x,y⟩:=fn fpv hpv
 rcases Bool.or_eq_true_iff.mp y with y | y
 ·exact absurd ha (of_decide_eq_false ((Bool.not_eq_true' _).mp y))
 ·obtain ⟨b,e,q,rest,rfl,y⟩:=c5i y
  exact ⟨fpv,o,fd,rest,params,b,e,q,x,ha,hbi,y⟩
end
section
structure LF (w:Wd) (lv:Nat) (env:Env) (m:Lam) (x:V) (vs:List V):Prop where
 loc:¬ w.M env.locals
 par:∃ mm xv,w.h.Ns env.locals mm /\ mm m.x = some xv /\ Rel w lv xv x
 cap:∀ (i:Nat) (y:Str),m.caps[i]? = some y->∃ (c:Addr) (cv:Value) (u:V),env.cells.lookup y = some c /\ ¬ w.M c /\ w.h.IsCell c (some cv) /\ vs[i]? = some u /\ Rel w lv cv u
theorem LF.mono {w w':Wd} {lv:Nat} {env:Env} {m:Lam} {x:V} {vs:List V} (le:Wd.Le lv w w') (h:LF w lv env m x vs):LF w' lv env m x vs:=by
 obtain ⟨h1,⟨mm,xv,h2,h3,h4⟩,h5⟩:=h
 refine ⟨fun q=>?_,⟨mm,xv,Kp.ns (fun o e=>le.keep _ o e h1) h2,h3,h4.mono le (Nat.le_refl _)⟩,fun i y q=>?_⟩
 ·obtain ⟨o,_,_,e,_⟩:=h2
  exact h1 (le.avoid _ _ e q)
 ·obtain ⟨c,cv,u,k1,k2,⟨o,k3,k4⟩,k5,k6⟩:=h5 i y q
  exact ⟨c,cv,u,k1,fun x=>k2 (le.avoid _ _ k3 x),⟨o,(le.keep _ _ k3 k2).at (G8 (by rw [k4]; rfl)),k4⟩,k5,k6.mono le (Nat.le_refl _)⟩
structure LS (env:Env) (m:Lam):Prop where
 kind:env.scope.kind = .function
 par:env.kindOf m.x = some .local
 cap:∀ y ∈ m.caps,env.kindOf y = some .free
section
variable {B:Base} {Ar:Around} {lay:List Loc} {P:Addr->Prop} {nl:Nat} {env:Env} {m:Lam} {x:V} {vs:List V} {st:St}
noncomputable def LJ (B:Base) (Ar:Around) (lay:List Loc) (P:Addr->Prop) (nl:Nat) (env:Env) (m:Lam) (x:V) (vs:List V) (st:St) (t:Sem Value) (z:V):Prop:=
 ∀ A s E,Ok B lay P nl A st s->LF (wd lay A P s.heap) (nl - 1) env m x vs->wpAny (model B.prog B.w) Ar t (Post B lay P A s nl st z RV) E s
theorem LJ.go {t:Sem Value} {z:V} (h:LJ B Ar lay P nl env m x vs st t z) {A s E} (ok:Ok B lay P nl A st s) (lf:LF (wd lay A P s.heap) (nl - 1) env m x vs) {Q:Value->Shared->Prop}
  (k:∀ v s₁ A₁,Go lay A A₁ s s₁->Ok B lay P nl A₁ st s₁->LF (wd lay A₁ P s₁.heap) (nl - 1) env m x vs->Rel (wd lay A₁ P s₁.heap) (nl - 1) v z->Q v s₁):wpAny (model B.prog B.w) Ar t Q E s:=
 wpAny_mono (h A s E ok lf) (fun v s₁ h=>by
  obtain ⟨A₁,g,ok₁,hr⟩:=h
  exact k v s₁ A₁ g ok₁ (lf.mono (g.le P _)) hr) (fun u_ u_ e=>e)
theorem LJ.two {t t':Sem Value} {u v z:V} {op:Value->Value->Sem Value} (h1:LJ B Ar lay P nl env m x vs st t u) (h2:LJ B Ar lay P nl env m x vs st t' v) {A s E} (ok:Ok B lay P nl A st s) (lf:LF (wd lay A P s.heap) (nl - 1) env m x vs)
  (k:∀ a b A s,Ok B lay P nl A st s->Rel (wd lay A P s.heap) (nl - 1) a u->Rel (wd lay A P s.heap) (nl - 1) b v->wpAny (model B.prog B.w) Ar (op a b) (Post B lay P A s nl st z RV) E s) :
  wpAny (model B.prog B.w) Ar t (fun a s1=>wpAny (model B.prog B.w) Ar t' (fun b s2=>wpAny (model B.prog B.w) Ar (op a b) (Post B lay P A s nl st z RV) E s2) E s1) E s:=
 h1.go ok lf fun u_ u_ u_ g1 ok1 lf1 r1=>h2.go ok1 lf1 fun u_ u_ u_ g2 ok2 u_ r2=>wpAny_mono (k _ _ _ _ ok2 (r1.mono (g2.le P _) (Nat.le_refl _)) r2) (fun u_ u_ q=>q.lift (g1.trans g2)) fun u_ u_ e=>e
theorem c5k {s:Shared} {E:Value->Shared->Prop} {e:PySem.Expr} {Q:Value->Shared->Prop} {o:Option Str} (h:c2k m o (B5 e) = true) (k:∀ y,o = some y->(y == ("__classdict__" : Str)) = false->wpAny (model B.prog B.w) Ar (loadName env y) Q E s):wpAny (model B.prog B.w) Ar (eval e env) Q E s:=by
 obtain ⟨t,h⟩:=B1 h
 obtain ⟨hb,h⟩:=B1 h
 exact G6 (R:=fun e=>wpAny (model B.prog B.w) Ar (eval e env) Q E s) (L0 (C3 t)) (wpAny_Name (k _ (C3 h) (a9a hb).2) (a9a hb).1)
theorem c5l {e:PySem.Expr} (ls:LS env m) (h:c2k m (some m.x) (B5 e) = true):LJ B Ar lay P nl env m x vs st (eval e env) x:=fun A s E ok lf=>c5k h fun y e u_=>by
 cases e
 obtain ⟨mm,xv,h2,h3,h4⟩:=lf.par
 exact wpAny_loadName_local ls.kind ls.par h2 h3 (.pure ok h4)
theorem c5m {e:PySem.Expr} {i:Nat} {u:V} (ls:LS env m) (h:c2k m m.caps[i]? (B5 e) = true) (hu:vs[i]? = some u):LJ B Ar lay P nl env m x vs st (eval e env) u:=fun A s E ok lf=>c5k h fun y e b2=>by
 obtain ⟨c,cv,u',k1,k2,k3,k5,k6⟩:=lf.cap i y e
 rw [hu] at k5
 cases k5
 exact wpAny_loadName_free ls.kind (ls.cap y (List.mem_of_getElem? e)) k1 k3 (.pure ok k6) b2
theorem d6h {a:Option V} {k:V->Option V} {z:V} (h:evL.one a k = some z):∃ u,a = some u /\ k u = some z:=by
 cases a with
 | none=>cases h
 | some u=>exact ⟨u,rfl,h⟩
theorem d3z {a b:Option V} {k:V->V->Option V} {z:V} (h:evL.two a b k = some z):∃ u v,a = some u /\ b = some v /\ k u v = some z:=by
 cases a with
 | none=>cases h
 | some u=>
  cases b with
  | none=>cases h
  | some v=>exact ⟨u,v,rfl,rfl,h⟩
theorem a7d {e:PySem.Expr} {r:List PySem.Expr} {env:Env} (h:(B5 e).tag ≠ 0):starEach (e :: r) env = (false,eval e env) :: starEach r env:=by
 cases e <;> first | rfl | exact absurd rfl h
theorem b2c {m:Lam}:∀ {le:LE} {e:PySem.Expr},c9f m le e = true->(B5 e).tag ≠ 0
 | .par,_,h=>fun q=>(nomatch (C3 (B1 h).1).symm.trans q)
 | .cap _,_,h=>fun q=>(nomatch (C3 (B1 h).1).symm.trans q)
 | .int _,_,h=>fun q=>(nomatch (C3 h).1.symm.trans q)
 | .sub _ _,_,h=>fun q=>(nomatch (C3 (B1 (B1 h).1).1).symm.trans q)
 | .neg _,_,h=>fun q=>(nomatch (C3 (B1 h).1).1.symm.trans q)
 | .tup _ _,_,h=>fun q=>(nomatch (C3 (B1 h).1).symm.trans q)
theorem L9 (ls:LS env m):∀ (le:LE) (e:PySem.Expr) (z:V),c9f m le e = true->evL st vs x le = some z->LJ B Ar lay P nl env m x vs st (eval e env) z
 | .par,e,z,h,hz=>by
  cases hz
  exact c5l ls h
 | .cap i,e,z,h,hz=>c5m ls h hz
 | .int i,e,z,h,hz=>fun A s E ok lf=>by
  cases hz
  obtain ⟨h1,h2⟩:=C3 h
  exact G6 (R:=fun e=>wpAny (model B.prog B.w) Ar (eval e env) _ E s) ((b6u h1).trans (by rw [h2])) (wpAny_Constant_int (ok.int_post _ _ _))
 | .sub a b,e,z,h,hz=>fun A s E ok lf=>by
  obtain ⟨u,v,e1,e2,hz⟩:=d3z hz
  obtain ⟨h,hc⟩:=B1 h
  obtain ⟨ht,hp⟩:=B1 h
  exact G6 (R:=fun e=>wpAny (model B.prog B.w) Ar (eval e env) _ E s) (P7 (C3 ht)) (Subscript_ ((L9 ls a _ u (B1 hc).1 e1).two (L9 ls b _ v (B1 hc).2 e2) ok lf fun u_ u_ u_ u_ ok r1 r2=>a2g ok r1 r2 hz _ hp))
 | .neg a,e,z,h,hz=>fun A s E ok lf=>by
  obtain ⟨u,e1,hz⟩:=d6h hz
  obtain ⟨i,rfl,hz⟩:=I8 hz
  cases hz
  obtain ⟨ht,hc⟩:=B1 h
  obtain ⟨h1,h2⟩:=C3 ht
  refine G6 (R:=fun e=>wpAny (model B.prog B.w) Ar (eval e env) _ E s) ((b6v h1).trans (by rw [h2])) (wpAny_UnaryOp ((L9 ls a _ _ hc e1).go ok lf fun v s1 A1 g1 ok1 lf1 r1=>?_))
  exact r1.int_e fun t=>neg_int ((ok1.int_post _ _ _).lift g1)
 | .tup a b,e,z,h,hz=>fun A s E ok lf=>by
  obtain ⟨u,v,e1,e2,hz⟩:=d3z hz
  cases hz
  obtain ⟨ht,hc⟩:=B1 h
  obtain ⟨p,q,hpq,hc⟩:=d5q hc
  obtain ⟨hc1,hc2⟩:=B1 hc
  refine G6 (R:=fun e=>wpAny (model B.prog B.w) Ar (eval e env) _ E s) ((P8 (C3 ht)).trans (by rw [hpq])) (wpAny_Tuple ?_)
  refine wpAny_items_cons ((L9 ls a p u hc1 e1).go ok lf fun u' s1 A1 g1 ok1 lf1 r1=>wpAny_items_cons ((L9 ls b q v hc2 e2).go ok1 lf1 fun v' s2 A2 g2 ok2 lf2 r2=>wpAny_items_nil ⟨by rw [sizeLine_eq]; exact Nat.le_of_ble_eq_true rfl,?_⟩) (a7d (b2c hc2))) (a7d (b2c hc1))
  obtain ⟨ok3,g3⟩:=ok2.grow (h':=s2.heap.push { cls:=.type "tuple",data:=.seq #[u',v'] }) (tk:=s2.toks) (fun u_ u_ e=>Heap.get?_push_of_some _ e)
  exact ⟨A2,(g1.trans g2).trans g3,ok3,.tup (items:=[u',v']) ok2.fresh (Heap.get?_push_size _ rfl) (RelL.mono (g3.le P _) (Nat.le_refl _) (.cons (r1.mono (g2.le P _) (Nat.le_refl _)) (.cons r2 .nil)))⟩
end
end
section
theorem b2d {x:Str} {ps:Arguments} (h:c3l x ps = true):∃ n p,ps = ⟨[],[⟨x,n,p⟩],none,[],[],none,[]⟩:=by
 obtain ⟨po,as,va,ko,kd,ka,dd⟩:=ps
 obtain ⟨h1,h2⟩:=B1 h
 obtain ⟨h2,h3⟩:=B1 h2
 obtain ⟨h3,h4⟩:=B1 h3
 obtain ⟨a,ha,h5⟩:=a5n h4
 obtain ⟨y,n,p⟩:=a
 obtain rfl:po = []:=List.isEmpty_iff.mp (B1 h1).1
 obtain rfl:va = none:=Option.isNone_iff_eq_none.mp (B1 h1).2
 obtain rfl:ko = []:=List.isEmpty_iff.mp (B1 (B1 h2).1).1
 obtain rfl:kd = []:=List.isEmpty_iff.mp (B1 (B1 h2).1).2
 obtain rfl:ka = none:=Option.isNone_iff_eq_none.mp (B1 h2).2
 obtain rfl:dd = []:=List.isEmpty_iff.mp h3
 obtain rfl:y = x:=C3 h5
 exact ⟨n,p,congrArg (fun as=>Arguments.mk [] as none [] [] none []) ha⟩
structure LamSc (m:Lam) (sc:Scope):Prop where
 kind:sc.kind = .function
 nd:(sc.names.map (·.1)).Nodup
 co:sc.isCoroutine = false
 gen:sc.isGenerator = false
 par:sc.names.lookup m.x = some .local
 nocell:∀ x ∈ sc.names,x.2 ≠ .cell
 cap:∀ y ∈ m.caps,sc.names.lookup y = some .free
theorem a2s {m:Lam} {sc:Scope} (h:b0z m sc = true):LamSc m sc:=by
 obtain ⟨h1,h2⟩:=B1 h
 obtain ⟨h1,h3⟩:=B1 h1
 obtain ⟨h2,h4⟩:=B1 h2
 obtain ⟨h2,h5⟩:=B1 h2
 obtain ⟨k1,k2⟩:=C3 h1
 exact ⟨k1,k2,(Bool.not_eq_true' _).mp (B1 h3).1,(Bool.not_eq_true' _).mp (B1 h3).2,C3 h2,fun x m=>C3 (List.all_eq_true.mp h5 x m),fun y m=>C3 (List.all_eq_true.mp h4 y m)⟩
section
variable {P:Pg} {st:St}
theorem c5n {m:Lam} {vs:List V} {x z:V} (hx:Z1 [m.x]) (h:evL st vs x m.body = some z):ApO P (.clo m vs) [x] st z st:=fun c A s E ok fv items hf hr=>by
 obtain ⟨a,qual,ps,e,sc,clos,pm,cdv,ct,rfl,hM,hg,hcode,hok,hcap⟩:=hf.cl
 obtain ⟨v,rfl,hv⟩:=hr.one
 obtain ⟨ho,hbody⟩:=B1 hok
 obtain ⟨n,p,rfl⟩:=b2d (B1 ho).1
 have S:=a2s (B1 ho).2
 refine ⟨.inr ⟨a,_,_,rfl,hg,rfl⟩,wpAny_call (kla_callFunE (by have:=c.ao.depth; have:=c.ao.nl; unfold recursionLimit; lia) hg rfl S.co S.gen rfl hcode.rc ?_)⟩
 have hb:=hx "<lambda>" qual [⟨m.x,n,p⟩] [] [] (.expr e) sc mainGlobals clos .none .none pm none cdv ct builtinsNs [v] rfl rfl
 rw [hb]
 refine wpAny_pure (wpAny_newFunctionEnv S.nocell (fun y my=>by
  rcases List.mem_singleton.mp my with rfl
  exact S.par) (fun h₁ hns hsb=>?_) S.kind)
 have hk:∀ b o,s.heap.get? b = some o->h₁.get? b = some o:=fun b o e=>hsb.extBut b o (Nat.ne_of_lt (Heap.lt_size e)) (Heap.get?_push_of_some _ e)
 refine ⟨c.B.nolim.keeps fun b o e=>hk b o (ok.base b o e),kla_codeExpr ?_⟩
 obtain ⟨ok1,g1⟩:=ok.grow (tk:=s.toks + 1) hk
 have le:=g1.le c.Q (c.nl - 1)
 generalize henv:newEnv sc s.heap.objs.size mainGlobals clos (qual ++ ".<locals>.") (some a) cdv none builtinsNs = env
 have kd:∀ y,env.kindOf y = sc.names.lookup y:=fun y=>by rw [<- henv]; rfl
 have ls:LS env m:=⟨by rw [<- henv]; exact S.kind,(kd _).trans S.par,fun y my=>(kd _).trans (S.cap y my)⟩
 have lf:LF (c.wd A h₁) (c.nl - 1) env m x vs:=⟨by rw [<- henv]; exact ok.fresh,⟨_,v,by rw [<- henv]; exact hns,by show List.lookup m.x [(m.x,v)] = _; simp,hv.mono le (Nat.le_refl _)⟩,fun i y q=>by
  obtain ⟨b,cv,u,k1,k2,⟨o,k3,k4⟩,k5,k6⟩:=hcap i y q
  exact ⟨b,cv,u,by rw [<- henv]; exact k1,k2,⟨o,hk _ _ k3,k4⟩,k5,k6.mono le (Nat.le_refl _)⟩⟩
 exact wpAny_mono (L9 ls m.body e z hbody h A { s with heap:=h₁,toks:=s.toks + 1 } _ ok1 lf) (fun u_ u_ q=>q.lift g1) fun u_ u_ e=>e
end
end
section
theorem a3q {pos:Pos} {a b:Int} {c cv:Value} (l:List Value) (h:TriplesOk l) (e:codeAmong pos (l ++ [rawInt a,rawInt b,c]) = some cv):codeAmong pos l = some cv ∨ cv = c:=by
 fun_induction TriplesOk l with
 | case1=>
  simp only [List.nil_append,codeAmong,rawInt] at e
  split at e
  ·exact .inr (Option.some.inj e).symm
  ·cases e
 | case2 a' t b' u x rest ih=>
  simp only [List.cons_append,codeAmong] at e ⊢
  split at e
  ·rename_i hc; rw [if_pos hc]; exact .inl e
  ·rename_i hc; rw [if_neg hc]; exact ih h e
 | case3 l h1 h2=>exact h.elim
theorem a7e {st:St} {l i:Nat} {o:AObj} (h:st.obj l i = some o):st.setObj l i o = st:=by
 unfold St.obj at h
 cases e:st.R[l]? with
 | none=>rw [e] at h; cases h
 | some r=>
  rw [e] at h
  have hr:r.set i o = r:=List.ext_getElem? fun j=>by
   by_cases q:i = j
   ·subst q
    rw [List.getElem?_set_self (List.getElem?_eq_some_iff.mp h).1]
    exact h.symm
   ·rw [List.getElem?_set_ne q]
  have hR:st.R.modify l (fun r=>r.set i o) = st.R:=List.ext_getElem? fun j=>by
   rw [List.getElem?_modify]
   by_cases q:l = j
   ·subst q; rw [e]; simp [hr]
   ·simp [q]
  exact congrArg (fun R=>St.mk st.ρ R) hR
theorem b2e {α β:Type} {f:α->β->Bool}:∀ {as:List α} {bs:List β} {j:Nat} {a:α},F9 f as bs = true->as[j]? = some a->∃ b,bs[j]? = some b /\ f a b = true
 | [],_,_,_,_,e=>by cases e
 | _ :: _,[],_,_,h,_=>(Bool.false_ne_true h).elim
 | _ :: _,b :: _,0,_,h,e=>⟨b,rfl,Option.some.inj e ▸ (B1 h).1⟩
 | _ :: as,_ :: bs,j + 1,_,h,e=>b2e (as:=as) (bs:=bs) (j:=j) (B1 h).2 e
section
variable {P:Pg} {st st1 st2:St}
theorem c0j (c:Cf P) {l0 i0:Nat} {A:List (List Addr)} {s:Shared} {E:Value->Shared->Prop} {c0:Addr} {q:Str} (ok:c.Ok A st s) (ht:st.obj l0 i0 = some (.tab c0 q)) (hcode:c.cx.code = .ref c0) (hq:c.cx.qual ++ ("<lambda>" : Str) = q) {ps:Arguments} {e:PySem.Expr} {sc:Scope} {clos:List (Str × Addr)} {pos:Pos} (hcl:closureFor sc c.env = pure clos) {Q:Value->Shared->Prop}
  (K:∀ a pm cdv ct s1,c.Ok A st s1->Go c.lay A A s s1->¬ Avd c.lay A c.Q a->s1.heap.get? a = some { cls:=.type "function",data:=.func (kla_fn "<lambda>" q ps e sc clos pm cdv ct) }->CodeM (c.wd A s1.heap) cdv q->Q (.ref a) s1) :
  c.W (makeFunction "<lambda>" (c.env.qual ++ ("<lambda>" : Str)) ps (.expr e) sc c.env [] [] [] pos pos.line) Q E s:=by
 obtain ⟨T,hlook⟩:=ok.look_of ht
 obtain ⟨tb,h1,h2,h3,h4,hC⟩:=ok.objs l0 i0 _ T ht hlook
 have hT:Avd c.lay A c.Q T:=.inl (.inr ⟨l0,i0,hlook⟩)
 rw [show c.env.qual ++ ("<lambda>" : Str) = q from by rw [c.eo.qual]; exact hq]
 have hgm:=c.B.nsG.keeps ok.base
 obtain ⟨bm,ob,b1,b2,b3,b4,b5,b6⟩:=c.wl.bm
 have hGT:mainGlobals ≠ T:=fun w=>by
  obtain ⟨o,_,_,e,_⟩:=c.B.nsG
  exact ok.baseM _ _ e (w ▸ hT)
 have hbT:bm ≠ T:=fun w=>ok.baseM _ _ b2 (w ▸ hT)
 have hbG:bm ≠ mainGlobals:=fun w=>by
  obtain ⟨o,_,_,e,hd,_⟩:=c.B.nsG
  rw [w,e] at b2; cases b2; rw [hd] at b6; cases b6
 have hB:s.heap.BuiltinsAt c.B.mg T:=⟨bm,ob,b1,b3,hbG,hbT,ok.base _ _ b2,b4,b5,b6⟩
 have fresh:∀ b,s.heap.objs.size <= b->¬ Avd c.lay A c.Q b:=fun b hb h=>by
  obtain ⟨o,e⟩:=ok.alive b h
  exact Nat.lt_irrefl _ (Nat.lt_of_lt_of_le (Heap.lt_size e) hb)
 cases hca:codeAmong pos tb.toList with
 | some cv=>
  refine kla_makeFunctionHit (mg:=c.B.mg) hcl c.eo.globals hgm (c.eo.code.trans hcode) hC h1 h2 hca hB fun ctv h' tk hk hsz=>?_
  have hk2:∀ b o,s.heap.get? b = some o->(h'.push { cls:=.type "function",data:=.func (kla_fn "<lambda>" q ps e sc clos ((c.B.mg "__name__").getD .none) cv ctv) }).get? b = some o:=fun b o w=>Heap.get?_push_of_some _ (hk b o w)
  obtain ⟨ok1,g1⟩:=ok.grow (tk:=tk) hk2
  exact K _ _ _ _ _ ok1 g1 (fresh _ hsz) (Heap.get?_push_size _ rfl) ((h3 _ _ hca).mono (g1.le c.Q 0))
 | none=>
  refine kla_makeFunction (mg:=c.B.mg) hcl c.eo.globals hgm (c.eo.code.trans hcode) hC h1 h2 hca hGT hB fun c' ctv h' tk hx hge hlt hrec htb=>?_
  generalize hfo:kla_obj "<lambda>" q ps e sc clos ((c.B.mg "__name__").getD .none) c' ctv = fo
  have hk2:∀ b o,b ≠ T->s.heap.get? b = some o->(h'.push fo).get? b = some o:=fun b o w e=>Heap.get?_push_of_some _ (hx b o w e)
  have hcM:CodeM (c.wd A (h'.push fo)) (.ref c') q:=by
   obtain ⟨c2,oc,vs,t,e2,k1,k2,k3⟩:=hrec
   cases e2
   exact ⟨c',oc,vs,t,rfl,fresh _ hge,Heap.get?_push_of_some _ k1,k2,k3⟩
  have ho:L3 (c.wd A (h'.push fo)) l0 T (.tab c0 q):=by
   refine ⟨_,Heap.get?_push_of_some _ htb,?_,fun p cv w=>?_,h4,?_⟩
   ·rw [Array.toList_append]; exact TriplesOk_snoc _ _ _ _ h2
   ·rw [Array.toList_append] at w
    rcases a3q _ h2 w with w | rfl
    ·obtain ⟨c2,o,vs,t,e2,k0,k1,k2,k3⟩:=h3 p cv w
     exact ⟨c2,o,vs,t,e2,k0,hk2 _ _ (fun w=>k0 (w ▸ hT)) k1,k2,k3⟩
    ·exact hcM
   ·obtain ⟨o,vs,file,tf,flags,tg,inF,text,tt,k1,k2⟩:=hC
    exact ⟨o,vs,file,tf,flags,tg,inF,text,tt,hk2 _ _ (fun w=>h4 (w ▸ hT)) k1,k2⟩
  obtain ⟨ok1,g1⟩:=ok.setObj (tk:=tk) hlook hk2 ho
  rw [a7e ht] at ok1
  exact K _ _ _ _ _ ok1 g1 (fresh _ (Nat.le_trans hge (Nat.le_of_lt hlt))) (by rw [<- hfo]; exact Heap.get?_push_size _ rfl) hcM
noncomputable def c5o (P:Pg) (fv:Value) (args:List V) (kw:List (Str × V)) (st:St) (z:V) (st':St):Prop:=∀ (c:Cf P) A s F K,c.Ok A st s->(∀ b ∈ K,∃ l ∈ c.lay,l.addr = b)->b5e K s.heap->∀ items ks,RelL (c.wd A s.heap) (c.nl - 1) items args->RelK (wdK c.lay A c.Q K s.heap) (c.nl - 1) ks kw->
 c9k s fv /\ c.W (call fv items ks) (c.Po A s st' z RV) F s
theorem a9m (l0 i0:Nat) {fv:Value} {args:List ME} {k:Str} {m:Lam} {c0:Addr} {q:Str} {is:List Nat} {vs ws:List V} {v:V} (h2:Es P args st vs st1) (ht:st1.obj l0 i0 = some (.tab c0 q))
  (hw:∀ j i:Nat,is[j]? = some i->∃ u,ws[j]? = some u /\ u.isClo = false /\ st1.ρ[i]? = some (some u)) (h3:c5o P fv vs [(k,.clo m ws)] st1 v st2):E P (.call (.imm fv) args [(k,.lam m c0 q is)]) st v st2:=E.of rfl fun c n e h A s E ok=>W7 h fun x p as' ks' pos hf' ha hk=>by
 obtain ⟨d,hf'⟩:=K4 hf'
 refine wpAny_Call_Name_kw (L4 ok (cm hf').2 ?_)
 refine E0 (by rw [F0 pos _ _ ha,(W9 pos _ _ hk).1]; rfl) (Cf.argsG h2 ha hk ok fun items A2 s2 g2 ok2 r2=>?_)
 obtain ⟨⟨k',x',p'⟩,xs,rfl,h1,hr⟩:=C2 hk
 obtain ⟨hk1,h1⟩:=B1 h1
 obtain rfl:=C3 hk1
 obtain rfl:=D5 hr
 refine Q3 ?_
 obtain ⟨d',h1⟩:=K4 (show cmp c.H n c.cx x' (.lam m c0 q is) = true from h1)
 obtain ⟨t15,h1⟩:=cm h1
 obtain ⟨sc,hsc,h1⟩:=a5n h1
 obtain ⟨h1,hcap⟩:=B1 h1
 obtain ⟨hcode,hlam⟩:=B1 h1
 obtain ⟨hcode,hqual⟩:=C3 hcode
 obtain ⟨hcap,hfree⟩:=B1 hcap
 obtain ⟨hlam0,_⟩:=B1 hlam
 obtain ⟨hprm,hscope⟩:=B1 hlam0
 obtain ⟨n0,p0,hps⟩:=b2d hprm
 have S:=a2s hscope
 refine G6 (R:=fun e=>c.W (eval e c.env) _ E s2) (b9o t15 hsc) ?_
 refine kla_eval (by rw [hps]; rfl) ?_
 have capAt:∀ (A2:List (List Addr)) (s2:Shared),c.Ok A2 st1 s2->∀ (j:Nat) (y:Str),m.caps[j]? = some y->∃ (i:Nat) (b:Addr) (cv:Value) (u:V),is[j]? = some i /\ c.lay[i]? = some (.cell b) /\ c.env.cells.lookup y = some b /\ s2.heap.IsCell b (some cv) /\ ws[j]? = some u /\ c.Rel A2 s2 cv u:=fun A2 s2 ok2 j y hy=>by
  obtain ⟨i,hi,hb⟩:=b2e hcap hy
  obtain ⟨hb,hcel⟩:=B1 hb
  obtain ⟨u,hu,huc,hρ⟩:=hw j i hi
  have kf:=(c.eo.cell y hcel).1
  rcases c.eo.var y i (C3 (B1 hb).2) with ⟨kl,_⟩ | ⟨_,b,hcells,hlay⟩
  ·rw [kl] at kf; rcases kf with kf | kf <;> cases kf
  ·obtain ⟨cv,k1,k2⟩:=ok2.slots i _ hlay
   rw [hρ] at k2
   cases cv with
   | none=>cases k2
   | some cv=>exact ⟨i,b,cv,u,hi,hlay,hcells,k1,hu,k2.rel huc⟩
 obtain ⟨clos,hclos,hcl1,hcl2⟩:=Q5 (env:=c.env) sc fun y my hy=>by
  have:=List.all_eq_true.mp hfree y my
  rw [hy] at this
  have hm:y.1 ∈ m.caps:=by simpa using this
  obtain ⟨j,hj⟩:=List.mem_iff_getElem?.mp hm
  obtain ⟨_,b,_,_,_,_,hb,_⟩:=capAt A2 s2 ok2 j y.1 hj
  exact ⟨b,hb⟩
 refine c0j c ok2 ht hcode hqual hclos fun fa pm cdv ct s3 ok3 g3 hfa hg hcM=>wpAny_evalAll_nil ?_
 let K:List Addr:=m.caps.filterMap fun y=>c.env.cells.lookup y
 have hK:∀ b ∈ K,∃ (j i:Nat) (y:Str) (cv:Value),m.caps[j]? = some y /\ c.lay[i]? = some (.cell b) /\ s2.heap.IsCell b (some cv):=fun b mb=>by
  obtain ⟨y,my,hb⟩:=List.mem_filterMap.mp mb
  obtain ⟨j,hj⟩:=List.mem_iff_getElem?.mp my
  obtain ⟨i,b',cv,u,k1,k2,k3,k4,_⟩:=capAt A2 s2 ok2 j y hj
  rw [hb] at k3
  cases k3
  exact ⟨j,i,y,cv,hj,k2,k4⟩
 refine (fun hh:c9k s3 fv /\ _=>⟨hh.1,Cf.end (g2.trans g3) hh.2⟩) (h3 c A2 s3 E K ok3 (fun b mb=>let ⟨_,_,_,_,_,k2,_⟩:=hK b mb; ⟨_,List.mem_of_getElem? k2,rfl⟩) (fun b mb o e=>?_) items _ (RelL.go r2 g3) (.cons (.clo ⟨fa,q,(B5 x').ar,(B5 x').a,sc,clos,pm,cdv,ct,rfl,fun w=>hfa w.1,hg,?_,hlam,fun j y hy=>?_⟩) .nil))
 ·obtain ⟨_,i,_,_,_,k2,_⟩:=hK b mb
  obtain ⟨cv,⟨o',w1,w2⟩,_⟩:=ok3.slots i _ k2
  rw [show s3.heap.get? b = _ from w1] at e
  cases e
  rw [w2]; rfl
 ·exact hcM.mono (a6u 0)
 ·obtain ⟨i,b,cv,u,k1,k2,k3,k4,k5,k6⟩:=capAt A2 s3 ok3 j y hy
  have my:=List.mem_of_getElem? hy
  exact ⟨b,cv,u,(hcl2 y (mem_of_lookup (S.cap y my))).trans k3,fun w=>w.2 (List.mem_filterMap.mpr ⟨y,my,k3⟩),k4,k5,k6.mono (a6u _) (Nat.le_refl _)⟩
theorem a9n {fv:Value} {args:List ME} {k:Str} {m:Lam} {c0:Addr} {q:Str} {is:List Nat} {vs ws:List V} {v:V} (h2:Es P args st vs st1) (ht:st1.obj 0 0 = some (.tab c0 q))
  (hw:∀ j i:Nat,is[j]? = some i->∃ u,ws[j]? = some u /\ u.isClo = false /\ st1.ρ[i]? = some (some u)) (h3:c5o P fv vs [(k,.clo m ws)] st1 v st2):E P (.call (.imm fv) args [(k,.lam m c0 q is)]) st v st2:=a9m 0 0 h2 ht hw h3
end
end
section
theorem Ok.startT (B:Base) (s:Shared) {T c0:Addr} {q:Str} (hb:∀ b o,B.h₀.get? b = some o->s.heap.get? b = some o) (hT0:B.h₀.get? T = none) (hT:L3 (wd [] [[T]] (fun u_=>False) s.heap) 0 T (.tab c0 q)) (hf:B.frs = []) :
  Ok B [] (fun u_=>False) 1 [[T]] { ρ:=[],R:=[[.tab c0 q]] } s:=by
 have lk:∀ l i a,E4 [[T]] l i = some a->l = 0 /\ i = 0 /\ a = T:=fun l i a e=>by
  unfold E4 at e
  cases l with
  | zero=>
   cases i with
   | zero=>cases e; exact ⟨rfl,rfl,rfl⟩
   | succ i=>cases e
  | succ l=>cases e
 have ob:∀ l i o,St.obj { ρ:=[],R:=[[.tab c0 q]] } l i = some o->l = 0 /\ i = 0 /\ o = .tab c0 q:=fun l i o e=>by
  unfold St.obj at e
  cases l with
  | zero=>
   cases i with
   | zero=>cases e; exact ⟨rfl,rfl,rfl⟩
   | succ i=>cases e
  | succ l=>cases e
 have tl:=a0l hT
 exact {
  base:=hb
  baseM:=fun b o e h=>by
   rcases h with (⟨l,m,_⟩ | ⟨l,i,w⟩) | h
   ·cases m
   ·rw [(lk l i b w).2.2,hT0] at e; cases e
   ·exact h
  frs:=fun L m=>by rw [hf] at m; cases m
  len:=rfl
  slots:=fun i l e=>by simp at e
  sep:=fun i j l l' e=>by simp at e
  lenA:=rfl
  dimA:=fun l i=>by
   cases l with
   | zero=>
    cases i with
    | zero=>exact ⟨fun h=>(nomatch h),fun h=>(nomatch h)⟩
    | succ i=>exact ⟨fun u_=>rfl,fun u_=>rfl⟩
   | succ l=>exact ⟨fun u_=>rfl,fun u_=>rfl⟩
  objs:=fun l i o a h1 h2=>by
   obtain ⟨rfl,rfl,rfl⟩:=ob l i o h1
   obtain ⟨_,_,rfl⟩:=lk 0 0 a h2
   exact hT
  inj:=fun l i l' i' a h1 h2=>by
   obtain ⟨e1,e2,_⟩:=lk l i a h1
   obtain ⟨e3,e4,_⟩:=lk l' i' a h2
   exact ⟨e1.trans e3.symm,e2.trans e4.symm⟩
  layA:=fun l m=>by cases m
  disP:=fun b h=>h.elim
  alive:=fun b h=>by
   rcases h with (⟨l,m,_⟩ | ⟨l,i,w⟩) | h
   ·cases m
   ·rw [(lk l i b w).2.2]; exact tl
   ·exact h.elim
  rlen:=rfl
  lvl:=Nat.one_pos }
theorem b5n {l:OpenLaw} {s₁ s':Shared} {cl:Str->Option Addr} {mean:ExcName->Option Value} {args:List WData} (hK:OldK s₁.heap s'.heap) (hos:s'.os = s₁.os) (hg:s'.gens = #[]) :
  GoodWG l.row.claim cl mean args s₁ (.ok (.ret (.bool true))) s':=by
 refine ⟨.inl ⟨.bool true,.bool true,[],rfl,fun u_=>rfl,.bool true,?_,fun u_=>⟨List.nodup_nil,fun u_ h=>nomatch h⟩⟩,hK,hos,.of_eq hg⟩
 refine postW_of (r:=l.row.toRowW) (X:=true) rfl ?_ rfl
 show WTm.value [] (.eq .res (.lit (.bool true))) _ = _
 simp [WTm.value,same_self]
set_option maxHeartbeats 1000000 in
theorem c0k {l:OpenLaw} (hm:l.most = some 63) {w:World} {cl:Str->Option Addr} {mean:ExcName->Option Value} {s₁:Shared} {args:List WData} {vals:List Value} {B:Base} (hB:B.prog = l.row.prog) (hw:B.w = w) {T c0:Addr} {qn:Str} (hb:∀ b o,B.h₀.get? b = some o->s₁.heap.get? b = some o) (hb':∀ b o,b ≠ T->s₁.heap.get? b = some o->B.h₀.get? b = some o)
  (hT0:B.h₀.get? T = none) (hT:s₁.heap.get? T = some (tabObj #[])) (hC:CodeHd s₁.heap c0 T) (hfr:B.frs = [])
  {P:Pg} {H:Hn} (wl:Wl P B H) {f:Fn} {o:Obj} {fd:FuncData} {body:List Stmt} {params:List Str} (fo:FnOk B H f o fd body params)
  (hrun:∀ is:List Int,is.length <= 63->∃ st,st.obj 0 0 = some (.tab c0 qn) /\ Call P f [.lst (is.map .int)] [] { ρ:=[],R:=[[.tab c0 qn]] } (.imm (.bool true)) st)
  (hpre:l.row.claim.pre args = true) (hwl:WellAll w.params s₁.heap vals args) (hgens:s₁.gens = #[]) :
  wpAny (model l.row.prog w) callerA (call (.ref f.addr) vals) (fun v s'=>GoodWG l.row.claim cl mean args s₁ (.ok (.ret v)) s') (fun e s'=>GoodWG l.row.claim cl mean args s₁ (.error e) s') s₁:=by
 obtain ⟨is,a,vs,hlen,rfl,ha,hr⟩:=c0i hm hpre hwl
 obtain ⟨st',hst',hk⟩:=hrun is hlen
 have hM:∀ b,Avd [] [[T]] (fun u_=>False) b->b = T:=fun b h=>by
  rcases h with (⟨l,m,_⟩ | ⟨l,i,w⟩) | h
  ·cases m
  ·unfold E4 at w
   cases l with
   | zero=>
    cases i with
    | zero=>cases w; rfl
    | succ i=>cases w
   | succ l=>cases w
  ·exact h.elim
 have hcT:c0 ≠ T:=by obtain ⟨_,_,_,_,_,_,_,_,_,_,_,_,_,_,_,_,_,_,h⟩:=hC; exact h
 have ok:=Ok.startT (c0:=c0) (q:=qn) B s₁ hb hT0 ⟨#[],hT,trivial,fun u_ u_ e=>(nomatch e),fun h=>hcT (hM _ h),hC⟩ hfr
 have hrel:RelL (wd [] [[T]] (fun u_=>False) s₁.heap) (1 - 1) [.ref a] [V.lst (is.map .int)]:=.cons (.lst (fun h=>by
   have e:=ha
   rw [hM a h] at e
   rw [show s₁.heap.get? T = _ from hT] at e
   cases e) ha (hr _ _)) .nil
 have:=hk ⟨B,H,cx0 .none Str.empty,d9f,[],fun u_=>False,1,callerA,wl,⟨rfl,rfl,rfl,rfl,fun u_ u_ e=>(nomatch e),fun u_ e=>(nomatch e),rfl,rfl,fun u_ u_ e=>(nomatch e)⟩,ArOk.caller B hfr⟩ o fd body params fo [[T]] s₁ (fun e s'=>GoodWG l.row.claim cl mean args s₁ (.error e) s') [] ok (fun u_ m=>nomatch m) (fun u_ m=>nomatch m) [.ref a] [] hrel .nil
 rw [<- hB,<- hw]
 refine wpAny_mono this (fun v s' h=>?_) fun u_ u_ e=>e
 obtain ⟨A',g,ok',hv⟩:=h
 cases hv
 have hlook:E4 A' 0 0 = some T:=g.same 0 0 T rfl
 obtain ⟨ps,hps,_⟩:=ok'.objs 0 0 _ T hst' hlook
 refine b5n ⟨fun b o e=>?_,fun b o e=>?_⟩ g.rest.2.2 (g.rest.1.trans hgens)
 ·by_cases hbT:b = T
  ·subst hbT
   rw [hT] at e
   cases e
   obtain ⟨oc,vs,_,_,_,_,_,_,_,e1,e2,e3,e4,_⟩:=hC
   exact .inr (.inl ⟨⟨c0,oc,vs,e1,e2,e3,e4⟩,rfl,#[],ps,rfl,by rw [show (#[]:Array Value) ++ ps = ps from Array.empty_append]; exact hps⟩)
  ·exact .inl (ok'.base b o (hb' b o hbT e))
 ·by_cases hbT:b = T
  ·exact ⟨_,hbT ▸ hps⟩
  ·exact ⟨o,ok'.base b o (hb' b o hbT e)⟩
end
section
noncomputable def d8p (v:Value):Bool:=match v with | .type n=>decide (n = "code") | _=>false
noncomputable def d8q (v:Value):Bool:=match v with | .bool _=>true | _=>false
noncomputable def d7s (v:Value):Bool:=match v with | .int _ _=>true | _=>false
noncomputable def d8r (v:Value):Bool:=match v with | .str _ _=>true | _=>false
noncomputable def d8s (v:Option Value) (t:Addr):Bool:=match v with | some (.ref a)=>decide (a = t) | _=>false
noncomputable def d8t (o:Obj):Bool:=(isNone o.cls && a1c o.data (·.isEmpty)) && (o.dict.isNone && o.slots.isEmpty)
noncomputable def d6i (t:Addr) (vs:Array Value):Bool:=(d8s vs[11]? t && d8r (vs.getD 18 .none)) && ((d7s (vs.getD 7 .none) && d8q (vs.getD 9 .none)) && d7s (vs.getD 10 .none))
noncomputable def c0l (h:Heap) (c t:Addr):Bool:=(!decide (c = t) && a6y h t d8t) && a6y h c fun o=>d8p o.cls && a1c o.data (d6i t)
theorem d0w {o:Obj} (e:d8t o = true):o = tabObj #[]:=by
 obtain ⟨e1,e2⟩:=B1 e
 obtain ⟨e1,e3⟩:=B1 e1
 obtain ⟨e2,e4⟩:=B1 e2
 obtain ⟨vs,hd,e5⟩:=X4 e3
 obtain ⟨c,d,dt,sl⟩:=o
 rw [show c = .none from X5 e1,show d = none from Option.isNone_iff_eq_none.mp e2,show dt = .fields vs from hd,Array.isEmpty_iff.mp e5,show sl = #[] from Array.isEmpty_iff.mp e4]
theorem d0x {v:Value} (e:d8p v = true):v = .type "code" := by
 cases v with
 | type n=>rw [C3 e]
 | _=>exact (Bool.false_ne_true e).elim
theorem d0y {v:Value} (e:d8q v = true):∃ b,v = .bool b:=by
 cases v with
 | bool b=>exact ⟨b,rfl⟩
 | _=>exact (Bool.false_ne_true e).elim
theorem c5p {v:Value} (e:d7s v = true):∃ b t,v = .int b t:=by
 cases v with
 | int b t=>exact ⟨b,t,rfl⟩
 | _=>exact (Bool.false_ne_true e).elim
theorem d0z {v:Value} (e:d8r v = true):∃ b t,v = .str b t:=by
 cases v with
 | str b t=>exact ⟨b,t,rfl⟩
 | _=>exact (Bool.false_ne_true e).elim
theorem d1a {v:Option Value} {t:Addr} (e:d8s v t = true):v = some (.ref t):=by
 cases v with
 | none=>exact (Bool.false_ne_true e).elim
 | some v=>
  cases v with
  | ref a=>rw [C3 e]
  | _=>exact (Bool.false_ne_true e).elim
theorem b2f {h:Heap} {c t:Addr} (e:c0l h c t = true):CodeHd h c t /\ h.get? t = some (tabObj #[]):=by
 obtain ⟨e1,e2⟩:=B1 e
 obtain ⟨e0,e1⟩:=B1 e1
 obtain ⟨ot,ht,e1⟩:=Q7 e1
 obtain ⟨o,ho,e2⟩:=Q7 e2
 obtain ⟨e2,e3⟩:=B1 e2
 obtain ⟨vs,hd,e3⟩:=X4 e3
 obtain ⟨e3,e4⟩:=B1 e3
 obtain ⟨e3,e5⟩:=B1 e3
 obtain ⟨e4,e6⟩:=B1 e4
 obtain ⟨e4,e7⟩:=B1 e4
 obtain ⟨file,tf,h5⟩:=d0z e5
 obtain ⟨fl,tg,h4⟩:=c5p e4
 obtain ⟨inF,h7⟩:=d0y e7
 obtain ⟨tx,tt,h6⟩:=c5p e6
 have h3:=d1a e3
 refine ⟨⟨o,vs,file,tf,fl,tg,inF,tx,tt,ho,d0x e2,hd,h3,?_,h5,h4,h7,h6,?_⟩,?_⟩
 ·rw [Array.getD_eq_getD_getElem?,h3]; rfl
 ·exact of_decide_eq_false ((Bool.not_eq_true' _).mp e0)
 ·rw [ht,d0w e1]
noncomputable def c5q (P:Pg) (H:Hn) (G:List (Str × Addr)) (Bt:List (Str × Value)) (PN:List (List Str)) (c t:Addr) (h:Heap):Bool:=c5j P H G Bt PN (ghostOf h [(c,t)]) && c0l h c t
theorem c0m {h h':Heap} {c t:Addr} (k:∀ b o,h.get? b = some o->h'.get? b = some o):∀ b o,(ghostOf h [(c,t)]).get? b = some o->(ghostOf h' [(c,t)]).get? b = some o:=fun b o e=>
 hideAll_get _ (k b o (of_hideAll _ e)) fun m=>by rw [hideAll_none _ m] at e; cases e
theorem c5r {h h':Heap} {c t:Addr} (e:c0l h c t = true) (k:∀ b o,h.get? b = some o->h'.get? b = some o):TabsAt [(c,t)] h':=fun q m=>by
 rw [List.mem_singleton.mp m]
 exact ⟨(b2f e).1.keeps k,k _ _ (b2f e).2⟩
end
section
end
section
set_option maxRecDepth 100000
@[elab_as_elim] theorem RelK.one_e {w:Wd} {lv:Nat} {k:Str} {x:V} {ks:List (Str × Value)} {R:List (Str × Value)->Prop} (h:RelK w lv ks [(k,x)]) (K:∀ v,RelO w lv (Option.some v) (Option.some x)->R [(k,v)]):R ks:=by
 cases h with
 | cons h hn=>
  cases hn
  exact K _ h
@[elab_as_elim] theorem RelO.ref_e {w:Wd} {lv:Nat} {u:Value} {m:Lam} {vs:List V} {R:Value->Prop} (h:RelO w lv (Option.some u) (Option.some (V.clo m vs))) (K:∀ q,RelO w lv (Option.some (Value.ref q)) (Option.some (V.clo m vs))->R (Value.ref q)):R u:=by
 obtain ⟨q,_,_,_,_,_,_,_,_,e,_⟩:=h.cl
 subst e
 exact K q h
@[elab_as_elim] theorem c5s {α β:Type} {f:α->β} {l:List α} {i:Nat} {z:β} {R:β->Prop} (e:(l.map f)[i]? = some z) (K:∀ p,l[i]? = some p->R (f p)):R z:=by
 rw [List.getElem?_map] at e
 cases q:l[i]? with
 | none=>rw [q] at e; cases e
 | some p=>rw [q] at e; exact Option.some.inj e ▸ K p q
theorem RelL.gets {w:Wd} {lv:Nat} {vs:List Value} {xs:List V} {i:Nat} {v:Value} {x:V} (h:RelL w lv vs xs) (e1:vs[i]? = some v) (e2:xs[i]? = some x):Rel w lv v x:=by
 obtain ⟨v',e3,e4⟩:=h.get e2
 exact Option.some.inj (e3.symm.trans e1) ▸ e4
section
variable {P:Pg} {st:St}
theorem b5o {c:Cf P} {A:List (List Addr)} {s:Shared} {fv:Value} {f:V} {kS D1:Addr} {e1:Nat} {E:Value->Shared->Prop} {its:List Value} {vs zs:List V} (hl:zs.length = vs.length) (h64:vs.length < 64) (ok:c.Ok A st s) (hf:RelO (c.wd A s.heap) (c.nl - 1) (some fv) (some f)) (hr:RelL (c.wd A s.heap) (c.nl - 1) its vs)
  (hk:∀ (i:Nat) x z,vs[i]? = some x->zs[i]? = some z->ApO P f [x] st z st) (q1:c.Q kS) (q2:c.Q D1) (hne:D1 ≠ kS) (h1:s.heap.get? kS = some (seqObj "list" #[] 0)) (h2:s.heap.get? D1 = some (seqObj "list" #[] e1)) {body:Value->PUnit->Sem (ForInStep PUnit)}
  (hb:∀ x ks e (s:Shared) (C:Shared->Prop),List.length ks < 64->
   c.W (call fv [x]) (fun k s'=>s'.heap.get? kS = some (seqObj "list" (List.toArray ks) e) /\ (∀ e'' h',(∀ b o,b ≠ kS->s'.heap.get? b = some o->h'.get? b = some o)->h'.get? kS = some (seqObj "list" (List.toArray (ks ++ [k])) e'')->C { s' with heap:=h' })) (fun u_ u_=>False) s->
   c.W (body x ⟨⟩) (fun r s'=>r = .yield ⟨⟩ /\ C s') E s) {Q:PUnit->Shared->Prop}
  (hQ:∀ A' s' kz e,GoX (fun b=>b = kS) c.lay A A' s s'->c.Ok A' st s'->s'.heap.get? kS = some (seqObj "list" (List.toArray kz) e)->s'.heap.get? D1 = some (seqObj "list" #[] e1)->RelL (c.wd A' s'.heap) (c.nl - 1) kz zs->Q ⟨⟩ s') :
  c.W (forIn its PUnit.unit body) Q E s:=by
 have hlen:=hr.length
 have xq:∀ b,b = kS->c.Q b:=fun b e=>e ▸ q1
 refine ksk_fold (fun i s'=>∃ A' kz e,GoX (fun b=>b = kS) c.lay A A' s s' /\ c.Ok A' st s' /\ s'.heap.get? kS = some (seqObj "list" (List.toArray kz) e) /\ s'.heap.get? D1 = some (seqObj "list" #[] e1) /\ RelL (c.wd A' s'.heap) (c.nl - 1) kz (zs.take i)) its 0 s ⟨A,[],0,.refl,ok,h1,h2,.nil⟩ (fun j x s' hx hI=>?_) fun s' hI=>?_
 ·obtain ⟨A',kz,e,g,ok',k1,k2,kr⟩:=hI
  rw [Nat.zero_add] at kr ⊢
  have hj:j < vs.length:=by rw [<- hlen]; exact (List.getElem?_eq_some_iff.mp hx).1
  have ev:vs[j]? = some vs[j]:=List.getElem?_eq_getElem hj
  have hj2:j < zs.length:=by lia
  have ez:zs[j]? = some zs[j]:=List.getElem?_eq_getElem hj2
  have hxr:c.Rel A' s' x vs[j]:=(hr.mono (g.le xq _) (Nat.le_refl _)).gets hx ev
  have hzl:=kr.length
  rw [List.length_take] at hzl
  refine hb x kz e s' (fun s''=>∃ A' kz e,GoX (fun b=>b = kS) c.lay A A' s s'' /\ c.Ok A' st s'' /\ s''.heap.get? kS = some (seqObj "list" (List.toArray kz) e) /\ s''.heap.get? D1 = some (seqObj "list" #[] e1) /\ RelL (c.wd A' s''.heap) (c.nl - 1) kz (zs.take (j + 1))) (by lia) ?_
  obtain ⟨_,hcall⟩:=hk j vs[j] zs[j] ev ez c A' s' (fun u_ u_=>False) ok' fv [x] (hf.mono (g.le xq _) (Nat.le_refl _)) (.cons hxr .nil)
  refine wpAny_mono hcall (fun k s2 hp=>?_) fun u_ u_ e=>e
  obtain ⟨A2,g2,ok2,hkr⟩:=hp
  have nt:∀ b,c.Q b->¬ Tch c.lay A' b:=fun b hb=>ok'.disP b hb
  have k1':=(g2.keep _ _ k1 (nt _ q1)).at (G8 rfl)
  have k2':=(g2.keep _ _ k2 (nt _ q2)).at (G8 rfl)
  refine ⟨k1',fun e'' h' hk' hg'=>?_⟩
  have okp:=ok2.priv (tk:=s2.toks) [kS] (fun b m=>by rw [List.mem_singleton.mp m]; exact q1) (fun b o m e=>hk' b o (fun w=>m (by rw [w]; exact .head _)) e) (fun b m=>by rw [List.mem_singleton.mp m]; exact ⟨_,hg'⟩) (fun b m=>by
   rw [List.mem_singleton.mp m]
   exact ok2.notFr fun o e es ep w=>by rw [k1'] at e; cases e; cases w)
  have gp:GoX (fun b=>b = kS) c.lay A2 A2 s2 { s2 with heap:=h' }:=⟨fun b o e u_ w=>.of (hk' b o w e),fun b o e w=>⟨o,hk' b o w e⟩,fun u_ u_ u_ e=>e,fun u_ u_ u_ e=>.inl e,rfl,rfl,rfl⟩
  have le:=fun lv=>gp.le xq lv
  refine ⟨A2,kz ++ [k],e'',(g.trans g2.toX).trans gp,okp,hg',hk' _ _ hne k2',?_⟩
  rw [List.take_add_one,ez]
  exact RelL.append ((RelL.go kr g2).mono (le _) (Nat.le_refl _)) (.cons (hkr.mono (le _) (Nat.le_refl _)) .nil)
 ·obtain ⟨A',kz,e,g,ok',k1,k2,kr⟩:=hI
  rw [Nat.zero_add,hlen,<- hl,List.take_length] at kr
  exact hQ A' s' kz e g ok' k1 k2 kr
end
section
variable {prog:Program} {w:World} {A:Around} {E:Value->Shared->Prop} {s:Shared}
theorem a3r {l q:Addr} {vs:List Value} {Q:Value->Shared->Prop} (hl:s.heap.IsList l vs.toArray) (h64:vs.length < 64)
  (h:∀ H3 e1 E',(∀ b o,s.heap.get? b = some o->H3.get? b = some o)->H3.get? (s.heap.objs.size + 1) = some (seqObj "list" #[] e1)->H3.get? (s.heap.objs.size + 3) = some (seqObj "list" #[] 0)->
   wpAny (model prog w) A.in1.in1 (ksk_rest (s.heap.objs.size + 1) (.ref q) false vs.toArray e1 (.ref (s.heap.objs.size + 3))) (fun fin s'=>fin = .done (.ret .none) /\ Q (.ref (s.heap.objs.size + 1)) s') E' { s with heap:=H3 }) :
  wpAny (model prog w) A (call (.builtin "sorted") [.ref l] [(Str.ofString "key",.ref q)]) Q E s:=by
 refine call_function_entry_kw kind_sorted plain_sorted entry_sorted (ksk_s1 _ _) ?_
 unfold Builtin.«sorted»
 refine wpAny_bind (m:=checkCount "sorted" 1 1 _) (wpAny_pure ?_)
 refine wpAny_bind (collect_list hl ?_ (by rw [sizeLine_eq]; lia))
 refine wpAny_bind (wpAny_newList ?_ (by rw [sizeLine_eq]; lia))
 have hsz:((s.heap.push (seqObj "list" #[] 0)).update s.heap.objs.size (Obj.mapSeq (· ++ vs.toArray))).objs.size = s.heap.objs.size + 1:=by
  rw [Heap.size_update,size_push']
 have hoL:(((s.heap.push (seqObj "list" #[] 0)).update s.heap.objs.size (Obj.mapSeq (· ++ vs.toArray))).push (seqObj "list" vs.toArray 0)).get? (s.heap.objs.size + 1) = some (seqObj "list" vs.toArray 0):=by
  rw [<- hsz]; exact Heap.get?_push_size _ rfl
 have hz2:(((s.heap.push (seqObj "list" #[] 0)).update s.heap.objs.size (Obj.mapSeq (· ++ vs.toArray))).push (seqObj "list" vs.toArray 0)).objs.size = s.heap.objs.size + 2:=by rw [size_push',hsz]
 have keep:∀ b o,s.heap.get? b = some o->(((s.heap.push (seqObj "list" #[] 0)).update s.heap.objs.size (Obj.mapSeq (· ++ vs.toArray))).push (seqObj "list" vs.toArray 0)).get? b = some o:=fun b o q=>by
  have hlt:b < s.heap.objs.size:=Heap.lt_size q
  rw [Heap.get?_push_ne _ _ _ (by rw [hsz]; exact Nat.ne_of_lt (Nat.lt_succ_of_lt hlt)),Heap.get?_update_ne _ _ _ _ (Nat.ne_of_lt hlt),Heap.get?_push_ne _ _ _ (Nat.ne_of_lt hlt)]
  exact q
 show wpAny _ _ _ _ _ { s with heap:=((s.heap.push (seqObj "list" #[] 0)).update s.heap.objs.size (Obj.mapSeq (· ++ vs.toArray))).push (seqObj "list" vs.toArray 0) }
 rw [hsz]
 generalize ((s.heap.push (seqObj "list" #[] 0)).update s.heap.objs.size (Obj.mapSeq (· ++ vs.toArray))).push (seqObj "list" vs.toArray 0) = H1 at *
 refine wpAny_bind (wpAny_holding (wpAny_call_entry_kw slot_list_sort ⟨_,hoL,rfl⟩ entry_list_sort ?body (ksk_l1 _ _)))
 case body=>
  show wpAny (model prog w) A.in1.in1 (Builtin.«list.sort» ⟨[.ref (s.heap.objs.size + 1)],[(Str.ofString "key",.ref q)]⟩) _ _ _
  rw [ksk_t1]
  have s1:=Heap.SameBut.update H1 (s.heap.objs.size + 1) (Obj.mapSeq fun u_=>(#[]:Array Value))
  obtain ⟨e1,ho1⟩ : ∃ e1,(H1.update (s.heap.objs.size + 1) (Obj.mapSeq fun u_=>(#[]:Array Value))).get? (s.heap.objs.size + 1) = some (seqObj "list" #[] e1):=⟨_,get?_update_seq hoL fun u_=>#[]⟩
  have hu:(H1.update (s.heap.objs.size + 1) (Obj.mapSeq fun u_=>(#[]:Array Value))).objs.size = s.heap.objs.size + 2:=by rw [Heap.size_update,hz2]
  unfold ksk_tree
  refine wpAny_bind (listItems_at hoL rfl ?_)
  refine wpAny_bind (listUpdate_at hoL rfl ?_ (by rw [List.size_toArray,sizeLine_eq]; lia) (Nat.zero_le _))
  refine wpAny_bind (seqEpoch_at ho1 rfl ?_)
  refine wpAny_bind (wpAny_newTuple ?_ (by show vs.length <= _; rw [sizeLine_eq]; lia))
  refine wpAny_bind (wpAny_newList ?_ (Nat.zero_le _))
  refine wpAny_holding ?_
  have hp:((H1.update (s.heap.objs.size + 1) (Obj.mapSeq fun u_=>(#[]:Array Value))).push (seqObj "tuple" vs.toArray 0)).objs.size = s.heap.objs.size + 3:=by rw [size_push',hu]
  have hk3:=Heap.get?_push_size ((H1.update (s.heap.objs.size + 1) (Obj.mapSeq fun u_=>(#[]:Array Value))).push (seqObj "tuple" vs.toArray 0)) (o:=seqObj "list" #[] 0) rfl
  rw [hp] at hk3
  show wpAny (model prog w) A.in1.in1 (ksk_rest (s.heap.objs.size + 1) (.ref q) false vs.toArray e1 (.ref ((H1.update (s.heap.objs.size + 1) (Obj.mapSeq fun u_=>(#[]:Array Value))).push (seqObj "tuple" vs.toArray 0)).objs.size)) _ _ { s with heap:=((H1.update (s.heap.objs.size + 1) (Obj.mapSeq fun u_=>(#[]:Array Value))).push (seqObj "tuple" vs.toArray 0)).push (seqObj "list" #[] 0) }
  rw [hp]
  refine wpAny_mono (h _ e1 _ (fun b o q=>?_) (Heap.get?_push_of_some _ (Heap.get?_push_of_some _ ho1)) hk3) (fun fin s' hq=>?_) fun u_ u_ e=>e
  ·exact Heap.get?_push_of_some _ (Heap.get?_push_of_some _ ((s1.2 b (Nat.ne_of_lt (Nat.lt_succ_of_lt (Heap.lt_size q)))).trans (keep b o q)))
  ·obtain ⟨rfl,hq⟩:=hq
   exact ⟨_,rfl,wpAny_pure ⟨_,rfl,hq⟩⟩
theorem a9o {D1 kS e e1:Nat} {vs ks:List Value} {ps:List (Int × Int)} {r:Array Nat} {P:PySem.Fin->Shared->Prop} (hne:D1 ≠ kS) (h1:s.heap.get? kS = some (seqObj "list" (List.toArray ks) e)) (hD:s.heap.get? D1 = some (seqObj "list" #[] e1)) (hl:ks.length = vs.length) (h64:vs.length < 64) (hlen:ps.length = vs.length)
  (hp:∀ (i:Nat) (v:Value) (p:Int × Int),ks[i]? = some v->ps[i]? = some p->PairAt s.heap v p) (hr:a4b ps vs.length = some r)
  (h:∀ h',(∀ b o,b ≠ kS->b ≠ D1->s.heap.get? b = some o->h'.get? b = some o)->(∃ o,h'.get? kS = some o)->(∃ c,h'.get? D1 = some (seqObj "list" (c2h vs r).toArray c))->P (.done (.ret .none)) { s with heap:=h' }) :
  wpAny (model prog w) A (ksk_end D1 false vs.toArray e1 (.ref kS) (List.toArray ks)) P E s:=by
 unfold ksk_end
 dsimp only
 rw [if_neg Bool.false_ne_true]
 by_cases h2:2 <= vs.length
 case neg=>
  rw [a4b,if_neg h2] at hr
  cases hr
  have hn2:vs.toArray.size < 2:=by rw [List.size_toArray]; lia
  rw [if_pos hn2,if_pos hn2,if_neg Bool.false_ne_true]
  refine wpAny_bind (wpAny_pure ?_)
  rw [StateT.run_pure]
  refine wpAny_bind (wpAny_pure ?_)
  unfold ksk_tail
  dsimp only
  rw [show (arrOf (SortSt.mk' general' (ks.toArray.zip vs.toArray) #[] 7 none)).map (·.2) = vs.toArray from b6m vs ks hl,if_neg Bool.false_ne_true]
  have s1:=Heap.SameBut.update s.heap kS (Obj.mapSeq fun u_=>(#[]:Array Value))
  obtain ⟨c1,hc1⟩ : ∃ c1,(s.heap.update kS (Obj.mapSeq fun u_=>(#[]:Array Value))).get? kS = some (seqObj "list" #[] c1):=⟨_,get?_update_seq h1 fun u_=>#[]⟩
  have hD1:=(s1.2 D1 hne).trans hD
  have s2:=Heap.SameBut.update (s.heap.update kS (Obj.mapSeq fun u_=>(#[]:Array Value))) D1 (Obj.mapSeq fun u_=>vs.toArray)
  obtain ⟨c2,hc2⟩ : ∃ c2,((s.heap.update kS (Obj.mapSeq fun u_=>(#[]:Array Value))).update D1 (Obj.mapSeq fun u_=>vs.toArray)).get? D1 = some (seqObj "list" vs.toArray c2):=⟨_,get?_update_seq hD1 fun u_=>vs.toArray⟩
  refine wpAny_bind (listUpdate_at h1 rfl ?_ (by rw [List.size_toArray,sizeLine_eq]; lia) (Nat.zero_le _))
  refine wpAny_bind (wpAny_letGo ?_)
  refine wpAny_bind (seqEpoch_at hD1 rfl ?_)
  refine wpAny_bind (listUpdate_at hD1 rfl ?_ (Nat.zero_le _) (by rw [List.size_toArray,sizeLine_eq]; lia))
  simp only [bne_self_eq_false,Bool.false_eq_true,if_false]
  exact wpAny_pure (h _ (fun b o w1 w2 e=>(s2.2 b w2).trans ((s1.2 b w1).trans e)) ⟨_,(s2.2 kS hne.symm).trans hc1⟩ ⟨c2,by rw [hc2]; unfold c2h; rw [a5f]⟩)
 rw [a4b,if_pos h2] at hr
 have hn2:¬ vs.toArray.size < 2:=by rw [List.size_toArray]; lia
 rw [if_neg hn2,if_neg hn2,if_neg Bool.false_ne_true]
 obtain ⟨fs,f1,f2,f3⟩:=a0g ks ps (by lia) hp
 refine wpAny_bind (kat_kind (T:=.type "int") f1 (by lia) (fun v mv=>by obtain ⟨n,t,rfl⟩:=f3 v mv; exact Looks.of_pure rfl) rfl ?_)
 have hask:(kas_sort vs.length).kasWp (kas_ask prog w A (tuples' (Value.type "int" != Value.type "tuple")) ks) (fun p s'=>p = r /\ s' = s) s:=by
  refine W6 (n:=vs.length) (fun i j C hi hj hC=>?_) _ r hr ⟨rfl,rfl⟩
  unfold kas_ask
  have hi':i < ks.length:=by lia
  have hj':j < ks.length:=by lia
  have ei:ks[i]? = some ks[i]:=List.getElem?_eq_getElem hi'
  have ej:ks[j]? = some ks[j]:=List.getElem?_eq_getElem hj'
  have pi:ps[i]? = some (ps.getD i (0,0)):=by rw [List.getD_eq_getElem?_getD,List.getElem?_eq_getElem (by lia)]; rfl
  have pj:ps[j]? = some (ps.getD j (0,0)):=by rw [List.getD_eq_getElem?_getD,List.getElem?_eq_getElem (by lia)]; rfl
  rw [List.getD_eq_getElem?_getD,List.getD_eq_getElem?_getD,ei,ej]
  exact b6n (hp i _ _ ei pi) (hp j _ _ ej pj) hC
 refine wpAny_bind (wpAny_mono (kat_run (Q:=fun st' s'=>∃ p:Array Nat,p.size = vs.length /\ arrOf st' = p.map (kas_item (ks.toArray.zip vs.toArray)) /\ failedOf st' = none /\ p = r /\ s' = s)
  hl h2 h64 (fun p' st' s' a1 a2 a3 a4=>⟨p',a1,a2,a3,a4.1,a4.2⟩) hask) ?_ fun u_ u_ e=>e)
 rintro ⟨⟨⟩,st'⟩ s' ⟨p,hpz,har,hf,rfl,rfl⟩
 dsimp only
 have hout:=kat_snds hl har
 have hsz:(List.toArray (p.toList.map fun i=>vs.getD i Value.none)).size = vs.length:=by rw [List.size_toArray,List.length_map,Array.length_toList,hpz]
 unfold ksk_tail
 dsimp only
 rw [hout,if_neg Bool.false_ne_true]
 have s1:=Heap.SameBut.update s'.heap kS (Obj.mapSeq fun u_=>(#[]:Array Value))
 obtain ⟨c1,hc1⟩ : ∃ c1,(s'.heap.update kS (Obj.mapSeq fun u_=>(#[]:Array Value))).get? kS = some (seqObj "list" #[] c1):=⟨_,get?_update_seq h1 fun u_=>#[]⟩
 have hD1:=(s1.2 D1 hne).trans hD
 have s2:=Heap.SameBut.update (s'.heap.update kS (Obj.mapSeq fun u_=>(#[]:Array Value))) D1 (Obj.mapSeq fun u_=>List.toArray (p.toList.map fun i=>vs.getD i Value.none))
 obtain ⟨c2,hc2⟩ : ∃ c2,((s'.heap.update kS (Obj.mapSeq fun u_=>(#[]:Array Value))).update D1 (Obj.mapSeq fun u_=>List.toArray (p.toList.map fun i=>vs.getD i Value.none))).get? D1 = some (seqObj "list" (List.toArray (p.toList.map fun i=>vs.getD i Value.none)) c2):=⟨_,get?_update_seq hD1 fun u_=>List.toArray (p.toList.map fun i=>vs.getD i Value.none)⟩
 refine wpAny_bind (listUpdate_at h1 rfl ?_ (by rw [List.size_toArray,sizeLine_eq]; lia) (Nat.zero_le _))
 refine wpAny_bind (wpAny_letGo ?_)
 refine wpAny_bind (seqEpoch_at hD1 rfl ?_)
 refine wpAny_bind (listUpdate_at hD1 rfl ?_ (Nat.zero_le _) (Nat.le_trans (Nat.le_of_eq hsz) (by rw [sizeLine_eq]; lia)))
 rw [hf]
 simp only [bne_self_eq_false,Bool.false_eq_true,if_false]
 exact wpAny_pure (h _ (fun b o w1 w2 e=>(s2.2 b w2).trans ((s1.2 b w1).trans e)) ⟨_,(s2.2 kS hne.symm).trans hc1⟩ ⟨c2,hc2⟩)
end
section
variable {P:Pg} {st:St}
noncomputable def cxU (cx:CX):CX:=⟨fun u_=>none,fun u_=>false,cx.gl,0,cx.code,cx.qual⟩
noncomputable def Cf.under (c:Cf P) (Q:Addr->Prop) (h:c.nl < 100):Cf P:=⟨c.B.on c.B.frs,c.H,cxU c.cx,c.env,[],Q,c.nl + 1,c.Ar.in1.in1,c.wl.on _,
 ⟨c.eo.kind,c.eo.globals,c.eo.builtins,rfl,fun u_ u_ e=>(nomatch e),fun u_ e=>(nomatch e),c.eo.code,c.eo.qual,c.eo.glob⟩,
 ⟨c.ao.handled,c.ao.frames,Nat.le_succ_of_le c.ao.depth,by have:=c.ao.units; show c.Ar.units + 1 + 1 <= _; lia,h⟩⟩
theorem a9p {m:Lam} {ws:List V} {a:V} {vs us:List V} {ps:List (Int × Int)} {r:Array Nat} (hR:st.R.length < 100) (hs:C7 st a = some vs) (h64:vs.length < 64) (hlen:ps.length = vs.length)
  (hk:∀ (i:Nat) x (p:Int × Int),vs[i]? = some x->ps[i]? = some p->ApO P (.clo m ws) [x] ⟨[],st.R ++ [[]]⟩ (.tup [.int p.1,.int p.2]) ⟨[],st.R ++ [[]]⟩)
  (hr:a4b ps vs.length = some r) (hu:a1y (fun i=>vs[i]?) r.toList = some us):c5o P (.builtin "sorted") [a] [(("key" : Str),.clo m ws)] st (.lst us) st:=by
 intro c A s F K ok hK hC items ks hit hkw
 refine ⟨.inl fun u_ e=>(nomatch e),?_⟩
 refine hit.one_e fun v hv=>hkw.one_e fun fv hfr=>hfr.ref_e fun q hfr=>?_
 obtain ⟨l,its,k,rfl,hg,hrel⟩:=D4 ok hv hs
 have hz:=hrel.length
 have hroom:c.nl < 100:=by rw [<- ok.rlen]; exact hR
 have ok0:=ok.enter (K:=K) (new:=[]) (h':=s.heap) (tk:=s.toks) (ρ:=[]) hK (fun u_ m=>(nomatch m)) (fun u_ u_ e=>e) rfl (fun u_ u_ u_ u_ u_ e=>(nomatch e)) (fun u_ m=>(nomatch m)) (fun u_ u_ u_ u_ e=>(nomatch e)) (frs:=c.B.frs) fun u_ m=>.inl m
 have lee:=fun lv=>b1x (lay:=c.lay) (A:=A) (P:=c.Q) (K:=K) (new:=[]) (s:=s) (fun b m l i e=>let ⟨x,mx,q⟩:=hK b m; ok.layA x mx l i (q ▸ e)) (fun u_ m=>(nomatch m)) (h':=s.heap) (fun u_ u_ e=>e) lv
 have leI:=fun lv=>(a6u (lay:=c.lay) (A:=A) (P:=c.Q) (K:=K) (h:=s.heap) lv).trans (lee lv)
 refine a3r (B8 hg) (by lia) fun H3 e1 E' hkeep hD hS=>?_
 generalize hD1:s.heap.objs.size + 1 = D1 at *
 generalize hkS:s.heap.objs.size + 3 = kS at *
 have fresh:∀ b ∈ [D1,kS],s.heap.get? b = none:=b4y (Heap.get?_none_of_le (by lia)) (Heap.get?_none_of_le (by lia))
 have okg:=ok0.guard (tk:=s.toks) [D1,kS] fresh hkeep (b4y ⟨_,hD⟩ ⟨_,hS⟩)
 have gg:=(ok0.grow (tk:=s.toks) hkeep).2
 let c':Cf P:=c.under (fun b=>PK c.lay c.Q K b ∨ b ∈ [D1,kS]) hroom
 have okg:c'.Ok (A ++ [[]]) ⟨[],st.R ++ [[]]⟩ { s with heap:=H3 }:=okg
 have leg:∀ lv,Wd.Le lv (wd [] (A ++ [[]]) (PK c.lay c.Q K) s.heap) (c'.wd (A ++ [[]]) H3):=fun lv=>⟨fun b o e u_=>.of (hkeep b o e),(fun b o e h=>by
  rcases h with h | h | h
  ·exact .inl h
  ·exact .inr h
  ·rw [fresh b h] at e; cases e),fun u_ u_ u_ u_ e=>e⟩
 have hne:D1 ≠ kS:=by lia
 unfold ksk_rest
 refine wpAny_bind (wpAny_rule ?_)
 rw [List.forIn_toArray]
 refine wpAny_bind ?_
 show c'.W (forIn its PUnit.unit _) _ _ _
 refine b5o (c:=c') (vs:=vs) (zs:=ps.map fun p=>V.tup [.int p.1,.int p.2]) (by rw [List.length_map,hlen]) h64 okg ((hfr.mono (lee _) (Nat.sub_le _ _)).mono (leg _) (Nat.le_refl _)) ((hrel.mono (leI _) (Nat.sub_le _ _)).mono (leg _) (Nat.le_refl _)) (fun i x z e e'=>?_) (.inr (.tail _ (.head _))) (.inr (.head _)) hne hS hD (fun x ks e s' C hz' hx=>?_) fun A4 s4 kz e g4 ok4 k1 k2 kr=>?_
 ·revert e'; exact fun e'=>c5s e' fun p q=>hk i x p e q
 ·refine wpAny_bind (wpAny_attempt (wpAny_mono hx (fun k s'' hk=>?_) fun u_ u_ hF=>hF.elim))
  obtain ⟨hk1,hk2⟩:=hk
  have s1:=Heap.SameBut.update s''.heap kS (Obj.mapSeq (·.push k))
  have ea:(List.toArray ks).push k = List.toArray (ks ++ [k]):=by simp
  obtain ⟨c2,hc2⟩ : ∃ c2,(s''.heap.update kS (Obj.mapSeq (·.push k))).get? kS = some (seqObj "list" (List.toArray (ks ++ [k])) c2):=⟨_,by rw [<- ea]; exact get?_update_seq hk1 (·.push k)⟩
  dsimp only
  refine wpAny_bind (listUpdate_at hk1 rfl ?_ (by rw [List.size_toArray,sizeLine_eq]; lia) (Nat.le_trans (Nat.le_of_eq (Array.size_push ..)) (by rw [List.size_toArray,sizeLine_eq]; lia)))
  exact wpAny_pure ⟨rfl,hk2 _ _ (fun b o w e=>(s1.2 b w).trans e) hc2⟩
 ·refine wpAny_bind (listItems_at k1 rfl ?_)
  have hkl:=kr.length
  rw [List.length_map] at hkl
  refine a9o hne k1 k2 (by lia) (by lia) (by lia) (ps:=ps) (r:=r) (fun i v p e1 e2=>?_) (by rw [hz]; exact hr) fun h' hk' hk2 hc'=>⟨rfl,?_⟩
  ·refine (kr.gets (x:=.tup [.int p.1,.int p.2]) e1 (by rw [List.getElem?_map,e2]; rfl)).tup_e fun a its2 n u_ q1 q2=>?_
   revert q1
   exact q2.cons_e fun u w hu hw=>hw.one_e fun u2 hu2=>hu.int_e fun t1=>hu2.int_e fun t2 q1=>⟨a,n,t1,t2,rfl,q1⟩
  ·obtain ⟨cc,hc'⟩:=hc'
   have okp:=ok4.priv (tk:=s4.toks) (h':=h') [D1,kS] (fun b m=>.inr m) (fun b o m e=>hk' b o (fun w=>m (by rw [w]; exact .tail _ (.head _))) (fun w=>m (by rw [w]; exact .head _)) e) (b4y ⟨_,hc'⟩ hk2) (b4y (ok4.notFr fun o e es ep w=>by rw [k2] at e; cases e; cases w) (ok4.notFr fun o e es ep w=>by rw [k1] at e; cases e; cases w))
   have gp:GoX (fun b=>b ∈ [D1,kS]) [] A4 A4 s4 { s4 with heap:=h' }:=⟨fun b o e u_ w=>.of (hk' b o (fun q=>w (by rw [q]; exact .tail _ (.head _))) (fun q=>w (by rw [q]; exact .head _)) e),fun b o e w=>⟨o,hk' b o (fun q=>w (by rw [q]; exact .tail _ (.head _))) (fun q=>w (by rw [q]; exact .head _)) e⟩,fun u_ u_ u_ e=>e,fun u_ u_ u_ e=>.inl e,rfl,rfl,rfl⟩
   have gt:Go [] (A ++ [[]]) A4 s { s4 with heap:=h' }:=((gg.toX.trans (g4.mono fun b w=>by rw [w]; exact .tail _ (.head _))).trans gp).toGo fresh
   have okw:=okp.weaken (P:=PK c.lay c.Q K) fun b h=>.inl h
   have hc3:=a2r hK ok hC (new:=[]) (fun u_ m=>(nomatch m)) (s':=s) (fun u_ u_ e=>e) gt
   have hok:=Ok.leave (s':=s) (frs:=c.B.frs) (fun u_ m=>m) ok hK hc3 okw (fun u_ m=>(nomatch m)) (fun u_ u_ e=>e) ⟨rfl,rfl,rfl⟩ gt
   have hgo:=a4r (s':=s) ok okw (fun u_ m=>(nomatch m)) (fun u_ u_ e=>e) ⟨rfl,rfl,rfl⟩ gt
   have e0:St.mk st.ρ ((St.mk [] (st.R ++ [[]])).R.dropLast) = st:=by show St.mk st.ρ ((st.R ++ [[]]).dropLast) = st; rw [List.dropLast_concat]
   rw [e0] at hok
   refine ⟨_,hgo,hok,.lst (fun w=>?_) hc' (a4j (hrel.mono (hgo.le c.Q _) (Nat.le_refl _)) _ _ hu)⟩
   have nof:∀ {P:Prop},(∃ o,s.heap.get? D1 = some o)->P:=fun h=>by
    obtain ⟨o,e⟩:=h
    rw [fresh D1 (.head _)] at e; cases e
   rcases w with (w | ⟨l,i,w⟩) | w
   ·exact nof (ok.alive _ (.inl (.inl w)))
   ·rw [G7] at w
    split at w
    ·exact okp.disP D1 (.inr (.head _)) (.inr ⟨l,i,w⟩)
    ·cases w
   ·exact nof (ok.alive _ (.inr w))
end
end
section
set_option maxRecDepth 100000
section
variable {P:Pg} {st st1 st2 st3:St}
theorem a9q {B:Base} {lay:List Loc} {P:Addr->Prop} {nl:Nat} {A:List (List Addr)} {s:Shared} (ok:Ok B lay P nl A st s) {l i:Nat} {kvs:List (Int × Int)} (h:st.obj l i = some (.dct kvs)) {v:Value} (r:Rel (wd lay A P s.heap) (nl - 1) v (.ref l i)) :
  ∃ a ts,v = .ref a /\ E4 A l i = some a /\ (a == sysModules) = false /\ s.heap.DictAt (intKind B.prog B.w) a (b4c ts kvs) kvs.length:=by
 refine r.ref_e fun a h1 h2=>?_
 have hd:DctRep s.heap a kvs:=ok.objs _ _ _ _ h h2
 obtain ⟨ts,q⟩:=hd.dict B.prog B.w
 exact ⟨a,ts,rfl,h2,hd.1,q⟩
theorem c5t {v st'} (h:st.alloc (.dct []) = some (v,st')):E P .dict0 st v st':=E.of rfl fun c n e hc A s E ok=>b4q hc fun p=>by
 refine wpAny_Dict_empty ?_
 refine Ok.alloc (tk:=s.toks) ok h (fun b q e=>Heap.get?_push_of_some _ e) (Heap.get?_none_of_le (Nat.le_refl _)) fun w hw u_ u_=>?_
 show DctRep w.h s.heap.objs.size []
 rw [hw]
 have hlt:=modules_low (c.B.nolim.keeps ok.base)
 refine ⟨beq_eq_false_iff_ne.mpr (Nat.ne_of_gt hlt),c.B.prog,c.B.w,fun u_=>0,⟨_,#[],Heap.get?_push_size _ rfl,⟨rfl,rfl,rfl⟩,rfl,fun u_ he=>by simp at he,.nil,List.nodup_nil⟩⟩
theorem c5u {o i l k kvs key x} (h1:E P o st (.ref l k) st1) (h2:E P i st1 (.int key) st2) (h3:st2.obj l k = some (.dct kvs)) (h4:a5o kvs key = some x):E P (.sub o i) st (.int x) st2:=E.of rfl fun u_ u_ u_ h u_ u_ u_ ok=>b7c h fun u_ u_ u_ hp ha hb=>
 Subscript_ (Cf.two h1 h2 ha hb ok fun u v A s ok r1 r2=>by
  obtain ⟨a,ts,rfl,_,_,hd⟩:=a9q ok h3 r1
  refine r2.int_e fun t=>tail_any hd.dictOf.typeIs slot_dict_getitem.lookup ?_ (E7 hp _ _)
  exact wpAny_getItem_of (intKind_is _ _ _ _) hd.dictOf.mapOf (by rw [b6x,h4]; rfl) (ok.int_post _ _ _))
theorem c5v {d o i l k kvs key x} (h1:E P o st (.ref l k) st1) (h2:E P i st1 (.int key) st2) (h3:st2.obj l k = some (.dct kvs)) (h4:kvs.length <= lim):As P (d + 1) (.sub o i) (.int x) st (st2.setObj l k (.dct (Y5 kvs key x))):=
 ⟨⟨fun u_ e=>(nomatch e),fun u_ e=>nomatch e⟩,fun c u_ u_ u_ h u_ u_ u_ u_ ok hv=>a0y h fun u_ u_ u_ ho hi=>by
  rw [assign_Subscript]
  refine wpAny_bind (wpAny_holding (Cf.go (h1.at ho) ok fun ov' s1 A1 g1 ok1 r1=>wpAny_bind (wpAny_holding (Cf.go (h2.at hi) ok1 fun iv' s2 A2 g2 ok2 r2=>wpAny_bind (wpAny_standAt (wpAny_bind (wpAny_holding ?_)))))))
  have g12:=g1.trans g2
  obtain ⟨a,ts,rfl,hl,hsm,hd⟩:=a9q ok2 h3 (Cf.Rel.go r1 g2)
  revert r2
  refine hv.int_e fun u r2=>r2.int_e fun t=>?_
  refine a8o (intKind_is _ _ _ _) hd (by unfold b4c; rw [List.length_map,sizeLine_eq]; unfold lim at h4; lia) fun h' hd' hs=>wpAny_release ?_
  rw [b9q,c3n] at hd'
  obtain ⟨ok3,g3⟩:=ok2.setObj (tk:=s2.toks + 1) (o':=.dct (Y5 kvs key x)) hl (fun b o hb e=>(hs.2 b hb).trans e) (show DctRep h' a _ from ⟨hsm,c.B.prog,c.B.w,_,by rw [b4k]; exact hd'⟩)
  exact ⟨A2,g12.trans g3,ok3,trivial⟩⟩
theorem d1b {o i dd l k kvs key x} (h1:E P o st (.ref l k) st1) (h2:Es P [i,dd] st1 [.int key,.int x] st2) (h3:∀ kv,st1.obj l k = some (.dct kv)->True) (h4:st2.obj l k = some (.dct kvs)) (h0:st1.obj l k = some (.dct kvs)):E P (.meth o "get" [i,dd]) st (.int ((a5o kvs key).getD x)) st2:=E.of rfl fun c nn e h A s E ok=>b1h h fun u_ u_ u_ pos hp ho hl k1 k2=>by
 rw [L6 hp ho hl k2]
 refine wpAny_bind (Cf.go (h1.at k1) ok fun v s1 A1 g1 ok1 r1=>wpAny_bind (wpAny_standAt ?_))
 obtain ⟨a,ts,rfl,hlk,hsm,hd⟩:=a9q ok1 h0 r1
 refine wpAny_bind (wpAny_holding (getMethod_builtin hd.dictOf.typeIs PySem.F.plainAttrs_dict PySem.F.slot_dict_get PySem.F.type_dict_get hd.dictOf.mapOf.noDict (E0 (by rw [F0 pos _ _ k2]; rfl) ?_)))
 refine Cf.args (ks':=[]) h2 B6 k2 rfl ok1 fun items kv A2 s2 g2 ok2 r2 rk=>⟨.inl fun a e=>(nomatch e),?_⟩
 cases rk
 obtain ⟨a2,ts2,e2,hlk2,_,hd2⟩:=a9q ok2 h4 (Cf.Rel.go r1 g2)
 cases e2
 refine r2.cons_e fun u us hu hus=>hus.one_e fun w hw=>hu.int_e fun t=>hw.int_e fun t2=>?_
 refine Cf.end (g1.trans g2) (call_meetsIn PySem.F.slot_dict_get hd2.dictOf.typeIs PySem.F.entry_dict_get (PySem.F.args_dict_get_3 _ _ _) (meets_dict_get_default (intKind c.B.prog c.B.w) a (intKind_is _ _ _ _) hsm _) ⟨_,hd2.dictOf.mapOf,?_⟩)
 rw [b6x]
 cases a5o kvs key with
 | none=>exact ok2.int_post _ _ _
 | some y=>exact ok2.int_post _ _ _
theorem d1c {e l k kvs} (h1:E P e st (.ref l k) st1) (h2:st1.obj l k = some (.dct kvs)):I P (.enum (.val e)) st (.en 0 (.dref l k 0 kvs.length)) st1:=⟨b1r,fun c u_ u_ h=>
 have h:=cmpI_enum.symm.trans h
 ⟨b1p (fun q=>(nomatch (K8 h).symm.trans q)) _,fun u_ u_ u_ ok=>Cf.call1 h h1 ok fun u A s g1 ok1 r1=>⟨b1q,by
  obtain ⟨a,ts,rfl,hlk,hsm,hd⟩:=a9q ok1 h2 r1
  have hkl:(b4c ts kvs).length = kvs.length:=List.length_map ..
  refine L1 hsm hd fun h' he hi hk=>Cf.Iter.lift g1 ?_
  rw [hkl] at hi
  refine wpAny_pyIter_enum he ?_
  have fr:∀ b ∈ [s.heap.objs.size + 1,s.heap.objs.size],s.heap.get? b = none:=b4y (Heap.get?_none_of_le (Nat.le_succ _)) (Heap.get?_none_of_le (Nat.le_refl _))
  have ok':=ok1.guard (tk:=s.toks) _ fr hk (b4y ⟨_,he⟩ (let ⟨o,ho,_⟩:=hi; ⟨o,ho⟩))
  exact ⟨_,[s.heap.objs.size + 1,s.heap.objs.size],A,rfl,(ok1.grow (tk:=s.toks) hk).2,fr,ok',.enDct (p:=0) (old:=.none) (by simpa using he) (Nat.succ_ne_self _) ⟨hi,Nat.ne_of_lt hd.lt_size,Nat.zero_le _⟩ (by obtain ⟨_,_,hh⟩:=r1.inv; exact hh.1) hlk⟩⟩⟩⟩
end
end
section
theorem I6 {P:Pg} {st st2:St} {t a b fl r} (h1:T P 8 t st r st) (hr:r = true) (h2:X P a st fl st2):X1 P (.ite t a b) st fl st2:=b7h (hr ▸ h1) h2
theorem I7 {P:Pg} {st st2:St} {t a b fl r} (h1:T P 8 t st r st) (hr:r = false) (h2:X P b st fl st2):X1 P (.ite t a b) st fl st2:=L7 (hr ▸ h1) h2
theorem b7q {P:Pg} {st st2 st3:St} {t b o fl r} (h1:T P 8 t st r st) (hr:r = true) (h2:X P b st .next st2) (h3:X P [.whilGo t b o] st2 fl st3):X P [.whilGo t b o] st fl st3:=d9b (hr ▸ h1) h2 h3
theorem a3s {P:Pg} {st st2:St} {t b o fl r} (h1:T P 8 t st r st) (hr:r = false) (h2:X P o st fl st2):X P [.whilGo t b o] st fl st2:=d5y (hr ▸ h1) h2
theorem B2 {P:Pg} {d i:Nat} {v:V} {ρ ρ':List (Option V)} {R:List (List AObj)} (h:i < ρ.length) (h2:ρ.set i (some v) = ρ'):As P (d + 1) (.slot i) v ⟨ρ,R⟩ ⟨ρ',R⟩:=h2 ▸ c4l h
theorem J5 {a b:Int}:a0i .Mult a b = if small 64 a then some (a * b) else none:=rfl
theorem G4 {a b:Int}:a0i .FloorDiv a b = if decide (b ≠ 0) && small 30 b then some (a.fdiv b) else none:=rfl
theorem J1 {a b:Int}:a0i .Mod a b = if b = 0 then none else some (a.fmod b):=rfl
theorem J6 {a b:Int}:a0i .Pow a b = if decide (0 <= b) && decide (b <= 4096) && small 16 a then some (a ^ b.toNat) else none:=rfl
theorem J7 {a b:Int}:a0i .LShift a b = if decide (0 <= b) && decide (b <= 1000000) && small 64 a then some (a * 2 ^ b.toNat) else none:=rfl
theorem J8 {a b:Int}:a0i .RShift a b = if decide (0 <= b) then some (a.fdiv (2 ^ b.toNat)) else none:=rfl
theorem J9 {a b:Int}:a0i .BitAnd a b = some (Builtin.bitAnd a b):=rfl
theorem Y2 {a b:Int}:a0i .BitOr a b = some (Builtin.bitOr a b):=rfl
theorem K1 {a b:Int}:a0i .BitXor a b = some (Builtin.bitXor a b):=rfl
theorem c9o {x y:Int} (h:small 64 x = true):a0i .Mult x y = some (x * y):=by simp only [J5,G4,J1,J6,J7,J8,J9,Y2,K1,h,if_true]
noncomputable def a3t (q:Nat->Bool):Nat->Nat->Nat->Nat
 | 0,lo,_=>lo
 | n + 1,lo,hi=>if lo < hi then (if q ((lo + hi) / 2) then a3t q n lo ((lo + hi) / 2) else a3t q n ((lo + hi) / 2 + 1) hi) else lo
noncomputable def d8u:ME:=.bin .FloorDiv (.bin .Add (.slot 2) (.slot 3) false) (.const (.int 2)) false
noncomputable def loE:ME:=.bin .Add (.slot 5) (.const (.int 1)) false
noncomputable def a2t:ME:=.cmp (.slot 2) [.Lt] [.slot 3]
noncomputable def X6 (t:ME):List MS:=[.assign (.slot 5) d8u,.ite t [.assign (.slot 3) (.slot 5)] [.assign (.slot 2) loE]]
noncomputable def X7 (t:ME):List MS:=[.assign (.slot 5) d8u,.ite t [.assign (.slot 2) loE] [.assign (.slot 3) (.slot 5)]]
section
variable {P:Pg} {R:List (List AObj)} {a x key:V} {t:ME} {q:Nat->Bool}
theorem b5p (lo hi:Nat):Int.fdiv ((lo:Int) + (hi:Int)) 2 = (((lo + hi) / 2:Nat):Int):=by
 rw [Int.fdiv_eq_ediv_of_nonneg _ (by decide)]; lia
theorem d1d {lo hi:Nat} (h:lo < hi):lo <= (lo + hi) / 2:=by lia
theorem d1e {lo hi:Nat} (h:lo < hi):(lo + hi) / 2 < hi:=by lia
theorem d6j {lo hi n:Nat} (h:lo < hi) (k:hi - lo <= n + 1):(lo + hi) / 2 - lo <= n:=Nat.le_of_lt_succ (Nat.lt_of_lt_of_le (Nat.sub_lt_sub_right (d1d h) (d1e h)) k)
theorem d6k {lo hi n:Nat} (k:hi - lo <= n + 1):hi - ((lo + hi) / 2 + 1) <= n:=
 (Nat.lt_or_ge lo hi).elim (fun h=>Nat.le_trans (Nat.sub_le_sub_left (Nat.succ_le_succ (d1d h)) hi) (Nat.pred_le_pred k)) fun h=>
  Nat.le_trans (Nat.le_of_eq (Nat.sub_eq_zero_of_le (Nat.le_succ_of_le ((Nat.le_div_iff_mul_le Nat.two_pos).mpr (Nat.mul_two hi ▸ Nat.add_le_add_right h hi))))) (Nat.zero_le n)
theorem a1e:∀ (n lo hi:Nat) (m:Option V),hi - lo <= n->
  (∀ (mid l h:Nat),lo <= mid->mid < hi->T P 8 t ⟨[some a,some x,some (.int l),some (.int h),some key,some (.int mid)],R⟩ (q mid) ⟨[some a,some x,some (.int l),some (.int h),some key,some (.int mid)],R⟩)->
  ∃ h' m',X P [.whilGo a2t (X6 t) []] ⟨[some a,some x,some (.int lo),some (.int hi),some key,m],R⟩ .next ⟨[some a,some x,some (.int (a3t q n lo hi:Nat)),some h',some key,m'],R⟩
 | 0,lo,hi,m,hn,_=>by
  have hlt:¬ lo < hi:=fun h=>Nat.not_succ_le_zero _ (Nat.le_trans (Nat.sub_pos_of_lt h) hn)
  refine ⟨.int hi,m,?_⟩
  refine a3s (r:=decide ((lo:Int) < (hi:Int))) ?_ (by simpa using hlt) J0
  repeat' (first | exact B9 | exact F6 | exact E_bool | exact G2 | exact D8 | exact C5 | exact B0 rfl | apply C4 | apply L5 | apply B7 | apply H6 | apply G9 | apply F3 | apply M6 | apply J3 | apply E8 | exact B3 | apply A9 | exact B6 | apply D7 | exact C9 | apply D3 | apply D2 | apply B4 | apply D0 | apply E2 | exact B2 (by decide) rfl | exact B2 (by simp) rfl | rfl)
 | n + 1,lo,hi,m,hn,ht=>by
  by_cases hlt:lo < hi
  ·have e1:lo <= (lo + hi) / 2:=d1d hlt
   have e2:(lo + hi) / 2 < hi:=d1e hlt
   have hmid:=ht _ lo hi e1 e2
   have hc:decide ((lo:Int) < (hi:Int)) = true:=by simpa using hlt
   cases hq:q ((lo + hi) / 2) with
   | true=>
    obtain ⟨h',m',ih⟩:=a1e n lo ((lo + hi) / 2) (some (.int (((lo + hi) / 2:Nat):Int))) (d6j hlt hn) fun mid l h h1 h2=>ht mid l h h1 (Nat.lt_trans h2 e2)
    refine ⟨h',m',?_⟩
    rw [a3t,if_pos hlt,hq,if_pos rfl]
    refine b7q (st2:=⟨[some a,some x,some (.int lo),some (.int ((lo + hi) / 2:Nat)),some key,some (.int ((lo + hi) / 2:Nat))],R⟩) ?_ hc ?_ ih
    ·repeat' (first | exact B9 | exact F6 | exact E_bool | exact G2 | exact D8 | exact C5 | exact B0 rfl | apply C4 | apply L5 | apply B7 | apply H6 | apply G9 | apply F3 | apply M6 | apply J3 | apply E8 | exact B3 | apply A9 | exact B6 | apply D7 | exact C9 | apply D3 | apply D2 | apply B4 | apply D0 | apply E2 | exact B2 (by decide) rfl | exact B2 (by simp) rfl | rfl)
    ·refine C0 (st1:=⟨[some a,some x,some (.int lo),some (.int hi),some key,some (.int ((lo + hi) / 2:Nat))],R⟩) ?_ ?_
     ·rw [<- b5p]; repeat' (first | exact B9 | exact F6 | exact E_bool | exact G2 | exact D8 | exact C5 | exact B0 rfl | apply C4 | apply L5 | apply B7 | apply H6 | apply G9 | apply F3 | apply M6 | apply J3 | apply E8 | exact B3 | apply A9 | exact B6 | apply D7 | exact C9 | apply D3 | apply D2 | apply B4 | apply D0 | apply E2 | exact B2 (by decide) rfl | exact B2 (by simp) rfl | rfl)
     ·refine G3 (I6 hmid hq (G3 ?_))
      repeat' (first | exact B9 | exact F6 | exact E_bool | exact G2 | exact D8 | exact C5 | exact B0 rfl | apply C4 | apply L5 | apply B7 | apply H6 | apply G9 | apply F3 | apply M6 | apply J3 | apply E8 | exact B3 | apply A9 | exact B6 | apply D7 | exact C9 | apply D3 | apply D2 | apply B4 | apply D0 | apply E2 | exact B2 (by decide) rfl | exact B2 (by simp) rfl | rfl)
   | false=>
    obtain ⟨h',m',ih⟩:=a1e n ((lo + hi) / 2 + 1) hi (some (.int (((lo + hi) / 2:Nat):Int))) (d6k hn) fun mid l h h1 h2=>ht mid l h (Nat.le_trans e1 (Nat.le_of_succ_le h1)) h2
    refine ⟨h',m',?_⟩
    rw [a3t,if_pos hlt,hq,if_neg Bool.false_ne_true]
    refine b7q (st2:=⟨[some a,some x,some (.int ((lo + hi) / 2 + 1:Nat)),some (.int hi),some key,some (.int ((lo + hi) / 2:Nat))],R⟩) ?_ hc ?_ ih
    ·repeat' (first | exact B9 | exact F6 | exact E_bool | exact G2 | exact D8 | exact C5 | exact B0 rfl | apply C4 | apply L5 | apply B7 | apply H6 | apply G9 | apply F3 | apply M6 | apply J3 | apply E8 | exact B3 | apply A9 | exact B6 | apply D7 | exact C9 | apply D3 | apply D2 | apply B4 | apply D0 | apply E2 | exact B2 (by decide) rfl | exact B2 (by simp) rfl | rfl)
    ·refine C0 (st1:=⟨[some a,some x,some (.int lo),some (.int hi),some key,some (.int ((lo + hi) / 2:Nat))],R⟩) ?_ ?_
     ·rw [<- b5p]; repeat' (first | exact B9 | exact F6 | exact E_bool | exact G2 | exact D8 | exact C5 | exact B0 rfl | apply C4 | apply L5 | apply B7 | apply H6 | apply G9 | apply F3 | apply M6 | apply J3 | apply E8 | exact B3 | apply A9 | exact B6 | apply D7 | exact C9 | apply D3 | apply D2 | apply B4 | apply D0 | apply E2 | exact B2 (by decide) rfl | exact B2 (by simp) rfl | rfl)
     ·refine G3 (I7 hmid hq (G3 ?_))
      repeat' (first | exact B9 | exact F6 | exact E_bool | exact G2 | exact D8 | exact C5 | exact B0 rfl | apply C4 | apply L5 | apply B7 | apply H6 | apply G9 | apply F3 | apply M6 | apply J3 | apply E8 | exact B3 | apply A9 | exact B6 | apply D7 | exact C9 | apply D3 | apply D2 | apply B4 | apply D0 | apply E2 | exact B2 (by decide) rfl | exact B2 (by simp) rfl | rfl)
  ·refine ⟨.int hi,m,?_⟩
   have e:a3t q (n + 1) lo hi = lo:=by rw [a3t,if_neg hlt]
   rw [e]
   refine a3s (r:=decide ((lo:Int) < (hi:Int))) ?_ (by simpa using hlt) J0
   repeat' (first | exact B9 | exact F6 | exact E_bool | exact G2 | exact D8 | exact C5 | exact B0 rfl | apply C4 | apply L5 | apply B7 | apply H6 | apply G9 | apply F3 | apply M6 | apply J3 | apply E8 | exact B3 | apply A9 | exact B6 | apply D7 | exact C9 | apply D3 | apply D2 | apply B4 | apply D0 | apply E2 | exact B2 (by decide) rfl | exact B2 (by simp) rfl | rfl)
end
end
section
theorem a1f {P:Pg} {R:List (List AObj)} {a x key:V} {t:ME} {q:Nat->Bool}:∀ (n lo hi:Nat) (m:Option V),hi - lo <= n->
  (∀ (mid l h:Nat),lo <= mid->mid < hi->T P 8 t ⟨[some a,some x,some (.int l),some (.int h),some key,some (.int mid)],R⟩ (!q mid) ⟨[some a,some x,some (.int l),some (.int h),some key,some (.int mid)],R⟩)->
  ∃ h' m',X P [.whilGo a2t (X7 t) []] ⟨[some a,some x,some (.int lo),some (.int hi),some key,m],R⟩ .next ⟨[some a,some x,some (.int (a3t q n lo hi:Nat)),some h',some key,m'],R⟩
 | 0,lo,hi,m,hn,_=>by
  have hlt:¬ lo < hi:=fun h=>Nat.not_succ_le_zero _ (Nat.le_trans (Nat.sub_pos_of_lt h) hn)
  refine ⟨.int hi,m,?_⟩
  refine a3s (r:=decide ((lo:Int) < (hi:Int))) ?_ (by simpa using hlt) J0
  repeat' (first | exact B9 | exact F6 | exact E_bool | exact G2 | exact D8 | exact C5 | exact B0 rfl | apply C4 | apply L5 | apply B7 | apply H6 | apply G9 | apply F3 | apply M6 | apply J3 | apply E8 | exact B3 | apply A9 | exact B6 | apply D7 | exact C9 | apply D3 | apply D2 | apply B4 | apply D0 | apply E2 | exact B2 (by decide) rfl | exact B2 (by simp) rfl | rfl)
 | n + 1,lo,hi,m,hn,ht=>by
  by_cases hlt:lo < hi
  ·have e1:lo <= (lo + hi) / 2:=d1d hlt
   have e2:(lo + hi) / 2 < hi:=d1e hlt
   have hmid:=ht _ lo hi e1 e2
   have hc:decide ((lo:Int) < (hi:Int)) = true:=by simpa using hlt
   cases hq:q ((lo + hi) / 2) with
   | true=>
    obtain ⟨h',m',ih⟩:=a1f n lo ((lo + hi) / 2) (some (.int (((lo + hi) / 2:Nat):Int))) (d6j hlt hn) fun mid l h h1 h2=>ht mid l h h1 (Nat.lt_trans h2 e2)
    refine ⟨h',m',?_⟩
    rw [a3t,if_pos hlt,hq,if_pos rfl]
    refine b7q (st2:=⟨[some a,some x,some (.int lo),some (.int ((lo + hi) / 2:Nat)),some key,some (.int ((lo + hi) / 2:Nat))],R⟩) ?_ hc ?_ ih
    ·repeat' (first | exact B9 | exact F6 | exact E_bool | exact G2 | exact D8 | exact C5 | exact B0 rfl | apply C4 | apply L5 | apply B7 | apply H6 | apply G9 | apply F3 | apply M6 | apply J3 | apply E8 | exact B3 | apply A9 | exact B6 | apply D7 | exact C9 | apply D3 | apply D2 | apply B4 | apply D0 | apply E2 | exact B2 (by decide) rfl | exact B2 (by simp) rfl | rfl)
    ·refine C0 (st1:=⟨[some a,some x,some (.int lo),some (.int hi),some key,some (.int ((lo + hi) / 2:Nat))],R⟩) ?_ ?_
     ·rw [<- b5p]; repeat' (first | exact B9 | exact F6 | exact E_bool | exact G2 | exact D8 | exact C5 | exact B0 rfl | apply C4 | apply L5 | apply B7 | apply H6 | apply G9 | apply F3 | apply M6 | apply J3 | apply E8 | exact B3 | apply A9 | exact B6 | apply D7 | exact C9 | apply D3 | apply D2 | apply B4 | apply D0 | apply E2 | exact B2 (by decide) rfl | exact B2 (by simp) rfl | rfl)
     ·refine G3 (I7 hmid (by rw [hq]; rfl) (G3 ?_))
      repeat' (first | exact B9 | exact F6 | exact E_bool | exact G2 | exact D8 | exact C5 | exact B0 rfl | apply C4 | apply L5 | apply B7 | apply H6 | apply G9 | apply F3 | apply M6 | apply J3 | apply E8 | exact B3 | apply A9 | exact B6 | apply D7 | exact C9 | apply D3 | apply D2 | apply B4 | apply D0 | apply E2 | exact B2 (by decide) rfl | exact B2 (by simp) rfl | rfl)
   | false=>
    obtain ⟨h',m',ih⟩:=a1f n ((lo + hi) / 2 + 1) hi (some (.int (((lo + hi) / 2:Nat):Int))) (d6k hn) fun mid l h h1 h2=>ht mid l h (Nat.le_trans e1 (Nat.le_of_succ_le h1)) h2
    refine ⟨h',m',?_⟩
    rw [a3t,if_pos hlt,hq,if_neg Bool.false_ne_true]
    refine b7q (st2:=⟨[some a,some x,some (.int ((lo + hi) / 2 + 1:Nat)),some (.int hi),some key,some (.int ((lo + hi) / 2:Nat))],R⟩) ?_ hc ?_ ih
    ·repeat' (first | exact B9 | exact F6 | exact E_bool | exact G2 | exact D8 | exact C5 | exact B0 rfl | apply C4 | apply L5 | apply B7 | apply H6 | apply G9 | apply F3 | apply M6 | apply J3 | apply E8 | exact B3 | apply A9 | exact B6 | apply D7 | exact C9 | apply D3 | apply D2 | apply B4 | apply D0 | apply E2 | exact B2 (by decide) rfl | exact B2 (by simp) rfl | rfl)
    ·refine C0 (st1:=⟨[some a,some x,some (.int lo),some (.int hi),some key,some (.int ((lo + hi) / 2:Nat))],R⟩) ?_ ?_
     ·rw [<- b5p]; repeat' (first | exact B9 | exact F6 | exact E_bool | exact G2 | exact D8 | exact C5 | exact B0 rfl | apply C4 | apply L5 | apply B7 | apply H6 | apply G9 | apply F3 | apply M6 | apply J3 | apply E8 | exact B3 | apply A9 | exact B6 | apply D7 | exact C9 | apply D3 | apply D2 | apply B4 | apply D0 | apply E2 | exact B2 (by decide) rfl | exact B2 (by simp) rfl | rfl)
     ·refine G3 (I6 hmid (by rw [hq]; rfl) (G3 ?_))
      repeat' (first | exact B9 | exact F6 | exact E_bool | exact G2 | exact D8 | exact C5 | exact B0 rfl | apply C4 | apply L5 | apply B7 | apply H6 | apply G9 | apply F3 | apply M6 | apply J3 | apply E8 | exact B3 | apply A9 | exact B6 | apply D7 | exact C9 | apply D3 | apply D2 | apply B4 | apply D0 | apply E2 | exact B2 (by decide) rfl | exact B2 (by simp) rfl | rfl)
  ·refine ⟨.int hi,m,?_⟩
   have e:a3t q (n + 1) lo hi = lo:=by rw [a3t,if_neg hlt]
   rw [e]
   refine a3s (r:=decide ((lo:Int) < (hi:Int))) ?_ (by simpa using hlt) J0
   repeat' (first | exact B9 | exact F6 | exact E_bool | exact G2 | exact D8 | exact C5 | exact B0 rfl | apply C4 | apply L5 | apply B7 | apply H6 | apply G9 | apply F3 | apply M6 | apply J3 | apply E8 | exact B3 | apply A9 | exact B6 | apply D7 | exact C9 | apply D3 | apply D2 | apply B4 | apply D0 | apply E2 | exact B2 (by decide) rfl | exact B2 (by simp) rfl | rfl)
noncomputable def tRn:ME:=.cmp (.slot 1) [.Lt] [.sub (.slot 0) (.slot 5)]
noncomputable def tRk:ME:=.cmp (.slot 1) [.Lt] [.call (.slot 4) [.sub (.slot 0) (.slot 5)] []]
noncomputable def tLn:ME:=.cmp (.sub (.slot 0) (.slot 5)) [.Lt] [.slot 1]
noncomputable def tLk:ME:=.cmp (.call (.slot 4) [.sub (.slot 0) (.slot 5)] []) [.Lt] [.slot 1]
noncomputable def b2g (bn bk:List MS):List MS:=[
 .ite (.cmp (.slot 2) [.Lt] [.const (.int 0)]) [.fail] [],
 .ite (.cmp (.slot 3) [.Is] [.const .none]) [.assign (.slot 3) (.call (.imm (.builtin "len")) [.slot 0] [])] [],
 .ite (.cmp (.slot 4) [.Is] [.const .none]) [.whil a2t bn []] [.whil a2t bk []],
 .ret (.slot 2)]
noncomputable def a8l (a:Addr):Fn:={ addr:=a,np:=4,dfl:=[.int 0,.imm .none],key:=true,ns:=6,body:=b2g (X6 tRn) (X6 tRk) }
noncomputable def a2u (a:Addr):Fn:={ addr:=a,np:=4,dfl:=[.int 0,.imm .none],key:=true,ns:=6,body:=b2g (X7 tLn) (X7 tLk) }
noncomputable def b7r (a:Addr):List MS:=[
 .ite (.cmp (.slot 4) [.Is] [.const .none]) [.assign (.slot 2) (.call (.imm (.ref a)) [.slot 0,.slot 1,.slot 2,.slot 3] [])] [.assign (.slot 2) (.call (.imm (.ref a)) [.slot 0,.call (.slot 4) [.slot 1] [],.slot 2,.slot 3] [("key",.slot 4)])],
 .expr (.meth (.slot 0) "insert" [.slot 2,.slot 1])]
noncomputable def c9p (a b:Addr):Fn:={ addr:=a,np:=4,dfl:=[.int 0,.imm .none],key:=true,ns:=5,body:=b7r b }
noncomputable def d7t (R:List (List AObj)) (a hv:V) (hi:Nat):Prop:=hv = .int hi ∨ (hv = .imm .none /\ ∀ ρ,biV ⟨ρ,R⟩ "len" [a] = some (.int hi,⟨ρ,R⟩))
theorem b2h {P:Pg} {R:List (List AObj)} {a x key hv:V} {bn bk:List MS} {lo hi r:Nat} (hh:d7t R a hv hi) {kn:Bool} (hk:isK key = some kn)
  (hl:∀ m,∃ h' m',X P [.whilGo a2t (if kn then bn else bk) []] ⟨[some a,some x,some (.int lo),some (.int hi),some key,m],R⟩ .next ⟨[some a,some x,some (.int r),some h',some key,m'],R⟩) :
  ∃ ρ2,X P (b2g bn bk) ⟨[some a,some x,some (.int lo),some hv,some key,none],R⟩ (.ret (.int r)) ⟨ρ2,R⟩:=by
 obtain ⟨h',m',hX⟩:=hl none
 refine ⟨[some a,some x,some (.int r),some h',some key,m'],?_⟩
 refine C0 (st1:=⟨[some a,some x,some (.int lo),some hv,some key,none],R⟩) (I7 (r:=decide ((lo:Int) < 0)) ?_ (by simp) J0) ?_
 ·repeat' (first | exact B9 | exact F6 | exact E_bool | exact G2 | exact D8 | exact C5 | exact B0 rfl | apply C4 | apply L5 | apply B7 | apply H6 | apply G9 | apply F3 | apply M6 | apply J3 | apply E8 | exact B3 | apply A9 | exact B6 | apply D7 | exact C9 | apply D3 | apply D2 | apply B4 | apply D0 | apply E2 | exact B2 (by decide) rfl | exact B2 (by simp) rfl | rfl)
 refine C0 (st1:=⟨[some a,some x,some (.int lo),some (.int hi),some key,none],R⟩) ?_ ?_
 ·rcases hh with rfl | ⟨rfl,hlen⟩
  ·refine I7 (r:=false) ?_ rfl J0
   repeat' (first | exact B9 | exact F6 | exact E_bool | exact G2 | exact D8 | exact C5 | exact B0 rfl | apply C4 | apply L5 | apply B7 | apply H6 | apply G9 | apply F3 | apply M6 | apply J3 | apply E8 | exact B3 | apply A9 | exact B6 | apply D7 | exact C9 | apply D3 | apply D2 | apply B4 | apply D0 | apply E2 | exact B2 (by decide) rfl | exact B2 (by simp) rfl | rfl)
  ·refine I6 (r:=true) ?_ rfl (G3 ?_)
   ·repeat' (first | exact B9 | exact F6 | exact E_bool | exact G2 | exact D8 | exact C5 | exact B0 rfl | apply C4 | apply L5 | apply B7 | apply H6 | apply G9 | apply F3 | apply M6 | apply J3 | apply E8 | exact B3 | apply A9 | exact B6 | apply D7 | exact C9 | apply D3 | apply D2 | apply B4 | apply D0 | apply E2 | exact B2 (by decide) rfl | exact B2 (by simp) rfl | rfl)
   ·refine B4 (B7 C5 (A9 (B0 rfl (a0h fun u_ u_ q=>by have h:=hlen []; rw [q] at h; exact nomatch h)) B3) B6 (N3 (hlen _))) (B2 (by simp) rfl)
 refine C0 (st1:=⟨[some a,some x,some (.int r),some h',some key,m'],R⟩) ?_ (a8k (E2 (B0 rfl rfl)))
 have ht:T P 8 (.cmp (.slot 4) [.Is] [.const .none]) ⟨[some a,some x,some (.int lo),some (.int hi),some key,none],R⟩ kn ⟨[some a,some x,some (.int lo),some (.int hi),some key,none],R⟩:=d3n rfl hk
 cases kn with
 | true=>exact I6 ht rfl (G3 (a6r hX))
 | false=>exact I7 ht rfl (G3 (a6r hX))
theorem b2i {f:Fn} (h1:f.np = 4) (h2:f.dfl = [.int 0,.imm .none]) (h3:f.key = true) (a x lo hi:V):T4 f [a,x,lo,hi] [] = some [a,x,lo,hi,.imm .none]:=by unfold T4; rw [h1,h2,h3]; rfl
section
variable {P:Pg} {st:St} {ad:Addr} {args:List V} {kw:List (Str × V)} {a x key hv:V} {lo hi:Nat} {q:Nat->Bool} {kn:Bool}
theorem a7f (hR:st.R.length < 100) (hb:T4 (a8l ad) args kw = some [a,x,.int lo,hv,key]) (hh:d7t (st.R ++ [[]]) a hv hi) (hk:isK key = some kn)
  (ht:∀ (mid l h:Nat),lo <= mid->mid < hi->T P 8 (if kn then tRn else tRk) ⟨[some a,some x,some (.int l),some (.int h),some key,some (.int mid)],st.R ++ [[]]⟩ (q mid) ⟨[some a,some x,some (.int l),some (.int h),some key,some (.int mid)],st.R ++ [[]]⟩) :
  Call P (a8l ad) args kw st (.int (a3t q (hi - lo) lo hi:Nat)) st:=by
 obtain ⟨ρ2,h⟩:=b2h (P:=P) (x:=x) (bn:=X6 tRn) (bk:=X6 tRk) (lo:=lo) (r:=a3t q (hi - lo) lo hi) hh hk fun m=>by
  obtain ⟨h',m',h⟩:=a1e (P:=P) (R:=st.R ++ [[]]) (a:=a) (x:=x) (key:=key) (hi - lo) lo hi m (Nat.le_refl _) ht
  refine ⟨h',m',?_⟩
  cases kn <;> exact h
 exact H7 (reg:=[]) hR hb h rfl
theorem a7g (hR:st.R.length < 100) (hb:T4 (a2u ad) args kw = some [a,x,.int lo,hv,key]) (hh:d7t (st.R ++ [[]]) a hv hi) (hk:isK key = some kn)
  (ht:∀ (mid l h:Nat),lo <= mid->mid < hi->T P 8 (if kn then tLn else tLk) ⟨[some a,some x,some (.int l),some (.int h),some key,some (.int mid)],st.R ++ [[]]⟩ (!q mid) ⟨[some a,some x,some (.int l),some (.int h),some key,some (.int mid)],st.R ++ [[]]⟩) :
  Call P (a2u ad) args kw st (.int (a3t q (hi - lo) lo hi:Nat)) st:=by
 obtain ⟨ρ2,h⟩:=b2h (P:=P) (x:=x) (bn:=X7 tLn) (bk:=X7 tLk) (lo:=lo) (r:=a3t q (hi - lo) lo hi) hh hk fun m=>by
  obtain ⟨h',m',h⟩:=a1f (P:=P) (R:=st.R ++ [[]]) (a:=a) (x:=x) (key:=key) (hi - lo) lo hi m (Nat.le_refl _) ht
  refine ⟨h',m',?_⟩
  cases kn <;> exact h
 exact H7 (reg:=[]) hR hb h rfl
end
theorem a4t {n k:Nat} (h:k < n) (hn:n <= lim):b9g n (k:Int) = some k:=by
 unfold b9g
 rw [if_pos hn]
 unfold seqIndex?
 dsimp only
 rw [if_neg (Int.not_lt.mpr (Int.natCast_nonneg k)),if_pos (Bool.and_eq_true_iff.mpr ⟨decide_eq_true (Int.natCast_nonneg k),decide_eq_true (Int.ofNat_lt.mpr h)⟩),Int.toNat_natCast]
theorem M0 {st:St} {a:V} {vs:List V} (h:C7 st a = some vs):a = .lst vs ∨ ∃ l i,a = .ref l i /\ st.obj l i = some (.list vs):=by
 unfold C7 at h
 split at h
 ·cases h; exact .inl rfl
 ·rename_i l i
  split at h
  ·cases h; exact .inr ⟨l,i,rfl,‹_›⟩
  ·cases h
 ·cases h
theorem N4 {st:St} {a e:V} {vs:List V} {k:Nat} (h:C7 st a = some vs) (hl:vs.length <= lim) (he:vs[k]? = some e):c9c st a (.int k) = some e:=by
 have hk:=(List.getElem?_eq_some_iff.mp he).1
 rcases M0 h with rfl | ⟨l,i,rfl,ho⟩
 ·simp only [c9c,d7l,c9b,d5b,N9,O0,C7,a4t hk hl,he]
 ·simp only [c9c,d7l,c9b,d5b,N9,O0,C7,ho,a4t hk hl,he]
theorem N5 {st:St} {a:V} {vs:List V} (h:C7 st a = some vs) (hl:vs.length <= lim):biV st "len" [a] = some (.int vs.length,st):=by
 rcases M0 h with rfl | ⟨l,i,rfl,ho⟩
 ·exact (b0t (k:=fun vs=>if vs.length <= lim then some (V.int vs.length,st) else none) h).trans (if_pos hl)
 ·exact (b0t h).trans (if_pos hl)
theorem d4a (ρ ρ':List (Option V)) (R:List (List AObj)) (l i:Nat):St.obj ⟨ρ,R⟩ l i = St.obj ⟨ρ',R⟩ l i:=rfl
theorem Q8 {st:St} {a:V} {vs:List V} (h:C7 st a = some vs) (ρ:List (Option V)):C7 ⟨ρ,st.R ++ [[]]⟩ a = some vs:=by
 rcases M0 h with rfl | ⟨l,i,rfl,ho⟩
 ·rfl
 ·have:St.obj ⟨ρ,st.R ++ [[]]⟩ l i = some (.list vs):=by rw [L8 ρ st.ρ]; exact ho
  simp only [C7,this]
end
section
noncomputable def c5w (P:Pg) (key e:V) (g:Int):Prop:=∀ s:St,s.R.length < 99->ApO P key [e] s (.int g) s
section
variable {P:Pg} {a key x e:V} {vs:List V} {s:St} {mid:Nat} {xi g:Int}
theorem Q9 (hs:C7 s a = some vs):a.isClo = false:=a0h fun u_ u_ q=>by rw [q] at hs; cases hs
theorem d1f (h0:s.ρ[0]? = some (some a)) (h1:s.ρ[1]? = some (some (.int xi))) (h5:s.ρ[5]? = some (some (.int mid))) (hs:C7 s a = some vs) (hl:vs.length <= lim) (he:vs[mid]? = some (.int g)):T P 8 tRn s (decide (xi < g)) s:=
 D2 (B0 h1) (H6 (B0 h0 (Q9 hs)) (B0 h5) (N4 hs hl he)) rfl
theorem d1g (h0:s.ρ[0]? = some (some a)) (h1:s.ρ[1]? = some (some (.int xi))) (h5:s.ρ[5]? = some (some (.int mid))) (hs:C7 s a = some vs) (hl:vs.length <= lim) (he:vs[mid]? = some (.int g)):T P 8 tLn s (decide (g < xi)) s:=
 D2 (H6 (B0 h0 (Q9 hs)) (B0 h5) (N4 hs hl he)) (B0 h1) rfl
theorem d1h (h0:s.ρ[0]? = some (some a)) (h1:s.ρ[1]? = some (some (.int xi))) (h4:s.ρ[4]? = some (some key)) (h5:s.ρ[5]? = some (some (.int mid))) (hs:C7 s a = some vs) (hl:vs.length <= lim) (he:vs[mid]? = some e) (hk:ApO P key [e] s (.int g) s):T P 8 tRk s (decide (xi < g)) s:=
 D2 (B0 h1) (b1m h4 (A9 (H6 (B0 h0 (Q9 hs)) (B0 h5) (N4 hs hl he)) B3) hk) rfl
theorem d1i (h0:s.ρ[0]? = some (some a)) (h1:s.ρ[1]? = some (some (.int xi))) (h4:s.ρ[4]? = some (some key)) (h5:s.ρ[5]? = some (some (.int mid))) (hs:C7 s a = some vs) (hl:vs.length <= lim) (he:vs[mid]? = some e) (hk:ApO P key [e] s (.int g) s):T P 8 tLk s (decide (g < xi)) s:=
 D2 (b1m h4 (A9 (H6 (B0 h0 (Q9 hs)) (B0 h5) (N4 hs hl he)) B3) hk) (B0 h1) rfl
variable {st:St} {ad:Addr} {args:List V} {kw:List (Str × V)} {lo hi:Nat} {hv:V} {gf:Nat->Int}
theorem a7h (hR:st.R.length < 100) (hs:C7 st a = some vs) (hl:vs.length <= lim) (hg:∀ m,lo <= m->m < hi->vs[m]? = some (.int (gf m))) (hh:hv = .int hi ∨ (hv = .imm .none /\ hi = vs.length)) (hb:T4 (a8l ad) args kw = some [a,.int xi,.int lo,hv,.imm .none]) :
  Call P (a8l ad) args kw st (.int (a3t (fun m=>decide (xi < gf m)) (hi - lo) lo hi:Nat)) st:=
 a7f (kn:=true) hR hb (hh.imp id fun ⟨h1,h2⟩=>⟨h1,fun ρ=>by rw [h2]; exact N5 (Q8 hs ρ) hl⟩) rfl fun mid l h h1 h2=>d1f rfl rfl rfl (Q8 hs _) hl (hg mid h1 h2)
theorem a7i (hR:st.R.length < 100) (hs:C7 st a = some vs) (hl:vs.length <= lim) (hg:∀ m,lo <= m->m < hi->vs[m]? = some (.int (gf m))) (hh:hv = .int hi ∨ (hv = .imm .none /\ hi = vs.length)) (hb:T4 (a2u ad) args kw = some [a,.int xi,.int lo,hv,.imm .none]) :
  Call P (a2u ad) args kw st (.int (a3t (fun m=>!decide (gf m < xi)) (hi - lo) lo hi:Nat)) st:=
 a7g (kn:=true) hR hb (hh.imp id fun ⟨h1,h2⟩=>⟨h1,fun ρ=>by rw [h2]; exact N5 (Q8 hs ρ) hl⟩) rfl fun mid l h h1 h2=>by
  have:=d1g (P:=P) (s:=⟨[some a,some (.int xi),some (.int l),some (.int h),some (.imm .none),some (.int mid)],st.R ++ [[]]⟩) (xi:=xi) rfl rfl rfl (Q8 hs _) hl (hg mid h1 h2)
  simpa using this
theorem c0n (hR:st.R.length < 98) (hs:C7 st a = some vs) (hl:vs.length <= lim) (hg:∀ m,lo <= m->m < hi->∃ e,vs[m]? = some e /\ c5w P key e (gf m)) (hh:hv = .int hi ∨ (hv = .imm .none /\ hi = vs.length)) (hk:isK key = some false) (hb:T4 (a8l ad) args kw = some [a,.int xi,.int lo,hv,key]) :
  Call P (a8l ad) args kw st (.int (a3t (fun m=>decide (xi < gf m)) (hi - lo) lo hi:Nat)) st:=
 a7f (kn:=false) (by lia) hb (hh.imp id fun ⟨h1,h2⟩=>⟨h1,fun ρ=>by rw [h2]; exact N5 (Q8 hs ρ) hl⟩) hk fun mid l h h1 h2=>by
  obtain ⟨e,he,hkf⟩:=hg mid h1 h2
  exact d1h rfl rfl rfl rfl (Q8 hs _) hl he (hkf _ (by simp; lia))
theorem a4u (hR:st.R.length < 98) (hs:C7 st a = some vs) (hl:vs.length <= lim) (hg:∀ m,lo <= m->m < hi->∃ e,vs[m]? = some e /\ c5w P key e (gf m)) (hh:hv = .int hi ∨ (hv = .imm .none /\ hi = vs.length)) (hk:isK key = some false) (hb:T4 (a2u ad) args kw = some [a,.int xi,.int lo,hv,key]) :
  Call P (a2u ad) args kw st (.int (a3t (fun m=>!decide (gf m < xi)) (hi - lo) lo hi:Nat)) st:=
 a7g (kn:=false) (by lia) hb (hh.imp id fun ⟨h1,h2⟩=>⟨h1,fun ρ=>by rw [h2]; exact N5 (Q8 hs ρ) hl⟩) hk fun mid l h h1 h2=>by
  obtain ⟨e,he,hkf⟩:=hg mid h1 h2
  have:=d1i (P:=P) (s:=⟨[some a,some (.int xi),some (.int l),some (.int h),some key,some (.int mid)],st.R ++ [[]]⟩) (xi:=xi) rfl rfl rfl rfl (Q8 hs _) hl he (hkf _ (by simp; lia))
  simpa using this
end
theorem a2v (st:St) (ρ:List (Option V)) (r:List AObj) (l i:Nat) (o:AObj) (h:l < st.R.length):St.setObj ⟨ρ,st.R ++ [r]⟩ l i o = ⟨ρ,(st.setObj l i o).R ++ [r]⟩:=by
 unfold St.setObj
 have:(st.R ++ [r]).modify l (fun x=>x.set i o) = st.R.modify l (fun x=>x.set i o) ++ [r]:=by
  apply List.ext_getElem?
  intro j
  rw [List.getElem?_modify]
  by_cases hj:j < st.R.length
  ·rw [List.getElem?_append_left hj,List.getElem?_append_left (by simpa using hj),List.getElem?_modify]
  ·have:l ≠ j:=by lia
   rw [List.getElem?_append_right (by lia),List.getElem?_append_right (by simpa using by lia),List.length_modify]
   simp [this]
 simp [this]
theorem b5q {st:St} {l i:Nat} {o:AObj} (h:st.obj l i = some o):l < st.R.length:=by
 unfold St.obj at h
 split at h
 ·exact (List.getElem?_eq_some_iff.mp ‹_›).1
 ·cases h
section
variable {P:Pg} {st:St} {l i:Nat} {vs:List V} {x key:V} {ad bd:Addr} {f:Fn} {k:Nat}
theorem c0o {x:V} {l:Nat} (h:x.lvlOk l = true):x.isClo = false:=a0h fun u_ u_ q=>by rw [q] at h; cases h
theorem a1g {bx:V} {bkw:List (Str × V)} (hob:st.obj l i = some (.list vs)) (hl:vs.length <= lim) (hk:k <= vs.length) (hR:st.R.length < 98) (hlv:x.lvlOk l = true) (hf:P.fns.find? (fun f=>f.addr == bd) = some f)
  (hc:∀ ρ,Call P f [.ref l i,bx,.int 0,.imm .none] bkw ⟨ρ,st.R ++ [[]]⟩ (.int k) ⟨ρ,st.R ++ [[]]⟩)
  (hkey:(key = .imm .none /\ bx = x /\ bkw = []) ∨ (isK key = some false /\ (∀ ρ,ApO P key [x] ⟨ρ,st.R ++ [[]]⟩ bx ⟨ρ,st.R ++ [[]]⟩) /\ bkw = [(("key" : Str),key)])) :
  Call P (c9p ad bd) [.ref l i,x] bkw st (.imm .none) (st.setObj l i (.list (insAt vs k x))):=by
 have hlt:=b5q hob
 have hx:=c0o hlv
 have hb:T4 (c9p ad bd) [.ref l i,x] bkw = some [.ref l i,x,.int 0,.imm .none,key]:=by
  rcases hkey with ⟨rfl,_,rfl⟩ | ⟨h,_,rfl⟩ <;> rfl
 have e0:(st.R ++ [([]:List AObj)]).length < 100:=by simp; lia
 refine b5f (st:=st) (ρ2:=[some (.ref l i),some x,some (.int k),some (.imm .none),some key]) (R2:=(st.setObj l i (.list (insAt vs k x))).R) (reg:=[]) (by lia) hb ?_
 show X P (b7r bd) ⟨[some (.ref l i),some x,some (.int 0),some (.imm .none),some key],st.R ++ [[]]⟩ _ _
 refine C0 (st1:=⟨[some (.ref l i),some x,some (.int k),some (.imm .none),some key],st.R ++ [[]]⟩) ?_ (G3 (D0 (v:=.imm .none) (E8 (B0 rfl) ?_ (A9 (B0 rfl) (A9 (B0 rfl) B3)) ?_)))
 ·rcases hkey with ⟨rfl,rfl,rfl⟩ | ⟨h1,h2,rfl⟩
  ·refine I6 (r:=true) (D2 (B0 rfl) F6 rfl) rfl (G3 (B4 (B7 C5 (A9 (B0 rfl) (A9 (B0 rfl) (A9 (B0 rfl) (A9 (B0 rfl) B3)))) B6 (Q6 hf (hc _))) (B2 (by simp) rfl)))
  ·refine I7 (r:=false) (d3n rfl h1) rfl (G3 (B4 (B7 C5 (A9 (B0 rfl) (A9 (b1m rfl (A9 (B0 rfl) B3) (h2 _)) (A9 (B0 rfl) (A9 (B0 rfl) B3)))) (c4d rfl) (Q6 hf (hc _))) (B2 (by simp) rfl)))
 ·have ho:∀ ρ,St.obj ⟨ρ,st.R ++ [[]]⟩ l i = some (.list vs):=fun ρ=>by rw [L8 ρ st.ρ]; exact hob
  simp [a3j,b0w,c3g,ho]
 ·have ho:∀ ρ,St.obj ⟨ρ,st.R ++ [[]]⟩ l i = some (.list vs):=fun ρ=>by rw [L8 ρ st.ρ]; exact hob
  have hs:small 60 (k:Int) = true:=by unfold small; unfold lim at hl; simp; lia
  have hn:("insert" : Str) ≠ ("append" : Str):=by decide +kernel
  simp only [a0k,b0v,b4h,b4i,T3,b0p,c8y,N9,O0,ho]
  rw [if_neg hn,if_pos trivial]
  simp [hlv,hl,hs,a2v st _ _ _ _ _ hlt]
end
end
section
noncomputable def Yields:It->List V->Prop
 | it,[]=>∀ st,it.next st = some none
 | it,v :: vs=>∃ it',(∀ st,it.next st = some (some (v,it'))) /\ Yields it' vs
theorem E9:∀ vs:List V,Yields (.seq vs) vs
 | []=>fun u_=>rfl
 | v :: vs=>⟨.seq vs,fun u_=>rfl,E9 vs⟩
theorem a7j:∀ (vs:List V) (it:It) (k:Nat),Yields it vs->Yields (.en k it) ((vs.zipIdx k).map fun p=>.tup [.int (p.2:Nat),p.1])
 | [],it,k,h=>fun st=>by show (match it.next st with | some (some (v,it'))=>_ | some none=>_ | none=>_) = _; rw [h st]
 | v :: vs,it,k,⟨it',h1,h2⟩=>⟨.en (k + 1) it',fun st=>by show (match it.next st with | some (some (v,it'))=>_ | some none=>_ | none=>_) = _; rw [h1 st],a7j vs it' (k + 1) h2⟩
noncomputable def I3 (R:List (List AObj)):It->List V->Prop
 | it,[]=>∀ ρ,it.next ⟨ρ,R⟩ = some none
 | it,v :: vs=>∃ it',(∀ ρ,it.next ⟨ρ,R⟩ = some (some (v,it'))) /\ I3 R it' vs
theorem Yields.R {R:List (List AObj)}:∀ {vs:List V} {it:It},Yields it vs->I3 R it vs
 | [],_,h=>fun u_=>h _
 | _ :: _,_,⟨it',h1,h2⟩=>⟨it',fun u_=>h1 _,h2.R⟩
theorem b2j {st:St} {l i p:Nat} {vs:List V} (h:st.obj l i = some (.list vs)):(It.ref l i p).next st = match vs[p]? with | some v=>some (some (v,.ref l i (p + 1))) | none=>some none:=by
 show (match st.obj l i with | some (.list vs)=>(match vs[p]? with | some v=>some (some (v,It.ref l i (p + 1))) | none=>some none) | _=>none) = _
 rw [h]
theorem I4 {R:List (List AObj)} {l i:Nat} {vs:List V} (h:∀ ρ,St.obj ⟨ρ,R⟩ l i = some (.list vs)):∀ (us:List V) (p:Nat),us = vs.drop p->I3 R (.ref l i p) us
 | [],p,e=>fun ρ=>by
  have:vs[p]? = none:=drop_nil e.symm
  rw [b2j (h ρ),this]
 | u :: us,p,e=>by
  obtain ⟨h1,h2⟩:=P0 e.symm
  exact ⟨.ref l i (p + 1),fun ρ=>by rw [b2j (h ρ),h1],I4 h us (p + 1) h2.symm⟩
theorem P1 {R:List (List AObj)}:∀ (vs:List V) (it:It) (k:Nat),I3 R it vs->I3 R (.en k it) ((vs.zipIdx k).map fun p=>.tup [.int (p.2:Nat),p.1])
 | [],it,k,h=>fun ρ=>by show (match it.next ⟨ρ,R⟩ with | some (some (v,it'))=>_ | some none=>_ | none=>_) = _; rw [h ρ]
 | v :: vs,it,k,⟨it',h1,h2⟩=>⟨.en (k + 1) it',fun ρ=>by show (match it.next ⟨ρ,R⟩ with | some (some (v,it'))=>_ | some none=>_ | none=>_) = _; rw [h1 ρ],P1 vs it' (k + 1) h2⟩
section
variable {P:Pg} {α β:Type}
theorem c5x {p:MPat} {i:MI} {ifs:List ME} {elt:ME} {ρ0:List (Option V)} {R:List (List AObj)} {k:Nat} {f:α->V} {q:α->Bool} {g:α->V}:∀ (xs:List α) (it:It),I3 R it (xs.map f)->
  (∀ x ∈ xs,∀ junk:List (Option V),junk.length = k->∃ junk',junk'.length = k /\ As P 4 p (f x) ⟨ρ0 ++ junk,R⟩ ⟨ρ0 ++ junk',R⟩ /\ Ifs P ifs ⟨ρ0 ++ junk',R⟩ (q x) ⟨ρ0 ++ junk',R⟩ /\ (q x = true->E P elt ⟨ρ0 ++ junk',R⟩ (g x) ⟨ρ0 ++ junk',R⟩))->
  ∀ junk:List (Option V),junk.length = k->∃ junk',junk'.length = k /\ C P [.mk p i ifs] elt it ⟨ρ0 ++ junk,R⟩ ((xs.filter q).map g) ⟨ρ0 ++ junk',R⟩
 | [],it,hy,_,junk,hj=>⟨junk,hj,d3p (hy _)⟩
 | x :: xs,it,⟨it',h1,h2⟩,h,junk,hj=>by
  obtain ⟨j1,hj1,ha,hi,he⟩:=h x (.head _) junk hj
  obtain ⟨j2,hj2,ih⟩:=c5x (i:=i) xs it' h2 (fun y m=>h y (.tail _ m)) j1 hj1
  refine ⟨j2,hj2,?_⟩
  cases hq:q x with
  | true=>
   rw [hq] at hi
   rw [List.filter_cons_of_pos (by simpa using hq),List.map_cons]
   exact d8i (h1 _) ha hi (he hq) ih
  | false=>
   rw [hq] at hi
   rw [List.filter_cons_of_neg (by simp [hq])]
   exact d0k (h1 _) ha hi ih
theorem b2k {p:MPat} {i:MI} {ifs:List ME} {elt:ME} {ρ0:List (Option V)} {R:List (List AObj)} {k base:Nat} {f:α->V} {q:α->Bool} {g:α->V} {xs:List α} {it:It} (hi:I P i ⟨ρ0,R⟩ it ⟨ρ0,R⟩) (hb:ρ0.length = base) (hy:I3 R it (xs.map f)) (hl:xs.length <= lim)
  (h:∀ x ∈ xs,∀ junk:List (Option V),junk.length = k->∃ junk',junk'.length = k /\ As P 4 p (f x) ⟨ρ0 ++ junk,R⟩ ⟨ρ0 ++ junk',R⟩ /\ Ifs P ifs ⟨ρ0 ++ junk',R⟩ (q x) ⟨ρ0 ++ junk',R⟩ /\ (q x = true->E P elt ⟨ρ0 ++ junk',R⟩ (g x) ⟨ρ0 ++ junk',R⟩)) :
  E P (.comp false base k [.mk p i ifs] elt) ⟨ρ0,R⟩ (.lst ((xs.filter q).map g)) ⟨ρ0,R⟩:=by
 obtain ⟨j,hj,hc⟩:=c5x (i:=i) xs it hy h (List.replicate k none) (List.length_replicate ..)
 refine c4o hi hb hc ?_
 have h1:((xs.filter q).map g).length <= lim:=by rw [List.length_map]; exact Nat.le_trans (List.length_filter_le _ _) hl
 unfold mkL
 rw [if_pos h1]
 subst hb
 simp
theorem b2l {p:MPat} {i:MI} {elt:ME} {ρ0:List (Option V)} {R:List (List AObj)} {k base:Nat} {f:α->V} {g:α->V} {xs:List α} {it:It} (hi:I P i ⟨ρ0,R⟩ it ⟨ρ0,R⟩) (hb:ρ0.length = base) (hy:I3 R it (xs.map f)) (hl:xs.length <= lim)
  (h:∀ x ∈ xs,∀ junk:List (Option V),junk.length = k->∃ junk',junk'.length = k /\ As P 4 p (f x) ⟨ρ0 ++ junk,R⟩ ⟨ρ0 ++ junk',R⟩ /\ E P elt ⟨ρ0 ++ junk',R⟩ (g x) ⟨ρ0 ++ junk',R⟩) :
  E P (.comp false base k [.mk p i []] elt) ⟨ρ0,R⟩ (.lst (xs.map g)) ⟨ρ0,R⟩:=by
 have:=b2k (q:=fun u_=>true) hi hb hy hl fun x m j hj=>let ⟨j',h1,h2,h3⟩:=h x m j hj; ⟨j',h1,h2,b7e,fun u_=>h3⟩
 rwa [List.filter_eq_self.mpr (fun u_ u_=>rfl)] at this
theorem c5y {p:MPat} {body:List MS} {f:α->V} {step:β->α->β} {Rep:β->St->Prop}:∀ (xs:List α) (it:It) (b:β) (st:St),Yields it (xs.map f)->Rep b st->
  (∀ b x st,x ∈ xs->Rep b st->∃ st1 st2,As P 4 p (f x) st st1 /\ X P body st1 .next st2 /\ Rep (step b x) st2)->∃ st',X P [.forGo p it body []] st .next st' /\ Rep (xs.foldl step b) st'
 | [],it,b,st,hy,hr,_=>⟨st,c4t (hy _) J0,hr⟩
 | x :: xs,it,b,st,⟨it',h1,h2⟩,hr,h=>by
  obtain ⟨st1,st2,ha,hx,hr2⟩:=h b x st (.head _) hr
  obtain ⟨st',h3,h4⟩:=c5y xs it' (step b x) st2 h2 hr2 fun b y s m=>h b y s (.tail _ m)
  exact ⟨st',d5e (h1 _) ha hx h3,h4⟩
end
noncomputable def up (R:List (List AObj)) (l i:Nat) (o:AObj):List (List AObj):=R.modify l (·.set i o)
theorem M1 (ρ:List (Option V)) (R:List (List AObj)) (l i:Nat) (o:AObj):St.setObj ⟨ρ,R⟩ l i o = ⟨ρ,up R l i o⟩:=rfl
theorem c0p {ρ ρ':List (Option V)} {R:List (List AObj)} {l i:Nat} {o o':AObj} (h:St.obj ⟨ρ,R⟩ l i = some o):St.obj ⟨ρ',up R l i o'⟩ l i = some o':=by
 have:=a2d ⟨ρ',R⟩ l i o' l i
 rw [if_pos ⟨rfl,rfl⟩] at this
 rw [<- M1,this,d4a ρ' ρ,h]; rfl
theorem d4b (R:List (List AObj)) (l i:Nat) (o o':AObj):up (up R l i o) l i o' = up R l i o':=by
 unfold up
 apply List.ext_getElem?
 intro j
 rw [List.getElem?_modify,List.getElem?_modify,List.getElem?_modify]
 by_cases h:l = j
 ·subst h; cases R[l]? <;> simp
 ·simp [h]
theorem R4 (ρ:List (Option V)) (R0:List (List AObj)) (r:List AObj) (i:Nat):St.obj ⟨ρ,R0 ++ [r]⟩ R0.length i = r[i]?:=by unfold St.obj; simp
theorem b2m (R0:List (List AObj)) (r:List AObj) (i:Nat) (o:AObj):up (R0 ++ [r]) R0.length i o = R0 ++ [r.set i o]:=by
 unfold up
 apply List.ext_getElem?
 intro j
 rw [List.getElem?_modify]
 rcases Nat.lt_trichotomy j R0.length with h | h | h
 ·rw [List.getElem?_append_left h,List.getElem?_append_left h]
  have:¬ R0.length = j:=by lia
  simp [this]
 ·subst h; simp
 ·rw [List.getElem?_eq_none (by simp; lia),List.getElem?_eq_none (by simp; lia)]; rfl
theorem c5z (R:List (List AObj)) (r:List AObj) (l i:Nat) (o:AObj) (h:l < R.length):up (R ++ [r]) l i o = up R l i o ++ [r]:=by
 have:=a2v ⟨[],R⟩ [] r l i o h
 exact congrArg St.R this
theorem b7s {reg:List AObj} {lv d:Nat}:∀ {vs:List V},(∀ v ∈ vs,frz reg lv d v = some v)->frz reg lv (d + 1) (.lst vs) = some (.lst vs):=by
 intro vs h
 have:a1y (frz reg lv d) vs = some vs:=by
  induction vs with
  | nil=>rfl
  | cons v vs ih=>exact c3d (h v (.head _)) (ih fun u m=>h u (.tail _ m))
 show (match a1y (frz reg lv d) vs with | some us=>some (V.lst us) | none=>none) = _
 rw [this]
theorem c0q (reg:List AObj) (lv d:Nat) (is:List Int):frz reg lv (d + 2) (.lst (is.map .int)) = some (.lst (is.map .int)):=b7s fun v m=>by
 obtain ⟨i,_,rfl⟩:=List.mem_map.mp m; rfl
theorem a9r (is:List Int):F5 (is.map .int) = some is:=by
 induction is with
 | nil=>rfl
 | cons i is ih=>exact a5i ih
theorem a2w (is:List Str):O3 (is.map .str) = some is:=by
 induction is with
 | nil=>rfl
 | cons i is ih=>exact a5j ih
theorem b2n {α β:Type} (f:α->β) (xs:List α) (a b:Option Int):cut (xs.map f) a b = (cut xs a b).map f:=by
 unfold cut; simp [List.map_drop,List.map_take]
theorem b7t {α:Type} (xs:List α) (a b:Option Int):(cut xs a b).length <= xs.length:=by
 unfold cut
 exact Nat.le_trans (List.length_take_le' _ _) (by rw [List.length_drop]; exact Nat.sub_le _ _)
theorem a2x (st:St) (n:Nat) (h:n <= 100000):c2q st (.rng 0 n 1) = some (.seq ((List.range n).map fun i=>.int (i:Nat))):=by
 have hz0:(Builtin.Range.rangeSize 0 n 1) = n:=by
  unfold Builtin.Range.rangeSize
  rw [if_pos (by decide)]
  split
  ·rw [Int.ediv_one]; lia
  ·lia
 have hz:(Builtin.Range.rangeSize 0 n 1).toNat = n:=by rw [hz0]; simp
 have hs:Builtin.Range.small 0 n 1 = true:=by
  unfold Builtin.Range.small Builtin.Range.rangeFitsLong
  rw [hz0]
  simp
  lia
 have hr:(S1 0 n 1).map V.int = (List.range n).map fun i=>V.int (i:Nat):=by
  unfold S1
  rw [hz,List.map_map]
  apply List.map_congr_left
  intro i _
  simp
 show (if Builtin.Range.small 0 n 1 = true then some (It.seq ((S1 0 n 1).map .int)) else none) = _
 rw [if_pos hs,hr]
end
section
theorem d1j {ρ ρ':List (Option V)} {R:List (List AObj)} {l i:Nat} {o:AObj} {vs:List V} (h:St.obj ⟨ρ,R⟩ l i = some o):C7 ⟨ρ',up R l i (.list vs)⟩ (.ref l i) = some vs:=by
 simp only [C7,c0p h]
theorem a0c (js:List Int) (k:Nat):((js.map V.int).zipIdx k).map (fun p=>V.tup [.int (p.2:Nat),p.1]) = (js.zipIdx k).map (fun p=>V.tup [.int (p.2:Nat),.int p.1]):=by
 induction js generalizing k with
 | nil=>rfl
 | cons j js ih=>simp only [List.map_cons,List.zipIdx_cons,ih]
theorem b2o {a n:Nat} (hn:0 < n):a0i .Mod (a:Int) (n:Int) = some ((a % n:Nat):Int):=by
 have h:(n:Int) ≠ 0:=by lia
 simp only [J5,G4,J1,J6,J7,J8,J9,Y2,K1,h,if_false]
 rw [Int.fmod_eq_emod_of_nonneg _ (by lia)]
 simp
noncomputable def c6a:List MS:=[
 .for_ (.tup [.slot 2,.slot 3]) (.enum (.val (.slc (.slot 0) none (some (.const (.int 60))) none false))) [.augI (.slot 1) (.bin .Mod (.slot 2) (.call (.imm (.builtin "len")) [.slot 1] []) false) .Add (.bin .Mod (.slot 3) (.const (.int 1000000)) false)] [],
 .ret (.slot 1)]
noncomputable def c6b (a:Addr):Fn:={ addr:=a,np:=2,dfl:=[],key:=false,ns:=4,body:=c6a }
noncomputable def M8 (cs:List Int) (p:Int × Nat):List Int:=cs.set (p.2 % cs.length) (cs.getD (p.2 % cs.length) 0 + p.1.fmod 1000000)
noncomputable def a0d (is:List Int) (cs:List Int):List Int:=((cut is none (some 60)).zipIdx 0).foldl M8 cs
theorem V0 (cs:List Int) (p:Int × Nat):(M8 cs p).length = cs.length:=by simp [M8]
theorem b5r (l:List (Int × Nat)) (cs:List Int):(l.foldl M8 cs).length = cs.length:=by
 induction l generalizing cs with
 | nil=>rfl
 | cons p l ih=>rw [List.foldl_cons,ih,V0]
theorem a9s {P:Pg} {ad:Addr} {st:St} {l i:Nat} {is cs:List Int} (hR:st.R.length < 99) (hob:st.obj l i = some (.list (cs.map .int))) (h0:0 < cs.length) (hcs:cs.length <= 100) (his:is.length <= 100000) :
  Call P (c6b ad) [.lst (is.map .int),.ref l i] [] st (.ref l i) (st.setObj l i (.list ((a0d is cs).map .int))):=by
 have hlt:=b5q hob
 have hobR:St.obj ⟨[],st.R ++ [[]]⟩ l i = some (.list (cs.map .int)):=by rw [L8 [] st.ρ]; exact hob
 let Rep:List Int->St->Prop:=fun ds s=>ds.length = cs.length /\ ∃ s2 s3,s = ⟨[some (.lst (is.map .int)),some (.ref l i),s2,s3],up (st.R ++ [[]]) l i (.list (ds.map .int))⟩
 have hup0:up (st.R ++ [[]]) l i (.list (cs.map .int)) = st.R ++ [[]]:=by
  unfold up
  apply List.ext_getElem?
  intro j
  rw [List.getElem?_modify]
  by_cases hj:l = j
  ·subst hj
   unfold St.obj at hobR
   dsimp only at hobR
   cases hq:(st.R ++ [[]])[l]? with
   | none=>rfl
   | some r=>
    rw [hq] at hobR
    dsimp only at hobR
    simp only [Option.map_eq_map,Option.map_some,if_true]
    congr 1
    apply List.ext_getElem?
    intro m
    rw [List.getElem?_set]
    split
    ·rename_i h; subst h; rw [hobR]; have:=(List.getElem?_eq_some_iff.mp hobR).1; simp [this]
    ·rfl
  ·simp [hj]
 have hloop:=c5y (P:=P) (p:=.tup [.slot 2,.slot 3]) (body:=[.augI (.slot 1) (.bin .Mod (.slot 2) (.call (.imm (.builtin "len")) [.slot 1] []) false) .Add (.bin .Mod (.slot 3) (.const (.int 1000000)) false)])
  (f:=fun p:Int × Nat=>V.tup [.int (p.2:Nat),.int p.1]) (step:=M8) (Rep:=Rep) ((cut is none (some 60)).zipIdx 0) (.en 0 (.seq ((cut is none (some 60)).map .int))) cs ⟨[some (.lst (is.map .int)),some (.ref l i),none,none],st.R ++ [[]]⟩
  (by rw [<- a0c]; exact a7j _ _ _ (E9 _)) ⟨rfl,none,none,by rw [hup0]⟩ (by
   intro ds p s _ hr
   obtain ⟨hdl,s2,s3,rfl⟩:=hr
   have hk:p.2 % cs.length < ds.length:=by rw [hdl]; exact Nat.mod_lt _ h0
   have hl:(ds.map V.int).length <= lim:=by rw [List.length_map,hdl]; unfold lim; lia
   have he:(ds.map V.int)[p.2 % cs.length]? = some (.int (ds.getD (p.2 % cs.length) 0)):=by
    rw [List.getElem?_map,List.getD_eq_getElem?_getD,List.getElem?_eq_getElem hk]; rfl
   have hsq:∀ ρ,C7 ⟨ρ,up (st.R ++ [[]]) l i (.list (ds.map .int))⟩ (.ref l i) = some (ds.map .int):=fun ρ=>d1j hobR
   have hob2:∀ ρ,St.obj ⟨ρ,up (st.R ++ [[]]) l i (.list (ds.map .int))⟩ l i = some (.list (ds.map .int)):=fun ρ=>c0p hobR
   refine ⟨_,⟨[some (.lst (is.map .int)),some (.ref l i),some (.int (p.2:Nat)),some (.int p.1)],up (st.R ++ [[]]) l i (.list ((M8 ds p).map .int))⟩,N2 (B2 (by simp) rfl) (B2 (by simp) rfl),G3 (c4q (B0 rfl) (C4 (B0 rfl) (B7 C5 (A9 (B0 rfl) B3) B6 (N3 (N5 (hsq _) hl))) (by rw [List.length_map,hdl]; exact b2o h0)) (N4 (hsq _) hl he) (C4 (B0 rfl) B9 rfl) rfl ?_),?_⟩
   ·simp only [a4g,d7k,N9,T3,ixV,hob2,a4t (by rw [List.length_map]; exact hk) hl,b4f,Bool.true_and]
    rw [if_pos (by simp; lia),M1,d4b,<- List.map_set]
    unfold M8
    rw [hdl]; rfl
   ·exact ⟨by rw [V0,hdl],_,_,rfl⟩)
 obtain ⟨s',hX,hr⟩:=hloop
 obtain ⟨_,s2,s3,rfl⟩:=hr
 refine H7 (ρ2:=[some (.lst (is.map .int)),some (.ref l i),s2,s3]) (R2:=up st.R l i (.list ((a0d is cs).map .int))) (reg:=[]) (v:=.ref l i) (by lia) rfl ?_ ?_
 ·rw [<- c5z _ _ _ _ _ hlt]
  show X P c6a ⟨[some (.lst (is.map .int)),some (.ref l i),none,none],st.R ++ [[]]⟩ _ _
  refine C0 (Y8 (b5a (J3 (B0 rfl) C9 (D3 B9) C9 (v:=.lst ((cut is none (some 60)).map .int)) (st':=⟨[some (.lst (is.map .int)),some (.ref l i),none,none],st.R ++ [[]]⟩) ?_) (it:=.en 0 (.seq ((cut is none (some 60)).map .int))) rfl) hX) (a8k (E2 (B0 rfl)))
  have hl:(is.map V.int).length <= lim:=by rw [List.length_map]; unfold lim; lia
  have hl2:((cut is none (some 60)).map V.int).length <= lim:=by rw [List.length_map]; have:=b7t is none (some 60); unfold lim; lia
  simp only [c9x,c9d,d3a,O0,Option.isNone_none,if_true,c8x,C7,hl,b2n]
  unfold mkL
  rw [if_pos hl2]; rfl
 ·have:l < st.R.length:=hlt
  exact (if_neg (by lia)).trans (if_pos hlt)
end
section
noncomputable def apL:List UInt8:=[65,66,67,68,69,70,71,72,73,74,75,76,77,78,79,80]
noncomputable def b7u:List MS:=[.assign (.tup [.slot 0,.slot 3]) (.call (.imm (.builtin "divmod")) [.slot 0,.const (.int 16)] []),.assign (.slot 1) (.bin .Add (.slc (.slot 2) (some (.slot 3)) (some (.bin .Add (.slot 3) (.const (.int 1)) false)) none false) (.slot 1) false)]
noncomputable def bAP:List MS:=[
 .assign (.slot 1) (.const (.bytes [])),
 .assign (.slot 2) (.const (.bytes [65,66,67,68,69,70,71,72,73,74,75,76,77,78,79,80])),
 .assign (.slot 0) (.call (.imm (.type "int")) [.call (.imm (.builtin "abs")) [.slot 0] []] []),
 .whil (.slot 0) b7u [],
 .ret (.slot 1)]
noncomputable def fAP (a:Addr):Fn:={ addr:=a,np:=1,dfl:=[],key:=false,ns:=4,body:=bAP }
noncomputable def apD:Nat->Nat->List UInt8
 | 0,_=>[]
 | f + 1,n=>if n = 0 then [] else apD f (n / 16) ++ [(65 + n % 16).toUInt8]
theorem b7v:∀ f n,(apD f n).length <= f
 | 0,_=>Nat.le_refl _
 | f + 1,n=>by
  unfold apD
  split
  ·exact Nat.zero_le _
  ·rw [List.length_append]; exact Nat.succ_le_succ (b7v f (n / 16))
theorem d1k:∀ m:Nat,m < 16->cut apL (some (m:Int)) (some ((m:Int) + 1)) = [(65 + m).toUInt8]:=by decide
theorem b7w {P:Pg} {R:List (List AObj)}:∀ (f n:Nat) (val:List UInt8) (s3:Option V),n < 16 ^ f->val.length + f <= 1000->
  ∃ s3',X P [.whilGo (.slot 0) b7u []] ⟨[some (.int n),some (.bytes val),some (.bytes apL),s3],R⟩ .next ⟨[some (.int 0),some (.bytes (apD f n ++ val)),some (.bytes apL),s3'],R⟩
 | 0,n,val,s3,hn,_=>by
  have:n = 0:=by lia
  subst this
  exact ⟨s3,a3s (r:=false) (a4e (B0 rfl) rfl rfl) rfl J0⟩
 | f + 1,n,val,s3,hn,hv=>by
  by_cases h0:n = 0
  ·subst h0
   refine ⟨s3,?_⟩
   unfold apD
   rw [if_pos rfl]
   exact a3s (r:=false) (a4e (B0 rfl) rfl rfl) rfl J0
  ·have hd:n / 16 < 16 ^ f:=by rw [Nat.pow_succ] at hn; lia
   obtain ⟨s3',ih⟩:=b7w f (n / 16) ((65 + n % 16).toUInt8 :: val) (some (.int (n % 16:Nat))) hd (by simp; lia)
   refine ⟨s3',?_⟩
   unfold apD
   rw [if_neg h0,List.append_assoc]
   have hm:n % 16 < 16:=Nat.mod_lt _ (by decide)
   refine b7q (r:=((n:Int) != 0)) (a4e (B0 rfl) rfl rfl) (by simp; lia) ?_ ih
   have e1:(n:Int).fdiv 16 = ((n / 16:Nat):Int):=by rw [Int.fdiv_eq_ediv_of_nonneg _ (by decide)]; simp
   have e2:(n:Int).fmod 16 = ((n % 16:Nat):Int):=by rw [Int.fmod_eq_emod_of_nonneg _ (by decide)]; simp
   refine C0 (st1:=⟨[some (.int (n / 16:Nat)),some (.bytes val),some (.bytes apL),some (.int (n % 16:Nat))],R⟩) ?_ (G3 ?_)
   ·rw [<- e1,<- e2]
    exact B4 (B7 C5 (A9 (B0 rfl) (A9 B9 B3)) B6 (N3 rfl)) (N2 (B2 (by simp) rfl) (B2 (by simp) rfl))
   ·refine B4 (a4d (z:=.bytes ((65 + n % 16).toUInt8 :: val)) (st3:=⟨[some (.int (n / 16:Nat)),some (.bytes val),some (.bytes apL),some (.int (n % 16:Nat))],R⟩) (J3 (B0 rfl) (D3 (B0 rfl)) (D3 (C4 (B0 rfl) B9 rfl)) C9 (v:=.bytes [(65 + n % 16).toUInt8]) (st':=⟨[some (.int (n / 16:Nat)),some (.bytes val),some (.bytes apL),some (.int (n % 16:Nat))],R⟩) ?_) (B0 rfl) ?_) (B2 (by simp) rfl)
    ·simp only [c9x,c9d,d3a,O0,Option.isNone_none,if_true,c8x]
     rw [if_pos (by decide),d1k _ hm]
    ·have:(1:Nat) + val.length <= lim:=by unfold lim; lia
     simp only [d2z,d5a,d5h,c9w,O0,a3h,N9,List.length_singleton,this,if_true]
     rfl
theorem c6c {P:Pg} {ad:Addr} {st:St} {i:Int} {f:Nat} (hR:st.R.length < 100) (hi:i.natAbs < 16 ^ f) (hf:f <= 1000):Call P (fAP ad) [.int i] [] st (.bytes (apD f i.natAbs)) st:=by
 obtain ⟨s3',hl⟩:=b7w (P:=P) (R:=st.R ++ [[]]) f i.natAbs [] none hi (by simpa using hf)
 refine H7 (ρ2:=[some (.int 0),some (.bytes (apD f i.natAbs ++ [])),some (.bytes apL),s3']) (R2:=st.R) (reg:=[]) (v:=.bytes (apD f i.natAbs)) hR rfl ?_ rfl
 show X P bAP ⟨[some (.int i),none,none,none],st.R ++ [[]]⟩ _ _
 rw [List.append_nil] at hl ⊢
 refine C0 (B4 D8 (B2 (by simp) rfl)) (C0 (B4 D8 (B2 (by simp) rfl)) ?_)
 refine C0 (st1:=⟨[some (.int i.natAbs),some (.bytes []),some (.bytes apL),none],st.R ++ [[]]⟩) ?_ (C0 (a6r hl) (a8k (E2 (B0 rfl))))
 have e:(i.natAbs:Int) = if i < 0 then -i else i:=by split <;> lia
 rw [e]
 exact B4 (B7 C5 (A9 (B7 C5 (A9 (B0 rfl) B3) B6 (N3 rfl)) B3) B6 (b5g rfl)) (B2 (by simp) rfl)
end
section
noncomputable def nmL:List Str:=["OPTIMIZED", "NEWLOCALS", "VARARGS", "VARKEYWORDS", "NESTED", "GENERATOR", "NOFREE", "COROUTINE", "ITERABLE_COROUTINE", "ASYNC_GENERATOR"]
noncomputable def kv10:List (Int × Str):=[(1, "OPTIMIZED"),(2, "NEWLOCALS"),(4, "VARARGS"),(8, "VARKEYWORDS"),(16, "NESTED"),(32, "GENERATOR"),(64, "NOFREE"),(128, "COROUTINE"),(256, "ITERABLE_COROUTINE"),(512, "ASYNC_GENERATOR")]
noncomputable abbrev c2s (i:Int):Str:=PySem.baseText "0x" 16 i
noncomputable def nm (k:Nat):Str:=if k < 10 then nmL.getD k "" else c2s (2 ^ k)
theorem d1l:∀ k,k < 32->kv10.lookup ((2:Int) ^ k) = if k < 10 then some (nmL.getD k "") else none:=by decide +kernel
theorem b2p {i:Int} (h:i.natAbs < 18446744073709551616):(c2s i).length <= 67:=by
 have e:(2:Nat) ^ 64 = 18446744073709551616:=by decide
 have h64:i.natAbs < 16 ^ 64:=Nat.lt_of_lt_of_le (by rw [e]; exact h) (Nat.pow_le_pow_left (by decide) 64)
 have h1:=toDigits_len_pow (b:=16) (by decide) (by decide:1 <= 64) h64
 unfold c2s PySem.baseText
 rw [Str.length_append,Str.length_append,ofString_ofList_length (Nat.toDigits 16 i.natAbs)]
 have h3:(Str.ofString (if i < 0 then "-" else "")).length <= 1:=by
  split <;> (rw [PyProof.Rows.ofString_len]; decide)
 have h4:(Str.ofString "0x").length = 2:=by decide +kernel
 lia
theorem c0r:∀ k,k < 32->(nm k).length <= 67:=by
 intro k hk
 unfold nm
 split
 ·rename_i h
  have:∀ k,k < 10->(nmL.getD k "").length <= 67:=by decide +kernel
  exact this k h
 ·refine b2p ?_
  have h1:((2:Int) ^ k).natAbs = 2 ^ k:=by rw [Int.natAbs_pow]; rfl
  rw [h1]
  exact Nat.lt_of_lt_of_le (Nat.pow_lt_pow_right (by decide) hk) (by decide)
theorem c0s {st:St} {i:Int} (h:i.natAbs < 18446744073709551616):biV st "hex" [.int i] = some (.str (c2s i),st):=by
 have:(PySem.baseText "0x" 16 i).length <= lim:=Nat.le_trans (b2p h) (by decide)
 exact if_pos this
theorem d9g (k:Nat) (hk:k <= 1000):a0i .LShift 1 (k:Int) = some ((2:Int) ^ k):=by
 have h:(decide (0 <= (k:Int)) && decide ((k:Int) <= 1000000) && small 64 1) = true:=by
  simp [small]; lia
 simp only [J5,G4,J1,J6,J7,J8,J9,Y2,K1,h,if_true]
 simp
noncomputable def K7:Nat->Nat->Int->List Str
 | k,0,x=>[c2s (x * 2 ^ k)]
 | k,m + 1,x=>if x % 2 = 1 then nm k :: (if x / 2 = 0 then [] else K7 (k + 1) m (x / 2)) else K7 (k + 1) m (x / 2)
noncomputable def c6d (ga:Addr):List MS:=[.assign (.slot 3) (.bin .LShift (.const (.int 1)) (.slot 2) false),.ite (.bin .BitAnd (.slot 0) (.slot 3) false) [.expr (.meth (.slot 1) "append" [.meth (.imm (.ref ga)) "get" [.slot 3,.call (.imm (.builtin "hex")) [.slot 3] []]]),.augS 0 .BitXor (.slot 3),.ite (.un .Not (.slot 0)) [.brk] []] []]
noncomputable def c6e:List MS:=[.expr (.meth (.slot 1) "append" [.call (.imm (.builtin "hex")) [.slot 0] []])]
noncomputable def bPF (ga:Addr):List MS:=[
 .assign (.slot 1) (.lst [] true),
 .for_ (.slot 2) (.val (.call (.imm (.type "range")) [.const (.int 32)] [])) (c6d ga) c6e,
 .ret (.meth (.const (.str ", ")) "join" [.slot 1])]
noncomputable def fPF (a ga:Addr):Fn:={ addr:=a,np:=1,dfl:=[],key:=false,ns:=4,body:=bPF ga }
theorem a1h (k:Nat):(0:Int) < 2 ^ k:=Int.pow_pos (by decide)
theorem b7x (x:Int) (k:Nat):Builtin.bitAnd (x * 2 ^ k) (2 ^ k) = (x % 2) * 2 ^ k:=by
 rw [kbt_bit,Int.mul_ediv_cancel _ (by have:=a1h k; lia)]
theorem c6f (x:Int) (k:Nat) (h:x % 2 = 1):Builtin.bitXor (x * 2 ^ k) (2 ^ k) = (x / 2) * 2 ^ (k + 1):=by
 rw [bitXor_and,b7x,h,Int.pow_succ]
 have e:x = 2 * (x / 2) + 1:=by lia
 generalize x / 2 = y at *
 subst e
 rw [Int.add_mul]
 have:2 * y * 2 ^ k = y * (2 ^ k * 2):=by
  rw [Int.mul_comm 2 y,Int.mul_assoc,Int.mul_comm 2]
 lia
theorem b2q (x:Int) (k:Nat) (h:x % 2 ≠ 1):x * 2 ^ k = (x / 2) * 2 ^ (k + 1):=by
 have e:x = 2 * (x / 2):=by lia
 generalize x / 2 = y at *
 subst e
 rw [Int.pow_succ,Int.mul_comm 2 y,Int.mul_assoc,Int.mul_comm 2]
theorem a4v {P:Pg} {i:Nat} {op:Operator} {e:ME} {ρ ρ':List (Option V)} {R:List (List AObj)} {old v new:V} (h0:ρ[i]? = some (some old)) (h1:E P e ⟨ρ,R⟩ v ⟨ρ,R⟩) (h2:c9e ⟨ρ,R⟩ op old v = some (new,⟨ρ,R⟩)) (h3:i < ρ.length)
  (h4:ρ.set i (some new) = ρ'):X1 P (.augS i op e) ⟨ρ,R⟩ .next ⟨ρ',R⟩:=h4 ▸ b7i h0 h1 h2 h3
theorem b2r {ρ:List (Option V)} {R0:List (List AObj)} {ws:List V} {w:V} {G:Pg} (hl:ws.length <= lim) (hw:w.lvlOk R0.length = true) :
  a0k G ⟨ρ,R0 ++ [[.list ws]]⟩ (.ref R0.length 0) "append" [w] = some (.imm .none,⟨ρ,R0 ++ [[.list (ws ++ [w])]]⟩):=by
 have ho:St.obj ⟨ρ,R0 ++ [[.list ws]]⟩ R0.length 0 = some (.list ws):=by rw [R4]; rfl
 simp only [a0k,b0v,b4h,b4i,T3,b0p,c8y,N9,O0,ho]
 rw [if_pos trivial]
 simp only [hw,hl,decide_true,Bool.and_self,if_true]
 rw [M1,b2m]; rfl
theorem a0e {ρ:List (Option V)} {R0:List (List AObj)} {ws:List V} {G:Pg}:a3j G ⟨ρ,R0 ++ [[.list ws]]⟩ (.ref R0.length 0) "append" = true:=by
 have ho:St.obj ⟨ρ,R0 ++ [[.list ws]]⟩ R0.length 0 = some (.list ws):=by rw [R4]; rfl
 simp only [a3j,b0w,c3g,ho]
 rfl
noncomputable def Bd (k:Nat) (v:Int):Prop:=v.natAbs < 9223372036854775808 + 2 ^ k
theorem Bd.abs {k:Nat} {v:Int} (h:Bd k v) (hk:k <= 32):v.natAbs < 18446744073709551616:=Nat.lt_of_lt_of_le h (Nat.le_trans (Nat.add_le_add_left (Nat.pow_le_pow_right Nat.two_pos hk) _) (by decide))
theorem Bd.next {k:Nat} {x:Int} (h:Bd k (x * 2 ^ k)):Bd (k + 1) ((x / 2) * 2 ^ (k + 1)):=by
 by_cases hodd:x % 2 = 1
 ·have e:(x / 2) * 2 ^ (k + 1) = x * 2 ^ k - 2 ^ k:=by
   have e1:x - 1 = x / 2 * 2:=by lia
   have e2:(x - 1) * (2:Int) ^ k = x / 2 * 2 * 2 ^ k:=congrArg (· * (2:Int) ^ k) e1
   rw [Int.sub_mul,Int.one_mul,Int.mul_assoc,<- Int.pow_succ'] at e2
   exact e2.symm
  have e3:((2:Int) ^ k).natAbs = 2 ^ k:=by rw [Int.natAbs_pow]; rfl
  rw [e]
  refine Nat.lt_of_le_of_lt (Int.natAbs_sub_le _ _) ?_
  rw [e3,Nat.pow_succ,Nat.mul_two,<- Nat.add_assoc]
  exact Nat.add_lt_add_right h _
 ·rw [<- b2q x k hodd]
  exact Nat.lt_of_lt_of_le h (Nat.add_le_add_left (Nat.pow_le_pow_right Nat.two_pos (Nat.le_succ k)) _)
theorem b2s {P:Pg} {ga:Addr} (hG:P.gds.lookup ga = some kv10) {R0:List (List AObj)}:∀ (m k:Nat) (x:Int) (ws:List Str) (s2 s3:Option V),k + m = 32->Bd k (x * 2 ^ k)->ws.length + m <= 1000->
  ∃ ρ2,X P [.forGo (.slot 2) (.seq ((List.range' k m).map fun i=>.int (i:Nat))) (c6d ga) c6e] ⟨[some (.int (x * 2 ^ k)),some (.ref R0.length 0),s2,s3],R0 ++ [[.list (ws.map .str)]]⟩ .next ⟨ρ2,R0 ++ [[.list ((ws ++ K7 k m x).map .str)]]⟩ /\ ρ2[1]? = some (some (.ref R0.length 0))
 | 0,k,x,ws,s2,s3,hk,hx,hw=>by
  refine ⟨[some (.int (x * 2 ^ k)),some (.ref R0.length 0),s2,s3],c4t rfl (G3 (D0 (v:=.imm .none) (E8 (B0 rfl) a0e (A9 (B7 C5 (A9 (B0 rfl) B3) B6 (N3 (c0s (hx.abs (by lia))))) B3) ?_))),rfl⟩
  rw [List.map_append]
  exact b2r (by rw [List.length_map]; unfold lim; lia) rfl
 | m + 1,k,x,ws,s2,s3,hk,hx,hw=>by
  have hyield:It.next ⟨[some (.int (x * 2 ^ k)),some (.ref R0.length 0),s2,s3],R0 ++ [[.list (ws.map .str)]]⟩ (.seq ((List.range' k (m + 1)).map fun i=>.int (i:Nat))) = some (some (.int (k:Nat),.seq ((List.range' (k + 1) m).map fun i=>.int (i:Nat)))):=rfl
  have hsh:=d9g k (by lia)
  have hl:(ws.map V.str).length <= lim:=by rw [List.length_map]; unfold lim; lia
  have h2k:((2:Int) ^ k).natAbs < 18446744073709551616:=by
   rw [Int.natAbs_pow]
   exact Nat.lt_of_lt_of_le (Nat.pow_lt_pow_right (by decide) (by lia:k < 64)) (by decide)
  have ha1:X1 P (.assign (.slot 3) (.bin .LShift (.const (.int 1)) (.slot 2) false)) ⟨[some (.int (x * 2 ^ k)),some (.ref R0.length 0),some (.int (k:Nat)),s3],R0 ++ [[.list (ws.map .str)]]⟩ .next ⟨[some (.int (x * 2 ^ k)),some (.ref R0.length 0),some (.int (k:Nat)),some (.int (2 ^ k))],R0 ++ [[.list (ws.map .str)]]⟩:=
   B4 (C4 B9 (B0 rfl) hsh) (B2 (by simp) rfl)
  have ht:T P 8 (.bin .BitAnd (.slot 0) (.slot 3) false) ⟨[some (.int (x * 2 ^ k)),some (.ref R0.length 0),some (.int (k:Nat)),some (.int (2 ^ k))],R0 ++ [[.list (ws.map .str)]]⟩ (((x % 2) * 2 ^ k:Int) != 0) ⟨[some (.int (x * 2 ^ k)),some (.ref R0.length 0),some (.int (k:Nat)),some (.int (2 ^ k))],R0 ++ [[.list (ws.map .str)]]⟩:=by
   refine a4e (C4 (B0 rfl) (B0 rfl) (z:=(x % 2) * 2 ^ k) ?_) rfl rfl
   simp only [J5,G4,J1,J6,J7,J8,J9,Y2,K1,b7x]
  have hp:=a1h k
  by_cases hodd:x % 2 = 1
  ·have htr:(((x % 2) * 2 ^ k:Int) != 0) = true:=by rw [hodd]; simp; lia
   have happ:X1 P (.expr (.meth (.slot 1) "append" [.meth (.imm (.ref ga)) "get" [.slot 3,.call (.imm (.builtin "hex")) [.slot 3] []]])) ⟨[some (.int (x * 2 ^ k)),some (.ref R0.length 0),some (.int (k:Nat)),some (.int (2 ^ k))],R0 ++ [[.list (ws.map .str)]]⟩ .next ⟨[some (.int (x * 2 ^ k)),some (.ref R0.length 0),some (.int (k:Nat)),some (.int (2 ^ k))],R0 ++ [[.list ((ws ++ [nm k]).map .str)]]⟩:=by
    refine D0 (v:=.imm .none) (E8 (B0 rfl) a0e (A9 (E8 (v:=.str (nm k)) (st':=⟨[some (.int (x * 2 ^ k)),some (.ref R0.length 0),some (.int (k:Nat)),some (.int (2 ^ k))],R0 ++ [[.list (ws.map .str)]]⟩) C5 ?_ (A9 (B0 rfl) (A9 (B7 C5 (A9 (B0 rfl) B3) B6 (N3 (c0s h2k))) B3)) ?_) B3) ?_)
    ·simp only [a3j,b0w,c3g,hG]; rfl
    ·have hn:("get" : Str) = ("get" : Str):=rfl
     simp only [a0k,b0v,b4h,b4i,T3,b0p,c8y,N9,O0,hG]
     rw [if_pos trivial,d1l k (by lia)]
     unfold nm
     by_cases h10:k < 10
     ·simp only [d5n,h10,if_true]
     ·simp only [d5n,h10,if_false]
    ·rw [List.map_append]
     exact b2r hl rfl
   have hxor:X1 P (.augS 0 .BitXor (.slot 3)) ⟨[some (.int (x * 2 ^ k)),some (.ref R0.length 0),some (.int (k:Nat)),some (.int (2 ^ k))],R0 ++ [[.list ((ws ++ [nm k]).map .str)]]⟩ .next ⟨[some (.int ((x / 2) * 2 ^ (k + 1))),some (.ref R0.length 0),some (.int (k:Nat)),some (.int (2 ^ k))],R0 ++ [[.list ((ws ++ [nm k]).map .str)]]⟩:=by
    rw [<- c6f x k hodd]
    exact a4v rfl (B0 rfl) rfl (by simp) rfl
   have hp1:=a1h (k + 1)
   have htn:T P 8 (.un .Not (.slot 0)) ⟨[some (.int ((x / 2) * 2 ^ (k + 1))),some (.ref R0.length 0),some (.int (k:Nat)),some (.int (2 ^ k))],R0 ++ [[.list ((ws ++ [nm k]).map .str)]]⟩ (!(((x / 2) * 2 ^ (k + 1):Int) != 0)) ⟨[some (.int ((x / 2) * 2 ^ (k + 1))),some (.ref R0.length 0),some (.int (k:Nat)),some (.int (2 ^ k))],R0 ++ [[.list ((ws ++ [nm k]).map .str)]]⟩:=
    d5v (a4e (B0 rfl) rfl rfl)
   by_cases hz:x / 2 = 0
   ·have e:ws ++ K7 k (m + 1) x = ws ++ [nm k]:=by
     unfold K7
     rw [if_pos hodd,if_pos hz]
    rw [e]
    exact ⟨[some (.int ((x / 2) * 2 ^ (k + 1))),some (.ref R0.length 0),some (.int (k:Nat)),some (.int (2 ^ k))],d5z hyield (B2 (by simp) rfl) (C0 ha1 (c4p (I6 ht htr (C0 happ (C0 hxor (c4p (I6 htn (by rw [hz]; simp) (c4p d0m)))))))),rfl⟩
   ·have hxb:=hx.next
    obtain ⟨ρ2,ih,hρ⟩:=b2s hG m (k + 1) (x / 2) (ws ++ [nm k]) (some (.int (k:Nat))) (some (.int (2 ^ k))) (by lia) hxb (by simp only [List.length_append,List.length_singleton]; lia)
    have hne:¬ (x / 2) * 2 ^ (k + 1) = 0:=fun h=>(Int.mul_eq_zero.mp h).elim hz (by lia)
    refine ⟨ρ2,d5e hyield (B2 (by simp) rfl) (C0 ha1 (G3 (I6 ht htr (C0 happ (C0 hxor (G3 (I7 htn (by simpa using hne) J0))))))) ?_,hρ⟩
    unfold K7
    rw [if_pos hodd,if_neg hz,show ws ++ nm k :: K7 (k + 1) m (x / 2) = (ws ++ [nm k]) ++ K7 (k + 1) m (x / 2) by simp]
    exact ih
  ·have htr:(((x % 2) * 2 ^ k:Int) != 0) = false:=by
    have:x % 2 = 0:=by lia
    rw [this]; simp
   have hxb:=hx.next
   obtain ⟨ρ2,ih,hρ⟩:=b2s hG m (k + 1) (x / 2) ws (some (.int (k:Nat))) (some (.int (2 ^ k))) (by lia) hxb (by lia)
   rw [<- b2q x k hodd] at ih
   refine ⟨ρ2,d5e hyield (B2 (by simp) rfl) (C0 ha1 (G3 (I7 ht htr J0))) ?_,hρ⟩
   unfold K7
   rw [if_neg hodd]
   exact ih
theorem a1i:∀ m k x,(K7 k m x).length <= m + 1
 | 0,k,x=>by simp [K7]
 | m + 1,k,x=>by
  unfold K7
  split
  ·split
   ·simp
   ·exact Nat.succ_le_succ (a1i m (k + 1) (x / 2))
  ·exact Nat.le_succ_of_le (a1i m (k + 1) (x / 2))
theorem X8:∀ m k x,k + m = 32->Bd k (x * 2 ^ k)->∀ w ∈ K7 k m x,w.length <= 67
 | 0,k,x,hk,hx,w,hw=>by
  unfold K7 at hw
  rcases List.mem_singleton.mp hw with rfl
  exact b2p (hx.abs (by lia))
 | m + 1,k,x,hk,hx,w,hw=>by
  unfold K7 at hw
  split at hw
  ·rcases List.mem_cons.mp hw with rfl | hw
   ·exact c0r k (by lia)
   ·split at hw
    ·cases hw
    ·exact X8 m (k + 1) (x / 2) (by lia) hx.next w hw
  ·exact X8 m (k + 1) (x / 2) (by lia) hx.next w hw
theorem V1 {ss:List Str} (hl:ss.length <= 1000) (he:∀ s ∈ ss,s.length <= 1000):JoinOk (", " : Str) ss = true:=by
 unfold JoinOk Builtin.Str.tooLong
 rw [List.foldl_toArray]
 have key:∀ (l:List Str) (a:Nat),(∀ s ∈ l,s.length <= 1000)->l.foldl (fun x y=>x + y.length + (", " : Str).length) a <= a + l.length * 1002:=by
  intro l
  induction l with
  | nil=>intro a _; simp
  | cons s l ih=>
   intro a h
   rw [List.foldl_cons]
   have h1:=h s (.head _)
   have h2:=ih (a + s.length + (", " : Str).length) fun y m=>h y (.tail _ m)
   have h3:(", " : Str).length = 2:=by decide +kernel
   rw [h3] at h2 ⊢
   simp only [List.length_cons]
   lia
 have:=key ss 0 he
 have hs:=sizeLine_eq
 simp
 lia
theorem b5s {ρ:List (Option V)} {R0:List (List AObj)} {ws:List Str} {G:Pg} (hl:ws.length <= 1000) (he:∀ s ∈ ws,s.length <= 1000) :
  a0k G ⟨ρ,R0 ++ [[.list (ws.map .str)]]⟩ (.str ", ") "join" [.ref R0.length 0] = some (.str (Txt.join ", " ws),⟨ρ,R0 ++ [[.list (ws.map .str)]]⟩):=by
 have ho:St.obj ⟨ρ,R0 ++ [[.list (ws.map .str)]]⟩ R0.length 0 = some (.list (ws.map .str)):=by rw [R4]; rfl
 simp only [a0k,b0v,b4h,b4i,T3,b0p,c8y,N9,O0,C7,ho,a2w]
 rw [if_pos trivial,if_pos (V1 hl he)]
theorem d4c {x:Int} (h:x.natAbs < 9223372036854775808):Bd 0 (x * 2 ^ 0):=by
 rw [Int.pow_zero,Int.mul_one]
 exact Nat.lt_of_lt_of_le h (Nat.le_add_right _ _)
theorem c6g {P:Pg} {ad ga:Addr} (hG:P.gds.lookup ga = some kv10) {st:St} {x:Int} (hR:st.R.length < 100) (hx:x.natAbs < 9223372036854775808):Call P (fPF ad ga) [.int x] [] st (.str (Txt.join ", " (K7 0 32 x))) st:=by
 obtain ⟨ρ2,hl,hρ⟩:=b2s (P:=P) hG (R0:=st.R) 32 0 x [] none none rfl (d4c hx) (by simp)
 have hle:=a1i 32 0 x
 have hea:=X8 32 0 x rfl (d4c hx)
 refine H7 (ρ2:=ρ2) (R2:=st.R) (reg:=[.list ((K7 0 32 x).map .str)]) (v:=.str (Txt.join ", " (K7 0 32 x))) hR rfl ?_ rfl
 show X P (bPF ga) ⟨[some (.int x),none,none,none],st.R ++ [[]]⟩ _ _
 refine C0 (st1:=⟨[some (.int x),some (.ref st.R.length 0),none,none],st.R ++ [[.list []]]⟩) (B4 (F3 B3 (v:=.ref st.R.length 0) (st2:=⟨[some (.int x),none,none,none],st.R ++ [[.list []]]⟩) ?_) (B2 (by simp) rfl)) ?_
 ·simp [mkL,St.alloc]
 ·have hr:=a2x ⟨[some (.int x),some (.ref st.R.length 0),none,none],st.R ++ [[.list []]]⟩ 32 (by decide)
  rw [List.range_eq_range'] at hr
  rw [List.nil_append] at hl
  rw [show (x * 2 ^ 0:Int) = x by simp] at hl
  refine C0 (Y8 (T5 (B7 C5 (A9 B9 B3) B6 (b5g rfl)) hr) hl) (a8k (E2 (E8 G2 rfl (A9 (B0 hρ) B3) (b5s (by lia) fun s m=>Nat.le_trans (hea s m) (by decide)))))
end
section
theorem b7y (x:Int) (i:Nat):a0i .RShift x (i:Int) = some (x / 2 ^ i):=by
 simp only [J5,G4,J1,J6,J7,J8,J9,Y2,K1,Int.ofNat_nonneg,decide_true,if_true,Int.toNat_natCast]
 rw [Int.fdiv_eq_ediv_of_nonneg _ (by have:=a1h i; lia)]
end
section
noncomputable def d1m:ME:=.lst [.const (.str "OPTIMIZED"),.const (.str "NEWLOCALS"),.const (.str "VARARGS"),.const (.str "VARKEYWORDS"),.const (.str "NESTED"),.const (.str "GENERATOR"),.const (.str "NOFREE"),.const (.str "COROUTINE"),.const (.str "ITERABLE_COROUTINE"),.const (.str "ASYNC_GENERATOR")] false
theorem c6h {P:Pg} {st:St}:E P d1m st (.lst (nmL.map .str)) st:=
 F3 (A9 G2 (A9 G2 (A9 G2 (A9 G2 (A9 G2 (A9 G2 (A9 G2 (A9 G2 (A9 G2 (A9 G2 B3)))))))))) rfl
theorem c0t {st:St} {ws:List Str} {G:Pg} (hl:ws.length <= 1000) (he:∀ s ∈ ws,s.length <= 1000):a0k G st (.str ", ") "join" [.lst (ws.map .str)] = some (.str (Txt.join ", " ws),st):=by
 simp only [a0k,b0v,b4h,b4i,T3,b0p,c8y,N9,O0,C7,a2w]
 rw [if_pos trivial,if_pos (V1 hl he)]
end
section
noncomputable def oct (m d e:Nat):Int:=(d:Int) + 64 * m + 128 * e
noncomputable def a8j:List (Nat × Nat)->List Int
 | []=>[]
 | [(d,e)]=>[oct 0 d e]
 | (d,e) :: c :: r=>oct 1 d e :: a8j (c :: r)
noncomputable def c2t (cs:List (Nat × Nat)):Nat:=if cs.isEmpty then 0 else 1
theorem d4d {m d e:Nat} (hd:d < 64):Builtin.bitAnd (oct m d e) 63 = (d:Int):=by rw [bitAnd_m6]; unfold oct; lia
theorem d4e {m d e:Nat} (hd:d < 64) (hm:m <= 1):Builtin.bitAnd (oct m d e) 64 = 64 * (m:Int):=by
 have h:=kbt_bit (oct m d e) 6
 rw [show (2:Int) ^ 6 = 64 by decide] at h
 rw [h]; unfold oct; lia
theorem c6i (v d:Nat) (hd:d < 64):(v * 64) &&& d = 0:=by
 apply Nat.eq_of_testBit_eq
 intro j
 rw [Nat.testBit_and,Nat.zero_testBit,show (64:Nat) = 2 ^ 6 by decide,Nat.mul_comm,Nat.testBit_two_pow_mul]
 by_cases h:6 <= j
 ·have:d.testBit j = false:=Nat.testBit_lt_two_pow (Nat.lt_of_lt_of_le hd (by have:=Nat.pow_le_pow_right (n:=2) (by decide) h; simpa using this))
  simp [this]
 ·simp [h]
theorem d1n (v d:Nat) (hd:d < 64):Builtin.bitOr ((v * 64:Nat):Int) (d:Int) = ((v * 64 + d:Nat):Int):=by
 rw [bitOr_and,bitAnd_pp (by lia) (by lia)]
 simp only [Int.toNat_natCast]
 rw [c6i v d hd]; lia
noncomputable def c6j:ME:=.bin .BitAnd (.slot 1) (.const (.int 64)) false
noncomputable def c6k:List MS:=[.augS 2 .LShift (.const (.int 6)),.assign (.slot 1) (.call (.imm (.builtin "next")) [.slot 0] []),.augS 2 .BitOr (.bin .BitAnd (.slot 1) (.const (.int 63)) false)]
noncomputable def bPV:List MS:=[
 .assign (.slot 1) (.call (.imm (.builtin "next")) [.slot 0] []),
 .assign (.slot 2) (.bin .BitAnd (.slot 1) (.const (.int 63)) false),
 .whil c6j c6k [],
 .ret (.slot 2)]
noncomputable def fPV (a:Addr):Fn:={ addr:=a,np:=1,dfl:=[],key:=false,ns:=3,body:=bPV }
noncomputable def b4d (v:Nat) (cs:List (Nat × Nat)):Nat:=cs.foldl (fun v c=>v * 64 + c.1) v
theorem c6l {ρ:List (Option V)} {R:List (List AObj)} {l i:Nat} {v:V} {vs:List V} {o:AObj} (h:St.obj ⟨[],R⟩ l i = some o):biV ⟨ρ,up R l i (.iter (v :: vs))⟩ "next" [.ref l i] = some (v,⟨ρ,up R l i (.iter vs)⟩):=by
 have ho:St.obj ⟨ρ,up R l i (.iter (v :: vs))⟩ l i = some (.iter (v :: vs)):=c0p h
 show c2y _ _ _ _ = _
 rw [ho]
 show some (v,St.setObj _ _ _ _) = _
 rw [M1,d4b]
theorem d9h {v:Nat} (h:v < 2 ^ 60):a0i .LShift (v:Int) 6 = some ((v * 64:Nat):Int):=by
 have hs:(decide ((0:Int) <= 6) && decide ((6:Int) <= 1000000) && small 64 (v:Int)) = true:=by
  simp [small]; lia
 simp only [J5,G4,J1,J6,J7,J8,J9,Y2,K1,hs,if_true]
 congr 1
theorem b7z {P:Pg} {R:List (List AObj)} {l i:Nat} {o:AObj} (h:St.obj ⟨[],R⟩ l i = some o) {rest:List Int}:∀ (cs:List (Nat × Nat)) (v d e:Nat),d < 64->(∀ c ∈ cs,c.1 < 64)->v < 2 ^ (6 * (9 - cs.length))->cs.length <= 8->
  ∃ b,X P [.whilGo c6j c6k []] ⟨[some (.ref l i),some (.int (oct (c2t cs) d e)),some (.int v)],up R l i (.iter ((a8j cs ++ rest).map .int))⟩ .next ⟨[some (.ref l i),some b,some (.int (b4d v cs:Nat))],up R l i (.iter (rest.map .int))⟩
 | [],v,d,e,hd,_,hv,_=>⟨_,a3s (r:=false) (a4e (C4 (B0 rfl) B9 rfl) (by
   show some _ = some false
   congr 1
   rw [show c2t [] = 0 from rfl,d4e hd (by decide)]; rfl) rfl) rfl J0⟩
 | (d',e') :: cs,v,d,e,hd,hc,hv,hl=>by
  have hd':d' < 64:=hc (d',e') (.head _)
  simp only [List.length_cons] at hv hl
  have hv60:v < 2 ^ 60:=Nat.lt_of_lt_of_le hv (Nat.pow_le_pow_right (by decide) (by lia))
  have hv':v * 64 + d' < 2 ^ (6 * (9 - cs.length)):=by
   have e1:6 * (9 - cs.length) = 6 * (9 - (cs.length + 1)) + 6:=by lia
   rw [e1,Nat.pow_add]
   have:(2:Nat) ^ 6 = 64:=by decide
   lia
  obtain ⟨b,ih⟩:=b7z h cs (v * 64 + d') d' e' hd' (fun c m=>hc c (.tail _ m)) hv' (by lia)
  refine ⟨b,?_⟩
  have henc:a8j ((d',e') :: cs) = oct (c2t cs) d' e' :: a8j cs:=by
   cases cs with
   | nil=>rfl
   | cons c r=>rfl
  rw [henc]
  refine b7q (r:=true) (a4e (C4 (B0 rfl) B9 rfl) (by
   show some _ = some true
   congr 1
   rw [show c2t ((d',e') :: cs) = 1 from rfl,d4e hd (by decide)]; rfl) rfl) rfl ?_ ih
  refine C0 (st1:=⟨[some (.ref l i),some (.int (oct 1 d e)),some (.int (v * 64:Nat))],up R l i (.iter ((oct (c2t cs) d' e' :: a8j cs ++ rest).map .int))⟩) ?_ (C0 (st1:=⟨[some (.ref l i),some (.int (oct (c2t cs) d' e')),some (.int (v * 64:Nat))],up R l i (.iter ((a8j cs ++ rest).map .int))⟩) ?_ (G3 ?_))
  ·refine a4v rfl B9 (new:=.int (v * 64:Nat)) ?_ (by simp) rfl
   simp only [c9e,d5o,c9w,T3,O0,N9,d9h hv60]
  ·exact B4 (B7 C5 (A9 (B0 rfl) B3) B6 (N3 (c6l h))) (B2 (by simp) rfl)
  ·refine a4v rfl (C4 (B0 rfl) B9 (z:=(d':Int)) ?_) (new:=.int (v * 64 + d':Nat)) ?_ (by simp) rfl
   ·simp only [J5,G4,J1,J6,J7,J8,J9,Y2,K1,d4d hd']
   ·simp only [c9e,d5o,c9w,T3,O0,N9,J5,G4,J1,J6,J7,J8,J9,Y2,K1,d1n v d' hd']
theorem c6m {P:Pg} {ad:Addr} {st:St} {l i:Nat} {rest:List Int} {cs:List (Nat × Nat)} {d e:Nat} (hR:st.R.length < 100) (ho:st.obj l i = some (.iter ((a8j ((d,e) :: cs) ++ rest).map .int))) (hd:d < 64) (hc:∀ c ∈ cs,c.1 < 64) (hl:cs.length <= 8) :
  Call P (fPV ad) [.ref l i] [] st (.int (b4d d cs:Nat)) ⟨st.ρ,up st.R l i (.iter (rest.map .int))⟩:=by
 have hlt:=b5q ho
 have hoR:St.obj ⟨[],st.R ++ [[]]⟩ l i = some (.iter ((a8j ((d,e) :: cs) ++ rest).map .int)):=by rw [L8 [] st.ρ]; exact ho
 have henc:a8j ((d,e) :: cs) = oct (c2t cs) d e :: a8j cs:=by
  cases cs with
  | nil=>rfl
  | cons c r=>rfl
 rw [henc] at hoR
 obtain ⟨b,h⟩:=b7z (P:=P) hoR (rest:=rest) cs d d e hd hc (Nat.lt_of_lt_of_le hd (by
  have:=Nat.pow_le_pow_right (n:=2) (by decide) (show 6 <= 6 * (9 - cs.length) by lia)
  simpa using this)) hl
 refine H7 (ρ2:=[some (.ref l i),some b,some (.int (b4d d cs:Nat))]) (R2:=up st.R l i (.iter (rest.map .int))) (reg:=[]) (v:=.int (b4d d cs:Nat)) hR rfl ?_ rfl
 rw [<- c5z _ _ _ _ _ hlt]
 show X P bPV ⟨[some (.ref l i),none,none],st.R ++ [[]]⟩ _ _
 refine C0 (st1:=⟨[some (.ref l i),some (.int (oct (c2t cs) d e)),none],up (st.R ++ [[]]) l i (.iter ((a8j cs ++ rest).map .int))⟩) (B4 (B7 C5 (A9 (B0 rfl) B3) B6 (N3 (v:=.int (oct (c2t cs) d e)) (st1:=⟨[some (.ref l i),none,none],up (st.R ++ [[]]) l i (.iter ((a8j cs ++ rest).map .int))⟩) ?_)) (B2 (by simp) rfl)) ?_
 ·have ho2:St.obj ⟨[some (.ref l i),none,none],st.R ++ [[]]⟩ l i = some (.iter ((oct (c2t cs) d e :: a8j cs ++ rest).map .int)):=by rw [d4a _ []]; exact hoR
  show c2y _ _ _ _ = _
  rw [ho2]
  rfl
 ·refine C0 (st1:=⟨[some (.ref l i),some (.int (oct (c2t cs) d e)),some (.int d)],up (st.R ++ [[]]) l i (.iter ((a8j cs ++ rest).map .int))⟩) (B4 (C4 (B0 rfl) B9 (z:=(d:Int)) ?_) (B2 (by simp) rfl)) (C0 (a6r h) (a8k (E2 (B0 rfl))))
  simp only [J5,G4,J1,J6,J7,J8,J9,Y2,K1,d4d hd]
end
section
noncomputable def d4f:ME:=.bin .BitOr (.bin .BitAnd (.bin .RShift (.slot 2) (.bin .Mult (.const (.int 6)) (.slot 6) false) false) (.const (.int 63)) false) (.const (.int 64)) false
noncomputable def dn:Nat->List Nat
 | 0=>[]
 | k + 1=>(k + 1) :: dn k
theorem a7k:∀ k,(dn k).length = k
 | 0=>rfl
 | k + 1=>congrArg Nat.succ (a7k k)
noncomputable def dnE (w:Nat):List ME:=(dn w).map fun p=>.const (.int (p:Nat))
theorem b8a {P:Pg} {st:St}:∀ l:List Nat,Es P (l.map fun p=>.const (.int (p:Nat))) st (l.map fun p=>.int (p:Nat)) st
 | []=>B3
 | _ :: l=>A9 B9 (b8a l)
noncomputable def b5t (w:Nat):ME:=.bin .Add (.comp false 5 2 [.mk (.slot 6) (.val (.tup (dnE w))) [.bin .RShift (.slot 2) (.bin .Mult (.const (.int 6)) (.slot 6) false) false]] d4f) (.lst [.bin .BitAnd (.slot 2) (.const (.int 63)) false] false) false
noncomputable def bRD (pv:Addr) (w:Nat):List MS:=[
 .assign (.slot 1) (.lst [] true),
 .for_ (.slot 2) (.val (.slot 0)) [.augS 1 .Add (b5t w)] [],
 .assign (.slot 3) (.call (.imm (.builtin "iter")) [.comp false 5 3 [.mk (.tup [.slot 6,.slot 7]) (.enum (.val (.slot 1))) []] (.bin .Add (.slot 7) (.bin .Mult (.const (.int 128)) (.bin .Mod (.slot 6) (.const (.int 2)) false) false) false)] []),
 .assign (.slot 4) (.comp false 5 2 [.mk (.slot 6) (.val (.slot 0)) []] (.call (.imm (.ref pv)) [.slot 3] [])),
 .readEnd 4 3]
noncomputable def fRD (a pv:Addr) (w:Nat):Fn:={ addr:=a,np:=1,dfl:=[],key:=false,ns:=5,body:=bRD pv w }
noncomputable def b5u (w n:Nat):List Nat:=((dn w).filter fun p=>((n:Int) / 2 ^ (6 * p):Int) != 0).map fun p=>n / 2 ^ (6 * p) % 64
noncomputable def C8 (w n:Nat):List Int:=(b5u w n).map (fun d:Nat=>(d:Int) + 64) ++ [((n % 64:Nat):Int)]
theorem c6n {n p v:Nat} (hv:v = n / 64 ^ (p + 1)):(if (((n:Int) / 2 ^ (6 * p):Int) != 0) = true then v * 64 + n / 2 ^ (6 * p) % 64 else v) = n / 64 ^ p:=by
 have e:(2:Nat) ^ (6 * p) = 64 ^ p:=by rw [Nat.pow_mul]
 have e2:((n:Int) / 2 ^ (6 * p):Int) = ((n / 64 ^ p:Nat):Int):=by rw [<- e]; simp
 have hd:n / 64 ^ (p + 1) = n / 64 ^ p / 64:=by rw [Nat.pow_succ,Nat.div_div_eq_div_mul]
 rw [e2,e,hv,hd]
 generalize n / 64 ^ p = q
 split
 ·exact Nat.div_add_mod' q 64
 ·rename_i h
  have:q = 0:=by simpa using h
  rw [this]
theorem b8b (n:Nat):∀ (w v:Nat),v = n / 64 ^ (w + 1)->(dn w).foldl (fun v p=>if (((n:Int) / 2 ^ (6 * p):Int) != 0) = true then v * 64 + n / 2 ^ (6 * p) % 64 else v) v = n / 64 ^ 1
 | 0,_,h=>h
 | w + 1,_,h=>b8b n w _ (c6n h)
theorem a9t (w n:Nat) (h:n < 64 ^ (w + 1)):b4d 0 ((b5u w n).map fun d=>(d,0)) * 64 + n % 64 = n /\ (b5u w n).length <= w /\ ∀ d ∈ b5u w n,d < 64:=by
 refine ⟨?_,?_,?_⟩
 ·have e:b4d 0 ((b5u w n).map fun d=>(d,0)) = n / 64 ^ 1:=by
   unfold b5u b4d
   rw [List.foldl_map,List.foldl_map,List.foldl_filter]
   exact b8b n w 0 (Nat.div_eq_of_lt h).symm
  rw [e,Nat.pow_one]
  exact Nat.div_add_mod' n 64
 ·unfold b5u; rw [List.length_map]; exact Nat.le_trans (List.length_filter_le _ _) (Nat.le_of_eq (a7k w))
 ·intro d hd
  unfold b5u at hd
  obtain ⟨p,_,rfl⟩:=List.mem_map.mp hd
  exact Nat.mod_lt _ (by decide)
theorem b2t (l:Nat):∀ is:List Int,V.lvlOkL l (is.map .int) = true
 | []=>rfl
 | _ :: is=>b2t l is
theorem c0u {P:Pg} {w:Nat} (hw:w <= 5) {s0 s1 s3 s4:Option V} {R:List (List AObj)} {n:Nat}:E P (b5t w) ⟨[s0,s1,some (.int n),s3,s4],R⟩ (.lst ((C8 w n).map .int)) ⟨[s0,s1,some (.int n),s3,s4],R⟩:=by
 have hc:E P (.comp false 5 2 [.mk (.slot 6) (.val (.tup (dnE w))) [.bin .RShift (.slot 2) (.bin .Mult (.const (.int 6)) (.slot 6) false) false]] d4f) ⟨[s0,s1,some (.int n),s3,s4],R⟩ (.lst (((dn w).filter fun p=>((n:Int) / 2 ^ (6 * p):Int) != 0).map fun p=>.int ((n / 2 ^ (6 * p) % 64:Nat) + 64))) ⟨[s0,s1,some (.int n),s3,s4],R⟩:=by
  refine b2k (f:=fun p:Nat=>V.int (p:Nat)) (xs:=dn w) (T5 (G9 (b8a _)) rfl) rfl (E9 _).R (by rw [a7k]; unfold lim; lia) fun p hp junk hj=>?_
  exact b4e hj fun j0 j1=>by
   have hs:a0i .Mult 6 (p:Int) = some ((6 * p:Nat):Int):=by
    rw [c9o (by decide)]; simp
   have hsh:E P (.bin .RShift (.slot 2) (.bin .Mult (.const (.int 6)) (.slot 6) false) false) ⟨[s0,s1,some (.int n),s3,s4] ++ [j0,some (.int (p:Nat))],R⟩ (.int ((n:Int) / 2 ^ (6 * p))) ⟨[s0,s1,some (.int n),s3,s4] ++ [j0,some (.int (p:Nat))],R⟩:=
    C4 (B0 rfl) (C4 B9 (B0 rfl) hs) (b7y _ _)
   refine ⟨[j0,some (.int (p:Nat))],rfl,B2 (by simp) rfl,b7f (a4e hsh rfl rfl),fun u_=>?_⟩
   refine C4 (C4 hsh B9 (z:=((n / 2 ^ (6 * p) % 64:Nat):Int)) ?_) B9 ?_
   ·simp only [J5,G4,J1,J6,J7,J8,J9,Y2,K1,bitAnd_m6]; simp
   ·simp only [J5,G4,J1,J6,J7,J8,J9,Y2,K1,bitOr_and]
    have hlt:n / 2 ^ (6 * p) % 64 < 64:=Nat.mod_lt _ (by decide)
    have h:=kbt_bit ((n / 2 ^ (6 * p) % 64:Nat):Int) 6
    rw [show (2:Int) ^ 6 = 64 by decide] at h
    rw [h]
    have:((n / 2 ^ (6 * p) % 64:Nat):Int) / 64 = 0:=by lia
    rw [this]; simp
 refine a4d hc (F3 (A9 (C4 (B0 rfl) B9 (z:=((n % 64:Nat):Int)) ?_) B3) rfl) ?_
 ·simp only [J5,G4,J1,J6,J7,J8,J9,Y2,K1,bitAnd_m6]; simp
 ·have e:(C8 w n).map V.int = ((dn w).filter fun p=>((n:Int) / 2 ^ (6 * p):Int) != 0).map (fun p=>V.int ((n / 2 ^ (6 * p) % 64:Nat) + 64)) ++ [V.int ((n % 64:Nat):Int)]:=by
   unfold C8 b5u
   rw [List.map_append,List.map_map,List.map_map]; rfl
  rw [e]
  simp only [d2z,d5a,d5h,c9w,O0,a3h,N9,C7]
  unfold mkL
  rw [if_pos]
  ·rfl
  ·have:((dn w).filter fun p=>((n:Int) / 2 ^ (6 * p):Int) != 0).length <= w:=Nat.le_trans (List.length_filter_le _ _) (Nat.le_of_eq (a7k w))
   simp only [List.length_append,List.length_map,List.length_singleton]
   unfold lim; lia
theorem b2u (w n:Nat):(C8 w n).length <= w + 1:=by
 unfold C8 b5u
 have:((dn w).filter fun p=>((n:Int) / 2 ^ (6 * p):Int) != 0).length <= w:=Nat.le_trans (List.length_filter_le _ _) (Nat.le_of_eq (a7k w))
 simp only [List.length_append,List.length_map,List.length_singleton]; lia
noncomputable def a9u (k:Nat) (os:List Int):List Int:=(os.zipIdx k).map fun p=>p.1 + 128 * ((p.2 % 2:Nat):Int)
theorem c0v (k:Nat) (a b:List Int):a9u k (a ++ b) = a9u k a ++ a9u (k + a.length) b:=by
 unfold a9u; rw [List.zipIdx_append,List.map_append]
theorem c0w (k:Nat) (a:List Int):(a9u k a).length = a.length:=by unfold a9u; simp
theorem b5v (w n k:Nat):∃ e cs,(∃ d,a9u k (C8 w n) = a8j ((d,e) :: cs) /\ (∀ v,b4d v ((d,e) :: cs) = b4d v ((b5u w n).map fun d=>(d,0)) * 64 + n % 64) /\ d < 64) /\ (∀ c ∈ cs,c.1 < 64) /\ cs.length <= w:=by
 have key:∀ (ds:List Nat) (k:Nat),(∀ d ∈ ds,d < 64)->∃ cs:List (Nat × Nat),cs ≠ [] /\ a9u k (ds.map (fun d:Nat=>(d:Int) + 64) ++ [((n % 64:Nat):Int)]) = a8j cs /\ (∀ v,b4d v cs = b4d v (ds.map fun d=>(d,0)) * 64 + n % 64) /\ (∀ c ∈ cs,c.1 < 64) /\ cs.length = ds.length + 1:=by
  intro ds
  induction ds with
  | nil=>
   intro k _
   refine ⟨[(n % 64,k % 2)],by simp,?_,fun v=>rfl,fun c m=>?_,rfl⟩
   ·unfold a9u a8j oct; simp
   ·rcases List.mem_singleton.mp m with rfl; exact Nat.mod_lt _ (by decide)
  | cons d ds ih=>
   intro k hd
   obtain ⟨cs,h0,h1,h2,h3,h4⟩:=ih (k + 1) fun x m=>hd x (.tail _ m)
   cases cs with
   | nil=>exact absurd rfl h0
   | cons c r=>
    refine ⟨(d,k % 2) :: c :: r,by simp,?_,fun v=>?_,fun x m=>?_,by rw [List.length_cons,h4]; rfl⟩
    ·have:a8j ((d,k % 2) :: c :: r) = oct 1 d (k % 2) :: a8j (c :: r):=rfl
     rw [this,<- h1]
     unfold a9u oct
     simp
    ·show b4d (v * 64 + d) (c :: r) = b4d (v * 64 + d) (ds.map fun d=>(d,0)) * 64 + n % 64
     exact h2 _
    ·rcases List.mem_cons.mp m with rfl | m
     ·exact hd d (.head _)
     ·exact h3 x m
 have hh:∀ d ∈ b5u w n,d < 64:=fun d hd=>by
  unfold b5u at hd
  obtain ⟨p,_,rfl⟩:=List.mem_map.mp hd
  exact Nat.mod_lt _ (by decide)
 have hl:(b5u w n).length <= w:=by unfold b5u; rw [List.length_map]; exact Nat.le_trans (List.length_filter_le _ _) (Nat.le_of_eq (a7k w))
 obtain ⟨cs,h0,h1,h2,h3,h4⟩:=key (b5u w n) k hh
 cases cs with
 | nil=>exact absurd rfl h0
 | cons c r=>
  obtain ⟨d,e⟩:=c
  refine ⟨e,r,⟨d,h1,h2,h3 (d,e) (.head _)⟩,fun c m=>h3 c (.tail _ m),by simp at h4; lia⟩
theorem a7l (ρ:List (Option V)) (R0:List (List AObj)) (a b:AObj):St.obj ⟨ρ,R0 ++ [[a,b]]⟩ R0.length 1 = some b:=by rw [R4]; rfl
theorem b2v (R0:List (List AObj)) (a b c:AObj):up (R0 ++ [[a,b]]) R0.length 1 c = R0 ++ [[a,c]]:=by rw [b2m]; rfl
theorem c6o {P:Pg} {pv:Addr} {w:Nat} (hw:w <= 5) (hf:P.fns.find? (fun f=>f.addr == pv) = some (fPV pv)) {R0:List (List AObj)} {A:AObj} {s0 s1 s2 s4:Option V} (hR:R0.length < 90):∀ (ns:List Nat) (k:Nat),(∀ n ∈ ns,n < 64 ^ (w + 1))->∀ j0 j1:Option V,
  ∃ j,C P [.mk (.slot 6) (.val (.slot 0)) []] (.call (.imm (.ref pv)) [.slot 3] []) (.seq (ns.map fun n=>.int (n:Nat))) ⟨[s0,s1,s2,some (.ref R0.length 1),s4,j0,j1],R0 ++ [[A,.iter ((a9u k (ns.flatMap (C8 w))).map .int)]]⟩ (ns.map fun n=>.int (n:Nat)) ⟨[s0,s1,s2,some (.ref R0.length 1),s4,j0,j],R0 ++ [[A,.iter []]]⟩
 | [],k,_,j0,j1=>⟨j1,d3p rfl⟩
 | n :: ns,k,hn,j0,j1=>by
  obtain ⟨j,ih⟩:=c6o hw hf hR ns (k + (C8 w n).length) (fun m h=>hn m (.tail _ h)) j0 (some (.int (n:Nat)))
  refine ⟨j,?_⟩
  obtain ⟨e,cs,⟨d,h1,h2,h3⟩,h4,h5⟩:=b5v w n k
  have hval:=(a9t w n (hn n (.head _))).1
  have hm:a9u k ((n :: ns).flatMap (C8 w)) = a8j ((d,e) :: cs) ++ a9u (k + (C8 w n).length) (ns.flatMap (C8 w)):=by
   rw [List.flatMap_cons,c0v,h1]
  rw [hm]
  have hcall:=c6m (P:=P) (ad:=pv) (st:=⟨[s0,s1,s2,some (.ref R0.length 1),s4,j0,some (.int (n:Nat))],R0 ++ [[A,.iter ((a8j ((d,e) :: cs) ++ a9u (k + (C8 w n).length) (ns.flatMap (C8 w))).map .int)]]⟩) (l:=R0.length) (i:=1) (by simp; lia) (a7l ..) h3 h4 (by lia)
  rw [b2v] at hcall
  have hv0:b4d d cs = n:=by
   have:=h2 0
   rw [show b4d 0 ((d,e) :: cs) = b4d d cs by unfold b4d; simp] at this
   rw [this]; exact hval
  rw [hv0] at hcall
  exact d8i rfl (B2 (by simp) rfl) b7e (B7 C5 (A9 (B0 rfl) B3) B6 (Q6 hf hcall)) ih
theorem c6p {P:Pg} {ad pv:Addr} {w:Nat} (hw:w <= 5) (hf:P.fns.find? (fun f=>f.addr == pv) = some (fPV pv)) {st:St} {ns:List Nat} (hR:st.R.length < 80) (hn:∀ n ∈ ns,n < 64 ^ (w + 1)) (hl:ns.length <= 1000):Call P (fRD ad pv w) [.lst (ns.map fun n=>.int (n:Nat))] [] st (.lst (ns.map fun n=>.int (n:Nat))) st:=by
 let Rep:List Int->St->Prop:=fun os s=>∃ s2,s = ⟨[some (.lst (ns.map fun n=>.int (n:Nat))),some (.ref st.R.length 0),s2,none,none],st.R ++ [[.list (os.map .int)]]⟩ /\ os.length <= 6 * 1000 + 6
 have hfold:∀ (l:List Nat) (os:List Int),l.foldl (fun os n=>os ++ C8 w n) os = os ++ l.flatMap (C8 w):=by
  intro l
  induction l with
  | nil=>intro os; simp
  | cons n l ih=>intro os; rw [List.foldl_cons,ih,List.flatMap_cons,List.append_assoc]
 have hflen:∀ l:List Nat,(l.flatMap (C8 w)).length <= 6 * l.length:=by
  intro l
  induction l with
  | nil=>simp
  | cons n l ih=>rw [List.flatMap_cons,List.length_append,List.length_cons]; have:=b2u w n; lia
 have hloop:∀ (l:List Nat) (os:List Int) (s2:Option V),os.length + 6 * l.length <= 10000->∃ s2',X P [.forGo (.slot 2) (.seq (l.map fun n=>.int (n:Nat))) [.augS 1 .Add (b5t w)] []] ⟨[some (.lst (ns.map fun n=>.int (n:Nat))),some (.ref st.R.length 0),s2,none,none],st.R ++ [[.list (os.map .int)]]⟩ .next
   ⟨[some (.lst (ns.map fun n=>.int (n:Nat))),some (.ref st.R.length 0),s2',none,none],st.R ++ [[.list ((os ++ l.flatMap (C8 w)).map .int)]]⟩:=by
  intro l
  induction l with
  | nil=>intro os s2 _; exact ⟨s2,by rw [List.flatMap_nil,List.append_nil]; exact c4t rfl J0⟩
  | cons n l ih=>
   intro os s2 hle
   have ho:=b2u w n
   simp only [List.length_cons] at hle
   obtain ⟨s2',h⟩:=ih (os ++ C8 w n) (some (.int (n:Nat))) (by rw [List.length_append]; lia)
   refine ⟨s2',?_⟩
   rw [List.flatMap_cons,<- List.append_assoc]
   have hob:∀ ρ,St.obj ⟨ρ,st.R ++ [[.list (os.map .int)]]⟩ st.R.length 0 = some (.list (os.map .int)):=fun ρ=>by rw [R4]; rfl
   have hX1:X1 P (.augS 1 .Add (b5t w)) ⟨[some (.lst (ns.map fun n=>.int (n:Nat))),some (.ref st.R.length 0),some (.int (n:Nat)),none,none],st.R ++ [[.list (os.map .int)]]⟩ .next ⟨[some (.lst (ns.map fun n=>.int (n:Nat))),some (.ref st.R.length 0),some (.int (n:Nat)),none,none],st.R ++ [[.list ((os ++ C8 w n).map .int)]]⟩:=by
    have haug:c9e ⟨[some (.lst (ns.map fun n=>.int (n:Nat))),some (.ref st.R.length 0),some (.int (n:Nat)),none,none],st.R ++ [[.list (os.map .int)]]⟩ .Add (.ref st.R.length 0) (.lst ((C8 w n).map .int)) = some (.ref st.R.length 0,⟨[some (.lst (ns.map fun n=>.int (n:Nat))),some (.ref st.R.length 0),some (.int (n:Nat)),none,none],st.R ++ [[.list ((os ++ C8 w n).map .int)]]⟩):=by
     simp only [c9e,d5o,c9w,T3,O0,N9,hob,C7,b2t]
     rw [if_pos (by simp; unfold lim; lia)]
     rw [M1,b2m,List.map_append]; rfl
    exact b7i (i:=1) (op:=.Add) rfl (c0u hw) haug (by simp)
   exact d5e rfl (B2 (by simp) rfl) (G3 hX1) h
 obtain ⟨s2',hX⟩:=hloop ns [] none (by simp; lia)
 rw [List.nil_append] at hX
 have hfl:=hflen ns
 have hob:∀ ρ,St.obj ⟨ρ,st.R ++ [[.list ((ns.flatMap (C8 w)).map .int)]]⟩ st.R.length 0 = some (.list ((ns.flatMap (C8 w)).map .int)):=fun ρ=>by rw [R4]; rfl
 have htape:E P (.comp false 5 3 [.mk (.tup [.slot 6,.slot 7]) (.enum (.val (.slot 1))) []] (.bin .Add (.slot 7) (.bin .Mult (.const (.int 128)) (.bin .Mod (.slot 6) (.const (.int 2)) false) false) false)) ⟨[some (.lst (ns.map fun n=>.int (n:Nat))),some (.ref st.R.length 0),s2',none,none],st.R ++ [[.list ((ns.flatMap (C8 w)).map .int)]]⟩
   (.lst ((a9u 0 (ns.flatMap (C8 w))).map .int)) ⟨[some (.lst (ns.map fun n=>.int (n:Nat))),some (.ref st.R.length 0),s2',none,none],st.R ++ [[.list ((ns.flatMap (C8 w)).map .int)]]⟩:=by
  unfold a9u
  rw [List.map_map]
  refine b2l (f:=fun p:Int × Nat=>V.tup [.int (p.2:Nat),.int p.1]) (xs:=(ns.flatMap (C8 w)).zipIdx 0) (it:=.en 0 (.ref st.R.length 0 0)) (b5a (B0 rfl) ?_) rfl ?_ (by rw [List.length_zipIdx]; unfold lim; lia) fun p hp junk hj=>?_
  ·simp only [d7o,C7,hob,c2q]
  ·rw [<- a0c]
   exact P1 _ _ _ (I4 hob _ 0 (by simp))
  ·exact c3c hj fun j0 j1 j2=>by
    refine ⟨[j0,some (.int (p.2:Nat)),some (.int p.1)],rfl,N2 (B2 (by simp) rfl) (B2 (by simp) rfl),?_⟩
    refine C4 (B0 rfl) (C4 B9 (C4 (B0 rfl) B9 (b2o (n:=2) (by decide))) (c9o (by decide))) rfl
 have hlen:((a9u 0 (ns.flatMap (C8 w))).map V.int).length <= lim:=by rw [List.length_map,c0w]; unfold lim; lia
 obtain ⟨j,hC⟩:=c6o (P:=P) hw hf (R0:=st.R) (A:=.list ((ns.flatMap (C8 w)).map .int)) (s0:=some (.lst (ns.map fun n=>.int (n:Nat)))) (s1:=some (.ref st.R.length 0)) (s2:=s2') (s4:=none) (by lia) ns 0 hn none none
 refine H7 (ρ2:=[some (.lst (ns.map fun n=>.int (n:Nat))),some (.ref st.R.length 0),s2',some (.ref st.R.length 1),some (.lst (ns.map fun n=>.int (n:Nat)))]) (R2:=st.R) (reg:=[.list ((ns.flatMap (C8 w)).map .int),.dead]) (v:=.lst (ns.map fun n=>.int (n:Nat))) (by lia) rfl ?_ ?_
 ·show X P (bRD pv w) ⟨[some (.lst (ns.map fun n=>.int (n:Nat))),none,none,none,none],st.R ++ [[]]⟩ _ _
  refine C0 (st1:=⟨[some (.lst (ns.map fun n=>.int (n:Nat))),some (.ref st.R.length 0),none,none,none],st.R ++ [[.list []]]⟩) (B4 (F3 B3 (v:=.ref st.R.length 0) (st2:=⟨[some (.lst (ns.map fun n=>.int (n:Nat))),none,none,none,none],st.R ++ [[.list []]]⟩) ?_) (B2 (by simp) rfl)) ?_
  ·simp [mkL,St.alloc]
  refine C0 (Y8 (T5 (B0 rfl) rfl) hX) ?_
  refine C0 (st1:=⟨[some (.lst (ns.map fun n=>.int (n:Nat))),some (.ref st.R.length 0),s2',some (.ref st.R.length 1),none],st.R ++ [[.list ((ns.flatMap (C8 w)).map .int),.iter ((a9u 0 (ns.flatMap (C8 w))).map .int)]]⟩) (B4 (B7 C5 (A9 htape B3) B6 (N3 (v:=.ref st.R.length 1) (st1:=⟨[some (.lst (ns.map fun n=>.int (n:Nat))),some (.ref st.R.length 0),s2',none,none],st.R ++ [[.list ((ns.flatMap (C8 w)).map .int),.iter ((a9u 0 (ns.flatMap (C8 w))).map .int)]]⟩) ?_)) (B2 (by simp) rfl)) ?_
  ·show St.alloc _ _ = _
   simp [St.alloc]
  refine C0 (st1:=⟨[some (.lst (ns.map fun n=>.int (n:Nat))),some (.ref st.R.length 0),s2',some (.ref st.R.length 1),some (.lst (ns.map fun n=>.int (n:Nat)))],st.R ++ [[.list ((ns.flatMap (C8 w)).map .int),.iter []]]⟩) (B4 (c4o (T5 (B0 rfl) rfl) rfl hC (v:=.lst (ns.map fun n=>.int (n:Nat))) (st':=⟨[some (.lst (ns.map fun n=>.int (n:Nat))),some (.ref st.R.length 0),s2',some (.ref st.R.length 1),none],st.R ++ [[.list ((ns.flatMap (C8 w)).map .int),.iter []]]⟩) ?_) (B2 (by simp) rfl)) ?_
  ·unfold mkL
   rw [if_pos (by rw [List.length_map]; unfold lim; lia)]; rfl
  have:=a9j (P:=P) (st:=⟨[some (.lst (ns.map fun n=>.int (n:Nat))),some (.ref st.R.length 0),s2',some (.ref st.R.length 1),some (.lst (ns.map fun n=>.int (n:Nat)))],st.R ++ [[.list ((ns.flatMap (C8 w)).map .int),.iter []]]⟩) (told:=4) (tells:=3) (l:=st.R.length) (k:=1) (by simp; lia) rfl (a7l ..) rfl
  rw [M1,b2v] at this
  exact a8k this
 ·have:(ns.map fun n=>V.int (n:Nat)) = (ns.map fun n:Nat=>(n:Int)).map V.int:=by rw [List.map_map]; rfl
  rw [this]
  exact c0q _ _ 2 _
end
section
noncomputable def c6q (t:SetTable):Prop:=t.place.toList.Pairwise (· < ·) /\ t.dummies = #[]
noncomputable def Up (xs:Array Nat):Prop:=∀ i k,i < k->k < xs.size->xs.getD i 0 < xs.getD k 0
theorem c6r {xs:Array Nat} (h:xs.toList.Pairwise (· < ·)):Up xs:=fun i k hik hk=>by
 have hi:i < xs.size:=by lia
 have:=List.pairwise_iff_getElem.mp h i k (by simpa using hi) (by simpa using hk) hik
 simpa [Array.getD,hi,hk] using this
theorem a4w {xs:Array Nat} {j:Nat} (hs:Up xs):∀ (f lo hi:Nat),hi - lo <= f->lo <= hi->hi <= xs.size->(∀ i,i < lo->xs.getD i 0 < j)->(∀ i,hi <= i->i < xs.size->j <= xs.getD i 0)->
  SetTable.below.go xs j f lo hi <= xs.size /\ (∀ i,i < SetTable.below.go xs j f lo hi->xs.getD i 0 < j) /\ ∀ i,SetTable.below.go xs j f lo hi <= i->i < xs.size->j <= xs.getD i 0
 | 0,lo,hi,h1,h2,h3,h4,h5=>by
  have:lo = hi:=by lia
  subst this
  exact ⟨h3,h4,h5⟩
 | f + 1,lo,hi,h1,h2,h3,h4,h5=>by
  rw [show SetTable.below.go xs j (f + 1) lo hi = if lo < hi then (if xs.getD ((lo + hi) / 2) j < j then SetTable.below.go xs j f ((lo + hi) / 2 + 1) hi else SetTable.below.go xs j f lo ((lo + hi) / 2)) else lo from rfl]
  by_cases q:lo < hi
  ·rw [if_pos q]
   have hm:(lo + hi) / 2 < xs.size:=Nat.lt_of_lt_of_le (d1e q) h3
   have e:xs.getD ((lo + hi) / 2) j = xs.getD ((lo + hi) / 2) 0:=by simp only [Array.getD,hm,dif_pos]
   rw [e]
   by_cases w:xs.getD ((lo + hi) / 2) 0 < j
   ·rw [if_pos w]
    exact a4w hs f _ _ (d6k h1) (d1e q) h3 (fun i hi'=>(Nat.lt_or_eq_of_le (Nat.le_of_lt_succ hi')).elim (fun v=>Nat.lt_trans (hs i _ v hm) w) fun v=>v ▸ w) h5
   ·rw [if_neg w]
    exact a4w hs f _ _ (d6j q h1) (d1d q) (Nat.le_of_lt hm) h4 fun i hi' hi2=>(Nat.lt_or_eq_of_le hi').elim (fun v=>Nat.le_of_lt (Nat.lt_of_le_of_lt (Nat.le_of_not_lt w) (hs _ i v hi2))) fun v=>v ▸ Nat.le_of_not_lt w
  ·rw [if_neg q]
   obtain rfl:lo = hi:=Nat.le_antisymm h2 (Nat.le_of_not_lt q)
   exact ⟨h3,h4,h5⟩
theorem a1j {xs:Array Nat} (hs:Up xs) (j:Nat):SetTable.below xs j <= xs.size /\ (∀ i,i < SetTable.below xs j->xs.getD i 0 < j) /\ ∀ i,SetTable.below xs j <= i->i < xs.size->j <= xs.getD i 0:=
 a4w hs _ _ _ (by lia) (by lia) (Nat.le_refl _) (fun i h=>absurd h (Nat.not_lt_zero i)) (fun i h1 h2=>absurd h2 (Nat.not_lt.mpr h1))
theorem c6s {xs:Array Nat} (hs:Up xs):SetTable.below xs 0 = 0:=by
 obtain ⟨_,h,_⟩:=a1j hs 0
 cases q:SetTable.below xs 0 with
 | zero=>rfl
 | succ k=>exact absurd (h 0 (by lia)) (Nat.not_lt_zero _)
theorem a9v {xs:Array Nat} (hs:Up xs) {i:Nat} (hi:i < xs.size):SetTable.below xs (xs.getD i 0 + 1) = i + 1:=by
 obtain ⟨h1,h2,h3⟩:=a1j hs (xs.getD i 0 + 1)
 generalize SetTable.below xs (xs.getD i 0 + 1) = r at h1 h2 h3
 rcases Nat.lt_trichotomy r (i + 1) with w | w | w
 ·have:=h3 i (by lia) hi; lia
 ·exact w
 ·have:=h2 (i + 1) w
  have:=hs i (i + 1) (Nat.lt_succ_self i) (by lia)
  lia
theorem b5w {t:SetTable} (h:c6q t) {j:Nat} (e:t.slot j = .empty):j ∉ t.place.toList:=fun hm=>by
 obtain ⟨i,hi,hj⟩:=List.getElem_of_mem hm
 have hi:i < t.place.size:=by simpa using hi
 obtain ⟨h1,h2,h3⟩:=a1j (c6r h.1) j
 have hg:t.place.getD i 0 = j:=by simpa [Array.getD,hi] using hj
 have hb:SetTable.below t.place j = i:=by
  generalize SetTable.below t.place j = r at h1 h2 h3
  rcases Nat.lt_trichotomy r i with w | w | w
  ·have:=h3 r (Nat.le_refl _) (by lia)
   have:=c6r h.1 r i w hi
   lia
  ·exact w
  ·have:=h2 i w; lia
 unfold SetTable.slot at e
 dsimp only at e
 rw [hb,if_pos (by rw [Array.getElem?_eq_getElem hi]; simpa [Array.getD,hi] using hg)] at e
 cases e
theorem b2w (j:Nat):SetTable.has #[] j = false:=by
 unfold SetTable.has
 simp
theorem b2x {t:SetTable} (h:c6q t) {hashAt:Nat->Int} {hh:Int} (hne:∀ i,(hashAt i == hh) = false):∀ (f:Nat) (p:SetTable.Probe) (j:Nat) (d:Option Nat),p.dummy = none->SetTable.probe.go t hashAt hh f p = some (.empty j d)->t.slot j = .empty /\ d = none
 | 0,_,_,_,_,e=>by cases e
 | f + 1,p,j,d,hd,e=>by
  have e:(match t.slot p.j with
   | .empty=>some (.empty p.j p.dummy)
   | .dummy=>SetTable.probe.go t hashAt hh f (t.advance { p with dummy:=some p.j })
   | .live i=>if (hashAt i == hh) = true then some (.candidate p.j i (t.advance p)) else SetTable.probe.go t hashAt hh f (t.advance p)) = some (.empty j d):=e
  have adv:(t.advance p).dummy = none:=by
   unfold SetTable.advance
   split
   ·exact hd
   ·exact hd
  cases q:t.slot p.j with
  | empty=>rw [q] at e; cases e; exact ⟨q,hd⟩
  | dummy=>
   exfalso
   unfold SetTable.slot at q
   dsimp only at q
   split at q
   ·cases q
   ·rw [h.2,b2w] at q; cases q
  | live i=>
   rw [q] at e
   dsimp only at e
   rw [hne i] at e
   exact b2x h hne f (t.advance p) j d adv e
theorem c6t {t:SetTable} (h:c6q t) {hh:Int} {slot:Nat} {b:Bool} (e:t.freeSlot hh = some (slot,b)):slot ∉ t.place.toList:=by
 unfold SetTable.freeSlot at e
 split at e
 ·rename_i j d hp
  obtain ⟨a1,a2⟩:=b2x h (fun i=>by simp; lia) _ _ _ _ (by rfl) hp
  subst a2
  cases e
  exact b5w h a1
 ·cases e
theorem b5x {xs:Array Nat} (hs:xs.toList.Pairwise (· < ·)) {j:Nat} (hj:j ∉ xs.toList):(SetTable.insertAt xs (SetTable.below xs j) j).toList.Pairwise (· < ·):=by
 rw [SetTable.toList_insertAt]
 obtain ⟨h1,h2,h3⟩:=a1j (c6r hs) j
 generalize SetTable.below xs j = r at h1 h2 h3
 have ht:∀ a ∈ xs.toList.take r,a < j:=fun a ha=>by
  obtain ⟨i,hi,rfl⟩:=List.getElem_of_mem ha
  rw [List.length_take] at hi
  have hx:i < xs.size:=by simp at hi; lia
  have:=h2 i (by lia)
  simpa [Array.getD,hx] using this
 have hd:∀ a ∈ xs.toList.drop r,j < a:=fun a ha=>by
  obtain ⟨i,hi,rfl⟩:=List.getElem_of_mem ha
  rw [List.length_drop] at hi
  have hx:r + i < xs.size:=by simp at hi; lia
  have:=h3 (r + i) (by lia) hx
  rw [List.getElem_drop]
  have e:xs.getD (r + i) 0 = xs.toList[r + i]'(by simpa using hx):=by simp [Array.getD,hx]
  rw [e] at this
  exact Nat.lt_of_le_of_ne this fun q=>hj (by rw [q]; exact List.getElem_mem _)
 refine List.pairwise_append.mpr ⟨hs.sublist (List.take_sublist r _),List.pairwise_cons.mpr ⟨hd,hs.sublist (List.drop_sublist r _)⟩,fun a ha b hb=>?_⟩
 rcases List.mem_cons.mp hb with rfl | hb
 ·exact ht a ha
 ·exact Nat.lt_trans (ht a ha) (hd b hb)
theorem P2 (t:SetTable) (n:Nat):c6q (t.standIn n):=⟨by show (Array.range n).toList.Pairwise _; rw [Array.toList_range]; exact List.pairwise_lt_range,rfl⟩
theorem a7m {t:SetTable} (h:c6q t) (es:Array (Int × Value)) (hh:Int) (x:Value):c6q (layNew t es hh x).2.1:=by
 unfold layNew
 split
 ·rename_i slot b e
  have hj:=c6t h e
  dsimp only
  unfold SetTable.orStandIn
  split
  ·refine ⟨b5x h.1 hj,?_⟩
   show (if SetTable.has t.dummies slot then _ else t.dummies) = #[]
   rw [h.2,b2w]; rfl
  ·exact P2 _ _
 ·exact P2 _ _
theorem a9w (t:SetTable) (es:Array (Int × Value)) (hh:Int) (x:Value):(layNew t es hh x).2.1.led = t.led:=by
 unfold layNew
 split
 ·dsimp only
  unfold SetTable.orStandIn
  split <;> rfl
 ·rfl
theorem a9x {t:SetTable} (es:Array (Int × Value)) (n:Nat):c6q (relayAll t es n).2.1 /\ (relayAll t es n).2.1.led = t.led:=by
 unfold relayAll
 split
 ·rename_i t' order e
  dsimp only
  split
  ·unfold SetTable.relaid SetTable.laid at e
   cases q:SetTable.layClean (SetTable.sizeAbove n - 1) (es.map (·.1)) with
   | none=>rw [q] at e; cases e
   | some owner=>
    rw [q] at e
    cases e
    refine ⟨⟨?_,rfl⟩,rfl⟩
    show (List.toArray _).toList.Pairwise _
    rw [List.toList_toArray,List.map_filterMap]
    have sub:∀ l:List Nat,(l.filterMap fun j=>((owner.getD j none).map (j,·)).map (·.1)).Sublist l:=fun l=>by
     induction l with
     | nil=>exact .slnil
     | cons a l ih=>
      rw [List.filterMap_cons]
      cases owner.getD a none with
      | none=>exact ih.cons _
      | some k=>exact ih.cons_cons _
    exact List.pairwise_lt_range.sublist (sub _)
  ·exact ⟨P2 _ _,rfl⟩
 ·exact ⟨P2 _ _,rfl⟩
end
section
set_option maxRecDepth 100000
section
variable {prog:Program} {w:World} {A:Around} {E:Value->Shared->Prop} {s:Shared}
noncomputable def byT (w:World):Bool:=w.params.followText "set-order"
noncomputable abbrev iK (prog:Program) (w:World):=PySem.intKind prog w
noncomputable def SetG (prog:Program) (w:World) (h:Heap) (a:Addr) (S:Int->Bool) (n:Nat):Prop:=
 ∃ o es ep t,h.get? a = some o /\ o.ExactSet /\ o.data = .set es ep t /\ ElemsOf (iK prog w) es.toList /\ (∀ k,S k = true ↔ ∃ e ∈ es.toList,(iK prog w).is k e.2 = true)
  /\ es.size < scanBound /\ t.fits es.size = true /\ es.size = n /\ c6q t /\ t.led = !byT w
theorem P3 {Q:Bool->Shared->Prop} (h:Q (byT w) s):wpAny (model prog w) A setsByText Q E s:=by
 unfold setsByText
 exact wpAny_bind (wpAny_askSetting (wpAny_pure h))
theorem a2y {h:Heap} {a:Addr} {o:Obj} {es:Array (Int × Value)} {ep:Nat} {t:SetTable} (ho:h.get? a = some o) (hex:o.ExactSet) (hd:o.data = .set es ep t)
  {es':Array (Int × Value)} {t':SetTable} {S':Int->Bool} (hel:ElemsOf (iK prog w) es'.toList) (hmem:∀ k,S' k = true ↔ ∃ e ∈ es'.toList,(iK prog w).is k e.2 = true) (hb:es'.size < scanBound) (hf:t'.fits es'.size = true) (hr:c6q t') (hl:t'.led = !byT w) :
  (h.update a (Obj.putSet es' t')).get? a = some { o with data:=.set es' (ep + 1) t' } /\ SetG prog w (h.update a (Obj.putSet es' t')) a S' es'.size:=by
 have hg:(h.update a (Obj.putSet es' t')).get? a = some { o with data:=.set es' (ep + 1) t' }:=by
  have:=Heap.get?_update_self (Obj.putSet es' t') ho (by rw [putSet_of es' t' hd]; rfl)
  rw [putSet_of es' t' hd] at this; exact this
 exact ⟨hg,_,es',ep + 1,t',hg,hex,rfl,hel,hmem,hb,hf,rfl,hr,hl⟩
theorem b2y {g:Bool->Sem Unit} (hg:∀ (b:Bool) (s₁:Shared) (Q':Unit->Shared->Prop),Q' () s₁->wpAny (model prog w) A (g b) Q' E s₁)
  {a:Addr} {o:Obj} {es:Array (Int × Value)} {ep:Nat} {t:SetTable} (ho:s.heap.get? a = some o) (hex:o.ExactSet) (hd:o.data = .set es ep t)
  {es1:Array (Int × Value)} {t2:SetTable} {S':Int->Bool} (hel1:ElemsOf (iK prog w) es1.toList) (hmem1:∀ k',S' k' = true ↔ ∃ e ∈ es1.toList,(iK prog w).is k' e.2 = true)
  (hb1:es1.size < scanBound) (hf2:t2.fits es1.size = true) (hr:c6q t2) (hl:t2.led = !byT w) {wasDummy:Bool} {R:Option Bool->Shared->Prop}
  (h:∀ h',Heap.SameBut a s.heap h'->SetG prog w h' a S' es1.size->R (some true) { s with heap:=h' }) :
  wpAny (model prog w) A (do
    storeSet a es1 t2
    if (!wasDummy && t2.tooFull) = true then do
      g (relayAll t2 es1 (SetTable.grown es1.size)).2.2
      storeSet a (relayAll t2 es1 (SetTable.grown es1.size)).1 (relayAll t2 es1 (SetTable.grown es1.size)).2.1
      pure (some true)
     else pure (some true)) R E s:=by
 refine wpAny_bind (wpAny_storeSet_of ho hd ?_ (fits_of_scanBound hb1))
 obtain ⟨ho1,hS1⟩:=a2y (prog:=prog) ho hex hd hel1 hmem1 hb1 hf2 hr hl
 have hsb1:=Heap.SameBut.update s.heap a (Obj.putSet es1 t2)
 split
 ·have hp:=relayAll_perm t2 es1 (SetTable.grown es1.size)
  have hfr:=relayAll_fits t2 es1 (SetTable.grown es1.size)
  obtain ⟨hrr,hll⟩:=a9x (t:=t2) es1 (SetTable.grown es1.size)
  generalize relayAll t2 es1 (SetTable.grown es1.size) = Rl at hp hfr hrr hll ⊢
  obtain ⟨es2,t3,gave2⟩:=Rl
  dsimp only at hp hfr hrr hll ⊢
  have hel2:ElemsOf (iK prog w) es2.toList:=hel1.perm hp
  have hmem2:∀ k',S' k' = true ↔ ∃ e ∈ es2.toList,(iK prog w).is k' e.2 = true:=fun k'=>(hmem1 k').trans ⟨fun ⟨e,he,q⟩=>⟨e,hp.mem_iff.mpr he,q⟩,fun ⟨e,he,q⟩=>⟨e,hp.mem_iff.mp he,q⟩⟩
  have hsz:es2.size = es1.size:=by rw [<- Array.length_toList,hp.length_eq,Array.length_toList]
  refine wpAny_bind (hg _ _ _ ?_)
  refine wpAny_bind (wpAny_storeSet_of ho1 rfl ?_ (fits_of_scanBound (by rw [hsz]; exact hb1)))
  obtain ⟨_,hS2⟩:=a2y (prog:=prog) ho1 hex rfl hel2 hmem2 (by rw [hsz]; exact hb1) hfr hrr (hll.trans hl)
  rw [hsz] at hS2
  exact wpAny_pure (h _ (hsb1.trans (Heap.SameBut.update _ a _)) hS2)
 ·exact wpAny_pure (h _ hsb1 hS1)
theorem c0x {a:Addr} {S:Int->Bool} {n:Nat} {k:Int} {tk:Tok} {Q:Bool->Shared->Prop} (hS:SetG prog w s.heap a S n)
  (hroom:n + 1 < scanBound)
  (h:∀ h',Heap.SameBut a s.heap h'->SetG prog w h' a (fun k'=>S k' || decide (k' = k)) (if S k then n else n + 1)->Q (!S k) { s with heap:=h' }) :
  wpAny (model prog w) A (setAddHashed a (.int k tk) ((iK prog w).hash k)) Q E s:=by
 have hkey:(iK prog w).is k (.int k tk) = true:=intKind_is _ _ _ _
 have hsc:(Value.int k tk).scannable = true:=rfl
 obtain ⟨o,es,ep,t,ho,hex,hd,hS⟩:=hS
 obtain ⟨hel,hmem,hb,hf,hn,hr,hl⟩:=hS
 have hb1:es.size + 1 < scanBound:=by rw [hn]; exact hroom
 unfold setAddHashed setAddHashedIn
 refine wpAny_holding (wpAny_bind (wpAny_setState_of ho hd hf ?_))
 dsimp only
 rw [byScan_of hsc hb hel]
 simp only [↓reduceIte]
 unfold setAddByScan
 refine wpAny_bind ?_
 refine wpAny_bind (wpAny_rule ?_)
 refine wpAny_bind (wpAny_setScan_of hkey ho hd hf hel ?_)
 cases hr':List.findIdx? (fun e=>(iK prog w).is k e.2) es.toList with
 | some j=>
  dsimp only
  obtain ⟨hj,hpj,_⟩:=List.findIdx?_eq_some_iff_getElem.mp hr'
  have hSk:S k = true:=(hmem k).mpr ⟨es.toList[j],List.getElem_mem hj,hpj⟩
  refine wpAny_pure (wpAny_pure ?_)
  have:=h s.heap (Heap.SameBut.refl a s.heap) ⟨o,es,ep,t,ho,hex,hd,hel,fun k'=>by
   rw [Bool.or_eq_true,decide_eq_true_eq,<- hmem k']
   exact ⟨fun hk=>hk.elim id (fun e=>e ▸ hSk),.inl⟩,hb,hf,by rw [hSk]; exact hn,hr,hl⟩
  rw [hSk] at this; exact this
 | none=>
  dsimp only
  have hSk:S k = false:=by
   cases hk:S k with
   | false=>rfl
   | true=>obtain ⟨e,he,hp⟩:=(hmem k).mp hk; have:=List.findIdx?_eq_none_iff.mp hr' e he; rw [hp] at this; cases this
  have hgw:∀ (b:Bool) {s₁:Shared} {Q':Unit->Shared->Prop},Q' () s₁->wpAny (model prog w) A (match b with | true=>rule "set.scan.the-table-gave-way" | false=>pure ()) Q' E s₁:=
   fun b s₁ Q' hq=>by cases b <;> first | exact wpAny_pure hq | exact wpAny_rule hq
  have hperm:=layNew_perm t es ((iK prog w).hash k) (.int k tk)
  have hfits:=layNew_fits t es ((iK prog w).hash k) (.int k tk)
  have hrise:=a7m hr es ((iK prog w).hash k) (.int k tk)
  have hled:=(a9w t es ((iK prog w).hash k) (.int k tk)).trans hl
  generalize layNew t es ((iK prog w).hash k) (.int k tk) = L at hperm hfits hrise hled ⊢
  obtain ⟨es1,t1,wasDummy,gave⟩:=L
  dsimp only at hperm hfits hrise hled ⊢
  rw [Array.toList_push] at hperm
  have hel1:ElemsOf (iK prog w) es1.toList:=(hel.push hkey hsc).perm hperm
  have hmem1:∀ k',(S k' || decide (k' = k)) = true ↔ ∃ e ∈ es1.toList,(iK prog w).is k' e.2 = true:=mem_push_iff hkey hmem hperm
  have hsz1:es1.size = n + 1:=by rw [<- Array.length_toList,hperm.length_eq,List.length_append,Array.length_toList,hn]; rfl
  have hb1':es1.size < scanBound:=by rw [hsz1,<- hn]; exact hb1
  refine wpAny_bind (hgw _ ?_)
  have hend:∀ h',Heap.SameBut a s.heap h'->SetG prog w h' a (fun k'=>S k' || decide (k' = k)) es1.size->Q true { s with heap:=h' }:=fun h' hsb hS'=>by
   have:=h h' hsb
   rw [hSk] at this
   rw [hsz1] at hS'
   exact this hS'
  split
  ·refine wpAny_bind ?_
   rw [hashByValue_scannable 8 hsc]
   refine wpAny_pure ?_
   refine b2y ?_ ho hex hd hel1 hmem1 hb1' ?_ ?_ ?_ ?_
   ·exact fun b s₁ Q' hq=>hgw b hq
   ·split
    ·exact hfits
    ·exact SetTable.fits_plain_off hfits
   ·split <;> exact hrise
   ·split <;> exact hled
   ·intro h' hsb hS'; dsimp only; exact wpAny_pure (hend h' hsb hS')
  ·refine wpAny_bind (wpAny_pure ?_)
   simp only [↓reduceIte]
   refine b2y ?_ ho hex hd hel1 hmem1 hb1' hfits hrise hled ?_
   ·exact fun b s₁ Q' hq=>hgw b hq
   ·intro h' hsb hS'; dsimp only; exact wpAny_pure (hend h' hsb hS')
theorem a9y {h:Heap} {a:Addr} {S S':Int->Bool} {n n':Nat} (hS:SetG prog w h a S n) (e:∀ k,S k = S' k) (en:n = n'):SetG prog w h a S' n':=by
 have:S = S':=funext e
 subst this; subst en; exact hS
theorem SetG.at' {h h':Heap} {a:Addr} {S:Int->Bool} {n:Nat} (hS:SetG prog w h a S n) (k:∀ o,h.get? a = some o->h'.get? a = some o):SetG prog w h' a S n:=by
 obtain ⟨o,es,ep,t,ho,r⟩:=hS
 exact ⟨o,es,ep,t,k o ho,r⟩
end
section
variable {prog:Program} {w:World} {A:Around} {R:Result->Shared->Prop} {I:Addr} {fp wr:List Addr} {G:Array GenState->Array GenState->Prop} {n:Nat} {P:Nat->Value->Prop} {St:Nat->Shared->Prop}
theorem d6l (W:WalksS prog w A.in1 I fp wr G n P St) (S:Addr) (hSf:S ∉ fp) (val:Nat->Int) (hval:∀ i v,P i v->∃ t,v = .int (val i) t) (hb:n + 1 < scanBound) :
  ∀ (k i:Nat) (s:Shared),n - i = k->i <= n->St i s->
   SetG prog w s.heap S (fun k'=>(firstMet val i).any (· == k')) (firstMet val i).length->
   (∀ s',Moved (S :: wr) G s s'->SetG prog w s'.heap S (fun k'=>(firstMet val n).any (· == k')) (firstMet val n).length->R (.ok (.ret .none)) s')->
   codeAny (model prog w) A (.builtin "set.update.loop" ⟨[.ref S,.ref I],[]⟩) R s:=by
 have hSw:S ∉ wr:=fun h=>hSf (W.sub _ h)
 have hsub:∀ b ∈ wr,b ∈ S :: wr:=fun b hb=>List.mem_cons_of_mem _ hb
 intro k
 induction k with
 | zero=>
  intro i s hk hi hst hS hR
  have hin:i = n:=Nat.le_antisymm hi (Nat.le_of_sub_eq_zero hk)
  subst hin
  refine codeAny_builtin PyProof.Rows.F.entry_set_update_loop ?_
  rw [Around.under_plainId PyProof.Rows.F.plain_set_update_loop _]
  show wpAny _ A.in1 (pyNext (.ref I) >>= _) _ _ s
  refine wpAny_bind (W.done s _ _ hst fun s' hm=>?_)
  show wpAny _ A.in1 (ret Value.none) _ _ s'
  exact wpAny_pure (hR s' (hm.mono hsub) (hS.at' fun o ho=>hm.heap S _ hSw ho))
 | succ k ih=>
  intro i s hk hi hst hS hR
  have hlt:i < n:=Nat.lt_of_sub_pos (hk ▸ Nat.succ_pos k)
  refine codeAny_builtin PyProof.Rows.F.entry_set_update_loop ?_
  rw [Around.under_plainId PyProof.Rows.F.plain_set_update_loop _]
  show wpAny _ A.in1 (pyNext (.ref I) >>= _) _ _ s
  refine wpAny_bind (W.item i s _ _ hlt hst fun v s' hP hst' hm=>?_)
  obtain ⟨t,rfl⟩:=hval i v hP
  have hS':=hS.at' fun o ho=>hm.heap S _ hSw ho
  show wpAny _ A.in1 (holding [Value.int (val i) t] (setAdd S (.int (val i) t)) >>= _) _ _ s'
  refine wpAny_bind (wpAny_holding ?_)
  unfold setAdd
  refine wpAny_holding ?_
  refine wpAny_bind ((PySem.intKind prog w).pyHash (k:=val i) (intKind_is _ _ _ _) ?_)
  have hroom:(firstMet val i).length + 1 < scanBound:=Nat.lt_of_le_of_lt (Nat.succ_le_succ (Nat.le_trans (firstMet_length_le val i) (Nat.le_of_lt hlt))) hb
  refine c0x (s:={ s' with toks:=s'.toks + 1 }) hS' hroom fun h' hsb hS2=>?_
  have hSi:SetG prog w h' S (fun k'=>(firstMet val (i + 1)).any (· == k')) (firstMet val (i + 1)).length:=
   a9y hS2 (fun k'=>by rw [firstMet_succ,step_any]) (by rw [firstMet_succ,step_length])
  refine wpAny_pure ⟨plainId_quiet PyProof.Rows.F.plain_set_update_loop _,ih (i + 1) _ (congrArg Nat.pred hk) hlt (W.frame _ s' _ _ hst' (Nat.le_succ _) fun b hb o e=>?_) hSi fun s'' hm'' hS''=>?_⟩
  ·rw [hsb.2 b (fun h:b = S=>hSf (by rw [<- h]; exact hb))]; exact e
  ·refine hR s'' (Moved.trans W.gtrans ((hm.mono hsub).then_heap (Nat.le_succ _) fun b o hb e=>?_) hm'') hS''
   rw [hsb.2 b (fun h:b = S=>hb (by rw [h]; exact List.mem_cons_self))]; exact e
end
end
section
set_option maxRecDepth 100000
theorem X9 {α:Type}:∀ {l:List α} {i:Nat} (h:i < l.length),([l[i]] ++ l.eraseIdx i).Perm l
 | a :: l,0,_=>.refl _
 | a :: l,i + 1,h=>by
  have ih:=X9 (l:=l) (i:=i) (Nat.lt_of_succ_lt_succ h)
  exact (List.Perm.swap _ _ _).trans (ih.cons a)
theorem b8c {α:Type} (next:Nat->Nat):∀ (f k:Nat) (left:List α) (out:Array α),left.length <= f->(pickOrder.go next f k left out).toList.Perm (out.toList ++ left)
 | 0,_,left,out,h=>by
  obtain rfl:=List.length_eq_zero_iff.mp (Nat.le_zero.mp h)
  rw [List.append_nil]
  exact .refl _
 | f + 1,k,left,out,h=>by
  show Array.toList (match left[next k % left.length]? with
   | some x=>pickOrder.go next f (k + 1) (left.eraseIdx (next k % left.length)) (out.push x)
   | none=>out) |>.Perm _
  cases e:left[next k % left.length]? with
  | none=>
   dsimp only
   have hz:left.length = 0:=Nat.eq_zero_of_not_pos fun q=>by
    rw [List.getElem?_eq_getElem (Nat.mod_lt _ q)] at e; cases e
   obtain rfl:=List.length_eq_zero_iff.mp hz
   rw [List.append_nil]
  | some x=>
   dsimp only
   obtain ⟨hl,hx⟩:=List.getElem?_eq_some_iff.mp e
   refine (b8c next f (k + 1) _ _ ?_).trans ?_
   ·rw [List.length_eraseIdx,if_pos hl]; lia
   ·rw [Array.toList_push,List.append_assoc]
    refine .append_left _ ?_
    rw [<- hx]
    exact X9 hl
theorem a7n {α:Type} (next:Nat->Nat) (xs:Array α):(pickOrder next xs).toList.Perm xs.toList:=by
 have:=b8c next xs.size 0 xs.toList #[] (Nat.le_of_eq Array.length_toList)
 simpa [pickOrder] using this
theorem slot_sit_next:Slot "set_iterator" "__next__" "set_iterator.__next__" :=
 .of (owner := "set_iterator") (n := "__next__") (by rw [typeLookup_type,builtinLookup_eq_fast]; kernel_rfl) (by decide +kernel) (by decide +kernel) (by decide +kernel)
  (by first | exact .inl (by decide +kernel) | exact .inr (by decide +kernel)) (by rw [isSubtype_type]; kernel_rfl)
theorem Z2:entryFor table "set_iterator.__next__" = some Builtin.«set_iterator.__next__»:=entryFor_of_tree (by kernel_rfl)
theorem a1k (a:Value):argsOk "set_iterator.__next__" ⟨[a],[]⟩:=by unfold argsOk; kernel_rfl
theorem Z3:entryFor table "set.__iter__" = some Builtin.«frozenset.__iter__»:=
 entryFor_alias (id' := "frozenset.__iter__") (by kernel_rfl) (by first | rfl | decide +kernel | (unfold String.splitOn; simp +decide [String.splitOnAux])) (by decide +kernel) (by kernel_rfl)
theorem a1l (a:Value):argsOk "set.__iter__" ⟨[a],[]⟩:=by unfold argsOk; kernel_rfl
noncomputable def SAt (h:Heap) (S:Addr) (es:Array (Int × Value)) (ep:Nat) (t:SetTable):Prop:=∃ o,h.get? S = some o /\ o.cls = .type "set" /\ o.data = .set es ep t
noncomputable def SIt (h:Heap) (I S:Addr) (first:Value) (i n ep:Nat):Prop:=∃ o,h.get? I = some o /\ o.cls = .type "set_iterator" /\ o.data = .fields #[first,.int (i:Nat) 0,.ref S,.int (n:Nat) 0,.int (ep:Nat) 0]
theorem SIt.typeIs {s:Shared} {I S:Addr} {first:Value} {i n ep:Nat} (x:SIt s.heap I S first i n ep):s.TypeIs (.ref I) "set_iterator" := let ⟨o,ho,hc,_⟩:=x; ⟨o,ho,hc⟩
noncomputable def a7o (t:SetTable) (i:Nat):Nat:=match i with | 0=>0 | i + 1=>t.place.getD i 0 + 1
inductive SMode (w:World) (es:Array (Int × Value)) (ep:Nat) (t:SetTable) (S:Addr) (h:Heap):Value->Nat->List Value->Prop
 | text {slot i:Nat}:byT w = true->SMode w es ep t S h (.int (slot:Nat) 0) i ((pickOrder (w.params.setOrder S ep) es).toList.map (·.2))
 | plain {i:Nat}:byT w = false->(!t.plain && decide (es.size > 1)) = false->Up t.place->t.led = true->SMode w es ep t S h (.int (a7o t i:Nat) 0) i (es.toList.map (·.2))
 | lot {p i n:Nat} {qs:List Nat}:h.get? p = some { cls:=.type "tuple",dict:=none,data:=.seq (qs.map fun j=>rawInt (j:Nat)).toArray n,slots:=#[] }->qs.Perm (List.range es.size)->SMode w es ep t S h (.ref p) i (qs.map fun j=>(es.getD j (0,.none)).2)
section
variable {prog:Program} {w:World} {A:Around} {E:Value->Shared->Prop} {s:Shared} {es:Array (Int × Value)} {ep:Nat} {t:SetTable} {S I:Addr}
theorem a3u {o:Obj} {Q:Array (Int × Value)->Shared->Prop} (hb:byT w = true) (ho:s.heap.get? S = some o) (hd:o.data = .set es ep t) (hf:t.fits es.size = true) (h:Q (pickOrder (w.params.setOrder S ep) es) s):wpAny (model prog w) A (setWalk S) Q E s:=by
 unfold setWalk
 refine wpAny_bind (wpAny_setState_of ho hd hf ?_)
 dsimp only
 refine wpAny_bind (P3 ?_)
 rw [if_pos hb]
 exact wpAny_bind (wpAny_askSetting (wpAny_pure h))
theorem V2 {o:Obj} {slot given:Nat} {Q:Option (Value × Nat)->Shared->Prop} (hb:byT w = true) (ho:s.heap.get? S = some o) (hd:o.data = .set es ep t) (hf:t.fits es.size = true) (h:Q ((pickOrder (w.params.setOrder S ep) es)[given]?.map fun e=>(e.2,slot)) s):wpAny (model prog w) A (setNext S slot given ep) Q E s:=by
 unfold setNext
 refine wpAny_bind (wpAny_setState_of ho hd hf ?_)
 dsimp only
 refine wpAny_bind (P3 ?_)
 rw [if_pos hb,if_neg (by simp)]
 exact wpAny_bind (a3u hb ho hd hf (wpAny_pure h))
theorem R5 {o:Obj} {i given:Nat} {Q:Option (Value × Nat)->Shared->Prop} (hb:byT w = false) (hp:(!t.plain && decide (es.size > 1)) = false) (hu:Up t.place) (hl:t.led = true) (ho:s.heap.get? S = some o) (hd:o.data = .set es ep t) (hf:t.fits es.size = true) (hi:i <= es.size) (h:Q (es[i]?.map fun e=>(e.2,a7o t (i + 1))) s):wpAny (model prog w) A (setNext S (a7o t i) given ep) Q E s:=by
 have hz:t.place.size = es.size:=by
  unfold SetTable.fits at hf
  exact eq_of_beq (Bool.and_eq_true_iff.mp hf).1
 have hbl:SetTable.below t.place (a7o t i) = i:=by
  cases i with
  | zero=>exact c6s hu
  | succ i=>exact a9v hu (by lia)
 unfold setNext
 refine wpAny_bind (wpAny_setState_of ho hd hf ?_)
 dsimp only
 refine wpAny_bind (P3 ?_)
 rw [if_neg (by rw [hb]; exact Bool.false_ne_true)]
 show wpAny _ _ (if (!t.plain && decide (es.size > 1)) = true then _ else _) _ _ _
 rw [if_neg (by rw [hp]; exact Bool.false_ne_true)]
 refine wpAny_bind ?_
 show wpAny _ _ (if (!t.led && !es.isEmpty) = true then _ else _) _ _ _
 rw [if_neg (by rw [hl]; exact Bool.false_ne_true)]
 refine wpAny_pure ?_
 rw [hbl]
 cases q:es[i]? with
 | none=>rw [q] at h; exact wpAny_pure h
 | some e=>
  rw [q] at h
  have hi':i < t.place.size:=by rw [hz]; exact (Array.getElem?_eq_some_iff.mp q).1
  have hp':t.place[i]? = some t.place[i]:=Array.getElem?_eq_getElem hi'
  rw [hp']
  have e2:a7o t (i + 1) = t.place[i] + 1:=by
   show t.place.getD i 0 + 1 = _
   simp [Array.getD,hi']
  rw [e2] at h
  exact wpAny_pure h
theorem V3 {o:Obj} {j:Nat} {e:Int × Value} {Q:Value->Shared->Prop} (ho:s.heap.get? S = some o) (hd:o.data = .set es ep t) (hf:t.fits es.size = true) (hj:es[j]? = some e) (h:Q e.2 s):wpAny (model prog w) A (setNextDrawn S j ep) Q E s:=by
 unfold setNextDrawn
 refine wpAny_bind (wpAny_setState_of ho hd hf ?_)
 dsimp only
 rw [if_neg (by simp),hj]
 exact wpAny_pure h
@[elab_as_elim] theorem SMode.elim {h:Heap} {M:Value->Nat->List Value->Prop} {f:Value} {i:Nat} {ord:List Value} (x:SMode w es ep t S h f i ord) (h1:∀ slot i:Nat,byT w = true->M (.int (slot:Nat) 0) i ((pickOrder (w.params.setOrder S ep) es).toList.map (·.2)))
  (h2:∀ i:Nat,byT w = false->(!t.plain && decide (es.size > 1)) = false->Up t.place->t.led = true->M (.int (a7o t i:Nat) 0) i (es.toList.map (·.2)))
  (h3:∀ (p i n:Nat) (qs:List Nat),h.get? p = some { cls:=.type "tuple",dict:=none,data:=.seq (qs.map fun j=>rawInt (j:Nat)).toArray n,slots:=#[] }->qs.Perm (List.range es.size)->M (.ref p) i (qs.map fun j=>(es.getD j (0,.none)).2)):M f i ord:=by
 cases x with
 | text a=>exact h1 _ _ a
 | plain a b c d=>exact h2 _ a b c d
 | lot a b=>exact h3 _ _ _ _ a b
theorem a7p (z:Int):¬ ((z != z) = true):=by rw [bne_self_eq_false]; exact Bool.false_ne_true
theorem a1m {Q:Option Value->Shared->Prop} {first:Value} {i:Nat} (hI:SIt s.heap I S first i es.size ep)
  (h:wpAny (model prog w) A.in1 (Builtin.«set_iterator.__next__» ⟨[.ref I],[]⟩) (fun fin s'=>∃ v,fin = Fin.done (Flow.ret v) /\ wpAny (model prog w) A (pure (some v)) Q E s') (fun e s'=>wpAny (model prog w) A (do if (<- isInstance e (.type "StopIteration")) then pure none else throw e) Q E s') s):wpAny (model prog w) A (pyNext (.ref I)) Q E s:=by
 unfold pyNext
 exact wpAny_bind (wpAny_attempt (wpAny_callSpecial?_slot (name:=Str.ofString "__next__") hI.typeIs slot_sit_next (wpAny_call_entry slot_sit_next hI.typeIs Z2 h (a1k _))))
noncomputable abbrev d4g (prog:Program) (w:World) (s:Shared) (S slot i ep:Nat) (o:Option (Value × Nat)):Prop:=∀ {A:Around} {E:Value->Shared->Prop} {Q:Option (Value × Nat)->Shared->Prop},Q o s->wpAny (model prog w) A (setNext S slot i ep) Q E s
theorem b8d {slot nx i:Nat} {x:Value} {Q:Option Value->Shared->Prop} (hS:SAt s.heap S es ep t) (hf:t.fits es.size = true) (hI:SIt s.heap I S (.int (slot:Nat) 0) i es.size ep) (hN:d4g prog w s S slot i ep (some (x,nx)))
  (hQ:∀ h',Heap.SameBut I s.heap h'->SIt h' I S (.int (nx:Nat) 0) (i + 1) es.size ep->Q (some x) { s with heap:=h' }):wpAny (model prog w) A (pyNext (.ref I)) Q E s:=by
 refine a1m hI ?_
 obtain ⟨oS,hoS,hcS,hdS⟩:=hS
 obtain ⟨oI,hoI,hcI,hdI⟩:=hI
 unfold Builtin.«set_iterator.__next__»
 refine wpAny_bind (wpAny_of_eq (a:=(Value.ref I,[])) rfl ?_)
 dsimp only
 refine wpAny_bind (wpAny_fieldsOf hoI hdI ?_)
 dsimp only
 refine wpAny_bind (wpAny_setEntries_of hoS hdS hf ?_)
 rw [if_neg (a7p _)]
 refine wpAny_bind (hN ?_)
 have h1:=Heap.get?_update_self (Obj.mapFields (·.setIfInBounds 0 (rawInt (nx:Nat)))) hoI (Obj.isFreed_of_fields (Obj.data_mapFields hdI _))
 have hd1:=Obj.data_mapFields hdI (·.setIfInBounds 0 (rawInt (nx:Nat)))
 refine wpAny_bind (wpAny_setField hoI hdI (Nat.zero_lt_succ _) (wpAny_bind (wpAny_setField h1 hd1 (Nat.succ_lt_succ (Nat.zero_lt_succ _)) (wpAny_pure ⟨_,rfl,wpAny_pure (hQ _ ((Heap.SameBut.update ..).trans (Heap.SameBut.update ..)) ?_)⟩))))
 exact ⟨_,Heap.get?_update_self _ h1 (Obj.isFreed_of_fields (Obj.data_mapFields hd1 _)),(Obj.cls_mapFields ..).trans ((Obj.cls_mapFields oI _).trans hcI),Obj.data_mapFields hd1 _⟩
theorem c0y {first x:Value} {i:Nat} {ord:List Value} {Q:Option Value->Shared->Prop} (hS:SAt s.heap S es ep t) (hf:t.fits es.size = true) (hI:SIt s.heap I S first i es.size ep) (hm:SMode w es ep t S s.heap first i ord) (hx:ord[i]? = some x)
  (hQ:∀ h' first',Heap.SameBut I s.heap h'->SIt h' I S first' (i + 1) es.size ep->SMode w es ep t S s.heap first' (i + 1) ord->(∀ p,first' = .ref p->first = .ref p)->Q (some x) { s with heap:=h' }):wpAny (model prog w) A (pyNext (.ref I)) Q E s:=by
 revert hI hx hQ
 obtain ⟨oS,hoS,hcS,hdS⟩:=id hS
 refine hm.elim (fun slot i hb hI hx hQ=>?_) (fun i hb hp hu hl hI hx hQ=>?_) fun p i n qs h1 h2 hI hx hQ=>?_
 ·rw [List.getElem?_map,Array.getElem?_toList] at hx
  obtain ⟨e,he,rfl⟩:=Option.map_eq_some_iff.mp hx
  exact b8d hS hf hI (fun q=>V2 hb hoS hdS hf (by rw [he]; exact q)) fun h' a b=>hQ h' _ a b (.text hb) fun u_ q=>nomatch q
 ·rw [List.getElem?_map,Array.getElem?_toList] at hx
  obtain ⟨e,he,rfl⟩:=Option.map_eq_some_iff.mp hx
  exact b8d hS hf hI (fun q=>R5 hb hp hu hl hoS hdS hf (Nat.le_of_lt (Array.getElem?_eq_some_iff.mp he).1) (by rw [he]; exact q)) fun h' a b=>hQ h' _ a b (.plain hb hp hu hl) fun u_ q=>nomatch q
 ·rw [List.getElem?_map] at hx
  obtain ⟨j,hj,rfl⟩:=Option.map_eq_some_iff.mp hx
  have hjl:j < es.size:=List.mem_range.mp (h2.mem_iff.mp (List.mem_of_getElem? hj))
  have hg:es.getD j (0,.none) = es[j]:=by simp only [Array.getD,hjl,dif_pos]; rfl
  rw [hg] at hQ
  refine a1m hI ?_
  obtain ⟨oI,hoI,hcI,hdI⟩:=hI
  unfold Builtin.«set_iterator.__next__»
  refine wpAny_bind (wpAny_of_eq (a:=(Value.ref I,[])) rfl ?_)
  dsimp only
  refine wpAny_bind (wpAny_fieldsOf hoI hdI ?_)
  dsimp only
  refine wpAny_bind (wpAny_setEntries_of hoS hdS hf ?_)
  rw [if_neg (a7p _)]
  refine wpAny_bind (wpAny_seqItems h1 rfl ?_)
  dsimp only
  have hp:((qs.map fun j=>rawInt (j:Nat)).toArray)[(i:Int).toNat]? = some (rawInt (j:Nat)):=by
   rw [Int.toNat_natCast,List.getElem?_toArray,List.getElem?_map,hj]; rfl
  rw [hp]
  refine wpAny_bind (V3 hoS hdS hf (Array.getElem?_eq_getElem hjl) ?_)
  refine wpAny_bind (wpAny_setField hoI hdI (Nat.succ_lt_succ (Nat.zero_lt_succ _)) (wpAny_pure ⟨_,rfl,wpAny_pure (hQ _ _ (Heap.SameBut.update ..) ?_ (.lot h1 h2) fun u_ q=>q)⟩))
  exact ⟨_,Heap.get?_update_self _ hoI (Obj.isFreed_of_fields (Obj.data_mapFields hdI _)),(Obj.cls_mapFields ..).trans hcI,Obj.data_mapFields hdI _⟩
theorem b2z {Q:Option Value->Shared->Prop} (hh:A.handled = none) (h:∀ h',(∀ b o,s.heap.get? b = some o->h'.get? b = some o)->Q none { s with heap:=h' }) :
  wpAny (model prog w) A.in1 (do raiseNew (<- newExc (.type "StopIteration") []):Sem Fin) (fun fin s'=>∃ v,fin = Fin.done (Flow.ret v) /\ wpAny (model prog w) A (pure (some v)) Q E s') (fun e s'=>wpAny (model prog w) A (do if (<- isInstance e (.type "StopIteration")) then pure none else throw e) Q E s') s:=by
 refine wpAny_bind ?_
 simp only [newExc,newTuple]
 refine wpAny_bind (wpAny_newObj_type ?_ (by size_fits))
 refine wpAny_bind (m:=firstArgMember _ _) (wpAny_of_eq (a:=Value.none) (by first | rfl | (simp only [firstArgMember]; rfl)) ?_)
 refine wpAny_newObj_type ?_ (by size_fits)
 delta raiseNew
 refine wpAny_bind (wpAny_handled ?_)
 rw [show A.in1.handled = none from hh]
 refine wpAny_bind (wpAny_pure (wpAny_throw ?_))
 refine wpAny_bind (wpAny_isInstance (T := "StopIteration") (b:=true) ⟨_,Heap.get?_push_size _ rfl,rfl⟩ isSubtype_stop ?_)
 exact wpAny_pure (h _ fun b o q=>Heap.get?_push_of_some _ (Heap.get?_push_of_some _ q))
theorem V4 {slot i:Nat} {Q:Option Value->Shared->Prop} (hh:A.handled = none) (hS:SAt s.heap S es ep t) (hf:t.fits es.size = true) (hI:SIt s.heap I S (.int (slot:Nat) 0) i es.size ep) (hN:d4g prog w s S slot i ep none)
  (hQ:∀ h',Heap.ExtBut I s.heap h'->Q none { s with heap:=h' }):wpAny (model prog w) A (pyNext (.ref I)) Q E s:=by
 refine a1m hI ?_
 obtain ⟨oS,hoS,hcS,hdS⟩:=hS
 obtain ⟨oI,hoI,hcI,hdI⟩:=hI
 unfold Builtin.«set_iterator.__next__»
 refine wpAny_bind (wpAny_of_eq (a:=(Value.ref I,[])) rfl ?_)
 dsimp only
 refine wpAny_bind (wpAny_fieldsOf hoI hdI ?_)
 dsimp only
 refine wpAny_bind (wpAny_setEntries_of hoS hdS hf ?_)
 rw [if_neg (a7p _)]
 refine wpAny_bind (hN ?_)
 refine wpAny_bind (wpAny_setField hoI hdI (Nat.succ_lt_succ (Nat.succ_lt_succ (Nat.zero_lt_succ _))) ?_)
 exact b2z hh fun h' hk=>hQ h' fun b o hb e=>hk b o ((Heap.get?_update_other _ _ (Ne.symm hb)).trans e)
theorem c0z {first:Value} {i:Nat} {ord:List Value} {Q:Option Value->Shared->Prop} (hh:A.handled = none) (hS:SAt s.heap S es ep t) (hf:t.fits es.size = true) (hI:SIt s.heap I S first i es.size ep) (hm:SMode w es ep t S s.heap first i ord) (hi:i = es.size)
  (hQ:∀ h',Heap.ExtBut I s.heap h'->Q none { s with heap:=h' }):wpAny (model prog w) A (pyNext (.ref I)) Q E s:=by
 revert hI hi
 obtain ⟨oS,hoS,hcS,hdS⟩:=id hS
 refine hm.elim (fun slot i hb hI hi=>?_) (fun i hb hp hu hl hI hi=>?_) fun p i n qs h1 h2 hI hi=>?_
 ·exact V4 hh hS hf hI (fun q=>V2 hb hoS hdS hf (by rw [<- Array.getElem?_toList,List.getElem?_eq_none (by rw [(a7n _ _).length_eq,Array.length_toList]; exact Nat.le_of_eq hi.symm)]; exact q)) hQ
 ·exact V4 hh hS hf hI (fun q=>R5 hb hp hu hl hoS hdS hf (Nat.le_of_eq hi) (by rw [Array.getElem?_eq_none (Nat.le_of_eq hi.symm)]; exact q)) hQ
 ·refine a1m hI ?_
  obtain ⟨oI,hoI,hcI,hdI⟩:=hI
  unfold Builtin.«set_iterator.__next__»
  refine wpAny_bind (wpAny_of_eq (a:=(Value.ref I,[])) rfl ?_)
  dsimp only
  refine wpAny_bind (wpAny_fieldsOf hoI hdI ?_)
  dsimp only
  refine wpAny_bind (wpAny_setEntries_of hoS hdS hf ?_)
  rw [if_neg (a7p _)]
  refine wpAny_bind (wpAny_seqItems h1 rfl ?_)
  dsimp only
  have hp:((qs.map fun j=>rawInt (j:Nat)).toArray)[(i:Int).toNat]? = none:=by
   rw [Int.toNat_natCast,List.getElem?_toArray,List.getElem?_eq_none (by rw [List.length_map,h2.length_eq,List.length_range]; exact Nat.le_of_eq hi.symm)]
  rw [hp]
  refine wpAny_bind (wpAny_setField hoI hdI (Nat.zero_lt_succ _) ?_)
  refine wpAny_bind (wpAny_setField (Heap.get?_update_self _ hoI (Obj.isFreed_of_fields (Obj.data_mapFields hdI _))) (Obj.data_mapFields hdI _) (Nat.succ_lt_succ (Nat.succ_lt_succ (Nat.zero_lt_succ _))) ?_)
  exact b2z hh fun h' hk=>hQ h' fun b o hb e=>hk b o ((Heap.get?_update_other _ _ (Ne.symm hb)).trans ((Heap.get?_update_other _ _ (Ne.symm hb)).trans e))
theorem a9z {src:Source} {n:Nat} {Q:Nat->Shared->Prop} (hn:n ≠ 0) (h:∀ k d,k < n->Q k { s with drawn:=d }):wpAny (model prog w) A (choose src n) Q E s:=fun Γ p hΓ=>by
 unfold choose
 rw [Sem.wp_choose]
 exact ⟨hn,h _ _ (Nat.mod_lt _ (Nat.pos_of_ne_zero hn))⟩
theorem R6 {α:Type} {R:Shared->Prop} {s0:Shared}:∀ (n:Nat) (xs:List α) (s:Shared) (Q:List α->Shared->Prop),xs.length = n->(∃ d,s = { s0 with drawn:=d })->(∀ ys d,ys.Perm xs->Q ys { s0 with drawn:=d })->wpAny (model prog w) A (drawOrder n xs) Q E s
 | 0,xs,s,Q,h,⟨d,hs⟩,k=>by
  obtain rfl:=List.length_eq_zero_iff.mp h
  subst hs
  exact wpAny_pure (k _ d (.refl _))
 | n + 1,[],s,Q,h,_,k=>nomatch h
 | n + 1,x :: xs,s,Q,h,⟨d,hs⟩,k=>by
  subst hs
  refine wpAny_bind (m:=choose .order _) (a9z (Nat.succ_ne_zero _) fun i d' hi=>?_)
  rw [List.getElem?_eq_getElem hi]
  dsimp only
  refine wpAny_bind (R6 (R:=R) n _ _ _ (by rw [List.length_eraseIdx,if_pos hi]; rw [h]; rfl) ⟨d',rfl⟩ fun ys d2 hp=>wpAny_pure (k _ d2 ((hp.cons _).trans (X9 hi))))
end
end
section
set_option maxRecDepth 100000
theorem R7:Slot "set_iterator" "__iter__" "set_iterator.__iter__" :=
 .of (owner := "set_iterator") (n := "__iter__") (by rw [typeLookup_type,builtinLookup_eq_fast]; kernel_rfl) (by decide +kernel) (by decide +kernel) (by decide +kernel)
  (by first | exact .inl (by decide +kernel) | exact .inr (by decide +kernel)) (by rw [isSubtype_type]; kernel_rfl)
theorem a1n (a:Value):argsOk "set_iterator.__iter__" ⟨[a],[]⟩:=by unfold argsOk; kernel_rfl
theorem Z4:entryFor table "set_iterator.__iter__" = some Builtin.«dict_keyiterator.__iter__»:=
 entryFor_alias (id' := "dict_keyiterator.__iter__") (by kernel_rfl) (by first | rfl | decide +kernel | (unfold String.splitOn; simp +decide [String.splitOnAux])) (by decide +kernel) (by kernel_rfl)
section
variable {prog:Program} {w:World} {A:Around} {E:Value->Shared->Prop} {s:Shared} {es:Array (Int × Value)} {ep:Nat} {t:SetTable} {S I:Addr}
theorem b0a {Q:Value->Shared->Prop} (hS:SAt s.heap S es ep t) (hf:t.fits es.size = true) (hu:Up t.place) (hl:t.led = !byT w) (hz:es.size <= sizeLine)
  (hQ:∀ I h' d first ord,(∀ b o,s.heap.get? b = some o->h'.get? b = some o)->s.heap.get? I = none->SIt h' I S first 0 es.size ep->SMode w es ep t S h' first 0 ord->(∀ p,first = .ref p->p ≠ I /\ s.heap.get? p = none)->ord.Perm (es.toList.map (·.2))->Q (.ref I) { s with heap:=h',drawn:=d }) :
  wpAny (model prog w) A (pyIter (.ref S)) Q E s:=by
 obtain ⟨o,ho,hc,hd⟩:=hS
 have hT:s.TypeIs (.ref S) "set" := ⟨o,ho,hc⟩
 refine wpAny_pyIter_slot hT PySem.F.slot_set_iter (wpAny_call_entry PySem.F.slot_set_iter hT Z3 ?_ (a1l _))
 unfold Builtin.«frozenset.__iter__»
 refine wpAny_bind (wpAny_of_eq (a:=S) rfl ?_)
 refine wpAny_bind ?_
 unfold Builtin.Frozenset.sizeOf
 refine wpAny_bind (wpAny_setEntries_of ho hd hf (wpAny_pure ?_))
 refine wpAny_bind ?_
 unfold setDrawn
 refine wpAny_bind (wpAny_setState_of ho hd hf ?_)
 dsimp only
 refine wpAny_bind (P3 (wpAny_pure ?_))
 have fin:∀ {s1:Shared} {first:Value} {ord:List Value} {d:Drawn},(∃ h1,s1 = { s with heap:=h1,drawn:=d } /\ (∀ b o,s.heap.get? b = some o->h1.get? b = some o) /\ SMode w es ep t S h1 first 0 ord /\ (∀ p,first = .ref p->s.heap.get? p = none /\ ∃ q,h1.get? p = some q))->ord.Perm (es.toList.map (·.2))->
   wpAny (model prog w) A.in1 (do let e <- setEpoch S; let r <- newFields "set_iterator" [first,rawInt 0,.ref S,rawInt (es.size:Nat),rawInt (e:Nat)]; ret r) (fun fin s'=>∃ v,fin = Fin.done (Flow.ret v) /\ ∃ T' r,s'.TypeIs v T' /\ typeLookup (Value.type T') (Str.ofString "__next__") = pure (some r) /\ Q v s') E s1:=fun {s1 first ord d} h hp=>by
  obtain ⟨h1,rfl,k1,k2,k3⟩:=h
  unfold setEpoch
  refine wpAny_bind (wpAny_bind (wpAny_setState_of (k1 _ _ ho) hd hf (wpAny_pure ?_)))
  unfold newFields
  refine wpAny_bind (wpAny_newObj_type (wpAny_pure ⟨_,rfl, "set_iterator",_,⟨_,Heap.get?_push_size _ rfl,rfl⟩,slot_sit_next.lookup,?_⟩))
  refine hQ _ _ d first ord (fun b o e=>Heap.get?_push_of_some _ (k1 b o e)) ?_ ⟨_,Heap.get?_push_size _ rfl,rfl,rfl⟩ ?_ (fun p q=>⟨fun w=>?_,(k3 p q).1⟩) hp
  ·cases q:s.heap.get? h1.objs.size with
   | none=>rfl
   | some o=>exact absurd (Heap.lt_size (k1 _ _ q)) (Nat.lt_irrefl _)
  ·cases k2 with
   | text hb=>exact .text hb
   | plain a b c d=>exact .plain a b c d
   | lot a b=>exact .lot (Heap.get?_push_of_some _ a) b
  ·obtain ⟨_,o,q2⟩:=k3 p q
   exact absurd (Heap.lt_size q2) (by rw [w]; exact Nat.lt_irrefl _)
 cases hb:byT w with
 | true=>
  rw [if_neg (by simp)]
  refine wpAny_bind (wpAny_pure ?_)
  exact fin ⟨s.heap,rfl,fun u_ u_ e=>e,.text (slot:=0) hb,fun u_ q=>nomatch q⟩ ((a7n _ _).map _)
 | false=>
  by_cases hp:(!t.plain && decide (es.size > 1)) = true
  ·show wpAny _ _ (if (!false && (!t.plain && decide (es.size > 1))) = true then _ else _) _ _ _
   rw [if_pos (show (!false && (!t.plain && decide (es.size > 1))) = true from hp)]
   refine wpAny_bind (R6 (R:=fun u_=>True) (s0:=s) es.size _ _ _ List.length_range ⟨s.drawn,rfl⟩ fun qs d hq=>?_)
   refine wpAny_bind (wpAny_newTuple ?_ (by rw [List.length_map,hq.length_eq,List.length_range]; exact hz))
   refine fin (d:=d) ⟨_,rfl,fun b o e=>Heap.get?_push_of_some _ e,.lot (qs:=qs) (n:=0) (Heap.get?_push_size _ rfl) hq,fun p q=>?_⟩ ?_
   ·cases q
    exact ⟨Heap.get?_none_of_le (Nat.le_refl _),_,Heap.get?_push_size _ rfl⟩
   ·refine (hq.map _).trans (.of_eq ?_)
    refine List.ext_getElem (by simp) fun i h1 h2=>?_
    have hi:i < es.size:=by simpa using h1
    simp [Array.getD,hi]
  ·have hp:(!t.plain && decide (es.size > 1)) = false:=by simpa using hp
   show wpAny _ _ (if (!false && (!t.plain && decide (es.size > 1))) = true then _ else _) _ _ _
   rw [if_neg (show ¬ (!false && (!t.plain && decide (es.size > 1))) = true from by rw [hp]; exact Bool.false_ne_true)]
   refine wpAny_bind (wpAny_pure ?_)
   exact fin ⟨s.heap,rfl,fun u_ u_ e=>e,.plain (i:=0) hb hp hu (by rw [hl,hb]; rfl),fun u_ q=>nomatch q⟩ (.refl _)
theorem SMode.at {h h':Heap} {first:Value} {i:Nat} {ord:List Value} (x:SMode w es ep t S h first i ord) (k:∀ p,first = .ref p->∀ o,h.get? p = some o->h'.get? p = some o):SMode w es ep t S h' first i ord:=by
 cases x with
 | text hb=>exact .text hb
 | plain a b c d=>exact .plain a b c d
 | lot a b=>exact .lot (k _ rfl _ a) b
theorem b5y (hh:A.handled = none) (hf:t.fits es.size = true) {pl:List Addr} {ord:List Value} (ho:ord.length = es.size) (hIS:S ≠ I) :
  WalksS prog w A I (I :: S :: pl) [I] (fun a b=>b = a) es.size (fun i v=>ord[i]? = some v) (fun i s=>SAt s.heap S es ep t /\ ∃ first,SIt s.heap I S first i es.size ep /\ SMode w es ep t S s.heap first i ord /\ ∀ p,first = .ref p->p ∈ pl /\ p ≠ I) where
 sub:=fun b m=>by rw [List.mem_singleton.mp m]; exact .head _
 grefl:=fun u_=>rfl
 gtrans:=fun u_ u_ u_ h1 h2=>h2.trans h1
 frame:=fun i s h' tk st u_ hk=>by
  obtain ⟨⟨o,a1,a2⟩,first,⟨o2,b1,b2⟩,c,d⟩:=st
  exact ⟨⟨o,hk S (.tail _ (.head _)) o a1,a2⟩,first,⟨o2,hk I (.head _) o2 b1,b2⟩,c.at fun p q=>hk p (.tail _ (.tail _ (d p q).1)),d⟩
 item:=fun i s Q E hi st hQ=>by
  obtain ⟨a,first,b,c,d⟩:=st
  refine c0y a hf b c (List.getElem?_eq_getElem (by rw [ho]; exact hi)) fun h' first' hs b' c' e=>?_
  refine hQ _ _ (List.getElem?_eq_getElem _) ⟨let ⟨o,a1,a2⟩:=a; ⟨o,(hs.2 S hIS).trans a1,a2⟩,first',b',c'.at fun p q o e2=>(hs.2 p (d p (e p q)).2).trans e2,fun p q=>d p (e p q)⟩ ⟨fun x o m e2=>(hs.2 x fun q=>m (q ▸ .head _)).trans e2,rfl,rfl,rfl,Nat.le_refl _⟩
 done:=fun s Q E st hQ=>by
  obtain ⟨a,first,b,c,d⟩:=st
  exact c0z hh a hf b c rfl fun h' hk=>hQ _ ⟨fun x o m e2=>hk x o (fun q=>m (q ▸ .head _)) e2,rfl,rfl,rfl,Nat.le_refl _⟩
 self:=fun i s Q E st hQ=>by
  obtain ⟨a,first,b,c,d⟩:=st
  refine wpAny_pyIter_slot b.typeIs R7 (wpAny_call_entry R7 b.typeIs Z4 ?_ (a1n _))
  show wpAny _ _ (ret (.ref I)) _ _ s
  exact wpAny_pure ⟨_,rfl, "set_iterator",_,b.typeIs,slot_sit_next.lookup,hQ⟩
theorem a3v:typeLookup (.type "set") "__len__" = pure (some (.builtin "set.__len__")):=by rw [typeLookup_type,builtinLookup_eq_fast]; kernel_rfl
theorem b0b:isSubtype (.type "set") (.type "set") = pure true:=by rw [isSubtype_type]; kernel_rfl
theorem a7q {Q:List Value->Shared->Prop} (hh:A.handled = none) (hS:SAt s.heap S es ep t) (hf:t.fits es.size = true) (hu:Up t.place) (hl:t.led = !byT w) (hz:es.size <= sizeLine)
  (hQ:∀ s' ord,(∀ b o,s.heap.get? b = some o->s'.heap.get? b = some o)->s'.gens = s.gens->s'.os = s.os->ord.Perm (es.toList.map (·.2))->Q ord s') :
  wpAny (model prog w) A (collect (.ref S)) Q E s:=by
 unfold collect
 refine wpAny_bind (wpAny_runValue (codeAny_builtin entry_proto_collect' ?_))
 show wpAny _ _ (do again (.builtin "list.__iadd__" ⟨[<- newList [],.ref S],[]⟩)) _ _ s
 refine wpAny_bind (wpAny_newList ?_ (Nat.zero_le _))
 refine wpAny_pure ⟨Code.quiet_builtin _ (by decide +kernel),codeAny_builtin entry_list_iadd' ?_⟩
 show wpAny _ _ (Builtin.List.listExtendWith (.ref s.heap.objs.size) (.ref S) (.ref s.heap.objs.size)) _ _ _
 rw [Around.under_plainId PySem.F.plain_list_iadd _]
 unfold Builtin.List.listExtendWith
 generalize hb:s.heap.objs.size = L
 have hL0:s.heap.get? L = none:=hb ▸ Heap.get?_none_of_le (Nat.le_refl _)
 have hL1:(s.heap.push { cls:=.type "list",data:=.seq #[] }).get? L = some { cls:=.type "list",data:=.seq #[] }:=hb ▸ Heap.get?_push_size _ rfl
 have hk1:∀ b o,s.heap.get? b = some o->(s.heap.push { cls:=.type "list",data:=.seq #[] }).get? b = some o:=fun b o e=>Heap.get?_push_of_some _ e
 generalize s.heap.push { cls:=.type "list",data:=.seq #[] } = h1 at *
 obtain ⟨o,ho,hc,hd⟩:=hS
 have hLS:L ≠ S:=fun q=>by rw [q,ho] at hL0; cases hL0
 have hS1:SAt h1 S es ep t:=⟨o,hk1 _ _ ho,hc,hd⟩
 have hT1:Shared.TypeIs { s with heap:=h1 } (.ref S) "set" := ⟨o,hk1 _ _ ho,hc⟩
 refine wpAny_bind (wpAny_typeOf (T := "set") hT1 ?_)
 have e1:Builtin.List.listSameRef (.ref L) (.ref S) = false:=by simp [Builtin.List.listSameRef,hLS]
 have e2:(Value.type "set" == Value.type "list") = false:=by decide
 have e3:(Value.type "set" == Value.type "tuple") = false:=by decide
 rw [if_neg (by rw [e1,e2,e3]; exact Bool.false_ne_true)]
 refine wpAny_bind (b0a (s:={ s with heap:=h1 }) hS1 hf hu hl hz fun I h2 d first ord hk2 hI0 hI hm hfp hord=>?_)
 have hS2:SAt h2 S es ep t:=⟨o,hk2 _ _ (hk1 _ _ ho),hc,hd⟩
 have hT2:Shared.TypeIs { s with heap:=h2,drawn:=d } (.ref S) "set" := ⟨o,hk2 _ _ (hk1 _ _ ho),hc⟩
 refine wpAny_bind (wpAny_holding ?_)
 unfold Builtin.List.listLengthHint
 refine wpAny_bind (wpAny_specialOf hT2 a3v ?_)
 wp_delta
 refine wpAny_bind (wpAny_isInstance hT2 (b:=true) b0b ?_)
 show wpAny _ _ (typeOf (Value.ref S) >>= _) _ _ _
 refine wpAny_bind (wpAny_typeOf (T := "set") hT2 ?_)
 refine wpAny_pure ?_
 dsimp only
 rw [if_pos (by decide)]
 refine wpAny_bind (wpAny_rule ?_)
 unfold Builtin.List.listTouch
 have hL2:=hk2 _ _ hL1
 have upd:∀ (h:Heap) (xs:Array Value) (n:Nat) (f:Array Value->Array Value),h.get? L = some { cls:=.type "list",data:=.seq xs n }->∃ n',(h.update L (Obj.mapSeq f)).get? L = some { cls:=.type "list",data:=.seq (f xs) n' } /\ ∀ b o,b ≠ L->h.get? b = some o->(h.update L (Obj.mapSeq f)).get? b = some o:=fun h xs n f e=>
  ⟨_,get?_update_seq e f,fun b o q e2=>(Heap.get?_update_other _ _ (Ne.symm q)).trans e2⟩
 refine wpAny_bind (wpAny_bind (listUpdate_at hL2 rfl ?_ (Nat.zero_le _) (by rw [sizeLine_eq]; simp)))
 obtain ⟨n3,hL3,hk3⟩:=upd h2 _ _ (·.push .none) hL2
 generalize h2.update L (Obj.mapSeq (·.push .none)) = h3 at *
 refine listUpdate_at hL3 rfl ?_ (by rw [sizeLine_eq]; simp) (by rw [sizeLine_eq]; simp)
 obtain ⟨n4,hL4,hk4⟩:=upd h3 _ _ (·.pop) hL3
 generalize h3.update L (Obj.mapSeq (·.pop)) = h4 at *
 have kk:∀ b o,b ≠ L->h2.get? b = some o->h4.get? b = some o:=fun b o q e=>hk4 b o q (hk3 b o q e)
 have hLI:L ≠ I:=fun q=>by rw [<- q,show (Shared.heap { s with heap:=h1 }).get? L = _ from hL1] at hI0; cases hI0
 have hSI:S ≠ I:=fun q=>by rw [<- q,show (Shared.heap { s with heap:=h1 }).get? S = _ from hk1 _ _ ho] at hI0; cases hI0
 have hLp:∀ p,first = .ref p->p ≠ L:=fun p q w=>by have:=(hfp p q).2; rw [w,show (Shared.heap { s with heap:=h1 }).get? L = _ from hL1] at this; cases this
 obtain ⟨pl,hpl,hpL⟩ : ∃ pl:List Addr,(∀ p,first = .ref p->p ∈ pl) /\ L ∉ pl:=by
  cases hf':first with
  | ref p=>exact ⟨[p],fun q e=>by cases e; exact .head _,fun m=>hLp p hf' (List.mem_singleton.mp m).symm⟩
  | _=>exact ⟨[],(fun q e=>nomatch e),fun m=>nomatch m⟩
 have hlen:ord.length = es.size:=by rw [hord.length_eq,List.length_map,Array.length_toList]
 refine wpAny_pure ⟨Code.quiet_builtin _ (by decide +kernel),codeAny_extend_loopS (b5y (A:=A.in1) (pl:=pl) (I:=I) hh hf hlen hSI) hz L (fun m=>?_) (.ref L) es.size 0 _ #[] n4 rfl (Nat.zero_le _) ⟨let ⟨o,a,b⟩:=hS2; ⟨o,kk _ _ (Ne.symm hLS) a,b⟩,first,let ⟨o,a,b⟩:=hI; ⟨o,kk _ _ (Ne.symm hLI) a,b⟩,hm.at fun p q o e=>kk p o (hLp p q) e,fun p q=>⟨hpl p q,(hfp p q).1⟩⟩ hL4 (ItemsOf.nil _) fun s' acc' c' hmv hL5 hit=>?_⟩
 ·rcases List.mem_cons.mp m with q | m
  ·exact hLI q
  ·rcases List.mem_cons.mp m with q | m
   ·exact hLS q
   ·exact hpL m
 ·refine wpAny_bind (wpAny_load hL5 ?_)
  have e:acc'.toList = ord:=List.ext_getElem? fun i=>by
   rw [Array.getElem?_toList]
   cases q:acc'[i]? with
   | none=>rw [List.getElem?_eq_none]; rw [hlen,<- hit.1]; exact Array.getElem?_eq_none_iff.mp q
   | some v=>exact (hit.2 i v q).symm
  refine wpAny_pure ?_
  show Q acc'.toList s'
  rw [e]
  refine hQ s' ord (fun b o e=>hmv.heap b o (fun m=>?_) (kk b o (fun q=>?_) (hk2 b o (hk1 b o e)))) hmv.gens hmv.os hord
  ·rcases List.mem_cons.mp m with q | m
   ·rw [q,hL0] at e; cases e
   ·have:s.heap.get? I = none:=by
     cases w:s.heap.get? I with
     | none=>rfl
     | some o=>rw [show (Shared.heap { s with heap:=h1 }).get? I = _ from hk1 _ _ w] at hI0; cases hI0
    rw [List.mem_singleton.mp m,this] at e; cases e
  ·rw [q,hL0] at e; cases e
end
end
section
set_option maxRecDepth 100000
section
variable {prog:Program} {w:World} {A:Around} {E:Value->Shared->Prop} {s:Shared}
theorem a3w (a:Value) {Q:Value->Shared->Prop} (h:Q (.ref s.heap.objs.size) { s with heap:=s.heap.push { cls:=.type "set",dict:=none,data:=.set #[] 0 (.fresh 0 0 (!byT w)) } }) :
  codeAny (model prog w) A (.call (.builtin "set.__new__") ⟨[.type "set",a],[]⟩) (wants Q E) s:=by
 refine codeAny_of_tree ?_
 show wpAny _ A.in1 (do checkBuiltinCall "set.__new__" ⟨[.type "set",a],[]⟩; again (.builtin "set.__new__" ⟨[.type "set",a],[]⟩)) _ _ s
 refine wpAny_bind (wpAny_of_eq (PySem.F.newCall_set_1 a) (wpAny_pure ⟨plainId_quiet PySem.F.plain_set_new _,codeAny_builtin PySem.F.entry_set_new ?_⟩))
 rw [Around.under_plainId PySem.F.plain_set_new _]
 unfold Builtin.«set.__new__» Builtin.Frozenset.newClass
 have hsub:=sub_set_self
 obtain ⟨hp,g,d,tk,os⟩:=s
 dsimp only
 wp_walk
 refine wpAny_askSetting (wpAny_pure ?_)
 dsimp only
 simp only [newObj]
 exact wpAny_bind (wpAny_alloc (wpAny_pure (wpAny_pure h)))
set_option maxHeartbeats 3200000 in
theorem c1a {l S:Addr} {items:Array Value} {n0:Nat} {ns:List Int} {QF:Fin->Shared->Prop} (hh:A.handled = none) (hl:s.heap.get? l = some { cls:=.type "list",dict:=none,data:=.seq items n0,slots:=#[] })
  (hS:s.heap.get? S = some { cls:=.type "set",dict:=none,data:=.set #[] 0 (.fresh 0 0 (!byT w)) }) (hlS:l ≠ S) (hi:IntsAre items.toList ns) (hb:items.size + 1 < scanBound)
  (h:∀ (h':Heap) (tk:Nat),SetG prog w h' S (fun k'=>(firstMet (fun i=>ns.getD i 0) items.size).any (· == k')) (firstMet (fun i=>ns.getD i 0) items.size).length->
   (∀ b o,b ≠ S->s.heap.get? b = some o->h'.get? b = some o)->QF (.done (.ret .none)) { s with heap:=h',toks:=tk }) :
  wpAny (model prog w) A (Builtin.«set.__init__» ⟨[.ref S,.ref l],[]⟩) QF E s:=by
 have hT:s.TypeIs (.ref S) "set" := ⟨_,hS,rfl⟩
 have hl1:Heap.IsList s.heap l items:=⟨_,hl,rfl,n0,rfl⟩
 have hsls:=PySem.F.sub_list_set
 have hslf:=PySem.F.sub_list_frozenset
 unfold Builtin.«set.__init__» noKeywords Builtin.Frozenset.updateFrom
 generalize hPI:pyIter = PI
 wp_walk
 subst hPI
 refine wpAny_pyIter_list hl1 ?_
 refine wpAny_bind (wpAny_runValue ?_)
 show codeAny _ _ (Code.builtin "set.update.loop" ⟨[.ref S,.ref s.heap.objs.size],[]⟩) _ _
 have nI:∀ {b:Addr} {o:Obj},s.heap.get? b = some o->b ≠ s.heap.objs.size:=fun e q=>Nat.lt_irrefl _ (q ▸ Heap.lt_size e)
 refine d6l ((Walks.list (A:=A.in1) hh s.heap.objs.size l (nI hl) items).toS) S (fun m=>?_) (fun i=>ns.getD i 0) (fun i v hv=>IntsAre.int_at hi i v (by rw [Array.getElem?_toList]; exact hv)) hb (items.size - 0) 0 _ rfl (Nat.zero_le _)
  ⟨⟨_,Heap.get?_push_size _ rfl,rfl,rfl⟩,⟨_,Heap.get?_push_of_some _ hl,rfl,n0,rfl⟩⟩ ⟨_,#[],0,_,Heap.get?_push_of_some _ hS,⟨rfl,rfl,rfl⟩,rfl,(fun u_ he=>by simp at he),(fun k=>by simp [firstMet_zero]),by unfold scanBound; decide,rfl,rfl,⟨.nil,rfl⟩,rfl⟩ fun s' hm hS'=>?_
 ·exact (List.mem_cons.mp m).elim (nI hS) fun m=>hlS (List.mem_singleton.mp m).symm
 ·obtain ⟨h',g',d',tk',os'⟩:=s'
  obtain rfl:g' = s.gens:=hm.gens
  obtain rfl:d' = s.drawn:=hm.drawn
  obtain rfl:os' = s.os:=hm.os
  show wpAny _ _ _ _ _ _
  refine wpAny_pure ?_
  show wpAny _ _ (ret Value.none) _ _ _
  exact wpAny_pure (h h' tk' hS' fun b o n e=>hm.heap b o (fun m=>(List.mem_cons.mp m).elim n fun m=>nI e (List.mem_singleton.mp m)) (Heap.get?_push_of_some _ e))
set_option maxHeartbeats 3200000 in
theorem b0c {l:Addr} {items:Array Value} {n0:Nat} {ns:List Int} {Q:Value->Shared->Prop}
  (hh:A.handled = none) (hl:s.heap.get? l = some { cls:=.type "list",dict:=none,data:=.seq items n0,slots:=#[] }) (hi:IntsAre items.toList ns) (hb:items.size + 1 < scanBound)
  (h:∀ (h':Heap) (tk:Nat),SetG prog w h' s.heap.objs.size (fun k'=>(firstMet (fun i=>ns.getD i 0) items.size).any (· == k')) (firstMet (fun i=>ns.getD i 0) items.size).length->
   (∀ b o,s.heap.get? b = some o->h'.get? b = some o)->Q (.ref s.heap.objs.size) { s with heap:=h',toks:=tk }) :
  wpAny (model prog w) A (call (.type "set") [.ref l]) Q E s:=by
 obtain ⟨c,tl,hmro⟩:=PySem.F.called_set.mro
 have hmade:=PySem.F.called_set.made
 have hsub:=PySem.F.called_set.sub
 refine wpAny_call (codeAny_of_tree ?_)
 show wpAny _ _ (callAny (.type "set") _) _ _ _
 refine wpAny_pure ⟨Code.quiet_builtin _ (by decide +kernel),codeAny_builtin PySem.F.entry_type_call ?_⟩
 rw [Around.under_plain (weight_type_call_type "set" [.ref l] []) rfl]
 have h1:=PySem.F.called_set.notType
 have h2:=PySem.F.called_set.canCreate
 have hct:=PySem.F.typeCall_set_1 (.ref l)
 repeat (any_goals (first | assumption | wp_step))
 refine codeAny_mono (a3w (.ref l) (E:=E) (Q:=fun obj s₁=>obj = .ref s.heap.objs.size /\ s₁ = { s with heap:=s.heap.push { cls:=.type "set",dict:=none,data:=.set #[] 0 (.fresh 0 0 (!byT w)) } }) ⟨rfl,rfl⟩) fun r s₁ hr=>?_
 cases r with
 | error e=>exact hr
 | ok fl=>
  cases fl with
  | ret obj=>
   obtain ⟨rfl,rfl⟩:=hr
   generalize hsz:s.heap.objs.size = S at *
   have hS:(s.heap.push { cls:=.type "set",dict:=none,data:=.set #[] 0 (.fresh 0 0 (!byT w)) }).get? S = some { cls:=.type "set",dict:=none,data:=.set #[] 0 (.fresh 0 0 (!byT w)) }:=hsz ▸ Heap.get?_push_size _ rfl
   have hSn:s.heap.get? S = none:=hsz ▸ Heap.get?_none_of_le (Nat.le_refl _)
   have hk1:∀ b o,s.heap.get? b = some o->(s.heap.push { cls:=.type "set",dict:=none,data:=.set #[] 0 (.fresh 0 0 (!byT w)) }).get? b = some o:=fun b o e=>Heap.get?_push_of_some _ e
   generalize hH:s.heap.push { cls:=.type "set",dict:=none,data:=.set #[] 0 (.fresh 0 0 (!byT w)) } = H at *
   have hT:Shared.TypeIs { s with heap:=H } (.ref S) "set" := ⟨_,hS,rfl⟩
   have hli:=PySem.F.called_set.init.lookup
   have hbi:=PySem.F.called_set.init.bind (.ref S)
   repeat (any_goals (first | assumption | wp_step))
   refine codeAny_mono (codeAny_call_builtin (R:=wants (fun r s₂=>r = .none /\ ∃ h' tk,s₂ = { s with heap:=h',toks:=tk } /\
     SetG prog w h' S (fun k'=>(firstMet (fun i=>ns.getD i 0) items.size).any (· == k')) (firstMet (fun i=>ns.getD i 0) items.size).length /\
     ∀ b o,s.heap.get? b = some o->h'.get? b = some o) E) PySem.F.called_set.init.plain PySem.F.entry_set_init (check_set_init_1 hT ?_)) fun r₂ s₂ hr₂=>?_
   ·exact c1a (A:=A.in1.in1) hh (hk1 _ _ hl) hS (fun q=>by rw [q,hSn] at hl; cases hl) hi hb fun h' tk hG hk=>⟨rfl,h',tk,rfl,hG,fun b o e=>hk b o (fun q=>by rw [q,hSn] at e; cases e) (hk1 b o e)⟩
   ·cases r₂ with
    | error e=>exact hr₂
    | ok fl₂=>
     cases fl₂ with
     | ret r=>
      obtain ⟨rfl,h',tk,rfl,hS',hk'⟩:=hr₂
      repeat (any_goals (first | assumption | wp_step))
      exact h _ _ hS' hk'
     | _=>exact hr₂.elim
  | _=>exact hr.elim
theorem b5z:∀ {us vs:List Value},us.Perm vs->∀ {ns:List Int},IntsAre vs ns->∃ ms,IntsAre us ms /\ ms.Perm ns:=fun {us vs} h=>by
 induction h with
 | nil=>exact fun h=>⟨_,h,.refl _⟩
 | cons x _ ih=>
  intro ns h
  cases h with
  | cons n t h=>
   obtain ⟨ms,h1,h2⟩:=ih h
   exact ⟨_,.cons n t h1,h2.cons _⟩
 | swap x y l=>
  intro ns h
  cases h with
  | cons n t h=>
   cases h with
   | cons m u h=>exact ⟨_,.cons m u (.cons n t h),.swap _ _ _⟩
 | trans _ _ ih1 ih2=>
  intro ns h
  obtain ⟨ms,h1,h2⟩:=ih2 h
  obtain ⟨ks,h3,h4⟩:=ih1 h1
  exact ⟨ks,h3,h4.trans h2⟩
theorem a7r:∀ l m:List Int,l.Perm m->l.Pairwise (· <= ·)->m.Pairwise (· <= ·)->l = m
 | [],m,h,_,_=>h.nil_eq
 | a :: l,[],h,_,_=>nomatch h.length_eq
 | a :: l,b :: m,h,hl,hm=>by
  obtain ⟨v1,v2⟩:=List.pairwise_cons.mp hl
  obtain ⟨w1,w2⟩:=List.pairwise_cons.mp hm
  have ab:a = b:=by
   rcases List.mem_cons.mp (h.mem_iff.mp (.head _)) with q | q
   ·exact q
   ·rcases List.mem_cons.mp (h.mem_iff.mpr (.head _)) with q2 | q2
    ·exact q2.symm
    ·exact Int.le_antisymm (v1 b q2) (w1 a q)
  subst ab
  rw [a7r l m ((List.perm_cons a).mp h) v2 w2]
theorem a7s {H:Heap} {L:Addr} {vs:List Value} {out:Array Value} {n:Nat} (h:H.get? L = some (seqObj "list" vs.toArray n)):∃ c,(sortedHeap H L vs out).get? L = some (seqObj "list" out c) /\ ∀ b o,b ≠ L->H.get? b = some o->(sortedHeap H L vs out).get? b = some o:=by
 unfold sortedHeap
 have e1:=get?_update_seq h (fun u_=>#[])
 have e2:=Heap.get?_push_of_some (seqObj "list" #[] 0) (Heap.get?_push_of_some (seqObj "tuple" vs.toArray 0) e1)
 refine ⟨_,get?_update_seq e2 (fun u_=>out),fun b o q e=>(Heap.get?_update_other _ _ (Ne.symm q)).trans (Heap.get?_push_of_some _ (Heap.get?_push_of_some _ ((Heap.get?_update_other _ _ (Ne.symm q)).trans e)))⟩
theorem b0d {S:Addr} {es:Array (Int × Value)} {ep:Nat} {t:SetTable} {us:List Int} {Q:Value->Shared->Prop} (hh:A.handled = none) (hS:SAt s.heap S es ep t) (hf:t.fits es.size = true) (hu:Up t.place) (hl:t.led = !byT w) (h64:es.size < 64)
  (hi:∃ ns,IntsAre (es.toList.map (·.2)) ns /\ ns.Perm us) (hs:us.Pairwise (· <= ·))
  (h:∀ a s' out,(∀ b o,s.heap.get? b = some o->s'.heap.get? b = some o)->s.heap.get? a = none->s'.gens = s.gens->s'.os = s.os->(∃ c,s'.heap.get? a = some { cls:=.type "list",data:=.seq out.toArray c })->IntsAre out us->Q (.ref a) s') :
  wpAny (model prog w) A (call (.builtin "sorted") [.ref S]) Q E s:=by
 refine Calls.call_function_entry kind_sorted plain_sorted entry_sorted (args_sorted1 _) ?_
 unfold Builtin.«sorted»
 refine wpAny_bind (m:=checkCount "sorted" 1 1 _) (wpAny_pure ?_)
 refine wpAny_bind (a7q hh hS hf hu hl (by rw [sizeLine_eq]; lia) fun s1 ord hk hg ho hp=>?_)
 obtain ⟨ns,h1,h2⟩:=hi
 obtain ⟨ns1,h3,h4⟩:=b5z hp h1
 have hlen:ord.length < 64:=by rw [hp.length_eq,List.length_map,Array.length_toList]; exact h64
 refine wpAny_bind (wpAny_newList ?_ (by rw [sizeLine_eq]; lia))
 have hoL:(s1.heap.push (seqObj "list" ord.toArray 0)).get? s1.heap.objs.size = some (seqObj "list" ord.toArray 0):=Heap.get?_push_size _ rfl
 refine wpAny_bind (wpAny_holding (wpAny_call_entry slot_list_sort ⟨_,hoL,rfl⟩ entry_list_sort (list_sort_tree hoL h3 hlen fun out ns' a1 a2 a3=>⟨_,rfl,?_⟩) (args_list_sort _)))
 have hn:s.heap.get? s1.heap.objs.size = none:=by
  cases q:s.heap.get? s1.heap.objs.size with
  | none=>rfl
  | some o=>exact absurd (Heap.lt_size (hk _ _ q)) (Nat.lt_irrefl _)
 have e:ns' = us:=a7r _ _ (a2.trans (h4.trans h2)) a3 hs
 subst e
 have hkH:∀ b o,b ≠ s1.heap.objs.size->s1.heap.get? b = some o->(s1.heap.push (seqObj "list" ord.toArray 0)).get? b = some o:=fun b o u_ e=>Heap.get?_push_of_some _ e
 generalize s1.heap.objs.size = L at *
 generalize s1.heap.push (seqObj "list" ord.toArray 0) = H at *
 obtain ⟨c,q1,q2⟩:=a7s (vs:=ord) (out:=out) hoL
 refine wpAny_pure ⟨_,rfl,h L _ out.toList (fun b o e=>q2 b o (fun w=>?_) (hkH b o (fun w=>?_) (hk b o e))) hn hg ho ⟨c,?_⟩ a1⟩
 ·rw [w,hn] at e; cases e
 ·rw [w,hn] at e; cases e
 ·exact q1
end
end
section
set_option maxRecDepth 100000
theorem Ok.heap {B:Base} {lay:List Loc} {P:Addr->Prop} {nl:Nat} {A:List (List Addr)} {st:St} {s s':Shared} (ok:Ok B lay P nl A st s) (e:s.heap = s'.heap):Ok B lay P nl A st s':=by
 obtain ⟨h,g,d,tk,os⟩:=s
 obtain ⟨h',g',d',tk',os'⟩:=s'
 obtain rfl:h = h':=e
 exact ⟨ok.base,ok.baseM,ok.frs,ok.len,ok.slots,ok.sep,ok.lenA,ok.dimA,ok.objs,ok.inj,ok.layA,ok.disP,ok.alive,ok.rlen,ok.lvl⟩
theorem c1b {w:Wd} {lv:Nat} {vs:List Value} {is:List Int} (h:IntsAre vs is):RelL w lv vs (is.map .int):=by
 induction h with
 | nil=>exact .nil
 | cons n t _ ih=>exact .cons .int ih
theorem V5 (val:Nat->Int):∀ i,(firstMet val i).Nodup
 | 0=>.nil
 | i + 1=>by
  rw [firstMet_succ]
  unfold step_dedup
  split
  ·exact V5 val i
  ·rename_i h
   refine List.nodup_append.mpr ⟨V5 val i,List.pairwise_singleton ..,fun a ha b hb e=>h ?_⟩
   rw [List.mem_singleton.mp hb] at e
   exact List.any_eq_true.mpr ⟨a,ha,by rw [e]; exact beq_self_eq_true _⟩
theorem a7t:∀ {fm ns:List Int},fm.Nodup->(∀ k ∈ fm,k ∈ ns)->ns.length = fm.length->ns.Perm fm
 | [],ns,_,_,h=>by rw [List.length_eq_zero_iff.mp h]
 | a :: f,ns,hn,hm,h=>by
  obtain ⟨h1,h2⟩:=List.nodup_cons.mp hn
  have ha:=hm a (.head _)
  refine (List.perm_cons_erase ha).trans (.cons a (a7t h2 (fun k hk=>?_) ?_))
  ·exact (List.mem_erase_of_ne fun (e:k = a)=>h1 (e ▸ hk)).mpr (hm k (.tail _ hk))
  ·rw [List.length_erase_of_mem ha,h]; rfl
theorem R8 {prog:Program} {w:World}:∀ {es:List (Int × Value)},ElemsOf (iK prog w) es->∃ ns,IntsAre (es.map (·.2)) ns /\ ∀ k,(∃ e ∈ es,(iK prog w).is k e.2 = true)->k ∈ ns
 | [],_=>⟨[],.nil,fun k ⟨e,h,_⟩=>nomatch h⟩
 | e :: es,h=>by
  obtain ⟨⟨k,hk,_⟩,_⟩:=h e (.head _)
  obtain ⟨t,ht⟩:=Value.isInt_shape hk
  obtain ⟨ns,h1,h2⟩:=R8 fun e m=>h e (.tail _ m)
  refine ⟨k :: ns,by rw [List.map_cons,ht]; exact .cons _ _ h1,fun k' ⟨e',m,q⟩=>?_⟩
  rcases List.mem_cons.mp m with rfl | m
  ·obtain ⟨t',ht'⟩:=Value.isInt_shape q
   rw [ht] at ht'
   cases ht'
   exact .head _
  ·exact .tail _ (h2 k' ⟨e',m,q⟩)
theorem c1c:∀ {vs:List Value} {ns:List Int},IntsAre vs ns->ns.length = vs.length:=fun h=>by
 induction h with
 | nil=>rfl
 | cons _ _ _ ih=>exact congrArg (· + 1) ih
theorem b6a {prog:Program} {w:World} {es:Array (Int × Value)} {is us:List Int} {n:Nat} (hel:ElemsOf (iK prog w) es.toList) (hmem:∀ k,(firstMet (fun i=>is.getD i 0) n).any (· == k) = true ↔ ∃ e ∈ es.toList,(iK prog w).is k e.2 = true)
  (hes:es.size = (firstMet (fun i=>is.getD i 0) n).length) (hz:n = is.length) (h5:us.Pairwise (· < ·)) (h6:∀ k,k ∈ us ↔ k ∈ is):∃ ns,IntsAre (es.toList.map (·.2)) ns /\ ns.Perm us:=by
 obtain ⟨ns,n1,n2⟩:=R8 hel
 refine ⟨ns,n1,?_⟩
 have nl:ns.length = es.size:=by rw [c1c n1,List.length_map,Array.length_toList]
 refine (a7t (V5 _ _) (fun k hk=>n2 k ((hmem k).mp (List.any_eq_true.mpr ⟨k,hk,beq_self_eq_true _⟩))) (nl.trans hes)).trans ?_
 refine (List.perm_ext_iff_of_nodup (V5 _ _) (h5.imp fun h=>Int.ne_of_lt h)).mpr fun k=>?_
 have key:=firstMet_any (fun i=>is.getD i 0) n k
 subst hz
 have e2:(List.range is.length).map (fun i=>is.getD i 0) = is:=List.ext_getElem (by rw [List.length_map,List.length_range]) fun i h1 h2=>by
  rw [List.getElem_map,List.getElem_range,List.getD_eq_getElem?_getD,List.getElem?_eq_getElem h2]; rfl
 rw [e2] at key
 have any_mem:∀ l:List Int,l.any (· == k) = true ↔ k ∈ l:=fun l=>List.any_eq_true.trans ⟨fun ⟨x,m,e⟩=>eq_of_beq e ▸ m,fun m=>⟨k,m,beq_self_eq_true k⟩⟩
 rw [h6,<- any_mem,<- any_mem,key]
section
variable {P:Pg} {st st1:St}
theorem d1o {e v vs} {is us:List Int} (h1:E P e st v st1) (h2:C7 st1 v = some vs) (h3:F5 vs = some is) (h4:is.length < 63) (h5:us.Pairwise (· < ·)) (h6:∀ k,k ∈ us ↔ k ∈ is) :
  E P (.call (.imm (.builtin "sorted")) [.call (.imm (.type "set")) [e] []] []) st (.lst (us.map .int)) st1:=E.of rfl fun c n e' h A s E ok=>W7 h fun x p as' ks' pos hf ha hk=>by
 obtain rfl:=D5 hk
 obtain ⟨a,_,rfl,ha1,hn⟩:=C2 ha
 cases D5 hn
 obtain ⟨d,hf⟩:=K4 hf
 have hx:c8z c.cx.gl x (.builtin "sorted") = true:=(cm hf).2
 refine wpAny_Call_Name_kw (L4 ok hx ?_)
 rw [X0 (Q1 ha1)]
 refine E0 rfl (Calls.evalArgs_plain (Calls.spliced_cons ?_))
 obtain ⟨d2,ha2⟩:=K4 ha1
 refine W7 ha2 fun y p2 bs ks2 pos2 hf2 hb hk2=>?_
 obtain rfl:=D5 hk2
 obtain ⟨b,_,rfl,hb1,hn2⟩:=C2 hb
 cases D5 hn2
 obtain ⟨d3,hf2⟩:=K4 hf2
 have hy:c8z c.cx.gl y (.type "set") = true:=(cm hf2).2
 refine wpAny_Call_Name_kw (L4 ok hy ?_)
 rw [X0 (Q1 hb1)]
 refine E0 rfl (Calls.evalArgs_plain (Calls.spliced_cons (Cf.go (h1.at hb1) ok fun u s1 A1 g1 ok1 r1=>Calls.spliced_nil ⟨b1q,?_⟩)))
 obtain ⟨l,its,k,rfl,hg,hr⟩:=D4 ok1 r1 h2
 obtain ⟨hi,hv⟩:=hr.toInts h3
 have hz:its.length = is.length:=by rw [hr.length,hv,List.length_map]
 refine b0c (items:=its.toArray) c.ao.handled hg (by simpa using hi) (by unfold scanBound; rw [List.size_toArray]; lia) fun h' tk hG hk'=>?_
 obtain ⟨ok2,g2⟩:=ok1.grow (tk:=tk) hk'
 obtain ⟨o,es,ep,t,ho,hex,hd,hG⟩:=hG
 obtain ⟨hel,hmem,hbs,hfit,hes,hrise,hled⟩:=hG
 refine Calls.spliced_nil ⟨.inl fun a e=>(nomatch e),?_⟩
 have hlen:=firstMet_length_le (fun i=>is.getD i 0) its.toArray.size
 have hlen:es.size <= its.length:=hes ▸ hlen
 refine b0d (us:=us) c.ao.handled ⟨o,ho,hex.1,hd⟩ hfit (c6r hrise.1) hled (by lia) ?_ (h5.imp fun h=>Int.le_of_lt h) fun a s' out hk3 hn3 hgens hos ⟨cc,hout⟩ hints=>?_
 ·exact b6a hel hmem hes (by rw [List.size_toArray]; exact hz) h5 h6
 ·obtain ⟨ok3,g3⟩:=ok2.grow (tk:=s'.toks) hk3
  have g4:Go c.lay A1 A1 { s1 with heap:=h',toks:=tk } s':=⟨g3.keep,g3.live,g3.same,g3.new,hgens,rfl,hos⟩
  refine ⟨A1,g1.trans (g2.trans g4),ok3.heap rfl,.lst (fun w=>?_) hout (c1b hints)⟩
  obtain ⟨o,e⟩:=ok2.alive a w
  rw [hn3] at e; cases e
end
end
section
noncomputable def G05:List (Str × Addr):=[("insort_right",23),("bisect_right",32),("insort_left",41),("bisect_left",50),("COMPILER_FLAG_NAMES",51),("pretty_flags",58),("_parse_varint",65),("Int2AP",72),("_law_cells",79),("_law_read",84),("_law_names",89),("_law_key",96),("law",101)]
noncomputable def d7u:List (Str × Value):=[("len",.builtin "len"),("abs",.builtin "abs"),("divmod",.builtin "divmod"),("hex",.builtin "hex"),("iter",.builtin "iter"),("next",.builtin "next"),("sum",.builtin "sum"),("min",.builtin "min"),("sorted",.builtin "sorted"),("bytes",.type "bytes"),("set",.type "set"),("int",.type "int"),("range",.type "range"),("enumerate",.type "enumerate"),("StopIteration",.type "StopIteration"),("ValueError",.type "ValueError")]
noncomputable def d9i (p:Pos):Bool:=match p.line with
 | 57=>true
 | 91=>true
 | 106=>true
 | 113=>decide (p.col = 19)
 | 122=>true
 | _=>false
noncomputable def H05:Hn:=⟨d9i,d3u G05 d7u,65⟩
noncomputable def S6:List MS:=[
 (.ite (.cmp (.slot 4) [.Is] [(.const .none)]) [(.assign (.slot 2) (.call (.imm (.ref 32)) [(.slot 0),(.slot 1),(.slot 2),(.slot 3)] []))] [(.assign (.slot 2) (.call (.imm (.ref 32)) [(.slot 0),(.call (.slot 4) [(.slot 1)] []),(.slot 2),(.slot 3)] [(("key" : Str),(.slot 4))]))]),
 (.expr (.meth (.slot 0) ("insert" : Str) [(.slot 2),(.slot 1)]))]
noncomputable def S7:Fn:={ addr:=23,np:=4,dfl:=[.int 0,.imm .none],key:=true,ns:=5,body:=S6 }
noncomputable def S8:List MS:=[
 (.ite (.cmp (.slot 2) [.Lt] [(.const (.int 0))]) [.fail] []),
 (.ite (.cmp (.slot 3) [.Is] [(.const .none)]) [(.assign (.slot 3) (.call (.imm (.builtin "len")) [(.slot 0)] []))] []),
 (.ite (.cmp (.slot 4) [.Is] [(.const .none)]) [(.whil (.cmp (.slot 2) [.Lt] [(.slot 3)]) [(.assign (.slot 5) (.bin .FloorDiv (.bin .Add (.slot 2) (.slot 3) false) (.const (.int 2)) false)),(.ite (.cmp (.slot 1) [.Lt] [(.sub (.slot 0) (.slot 5))]) [(.assign (.slot 3) (.slot 5))] [(.assign (.slot 2) (.bin .Add (.slot 5) (.const (.int 1)) false))])] [])] [(.whil (.cmp (.slot 2) [.Lt] [(.slot 3)]) [(.assign (.slot 5) (.bin .FloorDiv (.bin .Add (.slot 2) (.slot 3) false) (.const (.int 2)) false)),(.ite (.cmp (.slot 1) [.Lt] [(.call (.slot 4) [(.sub (.slot 0) (.slot 5))] [])]) [(.assign (.slot 3) (.slot 5))] [(.assign (.slot 2) (.bin .Add (.slot 5) (.const (.int 1)) false))])] [])]),
 (.ret (.slot 2))]
noncomputable def S9:Fn:={ addr:=32,np:=4,dfl:=[.int 0,.imm .none],key:=true,ns:=6,body:=S8 }
noncomputable def V6:List MS:=[
 (.ite (.cmp (.slot 4) [.Is] [(.const .none)]) [(.assign (.slot 2) (.call (.imm (.ref 50)) [(.slot 0),(.slot 1),(.slot 2),(.slot 3)] []))] [(.assign (.slot 2) (.call (.imm (.ref 50)) [(.slot 0),(.call (.slot 4) [(.slot 1)] []),(.slot 2),(.slot 3)] [(("key" : Str),(.slot 4))]))]),
 (.expr (.meth (.slot 0) ("insert" : Str) [(.slot 2),(.slot 1)]))]
noncomputable def V7:Fn:={ addr:=41,np:=4,dfl:=[.int 0,.imm .none],key:=true,ns:=5,body:=V6 }
noncomputable def V8:List MS:=[
 (.ite (.cmp (.slot 2) [.Lt] [(.const (.int 0))]) [.fail] []),
 (.ite (.cmp (.slot 3) [.Is] [(.const .none)]) [(.assign (.slot 3) (.call (.imm (.builtin "len")) [(.slot 0)] []))] []),
 (.ite (.cmp (.slot 4) [.Is] [(.const .none)]) [(.whil (.cmp (.slot 2) [.Lt] [(.slot 3)]) [(.assign (.slot 5) (.bin .FloorDiv (.bin .Add (.slot 2) (.slot 3) false) (.const (.int 2)) false)),(.ite (.cmp (.sub (.slot 0) (.slot 5)) [.Lt] [(.slot 1)]) [(.assign (.slot 2) (.bin .Add (.slot 5) (.const (.int 1)) false))] [(.assign (.slot 3) (.slot 5))])] [])] [(.whil (.cmp (.slot 2) [.Lt] [(.slot 3)]) [(.assign (.slot 5) (.bin .FloorDiv (.bin .Add (.slot 2) (.slot 3) false) (.const (.int 2)) false)),(.ite (.cmp (.call (.slot 4) [(.sub (.slot 0) (.slot 5))] []) [.Lt] [(.slot 1)]) [(.assign (.slot 2) (.bin .Add (.slot 5) (.const (.int 1)) false))] [(.assign (.slot 3) (.slot 5))])] [])]),
 (.ret (.slot 2))]
noncomputable def V9:Fn:={ addr:=50,np:=4,dfl:=[.int 0,.imm .none],key:=true,ns:=6,body:=V8 }
noncomputable def T0:List MS:=[
 (.assign (.slot 1) (.lst [] true)),
 (.for_ (.slot 2) (.val (.call (.imm (.type "range")) [(.const (.int 32))] [])) [(.assign (.slot 3) (.bin .LShift (.const (.int 1)) (.slot 2) false)),(.ite (.bin .BitAnd (.slot 0) (.slot 3) false) [(.expr (.meth (.slot 1) ("append" : Str) [(.meth (.imm (.ref 51)) ("get" : Str) [(.slot 3),(.call (.imm (.builtin "hex")) [(.slot 3)] [])])])),(.augS 0 .BitXor (.slot 3)),(.ite (.un .Not (.slot 0)) [.brk] [])] [])] [(.expr (.meth (.slot 1) ("append" : Str) [(.call (.imm (.builtin "hex")) [(.slot 0)] [])]))]),
 (.ret (.meth (.const (.str (", " : Str))) ("join" : Str) [(.slot 1)]))]
noncomputable def T1:Fn:={ addr:=58,np:=1,dfl:=[],key:=false,ns:=4,body:=T0 }
noncomputable def P4:List MS:=[
 (.assign (.slot 1) (.call (.imm (.builtin "next")) [(.slot 0)] [])),
 (.assign (.slot 2) (.bin .BitAnd (.slot 1) (.const (.int 63)) false)),
 (.whil (.bin .BitAnd (.slot 1) (.const (.int 64)) false) [(.augS 2 .LShift (.const (.int 6))),(.assign (.slot 1) (.call (.imm (.builtin "next")) [(.slot 0)] [])),(.augS 2 .BitOr (.bin .BitAnd (.slot 1) (.const (.int 63)) false))] []),
 (.ret (.slot 2))]
noncomputable def I5:Fn:={ addr:=65,np:=1,dfl:=[],key:=false,ns:=3,body:=P4 }
noncomputable def b0e:List MS:=[
 (.assign (.slot 1) (.const (.bytes []))),
 (.assign (.slot 2) (.const (.bytes [65,66,67,68,69,70,71,72,73,74,75,76,77,78,79,80]))),
 (.assign (.slot 0) (.call (.imm (.type "int")) [(.call (.imm (.builtin "abs")) [(.slot 0)] [])] [])),
 (.whil (.slot 0) [(.assign (.tup [(.slot 0),(.slot 3)]) (.call (.imm (.builtin "divmod")) [(.slot 0),(.const (.int 16))] [])),(.assign (.slot 1) (.bin .Add (.slc (.slot 2) (some (.slot 3)) (some (.bin .Add (.slot 3) (.const (.int 1)) false)) none false) (.slot 1) false))] []),
 (.ret (.slot 1))]
noncomputable def b0f:Fn:={ addr:=72,np:=1,dfl:=[],key:=false,ns:=4,body:=b0e }
noncomputable def Z5:List MS:=[
 (.for_ (.tup [(.slot 2),(.slot 3)]) (.enum (.val (.slc (.slot 0) none (some (.const (.int 60))) none false))) [(.augI (.slot 1) (.bin .Mod (.slot 2) (.call (.imm (.builtin "len")) [(.slot 1)] []) false) .Add (.bin .Mod (.slot 3) (.const (.int 1000000)) false))] []),
 (.ret (.slot 1))]
noncomputable def Z6:Fn:={ addr:=79,np:=2,dfl:=[],key:=false,ns:=4,body:=Z5 }
noncomputable def a1o:List MS:=[
 (.assign (.slot 1) (.lst [] true)),
 (.for_ (.slot 2) (.val (.slot 0)) [(.augS 1 .Add (.bin .Add (.comp false 5 2 [(.mk (.slot 6) (.val (.tup [(.const (.int 3)),(.const (.int 2)),(.const (.int 1))])) [(.bin .RShift (.slot 2) (.bin .Mult (.const (.int 6)) (.slot 6) false) false)])] (.bin .BitOr (.bin .BitAnd (.bin .RShift (.slot 2) (.bin .Mult (.const (.int 6)) (.slot 6) false) false) (.const (.int 63)) false) (.const (.int 64)) false)) (.lst [(.bin .BitAnd (.slot 2) (.const (.int 63)) false)] false) false))] []),
 (.assign (.slot 3) (.call (.imm (.builtin "iter")) [(.comp false 5 3 [(.mk (.tup [(.slot 6),(.slot 7)]) (.enum (.val (.slot 1))) [])] (.bin .Add (.slot 7) (.bin .Mult (.const (.int 128)) (.bin .Mod (.slot 6) (.const (.int 2)) false) false) false))] [])),
 (.assign (.slot 4) (.comp false 5 2 [(.mk (.slot 6) (.val (.slot 0)) [])] (.call (.imm (.ref 65)) [(.slot 3)] []))),
 (.readEnd 4 3)]
noncomputable def a1p:Fn:={ addr:=84,np:=1,dfl:=[],key:=false,ns:=5,body:=a1o }
noncomputable def N6:List MS:=[
 (.assign (.slot 0) (.lst [(.const (.str ("OPTIMIZED" : Str))),(.const (.str ("NEWLOCALS" : Str))),(.const (.str ("VARARGS" : Str))),(.const (.str ("VARKEYWORDS" : Str))),(.const (.str ("NESTED" : Str))),(.const (.str ("GENERATOR" : Str))),(.const (.str ("NOFREE" : Str))),(.const (.str ("COROUTINE" : Str))),(.const (.str ("ITERABLE_COROUTINE" : Str))),(.const (.str ("ASYNC_GENERATOR" : Str)))] false)),
 (.ret (.bin .Add (.slot 0) (.comp false 1 2 [(.mk (.slot 2) (.val (.call (.imm (.type "range")) [(.const (.int 10)),(.const (.int 32))] [])) [])] (.call (.imm (.builtin "hex")) [(.bin .LShift (.const (.int 1)) (.slot 2) false)] [])) false))]
noncomputable def f05__law_names:Fn:={ addr:=89,np:=0,dfl:=[],key:=false,ns:=1,body:=N6 }
noncomputable def a3x:List MS:=[
 (.ret (.sub (.slot 0) (.const (.int 0))))]
noncomputable def f05__law_key:Fn:={ addr:=96,np:=1,dfl:=[],key:=false,ns:=1,body:=a3x }
noncomputable def t0:MS:=(.assign (.slot 1) (.call (.imm (.ref 79)) [(.slot 0),(.lst [(.const (.int 9)),(.const (.int 40)),(.const (.int 2336)),(.const (.int 2049)),(.const (.int 264)),(.const (.int 8))] true)] []))
noncomputable def t1:MS:=(.assign (.slot 2) (.bin .Add (.comp false 23 2 [(.mk (.slot 24) (.val (.slc (.slot 1) none (some (.const (.int 5))) none false)) [])] (.bin .Mod (.slot 24) (.const (.int 4096)) false)) (.lst [(.bin .Mod (.sub (.slot 1) (.const (.int 5))) (.const (.int 21)) false)] false) false))
noncomputable def t2:MS:=(.assign (.slot 3) (.lst [(.bin .Add (.sub (.slot 2) (.const (.int 0))) (.bin .Mult (.const (.int 4096)) (.sub (.slot 2) (.const (.int 1))) false) false),(.bin .Add (.sub (.slot 2) (.const (.int 2))) (.bin .Mult (.const (.int 4096)) (.sub (.slot 2) (.const (.int 3))) false) false),(.sub (.slot 2) (.const (.int 4))),(.sub (.slot 2) (.const (.int 5)))] false))
noncomputable def t3:MS:=(.assign (.slot 4) (.call (.imm (.ref 84)) [(.slot 3)] []))
noncomputable def t4:MS:=(.ite (.cmp (.slot 4) [.NotEq] [(.slot 3)]) [(.ret (.const (.bool false)))] [])
noncomputable def t5:MS:=(.assign (.slot 5) (.lst [(.bin .Mod (.sub (.slot 4) (.const (.int 0))) (.const (.int 4096)) false),(.bin .FloorDiv (.sub (.slot 4) (.const (.int 0))) (.const (.int 4096)) false),(.bin .Mod (.sub (.slot 4) (.const (.int 1))) (.const (.int 4096)) false),(.bin .FloorDiv (.sub (.slot 4) (.const (.int 1))) (.const (.int 4096)) false),(.sub (.slot 4) (.const (.int 2)))] false))
noncomputable def t6:MS:=(.assign (.tup [(.slot 6),(.slot 7)]) (.tup [(.lst [(.const (.int 0))] true),(.lst [(.const (.int 0))] false)]))
noncomputable def d8v:MS:=(.assign (.slot 7) (.bin .Add (.slot 7) (.comp false 23 2 [(.mk (.slot 24) (.val (.slot 7)) [])] (.bin .BitOr (.slot 8) (.slot 24) false)) false))
noncomputable def c6u:MS:=(.assign (.slot 10) (.call (.imm (.ref 50)) [(.slot 6),(.slot 9)] []))
noncomputable def d1p:MS:=(.ite (.cmp (.slc (.slot 6) (some (.slot 10)) (some (.bin .Add (.slot 10) (.const (.int 1)) false)) none false) [.NotEq] [(.lst [(.slot 9)] false)]) [(.expr (.call (.imm (.ref 23)) [(.slot 6),(.slot 9)] []))] [])
noncomputable def c6v:List MS:=[c6u,d1p]
noncomputable def d9j:MS:=(.for_ (.slot 9) (.val (.comp false 23 2 [(.mk (.slot 24) (.val (.slot 6)) [])] (.bin .BitOr (.slot 8) (.slot 24) false))) c6v [])
noncomputable def t7B:List MS:=[d8v,d9j]
noncomputable def t7:MS:=(.for_ (.slot 8) (.val (.slot 5)) t7B [])
noncomputable def t8:MS:=(.ite (.cmp (.slot 6) [.NotEq] [(.call (.imm (.builtin "sorted")) [(.call (.imm (.type "set")) [(.slot 7)] [])] [])]) [(.ret (.const (.bool false)))] [])
noncomputable def t9:MS:=(.assign (.tup [(.slot 11),(.slot 12),(.slot 13),(.slot 14),(.slot 15),(.slot 16)]) (.tup [(.call (.imm (.ref 89)) [] []),(.lst [] true),.dict0,(.lst [] true),(.lst [] true),(.lst [] true)]))
noncomputable def d4h:MS:=(.assign (.tup [(.slot 18),(.slot 19)]) (.tup [(.comp false 23 2 [(.mk (.slot 24) (.val (.call (.imm (.type "range")) [(.const (.int 12))] [])) [(.bin .BitAnd (.bin .RShift (.slot 9) (.slot 24) false) (.const (.int 1)) false)])] (.slot 24)),(.call (.imm (.ref 72)) [(.ite (.bin .Mod (.slot 10) (.const (.int 2)) false) (.un .USub (.slot 9)) (.slot 9))] [])]))
noncomputable def d4i:MS:=(.ite (.lor [(.cmp (.call (.imm (.ref 58)) [(.bin .LShift (.slot 9) (.sub (.slot 4) (.const (.int 3))) false)] []) [.NotEq] [(.lor [(.meth (.const (.str (", " : Str))) ("join" : Str) [(.comp false 23 2 [(.mk (.slot 24) (.val (.slot 18)) [])] (.sub (.slot 11) (.bin .Add (.slot 24) (.sub (.slot 2) (.const (.int 5))) false)))]),(.const (.str ("0x0" : Str)))])]),(.cmp (.slc (.slot 19) none (some (.const (.int 1))) none false) [.Eq] [(.const (.bytes [65]))])]) [(.ret (.const (.bool false)))] [])
noncomputable def d4j:MS:=(.ite (.cmp (.bin .Add (.bin .Mult (.const (.bytes [65])) (.bin .Sub (.const (.int 3)) (.call (.imm (.builtin "len")) [(.slot 19)] []) false) false) (.slot 19) false) [.NotEq] [(.call (.imm (.type "bytes")) [(.lst [(.bin .Add (.const (.int 65)) (.bin .FloorDiv (.slot 9) (.const (.int 256)) false) false),(.bin .Add (.const (.int 65)) (.bin .Mod (.bin .FloorDiv (.slot 9) (.const (.int 16)) false) (.const (.int 16)) false) false),(.bin .Add (.const (.int 65)) (.bin .Mod (.slot 9) (.const (.int 16)) false) false)] false)] [])]) [(.ret (.const (.bool false)))] [])
noncomputable def d4k:MS:=(.expr (.meth (.slot 12) ("append" : Str) [(.call (.imm (.builtin "len")) [(.slot 18)] [])]))
noncomputable def d4l:MS:=(.expr (.call (.imm (.ref 41)) [(.slot 14),(.tup [(.call (.imm (.builtin "len")) [(.slot 18)] []),(.slot 10)])] [(("key" : Str),(.imm (.ref 96)))]))
noncomputable def b8e:MS:=(.assign (.sub (.slot 13) (.slot 17)) (.bin .Add (.meth (.slot 13) ("get" : Str) [(.slot 17),(.const (.int 0))]) (.const (.int 1)) false))
noncomputable def c1d:List MS:=[b8e]
noncomputable def d4m:MS:=(.for_ (.slot 17) (.val (.slot 18)) c1d [])
noncomputable def d7v:List MS:=[d4h,d4i,d4j,d4k,d4l,d4m]
noncomputable def t10:MS:=(.for_ (.tup [(.slot 10),(.slot 9)]) (.enum (.val (.slot 6))) d7v [])
noncomputable def t11:MS:=(.ite (.cmp (.slot 14) [.NotEq] [(.call (.imm (.builtin "sorted")) [(.comp false 23 3 [(.mk (.tup [(.slot 24),(.slot 25)]) (.enum (.val (.slot 12))) [])] (.tup [(.slot 25),(.slot 24)]))] [(("key" : Str),(.lam ⟨("pair" : Str),[],(.tup (.sub .par (.int 0)) (.neg (.sub .par (.int 1))))⟩ 100 ("law.<locals>.<lambda>" : Str) []))])]) [(.ret (.const (.bool false)))] [])
noncomputable def t12:MS:=(.assign (.tup [(.slot 20),(.slot 21)]) (.tup [(.bin .Add (.bin .Add (.bin .Mult (.lst [(.tup [(.const (.int 99)),(.const (.int 0))])] false) (.const (.int 33)) false) (.slot 14) false) (.bin .Mult (.lst [(.tup [(.un .USub (.const (.int 1))),(.const (.int 0))])] false) (.const (.int 33)) false) false),(.bin .Add (.const (.int 33)) (.call (.imm (.builtin "len")) [(.slot 14)] []) false)]))
noncomputable def t13:MS:=(.ite (.cmp (.call (.imm (.builtin "sum")) [(.comp false 23 2 [(.mk (.slot 24) (.val (.call (.imm (.type "range")) [(.const (.int 1)),(.const (.int 13))] [])) [])] (.bin .Sub (.slot 21) (.call (.imm (.ref 50)) [(.slot 20),(.slot 24),(.const (.int 33)),(.slot 21)] [(("key" : Str),(.imm (.ref 96)))]) false))] []) [.NotEq] [(.call (.imm (.builtin "sum")) [(.slot 12)] [])]) [(.ret (.const (.bool false)))] [])
noncomputable def d6m:MS:=(.expr (.call (.imm (.ref 23)) [(.slot 15),(.tup [(.sub (.slot 13) (.slot 17)),(.slot 10)])] [(("key" : Str),(.imm (.ref 96)))]))
noncomputable def d8w:List MS:=[d6m]
noncomputable def t14:MS:=(.for_ (.tup [(.slot 10),(.slot 17)]) (.enum (.val (.slot 13))) d8w [])
noncomputable def t15:MS:=(.ite (.cmp (.slot 15) [.NotEq] [(.call (.imm (.builtin "sorted")) [(.comp false 23 3 [(.mk (.tup [(.slot 24),(.slot 25)]) (.enum (.val (.slot 13))) [])] (.tup [(.sub (.slot 13) (.slot 25)),(.slot 24)]))] [])]) [(.ret (.const (.bool false)))] [])
noncomputable def d4n:MS:=(.ite (.slot 8) [(.expr (.call (.imm (.ref 41)) [(.slot 16),(.call (.imm (.builtin "len")) [(.comp false 23 2 [(.mk (.slot 24) (.val (.slot 6)) [(.cmp (.bin .BitOr (.slot 24) (.slot 8) false) [.Eq] [(.slot 24)])])] (.slot 24))] [])] []))] [])
noncomputable def d8x:List MS:=[d4n]
noncomputable def t16:MS:=(.for_ (.slot 8) (.val (.slot 5)) d8x [])
noncomputable def t17:MS:=(.assign (.slot 22) (.call (.imm (.builtin "sum")) [(.comp false 23 2 [(.mk (.slot 24) (.val (.call (.imm (.type "range")) [(.const (.int 1)),(.bin .Add (.call (.imm (.builtin "len")) [(.slot 6)] []) (.const (.int 1)) false)] [])) [])] (.bin .Sub (.call (.imm (.builtin "len")) [(.slot 15)] []) (.call (.imm (.ref 50)) [(.slot 15),(.slot 24)] [(("key" : Str),(.imm (.ref 96)))]) false))] []))
noncomputable def t18:MS:=(.ite (.cmp (.bin .Pow (.const (.int 4)) (.call (.imm (.builtin "min")) [(.slot 22),(.const (.int 81))] []) false) [.Lt] [(.bin .Pow (.call (.imm (.builtin "len")) [(.slot 6)] []) (.call (.imm (.builtin "len")) [(.slot 6)] []) false)]) [(.ret (.const (.bool false)))] [])
noncomputable def t19:MS:=(.ret (.lor [(.cmp (.call (.imm (.builtin "len")) [(.slot 6)] []) [.Eq] [(.const (.int 1))]),(.land [(.cmp (.call (.imm (.ref 50)) [(.slot 15),(.bin .FloorDiv (.bin .Add (.call (.imm (.builtin "len")) [(.slot 6)] []) (.const (.int 1)) false) (.const (.int 2)) false)] [(("key" : Str),(.imm (.ref 96)))]) [.Lt] [(.call (.imm (.builtin "len")) [(.slot 15)] [])]),(.cmp (.call (.imm (.ref 32)) [(.slot 16),(.bin .FloorDiv (.call (.imm (.builtin "len")) [(.slot 6)] []) (.const (.int 2)) false)] []) [.Gt] [(.const (.int 0))])])]))
noncomputable def b8f:List MS:=[t0,t1,t2,t3,t4,t5,t6,t7,t8,t9,t10,t11,t12,t13,t14,t15,t16,t17,t18,t19]
noncomputable def f05_law:Fn:={ addr:=101,np:=1,dfl:=[],key:=false,ns:=23,body:=b8f }
noncomputable def D05:List (Int × Str):=[(1, "OPTIMIZED"),(2, "NEWLOCALS"),(4, "VARARGS"),(8, "VARKEYWORDS"),(16, "NESTED"),(32, "GENERATOR"),(64, "NOFREE"),(128, "COROUTINE"),(256, "ITERABLE_COROUTINE"),(512, "ASYNC_GENERATOR")]
noncomputable def P05:Pg:={ fns:=[S7,S9,V7,V9,T1,I5,b0f,Z6,a1p,f05__law_names,f05__law_key,f05_law],gds:=[(51,D05)] }
end
section
noncomputable def nv (l:List Nat):List V:=l.map fun c=>.int (c:Nat)
theorem E3 (l:List Nat):(nv l).length = l.length:=List.length_map _
theorem c6w (l:List Nat) {i c:Nat} (h:l[i]? = some c):(nv l)[i]? = some (.int (c:Nat)):=by unfold nv; rw [List.getElem?_map,h]; rfl
theorem W0 (l:List Nat) {i:Nat} (h:i < l.length):(nv l)[i]? = some (.int (l.getD i 0:Nat)):=c6w l (by rw [List.getD_eq_getElem?_getD,List.getElem?_eq_getElem h]; rfl)
theorem a3y (l m:List Nat):nv (l ++ m) = nv l ++ nv m:=by unfold nv; rw [List.map_append]
theorem a2z (l:List Nat):nv l = (l.map fun c=>((c:Nat):Int)).map .int:=by unfold nv; rw [List.map_map]; rfl
theorem a1q (l:List Nat):F5 (nv l) = some (l.map fun c=>((c:Nat):Int)):=by rw [a2z]; exact a9r _
noncomputable def Hv (n:Nat) (ρ:List (Option V)) (l:List (Nat × V)):Prop:=ρ.length = n /\ ∀ p ∈ l,ρ[p.1]? = some (some p.2)
section
variable {n:Nat} {ρ:List (Option V)} {l:List (Nat × V)}
theorem Hv.set (h:Hv n ρ l) {i:Nat} (v:Option V) (hi:(l.map (·.1)).contains i = false):Hv n (ρ.set i v) l:=⟨by rw [List.length_set]; exact h.1,fun p hp=>by
 rw [List.getElem?_set_ne]
 ·exact h.2 p hp
 ·intro e
  have:(l.map (·.1)).contains i = true:=by simp only [List.contains_iff_mem,List.mem_map]; exact ⟨p,hp,e.symm⟩
  rw [hi] at this; cases this⟩
theorem Hv.put (h:Hv n ρ l) {i:Nat} (v:V) (hi:(l.map (·.1)).contains i = false) (hl:i < n):Hv n (ρ.set i (some v)) ((i,v) :: l):=⟨(h.set (some v) hi).1,fun p hp=>by
 rcases List.mem_cons.mp hp with rfl | hp
 ·rw [List.getElem?_set_self (by rw [h.1]; exact hl)]
 ·exact (h.set (some v) hi).2 p hp⟩
theorem Hv.sub {l':List (Nat × V)} (h:Hv n ρ l) (hs:∀ p ∈ l',p ∈ l):Hv n ρ l':=⟨h.1,fun p hp=>h.2 p (hs p hp)⟩
theorem Hv.get (h:Hv n ρ l) (k:Nat) {i:Nat} {v:V} (e:l[k]? = some (i,v)):ρ[i]? = some (some v):=h.2 (i,v) (List.mem_of_getElem? e)
theorem Hv.nil (h:Hv n ρ l):Hv n ρ []:=⟨h.1,fun u_ m=>nomatch m⟩
theorem Hv.tl {p:Nat × V} (h:Hv n ρ (p :: l)):Hv n ρ l:=⟨h.1,fun q m=>h.2 q (.tail _ m)⟩
theorem Hv.ext (h:Hv n ρ l) (j0:Option V) (v:V):Hv (n + 2) (ρ ++ [j0,some v]) ((n + 1,v) :: l):=⟨by rw [List.length_append,h.1]; rfl,fun p m=>by
 rcases List.mem_cons.mp m with rfl | m
 ·rw [List.getElem?_append_right (by rw [h.1]; exact Nat.le_add_right _ _),h.1,Nat.add_sub_cancel_left]; rfl
 ·have:=h.2 p m
  rw [List.getElem?_append_left (List.getElem?_eq_some_iff.mp this).1]; exact this⟩
theorem Hv.ext2 (h:Hv n ρ l) (j0:Option V) (u v:V):Hv (n + 3) (ρ ++ [j0,some u,some v]) ((n + 1,u) :: (n + 2,v) :: l):=⟨by rw [List.length_append,h.1]; rfl,fun p m=>by
 have key:∀ (i:Nat),(ρ ++ [j0,some u,some v])[n + i]? = [j0,some u,some v][i]?:=fun i=>by
  rw [List.getElem?_append_right (by rw [h.1]; exact Nat.le_add_right _ _),h.1,Nat.add_sub_cancel_left]
 rcases List.mem_cons.mp m with rfl | m
 ·exact key 1
 ·rcases List.mem_cons.mp m with rfl | m
  ·exact key 2
  ·have:=h.2 p m
   rw [List.getElem?_append_left (List.getElem?_eq_some_iff.mp this).1]; exact this⟩
end
theorem J2 {P:Pg} {n d i:Nat} {v:V} {ρ:List (Option V)} {R:List (List AObj)} {l:List (Nat × V)} (h:Hv n ρ l) (hi:i < n):As P (d + 1) (.slot i) v ⟨ρ,R⟩ ⟨ρ.set i (some v),R⟩:=B2 (by rw [h.1]; exact hi) rfl
section
variable {P:Pg} {n:Nat} {ρ:List (Option V)} {l:List (Nat × V)} {R:List (List AObj)} {α:Type}
theorem b6b {f g:α->V} {xs:List α} {i:MI} {it:It} {elt:ME} (h:Hv n ρ l) (hi:I P i ⟨ρ,R⟩ it ⟨ρ,R⟩) (hy:I3 R it (xs.map f)) (hl:xs.length <= lim)
  (he:∀ x ∈ xs,∀ ρ',Hv (n + 2) ρ' ((n + 1,f x) :: l)->E P elt ⟨ρ',R⟩ (g x) ⟨ρ',R⟩):E P (.comp false n 2 [.mk (.slot (n + 1)) i []] elt) ⟨ρ,R⟩ (.lst (xs.map g)) ⟨ρ,R⟩:=by
 refine b2l hi h.1 hy hl fun x hx junk hj=>?_
 exact b4e hj fun j0 j1=>⟨[j0,some (f x)],rfl,B2 (by simp [h.1]) (by rw [List.set_append_right _ _ (by rw [h.1]; exact Nat.le_succ _),h.1,show n + 1 - n = 1 by lia]; rfl),he x hx _ (h.ext j0 (f x))⟩
theorem b3a {f g:α->V} {q:α->Bool} {xs:List α} {i:MI} {it:It} {elt c:ME} (h:Hv n ρ l) (hi:I P i ⟨ρ,R⟩ it ⟨ρ,R⟩) (hy:I3 R it (xs.map f)) (hl:xs.length <= lim)
  (hc:∀ x ∈ xs,∀ ρ',Hv (n + 2) ρ' ((n + 1,f x) :: l)->T P 8 c ⟨ρ',R⟩ (q x) ⟨ρ',R⟩ /\ (q x = true->E P elt ⟨ρ',R⟩ (g x) ⟨ρ',R⟩)):E P (.comp false n 2 [.mk (.slot (n + 1)) i [c]] elt) ⟨ρ,R⟩ (.lst ((xs.filter q).map g)) ⟨ρ,R⟩:=by
 refine b2k hi h.1 hy hl fun x hx junk hj=>?_
 exact b4e hj fun j0 j1=>⟨[j0,some (f x)],rfl,B2 (by simp [h.1]) (by rw [List.set_append_right _ _ (by rw [h.1]; exact Nat.le_succ _),h.1,show n + 1 - n = 1 by lia]; rfl),b7f (hc x hx _ (h.ext j0 (f x))).1,(hc x hx _ (h.ext j0 (f x))).2⟩
theorem c6x {f1 f2 g:α->V} {xs:List α} {i:MI} {it:It} {elt:ME} (h:Hv n ρ l) (hi:I P i ⟨ρ,R⟩ it ⟨ρ,R⟩) (hy:I3 R it (xs.map fun x=>.tup [f1 x,f2 x])) (hl:xs.length <= lim)
  (he:∀ x ∈ xs,∀ ρ',Hv (n + 3) ρ' ((n + 1,f1 x) :: (n + 2,f2 x) :: l)->E P elt ⟨ρ',R⟩ (g x) ⟨ρ',R⟩):E P (.comp false n 3 [.mk (.tup [.slot (n + 1),.slot (n + 2)]) i []] elt) ⟨ρ,R⟩ (.lst (xs.map g)) ⟨ρ,R⟩:=by
 refine b2l hi h.1 hy hl fun x hx junk hj=>?_
 exact c3c hj fun j0 j1 j2=>⟨[j0,some (f1 x),some (f2 x)],rfl,N2 (st1:=⟨ρ ++ [j0,some (f1 x),j2],R⟩) (B2 (by simp [h.1]) (by rw [List.set_append_right _ _ (by rw [h.1]; exact Nat.le_succ _),h.1,show n + 1 - n = 1 by lia]; rfl)) (B2 (by simp [h.1]) (by rw [List.set_append_right _ _ (by rw [h.1]; lia),h.1,show n + 2 - n = 2 by lia]; rfl)),he x hx _ (h.ext2 j0 (f1 x) (f2 x))⟩
end
theorem c1e {st:St} (n:Nat):a5h st (.int (n:Nat)) = some (n != 0):=by
 cases n <;> rfl
theorem b3b {x:V} {d:PyData} (h:a8m x = some d) (hs:SeqAt.shaped d = true):eqd x x = some true:=by
 have hc:d.canLay0 = true:=by
  unfold SeqAt.shaped at hs
  exact (Bool.and_eq_true_iff.mp hs).1
 unfold eqd
 rw [h]
 dsimp only
 rw [hs]
 simp only [Bool.and_self,if_true]
 congr 1
 exact SeqAt.eqv_refl d hc
theorem a7u:∀ is:List Int,O2 (is.map .int) = some (is.map PyData.int)
 | []=>rfl
 | _ :: is=>a2a rfl (a7u is)
theorem c1f (st:St) (is:List Int):eqV st (.lst (is.map .int)) (.lst (is.map .int)) = some true:=by
 have h:a8m (.lst (is.map V.int)) = some (.list (is.map PyData.int)):=by rw [a0o,a7u]; rfl
 exact  b3b h (ke_shaped_ints is)
theorem c6y (st:St) (l:List Nat):eqV st (.lst (nv l)) (.lst (nv l)) = some true:=by rw [a2z]; exact c1f st _
theorem b3c {st:St} {l i:Nat} {vs:List V} {b:V} (h:st.obj l i = some (.list vs)):eqV st (.ref l i) b = eqV st (.lst vs) b:=by
 show (match (match st.obj l i with | some (.list vs)=>some (V.lst vs) | _=>none) with | some x=>opV st b fun y=>eqd x y | none=>none) = _
 rw [h]; rfl
theorem a7v {st:St} {a b:V} (h:eqV st a b = some true):c2p st .NotEq a b = some false:=by
 show d5c (eqV st a b) = _
 rw [h]; rfl
theorem b3d (st:St) (x y:Nat):c2p st .Eq (.int (x:Nat)) (.int (y:Nat)) = some (x == y):=by
 have hp:eqd (.int (x:Nat)) (.int (y:Nat)) = some (x == y):=by
  show (if (SeqAt.shaped (PyData.int (x:Nat)) && SeqAt.shaped (PyData.int (y:Nat))) = true then some (PyData.eqv (.int (x:Nat)) (.int (y:Nat))) else none) = _
  have:(SeqAt.shaped (PyData.int (x:Nat)) && SeqAt.shaped (PyData.int (y:Nat))) = true:=rfl
  rw [if_pos this]
  congr 1
  show decide (((x:Nat):Int) = ((y:Nat):Int)) = decide (x = y)
  exact decide_eq_decide.mpr Int.ofNat_inj
 exact  hp
theorem c6z (st:St) (s:Str):eqV st (.str s) (.str s) = some true:=by
 show some (s == s) = some true
 rw [beq_self_eq_true]
theorem a3a {st:St} {a b:V} {vs us:List V} (h1:C7 st a = some vs) (h2:C7 st b = some us) (hl:(vs ++ us).length <= lim):d2z st .Add a b false = some (.lst (vs ++ us),st):=by
 have hb:(O0 st b fun us=>mkL false (vs ++ us) st) = some (.lst (vs ++ us),st):=by
  have hm:mkL false (vs ++ us) st = some (.lst (vs ++ us),st):=by unfold mkL; rw [if_pos hl]; rfl
  rcases M0 h2 with rfl | ⟨l,i,rfl,ho⟩
  ·simp only [O0,C7]; exact hm
  ·simp only [O0,C7,ho]; exact hm
 rcases M0 h1 with rfl | ⟨l,i,rfl,ho⟩
 ·simp only [d2z,d5a]
  exact hb
 ·show (O0 st (.ref l i) fun vs=>O0 st b fun us=>mkL false (vs ++ us) st) = _
  simp only [O0,C7,ho] at hb ⊢
  exact hb
theorem b8g {st:St} {a:V} {vs:List V} {lo hi:Option V} {l h:Option Int} (hs:C7 st a = some vs) (h1:c8x lo = some l) (h2:c8x hi = some h) (hl:vs.length <= lim):c9x st a lo hi none false = some (.lst (cut vs l h),st):=by
 have hm:mkL false (cut vs l h) st = some (.lst (cut vs l h),st):=by unfold mkL; rw [if_pos (Nat.le_trans (b7t _ _ _) hl)]; rfl
 unfold c9x
 rw [if_pos (show (none:Option V).isNone = true from rfl)]
 unfold c9d
 rw [h1]
 dsimp only
 rw [h2]
 dsimp only
 rcases M0 hs with rfl | ⟨l',i,rfl,ho⟩
 ·simp only [d3a,O0,C7]; rw [if_pos hl]; exact hm
 ·simp only [d3a,O0,C7,ho]; rw [if_pos hl]; exact hm
theorem d1q {G:Pg} {ρ:List (Option V)} {R:List (List AObj)} {l i:Nat} {vs:List V} {w:V} (ho:St.obj ⟨ρ,R⟩ l i = some (.list vs)) (hl:vs.length <= lim) (hw:w.lvlOk l = true) :
  a0k G ⟨ρ,R⟩ (.ref l i) "append" [w] = some (.imm .none,⟨ρ,up R l i (.list (vs ++ [w]))⟩) /\ a3j G ⟨ρ,R⟩ (.ref l i) "append" = true:=by
 constructor
 ·show T3 ⟨ρ,R⟩ l i (b0v ⟨ρ,R⟩ l i "append" [w]) = _
  rw [b9f ho]
  exact (if_pos rfl).trans (if_pos (by rw [hw,decide_eq_true hl]; rfl))
 ·show b0w ⟨ρ,R⟩ l i _ = true
  unfold b0w
  rw [ho]; rfl
theorem b3e {st:St} {a b c:Int} {xs:List Int} (h:Builtin.Range.small a b c = true) (e:S1 a b c = xs):c2q st (.rng a b c) = some (.seq (xs.map .int)):=by
 show (if Builtin.Range.small a b c = true then some (It.seq ((S1 a b c).map .int)) else none) = _
 rw [if_pos h,e]
theorem d9k (st:St) (n:Nat) (h:n <= 100000):c2q st (.rng 0 n 1) = some (.seq (nv (List.range n))):=a2x st n h
end
section
set_option genCtorIdx false in
inductive Fm where
 | v (i:Nat) | nd (a b:Fm) | rr (a b:Fm) | nt (a:Fm)
noncomputable def vt:Nat->Nat->Nat
 | 0,_=>0
 | n + 1,i=>if i = n then (2 ^ 2 ^ n - 1) <<< 2 ^ n else vt n i ||| vt n i <<< 2 ^ n
theorem d4o:∀ n i,vt n i < 2 ^ 2 ^ n
 | 0,_=>Nat.two_pow_pos _
 | n + 1,i=>by
  have e:2 ^ (n + 1) = 2 ^ n + 2 ^ n:=by rw [Nat.pow_succ,Nat.mul_two]
  unfold vt
  split
  ·rw [e]
   refine Nat.lt_pow_two_of_testBit _ fun k hk=>?_
   rw [Nat.testBit_shiftLeft,Nat.testBit_two_pow_sub_one]
   have:¬ (k - 2 ^ n < 2 ^ n):=Nat.not_lt.mpr (Nat.le_sub_of_add_le hk)
   simp [this]
  ·rw [e]
   refine Nat.lt_pow_two_of_testBit _ fun k hk=>?_
   have h:=d4o n i
   rw [Nat.testBit_or,Nat.testBit_shiftLeft,show (vt n i).testBit (k - 2 ^ n) = false from Nat.testBit_lt_two_pow (Nat.lt_of_lt_of_le h (Nat.pow_le_pow_right Nat.two_pos (Nat.le_sub_of_add_le hk))),show (vt n i).testBit k = false from Nat.testBit_lt_two_pow (Nat.lt_of_lt_of_le h (Nat.pow_le_pow_right Nat.two_pos (Nat.le_trans (Nat.le_add_right _ _) hk)))]
   simp
theorem b0g:∀ n i k,i < n->k < 2 ^ n->(vt n i).testBit k = k.testBit i
 | n + 1,i,k,hi,hk=>by
  have e:2 ^ (n + 1) = 2 ^ n + 2 ^ n:=by rw [Nat.pow_succ,Nat.mul_two]
  unfold vt
  by_cases q:i = n
  ·rw [if_pos q,Nat.testBit_shiftLeft,Nat.testBit_two_pow_sub_one,q]
   by_cases h:k < 2 ^ n
   ·rw [Nat.testBit_lt_two_pow h,decide_eq_false (Nat.not_le.mpr h)]; rfl
   ·have h2:k - 2 ^ n < 2 ^ n:=Nat.sub_lt_left_of_lt_add (Nat.not_lt.mp h) (e ▸ hk)
    rw [show k = 2 ^ n + (k - 2 ^ n) from (Nat.add_sub_of_le (Nat.not_lt.mp h)).symm,Nat.testBit_two_pow_add_eq,Nat.testBit_lt_two_pow h2]
    simp [h2]
  ·rw [if_neg q,Nat.testBit_or,Nat.testBit_shiftLeft]
   by_cases h:k < 2 ^ n
   ·rw [b0g n i k (Nat.lt_of_le_of_ne (Nat.le_of_lt_succ hi) q) h]
    have:¬ (2 ^ n <= k):=Nat.not_le.mpr h
    simp [this]
   ·have h2:k - 2 ^ n < 2 ^ n:=Nat.sub_lt_left_of_lt_add (Nat.not_lt.mp h) (e ▸ hk)
    rw [b0g n i (k - 2 ^ n) (Nat.lt_of_le_of_ne (Nat.le_of_lt_succ hi) q) h2,Nat.testBit_lt_two_pow (Nat.lt_of_lt_of_le (d4o n i) (Nat.pow_le_pow_right Nat.two_pos (Nat.not_lt.mp h)))]
    have:2 ^ n <= k:=Nat.not_lt.mp h
    simp only [this,decide_true,Bool.true_and,Bool.false_or]
    rw [show k = 2 ^ n + (k - 2 ^ n) from (Nat.add_sub_of_le (Nat.not_lt.mp h)).symm]
    rw [Nat.testBit_two_pow_add_gt (Nat.lt_of_le_of_ne (Nat.le_of_lt_succ hi) q)]
    congr 1; lia
noncomputable def ofB (f:Nat->Bool):Nat->Nat
 | 0=>0
 | n + 1=>ofB f n ||| (if f n then 1 <<< n else 0)
theorem M2 (f:Nat->Bool):∀ n i,(ofB f n).testBit i = (decide (i < n) && f i)
 | 0,i=>by simp [ofB]
 | n + 1,i=>by
  rw [ofB,Nat.testBit_or,M2 f n i]
  by_cases q:i = n
  ·subst q
   cases f i <;> simp [Nat.testBit_shiftLeft]
  ·have h1:decide (i < n + 1) = decide (i < n):=decide_eq_decide.mpr (by lia)
   rw [h1]
   cases f n
   ·simp
   ·simp only [if_true,Nat.testBit_shiftLeft]
    have:(Nat.testBit 1 (i - n) && decide (n <= i)) = false:=by
     by_cases h:n <= i
     ·have:i - n ≠ 0:=by lia
      simp [Nat.testBit_one_eq_true_iff_self_eq_zero,this]
     ·simp [h]
    rw [Bool.and_comm] at this
    rw [this,Bool.or_false]
end
section
set_option genInjectivity false in
set_option genSizeOf false in
structure W3 where
 a:Nat
 b:Nat
 c:Nat
section
variable (m w:Nat)
variable {m w}
end
end
section
noncomputable def c9a (k:Nat):Nat->List Nat->List Nat
 | _,[]=>[]
 | p,c :: r=>(c ||| (p &&& k)) :: c9a k c r
noncomputable def d4p:List Nat->List Nat->List Nat
 | c,[]=>c
 | c,k :: ks=>d4p (c9a k k c) ks
noncomputable def un:Nat->Nat->List Bool
 | 0,_=>[]
 | l + 1,n=>decide (0 < n) :: un l (n - 1)
section
variable {m w:Nat}
theorem d4q (k:Nat):∀ (l:List Nat) (p t:Nat),p.testBit w = decide (0 < t)->l.map (·.testBit w) = un l.length (t - 1)->(c9a k p l).map (·.testBit w) = un l.length (if k.testBit w then t else t - 1)
 | [],_,_,_,_=>rfl
 | c :: r,p,t,hp,h=>by
  injection h with h1 h2
  have h1:c.testBit w = decide (0 < t - 1):=h1
  have:=d4q k r c (t - 1) h1 h2
  show (c ||| (p &&& k)).testBit w :: (c9a k c r).map _ = _
  rw [this,Nat.testBit_or,Nat.testBit_and,hp,h1]
  show _ = decide (0 < if k.testBit w then t else t - 1) :: un r.length ((if k.testBit w then t else t - 1) - 1)
  cases k.testBit w
  ·simp
  ·simp; lia
theorem b3f (k:Nat):∀ (l:List Nat) (p:Nat),(c9a k p l).length = l.length
 | [],_=>rfl
 | c :: r,_=>congrArg (· + 1) (b3f k r c)
theorem d1r (k n:Nat) (l:List Nat) (h:l.map (·.testBit w) = un l.length n):(c9a k k l).map (·.testBit w) = un l.length (n + (k.testBit w).toNat):=by
 cases l with
 | nil=>rfl
 | cons c r=>
  injection h with h1 h2
  have h1:c.testBit w = decide (0 < n):=h1
  have:=d4q k r c n h1 h2
  show (c ||| (k &&& k)).testBit w :: (c9a k c r).map _ = _
  rw [this,Nat.testBit_or,Nat.testBit_and,h1]
  show _ = decide (0 < n + (k.testBit w).toNat) :: un r.length (n + (k.testBit w).toNat - 1)
  cases k.testBit w <;> simp
noncomputable def cn (l:List Bool):Nat:=l.countP id
theorem c1g:∀ (ks l:List Nat) (n:Nat),l.map (·.testBit w) = un l.length n->(d4p l ks).map (·.testBit w) = un l.length (n + cn (ks.map (·.testBit w))) /\ (d4p l ks).length = l.length
 | [],_,_,h=>⟨h,rfl⟩
 | k :: ks,l,n,h=>by
  have h1:=d1r k n l h
  rw [<- b3f k l k] at h1
  obtain ⟨h2,h3⟩:=c1g ks (c9a k k l) _ h1
  rw [b3f] at h2 h3
  refine ⟨?_,h3⟩
  show (d4p (c9a k k l) ks).map _ = _
  rw [h2]
  congr 1
  unfold cn
  rw [List.map_cons,List.countP_cons]
  cases k.testBit w <;> simp <;> lia
end
end
section
noncomputable def upf (i:Nat) (L:List Nat) (a:Nat):Nat:=if a ||| 2 ^ i ∈ L then a else a ||| 2 ^ i
noncomputable def phi (L:List Nat):Nat->Nat->Nat
 | 0,a=>a
 | i + 1,a=>upf i (L.map (phi L i)) (phi L i a)
noncomputable def ups (L:List Nat) (i:Nat):List Nat:=L.map (phi L i)
theorem b3g (L:List Nat) (i:Nat):ups L (i + 1) = (ups L i).map (upf i (ups L i)):=by
 unfold ups; rw [List.map_map]; rfl
noncomputable def Cl1 (c:Nat) (L:List Nat):Prop:=∀ x ∈ L,x ||| c ∈ L
theorem a7w (a b:Nat):(a ||| b) ||| b = a ||| b:=by rw [Nat.or_assoc,Nat.or_self]
theorem b8h (a b c:Nat):(a ||| b) ||| c = (a ||| c) ||| b:=by rw [Nat.or_assoc,Nat.or_comm b,<- Nat.or_assoc]
theorem d7w {i a:Nat} {L:List Nat} (h:a ∈ L):a ||| 2 ^ i ∈ L.map (upf i L):=by
 by_cases q:a ||| 2 ^ i ∈ L
 ·exact List.mem_map.mpr ⟨_,q,by unfold upf; rw [a7w,if_pos q]⟩
 ·exact List.mem_map.mpr ⟨_,h,by unfold upf; rw [if_neg q]⟩
theorem d9l {i a:Nat} {L:List Nat} (h:a ∈ L) (q:a ||| 2 ^ i ∈ L):a ∈ L.map (upf i L):=
 List.mem_map.mpr ⟨_,h,by unfold upf; rw [if_pos q]⟩
theorem b3h {i y:Nat} {L:List Nat} (h:y ∈ L.map (upf i L)):(y ∈ L /\ y ||| 2 ^ i ∈ L) ∨ ∃ a ∈ L,y = a ||| 2 ^ i:=by
 obtain ⟨a,ha,rfl⟩:=List.mem_map.mp h
 unfold upf
 by_cases q:a ||| 2 ^ i ∈ L
 ·rw [if_pos q]; exact .inl ⟨ha,q⟩
 ·rw [if_neg q]; exact .inr ⟨a,ha,rfl⟩
theorem c7a {c i:Nat} {L:List Nat} (h:Cl1 c L):Cl1 c (L.map (upf i L)):=fun y hy=>by
 rcases b3h hy with ⟨h1,h2⟩ | ⟨a,ha,rfl⟩
 ·exact d9l (h y h1) (by rw [b8h]; exact h _ h2)
 ·rw [b8h]; exact d7w (h a ha)
theorem c7b (i:Nat) (L:List Nat):Cl1 (2 ^ i) (L.map (upf i L)):=fun y hy=>by
 rcases b3h hy with ⟨h1,_⟩ | ⟨a,ha,rfl⟩
 ·exact d7w h1
 ·rw [a7w]; exact d7w ha
theorem b8i {c:Nat} {L:List Nat} (h:Cl1 c L):∀ i,Cl1 c (ups L i)
 | 0=>by unfold ups; rw [show phi L 0 = id from rfl,List.map_id]; exact h
 | i + 1=>by rw [b3g]; exact c7a (b8i h i)
theorem b8j {L:List Nat}:∀ {i m:Nat},i < m->Cl1 (2 ^ i) (ups L m)
 | i,m + 1,h=>by
  rw [b3g]
  by_cases q:i = m
  ·subst q; exact c7b _ _
  ·exact c7a (b8j (by lia))
theorem N7 (a i j:Nat):(a ||| 2 ^ i).testBit j = (a.testBit j || decide (i = j)):=by rw [Nat.testBit_or,Nat.testBit_two_pow]
theorem b8k {i j a:Nat} {L:List Nat} (h:j ≠ i):(upf i L a).testBit j = a.testBit j:=by
 unfold upf
 split
 ·rfl
 ·rw [N7,decide_eq_false (Ne.symm h),Bool.or_false]
theorem d1s {i j a:Nat} {L:List Nat} (h:a.testBit j = true):(upf i L a).testBit j = true:=by
 unfold upf
 split
 ·exact h
 ·rw [N7,h,Bool.true_or]
theorem a4x {L:List Nat} {a:Nat}:∀ {i j:Nat},i <= j->(phi L i a).testBit j = a.testBit j
 | 0,_,_=>rfl
 | i + 1,j,h=>by
  show (upf _ _ _).testBit j = _
  rw [b8k (by lia),a4x (by lia)]
theorem b3i {L:List Nat} {a j:Nat}:∀ {i m:Nat},i <= m->j < i->(phi L m a).testBit j = (phi L i a).testBit j
 | i,m,h,k=>by
  by_cases q:i = m
  ·rw [q]
  ·match m,h,q with
   | 0,h,q=>exact absurd (Nat.le_zero.mp h) q
   | m + 1,h,q=>
    show (upf _ _ _).testBit j = _
    rw [b8k (by lia),b3i (by lia) k]
theorem c1h {L:List Nat} {a j:Nat} (h:a.testBit j = true):∀ i,(phi L i a).testBit j = true
 | 0=>h
 | i + 1=>d1s (c1h h i)
theorem a3b {P:Nat->Bool}:∀ {m k:Nat},k < m->P k = true->∃ i,i < m /\ P i = true /\ ∀ j,i < j->j < m->P j = false
 | m + 1,k,hk,h=>by
  by_cases q:P m = true
  ·exact ⟨m,Nat.lt_succ_self m,q,fun j h1 h2=>absurd h1 (by lia)⟩
  ·have hkm:k < m:=by
    rcases Nat.lt_or_ge k m with w | w
    ·exact w
    ·exact absurd (show P m = true by rw [show m = k by lia]; exact h) q
   obtain ⟨i,h1,h2,h3⟩:=a3b hkm h
   refine ⟨i,by lia,h2,fun j h4 h5=>?_⟩
   by_cases w:j = m
   ·subst w; exact Bool.eq_false_iff.mpr q
   ·exact h3 j h4 (by lia)
noncomputable def sub (a b:Nat):Prop:=∀ j,a.testBit j = true->b.testBit j = true
theorem c1i {a b c:Nat} (h1:sub a c) (h2:sub b c):sub (a ||| b) c:=fun j h=>by
 rw [Nat.testBit_or,Bool.or_eq_true] at h
 exact h.elim (h1 j) (h2 j)
theorem a1r {L:List Nat} {m a c:Nat} (hL:∀ x ∈ L,∀ y ∈ L,x ||| y ∈ L) (hm:∀ x ∈ L,x < 2 ^ m) (ha:a ∈ L) (hc:c ∈ L) (hac:sub a c) (hs:sub c (phi L m a)):a = c:=by
 by_cases hne:a = c
 ·exact hne
 exfalso
 obtain ⟨k,hk⟩ : ∃ k,(c.testBit k && !a.testBit k) = true:=by
  false_or_by_contra
  rename_i w
  refine hne (Nat.eq_of_testBit_eq fun j=>?_)
  cases h1:a.testBit j with
  | true=>exact (hac j h1).symm
  | false=>
   cases h2:c.testBit j with
   | false=>rfl
   | true=>exact absurd ⟨j,by rw [h1,h2]; rfl⟩ w
 have hkm:k < m:=by
  rcases Nat.lt_or_ge k m with w | w
  ·exact w
  ·have:c.testBit k = false:=Nat.testBit_lt_two_pow (Nat.lt_of_lt_of_le (hm c hc) (Nat.pow_le_pow_right (by decide) w))
   rw [this] at hk; cases hk
 obtain ⟨i,him,hi,hi2⟩:=a3b (P:=fun k=>c.testBit k && !a.testBit k) hkm hk
 obtain ⟨hci,hai⟩:=Bool.and_eq_true_iff.mp hi
 have hai:a.testBit i = false:=by simpa using hai
 have hb:phi L i a ||| c = phi L i a ||| 2 ^ i:=Nat.eq_of_testBit_eq fun j=>by
  rw [N7,Nat.testBit_or]
  cases hcj:c.testBit j with
  | false=>
   have:i ≠ j:=fun q=>by subst q; rw [hci] at hcj; cases hcj
   rw [decide_eq_false this]
  | true=>
   rcases Nat.lt_trichotomy j i with w | w | w
   ·have:=hs j hcj
    rw [b3i (Nat.le_of_lt him) w] at this
    rw [this]; rfl
   ·rw [w,decide_eq_true rfl]
   ·have hjm:j < m:=by
     rcases Nat.lt_or_ge j m with w | w
     ·exact w
     ·have:c.testBit j = false:=Nat.testBit_lt_two_pow (Nat.lt_of_lt_of_le (hm c hc) (Nat.pow_le_pow_right (by decide) w))
      rw [this] at hcj; cases hcj
    have:=hi2 j w hjm
    rw [hcj,Bool.true_and,Bool.not_eq_false'] at this
    rw [c1h this]; rfl
 have hmem:phi L i a ||| 2 ^ i ∈ ups L i:=by
  rw [<- hb]
  exact b8i (fun x hx=>hL x hx c hc) i _ (List.mem_map.mpr ⟨a,ha,rfl⟩)
 have h1:phi L (i + 1) a = phi L i a:=by
  show upf i (ups L i) (phi L i a) = _
  unfold upf; rw [if_pos hmem]
 have h2:=hs i hci
 rw [b3i (show i + 1 <= m by lia) (Nat.lt_succ_self i),h1,a4x (Nat.le_refl i),hai] at h2
 cases h2
noncomputable def iv:Nat->Nat->Nat->List Nat
 | 0,_,_=>[0]
 | m + 1,a,b=>if a.testBit m then (iv m a b).map (· + 2 ^ m) else if b.testBit m then iv m a b ++ (iv m a b).map (· + 2 ^ m) else iv m a b
noncomputable def pc:Nat->Nat->Nat
 | 0,_=>0
 | m + 1,x=>pc m x + (x.testBit m).toNat
theorem b6c {a b:Nat}:∀ {m x:Nat},x ∈ iv m a b->x < 2 ^ m
 | 0,_,h=>Nat.lt_of_le_of_lt (Nat.le_of_eq (List.mem_singleton.mp h)) (show 0 < 2 ^ 0 by decide)
 | m + 1,x,h=>by
  unfold iv at h
  have k:∀ y ∈ (iv m a b).map (· + 2 ^ m),y < 2 ^ (m + 1):=fun y hy=>by
   obtain ⟨z,hz,rfl⟩:=List.mem_map.mp hy
   have:=b6c hz
   rw [Nat.pow_succ]; lia
  have k2:∀ y ∈ iv m a b,y < 2 ^ (m + 1):=fun y hy=>by
   have:=b6c hy
   rw [Nat.pow_succ]; lia
  split at h
  ·exact k x h
  ·split at h
   ·exact (List.mem_append.mp h).elim (k2 x) (k x)
   ·exact k2 x h
theorem c7c {m x j:Nat} (h:x < 2 ^ m):(x + 2 ^ m).testBit j = (x.testBit j || decide (m = j)):=by
 have e:x + 2 ^ m = 2 ^ m ||| x:=by
  have:=Nat.two_pow_add_eq_or_of_lt h 1
  rw [Nat.mul_one] at this
  rw [<- this,Nat.add_comm]
 rw [e,Nat.testBit_or,Nat.testBit_two_pow,Bool.or_comm]
theorem c1j {a b:Nat} (hab:sub a b):∀ {m x:Nat},x ∈ iv m a b->∀ j,j < m->(a.testBit j = true->x.testBit j = true) /\ (x.testBit j = true->b.testBit j = true)
 | m + 1,x,h,j,hj=>by
  have ih:∀ {y:Nat},y ∈ iv m a b->j < m->(a.testBit j = true->y.testBit j = true) /\ (y.testBit j = true->b.testBit j = true):=fun hy hm=>c1j hab hy j hm
  have top:∀ {y:Nat},y ∈ iv m a b->y.testBit m = false:=fun hy=>Nat.testBit_lt_two_pow (b6c hy)
  have low:∀ {y:Nat},y ∈ iv m a b->a.testBit m = false->(a.testBit j = true->y.testBit j = true) /\ (y.testBit j = true->b.testBit j = true):=fun {y} hy ha=>by
   by_cases q:j = m
   ·subst q; rw [ha,top hy]; exact ⟨(fun h=>nomatch h),(fun h=>nomatch h)⟩
   ·exact ih hy (by lia)
  have high:∀ {y:Nat},y ∈ (iv m a b).map (· + 2 ^ m)->b.testBit m = true->(a.testBit j = true->y.testBit j = true) /\ (y.testBit j = true->b.testBit j = true):=fun {y} hy hb=>by
   obtain ⟨z,hz,rfl⟩:=List.mem_map.mp hy
   rw [c7c (b6c hz)]
   by_cases q:j = m
   ·subst q; rw [decide_eq_true rfl,Bool.or_true]; exact ⟨fun u_=>rfl,fun u_=>hb⟩
   ·rw [decide_eq_false (Ne.symm q),Bool.or_false]; exact ih hz (by lia)
  unfold iv at h
  split at h
  ·rename_i ha; exact high h (hab m ha)
  ·rename_i ha
   have ha:a.testBit m = false:=Bool.eq_false_iff.mpr ha
   split at h
   ·rename_i hb
    exact (List.mem_append.mp h).elim (fun h=>low h ha) (fun h=>high h hb)
   ·exact low h ha
theorem F8 {α β:Type} {f:α->β}:∀ {l:List α},(∀ x ∈ l,∀ y ∈ l,f x = f y->x = y)->l.Nodup->(l.map f).Nodup:=fun {l} h k=>by
 unfold List.Nodup at k ⊢
 rw [List.pairwise_map]
 exact k.imp_of_mem fun ha hb hne q=>hne (h _ ha _ hb q)
theorem a1s {a b:Nat}:∀ {m:Nat},(iv m a b).Nodup
 | 0=>List.nodup_cons.mpr ⟨List.not_mem_nil,List.Pairwise.nil⟩
 | m + 1=>by
  have k:((iv m a b).map (· + 2 ^ m)).Nodup:=F8 (fun x _ y _ (h:x + 2 ^ m = y + 2 ^ m)=>by lia) a1s
  unfold iv
  split
  ·exact k
  ·split
   ·refine List.nodup_append.mpr ⟨a1s,k,fun x hx y hy q=>?_⟩
    obtain ⟨z,hz,rfl⟩:=List.mem_map.mp hy
    have:=b6c hx
    lia
   ·exact a1s
theorem c9q {a b:Nat} (hab:sub a b):∀ m,pc m a <= pc m b
 | 0=>Nat.le_refl _
 | m + 1=>by
  show pc m a + _ <= pc m b + _
  have:=c9q hab m
  have:=hab m
  cases h1:a.testBit m <;> cases h2:b.testBit m <;> simp_all <;> lia
theorem c7d {a b:Nat} (hab:sub a b):∀ m,(iv m a b).length = 2 ^ (pc m b - pc m a)
 | 0=>rfl
 | m + 1=>by
  have ih:=c7d hab m
  have h3:=c9q hab m
  have:=hab m
  unfold iv pc
  cases h1:a.testBit m <;> cases h2:b.testBit m
  ·simpa using ih
  ·simp only [Bool.false_eq_true,if_false,if_true,List.length_append,List.length_map,ih,Bool.toNat_true,Bool.toNat_false,Nat.add_zero]
   rw [show pc m b + 1 - pc m a = (pc m b - pc m a) + 1 from Nat.succ_sub h3,Nat.pow_succ]; exact (Nat.mul_two _).symm
  ·rw [h1,h2] at this; exact absurd (this rfl) (by decide)
  ·simp only [if_true,List.length_map,ih,Bool.toNat_true]
   exact congrArg (2 ^ ·) (Nat.add_sub_add_right _ 1 _).symm
theorem R9 (L:List Nat) (a m:Nat):sub a (phi L m a):=fun u_ h=>c1h h m
theorem d1t {L:List Nat} {m:Nat} (hn:L.Nodup) (hL:∀ x ∈ L,∀ y ∈ L,x ||| y ∈ L) (hm:∀ x ∈ L,x < 2 ^ m):(L.map fun a=>2 ^ (pc m (phi L m a) - pc m a)).sum <= 2 ^ m:=by
 have e:(L.map fun a=>2 ^ (pc m (phi L m a) - pc m a)).sum = (L.flatMap fun a=>iv m a (phi L m a)).length:=by
  rw [List.length_flatMap]
  exact congrArg List.sum (List.map_congr_left fun a u_=>(c7d (R9 L a m) m).symm)
 rw [e,<- List.length_range (n:=2 ^ m)]
 refine List.Nodup.length_le_of_subset ?_ fun x hx=>?_
 ·refine List.pairwise_flatMap.mpr ⟨fun a u_=>a1s,hn.imp_of_mem fun {a b} ha hb hne x hx y hy q=>hne ?_⟩
  subst q
  have hhigh:∀ {c j:Nat},c < 2 ^ m->c.testBit j = true->j < m:=fun {c j} hc hj=>by
   rcases Nat.lt_or_ge j m with w | w
   ·exact w
   ·rw [Nat.testBit_lt_two_pow (Nat.lt_of_lt_of_le hc (Nat.pow_le_pow_right (by decide) w))] at hj; cases hj
  have xm:=b6c hx
  have pa:=c1j (R9 L a m) hx
  have pb:=c1j (R9 L b m) hy
  have ax:sub a x:=fun j h=>(pa j (hhigh (hm a ha) h)).1 h
  have bx:sub b x:=fun j h=>(pb j (hhigh (hm b hb) h)).1 h
  have xa:sub x (phi L m a):=fun j h=>(pa j (hhigh xm h)).2 h
  have xb:sub x (phi L m b):=fun j h=>(pb j (hhigh xm h)).2 h
  have h0:=c1i ax bx
  have h1:=a1r hL hm ha (hL a ha b hb) (fun j h=>by rw [Nat.testBit_or,h,Bool.true_or]) (fun j h=>xa j (h0 j h))
  have h2:=a1r hL hm hb (hL a ha b hb) (fun j h=>by rw [Nat.testBit_or,h,Bool.or_true]) (fun j h=>xb j (h0 j h))
  exact h1.trans h2.symm
 ·obtain ⟨a,_,hx⟩:=List.mem_flatMap.mp hx
  exact List.mem_range.mpr (b6c hx)
end
section
theorem b0h (j:Nat):j + 1 <= 2 ^ j:=by
 induction j with
 | zero=>decide
 | succ j ih=>rw [Nat.pow_succ]; lia
theorem d6n (d k:Nat):2 ^ k * (d + 1) <= 2 ^ d + k * 2 ^ k:=by
 rcases Nat.lt_or_ge d k with h | h
 ·exact Nat.le_trans (by rw [Nat.mul_comm]; exact Nat.mul_le_mul_right _ h) (Nat.le_add_left _ _)
 ·obtain ⟨j,rfl⟩:=Nat.exists_eq_add_of_le h
  have:=Nat.mul_le_mul_left (2 ^ k) (b0h j)
  rw [<- Nat.pow_add] at this
  have e:2 ^ k * (k + j + 1) = 2 ^ k * (j + 1) + k * 2 ^ k:=by
   rw [Nat.mul_comm k,<- Nat.mul_add]; congr 1; lia
  lia
theorem a7x (k:Nat):∀ l:List Nat,2 ^ k * (l.sum + l.length) <= (l.map (2 ^ ·)).sum + l.length * (k * 2 ^ k)
 | []=>by simp
 | d :: l=>by
  have h1:=a7x k l
  have h2:=d6n d k
  simp only [List.sum_cons,List.map_cons,List.length_cons]
  have e:2 ^ k * (d + l.sum + (l.length + 1)) = 2 ^ k * (d + 1) + 2 ^ k * (l.sum + l.length):=by rw [<- Nat.mul_add]; congr 1; lia
  have e2:(l.length + 1) * (k * 2 ^ k) = l.length * (k * 2 ^ k) + k * 2 ^ k:=Nat.succ_mul _ _
  lia
theorem c7e {l:List Nat} {m k:Nat} (h:(l.map (2 ^ ·)).sum <= 2 ^ m) (hk:k <= m):l.sum + l.length <= 2 ^ (m - k) + l.length * k:=by
 have h1:=Nat.le_trans (a7x k l) (Nat.add_le_add_right h _)
 have e:2 ^ m + l.length * (k * 2 ^ k) = 2 ^ k * (2 ^ (m - k) + l.length * k):=by
  rw [Nat.mul_add,<- Nat.pow_add,Nat.add_sub_cancel' hk,<- Nat.mul_assoc,Nat.mul_comm (2 ^ k)]
 rw [e] at h1
 exact Nat.le_of_mul_le_mul_left h1 (Nat.two_pow_pos k)
noncomputable def eg:Nat->Nat
 | n=>((List.range n).map fun i=>pc 5 i).sum
theorem d1u:∀ b,b <= 32->∀ a,a <= b->a + b <= 32->eg a + eg b + a <= eg (a + b):=by
 have:(List.range 33).all (fun b=>(List.range (b + 1)).all fun a=>decide (a + b <= 32->eg a + eg b + a <= eg (a + b))) = true:=by decide +kernel
 intro b hb a ha
 have:=List.all_eq_true.mp (List.all_eq_true.mp this b (List.mem_range.mpr (by lia))) a (List.mem_range.mpr (by lia))
 exact of_decide_eq_true this
theorem M3 (m x:Nat):pc m x <= m:=by
 induction m with
 | zero=>exact Nat.le_refl _
 | succ m ih=>
  show pc m x + _ <= _
  cases x.testBit m <;> simp <;> lia
theorem d1v {x m k:Nat} (h:k <= m):pc k (x % 2 ^ m) = pc k x:=by
 induction k with
 | zero=>rfl
 | succ k ih=>
  show pc k _ + _ = pc k _ + _
  rw [ih (by lia),Nat.testBit_mod_two_pow,decide_eq_true (show k < m by lia),Bool.true_and]
theorem a3c {f:Nat->Nat} (p:Nat->Bool):∀ l:List Nat,(l.map f).sum = ((l.filter fun x=>!p x).map f).sum + ((l.filter p).map f).sum
 | []=>rfl
 | x :: l=>by
  have:=a3c (f:=f) p l
  cases h:p x <;> simp [h,this] <;> lia
theorem K9 (p:Nat->Bool):∀ l:List Nat,l.length = (l.filter fun x=>!p x).length + (l.filter p).length
 | []=>rfl
 | x :: l=>by
  have:=K9 p l
  cases h:p x <;> simp [h] <;> lia
theorem b8l (f:Nat->Nat) (c:Nat):∀ l:List Nat,(l.map fun x=>f x + c).sum = (l.map f).sum + l.length * c
 | []=>by simp
 | x :: l=>by
  have:=b8l f c l
  simp only [List.map_cons,List.sum_cons,List.length_cons,Nat.succ_mul]; lia
theorem b3j:∀ (m:Nat) (U:List Nat),U.Nodup->(∀ x ∈ U,x < 2 ^ m)->(∀ i,i < m->Cl1 (2 ^ i) U)->U.length <= 32->(U.map fun x=>m - pc m x).sum <= eg U.length
 | 0,U,_,_,_,_=>by
  have:∀ l:List Nat,(l.map fun x=>0 - pc 0 x).sum = 0:=fun l=>by induction l with
   | nil=>rfl
   | cons _ l ih=>rw [List.map_cons,List.sum_cons,ih]; rfl
  rw [this]; exact Nat.zero_le _
 | m + 1,U,hn,hm,hc,hl=>by
  let U0:=U.filter fun x=>!x.testBit m
  let V:=U.filter fun x=>x.testBit m
  let U1:=V.map (· % 2 ^ m)
  have n0:U0.Nodup:=hn.sublist List.filter_sublist
  have nV:V.Nodup:=hn.sublist List.filter_sublist
  have dec:∀ x,x < 2 ^ (m + 1)->x = x % 2 ^ m + (if x.testBit m then 2 ^ m else 0):=fun x hx=>by
   have:=Nat.mod_add_div x (2 ^ m)
   have hd:x / 2 ^ m < 2:=Nat.div_lt_of_lt_mul (by rw [<- Nat.pow_succ]; exact hx)
   have hb:x.testBit m = decide (x / 2 ^ m % 2 = 1):=Nat.testBit_eq_decide_div_mod_eq
   rw [hb]
   rcases (show x / 2 ^ m = 0 ∨ x / 2 ^ m = 1 by generalize x / 2 ^ m = e at hd; lia) with q | q
   ·rw [q] at this ⊢; simp at this ⊢; exact this.symm
   ·rw [q] at this ⊢; simp at this ⊢; lia
  have n1:U1.Nodup:=F8 (fun x hx y hy q=>by
   have hx2:=List.mem_filter.mp hx
   have hy2:=List.mem_filter.mp hy
   rw [dec x (hm x hx2.1),dec y (hm y hy2.1),hx2.2,hy2.2,q]) nV
  have m0:∀ x ∈ U0,x < 2 ^ m:=fun x hx=>by
   have h2:=List.mem_filter.mp hx
   have:=dec x (hm x h2.1)
   have hb:x.testBit m = false:=by simpa using h2.2
   rw [hb] at this
   have:=Nat.mod_lt x (Nat.two_pow_pos m)
   simp at *; lia
  have m1:∀ x ∈ U1,x < 2 ^ m:=fun x hx=>by
   obtain ⟨y,_,rfl⟩:=List.mem_map.mp hx
   exact Nat.mod_lt _ (Nat.two_pow_pos m)
  have c0:∀ i,i < m->Cl1 (2 ^ i) U0:=fun i hi x hx=>by
   have h2:=List.mem_filter.mp hx
   exact List.mem_filter.mpr ⟨hc i (by lia) x h2.1,by rw [N7,decide_eq_false (show ¬ i = m by lia),Bool.or_false]; exact h2.2⟩
  have c1:∀ i,i < m->Cl1 (2 ^ i) U1:=fun i hi x hx=>by
   obtain ⟨y,hy,rfl⟩:=List.mem_map.mp hx
   have h2:=List.mem_filter.mp hy
   refine List.mem_map.mpr ⟨y ||| 2 ^ i,List.mem_filter.mpr ⟨hc i (by lia) y h2.1,by rw [N7,h2.2]; rfl⟩,Nat.eq_of_testBit_eq fun j=>?_⟩
   rw [N7,Nat.testBit_mod_two_pow,Nat.testBit_mod_two_pow,N7]
   by_cases q:i = j
   ·subst q; rw [decide_eq_true hi,decide_eq_true rfl]; simp
   ·rw [decide_eq_false q]; simp
  have hle:U0.length <= U1.length:=List.Nodup.length_le_of_subset n0 fun x hx=>by
   have h2:=List.mem_filter.mp hx
   refine List.mem_map.mpr ⟨x ||| 2 ^ m,List.mem_filter.mpr ⟨hc m (Nat.lt_succ_self m) x h2.1,by rw [N7,decide_eq_true rfl,Bool.or_true]⟩,Nat.eq_of_testBit_eq fun j=>?_⟩
   rw [Nat.testBit_mod_two_pow,N7]
   by_cases q:j < m
   ·rw [decide_eq_true q,decide_eq_false (show ¬ m = j by lia)]; simp
   ·rw [decide_eq_false q,Nat.testBit_lt_two_pow (Nat.lt_of_lt_of_le (m0 x hx) (Nat.pow_le_pow_right (by decide) (Nat.le_of_not_lt q)))]; rfl
  have hlen:U.length = U0.length + V.length:=K9 (fun x=>x.testBit m) U
  have hl1:U1.length = V.length:=List.length_map _
  have i0:=b3j m U0 n0 m0 c0 (by lia)
  have i1:=b3j m U1 n1 m1 c1 (by show U1.length <= 32; rw [hl1]; lia)
  have e1:(U1.map fun x=>m - pc m x) = V.map fun x=>m + 1 - pc (m + 1) x:=by
   show ((V.map (· % 2 ^ m)).map _) = _
   rw [List.map_map]
   refine List.map_congr_left fun x hx=>?_
   have h2:x.testBit m = true:=(List.mem_filter.mp hx).2
   show m - pc m (x % 2 ^ m) = m + 1 - (pc m x + (x.testBit m).toNat)
   rw [d1v (Nat.le_refl m),h2]
   show _ = m + 1 - (pc m x + 1)
   lia
  have e0:(U0.map fun x=>m + 1 - pc (m + 1) x) = U0.map fun x=>(m - pc m x) + 1:=by
   refine List.map_congr_left fun x hx=>?_
   have h2:x.testBit m = false:=by simpa using (List.mem_filter.mp hx).2
   show m + 1 - (pc m x + (x.testBit m).toNat) = _
   rw [h2]
   have:=M3 m x
   show m + 1 - (pc m x + 0) = _
   lia
  rw [a3c (fun x=>x.testBit m) U]
  show (U0.map fun x=>m + 1 - pc (m + 1) x).sum + (V.map fun x=>m + 1 - pc (m + 1) x).sum <= _
  rw [e0,b8l,<- e1]
  have:=d1u U1.length (by rw [hl1]; lia) U0.length hle (by rw [hl1]; show U0.length + V.length <= 32; lia)
  have hU:U.length = U0.length + U1.length:=by rw [hl1]; exact hlen
  rw [hU]
  lia
theorem b8m (f g:Nat->Nat) (m:Nat):∀ l:List Nat,(∀ x ∈ l,g x <= f x)->(∀ x ∈ l,f x <= m)->l.length * m = (l.map fun x=>m - f x).sum + (l.map fun x=>f x - g x).sum + (l.map g).sum
 | [],_,_=>by simp
 | x :: l,h1,h2=>by
  have:=b8m f g m l (fun y hy=>h1 y (.tail _ hy)) (fun y hy=>h2 y (.tail _ hy))
  have a:=h1 x (.head _)
  have b:=h2 x (.head _)
  have e:m = (m - f x) + (f x - g x) + g x:=by rw [Nat.add_assoc,Nat.sub_add_cancel a,Nat.sub_add_cancel b]
  rw [List.map_cons,List.map_cons,List.map_cons,List.sum_cons,List.sum_cons,List.sum_cons,List.length_cons,Nat.succ_mul,this]
  exact (congrArg (_ + ·) e).trans (by ac_rfl)
theorem d1w:∀ n,1 <= n->n <= 32->∃ q,q <= 12 /\ n * q + n - eg n - 2 ^ q <= 81 /\ n ^ n <= 4 ^ (n * q + n - eg n - 2 ^ q):=by
 have:(List.range 33).all (fun n=>n == 0 || (List.range 13).any fun q=>decide (n * q + n - eg n - 2 ^ q <= 81) && Nat.ble (n ^ n) (4 ^ (n * q + n - eg n - 2 ^ q))) = true:=by decide +kernel
 intro n h1 h2
 have:=List.all_eq_true.mp this n (List.mem_range.mpr (by lia))
 rcases Bool.or_eq_true_iff.mp this with q | q
 ·have:=beq_iff_eq.mp q; lia
 ·obtain ⟨q,hq,h⟩:=List.any_eq_true.mp q
  obtain ⟨a,b⟩:=Bool.and_eq_true_iff.mp h
  have:=List.mem_range.mp hq
  exact ⟨q,by lia,of_decide_eq_true a,Nat.le_of_ble_eq_true b⟩
theorem b0i {A B C n x y e p:Nat} (hg:B + n <= p + x) (hm:A <= e) (tot:x + y = A + B + C):y + n - e - p <= C:=by
 lia
theorem d1x {L:List Nat} (hn:L.Nodup) (hL:∀ x ∈ L,∀ y ∈ L,x ||| y ∈ L) (hm:∀ x ∈ L,x < 2 ^ 12) (h1:1 <= L.length) (h32:L.length <= 32):L.length ^ L.length <= 4 ^ min (L.map (pc 12)).sum 81:=by
 obtain ⟨q,hq,hq2,hq3⟩:=d1w _ h1 h32
 have hs:=d1t hn hL hm
 have hg:=c7e (l:=L.map fun a=>pc 12 (phi L 12 a) - pc 12 a) (m:=12) (k:=12 - q) (by rw [List.map_map]; exact hs) (Nat.sub_le _ _)
 rw [List.length_map,Nat.sub_sub_self hq] at hg
 have hU:(ups L 12).Nodup:=by
  refine F8 (fun x hx y hy e=>?_) hn
  have sx:sub (x ||| y) (phi L 12 x):=c1i (R9 L x 12) (by rw [e]; exact R9 L y 12)
  have sy:sub (x ||| y) (phi L 12 y):=c1i (by rw [<- e]; exact R9 L x 12) (R9 L y 12)
  have a:=a1r hL hm hx (hL x hx y hy) (fun j h=>by rw [Nat.testBit_or,h,Bool.true_or]) sx
  have b:=a1r hL hm hy (hL x hx y hy) (fun j h=>by rw [Nat.testBit_or,h,Bool.or_true]) sy
  exact a.trans b.symm
 have hUm:∀ x ∈ ups L 12,x < 2 ^ 12:=fun x hx=>by
  obtain ⟨a,ha,rfl⟩:=List.mem_map.mp hx
  refine Nat.lt_pow_two_of_testBit _ fun j hj=>?_
  rw [a4x hj]
  exact Nat.testBit_lt_two_pow (Nat.lt_of_lt_of_le (hm a ha) (Nat.pow_le_pow_right (by decide) hj))
 have hUl:(ups L 12).length = L.length:=List.length_map _
 have hmiss:=b3j 12 (ups L 12) hU hUm (fun i hi=>b8j hi) (by rw [hUl]; exact h32)
 rw [hUl] at hmiss
 have e:((ups L 12).map fun x=>12 - pc 12 x) = L.map fun a=>12 - pc 12 (phi L 12 a):=by unfold ups; rw [List.map_map]; rfl
 rw [e] at hmiss
 have tot:=b8m (fun a=>pc 12 (phi L 12 a)) (pc 12) 12 L (fun x u_=>c9q (R9 L x 12) 12) (fun x u_=>M3 12 _)
 refine Nat.le_trans hq3 (Nat.pow_le_pow_right (by decide) (Nat.le_min.mpr ⟨?_,hq2⟩))
 have e2:L.length * (12 - q) + L.length * q = L.length * 12:=by rw [<- Nat.mul_add,Nat.sub_add_cancel hq]
 exact b0i hg hmiss (e2.trans tot)
end
section
noncomputable def ths (L:List Nat) (y:Nat):Nat:=L.countP fun u=>u.testBit y
theorem c7f {L K:List Nat} {y:Nat} (hK:K.Nodup) (h:∀ u ∈ K,u ∈ L /\ u.testBit y = true):K.length <= ths L y:=by
 unfold ths
 rw [List.countP_eq_length_filter]
 exact List.Nodup.length_le_of_subset hK fun u hu=>List.mem_filter.mpr (h u hu)
theorem b6d {L K:List Nat} {x:Nat} (hL:L.Nodup) (h:∀ u ∈ L,u.testBit x = false->u ∈ K):L.length <= ths L x + K.length:=by
 unfold ths
 rw [K9 (fun u=>u.testBit x) L,Nat.add_comm,List.countP_eq_length_filter]
 refine Nat.add_le_add_left (List.Nodup.length_le_of_subset (hL.sublist List.filter_sublist) fun u hu=>?_) _
 obtain ⟨h1,h2⟩:=List.mem_filter.mp hu
 exact h u h1 (by simpa using h2)
theorem a3z {a:Nat} (h:a ≠ 0):∃ y,a.testBit y = true:=by
 false_or_by_contra
 rename_i w
 exact h (Nat.eq_of_testBit_eq fun j=>by
  rw [Nat.zero_testBit]
  cases q:a.testBit j with
  | false=>rfl
  | true=>exact absurd ⟨j,q⟩ w)
theorem N8 {a b y:Nat} (h:a.testBit y = true):(a ||| b).testBit y = true:=by rw [Nat.testBit_or,h,Bool.true_or]
theorem W1 {a b y:Nat} (h:b.testBit y = true):(a ||| b).testBit y = true:=by rw [Nat.testBit_or,h,Bool.or_true]
theorem Z7 {a b x:Nat} (h1:a.testBit x = false) (h2:b.testBit x = true):a ≠ b:=fun q=>by rw [q,h2] at h1; cases h1
theorem c7g {a b c:Nat} (h1:a ≠ b) (h2:a ≠ c) (h3:b ≠ c) : [a,b,c].Nodup:=by simp [h1,h2,h3]
theorem d1y {a b c d:Nat} (h1:a ≠ b) (h2:a ≠ c) (h3:a ≠ d) (h4:b ≠ c) (h5:b ≠ d) (h6:c ≠ d) : [a,b,c,d].Nodup:=by simp [h1,h2,h3,h4,h5,h6]
section
variable {L:List Nat} {P Q S x:Nat}
theorem a3d (hn:L.Nodup) (hL:∀ a ∈ L,∀ b ∈ L,a ||| b ∈ L) (hP:P ∈ L) (hQ:Q ∈ L) (hS:S ∈ L) (xP:P.testBit x = false) (xQ:Q.testBit x = false) (xS:S.testBit x = true) (h2:2 <= L.length)
  (hPQ:P ||| Q = Q) (h:∀ u ∈ L,u.testBit x = false->u = 0 ∨ u = P ∨ u = Q):∃ y,L.length <= 2 * ths L y:=by
 by_cases q0:Q = 0
 ·have:=b6d hn (K:=[0]) fun u hu hx=>by
   have p0:P = 0:=by rw [q0,Nat.or_zero] at hPQ; exact hPQ
   rcases h u hu hx with w | w | w <;> simp_all
  exact ⟨x,by simp at this; lia⟩
 by_cases hsm:P = 0 ∨ P = Q
 ·have h3:=b6d hn (K:=[0,Q]) fun u hu hx=>by rcases h u hu hx with w | w | w <;> rcases hsm with v | v <;> simp_all
  obtain ⟨y,hy⟩:=a3z q0
  have h4:=c7f (L:=L) (K:=[Q,Q ||| S]) (y:=y) (by simp; exact Z7 xQ (W1 xS)) (fun u hu=>by
   rcases List.mem_cons.mp hu with w | hu
   ·rw [w]; exact ⟨hQ,hy⟩
   ·rw [List.mem_singleton.mp hu]; exact ⟨hL _ hQ _ hS,N8 hy⟩)
  simp at h3 h4
  by_cases w:L.length <= 3
  ·exact ⟨y,by lia⟩
  ·exact ⟨x,by lia⟩
 ·have p0:P ≠ 0:=fun w=>hsm (.inl w)
  have pq:P ≠ Q:=fun w=>hsm (.inr w)
  have h3:=b6d hn (K:=[0,P,Q]) fun u hu hx=>by simpa using h u hu hx
  obtain ⟨y,hy⟩:=a3z p0
  have hyQ:Q.testBit y = true:=by rw [<- hPQ]; exact N8 hy
  have h4:=c7f (L:=L) (K:=[P,Q,Q ||| S]) (y:=y) (c7g pq (Z7 xP (W1 xS)) (Z7 xQ (W1 xS))) (fun u hu=>by
   simp only [List.mem_cons,List.not_mem_nil,or_false] at hu
   rcases hu with w | w | w <;> rw [w]
   ·exact ⟨hP,hy⟩
   ·exact ⟨hQ,hyQ⟩
   ·exact ⟨hL _ hQ _ hS,N8 hyQ⟩)
  simp at h3 h4
  by_cases w:L.length <= 6
  ·exact ⟨y,by lia⟩
  ·exact ⟨x,by lia⟩
theorem a4y (hn:L.Nodup) (hL:∀ a ∈ L,∀ b ∈ L,a ||| b ∈ L) (hP:P ∈ L) (hQ:Q ∈ L) (hS:S ∈ L) (xP:P.testBit x = false) (xQ:Q.testBit x = false) (xS:S.testBit x = true) (h2:2 <= L.length)
  (h:∀ u ∈ L,u.testBit x = false->u = 0 ∨ u = P ∨ u = Q ∨ u = P ||| Q):∃ y,L.length <= 2 * ths L y:=by
 by_cases c1:P ||| Q = Q
 ·exact a3d hn hL hP hQ hS xP xQ xS h2 c1 fun u hu hx=>by
   rcases h u hu hx with w | w | w | w
   ·exact .inl w
   ·exact .inr (.inl w)
   ·exact .inr (.inr w)
   ·exact .inr (.inr (w.trans c1))
 by_cases c2:P ||| Q = P
 ·exact a3d hn hL hQ hP hS xQ xP xS h2 (by rw [Nat.or_comm]; exact c2) fun u hu hx=>by
   rcases h u hu hx with w | w | w | w
   ·exact .inl w
   ·exact .inr (.inr w)
   ·exact .inr (.inl w)
   ·exact .inr (.inr (w.trans c2))
 have h3:=b6d hn (K:=[0,P,Q,P ||| Q]) fun u hu hx=>by simpa using h u hu hx
 simp at h3
 have xPQ:(P ||| Q).testBit x = false:=by rw [Nat.testBit_or,xP,xQ]; rfl
 by_cases w8:8 <= L.length
 ·exact ⟨x,by lia⟩
 have p0:P ≠ 0:=fun w=>c1 (by rw [w,Nat.zero_or])
 have q0:Q ≠ 0:=fun w=>c2 (by rw [w,Nat.or_zero])
 have three:∀ {R T y:Nat},R ∈ L->T ∈ L->R.testBit x = false->R ≠ P ||| Q->(R ||| (P ||| Q)) = P ||| Q->T.testBit x = true->T.testBit y = true->R.testBit y = true->3 <= ths L y:=fun {R T y} hR hT xR hne hsub xT yT yR=>by
  have hy:(P ||| Q).testBit y = true:=by rw [<- hsub]; exact N8 yR
  exact c7f (K:=[R,P ||| Q,T]) (c7g hne (Z7 xR xT) (Z7 xPQ xT)) (fun u hu=>by
   simp only [List.mem_cons,List.not_mem_nil,or_false] at hu
   rcases hu with w | w | w <;> rw [w]
   ·exact ⟨hR,yR⟩
   ·exact ⟨hL _ hP _ hQ,hy⟩
   ·exact ⟨hT,yT⟩)
 have hPs:P ||| (P ||| Q) = P ||| Q:=by rw [<- Nat.or_assoc,Nat.or_self]
 have hQs:Q ||| (P ||| Q) = P ||| Q:=by rw [Nat.or_comm P,<- Nat.or_assoc,Nat.or_self]
 by_cases w6:L.length <= 6
 ·obtain ⟨y,hy⟩:=a3z p0
  have:=three hP (hL _ hP _ hS) xP (fun w=>c2 w.symm) hPs (W1 xS) (N8 hy) hy
  exact ⟨y,by lia⟩
 let H:=L.filter fun u=>u.testBit x
 have hH:H.length = ths L x:=by unfold ths; rw [List.countP_eq_length_filter]
 let T:=L.foldr (· ||| ·) 0
 have hT0:∀ K:List Nat,K ≠ []->(∀ u ∈ K,u ∈ L)->K.foldr (· ||| ·) 0 ∈ L:=by
  intro K
  induction K with
  | nil=>intro h; exact absurd rfl h
  | cons a K ih=>
   intro _ hK
   cases K with
   | nil=>show a ||| 0 ∈ L; rw [Nat.or_zero]; exact hK a (.head _)
   | cons b K=>exact hL _ (hK a (.head _)) _ (ih (by simp) fun u hu=>hK u (.tail _ hu))
 have hT:T ∈ L:=hT0 L (fun w=>by rw [w] at h2; simp at h2) fun u_ h=>h
 have hTb:∀ u ∈ L,∀ y,u.testBit y = true->T.testBit y = true:=by
  have:∀ K:List Nat,∀ u ∈ K,∀ y,u.testBit y = true->(K.foldr (· ||| ·) 0).testBit y = true:=by
   intro K
   induction K with
   | nil=>intro u hu; cases hu
   | cons a K ih=>
    intro u hu y hy
    rcases List.mem_cons.mp hu with w | hu
    ·rw [w] at hy; exact N8 hy
    ·exact W1 (ih u hu y hy)
  exact this L
 have xT:=hTb S hS x xS
 obtain ⟨X,hX,xX,hXT⟩ : ∃ X ∈ L,X.testBit x = true /\ X ≠ T:=by
  false_or_by_contra
  rename_i w
  have:=List.Nodup.length_le_of_subset (l₁:=H) (l₂:=[T]) (hn.sublist List.filter_sublist) fun u hu=>by
   obtain ⟨a,b⟩:=List.mem_filter.mp hu
   by_cases q:u = T
   ·rw [q]; exact .head _
   ·exact absurd ⟨u,a,b,q⟩ w
  rw [hH] at this
  simp at this
  lia
 have four:∀ {R y:Nat},R ∈ L->R.testBit x = false->R ≠ P ||| Q->(R ||| (P ||| Q)) = P ||| Q->∀ {Z:Nat},Z ∈ L->Z.testBit x = true->Z ≠ T->Z.testBit y = true->R.testBit y = true->4 <= ths L y:=fun {R y} hR xR hne hsub {Z} hZ xZ hZT yZ yR=>by
  have hy:(P ||| Q).testBit y = true:=by rw [<- hsub]; exact N8 yR
  exact c7f (K:=[R,P ||| Q,Z,T]) (d1y hne (Z7 xR xZ) (Z7 xR xT) (Z7 xPQ xZ) (Z7 xPQ xT) hZT) (fun u hu=>by
   simp only [List.mem_cons,List.not_mem_nil,or_false] at hu
   rcases hu with w | w | w | w <;> rw [w]
   ·exact ⟨hR,yR⟩
   ·exact ⟨hL _ hP _ hQ,hy⟩
   ·exact ⟨hZ,yZ⟩
   ·exact ⟨hT,hTb R hR y yR⟩)
 false_or_by_contra
 rename_i no
 have nP:∀ {Z:Nat},Z ∈ L->Z.testBit x = true->Z ≠ T->∀ y,Z.testBit y = true->P.testBit y = true->False:=fun hZ xZ hZT y yZ yP=>no ⟨y,by have:=four hP xP (fun w=>c2 w.symm) hPs hZ xZ hZT yZ yP; lia⟩
 have nQ:∀ {Z:Nat},Z ∈ L->Z.testBit x = true->Z ≠ T->∀ y,Z.testBit y = true->Q.testBit y = true->False:=fun hZ xZ hZT y yZ yQ=>no ⟨y,by have:=four hQ xQ (fun w=>c1 w.symm) hQs hZ xZ hZT yZ yQ; lia⟩
 have eP:X ||| P = T:=by
  obtain ⟨y,hy⟩:=a3z p0
  by_cases q:X ||| P = T
  ·exact q
  ·exact (nP (hL _ hX _ hP) (N8 xX) q y (W1 hy) hy).elim
 have eQ:X ||| Q = T:=by
  obtain ⟨y,hy⟩:=a3z q0
  by_cases q:X ||| Q = T
  ·exact q
  ·exact (nQ (hL _ hX _ hQ) (N8 xX) q y (W1 hy) hy).elim
 have ePQ:P = Q:=Nat.eq_of_testBit_eq fun j=>by
  have e:=congrArg (Nat.testBit · j) (eP.trans eQ.symm)
  simp only [Nat.testBit_or] at e
  cases hx:X.testBit j with
  | false=>rw [hx] at e; simpa using e
  | true=>
   cases h1:P.testBit j with
   | true=>exact (nP hX xX hXT j hx h1).elim
   | false=>
    cases h2:Q.testBit j with
    | true=>exact (nQ hX xX hXT j hx h2).elim
    | false=>rfl
 exact c1 (by rw [ePQ,Nat.or_self])
end
end
section
noncomputable def pr2 (i j:Nat):Nat:=if i < j then j * (j - 1) / 2 + i else i * (i - 1) / 2 + j
noncomputable def tm (k:Nat):Nat:=[3,5,6,9,10,12,17,18,20,24,1,2,4,8,16].getD k 0
noncomputable def d1z (A:Nat):List Nat:=(List.range 5).filter fun i=>!A.testBit i
noncomputable def c9r (A i:Nat):List Nat:=(10 + i) :: ((d1z A).filter (· != i)).map (pr2 i)
noncomputable def full15:Nat:=2 ^ 32768 - 1
noncomputable def d6o (l:List Nat):Nat:=l.foldr (· &&& ·) full15
noncomputable def orN (l:List Nat):Nat:=l.foldr (· ||| ·) 0
noncomputable def d6p (A:Nat):Nat:=d6o ((d1z A).map fun i=>orN ((c9r A i).map (vt 15)))
noncomputable def c2m (g:Nat->Bool) (A:Nat):Bool:=(d1z A).all fun i=>(c9r A i).any g
noncomputable def cls:List Nat:=(List.range 32).map d6p
noncomputable def pick (p:Nat->Bool) (l:List Nat):List Nat:=((List.range 32).filter p).map fun A=>l.getD A 0
noncomputable def u0 (n:Nat):List Nat:=List.replicate n 0
noncomputable def ltU:List Nat->List Nat->Nat
 | a :: l,b :: m=>(b &&& (full15 ^^^ a)) ||| ltU l m
 | _,_=>0
noncomputable def d5g (l:List Nat) (k:Nat):Nat:=(full15 ^^^ vt 15 k) ||| ltU (d4p (u0 16) (pick (fun A=>A &&& tm k != 0) l)) (d4p (u0 16) (pick (fun A=>A &&& tm k == 0) l))
noncomputable def d7x (l:List Nat):Nat:=orN ((List.range 15).map (vt 15)) &&& d6o ((List.range 15).map (d5g l))
theorem d2a:d7x cls = 0:=by decide +kernel
theorem c1k {f g:Nat->Bool}:∀ {l:List Nat},(∀ a ∈ l,f a = g a)->l.all f = l.all g
 | [],_=>rfl
 | a :: l,h=>by rw [List.all_cons,List.all_cons,h a (.head _),c1k fun b hb=>h b (.tail _ hb)]
theorem b6e {f g:Nat->Bool}:∀ {l:List Nat},(∀ a ∈ l,f a = g a)->l.any f = l.any g
 | [],_=>rfl
 | a :: l,h=>by rw [List.any_cons,List.any_cons,h a (.head _),b6e fun b hb=>h b (.tail _ hb)]
section
variable {w:Nat} (hw:w < 32768)
include hw
theorem a4z:full15.testBit w = true:=by
 unfold full15
 rw [Nat.testBit_two_pow_sub_one]; exact decide_eq_true hw
theorem b3k (l:List Nat):(d6o l).testBit w = l.all (·.testBit w):=by
 induction l with
 | nil=>exact a4z hw
 | cons a l ih=>show (a &&& d6o l).testBit w = _; rw [Nat.testBit_and,ih]; rfl
omit hw in
theorem b8n (l:List Nat):(orN l).testBit w = l.any (·.testBit w):=by
 induction l with
 | nil=>exact Nat.zero_testBit w
 | cons a l ih=>show (a ||| orN l).testBit w = _; rw [Nat.testBit_or,ih]; rfl
omit hw in
theorem b3l {A i k:Nat} (hi:i ∈ d1z A) (h:k ∈ c9r A i):k < 15:=by
 have h5:∀ {j},j ∈ d1z A->j < 5:=fun hj=>List.mem_range.mp (List.mem_filter.mp hj).1
 have hp:∀ i < 5,∀ j < 5,j ≠ i->pr2 i j < 15:=by decide
 rcases List.mem_cons.mp h with q | h
 ·have:=h5 hi; lia
 ·obtain ⟨j,hj,rfl⟩:=List.mem_map.mp h
  obtain ⟨h1,h2⟩:=List.mem_filter.mp hj
  exact hp i (h5 hi) j (h5 h1) (by simpa using h2)
theorem c7h (A:Nat):(d6p A).testBit w = c2m w.testBit A:=by
 unfold d6p c2m
 rw [b3k hw,List.all_map]
 refine c1k fun i hi=>?_
 show (orN _).testBit w = _
 rw [b8n,List.any_map]
 exact b6e fun k hk=>b0g 15 k w (b3l hi hk) hw
theorem c1l (p:Nat->Bool):(pick p cls).map (·.testBit w) = ((List.range 32).filter p).map (c2m w.testBit):=by
 unfold pick
 rw [List.map_map]
 refine List.map_congr_left fun A hA=>?_
 have hA:=List.mem_range.mp (List.mem_filter.mp hA).1
 show (cls.getD A 0).testBit w = _
 have:cls.getD A 0 = d6p A:=by
  unfold cls
  rw [List.getD_eq_getElem?_getD,List.getElem?_map,List.getElem?_range hA]; rfl
 rw [this,c7h hw]
theorem d4r:∀ (l m:List Nat) (a b:Nat),l.map (·.testBit w) = un l.length a->m.map (·.testBit w) = un m.length b->l.length = m.length->b <= m.length->(ltU l m).testBit w = decide (a < b)
 | [],[],a,b,_,_,_,hb=>by
  rw [decide_eq_false (fun q:a < b=>Nat.not_lt_zero a (Nat.lt_of_lt_of_le q hb))]; exact Nat.zero_testBit w
 | x :: l,y :: m,a,b,h1,h2,h3,hb=>by
  injection h1 with h1 h1'
  injection h2 with h2 h2'
  have h1:x.testBit w = decide (0 < a):=h1
  have h2:y.testBit w = decide (0 < b):=h2
  have ih:=d4r l m (a - 1) (b - 1) h1' h2' (Nat.succ.inj h3) (Nat.sub_le_of_le_add hb)
  show ((y &&& (full15 ^^^ x)) ||| ltU l m).testBit w = _
  rw [Nat.testBit_or,Nat.testBit_and,Nat.testBit_xor,a4z hw,ih,h1,h2]
  clear ih h1 h2 h1' h2' hb
  cases a with
  | zero=>
   cases b with
   | zero=>rfl
   | succ b=>rw [decide_eq_true (Nat.succ_pos b)]; rfl
  | succ a=>
   cases b with
   | zero=>rfl
   | succ b=>
    rw [decide_eq_true (Nat.succ_pos b),decide_eq_true (Nat.succ_pos a)]
    exact decide_eq_decide.mpr Nat.succ_lt_succ_iff.symm
end
theorem d8y:∀ n,un n 0 = List.replicate n false
 | 0=>rfl
 | n + 1=>by
  show decide (0 < 0) :: un n (0 - 1) = false :: List.replicate n false
  rw [d8y n]; rfl
theorem c7i (w n:Nat):(u0 n).map (·.testBit w) = un (u0 n).length 0:=by
 unfold u0
 rw [List.map_replicate,Nat.zero_testBit,List.length_replicate,d8y]
theorem d2b (f:Nat->Bool) (l:List Nat):cn (l.map f) = l.countP f:=by
 unfold cn; rw [List.countP_map]; rfl
theorem P5 (p q:Nat->Bool):∀ l:List Nat,(l.filter p).countP q = l.countP fun A=>p A && q A
 | []=>rfl
 | a :: l=>by
  have ih:=P5 p q l
  rw [List.countP_cons,List.filter_cons]
  cases h:p a
  ·simp [ih]
  ·simp only [if_true,List.countP_cons,ih,Bool.true_and]
theorem c7j (g:Nat->Bool) (h:∃ k,k < 15 /\ g k = true):∃ k,k < 15 /\ g k = true /\ (List.range 32).countP (fun A=>A &&& tm k == 0 && c2m g A) <= (List.range 32).countP (fun A=>A &&& tm k != 0 && c2m g A):=by
 let w:=ofB g 15
 have hw:w < 32768:=Nat.lt_pow_two_of_testBit (n:=15) _ fun i hi=>by
  show (ofB g 15).testBit i = false
  rw [M2,decide_eq_false (show ¬ i < 15 by lia)]; rfl
 have hg:∀ k,k < 15->w.testBit k = g k:=fun k hk=>by
  show (ofB g 15).testBit k = _
  rw [M2,decide_eq_true hk]; rfl
 have hclo:∀ A,c2m w.testBit A = c2m g A:=fun A=>by
  unfold c2m
  exact c1k fun i hi=>b6e fun k hk=>hg k (b3l hi hk)
 have h0:(d7x cls).testBit w = false:=by rw [d2a]; exact Nat.zero_testBit w
 unfold d7x at h0
 rw [Nat.testBit_and,b8n,b3k hw,List.any_map,List.all_map] at h0
 have ha:(List.range 15).any ((fun x=>x.testBit w) ∘ vt 15) = true:=by
  obtain ⟨k,hk,gk⟩:=h
  exact List.any_eq_true.mpr ⟨k,List.mem_range.mpr hk,by show (vt 15 k).testBit w = true; rw [b0g 15 k w hk hw,hg k hk,gk]⟩
 rw [ha,Bool.true_and] at h0
 obtain ⟨k,hk,hb⟩ : ∃ k,k < 15 /\ (d5g cls k).testBit w = false:=by
  false_or_by_contra
  rename_i c
  refine Bool.false_ne_true (h0.symm.trans (List.all_eq_true.mpr fun k hk=>?_))
  show (d5g cls k).testBit w = true
  cases q:(d5g cls k).testBit w with
  | true=>rfl
  | false=>exact absurd ⟨k,List.mem_range.mp hk,q⟩ c
 unfold d5g at hb
 rw [Nat.testBit_or,Nat.testBit_xor,a4z hw,b0g 15 k w hk hw,hg k hk] at hb
 obtain ⟨hb1,hb2⟩:=Bool.or_eq_false_iff.mp hb
 have gk:g k = true:=by simpa using hb1
 refine ⟨k,hk,gk,?_⟩
 have e1:=c1g (w:=w) (pick (fun A=>A &&& tm k != 0) cls) (u0 16) 0 (c7i w 16)
 have e2:=c1g (w:=w) (pick (fun A=>A &&& tm k == 0) cls) (u0 16) 0 (c7i w 16)
 rw [c1l hw,d2b,Nat.zero_add,P5] at e1 e2
 have l16:(u0 16).length = 16:=rfl
 have small:∀ k < 15,((List.range 32).filter fun A=>A &&& tm k == 0).length <= 16:=by decide
 have hle:(List.range 32).countP (fun A=>A &&& tm k == 0 && c2m w.testBit A) <= 16:=by
  rw [<- P5]
  exact Nat.le_trans List.countP_le_length (small k hk)
 have:=d4r hw _ _ _ _ (e1.1.trans (by rw [e1.2])) (e2.1.trans (by rw [e2.2])) (e1.2.trans e2.2.symm) (by rw [e2.2,l16]; exact hle)
 rw [hb2] at this
 have:=of_decide_eq_false this.symm
 simp only [hclo] at this
 lia
end
section
noncomputable def UA (ss:List Nat) (A:Nat):Nat:=(List.range 5).foldr (fun i r=>(if A.testBit i then ss.getD i 0 else 0) ||| r) 0
theorem b3m {f:Nat->Nat} {j:Nat}:∀ l:List Nat,(l.foldr (fun i r=>f i ||| r) 0).testBit j = l.any fun i=>(f i).testBit j
 | []=>Nat.zero_testBit j
 | a :: l=>by show (f a ||| _).testBit j = _; rw [Nat.testBit_or,b3m l]; rfl
theorem b6f (ss:List Nat) (A j:Nat):(UA ss A).testBit j = (List.range 5).any fun i=>A.testBit i && (ss.getD i 0).testBit j:=by
 unfold UA
 rw [b3m]
 refine b6e fun i u_=>?_
 cases A.testBit i
 ·exact Nat.zero_testBit j
 ·rfl
theorem UA_t {ss:List Nat} {A j:Nat}:(UA ss A).testBit j = true ↔ ∃ i,i < 5 /\ A.testBit i = true /\ (ss.getD i 0).testBit j = true:=by
 rw [b6f,List.any_eq_true]
 constructor
 ·rintro ⟨i,hi,h⟩
  exact ⟨i,List.mem_range.mp hi,(Bool.and_eq_true_iff.mp h).1,(Bool.and_eq_true_iff.mp h).2⟩
 ·rintro ⟨i,hi,h1,h2⟩
  exact ⟨i,List.mem_range.mpr hi,Bool.and_eq_true_iff.mpr ⟨h1,h2⟩⟩
theorem UA_f {ss:List Nat} {A j:Nat}:(UA ss A).testBit j = false ↔ ∀ i,i < 5->A.testBit i = true->(ss.getD i 0).testBit j = false:=by
 constructor
 ·intro h i hi hA
  cases q:(ss.getD i 0).testBit j with
  | false=>rfl
  | true=>rw [UA_t.mpr ⟨i,hi,hA,q⟩] at h; cases h
 ·intro h
  cases q:(UA ss A).testBit j with
  | false=>rfl
  | true=>
   obtain ⟨i,hi,hA,k⟩:=UA_t.mp q
   rw [h i hi hA] at k; cases k
structure Row (ss L:List Nat):Prop where
 nd:L.Nodup
 mem:∀ x,x ∈ L ↔ ∃ A,A < 32 /\ UA ss A = x
noncomputable def ty (ss:List Nat) (x:Nat):Nat:=ofB (fun i=>(ss.getD i 0).testBit x) 5
theorem M9 {ss:List Nat} {x i:Nat} (h:i < 5):(ty ss x).testBit i = (ss.getD i 0).testBit x:=by
 unfold ty; rw [M2,decide_eq_true h]; rfl
theorem c2n (ss:List Nat) (x:Nat):ty ss x < 32:=Nat.lt_pow_two_of_testBit (n:=5) _ fun i hi=>by
 unfold ty; rw [M2,decide_eq_false (show ¬ i < 5 by lia)]; rfl
theorem c7k {ss:List Nat} {A x:Nat}:(A &&& ty ss x != 0) = (UA ss A).testBit x:=by
 cases q:(UA ss A).testBit x with
 | true=>
  obtain ⟨i,hi,h1,h2⟩:=UA_t.mp q
  refine bne_iff_ne.mpr fun e=>?_
  have:=congrArg (Nat.testBit · i) e
  simp only [Nat.testBit_and,M9 hi,h1,h2,Nat.zero_testBit] at this
  cases this
 | false=>
  have h:=UA_f.mp q
  have e:A &&& ty ss x = 0:=Nat.eq_of_testBit_eq fun i=>by
   rw [Nat.testBit_and,Nat.zero_testBit]
   by_cases hi:i < 5
   ·rw [M9 hi]
    cases hA:A.testBit i with
    | false=>rfl
    | true=>rw [h i hi hA]; rfl
   ·have:(ty ss x).testBit i = false:=Nat.testBit_lt_two_pow (Nat.lt_of_lt_of_le (c2n ss x) (Nat.pow_le_pow_right (n:=2) (by decide) (show 5 <= i by lia)))
    rw [this,Bool.and_false]
  rw [e]; rfl
theorem Row.or {ss L:List Nat} (R:Row ss L):∀ a ∈ L,∀ b ∈ L,a ||| b ∈ L:=fun a ha b hb=>by
 obtain ⟨A,hA,rfl⟩:=(R.mem a).mp ha
 obtain ⟨B,hB,rfl⟩:=(R.mem b).mp hb
 refine (R.mem _).mpr ⟨A ||| B,Nat.or_lt_two_pow (n:=5) hA hB,Nat.eq_of_testBit_eq fun j=>?_⟩
 rw [Nat.testBit_or,b6f,b6f,b6f]
 simp only [Nat.testBit_or]
 generalize List.range 5 = l
 induction l with
 | nil=>rfl
 | cons i l ih=>
  simp only [List.any_cons,ih]
  cases A.testBit i <;> cases B.testBit i <;> cases (ss.getD i 0).testBit j <;> simp
theorem d2c {ss:List Nat} {i:Nat} (hi:i < 5):UA ss (2 ^ i) = ss.getD i 0:=Nat.eq_of_testBit_eq fun j=>by
 cases q:(ss.getD i 0).testBit j with
 | true=>exact UA_t.mpr ⟨i,hi,by rw [Nat.testBit_two_pow,decide_eq_true rfl],q⟩
 | false=>
  refine UA_f.mpr fun k hk h=>?_
  rw [Nat.testBit_two_pow] at h
  rw [<- of_decide_eq_true h]; exact q
theorem Row.set {ss L:List Nat} (R:Row ss L) {i:Nat} (hi:i < 5):ss.getD i 0 ∈ L:=
 (R.mem _).mpr ⟨2 ^ i,Nat.pow_lt_pow_right (a:=2) (by decide) hi,d2c hi⟩
theorem d9m (ss:List Nat):UA ss 0 = 0:=Nat.eq_of_testBit_eq fun j=>by
 rw [Nat.zero_testBit]
 exact UA_f.mpr fun i u_ h=>by rw [Nat.zero_testBit] at h; cases h
theorem Row.zero {ss L:List Nat} (R:Row ss L):0 ∈ L:=(R.mem 0).mpr ⟨0,by decide,d9m ss⟩
noncomputable def Clo (ss:List Nat) (A:Nat):Prop:=∀ i,i < 5->A.testBit i = false->∃ x,(ss.getD i 0).testBit x = true /\ (UA ss A).testBit x = false
theorem c7l {ss:List Nat} {A B:Nat} (hA:A < 32) (hB:B < 32) (h:Clo ss A) (k:Clo ss B) (e:UA ss A = UA ss B):A = B:=Nat.eq_of_testBit_eq fun i=>by
 by_cases hi:i < 5
 ·have key:∀ {A B:Nat},Clo ss A->UA ss A = UA ss B->A.testBit i = false->B.testBit i = true->False:=fun {A B} h e a b=>by
   obtain ⟨x,h1,h2⟩:=h i hi a
   rw [e] at h2
   rw [UA_f.mp h2 i hi b] at h1; cases h1
  cases a:A.testBit i <;> cases b:B.testBit i
  ·rfl
  ·exact (key h e a b).elim
  ·exact (key k e.symm b a).elim
  ·rfl
 ·have big:∀ {A:Nat},A < 32->A.testBit i = false:=fun hA=>Nat.testBit_lt_two_pow (Nat.lt_of_lt_of_le hA (Nat.pow_le_pow_right (n:=2) (by decide) (show 5 <= i by lia)))
  rw [big hA,big hB]
noncomputable def cl (ss:List Nat) (u:Nat):Nat:=ofB (fun i=>decide (ss.getD i 0 &&& u = ss.getD i 0)) 5
theorem d2d {a u:Nat}:a &&& u = a ↔ ∀ x,a.testBit x = true->u.testBit x = true:=by
 constructor
 ·intro h x hx
  have:=congrArg (Nat.testBit · x) h
  simp only [Nat.testBit_and,hx,Bool.true_and] at this
  exact this
 ·intro h
  refine Nat.eq_of_testBit_eq fun x=>?_
  rw [Nat.testBit_and]
  cases q:a.testBit x with
  | false=>rfl
  | true=>rw [h x q]; rfl
theorem b8o (ss:List Nat) (u:Nat):cl ss u < 32:=Nat.lt_pow_two_of_testBit (n:=5) _ fun i hi=>by
 unfold cl; rw [M2,decide_eq_false (show ¬ i < 5 by lia)]; rfl
theorem Z8 {ss:List Nat} {u i:Nat} (hi:i < 5):(cl ss u).testBit i = true ↔ ∀ x,(ss.getD i 0).testBit x = true->u.testBit x = true:=by
 unfold cl
 rw [M2,decide_eq_true hi,Bool.true_and,decide_eq_true_eq,d2d]
theorem c9s {ss:List Nat} (A:Nat):UA ss (cl ss (UA ss A)) = UA ss A:=Nat.eq_of_testBit_eq fun j=>by
 cases q:(UA ss A).testBit j with
 | true=>
  obtain ⟨i,hi,h1,h2⟩:=UA_t.mp q
  exact UA_t.mpr ⟨i,hi,(Z8 hi).mpr fun x hx=>UA_t.mpr ⟨i,hi,h1,hx⟩,h2⟩
 | false=>
  refine UA_f.mpr fun i hi h=>?_
  cases w:(ss.getD i 0).testBit j with
  | false=>rfl
  | true=>rw [(Z8 hi).mp h j w] at q; cases q
theorem d2e {ss:List Nat} (A:Nat):Clo ss (cl ss (UA ss A)):=fun i hi h=>by
 rw [c9s]
 false_or_by_contra
 rename_i w
 have:(cl ss (UA ss A)).testBit i = true:=(Z8 hi).mpr fun x hx=>by
  cases q:(UA ss A).testBit x with
  | true=>rfl
  | false=>exact absurd ⟨x,hx,q⟩ w
 rw [h] at this; cases this
theorem Row.count {ss L:List Nat} (R:Row ss L) {C:Nat->Bool} (hC:∀ A,A < 32->(C A = true ↔ Clo ss A)) (p:Nat->Bool):L.countP p = (List.range 32).countP fun A=>p (UA ss A) && C A:=by
 have hp:L.Perm (((List.range 32).filter C).map (UA ss)):=by
  refine (List.perm_ext_iff_of_nodup R.nd (F8 (fun A hA B hB e=>?_) (List.nodup_range.sublist List.filter_sublist))).mpr fun x=>?_
  ·obtain ⟨a1,a2⟩:=List.mem_filter.mp hA
   obtain ⟨b1,b2⟩:=List.mem_filter.mp hB
   have a1:=List.mem_range.mp a1
   have b1:=List.mem_range.mp b1
   exact c7l a1 b1 ((hC A a1).mp a2) ((hC B b1).mp b2) e
  ·rw [R.mem x]
   constructor
   ·rintro ⟨A,hA,rfl⟩
    exact List.mem_map.mpr ⟨cl ss (UA ss A),List.mem_filter.mpr ⟨List.mem_range.mpr (b8o _ _),(hC _ (b8o _ _)).mpr (d2e A)⟩,c9s A⟩
   ·intro h
    obtain ⟨A,hA,rfl⟩:=List.mem_map.mp h
    exact ⟨A,List.mem_range.mp (List.mem_filter.mp hA).1,rfl⟩
 rw [hp.countP_eq,List.countP_map,P5]
 exact List.countP_congr fun A u_=>by simp [Bool.and_comm]
theorem d6q:∀ T < 32,T ≠ 0->pc 5 T <= 2->∃ k,k < 15 /\ tm k = T:=by decide
set_option synthInstance.maxSize 2000 in
set_option synthInstance.maxHeartbeats 400000 in
theorem d6r:∀ T < 32,pc 5 T <= 2->∀ i < 5,T.testBit i = true->tm (10 + i) = T ∨ ∃ j,j < 5 /\ j ≠ i /\ T.testBit j = true /\ tm (pr2 i j) = T:=by decide
theorem b3n:∀ i < 5,∀ j < 5,(tm (10 + i)).testBit j = decide (i = j):=by decide
theorem b3o:∀ i < 5,∀ j < 5,j ≠ i->∀ k < 5,(tm (pr2 i j)).testBit k = (decide (k = i) || decide (k = j)):=by decide
open Classical in
noncomputable def gk (ss:List Nat) (k:Nat):Bool:=decide (∃ x,ty ss x = tm k)
open Classical in
theorem gk_t {ss:List Nat} {k:Nat}:gk ss k = true ↔ ∃ x,ty ss x = tm k:=by unfold gk; exact decide_eq_true_iff
theorem outs_mem {A i:Nat}:i ∈ d1z A ↔ i < 5 /\ A.testBit i = false:=by
 unfold d1z; rw [List.mem_filter,List.mem_range]; simp
theorem d6s {ss:List Nat} (h2:∀ x,pc 5 (ty ss x) <= 2) (A:Nat):c2m (gk ss) A = true ↔ Clo ss A:=by
 unfold c2m
 rw [List.all_eq_true]
 constructor
 ·intro h i hi hA
  obtain ⟨k,hk,hg⟩:=List.any_eq_true.mp (h i (outs_mem.mpr ⟨hi,hA⟩))
  obtain ⟨x,hx⟩:=gk_t.mp hg
  rcases List.mem_cons.mp hk with rfl | hk
  ·refine ⟨x,by rw [<- M9 hi,hx,b3n i hi i hi]; simp,UA_f.mpr fun j hj hAj=>?_⟩
   rw [<- M9 hj,hx,b3n i hi j hj]
   refine decide_eq_false fun q=>?_
   subst q; rw [hA] at hAj; cases hAj
  ·obtain ⟨j,hj,rfl⟩:=List.mem_map.mp hk
   obtain ⟨hj1,hj2⟩:=List.mem_filter.mp hj
   obtain ⟨hj5,hAj⟩:=outs_mem.mp hj1
   have hne:j ≠ i:=by simpa using hj2
   refine ⟨x,by rw [<- M9 hi,hx,b3o i hi j hj5 hne i hi]; simp,UA_f.mpr fun k hk hAk=>?_⟩
   rw [<- M9 hk,hx,b3o i hi j hj5 hne k hk]
   have q1:k ≠ i:=fun q=>by subst q; rw [hA] at hAk; cases hAk
   have q2:k ≠ j:=fun q=>by subst q; rw [hAj] at hAk; cases hAk
   simp [q1,q2]
 ·intro h i hi
  obtain ⟨hi,hA⟩:=outs_mem.mp hi
  obtain ⟨x,hx,hU⟩:=h i hi hA
  have hf:=UA_f.mp hU
  refine List.any_eq_true.mpr ?_
  rcases d6r (ty ss x) (c2n ss x) (h2 x) i hi (by rw [M9 hi]; exact hx) with q | ⟨j,hj,hne,hb,q⟩
  ·exact ⟨10 + i,.head _,gk_t.mpr ⟨x,q.symm⟩⟩
  ·refine ⟨pr2 i j,.tail _ (List.mem_map.mpr ⟨j,List.mem_filter.mpr ⟨outs_mem.mpr ⟨hj,?_⟩,by simpa using hne⟩,rfl⟩),gk_t.mpr ⟨x,q.symm⟩⟩
   rw [M9 hj] at hb
   cases w:A.testBit j with
   | false=>rfl
   | true=>rw [hf j hj w] at hb; cases hb
theorem c1m {ss L:List Nat} (R:Row ss L) (h2:∀ x,pc 5 (ty ss x) <= 2) (hl:2 <= L.length):∃ y,L.length <= 2 * ths L y:=by
 obtain ⟨u,hu,hu0⟩ : ∃ u ∈ L,u ≠ 0:=by
  false_or_by_contra
  rename_i w
  have:=List.Nodup.length_le_of_subset (l₂:=[0]) R.nd fun u hu=>by
   by_cases q:u = 0
   ·rw [q]; exact .head _
   ·exact absurd ⟨u,hu,q⟩ w
  simp at this; lia
 obtain ⟨x,hx⟩:=a3z hu0
 obtain ⟨A,_,rfl⟩:=(R.mem u).mp hu
 obtain ⟨i,hi,_,hs⟩:=UA_t.mp hx
 have t0:ty ss x ≠ 0:=fun q=>by
  have:=M9 (ss:=ss) (x:=x) hi
  rw [q,hs,Nat.zero_testBit] at this; cases this
 obtain ⟨k0,hk0,e0⟩:=d6q _ (c2n ss x) t0 (h2 x)
 obtain ⟨k,hk,hg,hle⟩:=c7j (gk ss) ⟨k0,hk0,gk_t.mpr ⟨x,e0.symm⟩⟩
 obtain ⟨y,hy⟩:=gk_t.mp hg
 refine ⟨y,?_⟩
 have hC:∀ A,A < 32->(c2m (gk ss) A = true ↔ Clo ss A):=fun A u_=>d6s h2 A
 have c1:=R.count hC fun u=>u.testBit y
 have c2:=R.count hC fun u=>!u.testBit y
 rw [<- hy] at hle
 have e1:∀ A,(A &&& ty ss y == 0) = !(UA ss A).testBit y:=fun A=>by
  rw [<- c7k]
  show _ = !(!(A &&& ty ss y == 0))
  rw [Bool.not_not]
 simp only [c7k,e1] at hle
 rw [<- c1,<- c2] at hle
 have:=K9 (fun u=>u.testBit y) L
 rw [<- List.countP_eq_length_filter,<- List.countP_eq_length_filter] at this
 unfold ths
 lia
set_option synthInstance.maxSize 2000 in
set_option synthInstance.maxHeartbeats 400000 in
theorem c7m:∀ T < 32,¬ pc 5 T <= 2->(∀ i < 5,T.testBit i = true) ∨ (∃ k,k < 5 /\ T.testBit k = false /\ ∀ i < 5,T.testBit i = false->i = k) ∨ ∃ k,k < 5 /\ ∃ l,l < 5 /\ T.testBit k = false /\ T.testBit l = false /\ ∀ i < 5,T.testBit i = false->i = k ∨ i = l:=by decide
theorem c7n:∀ T < 32,¬ pc 5 T <= 2->∃ i,i < 5 /\ T.testBit i = true:=by decide
theorem d9n {ss L:List Nat} (R:Row ss L) (hl:2 <= L.length):∃ y,L.length <= 2 * ths L y:=by
 by_cases h2:∀ x,pc 5 (ty ss x) <= 2
 ·exact c1m R h2 hl
 obtain ⟨x,hx⟩ : ∃ x,¬ pc 5 (ty ss x) <= 2:=by
  false_or_by_contra
  rename_i w
  exact h2 fun x=>by
   by_cases q:pc 5 (ty ss x) <= 2
   ·exact q
   ·exact absurd ⟨x,q⟩ w
 obtain ⟨i,hi,hb⟩:=c7n _ (c2n ss x) hx
 have xS:(ss.getD i 0).testBit x = true:=by rw [<- M9 hi]; exact hb
 have z:(0:Nat).testBit x = false:=Nat.zero_testBit x
 have key:∀ {k l:Nat},k < 5->l < 5->(∀ i < 5,(ty ss x).testBit i = false->i = k ∨ i = l)->∀ u ∈ L,u.testBit x = false->u = 0 ∨ u = ss.getD k 0 ∨ u = ss.getD l 0 ∨ u = ss.getD k 0 ||| ss.getD l 0:=fun {k l} hk hl h u hu hux=>by
  obtain ⟨A,_,rfl⟩:=(R.mem u).mp hu
  have hf:=UA_f.mp hux
  have only:∀ i,i < 5->A.testBit i = true->i = k ∨ i = l:=fun i hi hA=>h i hi (by rw [M9 hi]; exact hf i hi hA)
  have hb:∀ j,(UA ss A).testBit j = ((A.testBit k && (ss.getD k 0).testBit j) || (A.testBit l && (ss.getD l 0).testBit j)):=fun j=>by
   cases q:(UA ss A).testBit j with
   | true=>
    obtain ⟨i,hi,h1,h2⟩:=UA_t.mp q
    rcases only i hi h1 with rfl | rfl
    ·rw [h1,h2]; rfl
    ·rw [h1,h2]; simp
   | false=>
    have:=UA_f.mp q
    cases a:A.testBit k <;> cases b:A.testBit l <;> simp_all
  cases a:A.testBit k <;> cases b:A.testBit l <;> simp only [a,b,Bool.true_and,Bool.false_and,Bool.or_false,Bool.false_or] at hb
  ·exact .inl (Nat.eq_of_testBit_eq fun j=>by rw [hb,Nat.zero_testBit])
  ·exact .inr (.inr (.inl (Nat.eq_of_testBit_eq hb)))
  ·exact .inr (.inl (Nat.eq_of_testBit_eq hb))
  ·exact .inr (.inr (.inr (Nat.eq_of_testBit_eq fun j=>by rw [hb,Nat.testBit_or])))
 have xk:∀ {k},k < 5->(ty ss x).testBit k = false->(ss.getD k 0).testBit x = false:=fun hk h=>by rw [<- M9 hk]; exact h
 rcases c7m _ (c2n ss x) hx with h | ⟨k,hk,hkx,h⟩ | ⟨k,hk,l,hl5,hkx,hlx,h⟩
 ·refine a4y R.nd R.or R.zero R.zero (R.set hi) z z xS hl fun u hu hux=>?_
  obtain ⟨A,_,rfl⟩:=(R.mem u).mp hu
  have hf:=UA_f.mp hux
  refine .inl (Nat.eq_of_testBit_eq fun j=>?_)
  rw [Nat.zero_testBit]
  refine UA_f.mpr fun i hi hA=>?_
  have:=hf i hi hA
  rw [<- M9 hi,h i hi] at this; cases this
 ·exact a4y R.nd R.or (R.set hk) (R.set hk) (R.set hi) (xk hk hkx) (xk hk hkx) xS hl (key hk hk fun i hi hb=>.inl (h i hi hb))
 ·exact a4y R.nd R.or (R.set hk) (R.set hl5) (R.set hi) (xk hk hkx) (xk hl5 hlx) xS hl (key hk hl5 h)
end
section
noncomputable def cb (M:List Nat) (i:Nat):Nat:=M.countP fun m=>m.testBit i
theorem a7y {M:List Nat} {p q:Nat->Bool} {f:Nat->Nat} (hn:M.Nodup) (h:∀ m ∈ M,p m = true->f m ∈ M /\ q (f m) = true) (hi:∀ a ∈ M,∀ b ∈ M,p a = true->p b = true->f a = f b->a = b):M.countP p <= M.countP q:=by
 rw [List.countP_eq_length_filter,List.countP_eq_length_filter,<- List.length_map (f:=f)]
 refine List.Nodup.length_le_of_subset (F8 (fun a ha b hb e=>?_) (hn.sublist List.filter_sublist)) fun x hx=>?_
 ·obtain ⟨a1,a2⟩:=List.mem_filter.mp ha
  obtain ⟨b1,b2⟩:=List.mem_filter.mp hb
  exact hi a a1 b b1 a2 b2 e
 ·obtain ⟨a,ha,rfl⟩:=List.mem_map.mp hx
  obtain ⟨a1,a2⟩:=List.mem_filter.mp ha
  exact List.mem_filter.mpr (h a a1 a2)
theorem pc5 (m:Nat):pc 5 m = ((List.range 5).map fun i=>(m.testBit i).toNat).sum:=by
 show 0 + (m.testBit 0).toNat + (m.testBit 1).toNat + (m.testBit 2).toNat + (m.testBit 3).toNat + (m.testBit 4).toNat = (m.testBit 0).toNat + ((m.testBit 1).toNat + ((m.testBit 2).toNat + ((m.testBit 3).toNat + ((m.testBit 4).toNat + 0))))
 lia
theorem M4 (f g:Nat->Nat):∀ l:List Nat,(l.map fun i=>f i + g i).sum = (l.map f).sum + (l.map g).sum
 | []=>rfl
 | a :: l=>by simp only [List.map_cons,List.sum_cons,M4 f g l]; lia
theorem c7o:∀ M:List Nat,((List.range 5).map (cb M)).sum = (M.map (pc 5)).sum
 | []=>rfl
 | m :: M=>by
  rw [List.map_cons,List.sum_cons,<- c7o M,pc5,<- M4]
  refine congrArg List.sum (List.map_congr_left fun i u_=>?_)
  unfold cb
  rw [List.countP_cons]
  cases m.testBit i <;> simp <;> lia
theorem c7p (p q:Nat->Bool):∀ l:List Nat,l.countP p + l.countP q + l.countP (fun x=>!p x && !q x) = l.countP (fun x=>p x && q x) + l.length
 | []=>rfl
 | a :: l=>by
  have h1:=c7p p q l
  simp only [List.countP_cons,List.length_cons]
  cases p a <;> cases q a <;> simp <;> lia
theorem c7q:∀ m < 32,pc 5 m = 4->∃ i,i < 5 /\ ∀ j < 5,m.testBit j = decide (j ≠ i):=by decide
theorem c1n:∀ m < 32,pc 5 m = 3->∃ i,i < 5 /\ ∃ k,k < 5 /\ i ≠ k /\ ∀ j < 5,m.testBit j = (decide (j ≠ i) && decide (j ≠ k)):=by decide
theorem d9o:∀ m < 32,pc 5 m = 5->m = 31:=by decide
theorem d6t {a b:Nat} (ha:a < 32) (hb:b < 32) (h:∀ j < 5,a.testBit j = b.testBit j):a = b:=Nat.eq_of_testBit_eq fun j=>by
 by_cases hj:j < 5
 ·exact h j hj
 ·have big:∀ {A:Nat},A < 32->A.testBit j = false:=fun hA=>Nat.testBit_lt_two_pow (Nat.lt_of_lt_of_le hA (Nat.pow_le_pow_right (n:=2) (by decide) (show 5 <= j by lia)))
  rw [big ha,big hb]
theorem b0j (M:List Nat) (b:Nat) (hb:b ∈ M) (hM:M.Nodup) (h:∀ m ∈ M,m ≠ 31->pc 5 m <= 2):(M.map (pc 5)).sum + 4 <= 5 + 2 * M.length + pc 5 b:=by
 have one:∀ {l:List Nat},l.Nodup->(∀ m ∈ l,m ≠ 31->pc 5 m <= 2)->(l.map (pc 5)).sum <= 2 * l.length + (if 31 ∈ l then 3 else 0):=by
  intro l
  induction l with
  | nil=>intro _ _; exact Nat.zero_le _
  | cons a l ih=>
   intro hn hl
   obtain ⟨ha,hn⟩:=List.nodup_cons.mp hn
   have ih:=ih hn fun m hm=>hl m (.tail _ hm)
   simp only [List.map_cons,List.sum_cons,List.length_cons]
   by_cases q:a = 31
   ·subst q
    rw [if_neg ha] at ih
    rw [if_pos (.head _)]
    have:=M3 5 31
    lia
   ·have:=hl a (.head _) q
    have e:(31 ∈ a :: l) = (31 ∈ l):=by
     rw [List.mem_cons,eq_iff_iff]
     exact ⟨fun h=>h.elim (fun h=>absurd h.symm q) id,.inr⟩
    simp only [e]
    lia
 have hp:M.Perm (b :: M.erase b):=List.perm_cons_erase hb
 have hs:=(hp.map (pc 5)).sum_nat
 have hl:=hp.length_eq
 have:=one (hM.erase b) fun m hm=>h m (List.mem_of_mem_erase hm)
 rw [hs,List.map_cons,List.sum_cons]
 rw [List.length_cons] at hl
 split at this <;> lia
theorem c7r {M:List Nat} (hn:M.Nodup) (hm:∀ m ∈ M,m < 32) (hM:∀ a ∈ M,∀ b ∈ M,a &&& b ∈ M) (h2:2 <= M.length):∃ i,i < 5 /\ 2 * cb M i <= M.length:=by
 by_cases c4:∃ m ∈ M,pc 5 m = 4
 ·obtain ⟨m,hmM,h4⟩:=c4
  obtain ⟨i,hi,hb⟩:=c7q m (hm m hmM) h4
  refine ⟨i,hi,?_⟩
  have:=a7y (p:=fun x=>x.testBit i) (q:=fun x=>!x.testBit i) (f:=(· &&& m)) hn (fun a ha u_=>⟨hM a ha m hmM,by
    show (!(a &&& m).testBit i) = true
    rw [Nat.testBit_and,hb i hi]; simp⟩) (fun a ha b hb' ka kb e=>d6t (hm a ha) (hm b hb') fun j hj=>by
   by_cases q:j = i
   ·rw [q]; exact (show a.testBit i = true from ka).trans (show b.testBit i = true from kb).symm
   ·have:=congrArg (Nat.testBit · j) e
    simpa [Nat.testBit_and,hb j hj,q] using this)
  have l:=K9 (fun x=>x.testBit i) M
  rw [<- List.countP_eq_length_filter,<- List.countP_eq_length_filter] at l
  unfold cb; lia
 by_cases c3:∃ m ∈ M,pc 5 m = 3
 ·obtain ⟨m,hmM,h3⟩:=c3
  obtain ⟨i,hi,k,hk,hik,hb⟩:=c1n m (hm m hmM) h3
  have:=a7y (p:=fun x=>x.testBit i && x.testBit k) (q:=fun x=>!x.testBit i && !x.testBit k) (f:=(· &&& m)) hn (fun a ha u_=>⟨hM a ha m hmM,by
    show (!(a &&& m).testBit i && !(a &&& m).testBit k) = true
    rw [Nat.testBit_and,Nat.testBit_and,hb i hi,hb k hk]; simp⟩) (fun a ha b hb' ka kb e=>d6t (hm a ha) (hm b hb') fun j hj=>by
   obtain ⟨a1,a2⟩:=Bool.and_eq_true_iff.mp ka
   obtain ⟨b1,b2⟩:=Bool.and_eq_true_iff.mp kb
   by_cases q:j = i
   ·rw [q]; exact a1.trans b1.symm
   ·by_cases q2:j = k
    ·rw [q2]; exact a2.trans b2.symm
    ·have:=congrArg (Nat.testBit · j) e
     simpa [Nat.testBit_and,hb j hj,q,q2] using this)
  have s1:=c7p (fun x=>x.testBit i) (fun x=>x.testBit k) M
  by_cases w:2 * cb M i <= M.length
  ·exact ⟨i,hi,w⟩
  ·refine ⟨k,hk,?_⟩
   unfold cb at w ⊢
   lia
 have small:∀ m ∈ M,m ≠ 31->pc 5 m <= 2:=fun m h h31=>by
  have:=M3 5 m
  have a:pc 5 m ≠ 4:=fun q=>c4 ⟨m,h,q⟩
  have b:pc 5 m ≠ 3:=fun q=>c3 ⟨m,h,q⟩
  have c:pc 5 m ≠ 5:=fun q=>h31 (d9o m (hm m h) q)
  lia
 let b:=M.foldr (· &&& ·) 31
 have hb0:∀ K:List Nat,K ≠ []->(∀ u ∈ K,u ∈ M)->K.foldr (· &&& ·) 31 ∈ M:=by
  intro K
  induction K with
  | nil=>intro h; exact absurd rfl h
  | cons a K ih=>
   intro _ hK
   cases K with
   | nil=>
    have ha:=hK a (.head _)
    show a &&& 31 ∈ M
    rw [show a &&& 31 = a from by rw [show (31:Nat) = 2 ^ 5 - 1 from rfl,Nat.and_two_pow_sub_one_eq_mod]; exact Nat.mod_eq_of_lt (hm a ha)]
    exact ha
   | cons c K=>exact hM _ (hK a (.head _)) _ (ih (by simp) fun u hu=>hK u (.tail _ hu))
 have hbM:b ∈ M:=hb0 M (fun w=>by rw [w] at h2; simp at h2) fun u_ h=>h
 have hbb:∀ m ∈ M,∀ j,b.testBit j = true->m.testBit j = true:=by
  have:∀ K:List Nat,∀ u ∈ K,∀ y,(K.foldr (· &&& ·) 31).testBit y = true->u.testBit y = true:=by
   intro K
   induction K with
   | nil=>intro u hu; cases hu
   | cons a K ih=>
    intro u hu y hy
    have hy:(a &&& K.foldr (· &&& ·) 31).testBit y = true:=hy
    rw [Nat.testBit_and,Bool.and_eq_true] at hy
    rcases List.mem_cons.mp hu with w | hu
    ·rw [w]; exact hy.1
    ·exact ih u hu y hy.2
  exact this M
 have b31:b ≠ 31:=fun q=>by
  have:=List.Nodup.length_le_of_subset (l₂:=[31]) hn fun m hmM=>by
   have:m = 31:=d6t (hm m hmM) (by decide) fun j hj=>by
    have k:=hbb m hmM j
    rw [q] at k
    have:∀ j < 5,(31:Nat).testBit j = true:=by decide
    rw [this j hj] at k ⊢; exact k rfl
   rw [this]; exact .head _
  simp at this; lia
 false_or_by_contra
 rename_i no
 have ge:∀ i,i < 5->M.length + 1 + (b.testBit i).toNat * (M.length - 1) <= 2 * cb M i:=fun i hi=>by
  cases q:b.testBit i with
  | true=>
   have:cb M i = M.length:=List.countP_eq_length.mpr fun m hmM=>hbb m hmM i q
   rw [this]; simp; lia
  | false=>
   by_cases w:2 * cb M i <= M.length
   ·exact absurd ⟨i,hi,w⟩ no
   ·simp; lia
 have tot:=c7o M
 have le:=b0j M b hbM hn small
 have e5:=pc5 b
 have p2:=small b hbM b31
 have r5:∀ f:Nat->Nat,((List.range 5).map f).sum = f 0 + (f 1 + (f 2 + (f 3 + (f 4 + 0)))):=fun f=>rfl
 rw [r5] at tot e5
 have g0:=ge 0 (by decide)
 have g1:=ge 1 (by decide)
 have g2:=ge 2 (by decide)
 have g3:=ge 3 (by decide)
 have g4:=ge 4 (by decide)
 have f:(b.testBit 0).toNat * (M.length - 1) + ((b.testBit 1).toNat * (M.length - 1) + ((b.testBit 2).toNat * (M.length - 1) + ((b.testBit 3).toNat * (M.length - 1) + (b.testBit 4).toNat * (M.length - 1)))) = pc 5 b * (M.length - 1):=by
  rw [e5]; simp only [Nat.add_mul,Nat.add_zero]
 have hX:pc 5 b <= pc 5 b * (M.length - 1):=Nat.le_mul_of_pos_right _ (Nat.sub_pos_of_lt h2)
 clear ge no hbb hbM hb0 small c3 c4 hM hm hn b31 e5 r5
 rw [<- f] at hX
 generalize pc 5 b = p at *
 lia
theorem other {ss L:List Nat} (R:Row ss L) (hl:2 <= L.length):∃ i,i < 5 /\ ss.getD i 0 ≠ 0 /\ 2 * L.countP (fun u=>decide (ss.getD i 0 &&& u = ss.getD i 0)) <= L.length:=by
 let M:=L.map (cl ss)
 have clU:∀ {u},u ∈ L->UA ss (cl ss u) = u:=fun {u} hu=>by
  obtain ⟨A,_,rfl⟩:=(R.mem u).mp hu
  exact c9s A
 have hn:M.Nodup:=F8 (fun a ha b hb e=>by rw [<- clU ha,<- clU hb,e]) R.nd
 have hM:∀ a ∈ M,∀ b ∈ M,a &&& b ∈ M:=fun a ha b hb=>by
  obtain ⟨u,hu,rfl⟩:=List.mem_map.mp ha
  obtain ⟨v,hv,rfl⟩:=List.mem_map.mp hb
  refine List.mem_map.mpr ⟨UA ss (cl ss u &&& cl ss v),(R.mem _).mpr ⟨_,Nat.lt_of_le_of_lt Nat.and_le_left (b8o ss u),rfl⟩,d6t (b8o _ _) (Nat.lt_of_le_of_lt Nat.and_le_left (b8o ss u)) fun i hi=>?_⟩
  rw [Nat.testBit_and]
  have le:∀ x,(UA ss (cl ss u &&& cl ss v)).testBit x = true->u.testBit x = true /\ v.testBit x = true:=fun x hx=>by
   obtain ⟨k,hk,h1,h2⟩:=UA_t.mp hx
   rw [Nat.testBit_and,Bool.and_eq_true] at h1
   exact ⟨(Z8 hk).mp h1.1 x h2,(Z8 hk).mp h1.2 x h2⟩
  cases q:(cl ss (UA ss (cl ss u &&& cl ss v))).testBit i with
  | true=>
   have:=(Z8 hi).mp q
   rw [(Z8 hi).mpr fun x hx=>(le x (this x hx)).1,(Z8 hi).mpr fun x hx=>(le x (this x hx)).2]; rfl
  | false=>
   cases a:(cl ss u).testBit i with
   | false=>rfl
   | true=>
    cases b:(cl ss v).testBit i with
    | false=>rfl
    | true=>
     rw [(Z8 hi).mpr fun x hx=>UA_t.mpr ⟨i,hi,by rw [Nat.testBit_and,a,b]; rfl,hx⟩] at q; cases q
 have hlen:M.length = L.length:=List.length_map _
 obtain ⟨i,hi,h⟩:=c7r hn (fun m hm=>by obtain ⟨u,_,rfl⟩:=List.mem_map.mp hm; exact b8o ss u) hM (by rw [hlen]; exact hl)
 have e:cb M i = L.countP fun u=>decide (ss.getD i 0 &&& u = ss.getD i 0):=by
  unfold cb
  show (L.map (cl ss)).countP _ = _
  rw [List.countP_map]
  refine List.countP_congr fun u u_=>?_
  show (cl ss u).testBit i = true ↔ _
  unfold cl
  rw [M2,decide_eq_true hi,Bool.true_and]
 rw [e,hlen] at h
 refine ⟨i,hi,fun q=>?_,h⟩
 rw [q] at h
 have:L.countP (fun u=>decide (0 &&& u = 0)) = L.length:=List.countP_eq_length.mpr fun u u_=>by simp
 rw [this] at h
 lia
end
section
theorem F2 {α β:Type} {n:Nat} {lt:Nat->Nat->Bool} {f:α->KasT β}:∀ (t:KasT α) (a:α) (r:Option β),O1 n lt t = some a->O1 n lt (f a) = r->O1 n lt (t.bind f) = r
 | .ret _,_,_,h,k=>by cases h; exact k
 | .ask i j c,a,r,h,k=>by
  have h:(if i < n /\ j < n then O1 n lt (c (lt i j)) else none) = some a:=h
  by_cases q:i < n /\ j < n
  ·rw [if_pos q] at h
   show (if i < n /\ j < n then O1 n lt ((c (lt i j)).bind f) else none) = r
   rw [if_pos q]
   exact F2 (c (lt i j)) a r h k
  ·rw [if_neg q] at h; cases h
theorem H8 {α:Type} {n:Nat} {lt:Nat->Nat->Bool} {i j:Nat} {c:Bool->KasT α} {r:Option α} (hi:i < n) (hj:j < n) (h:O1 n lt (c (lt i j)) = r):O1 n lt (.ask i j c) = r:=by
 show (if i < n /\ j < n then O1 n lt (c (lt i j)) else none) = r
 rw [if_pos ⟨hi,hj⟩]; exact h
structure Tot (n:Nat) (lt:Nat->Nat->Bool):Prop where
 irr:∀ i,i < n->lt i i = false
 tri:∀ i j,i < n->j < n->i ≠ j->lt i j = true ∨ lt j i = true
 tra:∀ i j k,i < n->j < n->k < n->lt i j = true->lt j k = true->lt i k = true
noncomputable def Pm (n:Nat) (p:Array Nat):Prop:=p.toList.Perm (List.range n)
section
variable {n:Nat} {lt:Nat->Nat->Bool} {p:Array Nat}
theorem Pm.size (h:Pm n p):p.size = n:=by
 have:=h.length_eq
 simpa using this
theorem Pm.get (h:Pm n p) {i:Nat} (hi:i < n):p[i]? = some (p.getD i 0):=by
 have:i < p.size:=by rw [h.size]; exact hi
 rw [Array.getD_eq_getD_getElem?,Array.getElem?_eq_getElem this]; rfl
theorem Pm.bd (h:Pm n p) {i:Nat} (hi:i < n):p.getD i 0 < n:=by
 have:=h.get hi
 have hm:p.getD i 0 ∈ p.toList:=List.mem_of_getElem? (by rw [Array.getElem?_toList]; exact this)
 exact List.mem_range.mp (h.mem_iff.mp hm)
theorem Pm.inj (h:Pm n p) {i j:Nat} (hi:i < n) (hj:j < n) (e:p.getD i 0 = p.getD j 0):i = j:=by
 have nd:p.toList.Nodup:=h.nodup_iff.mpr List.nodup_range
 have hl:i < p.toList.length:=by rw [Array.length_toList,h.size]; exact hi
 refine (List.getElem?_inj hl nd).mp ?_
 rw [Array.getElem?_toList,Array.getElem?_toList,h.get hi,h.get hj,e]
theorem Pm.of (h:Pm n p) {q:Array Nat} (k:q.Perm p):Pm n q:=(Array.perm_iff_toList_perm.mp k).trans h
noncomputable def Asc (lt:Nat->Nat->Bool) (p:Array Nat) (m:Nat):Prop:=∀ i j,i < j->j < m->lt (p.getD i 0) (p.getD j 0) = true
noncomputable def Dsc (lt:Nat->Nat->Bool) (p:Array Nat) (m:Nat):Prop:=∀ i j,i < j->j < m->lt (p.getD j 0) (p.getD i 0) = true
theorem Tot.other (T:Tot n lt) (h:Pm n p) {i j:Nat} (hi:i < n) (hj:j < n) (ne:i ≠ j) (f:lt (p.getD i 0) (p.getD j 0) = false):lt (p.getD j 0) (p.getD i 0) = true:=by
 rcases T.tri _ _ (h.bd hi) (h.bd hj) (fun e=>ne (h.inj hi hj e)) with q | q
 ·rw [f] at q; cases q
 ·exact q
theorem Asc.succ (T:Tot n lt) (h:Pm n p) {k:Nat} (hk:k < n) (h1:1 <= k) (a:Asc lt p k) (q:lt (p.getD (k - 1) 0) (p.getD k 0) = true):Asc lt p (k + 1):=fun i j hij hj=>by
 by_cases e:j < k
 ·exact a i j hij e
 ·obtain rfl:j = k:=by lia
  by_cases e2:i = j - 1
  ·rw [e2]; exact q
  ·exact T.tra _ _ _ (h.bd (by lia)) (h.bd (by lia)) (h.bd hk) (a i (j - 1) (by lia) (by lia)) q
theorem Dsc.succ (T:Tot n lt) (h:Pm n p) {k:Nat} (hk:k < n) (h1:1 <= k) (a:Dsc lt p k) (q:lt (p.getD k 0) (p.getD (k - 1) 0) = true):Dsc lt p (k + 1):=fun i j hij hj=>by
 by_cases e:j < k
 ·exact a i j hij e
 ·obtain rfl:j = k:=by lia
  by_cases e2:i = j - 1
  ·rw [e2]; exact q
  ·exact T.tra _ _ _ (h.bd hk) (h.bd (by lia)) (h.bd (by lia)) q (a i (j - 1) (by lia) (by lia))
theorem c1o (T:Tot n lt) (h:Pm n p):∀ (f k:Nat),1 <= k->k + f <= n->Asc lt p k->∃ m,O1 n lt (kas_asc p f k) = some m /\ Asc lt p m /\ k <= m /\ m <= k + f /\ (m = k + f ∨ lt (p.getD m 0) (p.getD (m - 1) 0) = true)
 | 0,k,_,_,a=>⟨k,rfl,a,Nat.le_refl _,Nat.le_refl _,.inl rfl⟩
 | f + 1,k,h1,hk,a=>by
  cases q:lt (p.getD k 0) (p.getD (k - 1) 0) with
  | true=>
   refine ⟨k,H8 (h.bd (by lia)) (h.bd (by lia)) ?_,a,Nat.le_refl _,Nat.le_add_right _ _,.inr q⟩
   rw [q]; rfl
  | false=>
   obtain ⟨m,e,h2,h3,h4,h5⟩:=c1o T h f (k + 1) (by lia) (by lia) (a.succ T h (by lia) h1 (T.other h (by lia) (by lia) (by lia) q))
   refine ⟨m,H8 (h.bd (by lia)) (h.bd (by lia)) ?_,h2,by lia,by lia,by rcases h5 with h5 | h5; exact .inl (by lia); exact .inr h5⟩
   rw [q]; exact e
theorem b8p (T:Tot n lt) (h:Pm n p):∀ (f k:Nat),1 <= k->k + f <= n->Dsc lt p k->∃ m,O1 n lt (kas_desc f p k 0) = some (p,m,0) /\ Dsc lt p m /\ k <= m /\ m <= k + f
 | 0,k,_,_,a=>⟨k,rfl,a,Nat.le_refl _,Nat.le_refl _⟩
 | f + 1,k,h1,hk,a=>by
  cases q:lt (p.getD k 0) (p.getD (k - 1) 0) with
  | false=>
   refine ⟨k,H8 (h.bd (by lia)) (h.bd (by lia)) ?_,a,Nat.le_refl _,Nat.le_add_right _ _⟩
   rw [q,if_neg Bool.false_ne_true]
   refine H8 (h.bd (by lia)) (h.bd (by lia)) ?_
   rw [T.other h (by lia) (by lia) (by lia) q]; rfl
  | true=>
   obtain ⟨m,e,h2,h3,h4⟩:=b8p T h f (k + 1) (by lia) (by lia) (a.succ T h (by lia) h1 q)
   refine ⟨m,H8 (h.bd (by lia)) (h.bd (by lia)) ?_,h2,by lia,by lia⟩
   rw [q,if_pos rfl,if_neg (Nat.lt_irrefl 0)]; exact e
theorem b8q (h:Pm n p) {k:Nat} (hk:k <= n) (i:Nat):(kas_rev p 0 k).getD i 0 = if i < k then p.getD (k - 1 - i) 0 else p.getD i 0:=by
 unfold kas_rev
 rw [Array.getD_eq_getD_getElem?,getElem?_mirror_all (by rw [h.size]; exact hk)]
 by_cases q:i < k
 ·rw [if_pos ⟨Nat.zero_le _,q⟩,if_pos q,Nat.zero_add,Array.getD_eq_getD_getElem?]
 ·rw [if_neg (fun w=>q w.2),if_neg q,Array.getD_eq_getD_getElem?]
theorem c7s (T:Tot n lt) (h:Pm n p) {k:Nat} (h1:1 <= k) (hk:k <= n) (d:Dsc lt p k):∃ m p',O1 n lt (kas_tail3 k n p) = some (m,p') /\ Pm n p' /\ Asc lt p' m /\ 1 <= m /\ m <= n:=by
 have h':Pm n (kas_rev p 0 k):=h.of (mirror_perm _ _ _ _)
 have a:Asc lt (kas_rev p 0 k) k:=fun i j hij hj=>by
  rw [b8q h hk,b8q h hk,if_pos (Nat.lt_trans hij hj),if_pos hj]
  exact d _ _ (Nat.sub_lt_sub_left (Nat.lt_of_lt_of_le hij (Nat.le_sub_one_of_lt hj)) hij) (Nat.lt_of_le_of_lt (Nat.sub_le _ _) (Nat.sub_one_lt (Nat.ne_of_gt h1)))
 obtain ⟨m,e,a2,h3,h4,_⟩:=c1o T h' (n - k) k h1 (Nat.le_of_eq (Nat.add_sub_of_le hk)) a
 refine ⟨m,kas_rev p 0 k,?_,h',a2,Nat.le_trans h1 h3,Nat.add_sub_of_le hk ▸ h4⟩
 unfold kas_tail3
 exact F2 _ _ _ e rfl
theorem c1p (T:Tot n lt) (h:Pm n p) (h1:1 <= n):∃ m p',O1 n lt (kas_count n p) = some (m,p') /\ Pm n p' /\ Asc lt p' m /\ 1 <= m /\ m <= n:=by
 obtain ⟨m,e,a,h2,h3,h4⟩:=c1o T h (n - 1) 1 (Nat.le_refl _) (by lia) (fun i j hij hj=>by lia)
 unfold kas_count
 by_cases q:m = n
 ·exact ⟨m,p,F2 _ _ _ e (by rw [if_pos (by rw [q]; exact beq_self_eq_true n)]; rfl),h,a,h2,by lia⟩
 ·by_cases q2:m > 1
  ·refine ⟨m,p,F2 _ _ _ e ?_,h,a,h2,by lia⟩
   rw [if_neg (by simpa using q),if_pos q2]
   refine H8 (h.bd (by lia)) (h.bd (by lia)) ?_
   rw [a 0 (m - 1) (by lia) (by lia)]; rfl
  ·obtain rfl:m = 1:=by lia
   have c:lt (p.getD 1 0) (p.getD 0 0) = true:=by
    rcases h4 with h4 | h4
    ·lia
    ·exact h4
   obtain ⟨k,e2,d,k1,k2⟩:=b8p T h (n - 2) 2 (by decide) (by lia) (fun i j hij hj=>by
    obtain rfl:j = 1:=by lia
    obtain rfl:i = 0:=by lia
    exact c)
   obtain ⟨m',p',e3,h5,a5,h6,h7⟩:=c7s T h (k:=k) (by lia) (by lia) d
   refine ⟨m',p',F2 _ _ _ e ?_,h5,a5,h6,h7⟩
   rw [if_neg (by simpa using q),if_neg q2]
   unfold kas_descPart
   exact F2 _ _ _ e2 (by rw [if_neg (Nat.lt_irrefl 0)]; exact e3)
theorem a5a (T:Tot n lt) (h:Pm n p) {k:Nat} (hk:k < n) (a:Asc lt p k):∀ (f l r:Nat),l <= r->r <= k->r - l <= f->(∀ i,i < l->lt (p.getD i 0) (p.getD k 0) = true)->(∀ i,r <= i->i < k->lt (p.getD k 0) (p.getD i 0) = true)->
  ∃ m,O1 n lt (kas_place p k f l r) = some m /\ m <= k /\ (∀ i,i < m->lt (p.getD i 0) (p.getD k 0) = true) /\ (∀ i,m <= i->i < k->lt (p.getD k 0) (p.getD i 0) = true)
 | 0,l,r,h1,h2,h3,h4,h5=>by
  obtain rfl:l = r:=by lia
  exact ⟨l,rfl,h2,h4,h5⟩
 | f + 1,l,r,h1,h2,h3,h4,h5=>by
  unfold kas_place
  by_cases q:l ≥ r
  ·obtain rfl:l = r:=Nat.le_antisymm h1 q
   exact ⟨l,by rw [if_pos q]; rfl,h2,h4,h5⟩
  ·rw [if_neg q]
   have q:=Nat.not_le.mp q
   have m1:l <= (l + r) / 2:=(Nat.le_div_iff_mul_le (by decide)).mpr (by rw [Nat.mul_two]; exact Nat.add_le_add_left h1 l)
   have m2:(l + r) / 2 < r:=Nat.div_lt_of_lt_mul (by rw [Nat.two_mul]; exact Nat.add_lt_add_right q r)
   generalize (l + r) / 2 = d at m1 m2
   have dk:d < k:=Nat.lt_of_lt_of_le m2 h2
   have dn:=Nat.lt_trans dk hk
   cases c:lt (p.getD k 0) (p.getD d 0) with
   | true=>
    obtain ⟨m,e,k1,k2,k3⟩:=a5a T h hk a f l d m1 (Nat.le_of_lt dk) (Nat.le_of_lt_succ (Nat.lt_of_lt_of_le (Nat.sub_lt_sub_right m1 m2) h3)) h4 fun i hi hik=>by
     by_cases w:i = d
     ·rw [w]; exact c
     ·exact T.tra _ _ _ (h.bd hk) (h.bd dn) (h.bd (Nat.lt_trans hik hk)) c (a _ _ (Nat.lt_of_le_of_ne hi (Ne.symm w)) hik)
    exact ⟨m,H8 (h.bd hk) (h.bd dn) (by rw [c]; exact e),k1,k2,k3⟩
   | false=>
    have c':=T.other h hk dn (Nat.ne_of_gt dk) c
    obtain ⟨m,e,k1,k2,k3⟩:=a5a T h hk a f (d + 1) r m2 h2 (by lia) (fun i hi=>by
     by_cases w:i = d
     ·rw [w]; exact c'
     ·have w:i < d:=Nat.lt_of_le_of_ne (Nat.le_of_lt_succ hi) w
      exact T.tra _ _ _ (h.bd (Nat.lt_trans w dn)) (h.bd dn) (h.bd hk) (a _ _ w dk) c') h5
    exact ⟨m,H8 (h.bd hk) (h.bd dn) (by rw [c]; exact e),k1,k2,k3⟩
theorem c7t (T:Tot n lt):∀ (f:Nat) (p:Array Nat) (k:Nat),Pm n p->k + f = n->Asc lt p k->∃ p',O1 n lt (kas_bin f p k) = some p' /\ Pm n p' /\ Asc lt p' n
 | 0,p,k,h,e,a=>⟨p,rfl,h,by rw [<- e]; exact a⟩
 | f + 1,p,k,h,e,a=>by
  have hk:k < n:=by lia
  obtain ⟨l,e1,k1,k2,k3⟩:=a5a T h hk a k 0 k (Nat.zero_le _) (Nat.le_refl _) (Nat.le_refl _) (fun i hi=>absurd hi (Nat.not_lt_zero _)) (fun i h1 h2=>by lia)
  have g:∀ i,(bubble p k (k - l)).getD i 0 = if i = l then p.getD k 0 else if l < i /\ i <= k then p.getD (i - 1) 0 else p.getD i 0:=fun i=>by
   rw [Array.getD_eq_getD_getElem?,getElem?_bubble (by rw [h.size]; exact hk) (k - l) (by lia),show k - (k - l) = l by lia]
   by_cases w:i = l
   ·rw [if_pos w,if_pos w,Array.getD_eq_getD_getElem?]
   ·rw [if_neg w,if_neg w]
    by_cases w2:l < i /\ i <= k
    ·rw [if_pos w2,if_pos w2,Array.getD_eq_getD_getElem?]
    ·rw [if_neg w2,if_neg w2,Array.getD_eq_getD_getElem?]
  have a':Asc lt (bubble p k (k - l)) (k + 1):=fun i j hij hj=>by
   rw [g i,g j]
   have jk:=Nat.le_of_lt_succ hj
   by_cases wi:i = l
   ·rw [if_pos wi]
    rw [wi] at hij
    rw [if_neg (Nat.ne_of_gt hij),if_pos ⟨hij,jk⟩]
    exact k3 _ (Nat.le_sub_one_of_lt hij) (Nat.lt_of_lt_of_le (Nat.sub_one_lt_of_lt hij) jk)
   ·rw [if_neg wi]
    by_cases w2:l < i /\ i <= k
    ·have lj:=Nat.lt_trans w2.1 hij
     rw [if_pos w2,if_neg (Nat.ne_of_gt lj),if_pos ⟨lj,jk⟩]
     exact a _ _ (Nat.sub_lt_sub_right (Nat.one_le_of_lt w2.1) hij) (Nat.lt_of_lt_of_le (Nat.sub_one_lt_of_lt lj) jk)
    ·rw [if_neg w2]
     have il:i < l:=Nat.lt_of_le_of_ne (Nat.not_lt.mp fun w=>w2 ⟨w,Nat.le_trans (Nat.le_of_lt hij) jk⟩) wi
     by_cases wj:j = l
     ·rw [if_pos wj]; exact k2 _ il
     ·rw [if_neg wj]
      by_cases w3:l < j /\ j <= k
      ·rw [if_pos w3]; exact a _ _ (Nat.lt_of_lt_of_le il (Nat.le_sub_one_of_lt w3.1)) (Nat.lt_of_lt_of_le (Nat.sub_one_lt_of_lt w3.1) jk)
      ·rw [if_neg w3]; exact a _ _ hij (Nat.lt_of_lt_of_le (Nat.lt_of_le_of_ne (Nat.not_lt.mp fun w=>w3 ⟨w,jk⟩) wj) k1)
  obtain ⟨p',e2,h2,a2⟩:=c7t T f _ (k + 1) (h.of (bubble_perm _ _ _)) (by lia) a'
  exact ⟨p',F2 _ _ _ e1 e2,h2,a2⟩
theorem c7u (T:Tot n lt) (h1:1 <= n):∃ r,O1 n lt (kas_sort n) = some r /\ r.toList.Perm (List.range n) /\ r.toList.Pairwise fun i j=>lt i j = true:=by
 obtain ⟨m,p,e,h,a,h2,h3⟩:=c1p T (p:=List.toArray (List.range n)) (List.Perm.refl _) h1
 have fin:∀ p:Array Nat,Pm n p->Asc lt p n->p.toList.Pairwise fun i j=>lt i j = true:=fun p h a=>by
  rw [List.pairwise_iff_getElem]
  intro i j hi hj hij
  rw [Array.length_toList,h.size] at hi hj
  have ei:=h.get hi
  have ej:=h.get hj
  have hi':i < p.size:=by rw [h.size]; exact hi
  have hj':j < p.size:=by rw [h.size]; exact hj
  rw [Array.getElem?_eq_getElem hi',Option.some.injEq] at ei
  rw [Array.getElem?_eq_getElem hj',Option.some.injEq] at ej
  rw [Array.getElem_toList,Array.getElem_toList,ei,ej]
  exact a i j hij hj
 unfold kas_sort
 by_cases q:m < n
 ·obtain ⟨p',e2,h4,a4⟩:=c7t T (n - max m 1) p (max m 1) h (by lia) (by rw [show max m 1 = m by lia]; exact a)
  exact ⟨p',F2 _ _ _ e (by rw [if_pos q]; exact e2),h4,fin _ h4 a4⟩
 ·exact ⟨p,F2 _ _ _ e (by rw [if_neg q]; rfl),h,fin _ h (by rw [show n = m by lia]; exact a)⟩
end
end
section
theorem S0 {α:Type} {R:α->α->Prop} {p:α->Bool} (h:∀ a b,R a b->p b = true->p a = true):∀ l:List α,l.Pairwise R->l = l.filter p ++ l.filter fun a=>!p a
 | [],_=>rfl
 | a :: l,w=>by
  obtain ⟨w1,w2⟩:=List.pairwise_cons.mp w
  rw [List.filter_cons,List.filter_cons]
  cases q:p a with
  | true=>
   rw [if_pos rfl,if_neg (by simp),List.cons_append,<- S0 h l w2]
  | false=>
   have e:l.filter p = []:=List.filter_eq_nil_iff.mpr fun b hb hp=>by
    rw [h a b (w1 b hb) hp] at q; cases q
   have e2:(l.filter fun a=>!p a) = l:=List.filter_eq_self.mpr fun b hb=>by
    cases q2:p b with
    | true=>rw [h a b (w1 b hb) q2] at q; cases q
    | false=>rfl
   rw [if_neg (by simp),if_pos (by simp),e,e2]; rfl
theorem Y0 {α:Type} {R:α->α->Prop} (asym:∀ a b,R a b->R b a->False):∀ l m:List α,l.Perm m->l.Pairwise R->m.Pairwise R->l = m
 | [],m,h,_,_=>(List.nil_perm.mp h).symm
 | a :: l,[],h,_,_=>(List.cons_ne_nil _ _ (List.perm_nil.mp h)).elim
 | a :: l,b :: m,h,h1,h2=>by
  obtain ⟨w1,w2⟩:=List.pairwise_cons.mp h1
  obtain ⟨v1,v2⟩:=List.pairwise_cons.mp h2
  have hab:a = b:=by
   rcases List.mem_cons.mp (h.mem_iff.mp (.head _)) with e | e
   ·exact e
   ·rcases List.mem_cons.mp (h.mem_iff.mpr (.head _)) with e' | e'
    ·exact e'.symm
    ·exact (asym _ _ (w1 b e') (v1 a e)).elim
  subst hab
  rw [Y0 asym l m ((List.perm_cons a).mp h) w2 v2]
noncomputable def a1t (left:Bool) (p q:Nat × Nat):Prop:=p.1 < q.1 ∨ (p.1 = q.1 /\ if left then q.2 < p.2 else p.2 < q.2)
theorem a7z (left:Bool) (p q:Nat × Nat) (h:a1t left p q) (k:a1t left q p):False:=by
 unfold a1t at h k
 rcases h with h | ⟨h,h'⟩
 ·rcases k with k | ⟨k,_⟩
  ·exact Nat.lt_asymm h k
  ·exact Nat.ne_of_lt h k.symm
 ·rcases k with k | ⟨k,k'⟩
  ·exact Nat.ne_of_lt k h.symm
  ·cases left
   ·exact Nat.lt_asymm h' k'
   ·exact Nat.lt_asymm h' k'
noncomputable def C1 (left:Bool) (x:Nat) (p:Nat × Nat):Bool:=if left then decide (p.1 < x) else decide (p.1 <= x)
theorem b8r {left:Bool} {row:List (Nat × Nat)} {x j:Nat} (h:row.Pairwise (a1t left)) (hj:∀ p ∈ row,p.2 < j):row = row.filter (C1 left x) ++ row.filter (fun p=>!C1 left x p) /\
  (row.filter (C1 left x) ++ (x,j) :: row.filter fun p=>!C1 left x p).Pairwise (a1t left):=by
 have e:=S0 (p:=C1 left x) (R:=a1t left) (fun a b r hb=>by
  unfold a1t at r
  unfold C1 at hb ⊢
  cases left <;> simp at r hb ⊢ <;> lia) row h
 refine ⟨e,?_⟩
 have hpw:=h
 rw [e] at hpw
 obtain ⟨h1,h2,h3⟩:=List.pairwise_append.mp hpw
 refine List.pairwise_append.mpr ⟨h1,List.pairwise_cons.mpr ⟨fun c hc=>?_,h2⟩,fun a ha c hc=>?_⟩
 ·obtain ⟨m,q⟩:=List.mem_filter.mp hc
  have:=hj c m
  unfold C1 at q
  unfold a1t
  cases left <;> simp at q ⊢ <;> lia
 ·obtain ⟨m,q⟩:=List.mem_filter.mp ha
  rcases List.mem_cons.mp hc with rfl | hc
  ·have:=hj a m
   unfold C1 at q
   unfold a1t
   cases left <;> simp at q ⊢ <;> lia
  ·exact h3 a ha c hc
noncomputable def c2u (left:Bool) (row:List (Nat × Nat)) (x j:Nat):List (Nat × Nat):=row.filter (C1 left x) ++ (x,j) :: row.filter fun p=>!C1 left x p
theorem insP_perm {left:Bool} {row:List (Nat × Nat)} {x j:Nat}:(c2u left row x j).Perm (row ++ [(x,j)]):=by
 unfold c2u
 have e:(row.filter (C1 left x) ++ (row.filter fun p=>!C1 left x p)).Perm row:=List.filter_append_perm _ _
 refine (List.perm_middle).trans ?_
 exact ((List.Perm.cons _ e).trans (List.perm_append_singleton _ _).symm)
end
section
theorem a5b {n k:Nat} (h:k <= n):clipAt n (k:Int) = k:=by
 unfold clipAt
 rw [if_neg (Int.not_lt.mpr (Int.natCast_nonneg k)),Int.min_eq_left (Int.ofNat_le.mpr h),Int.max_eq_right (Int.natCast_nonneg k),Int.toNat_natCast]
theorem c7v {n k:Nat} (h:n <= k):clipAt n (k:Int) = n:=by
 unfold clipAt
 rw [if_neg (Int.not_lt.mpr (Int.natCast_nonneg k)),Int.min_eq_right (Int.ofNat_le.mpr h),Int.max_eq_right (Int.natCast_nonneg n),Int.toNat_natCast]
theorem c1q {α:Type} (xs:List α) {n:Nat} (h:n <= xs.length):cut xs none (some (n:Int)) = xs.take n:=by
 show (xs.drop 0).take (clipAt xs.length (n:Int) - 0) = _
 rw [a5b h]; rfl
theorem c7w {α:Type} (xs:List α) {a b:Nat} (ha:a <= xs.length):cut xs (some (a:Nat)) (some (b:Nat)) = (xs.drop a).take (b - a):=by
 show (xs.drop (clipAt xs.length (a:Int))).take (clipAt xs.length (b:Int) - clipAt xs.length (a:Int)) = _
 rw [a5b ha]
 rcases Nat.le_total b xs.length with h | h
 ·rw [a5b h]
 ·rw [c7v h,List.take_of_length_le (by rw [List.length_drop]; exact Nat.le_refl _),List.take_of_length_le (by rw [List.length_drop]; exact Nat.sub_le_sub_right h a)]
theorem c7x {α:Type} (xs:List α) {a b:Nat} (h:a <= xs.length):cut xs (some (a:Int)) (some ((a + b:Nat):Int)) = (xs.drop a).take b:=by
 rw [c7w xs h,Nat.add_sub_cancel_left]
theorem d2f (xs:List Nat) (a b:Option Int):cut (nv xs) a b = nv (cut xs a b):=b2n _ _ _ _
theorem b0k {P:Pg} {st:St} {i:Nat} {a:V} {xs:List Nat} (h:st.ρ[i]? = some (some a)) (hs:C7 st a = some (nv xs)) (hl:xs.length <= 1000):E P (.call (.imm (.builtin "len")) [(.slot i)] []) st (.int (xs.length:Nat)) st:=by
 have:=N5 hs (by rw [E3]; unfold lim; lia)
 rw [E3] at this
 exact B7 C5 (A9 (B0 h (Q9 hs)) B3) B6 (N3 this)
theorem d2g {P:Pg} {st:St} {a:V} {xs:List Nat} {i k:Nat} {e:ME} (h:st.ρ[i]? = some (some a)) (hs:C7 st a = some (nv xs)) (hl:xs.length <= 1000) (hk:k < xs.length) (he:E P e st (.int (k:Nat)) st):E P (.sub (.slot i) e) st (.int (xs.getD k 0:Nat)) st:=
 H6 (B0 h (Q9 hs)) he (N4 hs (by rw [E3]; unfold lim; lia) (W0 xs hk))
theorem M5 {P:Pg} {st:St} {a b:ME} {x y:Nat} (h1:E P a st (.int (x:Nat)) st) (h2:E P b st (.int (y:Nat)) st):E P (.bin .Add a b false) st (.int (x + y:Nat)) st:=C4 h1 h2 (by show some ((x:Int) + y) = _; simp)
theorem b3p {P:Pg} {st:St} {a b:ME} {x y:Nat} (h:y <= x) (h1:E P a st (.int (x:Nat)) st) (h2:E P b st (.int (y:Nat)) st):E P (.bin .Sub a b false) st (.int (x - y:Nat)) st:=C4 h1 h2 (by show some ((x:Int) - y) = _; congr 1; lia)
theorem b8s {P:Pg} {st:St} {a b:ME} {x y:Nat} (h:x < 2 ^ 64) (h1:E P a st (.int (x:Nat)) st) (h2:E P b st (.int (y:Nat)) st):E P (.bin .Mult a b false) st (.int (x * y:Nat)) st:=C4 h1 h2 ((c9o (decide_eq_true (by rw [Int.natAbs_natCast]; exact h))).trans rfl)
theorem a0f {P:Pg} {st:St} {a b:ME} {x y:Nat} (h0:0 < y) (h:y < 2 ^ 30) (h1:E P a st (.int (x:Nat)) st) (h2:E P b st (.int (y:Nat)) st):E P (.bin .FloorDiv a b false) st (.int (x / y:Nat)) st:=C4 h1 h2 (by
 simp only [J5,G4,J1,J6,J7,J8,J9,Y2,K1]
 rw [if_pos (by unfold small; simp; lia),Int.fdiv_eq_ediv_of_nonneg _ (by lia)]; rfl)
theorem c7y {P:Pg} {st:St} {e:ME} {n:Nat} (hn:n <= 1000) (he:E P e st (.int (n:Nat)) st):I P (.val (.call (.imm (.type "range")) [e] [])) st (.seq (nv (List.range n))) st:=
 T5 (B7 C5 (A9 he B3) B6 (b5g rfl)) (d9k _ n (by lia))
theorem b3q {q:Nat->Bool} {t:Nat}:∀ (n lo hi:Nat),lo <= t->t <= hi->hi - lo <= n->(∀ m,lo <= m->m < hi->q m = decide (t <= m))->a3t q n lo hi = t
 | 0,lo,hi,h1,h2,h3,_=>by unfold a3t; lia
 | n + 1,lo,hi,h1,h2,h3,h=>by
  unfold a3t
  split
  ·rename_i hlt
   rw [h ((lo + hi) / 2) (d1d hlt) (d1e hlt)]
   by_cases ht:t <= (lo + hi) / 2
   ·rw [decide_eq_true ht,if_pos rfl]
    exact b3q n lo ((lo + hi) / 2) h1 ht (d6j hlt h3) fun m a b=>h m a (Nat.lt_trans b (d1e hlt))
   ·rw [decide_eq_false ht,if_neg Bool.false_ne_true]
    exact b3q n ((lo + hi) / 2 + 1) hi (Nat.lt_of_not_le ht) h2 (d6k h3) fun m a b=>h m (Nat.le_trans (d1d hlt) (Nat.le_of_succ_le a)) b
  ·lia
theorem W2 {α:Type} {A C:List α} {p:α->Bool} {q:Nat->Bool} (lo:Nat) (hA:∀ a ∈ A,p a = false) (hC:∀ c ∈ C,p c = true) (hq:∀ m e,(A ++ C)[m]? = some e->q (lo + m) = p e):a3t q (lo + (A ++ C).length - lo) lo (lo + (A ++ C).length) = lo + A.length:=
 b3q _ _ _ (by lia) (by rw [List.length_append]; lia) (Nat.le_refl _) fun m h0 hm=>by
  obtain ⟨d,rfl⟩ : ∃ d,m = lo + d:=⟨m - lo,by lia⟩
  have hd:d < (A ++ C).length:=by lia
  have hg:=List.getElem?_eq_getElem hd
  rw [hq d _ hg]
  by_cases h:A.length <= d
  ·rw [decide_eq_true (by lia)]
   rw [List.getElem?_append_right h] at hg
   exact hC _ (List.mem_of_getElem? hg)
  ·rw [decide_eq_false (by lia)]
   rw [List.getElem?_append_left (by lia)] at hg
   exact hA _ (List.mem_of_getElem? hg)
theorem a1u {α:Type} (A C:List α) (x:α):insAt (A ++ C) ((A.length:Nat):Int) x = A ++ x :: C:=by
 unfold insAt
 rw [if_neg (by lia)]
 rw [show min (Int.toNat (A.length:Nat)) (A ++ C).length = A.length by rw [List.length_append,Int.toNat_natCast]; lia]
 show (A ++ C).take A.length ++ x :: (A ++ C).drop A.length = _
 rw [List.take_left,List.drop_left]
noncomputable def rem (cs:List Int) (i:Nat) (m:Int):Nat:=((cs.getD i 0).fmod m).toNat
theorem c1r (cs:List Int) (i:Nat) {m:Int} (hm:0 < m):(cs.getD i 0).fmod m = (rem cs i m:Nat):=by
 have:=Int.fmod_nonneg_of_pos (cs.getD i 0) hm
 unfold rem; omega
theorem c7z (cs:List Int) (i:Nat) {m:Int} (hm:0 < m):((rem cs i m:Nat):Int) < m:=by
 rw [<- c1r cs i hm]; exact Int.fmod_lt_of_pos _ hm
theorem Y1 {P:Pg} {st:St} {a b:ME} {x y:Nat} (h0:0 < y) (h1:E P a st (.int (x:Nat)) st) (h2:E P b st (.int (y:Nat)) st):E P (.bin .Mod a b false) st (.int (x % y:Nat)) st:=C4 h1 h2 (b2o h0)
theorem c8a (a b:Nat):a0i .BitAnd (a:Int) (b:Int) = some ((a &&& b:Nat):Int):=rfl
theorem b8t {x k:Nat} (hk:k <= 1000) (hx:x < 2 ^ 60):a0i .LShift (x:Nat) (k:Nat) = some ((x * 2 ^ k:Nat):Int):=by
 have hs:(decide ((0:Int) <= (k:Nat)) && decide (((k:Nat):Int) <= 1000000) && small 64 ((x:Nat):Int)) = true:=by
  simp [small]; lia
 simp only [J5,G4,J1,J6,J7,J8,J9,Y2,K1,hs,if_true]
 simp
theorem d9p (x k:Nat):a0i .RShift (x:Int) (k:Int) = some ((x >>> k:Nat):Int):=by
 rw [b7y,Nat.shiftRight_eq_div_pow]; rfl
theorem c8b (st:St) (x y:Nat):c2p st .NotEq (.int (x:Nat)) (.int (y:Nat)) = some (x != y):=by
 show d5c (eqV st (.int (x:Nat)) (.int (y:Nat))) = _
 rw [show eqV st (.int (x:Nat)) (.int (y:Nat)) = some (x == y) from b3d st x y]; rfl
section
variable {P:Pg} {st:St} {a b:ME} {x k:Nat}
theorem d6u (h1:E P a st (.int (x:Nat)) st) (h2:E P b st (.int (k:Nat)) st):T P 8 (.bin .BitAnd (.bin .RShift a b false) (.const (.int 1)) false) st (x.testBit k) st:=by
 have e:x.testBit k = ((x >>> k &&& 1) != 0):=by unfold Nat.testBit; rw [Nat.and_comm]
 rw [e]
 exact a4e (C4 (C4 h1 h2 (d9p x k)) B9 (c8a _ 1)) (c1e _) rfl
theorem d6v (h:k <= 1000) (h2:E P b st (.int (k:Nat)) st):E P (.bin .LShift (.const (.int 1)) b false) st (.int (2 ^ k:Nat)) st:=C4 B9 h2 (by have:=b8t (x:=1) h (by decide); rwa [Nat.one_mul] at this)
end
theorem c8c {P:Pg} {st:St} {l i:Nat} {is:List Int} {j:Nat} {x e:ME} (hs:C7 st (.ref l i) = some (is.map .int)) (hx:E P x st (.ref l i) st) (hj:j < is.length) (hl:is.length <= 1000) (he:E P e st (.int (j:Nat)) st):E P (.sub x e) st (.int (is.getD j 0)) st:=
 H6 hx he (N4 hs (by rw [List.length_map]; unfold lim; lia) (by rw [List.getElem?_map,List.getD_eq_getElem?_getD,List.getElem?_eq_getElem hj]; rfl))
section
variable {P:Pg} {st:St} {ad bd:Addr} {a:V} {A C:List Nat} {y l i:Nat}
theorem d6w (hR:st.R.length < 90) (hs:C7 st a = some (nv (A ++ C))) (hl:(A ++ C).length <= 1000) (hA:∀ e ∈ A,e <= y) (hC:∀ e ∈ C,y < e):Call P (a8l ad) [a,.int (y:Nat)] [] st (.int (A.length:Nat)) st:=by
 have:=a7h (P:=P) (ad:=ad) (args:=[a,.int (y:Nat)]) (kw:=[]) (by lia) hs (by rw [E3]; unfold lim; lia) (lo:=0) (hi:=(A ++ C).length) (hv:=.imm .none) (gf:=fun m=>(((A ++ C).getD m 0:Nat):Int)) (fun m u_ h2=>W0 _ h2) (.inr ⟨rfl,by rw [E3]⟩) rfl
 have e:=W2 (A:=A) (C:=C) (p:=fun e=>decide (y < e)) (q:=fun m=>decide (((y:Nat):Int) < (((A ++ C).getD m 0:Nat):Int))) 0 (fun e m=>by simpa using hA e m) (fun e m=>by simpa using hC e m) (fun m e he=>by
  rw [Nat.zero_add,List.getD_eq_getElem?_getD,he]
  exact decide_eq_decide.mpr Int.ofNat_lt)
 rw [Nat.zero_add,Nat.zero_add] at e
 rw [e] at this
 exact this
theorem d6x (hR:st.R.length < 90) (hs:C7 st a = some (nv (A ++ C))) (hl:(A ++ C).length <= 1000) (hA:∀ e ∈ A,e < y) (hC:∀ e ∈ C,y <= e):Call P (a2u ad) [a,.int (y:Nat),.int 0,.imm .none] [] st (.int (A.length:Nat)) st:=by
 have:=a7i (P:=P) (ad:=ad) (args:=[a,.int (y:Nat),.int 0,.imm .none]) (kw:=[]) (by lia) hs (by rw [E3]; unfold lim; lia) (lo:=0) (hi:=(A ++ C).length) (hv:=.imm .none) (gf:=fun m=>(((A ++ C).getD m 0:Nat):Int)) (fun m u_ h2=>W0 _ h2) (.inr ⟨rfl,by rw [E3]⟩) (b2i rfl rfl rfl _ _ _ _)
 have e:=W2 (A:=A) (C:=C) (p:=fun e=>!decide (e < y)) (q:=fun m=>!decide ((((A ++ C).getD m 0:Nat):Int) < ((y:Nat):Int))) 0 (fun e m=>by simpa using hA e m) (fun e m=>by simpa using hC e m) (fun m e he=>by
  rw [Nat.zero_add,List.getD_eq_getElem?_getD,he]
  show (!decide (((e:Nat):Int) < ((y:Nat):Int))) = !decide (e < y)
  congr 1
  exact decide_eq_decide.mpr Int.ofNat_lt)
 rw [Nat.zero_add,Nat.zero_add] at e
 rw [e] at this
 exact this
theorem d6y (hf:P.fns.find? (fun f=>f.addr == bd) = some (a2u bd)) (hR:st.R.length < 80) (hob:st.obj l i = some (.list (nv (A ++ C)))) (hl:(A ++ C).length <= 1000) (hA:∀ e ∈ A,e < y) (hC:∀ e ∈ C,y <= e) :
  Call P (c9p ad bd) [.ref l i,.int (y:Nat)] [] st (.imm .none) (st.setObj l i (.list (nv (A ++ y :: C)))):=by
 have:=a1g (P:=P) (ad:=ad) (key:=.imm .none) (bkw:=[]) (k:=A.length) (x:=.int (y:Nat)) (bx:=.int (y:Nat)) hob (by rw [E3]; unfold lim; lia) (by rw [E3,List.length_append]; lia) (by lia) rfl hf (fun ρ=>d6x (by show (st.R ++ [[]]).length < 90; rw [List.length_append]; show st.R.length + 1 < 90; lia) (show C7 ⟨ρ,st.R ++ [[]]⟩ (.ref l i) = _ by show (match St.obj ⟨ρ,st.R ++ [[]]⟩ l i with | some (.list vs)=>some vs | _=>none) = _; rw [L8 ρ st.ρ,show St.obj ⟨st.ρ,st.R⟩ l i = _ from hob]) hl hA hC) (.inl ⟨rfl,rfl,rfl⟩)
 have e:=a1u (nv A) (nv C) (V.int (y:Nat))
 rw [E3] at e
 rw [a3y,e] at this
 rw [a3y]; exact this
end
theorem c8d:P05.fns.find? (fun f=>f.addr == 23) = some (c9p 23 32):=rfl
theorem c1s:P05.fns.find? (fun f=>f.addr == 32) = some (a8l 32):=rfl
theorem c8e:P05.fns.find? (fun f=>f.addr == 41) = some (c9p 41 50):=rfl
theorem a8a:P05.fns.find? (fun f=>f.addr == 50) = some (a2u 50):=rfl
theorem d2h:P05.fns.find? (fun f=>f.addr == 96) = some f05__law_key:=rfl
theorem d2i:P05.fns.find? (fun f=>f.addr == 79) = some (c6b 79):=rfl
theorem d2j:P05.fns.find? (fun f=>f.addr == 84) = some (fRD 84 65 3):=rfl
theorem d2k:P05.fns.find? (fun f=>f.addr == 65) = some (fPV 65):=rfl
theorem d2l:P05.fns.find? (fun f=>f.addr == 72) = some (fAP 72):=rfl
theorem d2m:P05.fns.find? (fun f=>f.addr == 58) = some (fPF 58 51):=rfl
theorem d2n:P05.fns.find? (fun f=>f.addr == 89) = some f05__law_names:=rfl
noncomputable def toT (p:Nat × Nat):V:=.tup [.int (p.1:Nat),.int (p.2:Nat)]
theorem c2o (p:Nat × Nat):c5w P05 (.imm (.ref 96)) (toT p) ((p.1:Nat):Int):=fun s hs=>(Q6 d2h (by
 refine H7 (ρ2:=[some (toT p)]) (R2:=s.R) (reg:=[]) (v:=.int (p.1:Nat)) (by lia) rfl ?_ rfl
 exact a8k (E2 (H6 (B0 rfl) B9 rfl)))).toO
theorem a8b (row:List (Nat × Nat)) {i:Nat} (h:i < row.length):(row.map toT)[i]? = some (toT (row.getD i (0,0))):=by
 rw [List.getElem?_map,List.getD_eq_getElem?_getD,List.getElem?_eq_getElem h]; rfl
section
variable {st:St} {l i x j:Nat} {row:List (Nat × Nat)}
theorem d4s {left:Bool} (hob:st.obj l i = some (.list (row.map toT))) (hl:row.length <= 100) (hR:st.R.length < 90) (hp:row.Pairwise (a1t left)) (hj:∀ p ∈ row,p.2 < j) :
  Call P05 (if left then c9p 41 50 else c9p 23 32) [.ref l i,toT (x,j)] [(("key" : Str),.imm (.ref 96))] st (.imm .none) (st.setObj l i (.list ((c2u left row x j).map toT))):=by
 have hlt:=b5q hob
 have ho:∀ ρ,St.obj ⟨ρ,st.R ++ [[]]⟩ l i = some (.list (row.map toT)):=fun ρ=>by rw [L8 ρ st.ρ]; exact hob
 obtain ⟨e,_⟩:=b8r (x:=x) hp hj
 have hk:(row.filter (C1 left x)).length <= row.length:=List.length_filter_le _ _
 have hb:∀ q:Nat->Bool,(∀ i e,row[i]? = some e->q i = !C1 left x e)->a3t q (row.length - 0) 0 row.length = (row.filter (C1 left x)).length:=fun q hq=>by
  have:=W2 (A:=row.filter (C1 left x)) (C:=row.filter fun p=>!C1 left x p) (p:=fun e=>!C1 left x e) (q:=q) 0 (fun a ha=>by rw [(List.mem_filter.mp ha).2]; rfl) (fun c hc=>(List.mem_filter.mp hc).2) (fun m e' he=>by rw [Nat.zero_add]; rw [<- e] at he; exact hq m e' he)
  rw [<- e,Nat.zero_add,Nat.zero_add] at this
  exact this
 have hins:insAt (row.map toT) ((row.filter (C1 left x)).length:Nat) (toT (x,j)) = (c2u left row x j).map toT:=by
  have:=a1u ((row.filter (C1 left x)).map toT) ((row.filter fun p=>!C1 left x p).map toT) (toT (x,j))
  rw [List.length_map,<- List.map_append,<- e] at this
  rw [this]
  unfold c2u
  rw [List.map_append,List.map_cons]
 have hg:∀ m,m < row.length->∃ e,(row.map toT)[m]? = some e /\ c5w P05 (.imm (.ref 96)) e (((row.getD m (0,0)).1:Nat):Int):=fun m hm=>⟨_,a8b row hm,c2o _⟩
 rw [<- hins]
 cases left with
 | true=>
  refine a1g (vs:=row.map toT) (bx:=.int (x:Nat)) (key:=.imm (.ref 96)) hob (by rw [List.length_map]; unfold lim; lia) (by rw [List.length_map]; exact hk) (by lia) rfl a8a (fun ρ=>?_) (.inr ⟨rfl,fun ρ=>c2o (x,j) _ (by simp; lia),rfl⟩)
  have:=a4u (P:=P05) (st:=⟨ρ,st.R ++ [[]]⟩) (ad:=50) (a:=.ref l i) (vs:=row.map toT) (lo:=0) (hi:=row.length) (xi:=((x:Nat):Int)) (gf:=fun m=>(((row.getD m (0,0)).1:Nat):Int)) (hv:=.imm .none) (key:=.imm (.ref 96)) (args:=[.ref l i,.int (x:Nat),.int 0,.imm .none]) (kw:=[(("key" : Str),.imm (.ref 96))]) (by simp; lia) (by simp only [C7,ho]) (by rw [List.length_map]; unfold lim; lia)
   (fun m u_ hm=>hg m hm) (.inr ⟨rfl,(List.length_map _).symm⟩) rfl rfl
  rw [hb _ (fun i e he=>by
   simp only [List.getD_eq_getElem?_getD,he,Option.getD_some]
   unfold C1
   simp)] at this
  exact this
 | false=>
  refine a1g (vs:=row.map toT) (bx:=.int (x:Nat)) (key:=.imm (.ref 96)) hob (by rw [List.length_map]; unfold lim; lia) (by rw [List.length_map]; exact hk) (by lia) rfl c1s (fun ρ=>?_) (.inr ⟨rfl,fun ρ=>c2o (x,j) _ (by simp; lia),rfl⟩)
  have:=c0n (P:=P05) (st:=⟨ρ,st.R ++ [[]]⟩) (ad:=32) (a:=.ref l i) (vs:=row.map toT) (lo:=0) (hi:=row.length) (xi:=((x:Nat):Int)) (gf:=fun m=>(((row.getD m (0,0)).1:Nat):Int)) (hv:=.imm .none) (key:=.imm (.ref 96)) (args:=[.ref l i,.int (x:Nat),.int 0,.imm .none]) (kw:=[(("key" : Str),.imm (.ref 96))]) (by simp; lia) (by simp only [C7,ho]) (by rw [List.length_map]; unfold lim; lia)
   (fun m u_ hm=>hg m hm) (.inr ⟨rfl,(List.length_map _).symm⟩) rfl rfl
  rw [hb _ (fun i e he=>by
   simp only [List.getD_eq_getElem?_getD,he,Option.getD_some]
   unfold C1
   simp only [Bool.false_eq_true,if_false]
   rw [<- decide_not]
   exact decide_eq_decide.mpr (by lia))] at this
  exact this
end
theorem c8f (p q:Int × Int):ltP p q = true ↔ p.1 < q.1 ∨ (p.1 = q.1 /\ p.2 < q.2):=by
 unfold ltP
 by_cases h:p.1 = q.1
 ·rw [if_pos (show (p.1 == q.1) = true from beq_iff_eq.mpr h)]
  by_cases k:p.2 = q.2
  ·rw [if_pos (show (p.2 == q.2) = true from beq_iff_eq.mpr k)]
   exact Iff.intro (fun w=>absurd w Bool.false_ne_true) fun w=>w.elim (fun w=>absurd h (Int.ne_of_lt w)) fun w=>absurd k (Int.ne_of_lt w.2)
  ·rw [if_neg (fun w:(p.2 == q.2) = true=>k (beq_iff_eq.mp w))]
   exact decide_eq_true_iff.trans ⟨fun w=>.inr ⟨h,w⟩,fun w=>w.elim (fun w=>absurd h (Int.ne_of_lt w)) (·.2)⟩
 ·rw [if_neg (fun w:(p.1 == q.1) = true=>h (beq_iff_eq.mp w))]
  exact decide_eq_true_iff.trans ⟨.inl,fun w=>w.elim id fun w=>absurd w.1 h⟩
theorem b3r {vs:List V} {g:Nat->V}:∀ r:List Nat,(∀ i ∈ r,vs[i]? = some (g i))->a1y (fun i=>vs[i]?) r = some (r.map g)
 | [],_=>rfl
 | i :: r,h=>by
  exact c3d (h i (.head _)) (b3r r fun j m=>h j (.tail _ m))
noncomputable def kP (left:Bool) (p:Nat × Nat):Int × Int:=((p.1:Nat),if left then -((p.2:Nat):Int) else (p.2:Nat))
theorem kP_lex {left:Bool} {p q:Nat × Nat}:ltP (kP left p) (kP left q) = true ↔ a1t left p q:=by
 rw [c8f]
 refine or_congr Int.ofNat_lt (and_congr Int.ofNat_inj ?_)
 cases left
 ·exact Int.ofNat_lt
 ·exact Int.neg_lt_neg_iff.trans Int.ofNat_lt
theorem c1t {left:Bool} {p q:Nat × Nat} (h:p.2 ≠ q.2):a1t left p q ∨ a1t left q p:=by
 rcases Nat.lt_trichotomy p.1 q.1 with a | a | a
 ·exact .inl (.inl a)
 ·rcases Nat.lt_or_gt_of_ne h with b | b
  ·cases left
   ·exact .inl (.inr ⟨a,b⟩)
   ·exact .inr (.inr ⟨a.symm,b⟩)
  ·cases left
   ·exact .inr (.inr ⟨a.symm,b⟩)
   ·exact .inl (.inr ⟨a,b⟩)
 ·exact .inr (.inl a)
theorem c1u {left:Bool} {p q r:Nat × Nat} (h:a1t left p q) (k:a1t left q r):a1t left p r:=by
 rcases h with h | ⟨h,h'⟩
 ·rcases k with k | ⟨k,_⟩
  ·exact .inl (Nat.lt_trans h k)
  ·exact .inl (k ▸ h)
 ·rcases k with k | ⟨k,k'⟩
  ·exact .inl (h ▸ k)
  ·refine .inr ⟨h.trans k,?_⟩
   cases left
   ·exact Nat.lt_trans h' k'
   ·exact Nat.lt_trans k' h'
noncomputable def d7y (ps:List (Nat × Nat)):Prop:=∀ (i:Nat) (p:Nat × Nat),ps[i]? = some p->p.2 = i
theorem b3s {ps:List (Nat × Nat)} (h:d7y ps) {i:Nat} (hi:i < ps.length):ps.getD i (0,0) = ((ps.getD i (0,0)).1,i):=by
 have e:ps[i]? = some (ps.getD i (0,0)):=by rw [List.getD_eq_getElem?_getD,List.getElem?_eq_getElem hi]; rfl
 have:=h i _ e
 exact Prod.ext rfl this
theorem c8g {left:Bool} {ps:List (Nat × Nat)} {i:Nat} (hi:i < ps.length):(ps.map (kP left)).getD i (0,0) = kP left (ps.getD i (0,0)):=by
 rw [List.getD_eq_getElem?_getD,List.getElem?_map,List.getD_eq_getElem?_getD,List.getElem?_eq_getElem hi]; rfl
theorem b0l {left:Bool} {ps row:List (Nat × Nat)} (ht:d7y ps) (hp:row.Perm ps) (hw:row.Pairwise (a1t left)):∃ r,a4b (ps.map (kP left)) ps.length = some r /\ a1y (fun i=>(ps.map toT)[i]?) r.toList = some (row.map toT):=by
 have fin:∀ r:Array Nat,r.toList.Perm (List.range ps.length)->(r.toList.map fun i=>ps.getD i (0,0)).Pairwise (a1t left)->a1y (fun i=>(ps.map toT)[i]?) r.toList = some (row.map toT):=fun r pm pw=>by
  have bd:∀ i ∈ r.toList,i < ps.length:=fun i m=>List.mem_range.mp (pm.mem_iff.mp m)
  rw [b3r (g:=fun i=>toT (ps.getD i (0,0))) r.toList fun i m=>a8b _ (bd i m)]
  have e2:r.toList.map (fun i=>ps.getD i (0,0)) = row:=by
   refine Y0 (a7z left) _ _ ?_ pw hw
   refine ((pm.map _).trans (.of_eq ?_)).trans hp.symm
   refine List.ext_getElem (by simp) fun i h1 h2=>?_
   simp [h2]
  rw [<- e2,List.map_map]; rfl
 by_cases h2:2 <= ps.length
 ·have g:∀ i,i < ps.length->(ps.map (kP left)).getD i (0,0) = kP left (ps.getD i (0,0)):=fun i hi=>c8g hi
  have T:Tot ps.length (fun i j=>ltP ((ps.map (kP left)).getD i (0,0)) ((ps.map (kP left)).getD j (0,0))):=by
   refine ⟨fun i hi=>?_,fun i j hi hj hne=>?_,fun i j k hi hj hk h1 h2=>?_⟩
   ·rw [g i hi]
    cases q:ltP (kP left (ps.getD i (0,0))) (kP left (ps.getD i (0,0))) with
    | false=>rfl
    | true=>exact (a7z left _ _ (kP_lex.mp q) (kP_lex.mp q)).elim
   ·rw [g i hi,g j hj]
    exact (c1t (by rw [b3s ht hi,b3s ht hj]; exact hne)).imp kP_lex.mpr kP_lex.mpr
   ·rw [g i hi,g j hj] at h1
    rw [g j hj,g k hk] at h2
    rw [g i hi,g k hk]
    exact kP_lex.mpr (c1u (kP_lex.mp h1) (kP_lex.mp h2))
  obtain ⟨r,e,pm,pw⟩:=c7u T (by lia)
  refine ⟨r,(if_pos h2).trans e,fin r pm ?_⟩
  refine List.pairwise_map.mpr (pw.imp_of_mem fun {i j} mi mj q=>?_)
  rw [g i (List.mem_range.mp (pm.mem_iff.mp mi)),g j (List.mem_range.mp (pm.mem_iff.mp mj))] at q
  exact kP_lex.mp q
 ·refine ⟨_,if_neg h2,fin _ (by simp) ?_⟩
  have:((List.range ps.length).toArray.toList.map fun i=>ps.getD i (0,0)).length < 2:=by simp; lia
  revert this
  generalize ((List.range ps.length).toArray.toList.map fun i=>ps.getD i (0,0)) = l
  intro h
  cases l with
  | nil=>exact .nil
  | cons a l=>cases l with
   | nil=>exact List.pairwise_singleton ..
   | cons b l=>exact absurd h (Nat.not_lt_of_le (Nat.le_add_left 2 _))
theorem a3e:∀ row:List (Nat × Nat),O2 (row.map toT) = some (row.map fun p=>PyData.tuple [.int (p.1:Nat),.int (p.2:Nat)])
 | []=>rfl
 | p :: r=>by
  exact a2a rfl (a3e r)
theorem a8c:∀ row:List (Nat × Nat),PyData.canLayAll0 (row.map fun p=>PyData.tuple [.int (p.1:Nat),.int (p.2:Nat)]) = true /\ PyData.depthAll (row.map fun p=>PyData.tuple [.int (p.1:Nat),.int (p.2:Nat)]) <= 1
 | []=>⟨rfl,Nat.zero_le _⟩
 | p :: r=>by
  obtain ⟨h1,h2⟩:=a8c r
  simp only [List.map_cons,PyData.canLayAll0,PyData.canLay0,PyData.depthAll,PyData.depth,h1,Bool.and_true,Bool.true_and]
  exact ⟨trivial,by lia⟩
theorem a8d (st:St) (row:List (Nat × Nat)):eqV st (.lst (row.map toT)) (.lst (row.map toT)) = some true:=by
 have h:a8m (.lst (row.map toT)) = some (.list (row.map fun p=>PyData.tuple [.int (p.1:Nat),.int (p.2:Nat)])):=by rw [a0o,a3e]; rfl
 obtain ⟨h1,h2⟩:=a8c row
 have:=b3b h (by
  unfold SeqAt.shaped
  rw [Bool.and_eq_true]
  exact ⟨by simp only [PyData.canLay0]; exact h1,decide_eq_true (by simp only [PyData.depth]; lia)⟩)
 exact  this
end
section
noncomputable def chs (ss:List Nat):List Nat:=ss.foldl (fun ch own=>ch ++ ch.map (own ||| ·)) [0]
theorem ch_step {own x:Nat} {ch:List Nat}:x ∈ ch ++ ch.map (own ||| ·) ↔ ∃ β:Bool,∃ y ∈ ch,x = (if β = true then own else 0) ||| y:=by
 rw [List.mem_append,List.mem_map]
 constructor
 ·rintro (h | ⟨y,h,rfl⟩)
  ·exact ⟨false,x,h,(Nat.zero_or x).symm⟩
  ·exact ⟨true,y,h,rfl⟩
 ·rintro ⟨β,y,h,rfl⟩
  cases β with
  | true=>exact .inr ⟨y,h,rfl⟩
  | false=>rw [if_neg Bool.false_ne_true,Nat.zero_or]; exact .inl h
theorem d9q {a b c d e x:Nat}:x ∈ chs [a,b,c,d,e] ↔ ∃ A,A < 32 /\ UA [a,b,c,d,e] A = x:=by
 have hU:∀ A,UA [a,b,c,d,e] A = (if A.testBit 4 = true then e else 0) ||| ((if A.testBit 3 = true then d else 0) ||| ((if A.testBit 2 = true then c else 0) ||| ((if A.testBit 1 = true then b else 0) ||| ((if A.testBit 0 = true then a else 0) ||| 0)))):=fun A=>by
  show (if A.testBit 0 = true then a else 0) ||| ((if A.testBit 1 = true then b else 0) ||| ((if A.testBit 2 = true then c else 0) ||| ((if A.testBit 3 = true then d else 0) ||| ((if A.testBit 4 = true then e else 0) ||| 0)))) = _
  simp only [Nat.or_zero]
  ac_rfl
 show x ∈ ((((([0] ++ [0].map (a ||| ·)) ++ ([0] ++ [0].map (a ||| ·)).map (b ||| ·)) ++ _) ++ _) ++ _) ↔ _
 rw [ch_step]
 constructor
 ·rintro ⟨β4,y,h,rfl⟩
  obtain ⟨β3,y3,h,e3⟩:=ch_step.mp h
  obtain ⟨β2,y2,h,e2⟩:=ch_step.mp h
  obtain ⟨β1,y1,h,e1⟩:=ch_step.mp h
  obtain ⟨β0,y0,h,e0⟩:=ch_step.mp h
  obtain rfl:=List.mem_singleton.mp h
  subst e0; subst e1; subst e2; subst e3
  refine ⟨ofB (fun i=>[β0,β1,β2,β3,β4].getD i false) 5,Nat.lt_pow_two_of_testBit (n:=5) _ fun i hi=>?_,?_⟩
  ·rw [M2,decide_eq_false (by lia)]; rfl
  ·rw [hU]
   simp only [M2]
   rfl
 ·rintro ⟨A,_,rfl⟩
  rw [hU]
  exact ⟨_,_,ch_step.mpr ⟨_,_,ch_step.mpr ⟨_,_,ch_step.mpr ⟨_,_,ch_step.mpr ⟨_,_,.head _,rfl⟩,rfl⟩,rfl⟩,rfl⟩,rfl⟩
noncomputable def Up1 (L:List Nat):Prop:=L.Pairwise (· < ·)
theorem Up1.nd {L:List Nat} (h:Up1 L):L.Nodup:=h.imp fun h=>Nat.ne_of_lt h
@[elab_as_elim] theorem c8h {α:Type} {l:List α} {p:List α->Prop} (h:l.length = 5) (k:∀ a b c d e,p [a,b,c,d,e]):p l:=by
 cases l with
 | nil=>cases h
 | cons a l=>cases l with
  | nil=>cases h
  | cons b l=>cases l with
   | nil=>cases h
   | cons c l=>cases l with
    | nil=>cases h
    | cons d l=>cases l with
     | nil=>cases h
     | cons e l=>cases l with
      | nil=>exact k a b c d e
      | cons _ _=>cases h
theorem d2o {ss L:List Nat} (hl:ss.length = 5) (h:Up1 L) (hm:∀ x,x ∈ L ↔ x ∈ chs ss):Row ss L:=by
 revert hm
 exact c8h hl fun a b c d e hm=>⟨h.nd,fun x=>(hm x).trans d9q⟩
theorem c1v {L:List Nat} (h:Up1 L) (u:Nat):∃ A C,L = A ++ C /\ (∀ a ∈ A,a < u) /\ (∀ c ∈ C,u <= c) /\ (u ∈ L->∃ C',C = u :: C') /\ (u ∉ L->(∀ c ∈ C,u < c) /\ Up1 (A ++ u :: C)):=by
 induction L with
 | nil=>exact ⟨[],[],rfl,(fun u_ m=>nomatch m),(fun u_ m=>nomatch m),(fun m=>nomatch m),fun u_=>⟨(fun u_ m=>nomatch m),List.pairwise_singleton ..⟩⟩
 | cons x L ih=>
  obtain ⟨h1,h2⟩:=List.pairwise_cons.mp h
  by_cases q:x < u
  ·obtain ⟨A,C,rfl,hA,hC,hi,hn⟩:=ih h2
   refine ⟨x :: A,C,rfl,fun a m=>(List.mem_cons.mp m).elim (fun e=>e ▸ q) (hA a),hC,fun m=>hi ((List.mem_cons.mp m).resolve_left fun e=>Nat.ne_of_lt q e.symm),fun m=>?_⟩
   obtain ⟨k1,k2⟩:=hn fun w=>m (.tail _ w)
   refine ⟨k1,List.pairwise_cons.mpr ⟨fun y my=>?_,k2⟩⟩
   rcases List.mem_append.mp my with my | my
   ·exact h1 y (List.mem_append_left _ my)
   ·rcases List.mem_cons.mp my with rfl | my
    ·exact q
    ·exact h1 y (List.mem_append_right _ my)
  ·have q:=Nat.le_of_not_lt q
   refine ⟨[],x :: L,rfl,(fun u_ m=>nomatch m),fun c m=>?_,fun m=>?_,fun m=>?_⟩
   ·rcases List.mem_cons.mp m with rfl | m
    ·exact q
    ·exact Nat.le_trans q (Nat.le_of_lt (h1 c m))
   ·rcases List.mem_cons.mp m with rfl | m
    ·exact ⟨L,rfl⟩
    ·exact absurd (h1 u m) (Nat.not_lt.mpr q)
   ·have q:u < x:=Nat.lt_of_le_of_ne q fun e=>m (e ▸ .head _)
    exact ⟨fun c mc=>(List.mem_cons.mp mc).elim (fun e=>e ▸ q) fun mc=>Nat.lt_trans q (h1 c mc),List.pairwise_cons.mpr ⟨fun c mc=>(List.mem_cons.mp mc).elim (fun e=>e ▸ q) fun mc=>Nat.lt_trans q (h1 c mc),h⟩⟩
noncomputable def thg (u:Nat):List Nat:=(List.range 12).filter u.testBit
theorem W4 (u:Nat):(thg u).length = pc 12 u:=by
 have:∀ m,((List.range m).filter u.testBit).length = pc m u:=fun m=>by
  induction m with
  | zero=>rfl
  | succ m ih=>
   rw [List.range_succ,List.filter_append,List.length_append,ih]
   show pc m u + ([m].filter u.testBit).length = pc m u + (u.testBit m).toNat
   cases q:u.testBit m <;> simp [q]
 exact this 12
theorem b6g (u:Nat):(thg u).Nodup:=List.nodup_range.filter _
theorem thg_mem {u t:Nat}:t ∈ thg u ↔ t < 12 /\ u.testBit t = true:=by unfold thg; rw [List.mem_filter,List.mem_range]
theorem d4t {u:Nat} (h:u < 4096) {t:Nat} (ht:u.testBit t = true):t < 12:=by
 rcases Nat.lt_or_ge t 12 with q | q
 ·exact q
 ·rw [Nat.testBit_lt_two_pow (Nat.lt_of_lt_of_le h (Nat.pow_le_pow_right (n:=2) (by decide) q))] at ht; cases ht
theorem a8e (x:Nat):∀ N,((List.range' 1 N).map fun s=>if s <= x then 1 else 0).sum = min x N
 | 0=>(Nat.min_zero x).symm
 | N + 1=>by
  rw [List.range'_1_concat,List.map_append,List.sum_append,a8e x N]
  simp only [List.map_singleton,List.sum_singleton]
  by_cases h:1 + N <= x
  ·have h':N + 1 <= x:=Nat.add_comm 1 N ▸ h
   rw [if_pos h,Nat.min_eq_right (Nat.le_of_succ_le h'),Nat.min_eq_right h']
  ·have h':x <= N:=Nat.le_of_lt_succ (Nat.lt_of_not_le fun w=>h (Nat.add_comm N 1 ▸ w))
   rw [if_neg h,Nat.min_eq_left h',Nat.min_eq_left (Nat.le_succ_of_le h')]; rfl
theorem d6z {α:Type}:∀ l:List α,(l.map fun u_=>0).sum = 0
 | []=>rfl
 | _ :: l=>by rw [List.map_cons,List.sum_cons,d6z l]
theorem a1v {N:Nat}:∀ xs:List Nat,(∀ x ∈ xs,x <= N)->((List.range' 1 N).map fun s=>xs.countP fun x=>decide (s <= x)).sum = xs.sum
 | [],_=>d6z _
 | x :: xs,h=>by
  have e:((List.range' 1 N).map fun s=>(x :: xs).countP fun x=>decide (s <= x)) = (List.range' 1 N).map fun s=>(if s <= x then 1 else 0) + xs.countP fun x=>decide (s <= x):=List.map_congr_left fun s u_=>by
   rw [List.countP_cons]
   by_cases q:s <= x <;> simp [q,Nat.add_comm]
  rw [e]
  have add:∀ (f g:Nat->Nat) (l:List Nat),(l.map fun i=>f i + g i).sum = (l.map f).sum + (l.map g).sum:=fun f g l=>M4 f g l
  rw [add,a8e,a1v xs fun y m=>h y (.tail _ m),Nat.min_eq_left (h x (.head _))]
  rfl
noncomputable def ded (ev:List Nat):List Nat:=ev.foldl (fun ks t=>if t ∈ ks then ks else ks ++ [t]) []
theorem b3t (ev:List Nat) (t:Nat):ded (ev ++ [t]) = if t ∈ ded ev then ded ev else ded ev ++ [t]:=by unfold ded; rw [List.foldl_append]; rfl
theorem a5c {p:List Nat->Prop} (h0:p []) (h1:∀ l a,p l->p (l ++ [a])) (l:List Nat):p l:=by
 have:∀ l:List Nat,p l.reverse:=fun l=>by
  induction l with
  | nil=>exact h0
  | cons a l ih=>rw [List.reverse_cons]; exact h1 _ _ ih
 have:=this l.reverse
 rwa [List.reverse_reverse] at this
theorem T2 (ev:List Nat):(ded ev).Nodup /\ ∀ t,t ∈ ded ev ↔ t ∈ ev:=by
 refine a5c (p:=fun ev=>(ded ev).Nodup /\ ∀ t,t ∈ ded ev ↔ t ∈ ev) ⟨.nil,fun t=>.rfl⟩ (fun l a ⟨h1,h2⟩=>?_) ev
 rw [b3t]
 by_cases q:a ∈ ded l
 ·rw [if_pos q]
  exact ⟨h1,fun t=>by rw [List.mem_append,List.mem_singleton,h2]; exact ⟨.inl,fun w=>w.elim id fun w=>w ▸ (h2 a).mp q⟩⟩
 ·rw [if_neg q]
  exact ⟨List.nodup_append.mpr ⟨h1,List.pairwise_singleton ..,fun x mx y my e=>q (by rw [<- List.mem_singleton.mp my,<- e]; exact mx)⟩,fun t=>by rw [List.mem_append,List.mem_append,h2]⟩
theorem a8f {ks:List Nat} (hn:ks.Nodup):∀ ev:List Nat,(∀ t ∈ ev,t ∈ ks)->(ks.map fun t=>ev.count t).sum = ev.length
 | [],_=>d6z _
 | t :: ev,h=>by
  have e:(ks.map fun x=>(t :: ev).count x) = ks.map fun x=>ev.count x + if x = t then 1 else 0:=List.map_congr_left fun x u_=>by
   rw [List.count_cons]
   by_cases q:t = x
   ·subst q; simp
   ·simp [q,Ne.symm q]
  rw [e,M4,a8f hn ev fun x m=>h x (.tail _ m)]
  have:∀ ks:List Nat,ks.Nodup->t ∈ ks->(ks.map fun x=>if x = t then 1 else 0).sum = 1:=fun ks=>by
   induction ks with
   | nil=>exact fun u_ m=>nomatch m
   | cons a ks ih=>
    intro hn hm
    obtain ⟨n1,n2⟩:=List.nodup_cons.mp hn
    rw [List.map_cons,List.sum_cons]
    by_cases q:a = t
    ·subst q
     have z:(ks.map fun x=>if x = a then 1 else 0) = ks.map fun u_=>0:=List.map_congr_left fun x mx=>if_neg fun (w:x = a)=>n1 (w ▸ mx)
     rw [if_pos rfl,z,d6z]
    ·rw [if_neg q,ih n2 ((List.mem_cons.mp hm).resolve_left (Ne.symm q))]
  rw [this ks hn (h t (.head _))]
  rfl
noncomputable def evs (L:List Nat):List Nat:=L.flatMap thg
theorem b8u (L:List Nat):(evs L).length = (L.map (pc 12)).sum:=by
 unfold evs
 rw [List.length_flatMap]
 congr 1
 exact List.map_congr_left fun u u_=>W4 u
theorem a1w {t:Nat} (ht:t < 12):∀ L:List Nat,(evs L).count t = ths L t
 | []=>rfl
 | u :: L=>by
  have e:(evs (u :: L)).count t = (thg u).count t + (evs L).count t:=by unfold evs; rw [List.flatMap_cons,List.count_append]
  have e2:ths (u :: L) t = ths L t + (u.testBit t).toNat:=by
   unfold ths
   rw [List.countP_cons]
   cases u.testBit t <;> rfl
  rw [e,e2,a1w ht L]
  cases q:u.testBit t with
  | true=>
   have hm:t ∈ thg u:=thg_mem.mpr ⟨ht,q⟩
   have h1:(thg u).count t <= 1:=List.nodup_iff_count.mp (b6g u) t
   have h2:=List.count_pos_iff.mpr hm
   show _ = _ + 1
   lia
  | false=>
   rw [List.count_eq_zero.mpr fun m=>by have:=(thg_mem.mp m).2; rw [q] at this; cases this]
   show _ = _ + 0
   lia
theorem evs_mem {t:Nat} {L:List Nat}:t ∈ evs L ↔ ∃ u ∈ L,t < 12 /\ u.testBit t = true:=by
 unfold evs
 rw [List.mem_flatMap]
 exact exists_congr fun u=>and_congr_right fun u_=>thg_mem
end
section
noncomputable def qn5:Str := "law.<locals>.<lambda>"
noncomputable abbrev tb5:List AObj:=[.tab 100 qn5]
noncomputable abbrev R1 (cs:List Int):List (List AObj):=[tb5,[.list (cs.map .int)]]
noncomputable def cells5:List Int:=[9,40,2336,2049,264,8]
section
variable {cs:List Int} {ρ:List (Option V)} {R:List (List AObj)} {D ns:List Nat}
theorem s0 {is:List Int} (h:Hv 23 ρ [(0,.lst (is.map .int))]) (hl:is.length <= 63):X1 P05 t0 ⟨ρ,[tb5,[]]⟩ .next ⟨ρ.set 1 (some (.ref 1 0)),R1 (a0d is cells5)⟩:=by
 have c:=a9s (P:=P05) (ad:=79) (st:=⟨ρ,[tb5,[.list (cells5.map .int)]]⟩) (l:=1) (i:=0) (is:=is) (cs:=cells5) (by show 2 < 99; decide) rfl (by decide) (by decide) (by lia)
 exact B4 (B7 C5 (A9 (B0 (h.get 0 rfl)) (A9 (v:=.ref 1 0) (st1:=⟨ρ,[tb5,[.list (cells5.map .int)]]⟩) (F3 (A9 B9 (A9 B9 (A9 B9 (A9 B9 (A9 B9 (A9 B9 B3)))))) rfl) B3)) B6 (Q6 d2i c)) (J2 h (by decide))
theorem b0m (is:List Int):(a0d is cells5).length = 6:=by unfold a0d; rw [b5r]; rfl
noncomputable def dr5 (cs:List Int):List Nat:=(List.range 5).map fun i=>rem cs i 4096
noncomputable def fl5 (cs:List Int):Nat:=rem cs 5 21
theorem c8i (cs:List Int):(dr5 cs).length = 5:=by unfold dr5; rw [List.length_map,List.length_range]
theorem d7a (cs:List Int):∀ d ∈ dr5 cs,d < 4096:=fun d m=>by
 obtain ⟨i,_,rfl⟩:=List.mem_map.mp m
 have:=c7z cs i (show (0:Int) < 4096 by decide)
 lia
theorem d7b (cs:List Int):fl5 cs < 21:=by
 have:=c7z cs 5 (show (0:Int) < 21 by decide)
 unfold fl5; lia
theorem b8v (x:Int) {m:Int} (hm:0 < m):a0i .Mod x m = some (x.fmod m):=by
 simp only [J1]
 exact if_neg (Int.ne_of_gt hm)
theorem s1 (h:Hv 23 ρ [(1,.ref 1 0)]) (hl:cs.length = 6):X1 P05 t1 ⟨ρ,R1 cs⟩ .next ⟨ρ.set 2 (some (.lst (nv (dr5 cs ++ [fl5 cs])))),R1 cs⟩:=by
 have e1:E P05 (.comp false 23 2 [(.mk (.slot 24) (.val (.slc (.slot 1) none (some (.const (.int 5))) none false)) [])] (.bin .Mod (.slot 24) (.const (.int 4096)) false)) ⟨ρ,R1 cs⟩ (.lst (nv (dr5 cs))) ⟨ρ,R1 cs⟩:=by
  unfold dr5 nv
  rw [List.map_map]
  refine b6b (f:=fun i:Nat=>V.int (cs.getD i 0)) (it:=.seq ((List.range 5).map fun i:Nat=>V.int (cs.getD i 0))) h (T5 (v:=.lst ((List.range 5).map fun i:Nat=>V.int (cs.getD i 0))) (J3 (B0 (h.get 0 rfl)) C9 (D3 B9) C9 ?_) rfl) (E9 _).R (by rw [List.length_range]; decide) fun i hi ρ' h'=>?_
  ·have:=b8g (st:=⟨ρ,R1 cs⟩) (a:=.ref 1 0) (vs:=cs.map .int) (lo:=none) (hi:=some (.int 5)) (l:=none) (h:=some 5) rfl rfl rfl (by rw [List.length_map,hl]; decide)
   refine this.trans ?_
   rw [b2n,show (5:Int) = ((5:Nat):Int) from rfl,c1q cs (by lia)]
   congr 3
   refine List.ext_getElem (by simp [hl]) fun i h1 h2=>?_
   have:i < cs.length:=by simp at h1; lia
   simp [this]
  ·refine C4 (B0 (h'.get 0 rfl)) B9 ?_
   rw [b8v _ (by decide),c1r cs i (show (0:Int) < 4096 by decide)]
 have e2:E P05 (.lst [(.bin .Mod (.sub (.slot 1) (.const (.int 5))) (.const (.int 21)) false)] false) ⟨ρ,R1 cs⟩ (.lst (nv [fl5 cs])) ⟨ρ,R1 cs⟩:=by
  refine F3 (A9 (C4 (c8c rfl (B0 (h.get 0 rfl)) (show 5 < cs.length by lia) (by lia) B9) B9 ?_) B3) rfl
  rw [b8v _ (by decide),c1r cs 5 (show (0:Int) < 21 by decide)]
  rfl
 refine B4 (a4d e1 e2 ?_) (J2 h (by decide))
 rw [a3y]
 exact a3a rfl rfl (by rw [List.length_append,E3,E3,c8i]; show 5 + 1 <= lim; decide)
noncomputable def wr5 (D:List Nat) (f:Nat):List Nat:=[D.getD 0 0 + 4096 * D.getD 1 0,D.getD 2 0 + 4096 * D.getD 3 0,D.getD 4 0,f]
theorem d7c {ns:List Nat} (j i:Nat) {v:Nat} (h:ρ[i]? = some (some (.lst (nv ns)))) (hl:ns.length <= 1000) (hj:j < ns.length) (hv:ns.getD j 0 = v):E P05 (.sub (.slot i) (.const (.int (j:Nat)))) ⟨ρ,R⟩ (.int (v:Nat)) ⟨ρ,R⟩:=hv ▸ d2g (k:=j) (xs:=ns) h rfl hl hj B9
theorem s2 {f:Nat} (h:Hv 23 ρ [(2,.lst (nv (D ++ [f])))]) (hl:D.length = 5):X1 P05 t2 ⟨ρ,R⟩ .next ⟨ρ.set 3 (some (.lst (nv (wr5 D f)))),R⟩:=by
 have hlen:(D ++ [f]).length = 6:=by rw [List.length_append,hl]; rfl
 have a:∀ j,j < 5->E P05 (.sub (.slot 2) (.const (.int (j:Nat)))) ⟨ρ,R⟩ (.int (D.getD j 0:Nat)) ⟨ρ,R⟩:=fun j hj=>d7c j 2 (h.get 0 rfl) (by rw [hlen]; decide) (by lia) (by
  rw [List.getD_eq_getElem?_getD,List.getElem?_append_left (by lia),<- List.getD_eq_getElem?_getD])
 have a5:E P05 (.sub (.slot 2) (.const (.int 5))) ⟨ρ,R⟩ (.int (f:Nat)) ⟨ρ,R⟩:=d7c 5 2 (h.get 0 rfl) (by rw [hlen]; decide) (by lia) (by
  rw [List.getD_eq_getElem?_getD,List.getElem?_append_right (by lia),hl]; rfl)
 exact B4 (F3 (v:=.lst (nv (wr5 D f))) (A9 (M5 (a 0 (by decide)) (b8s (x:=4096) (by decide) B9 (a 1 (by decide)))) (A9 (M5 (a 2 (by decide)) (b8s (x:=4096) (by decide) B9 (a 3 (by decide)))) (A9 (a 4 (by decide)) (A9 a5 B3)))) rfl) (J2 h (by decide))
theorem d7d {f:Nat} (h:∀ d ∈ D,d < 4096) (hf:f < 21) (hl:D.length = 5):∀ n ∈ wr5 D f,n < 64 ^ (3 + 1):=fun n m=>by
 have hd:∀ i,i < 5->D.getD i 0 < 4096:=fun i hi=>h _ (by rw [List.getD_eq_getElem?_getD,List.getElem?_eq_getElem (by lia)]; exact List.getElem_mem _)
 have h0:=hd 0 (by decide)
 have h1:=hd 1 (by decide)
 have h2:=hd 2 (by decide)
 have h3:=hd 3 (by decide)
 have h4:=hd 4 (by decide)
 unfold wr5 at m
 simp only [List.mem_cons,List.not_mem_nil,or_false] at m
 have:(64:Nat) ^ (3 + 1) = 16777216:=by decide
 rcases m with rfl | rfl | rfl | rfl <;> lia
theorem s3 (h:Hv 23 ρ [(3,.lst (nv ns))]) (hn:∀ n ∈ ns,n < 64 ^ (3 + 1)) (hl:ns.length <= 1000) (hR:R.length < 80):X1 P05 t3 ⟨ρ,R⟩ .next ⟨ρ.set 4 (some (.lst (nv ns))),R⟩:=by
 have c:=c6p (P:=P05) (ad:=84) (w:=3) (by decide) d2k (st:=⟨ρ,R⟩) (ns:=ns) hR hn hl
 exact B4 (B7 C5 (A9 (B0 (h.get 0 rfl)) B3) B6 (Q6 d2j c)) (J2 h (by decide))
theorem s4 (h:Hv 23 ρ [(4,.lst (nv ns)),(3,.lst (nv ns))]):X1 P05 t4 ⟨ρ,R⟩ .next ⟨ρ,R⟩:=
 L7 (D2 (B0 (h.get 0 rfl)) (B0 (h.get 1 rfl)) (a7v (c6y _ _))) J0
theorem s5 {f:Nat} (h:Hv 23 ρ [(4,.lst (nv (wr5 D f)))]) (hd:∀ d ∈ D,d < 4096) (hl:D.length = 5):X1 P05 t5 ⟨ρ,R⟩ .next ⟨ρ.set 5 (some (.lst (nv D))),R⟩:=by
 have a:=fun j (hj:j < 4)=>d7c (R:=R) (v:=(wr5 D f).getD j 0) j 4 (h.get 0 rfl) (by show 4 <= 1000; decide) hj rfl
 have lt:∀ i,i < 5->D.getD i 0 < 4096:=fun i hi=>hd _ (by rw [List.getD_eq_getElem?_getD,List.getElem?_eq_getElem (by lia)]; exact List.getElem_mem _)
 have m1:∀ x y,x < 4096->(x + 4096 * y) % 4096 = x /\ (x + 4096 * y) / 4096 = y:=fun x y hx=>⟨by rw [Nat.add_mul_mod_self_left,Nat.mod_eq_of_lt hx],by rw [Nat.add_mul_div_left _ _ (by decide),Nat.div_eq_of_lt hx,Nat.zero_add]⟩
 have e:D = [(wr5 D f).getD 0 0 % 4096,(wr5 D f).getD 0 0 / 4096,(wr5 D f).getD 1 0 % 4096,(wr5 D f).getD 1 0 / 4096,(wr5 D f).getD 2 0]:=by
  clear a h
  revert lt
  exact c8h hl fun a b c d e lt=>by
   show [a,b,c,d,e] = [(a + 4096 * b) % 4096,(a + 4096 * b) / 4096,(c + 4096 * d) % 4096,(c + 4096 * d) / 4096,e]
   rw [(m1 a b (lt 0 (by decide))).1,(m1 a b (lt 0 (by decide))).2,(m1 c d (lt 2 (by decide))).1,(m1 c d (lt 2 (by decide))).2]
 have key:E P05 (.lst [(.bin .Mod (.sub (.slot 4) (.const (.int 0))) (.const (.int 4096)) false),(.bin .FloorDiv (.sub (.slot 4) (.const (.int 0))) (.const (.int 4096)) false),(.bin .Mod (.sub (.slot 4) (.const (.int 1))) (.const (.int 4096)) false),(.bin .FloorDiv (.sub (.slot 4) (.const (.int 1))) (.const (.int 4096)) false),(.sub (.slot 4) (.const (.int 2)))] false) ⟨ρ,R⟩ (.lst (nv [(wr5 D f).getD 0 0 % 4096,(wr5 D f).getD 0 0 / 4096,(wr5 D f).getD 1 0 % 4096,(wr5 D f).getD 1 0 / 4096,(wr5 D f).getD 2 0])) ⟨ρ,R⟩:=
  F3 (A9 (Y1 (y:=4096) (by decide) (a 0 (by decide)) B9) (A9 (a0f (y:=4096) (by decide) (by decide) (a 0 (by decide)) B9) (A9 (Y1 (y:=4096) (by decide) (a 1 (by decide)) B9) (A9 (a0f (y:=4096) (by decide) (by decide) (a 1 (by decide)) B9) (A9 (a 2 (by decide)) B3))))) rfl
 rw [<- e] at key
 exact B4 key (J2 h (by decide))
noncomputable abbrev R2 (cs:List Int) (L:List Nat):List (List AObj):=[tb5,[.list (cs.map .int),.list (nv L)]]
theorem s6 (h:Hv 23 ρ []):X1 P05 t6 ⟨ρ,R1 cs⟩ .next ⟨(ρ.set 6 (some (.ref 1 1))).set 7 (some (.lst (nv [0]))),R2 cs [0]⟩:=
 B4 (st1:=⟨ρ,R2 cs [0]⟩) (G9 (A9 (v:=.ref 1 1) (st1:=⟨ρ,R2 cs [0]⟩) (F3 (A9 B9 B3) rfl) (A9 (v:=.lst (nv [0])) (F3 (A9 B9 B3) rfl) B3))) (N2 (J2 h (by decide)) (J2 (h.set (i:=6) _ rfl) (by decide)))
end
end
section
section
variable {P:Pg} {st:St}
theorem a8g {β:Type} {N:Nat} {p:MPat} {it:Nat->It} {f:Nat->V} {Inv:Nat->β->Prop} {K:β->List (Option V)->Prop} {Rs:β->List (List AObj)} {body:List MS}
  (hn:∀ j b ρ,j < N->Inv j b->(it j).next ⟨ρ,Rs b⟩ = some (some (f j,it (j + 1)))) (he:∀ b ρ,Inv N b->(it N).next ⟨ρ,Rs b⟩ = some none)
  (h:∀ j b ρ,j < N->Inv j b->K b ρ->∃ ρ1 b' ρ',As P 4 p (f j) ⟨ρ,Rs b⟩ ⟨ρ1,Rs b⟩ /\ Inv (j + 1) b' /\ K b' ρ' /\ X P body ⟨ρ1,Rs b⟩ .next ⟨ρ',Rs b'⟩) :
  ∀ (m j:Nat) (b:β) (ρ:List (Option V)),j + m = N->Inv j b->K b ρ->∃ b' ρ',Inv N b' /\ K b' ρ' /\ X P [.forGo p (it j) body []] ⟨ρ,Rs b⟩ .next ⟨ρ',Rs b'⟩
 | 0,j,b,ρ,e,hI,hK=>⟨b,ρ,by rw [<- e]; exact hI,hK,c4t (by have:=he b ρ (by rw [<- e]; exact hI); rw [<- e] at this; exact this) J0⟩
 | m + 1,j,b,ρ,e,hI,hK=>by
  obtain ⟨ρ1,b1,ρ2,a1,i1,k1,x1⟩:=h j b ρ (by lia) hI hK
  obtain ⟨b2,ρ3,i2,k2,x2⟩:=a8g hn he h m (j + 1) b1 ρ2 (by lia) i1 k1
  exact ⟨b2,ρ3,i2,k2,d5e (hn j b ρ (by lia) hI) a1 x1 x2⟩
theorem b6h {β:Type} {i n:Nat} {xs:List Nat} {l:β->List (Nat × V)} {Inv:Nat->β->Prop} {Rs:β->List (List AObj)} {body:List MS} (hi:∀ b,((l b).map (·.1)).contains i = false) (hin:i < n)
  (h:∀ j b ρ,j < xs.length->Inv j b->Hv n ρ ((i,.int (xs.getD j 0:Nat)) :: l b)->∃ b' ρ',Inv (j + 1) b' /\ Hv n ρ' (l b') /\ X P body ⟨ρ,Rs b⟩ .next ⟨ρ',Rs b'⟩) {b:β} {ρ:List (Option V)} (h0:Inv 0 b) (hρ:Hv n ρ (l b)) :
  ∃ b' ρ',Inv xs.length b' /\ Hv n ρ' (l b') /\ X P [.forGo (.slot i) (.seq (nv xs)) body []] ⟨ρ,Rs b⟩ .next ⟨ρ',Rs b'⟩:=by
 refine a8g (N:=xs.length) (it:=fun j=>.seq (nv (xs.drop j))) (f:=fun j=>.int (xs.getD j 0:Nat)) (Inv:=Inv) (K:=fun b ρ=>Hv n ρ (l b)) (fun j b ρ hj u_=>?_) (fun b ρ u_=>?_) (fun j b ρ hj hI hK=>?_) xs.length 0 b ρ (Nat.zero_add _) h0 hρ
 ·have e:xs.drop j = xs.getD j 0 :: xs.drop (j + 1):=by
   rw [List.drop_eq_getElem_cons hj,List.getD_eq_getElem?_getD,List.getElem?_eq_getElem hj]; rfl
  show (It.seq (nv (xs.drop j))).next _ = _
  rw [e]; rfl
 ·show (It.seq (nv (xs.drop xs.length))).next _ = _
  rw [List.drop_length]; rfl
 ·obtain ⟨b',ρ',h1,h2,h3⟩:=h j b _ hj hI (hK.put _ (hi b) hin)
  exact ⟨_,b',ρ',J2 hK hin,h1,h2,h3⟩
theorem not_not (x:Int):Builtin.bitNot (Builtin.bitNot x) = x:=by
 show -(-x - 1) - 1 = x
 lia
theorem b8w (a:Nat):decide (0 <= Builtin.bitNot (a:Int)) = false:=decide_eq_false (by
 show ¬ 0 <= -(a:Int) - 1
 lia)
theorem d2p (a b:Nat):a0i .BitOr (a:Int) (b:Int) = some ((a ||| b:Nat):Int):=by
 show some (Builtin.bitNot (Builtin.bitAnd (Builtin.bitNot (a:Int)) (Builtin.bitNot (b:Int)))) = _
 unfold Builtin.bitAnd
 rw [b8w,b8w]
 show some (Builtin.bitNot (Builtin.bitNot (((Builtin.bitNot (Builtin.bitNot (a:Int))).toNat ||| (Builtin.bitNot (Builtin.bitNot (b:Int))).toNat:Nat):Int))) = _
 rw [not_not,not_not,not_not]
 rfl
theorem d7z {a b:ME} {x y:Nat} (h1:E P a st (.int (x:Nat)) st) (h2:E P b st (.int (y:Nat)) st):E P (.bin .BitOr a b false) st (.int (x ||| y:Nat)) st:=C4 h1 h2 (d2p x y)
end
section
variable {st:St} {a:V} {A C:List Nat} {y l i:Nat}
theorem d7e (hR:st.R.length < 90) (hs:C7 st a = some (nv (A ++ C))) (hl:(A ++ C).length <= 1000) (hA:∀ e ∈ A,e < y) (hC:∀ e ∈ C,y <= e):Call P05 (a2u 50) [a,.int (y:Nat)] [] st (.int (A.length:Nat)) st:=by
 have:=a7i (P:=P05) (ad:=50) (args:=[a,.int (y:Nat)]) (kw:=[]) (by lia) hs (by rw [E3]; unfold lim; lia) (lo:=0) (hi:=(A ++ C).length) (hv:=.imm .none) (gf:=fun m=>(((A ++ C).getD m 0:Nat):Int)) (fun m u_ h2=>W0 _ h2) (.inr ⟨rfl,by rw [E3]⟩) rfl
 have e:=W2 (A:=A) (C:=C) (p:=fun e=>!decide (e < y)) (q:=fun m=>!decide ((((A ++ C).getD m 0:Nat):Int) < ((y:Nat):Int))) 0 (fun e m=>by simpa using hA e m) (fun e m=>by simpa using hC e m) (fun m e he=>by
  rw [Nat.zero_add,List.getD_eq_getElem?_getD,he]
  show (!decide (((e:Nat):Int) < ((y:Nat):Int))) = !decide (e < y)
  congr 1
  exact decide_eq_decide.mpr Int.ofNat_lt)
 rw [Nat.zero_add,Nat.zero_add] at e
 rw [e] at this
 exact this
theorem d7f (hR:st.R.length < 90) (hs:C7 st a = some (nv (A ++ C))) (hl:(A ++ C).length <= 1000) (hA:∀ e ∈ A,e <= y) (hC:∀ e ∈ C,y < e):Call P05 (a8l 32) [a,.int (y:Nat),.int 0,.imm .none] [] st (.int (A.length:Nat)) st:=by
 have:=a7h (P:=P05) (ad:=32) (args:=[a,.int (y:Nat),.int 0,.imm .none]) (kw:=[]) (by lia) hs (by rw [E3]; unfold lim; lia) (lo:=0) (hi:=(A ++ C).length) (hv:=.imm .none) (gf:=fun m=>(((A ++ C).getD m 0:Nat):Int)) (fun m u_ h2=>W0 _ h2) (.inr ⟨rfl,by rw [E3]⟩) (b2i rfl rfl rfl _ _ _ _)
 have e:=W2 (A:=A) (C:=C) (p:=fun e=>decide (y < e)) (q:=fun m=>decide (((y:Nat):Int) < (((A ++ C).getD m 0:Nat):Int))) 0 (fun e m=>by simpa using hA e m) (fun e m=>by simpa using hC e m) (fun m e he=>by
  rw [Nat.zero_add,List.getD_eq_getElem?_getD,he]
  exact decide_eq_decide.mpr Int.ofNat_lt)
 rw [Nat.zero_add,Nat.zero_add] at e
 rw [e] at this
 exact this
theorem d7g (hR:st.R.length < 80) (hob:st.obj l i = some (.list (nv (A ++ C)))) (hl:(A ++ C).length <= 1000) (hA:∀ e ∈ A,e <= y) (hC:∀ e ∈ C,y < e) :
  Call P05 (c9p 23 32) [.ref l i,.int (y:Nat)] [] st (.imm .none) (st.setObj l i (.list (nv (A ++ y :: C)))):=by
 have:=a1g (P:=P05) (ad:=23) (key:=.imm .none) (bkw:=[]) (k:=A.length) (x:=.int (y:Nat)) (bx:=.int (y:Nat)) hob (by rw [E3]; unfold lim; lia) (by rw [E3,List.length_append]; lia) (by lia) rfl c1s (fun ρ=>d7f (by show (st.R ++ [[]]).length < 90; rw [List.length_append]; show st.R.length + 1 < 90; lia) (show C7 ⟨ρ,st.R ++ [[]]⟩ (.ref l i) = _ by show (match St.obj ⟨ρ,st.R ++ [[]]⟩ l i with | some (.list vs)=>some vs | _=>none) = _; rw [L8 ρ st.ρ,show St.obj ⟨st.ρ,st.R⟩ l i = _ from hob]) hl hA hC) (.inl ⟨rfl,rfl,rfl⟩)
 have e:=a1u (nv A) (nv C) (V.int (y:Nat))
 rw [E3] at e
 rw [a3y,e] at this
 rw [a3y]; exact this
end
theorem d2q (st:St) (C:List Nat) (u:Nat):c2p st .NotEq (.lst (nv (C.take 1))) (.lst (nv [u])) = some (C.take 1 != [u]):=by
 have key:∀ xs:List Nat,xs.length <= 1->eqd (.lst (nv xs)) (.lst (nv [u])) = some (xs == [u]):=fun xs h=>by
  match xs,h with
  | [],_=>rfl
  | [c],_=>
   show (if (SeqAt.shaped (PyData.list [.int (c:Nat)]) && SeqAt.shaped (PyData.list [.int (u:Nat)])) = true then some (PyData.eqv (.list [.int (c:Nat)]) (.list [.int (u:Nat)])) else none) = _
   rw [if_pos (show (SeqAt.shaped (PyData.list [.int (c:Nat)]) && SeqAt.shaped (PyData.list [.int (u:Nat)])) = true from rfl)]
   congr 1
   have e1:PyData.eqv (.list [.int (c:Nat)]) (.list [.int (u:Nat)]) = (decide (((c:Nat):Int) = (u:Nat)) && true):=rfl
   rw [e1,Bool.and_true]
   rw [Bool.eq_iff_iff,decide_eq_true_iff,beq_iff_eq,Int.ofNat_inj]
   exact ⟨fun h=>h ▸ rfl,fun h=>(List.cons.inj h).1⟩
 show d5c (eqV st (.lst (nv (C.take 1))) (.lst (nv [u]))) = _
 rw [show eqV st (.lst (nv (C.take 1))) (.lst (nv [u])) = some (C.take 1 == [u]) from  key _ (by rw [List.length_take]; exact Nat.min_le_left _ _)]
 rfl
section
variable {cs:List Int} {ρ:List (Option V)} {u:Nat} {L:List Nat} {K:List (Nat × V)}
theorem c8j (h:Hv 23 ρ ((9,.int (u:Nat)) :: (6,.ref 1 1) :: K)) (hK:(K.map (·.1)).contains 10 = false) (hu:Up1 L) (hl:L.length <= 900) :
  ∃ L' ρ',Hv 23 ρ' ((6,.ref 1 1) :: K) /\ Up1 L' /\ (∀ x,x ∈ L' ↔ x ∈ L ∨ x = u) /\ L'.length <= L.length + 1 /\ X P05 c6v ⟨ρ,R2 cs L⟩ .next ⟨ρ',R2 cs L'⟩:=by
 obtain ⟨A,C,rfl,hA,hC,hin,hout⟩:=c1v hu u
 have c1:=d7e (st:=⟨ρ,R2 cs (A ++ C)⟩) (a:=.ref 1 1) (A:=A) (C:=C) (y:=u) (by show 2 < 90; decide) rfl (by lia) hA hC
 have x1:X1 P05 c6u ⟨ρ,R2 cs (A ++ C)⟩ .next ⟨ρ.set 10 (some (.int (A.length:Nat))),R2 cs (A ++ C)⟩:=
  B4 (B7 C5 (A9 (B0 (h.get 1 rfl)) (A9 (B0 (h.get 0 rfl)) B3)) B6 (Q6 a8a c1)) (J2 h (by decide))
 have h1:=h.put (i:=10) (.int (A.length:Nat)) (by show ((9 :: 6 :: K.map fun p:Nat × V=>p.1).contains 10) = false; rw [List.contains_cons,List.contains_cons,hK]; rfl) (by decide)
 generalize ρ.set 10 (some (.int (A.length:Nat))) = ρ1 at h1 x1
 have hz:(A ++ C).length <= 900:=hl
 have es:E P05 (.slc (.slot 6) (some (.slot 10)) (some (.bin .Add (.slot 10) (.const (.int 1)) false)) none false) ⟨ρ1,R2 cs (A ++ C)⟩ (.lst (nv (C.take 1))) ⟨ρ1,R2 cs (A ++ C)⟩:=by
  refine J3 (B0 (h1.get 2 rfl)) (D3 (B0 (h1.get 0 rfl))) (D3 (M5 (y:=1) (B0 (h1.get 0 rfl)) B9)) C9 ?_
  have:=b8g (st:=⟨ρ1,R2 cs (A ++ C)⟩) (a:=.ref 1 1) (vs:=nv (A ++ C)) (lo:=some (.int (A.length:Nat))) (hi:=some (.int (A.length + 1:Nat))) (l:=some (A.length:Nat)) (h:=some (A.length + 1:Nat)) rfl rfl rfl (by rw [E3]; unfold lim; lia)
  rw [d2f,c7x _ (by rw [List.length_append]; lia),List.drop_left] at this
  exact this
 have ct:T P05 8 (.cmp (.slc (.slot 6) (some (.slot 10)) (some (.bin .Add (.slot 10) (.const (.int 1)) false)) none false) [.NotEq] [(.lst [(.slot 9)] false)]) ⟨ρ1,R2 cs (A ++ C)⟩ (C.take 1 != [u]) ⟨ρ1,R2 cs (A ++ C)⟩:=
  D2 es (F3 (v:=.lst (nv [u])) (A9 (B0 (h1.get 1 rfl)) B3) rfl) (d2q _ C u)
 by_cases q:u ∈ A ++ C
 ·obtain ⟨C',rfl⟩:=hin q
  refine ⟨A ++ u :: C',ρ1,h1.tl.tl,hu,fun x=>⟨.inl,fun w=>w.elim id fun e=>e ▸ q⟩,Nat.le_succ _,C0 x1 (G3 (I7 ct (by simp) J0))⟩
 ·obtain ⟨k1,k2⟩:=hout q
  have c2:=d7g (st:=⟨ρ1,R2 cs (A ++ C)⟩) (l:=1) (i:=1) (A:=A) (C:=C) (y:=u) (by show 2 < 80; decide) rfl (by lia) (fun e m=>Nat.le_of_lt (hA e m)) k1
  refine ⟨A ++ u :: C,ρ1,h1.tl.tl,k2,fun x=>?_,by rw [List.length_append,List.length_append]; show _ <= _; simp; lia,C0 x1 (G3 (I6 ct ?_ (G3 (D0 (v:=.imm .none) (B7 C5 (A9 (B0 (h1.get 2 rfl)) (A9 (B0 (h1.get 1 rfl)) B3)) B6 (Q6 c8d c2))))))⟩
  ·simp only [List.mem_append,List.mem_cons]
   exact ⟨fun w=>w.elim (fun w=>.inl (.inl w)) fun w=>w.elim .inr fun w=>.inl (.inr w),fun w=>w.elim (fun w=>w.elim .inl fun w=>.inr (.inr w)) fun w=>.inr (.inl w)⟩
  ·rw [bne_iff_ne]
   intro e
   cases C with
   | nil=>cases e
   | cons c C=>
    have:c = u:=(List.cons.inj e).1
    exact q (by rw [this]; simp)
end
end
section
section
variable {cs:List Int} {ρ:List (Option V)} {own:Nat} {L ch ss:List Nat} {K:List (Nat × V)}
theorem a4a {a i:Nat} {v:V} (h:(K.map fun p:Nat × V=>p.1).contains i = false) (hne:(i == a) = false):(((a,v) :: K).map fun p:Nat × V=>p.1).contains i = false:=by
 rw [List.map_cons,List.contains_cons,h,hne]; rfl
theorem c8k {us:List Nat} (hK:(K.map fun p:Nat × V=>p.1).contains 10 = false) (hK9:(K.map fun p:Nat × V=>p.1).contains 9 = false) (h:Hv 23 ρ ((6,.ref 1 1) :: K)) (hu:Up1 L) (hl:L.length + us.length <= 900) :
  ∃ L' ρ',Hv 23 ρ' ((6,.ref 1 1) :: K) /\ Up1 L' /\ (∀ x,x ∈ L' ↔ x ∈ L ∨ x ∈ us) /\ L'.length <= L.length + us.length /\ X P05 [.forGo (.slot 9) (.seq (nv us)) c6v []] ⟨ρ,R2 cs L⟩ .next ⟨ρ',R2 cs L'⟩:=by
 obtain ⟨L',ρ',⟨i1,i2,i3⟩,k,x⟩:=b6h (P:=P05) (i:=9) (n:=23) (xs:=us) (l:=fun _:List Nat=>(6,.ref 1 1) :: K) (Inv:=fun j L'=>Up1 L' /\ (∀ x,x ∈ L' ↔ x ∈ L ∨ x ∈ us.take j) /\ L'.length <= L.length + j) (Rs:=R2 cs) (body:=c6v) (fun u_=>a4a hK9 rfl) (by decide) (fun j b ρ hj hI hρ=>by
  obtain ⟨i1,i2,i3⟩:=hI
  obtain ⟨L2,ρ2,a1,a2,a3,a4,a5⟩:=c8j (cs:=cs) hρ hK i1 (by lia)
  refine ⟨L2,ρ2,⟨a2,fun x=>?_,by lia⟩,a1,a5⟩
  rw [a3,i2,List.take_succ_eq_append_getElem hj,List.mem_append,List.mem_singleton,List.getD_eq_getElem?_getD,List.getElem?_eq_getElem hj]
  exact or_assoc) (b:=L) ⟨hu,fun x=>⟨.inl,fun w=>w.elim id fun w=>nomatch w⟩,Nat.le_refl _⟩ h
 exact ⟨L',ρ',k,i1,fun x=>by rw [i2,List.take_length],i3,x⟩
theorem c1w (hK:∀ i,i ∈ [7,8,9,10]->(K.map fun p:Nat × V=>p.1).contains i = false) (h:Hv 23 ρ ((8,.int (own:Nat)) :: (7,.lst (nv ch)) :: (6,.ref 1 1) :: K)) (hu:Up1 L) (hl:L.length <= 400) (hc:ch.length <= 400) :
  ∃ L' ρ',Hv 23 ρ' ((7,.lst (nv (ch ++ ch.map (own ||| ·)))) :: (6,.ref 1 1) :: K) /\ Up1 L' /\ (∀ x,x ∈ L' ↔ x ∈ L ∨ x ∈ L.map (own ||| ·)) /\ L'.length <= L.length + L.length /\ X P05 t7B ⟨ρ,R2 cs L⟩ .next ⟨ρ',R2 cs L'⟩:=by
 have e1:E P05 (.comp false 23 2 [(.mk (.slot 24) (.val (.slot 7)) [])] (.bin .BitOr (.slot 8) (.slot 24) false)) ⟨ρ,R2 cs L⟩ (.lst (nv (ch.map (own ||| ·)))) ⟨ρ,R2 cs L⟩:=by
  have:=b6b (P:=P05) (n:=23) (f:=fun c:Nat=>V.int (c:Nat)) (g:=fun c:Nat=>V.int (own ||| c:Nat)) (xs:=ch) (it:=.seq (nv ch)) (elt:=.bin .BitOr (.slot 8) (.slot 24) false) (R:=R2 cs L) h (T5 (B0 (h.get 1 rfl)) rfl) (E9 _).R (by unfold lim; lia) fun c u_ ρ' h'=>d7z (B0 (h'.get 1 rfl)) (B0 (h'.get 0 rfl))
  unfold nv
  rw [List.map_map]; exact this
 have x1:X1 P05 d8v ⟨ρ,R2 cs L⟩ .next ⟨ρ.set 7 (some (.lst (nv (ch ++ ch.map (own ||| ·))))),R2 cs L⟩:=
  B4 (a4d (B0 (h.get 1 rfl)) e1 (by rw [a3y]; exact a3a rfl rfl (by rw [List.length_append,E3,E3,List.length_map]; unfold lim; lia))) (J2 h (by decide))
 have h0:Hv 23 ρ ((8,.int (own:Nat)) :: (6,.ref 1 1) :: K):=h.sub fun p m=>by
  rcases List.mem_cons.mp m with rfl | m
  ·exact .head _
  ·exact .tail _ (.tail _ m)
 have h1:=h0.put (i:=7) (.lst (nv (ch ++ ch.map (own ||| ·)))) (a4a (a4a (hK 7 (by decide)) rfl) rfl) (by decide)
 generalize ρ.set 7 (some (.lst (nv (ch ++ ch.map (own ||| ·))))) = ρ1 at h1 x1
 have e2:E P05 (.comp false 23 2 [(.mk (.slot 24) (.val (.slot 6)) [])] (.bin .BitOr (.slot 8) (.slot 24) false)) ⟨ρ1,R2 cs L⟩ (.lst (nv (L.map (own ||| ·)))) ⟨ρ1,R2 cs L⟩:=by
  have:=b6b (P:=P05) (n:=23) (f:=fun c:Nat=>V.int (c:Nat)) (g:=fun c:Nat=>V.int (own ||| c:Nat)) (xs:=L) (it:=.ref 1 1 0) (elt:=.bin .BitOr (.slot 8) (.slot 24) false) (R:=R2 cs L) h1 (T5 (B0 (h1.get 2 rfl)) rfl) (I4 (vs:=nv L) (fun u_=>rfl) _ 0 rfl) (by unfold lim; lia) fun c u_ ρ' h'=>d7z (B0 (h'.get 2 rfl)) (B0 (h'.get 0 rfl))
  unfold nv
  rw [List.map_map]; exact this
 have h2:Hv 23 ρ1 ((6,.ref 1 1) :: (7,.lst (nv (ch ++ ch.map (own ||| ·)))) :: K):=h1.sub fun p m=>by
  rcases List.mem_cons.mp m with rfl | m
  ·exact .tail _ (.tail _ (.head _))
  ·rcases List.mem_cons.mp m with rfl | m
   ·exact .head _
   ·exact .tail _ (.tail _ (.tail _ m))
 obtain ⟨L',ρ',a1,a2,a3,a4,a5⟩:=c8k (cs:=cs) (us:=L.map (own ||| ·)) (a4a (hK 10 (by decide)) rfl) (a4a (hK 9 (by decide)) rfl) h2 hu (by rw [List.length_map]; lia)
 refine ⟨L',ρ',a1.sub fun p m=>?_,a2,a3,by rw [List.length_map] at a4; exact a4,C0 x1 (G3 (Y8 (T5 e2 rfl) a5))⟩
 rcases List.mem_cons.mp m with rfl | m
 ·exact .tail _ (.head _)
 ·rcases List.mem_cons.mp m with rfl | m
  ·exact .head _
  ·exact .tail _ (.tail _ m)
theorem a1x (ss:List Nat) (own:Nat):chs (ss ++ [own]) = chs ss ++ (chs ss).map (own ||| ·):=by unfold chs; rw [List.foldl_append]; rfl
theorem b8x:∀ ss:List Nat,(chs ss).length = 2 ^ ss.length:=fun ss=>by
 refine a5c (p:=fun ss=>(chs ss).length = 2 ^ ss.length) rfl (fun l a ih=>?_) ss
 rw [a1x,List.length_append,List.length_map,ih,List.length_append,List.length_singleton,Nat.pow_succ]; lia
theorem d2r {ss:List Nat}:(∀ s ∈ ss,s < 4096)->∀ x ∈ chs ss,x < 4096:=by
 refine a5c (p:=fun ss=>(∀ s ∈ ss,s < 4096)->∀ x ∈ chs ss,x < 4096) (fun u_ x m=>(show x = 0 from List.mem_singleton.mp m) ▸ (show 0 < 4096 by decide)) (fun l a ih h x m=>?_) ss
 rw [a1x,List.mem_append,List.mem_map] at m
 have ih:=ih fun s m=>h s (List.mem_append_left _ m)
 rcases m with m | ⟨y,m,rfl⟩
 ·exact ih x m
 ·exact Nat.or_lt_two_pow (n:=12) (h a (List.mem_append_right _ (.head _))) (ih y m)
theorem s7 (hK:∀ i,i ∈ [7,8,9,10]->(K.map fun p:Nat × V=>p.1).contains i = false) (hs:(5,.lst (nv ss)) ∈ K) (hl:ss.length = 5) (h:Hv 23 ρ ((7,.lst (nv [0])) :: (6,.ref 1 1) :: K)) :
  ∃ L ρ',Hv 23 ρ' ((7,.lst (nv (chs ss))) :: (6,.ref 1 1) :: K) /\ Up1 L /\ (∀ x,x ∈ L ↔ x ∈ chs ss) /\ L.length <= 32 /\ X1 P05 t7 ⟨ρ,R2 cs [0]⟩ .next ⟨ρ',R2 cs L⟩:=by
 obtain ⟨⟨k,L⟩,ρ',⟨e,i1,i2,i3⟩,kk,x⟩:=b6h (P:=P05) (i:=8) (n:=23) (xs:=ss) (l:=fun b:Nat × List Nat=>(7,.lst (nv (chs (ss.take b.1)))) :: (6,.ref 1 1) :: K) (Inv:=fun j b=>b.1 = j /\ Up1 b.2 /\ (∀ x,x ∈ b.2 ↔ x ∈ chs (ss.take j)) /\ b.2.length <= 2 ^ j) (Rs:=fun b=>R2 cs b.2) (body:=t7B) (fun b=>a4a (a4a (hK 8 (by decide)) rfl) rfl) (by decide) (fun j b ρ hj hI hρ=>by
  obtain ⟨e,i1,i2,i3⟩:=hI
  obtain ⟨k,L⟩:=b
  cases e
  have hp:2 ^ k <= 16:=Nat.pow_le_pow_right (n:=2) (by decide) (show k <= 4 by lia)
  have hcl:(chs (ss.take k)).length = 2 ^ k:=by rw [b8x,List.length_take,Nat.min_eq_left (Nat.le_of_lt hj)]
  have i3:L.length <= 2 ^ k:=i3
  obtain ⟨L',ρ',a1,a2,a3,a4,a5⟩:=c1w (cs:=cs) hK hρ i1 (by lia) (by lia)
  have et:ss.take (k + 1) = ss.take k ++ [ss.getD k 0]:=by rw [List.take_succ_eq_append_getElem hj,List.getD_eq_getElem?_getD,List.getElem?_eq_getElem hj]; rfl
  refine ⟨(k + 1,L'),ρ',⟨rfl,a2,fun x=>?_,by show L'.length <= 2 ^ (k + 1); rw [Nat.pow_succ]; lia⟩,?_,a5⟩
  ·show x ∈ L' ↔ _
   rw [a3,et,a1x,List.mem_append,List.mem_map,List.mem_map]
   exact or_congr (i2 x) (exists_congr fun y=>and_congr_left fun u_=>i2 y)
  ·show Hv 23 ρ' ((7,.lst (nv (chs (ss.take (k + 1))))) :: _)
   rw [et,a1x]; exact a1) (b:=(0,[0])) ⟨rfl,List.pairwise_singleton ..,fun x=>.rfl,Nat.le_refl _⟩ h
 cases e
 rw [List.take_length] at kk i2
 refine ⟨L,ρ',kk,i1,i2,?_,Y8 (T5 (B0 (h.2 _ (.tail _ (.tail _ hs)))) rfl) x⟩
 have:L.length <= 2 ^ ss.length:=i3
 rw [hl] at this; exact this
theorem s8 (h:Hv 23 ρ ((7,.lst (nv ch)) :: (6,.ref 1 1) :: K)) (hu:Up1 L) (hm:∀ x,x ∈ L ↔ x ∈ ch) (hl:ch.length < 63):X1 P05 t8 ⟨ρ,R2 cs L⟩ .next ⟨ρ,R2 cs L⟩:=by
 have e:=d1o (P:=P05) (B0 (st:=⟨ρ,R2 cs L⟩) (h.get 0 rfl)) (vs:=nv ch) (is:=ch.map fun c=>((c:Nat):Int)) (us:=L.map fun c=>((c:Nat):Int)) rfl (a1q ch) (by rw [List.length_map]; exact hl) (List.pairwise_map.mpr (hu.imp fun h=>Int.ofNat_lt.mpr h)) fun k=>by
  rw [List.mem_map,List.mem_map]
  exact exists_congr fun x=>and_congr_left fun u_=>hm x
 rw [<- a2z] at e
 exact L7 (D2 (B0 (h.get 1 rfl)) e (a7v ((b3c (vs:=nv L) rfl).trans (c6y _ _)))) J0
end
end
section
noncomputable def dgs (n:Nat):Nat->List Nat
 | 0=>[]
 | q + 1=>(65 + n / 16 ^ q % 16) :: dgs n q
theorem c8l (n q:Nat):dgs n (q + 1) = (65 + n / 16 ^ q % 16) :: dgs n q:=rfl
theorem b3u (n:Nat):∀ q,dgs n (q + 1) = dgs (n / 16) q ++ [65 + n % 16]
 | 0=>by rw [c8l,Nat.pow_zero,Nat.div_one]; rfl
 | q + 1=>by
  rw [c8l,b3u n q,c8l,List.cons_append,Nat.div_div_eq_div_mul,Nat.pow_succ,Nat.mul_comm 16]
theorem b8y (n:Nat):∀ q,(dgs n q).length = q
 | 0=>rfl
 | q + 1=>congrArg Nat.succ (b8y n q)
theorem c8m:∀ f n,n < 16 ^ f->∃ L,(apD f n).map (fun c=>c.toNat) = dgs n L /\ n < 16 ^ L /\ L <= f
 | 0,n,h=>⟨0,rfl,h,Nat.le_refl _⟩
 | f + 1,n,h=>by
  unfold apD
  split
  ·rename_i h0; exact ⟨0,rfl,by lia,Nat.zero_le _⟩
  ·obtain ⟨L,e,h1,h2⟩:=c8m f (n / 16) (by rw [Nat.pow_succ] at h; lia)
   refine ⟨L + 1,?_,by rw [Nat.pow_succ]; lia,by lia⟩
   rw [List.map_append,e,b3u]
   congr 1
   have:(65 + n % 16).toUInt8.toNat = 65 + n % 16:=by
    show (65 + n % 16) % 256 = _
    lia
   rw [List.map_singleton,this]
theorem b8z {n L:Nat} (h:n < 16 ^ L):∀ d,dgs n (L + d) = List.replicate d 65 ++ dgs n L
 | 0=>rfl
 | d + 1=>by
  have:n / 16 ^ (L + d) = 0:=Nat.div_eq_of_lt (Nat.lt_of_lt_of_le h (Nat.pow_le_pow_right (by decide) (Nat.le_add_right _ _)))
  rw [<- Nat.add_assoc,c8l,b8z h d,this,List.replicate_succ]; rfl
theorem c8n (n:Nat):∀ q,∀ c ∈ dgs n q,c < 81
 | 0,_,m=>nomatch m
 | q + 1,c,m=>by
  rcases List.mem_cons.mp m with rfl | m
  ·lia
  ·exact c8n n q c m
theorem b9a:∀ f n,n < 16 ^ f->(apD f n).take 1 ≠ [65]
 | 0,n,_=>by simp [apD]
 | f + 1,n,h=>by
  unfold apD
  by_cases h0:n = 0
  ·rw [if_pos h0]; simp
  ·rw [if_neg h0]
   have ih:=b9a f (n / 16) (by rw [Nat.pow_succ] at h; lia)
   by_cases hq:n / 16 = 0
   ·have:apD f (n / 16) = []:=by rw [hq]; cases f <;> simp [apD]
    rw [this,List.nil_append]
    have hn:n % 16 = n:=by lia
    have h1:∀ m,m < 16->m ≠ 0->(([(65 + m).toUInt8]:List UInt8)).take 1 ≠ [65]:=by decide
    exact h1 (n % 16) (by lia) (by lia)
   ·have hne:apD f (n / 16) ≠ []:=by
     cases f with
     | zero=>simp at h; lia
     | succ f=>unfold apD; rw [if_neg hq]; simp
    cases hh:apD f (n / 16) with
    | nil=>exact absurd hh hne
    | cons a as=>rw [hh] at ih; simpa using ih
theorem c8o {N:Nat} (h:N < 16 ^ 3):(apD 3 N).length <= 3 /\ (apD 3 N).map (fun c=>c.toNat) = dgs N (apD 3 N).length /\ List.replicate (3 - (apD 3 N).length) 65 ++ dgs N (apD 3 N).length = dgs N 3 /\ List.replicate (3 - (apD 3 N).length) 65 ++ apD 3 N = (dgs N 3).map Nat.toUInt8:=by
 obtain ⟨L,e,h1,h2⟩:=c8m 3 N h
 have hl:(apD 3 N).length = L:=by rw [<- List.length_map (f:=fun c:UInt8=>c.toNat),e,b8y]
 have e2:List.replicate (3 - L) 65 ++ dgs N L = dgs N 3:=by
  have:=b8z h1 (3 - L)
  rw [show L + (3 - L) = 3 by lia] at this
  exact this.symm
 rw [hl]
 refine ⟨h2,e,e2,?_⟩
 have e3:apD 3 N = (dgs N L).map Nat.toUInt8:=by
  rw [<- e,List.map_map]
  conv=>lhs; rw [<- List.map_id (apD 3 N)]
  exact List.map_congr_left fun c u_=>by show c = c.toNat.toUInt8; simp
 rw [<- e2,List.map_append,List.map_replicate,<- e3]; rfl
theorem c1x {st:St} {ls:List Nat} (hb:∀ c ∈ ls,c < 256) (hl:ls.length <= 1000):tyV st "bytes" [.lst (nv ls)] = some (.bytes (ls.map Nat.toUInt8),st):=by
 refine (b0u (st:=st) (v:=.lst (nv ls)) (k:=fun is=>if is.all (fun i=>decide (0 <= i) && decide (i < 256)) && decide (is.length <= lim) then some (V.bytes (is.map fun i=>i.toNat.toUInt8),st) else none) rfl (a1q _)).trans ?_
 rw [if_pos,List.map_map]
 ·rfl
 ·rw [Bool.and_eq_true]
  refine ⟨List.all_eq_true.mpr fun i hi=>?_,decide_eq_true (by rw [List.length_map]; unfold lim; lia)⟩
  obtain ⟨c,hc,rfl⟩:=List.mem_map.mp hi
  have:=hb c hc
  simp; lia
theorem c1y (st:St) (a b:List UInt8):eqV st (.bytes a) (.bytes b) = some (a == b):=by
 simp only [eqV,a3h]
theorem d7h {P:Pg} {i:Nat} {w:List UInt8} {st:St} (h:st.ρ[i]? = some (some (.bytes w))) (hl:w.length <= 100):E P (.call (.imm (.builtin "len")) [(.slot i)] []) st (.int (w.length:Nat)) st:=
 B7 C5 (A9 (B0 h) B3) B6 (N3 (by
  show (if w.length <= lim then some (V.int (w.length:Nat),st) else none) = _
  rw [if_pos (by unfold lim; lia)]))
theorem c9t {α:Type} (a:α):∀ k,(List.replicate k [a]).flatten = List.replicate k a
 | 0=>rfl
 | k + 1=>by rw [List.replicate_succ,List.flatten_cons,c9t a k]; rfl
theorem c8p (l:List Str) (h0:l ≠ []) (h1:∀ s ∈ l,1 <= s.length) (h2:∀ s ∈ l,s.length <= 1000) (hl:l.length <= 32):1 <= (Txt.join ", " l).length /\ (Txt.join ", " l).length <= lim:=by
 have e:(Txt.join ", " l).length = (l.map (·.length)).sum + (l.length - 1) * (", " : Str).length:=size_glued _ l
 have h3:(", " : Str).length = 2:=by decide +kernel
 rw [h3] at e
 have key:∀ l:List Str,(∀ s ∈ l,1 <= s.length)->(∀ s ∈ l,s.length <= 1000)->l.length <= (l.map (·.length)).sum /\ (l.map (·.length)).sum <= 1000 * l.length:=by
  intro l
  induction l with
  | nil=>intro _ _; exact ⟨Nat.le_refl _,Nat.le_refl _⟩
  | cons a l ih=>
   intro h1 h2
   have ih:=ih (fun s m=>h1 s (.tail _ m)) (fun s m=>h2 s (.tail _ m))
   rw [List.map_cons,List.sum_cons,List.length_cons]
   exact ⟨Nat.add_comm 1 _ ▸ Nat.add_le_add (h1 a (.head _)) ih.1,by rw [Nat.mul_succ,Nat.add_comm]; exact Nat.add_le_add ih.2 (h2 a (.head _))⟩
 have k:=key l h1 h2
 rw [e]
 exact ⟨Nat.le_trans (Nat.le_trans (List.length_pos_iff.mpr h0) k.1) (Nat.le_add_right _ _),Nat.le_trans (Nat.add_le_add (Nat.le_trans k.2 (Nat.mul_le_mul_left 1000 hl)) (Nat.mul_le_mul_right 2 (Nat.le_trans (Nat.sub_le _ _) hl))) (show 1000 * 32 + 32 * 2 <= lim by unfold lim; decide)⟩
theorem c1z (st:St) {a:List UInt8} (h:a ≠ [65]):c2p st .Eq (.bytes a) (.bytes [65]) = some false:=by
 show some (a == [65]) = _
 rw [beq_false_of_ne h]
noncomputable def namesL:List Str:=(List.range 32).map nm
theorem c2a:c2s 0 = ("0x0" : Str):=by decide +kernel
theorem d2s:∀ k,k < 32->1 <= (nm k).length:=by decide +kernel
theorem g05:P05.gds.lookup 51 = some kv10:=rfl
theorem b0n {st:St} (hR:st.R.length < 80):Call P05 f05__law_names [] [] st (.lst (namesL.map .str)) st:=by
 have e0:namesL.map V.str = nmL.map .str ++ (List.range' 10 22).map fun k:Nat=>V.str (c2s (2 ^ k)):=by
  unfold namesL
  rw [List.map_map,show List.range 32 = List.range 10 ++ List.range' 10 22 from rfl,List.map_append]
  rfl
 refine H7 (ρ2:=[some (.lst (nmL.map .str))]) (R2:=st.R) (reg:=[]) (v:=.lst (namesL.map .str)) (by lia) rfl ?_ ?_
 ·show X P05 N6 ⟨[none],st.R ++ [[]]⟩ _ _
  refine C0 (st1:=⟨[some (.lst (nmL.map .str))],st.R ++ [[]]⟩) (B4 c6h (B2 (by simp) rfl)) (a8k (E2 ?_))
  have h:Hv 1 [some (V.lst (nmL.map .str))] [(0,.lst (nmL.map .str))]:=⟨rfl,fun p m=>by rw [List.mem_singleton.mp m]; rfl⟩
  have e1:E P05 (.comp false 1 2 [(.mk (.slot 2) (.val (.call (.imm (.type "range")) [(.const (.int 10)),(.const (.int 32))] [])) [])] (.call (.imm (.builtin "hex")) [(.bin .LShift (.const (.int 1)) (.slot 2) false)] [])) ⟨[some (V.lst (nmL.map .str))],st.R ++ [[]]⟩ (.lst ((List.range' 10 22).map fun k:Nat=>V.str (c2s (2 ^ k)))) ⟨[some (V.lst (nmL.map .str))],st.R ++ [[]]⟩:=by
   refine b6b (f:=fun k:Nat=>V.int (k:Nat)) (it:=.seq (nv (List.range' 10 22))) h (T5 (B7 C5 (A9 B9 (A9 B9 B3)) B6 (b5g (st:=⟨[some (V.lst (nmL.map .str))],st.R ++ [[]]⟩) (v:=.rng 10 32 1) rfl)) ?_) (E9 _).R (by decide) fun k hk ρ' h'=>?_
   ·have:=b3e (st:=⟨[some (V.lst (nmL.map .str))],st.R ++ [[]]⟩) (a:=10) (b:=32) (c:=1) (xs:=(List.range' 10 22).map fun c=>((c:Nat):Int)) (by decide) (by decide)
    rw [this,<- a2z]
   ·have:=List.mem_range'_1.mp hk
    have hp:(2 ^ k:Nat) <= 2 ^ 31:=Nat.pow_le_pow_right (by decide) (by lia)
    have:=B7 (C5 (P:=P05)) (A9 (d6v (by lia) (B0 (st:=⟨ρ',st.R ++ [[]]⟩) (h'.get 0 rfl))) B3) B6 (N3 (c0s (i:=((2 ^ k:Nat):Int)) (by lia)))
    rw [show ((2 ^ k:Nat):Int) = (2:Int) ^ k by simp] at this
    exact this
  rw [e0]
  exact a4d (B0 rfl) e1 (a3a rfl rfl (by rw [List.length_append,List.length_map,List.length_map]; decide))
 ·exact b7s fun v m=>by
   obtain ⟨s,_,rfl⟩:=List.mem_map.mp m
   rfl
noncomputable def fr (N:Nat):List Nat:=(List.range 32).filter N.testBit
theorem d4u:∀ (m k N:Nat),N < 2 ^ m->K7 k m (N:Int) = if N = 0 then [c2s 0] else ((List.range m).filter N.testBit).map fun i=>nm (k + i)
 | 0,k,N,h=>by
  obtain rfl:N = 0:=Nat.lt_one_iff.mp (show N < 1 from h)
  show [c2s ((0:Int) * 2 ^ k)] = [c2s 0]
  rw [Int.zero_mul]
 | m + 1,k,N,h=>by
  have ih:=d4u m (k + 1) (N / 2) (Nat.div_lt_of_lt_mul (by rw [Nat.pow_succ,Nat.mul_comm] at h; exact h))
  have hr:(List.range (m + 1)).filter N.testBit = (if N % 2 = 1 then [0] else []) ++ ((List.range m).filter (N / 2).testBit).map (· + 1):=by
   rw [List.range_succ_eq_map,List.filter_cons,List.filter_map]
   have hs:N.testBit ∘ Nat.succ = (N / 2).testBit:=funext fun i=>Nat.testBit_succ N i
   rw [hs,Nat.testBit_zero]
   by_cases q:N % 2 = 1
   ·rw [if_pos q,if_pos (decide_eq_true q)]; rfl
   ·rw [if_neg q,if_neg (fun w=>q (of_decide_eq_true w))]; rfl
  have hm:(fun i=>nm (k + i)) ∘ (· + 1) = fun i=>nm (k + 1 + i):=funext fun i=>by
   show nm (k + (i + 1)) = _
   rw [Nat.add_assoc,Nat.add_comm 1]
  show (if (N:Int) % 2 = 1 then nm k :: (if ((N / 2:Nat):Int) = 0 then [] else K7 (k + 1) m ((N / 2:Nat):Int)) else K7 (k + 1) m ((N / 2:Nat):Int)) = _
  rw [ih,hr,List.map_append,List.map_map,hm]
  by_cases q:N % 2 = 1
  ·have n0:N ≠ 0:=fun w=>by rw [w] at q; cases q
   rw [if_pos (show (N:Int) % 2 = 1 from congrArg Int.ofNat q),if_pos q,if_neg n0]
   by_cases z:N / 2 = 0
   ·rw [if_pos (show ((N / 2:Nat):Int) = 0 from congrArg Int.ofNat z),z,List.filter_eq_nil_iff.mpr fun i u_=>by rw [Nat.zero_testBit]; exact Bool.false_ne_true]; rfl
   ·rw [if_neg (fun w:((N / 2:Nat):Int) = 0=>z (Int.ofNat_inj.mp w)),if_neg z]; rfl
  ·rw [if_neg (fun w:(N:Int) % 2 = 1=>q (Int.ofNat_inj.mp w)),if_neg q]
   by_cases n0:N = 0
   ·rw [if_pos n0,if_pos (show N / 2 = 0 by rw [n0])]
   ·rw [if_neg n0,if_neg (fun w:N / 2 = 0=>by lia)]; rfl
theorem d2t {N:Nat} (hN:N < 2 ^ 32) (h:fr N = []):N = 0:=Classical.byContradiction fun w=>by
 obtain ⟨i,hi⟩:=a3z w
 have hl:i < 32:=Nat.lt_of_not_le fun q=>by
  rw [Nat.testBit_lt_two_pow (Nat.lt_of_lt_of_le hN (Nat.pow_le_pow_right Nat.two_pos q))] at hi; cases hi
 exact List.filter_eq_nil_iff.mp h i (List.mem_range.mpr hl) hi
theorem c2b {N:Nat} (hN:N < 2 ^ 32):K7 0 32 (N:Int) = if fr N = [] then [("0x0" : Str)] else (fr N).map nm:=by
 rw [d4u 32 0 N hN]
 have hm:(fun i=>nm (0 + i)) = nm:=funext fun i=>by rw [Nat.zero_add]
 by_cases h:fr N = []
 ·rw [if_pos h,if_pos (d2t hN h),c2a]
 ·rw [if_neg h,if_neg (fun w=>h (by rw [w]; exact List.filter_eq_nil_iff.mpr fun i u_=>by rw [Nat.zero_testBit]; exact Bool.false_ne_true)),hm]; rfl
theorem d4v {u f:Nat} (hu:u < 4096) (hf:f <= 20):fr (u * 2 ^ f) = (thg u).map (· + f):=by
 have p1:(fr (u * 2 ^ f)).Pairwise (· < ·):=List.pairwise_lt_range.filter _
 have p2:((thg u).map (· + f)).Pairwise (· < ·):=List.pairwise_map.mpr ((List.pairwise_lt_range.filter _).imp fun h=>Nat.add_lt_add_right h f)
 refine Y0 (R:=(· < ·)) (fun a b h k=>Nat.lt_asymm h k) _ _ ((List.perm_ext_iff_of_nodup (p1.imp fun h=>Nat.ne_of_lt h) (p2.imp fun h=>Nat.ne_of_lt h)).mpr fun i=>?_) p1 p2
 unfold fr
 rw [List.mem_filter,List.mem_range,List.mem_map,Nat.mul_comm u,Nat.testBit_two_pow_mul]
 constructor
 ·rintro ⟨h1,h2⟩
  obtain ⟨h2,h3⟩:=Bool.and_eq_true_iff.mp h2
  have h2:=of_decide_eq_true h2
  exact ⟨i - f,thg_mem.mpr ⟨d4t hu h3,h3⟩,by lia⟩
 ·rintro ⟨t,ht,rfl⟩
  obtain ⟨t1,t2⟩:=thg_mem.mp ht
  refine ⟨by lia,?_⟩
  rw [Nat.add_sub_cancel,t2,decide_eq_true (Nat.le_add_left f t)]; rfl
section
variable {ρ:List (Option V)} {R:List (List AObj)} {u j f:Nat} {D:List Nat} {K:List (Nat × V)}
theorem b0 (h:Hv 23 ρ ((10,.int (j:Nat)) :: (9,.int (u:Nat)) :: K)) (hu:u < 4096) (hR:R.length < 80):X1 P05 d4h ⟨ρ,R⟩ .next ⟨(ρ.set 18 (some (.lst (nv (thg u))))).set 19 (some (.bytes (apD 3 u))),R⟩:=by
 have e1:E P05 (.comp false 23 2 [(.mk (.slot 24) (.val (.call (.imm (.type "range")) [(.const (.int 12))] [])) [(.bin .BitAnd (.bin .RShift (.slot 9) (.slot 24) false) (.const (.int 1)) false)])] (.slot 24)) ⟨ρ,R⟩ (.lst (nv (thg u))) ⟨ρ,R⟩:=
  b3a (f:=fun k:Nat=>V.int (k:Nat)) (g:=fun k:Nat=>V.int (k:Nat)) (q:=u.testBit) (xs:=List.range 12) h (c7y (n:=12) (by decide) B9) (E9 _).R (by rw [List.length_range]; decide) fun k u_ ρ' h'=>⟨d6u (B0 (h'.get 2 rfl)) (B0 (h'.get 0 rfl)),fun u_=>B0 (h'.get 0 rfl)⟩
 have e2:E P05 (.call (.imm (.ref 72)) [(.ite (.bin .Mod (.slot 10) (.const (.int 2)) false) (.un .USub (.slot 9)) (.slot 9))] []) ⟨ρ,R⟩ (.bytes (apD 3 u)) ⟨ρ,R⟩:=by
  have t1:=a4e (P:=P05) (d:=8) (Y1 (y:=2) (by decide) (B0 (st:=⟨ρ,R⟩) (h.get 0 rfl)) B9) (c1e _) rfl
  have key:∀ v:Int,v.natAbs = u->E P05 (.ite (.bin .Mod (.slot 10) (.const (.int 2)) false) (.un .USub (.slot 9)) (.slot 9)) ⟨ρ,R⟩ (.int v) ⟨ρ,R⟩->E P05 (.call (.imm (.ref 72)) [(.ite (.bin .Mod (.slot 10) (.const (.int 2)) false) (.un .USub (.slot 9)) (.slot 9))] []) ⟨ρ,R⟩ (.bytes (apD 3 u)) ⟨ρ,R⟩:=fun v hv hE=>by
   have c:=c6c (P:=P05) (ad:=72) (st:=⟨ρ,R⟩) (i:=v) (f:=3) (by show R.length < 100; lia) (by rw [hv]; exact hu) (by decide)
   rw [hv] at c
   exact B7 C5 (A9 hE B3) B6 (Q6 d2l c)
  cases hq:(j % 2 != 0) with
  | true=>
   rw [hq] at t1
   exact key (-(u:Int)) (by lia) (d0f t1 (M6 (B0 (h.get 1 rfl))))
  | false=>
   rw [hq] at t1
   exact key (u:Int) (Int.natAbs_natCast u) (d0g t1 (B0 (h.get 1 rfl)))
 exact B4 (G9 (A9 e1 (A9 e2 B3))) (N2 (J2 h (by decide)) (J2 (h.nil.set (i:=18) _ rfl) (by decide)))
theorem b1 (h:Hv 23 ρ ((18,.lst (nv (thg u))) :: (19,.bytes (apD 3 u)) :: (9,.int (u:Nat)) :: (11,.lst (namesL.map .str)) :: (4,.lst (nv (wr5 D f))) :: (2,.lst (nv (D ++ [f]))) :: K)) (hu:u < 4096) (hf:f < 21) (hD:D.length = 5) (hR:R.length < 80):X1 P05 d4i ⟨ρ,R⟩ .next ⟨ρ,R⟩:=by
 have hap:=b7v 3 u
 have hN:u * 2 ^ f < 2 ^ 32:=by
  have h1:2 ^ f <= 2 ^ 20:=Nat.pow_le_pow_right (by decide) (by lia)
  exact Nat.lt_of_le_of_lt (Nat.mul_le_mul (Nat.le_of_lt_succ hu) h1) (show 4095 * 2 ^ 20 < 2 ^ 32 by decide)
 have t1:T P05 7 (.cmp (.slc (.slot 19) none (some (.const (.int 1))) none false) [.Eq] [(.const (.bytes [65]))]) ⟨ρ,R⟩ false ⟨ρ,R⟩:=by
  refine D2 (J3 (B0 (h.get 1 rfl)) C9 (D3 B9) C9 (v:=.bytes ((apD 3 u).take 1)) ?_) D8 (c1z _ (b9a 3 u hu))
  simp only [c9x,c9d,d3a,Option.isNone_none,if_true,c8x]
  rw [if_pos (by unfold lim; lia)]
  have e:cut (apD 3 u) none (some 1) = (apD 3 u).take 1:=by
   unfold cut clipAt
   cases apD 3 u with
   | nil=>simp
   | cons a as=>
    have:(max 0 (min 1 ((as.length:Int) + 1))).toNat = 1:=by rw [Int.min_eq_left (Int.le_add_of_nonneg_left (Int.natCast_nonneg _))]; rfl
    simp [this]
  rw [e]
 have e3:E P05 (.sub (.slot 4) (.const (.int 3))) ⟨ρ,R⟩ (.int (f:Nat)) ⟨ρ,R⟩:=d7c 3 4 (h.get 4 rfl) (by show 4 <= 1000; decide) (by show 3 < 4; decide) rfl
 have ePF:=B7 (C5 (P:=P05)) (A9 (C4 (mu:=false) (B0 (st:=⟨ρ,R⟩) (h.get 2 rfl)) e3 (b8t (by lia) (by lia))) B3) B6 (Q6 d2m (c6g (ad:=58) g05 (st:=⟨ρ,R⟩) (x:=((u * 2 ^ f:Nat):Int)) (by show R.length < 100; lia) (by lia)))
 have hr32:∀ c ∈ fr (u * 2 ^ f),c < 32:=fun c m=>List.mem_range.mp (List.mem_filter.mp m).1
 have hrl:(fr (u * 2 ^ f)).length <= 32:=Nat.le_trans (List.length_filter_le _ _) (by simp)
 have eC:E P05 (.comp false 23 2 [(.mk (.slot 24) (.val (.slot 18)) [])] (.sub (.slot 11) (.bin .Add (.slot 24) (.sub (.slot 2) (.const (.int 5))) false))) ⟨ρ,R⟩ (.lst (((fr (u * 2 ^ f)).map nm).map .str)) ⟨ρ,R⟩:=by
  have hlt:∀ t ∈ thg u,t + f < 32:=fun t m=>hr32 _ (by rw [d4v hu (by lia)]; exact List.mem_map.mpr ⟨t,m,rfl⟩)
  rw [d4v hu (by lia),List.map_map,List.map_map]
  refine b6b (f:=fun k:Nat=>V.int (k:Nat)) (xs:=thg u) (it:=.seq (nv (thg u))) h (T5 (B0 (h.get 0 rfl)) rfl) (E9 _).R (by rw [W4]; have:=M3 12 u; unfold lim; lia) fun t mt ρ' h'=>?_
  have e5:E P05 (.sub (.slot 2) (.const (.int 5))) ⟨ρ',R⟩ (.int (f:Nat)) ⟨ρ',R⟩:=H6 (B0 (h'.get 6 rfl)) B9 (N4 (vs:=nv (D ++ [f])) (k:=5) rfl (by rw [E3,List.length_append,hD]; show 6 <= lim; unfold lim; decide) (c6w _ (by rw [List.getElem?_append_right (by lia),hD]; rfl)))
  exact H6 (B0 (h'.get 4 rfl)) (M5 (B0 (h'.get 0 rfl)) e5) (N4 (vs:=namesL.map .str) rfl (by decide) (by
   unfold namesL
   rw [List.getElem?_map,List.getElem?_map,List.getElem?_range (hlt t mt)]; rfl))
 have eJ:=E8 (G2 (P:=P05) (st:=⟨ρ,R⟩) (x := ", ")) rfl (A9 eC B3) (n := "join") (c0t (by rw [List.length_map]; lia) fun s m=>by
  obtain ⟨c,hc,rfl⟩:=List.mem_map.mp m
  exact Nat.le_trans (c0r c (hr32 c hc)) (by decide))
 have eO:E P05 (.lor [(.meth (.const (.str (", " : Str))) ("join" : Str) [(.comp false 23 2 [(.mk (.slot 24) (.val (.slot 18)) [])] (.sub (.slot 11) (.bin .Add (.slot 24) (.sub (.slot 2) (.const (.int 5))) false)))]),(.const (.str ("0x0" : Str)))]) ⟨ρ,R⟩ (.str (Txt.join ", " (K7 0 32 ((u * 2 ^ f:Nat):Int)))) ⟨ρ,R⟩:=by
  rw [c2b hN]
  by_cases hr:fr (u * 2 ^ f) = []
  ·rw [if_pos hr]
   rw [hr] at eJ
   exact c4f eJ rfl (c4g G2)
  ·rw [if_neg hr]
   obtain ⟨z1,z2⟩:=c8p ((fr (u * 2 ^ f)).map nm) (fun w=>hr (List.map_eq_nil_iff.mp w)) (fun s m=>by
    obtain ⟨c,hc,rfl⟩:=List.mem_map.mp m
    exact d2s c (hr32 c hc)) (fun s m=>by
    obtain ⟨c,hc,rfl⟩:=List.mem_map.mp m
    exact Nat.le_trans (c0r c (hr32 c hc)) (by decide)) (by rw [List.length_map]; exact hrl)
   refine c4e eJ ?_
   show (if (Txt.join ", " ((fr (u * 2 ^ f)).map nm)).length <= lim then some (((Txt.join ", " ((fr (u * 2 ^ f)).map nm)).length:Int) != 0) else none) = _
   rw [if_pos z2]
   generalize (Txt.join ", " ((fr (u * 2 ^ f)).map nm)).length = z at z1
   rw [bne_iff_ne.mpr (by lia:(z:Int) ≠ 0)]
 exact L7 (d0h (D2 ePF eO (a7v (c6z _ _))) (d0i t1)) J0
theorem b2 (h:Hv 23 ρ ((19,.bytes (apD 3 u)) :: (9,.int (u:Nat)) :: K)) (hu:u < 4096):X1 P05 d4j ⟨ρ,R⟩ .next ⟨ρ,R⟩:=by
 obtain ⟨w1,w2,w3,w4⟩:=c8o (N:=u) hu
 have el:=d7h (P:=P05) (st:=⟨ρ,R⟩) (h.get 0 rfl) (by lia)
 have e1:E P05 (.bin .Mult (.const (.bytes [65])) (.bin .Sub (.const (.int 3)) (.call (.imm (.builtin "len")) [(.slot 19)] []) false) false) ⟨ρ,R⟩ (.bytes (List.replicate (3 - (apD 3 u).length) 65)) ⟨ρ,R⟩:=by
  refine a4d D8 (b3p (x:=3) (by lia) B9 el) ?_
  show (if decide (([65]:List UInt8) ≠ []) && decide (([65]:List UInt8).length <= 16) && decide ((-1000:Int) <= (3 - (apD 3 u).length:Nat)) && decide (((3 - (apD 3 u).length:Nat):Int) <= 1000) then some (V.bytes (List.replicate ((3 - (apD 3 u).length:Nat):Int).toNat [65]).flatten,(⟨ρ,R⟩ : St)) else none) = _
  rw [if_pos (by simp; lia),Int.toNat_natCast,c9t]
 have e2:=a4d (mu:=false) e1 (B0 (st:=⟨ρ,R⟩) (h.get 0 rfl)) (op:=.Add) (z:=.bytes ((dgs u 3).map Nat.toUInt8)) (st3:=⟨ρ,R⟩) (by
  show (if (List.replicate (3 - (apD 3 u).length) (65:UInt8)).length + (apD 3 u).length <= lim then some (V.bytes (List.replicate (3 - (apD 3 u).length) 65 ++ apD 3 u),(⟨ρ,R⟩ : St)) else none) = _
  rw [if_pos (by rw [List.length_replicate]; unfold lim; lia),w4])
 have hs:=B0 (P:=P05) (st:=⟨ρ,R⟩) (h.get 1 rfl)
 have hd:dgs u 3 = [65 + u / 256,65 + u / 16 % 16,65 + u % 16]:=by
  show [65 + u / 16 ^ 2 % 16,65 + u / 16 ^ 1 % 16,65 + u / 16 ^ 0 % 16] = _
  rw [Nat.pow_zero,Nat.div_one,Nat.pow_one,show 16 ^ 2 = 256 from rfl,Nat.mod_eq_of_lt (show u / 256 < 16 by lia)]
 have e4:=B7 (C5 (P:=P05) (v:=.type "bytes")) (A9 (F3 (v:=.lst (nv [65 + u / 256,65 + u / 16 % 16,65 + u % 16])) (mu:=false) (A9 (M5 (x:=65) B9 (a0f (y:=256) (by decide) (by decide) hs B9)) (A9 (M5 (x:=65) B9 (Y1 (y:=16) (by decide) (a0f (y:=16) (by decide) (by decide) hs B9) B9)) (A9 (M5 (x:=65) B9 (Y1 (y:=16) (by decide) hs B9)) B3))) rfl) B3) B6 (b5g (c1x (ls:=[65 + u / 256,65 + u / 16 % 16,65 + u % 16]) (fun c m=>by rw [<- hd] at m; have:=c8n u 3 c m; lia) (by show 3 <= 1000; decide)))
 rw [<- hd] at e4
 exact L7 (D2 e2 e4 (a7v ((c1y _ _ _).trans (by rw [beq_self_eq_true])))) J0
end
end
section
theorem Hv.pick {n:Nat} {ρ:List (Option V)} {l:List (Nat × V)} (h:Hv n ρ l) (ix:List Nat):Hv n ρ (ix.filterMap (l[·]?)):=h.sub fun p m=>by
 obtain ⟨i,_,e⟩:=List.mem_filterMap.mp m
 exact List.mem_of_getElem? e
noncomputable def G5 (ev:List Nat):List (Int × Int):=(ded ev).map fun t=>(((t:Nat):Int),((ev.count t:Nat):Int))
theorem a5d (c:Nat->Nat) (t:Nat):∀ ks:List Nat,ks.Nodup->a5o (ks.map fun t=>(((t:Nat):Int),((c t:Nat):Int))) (t:Nat) = if t ∈ ks then some ((c t:Nat):Int) else none
 | [],_=>rfl
 | k :: ks,h=>by
  obtain ⟨h1,h2⟩:=List.nodup_cons.mp h
  have ih:=a5d c t ks h2
  unfold a5o at ih ⊢
  rw [List.map_cons,List.find?_cons]
  by_cases q:k = t
  ·subst q
   simp
  ·rw [decide_eq_false (by simpa using (fun w:((k:Nat):Int) = (t:Nat)=>q (Int.ofNat_inj.mp w)))]
   dsimp only
   rw [ih]
   have:t ∈ k :: ks ↔ t ∈ ks:=⟨fun m=>(List.mem_cons.mp m).resolve_left (Ne.symm q),.tail _⟩
   simp only [this]
theorem c2c (ev:List Nat) (t:Nat):Y5 (G5 ev) (t:Nat) ((a5o (G5 ev) (t:Nat)).getD 0 + 1) = G5 (ev ++ [t]):=by
 have hl:=a5d (fun t=>ev.count t) t (ded ev) (T2 ev).1
 have hm:=(T2 ev).2
 unfold G5 at hl ⊢
 rw [hl,b3t]
 have hc:∀ k,(ev ++ [t]).count k = ev.count k + if k = t then 1 else 0:=fun k=>by
  rw [List.count_append,List.count_singleton]
  by_cases q:k = t
  ·subst q; simp
  ·simp [q,Ne.symm q]
 unfold Y5
 by_cases q:t ∈ ded ev
 ·rw [if_pos q,if_pos q,if_pos]
  ·rw [List.map_map]
   refine List.map_congr_left fun k u_=>?_
   show (if ((k:Nat):Int) = (t:Nat) then _ else _) = _
   rw [hc]
   by_cases w:k = t
   ·subst w; simp
   ·rw [if_neg (fun z=>w (Int.ofNat_inj.mp z)),if_neg w]; rfl
  ·rw [List.any_map]
   exact List.any_eq_true.mpr ⟨t,q,decide_eq_true rfl⟩
 ·rw [if_neg q,if_neg q,if_neg]
  ·rw [List.map_append]
   have ht:ev.count t = 0:=List.count_eq_zero.mpr fun m=>q ((hm t).mpr m)
   congr 1
   ·refine List.map_congr_left fun k mk=>?_
    have:k ≠ t:=fun e=>q (e ▸ mk)
    rw [hc,if_neg this]; rfl
   ·rw [List.map_singleton,hc,if_pos rfl,ht]; rfl
  ·rw [List.any_map]
   intro w
   obtain ⟨k,mk,e⟩:=List.any_eq_true.mp w
   exact q (Int.ofNat_inj.mp (of_decide_eq_true e) ▸ mk)
theorem b3v (ev:List Nat):(G5 ev).length = (ded ev).length:=List.length_map _
theorem b6i {L:List Nat}:(ded (evs L)).length <= 12:=by
 have:=List.Nodup.length_le_of_subset (l₂:=List.range 12) (T2 (evs L)).1 fun t m=>by
  obtain ⟨u,_,h,_⟩:=evs_mem.mp (((T2 (evs L)).2 t).mp m)
  exact List.mem_range.mpr h
 rwa [List.length_range] at this
theorem d2u (ev:List Nat):(ded ev).length <= ev.length:=List.Nodup.length_le_of_subset (T2 ev).1 fun t m=>((T2 ev).2 t).mp m
noncomputable abbrev R3 (cs:List Int) (L sz:List Nat) (kv:List (Int × Int)) (sh ln:List (Nat × Nat)) (ho:List Nat):List (List AObj):=[tb5,[.list (cs.map .int),.list (nv L),.list (nv sz),.dct kv,.list (sh.map toT),.list (ln.map toT),.list (nv ho)]]
noncomputable abbrev K0 (D:List Nat) (f:Nat):List (Nat × V):=[(6,.ref 1 1),(5,.lst (nv D)),(4,.lst (nv (wr5 D f))),(2,.lst (nv (D ++ [f])))]
noncomputable abbrev K3 (D:List Nat) (f:Nat):List (Nat × V):=[(11,.lst (namesL.map .str)),(12,.ref 1 2),(13,.ref 1 3),(14,.ref 1 4),(15,.ref 1 5),(16,.ref 1 6),(6,.ref 1 1),(5,.lst (nv D)),(4,.lst (nv (wr5 D f))),(2,.lst (nv (D ++ [f])))]
section
variable {cs:List Int} {ρ:List (Option V)} {D L sz ho:List Nat} {f u j:Nat} {kv:List (Int × Int)} {sh ln:List (Nat × Nat)}
theorem s9 (h:Hv 23 ρ (K0 D f)):∃ ρ',Hv 23 ρ' (K3 D f) /\ X1 P05 t9 ⟨ρ,R2 cs L⟩ .next ⟨ρ',R3 cs L [] [] [] [] []⟩:=by
 have h1:=h.put (i:=11) (.lst (namesL.map .str)) rfl (by decide)
 have h2:=h1.put (i:=12) (.ref 1 2) rfl (by decide)
 have h3:=h2.put (i:=13) (.ref 1 3) rfl (by decide)
 have h4:=h3.put (i:=14) (.ref 1 4) rfl (by decide)
 have h5:=h4.put (i:=15) (.ref 1 5) rfl (by decide)
 have h6:=h5.put (i:=16) (.ref 1 6) rfl (by decide)
 refine ⟨_,h6.pick [5,4,3,2,1,0,6,7,8,9],?_⟩
 let Q:=fun os:List AObj=>(⟨ρ,[tb5,[.list (cs.map .int),.list (nv L)] ++ os]⟩ : St)
 have c0:E P05 (.call (.imm (.ref 89)) [] []) (Q []) (.lst (namesL.map .str)) (Q []):=B7 C5 B3 B6 (Q6 d2n (b0n (by show 2 < 80; decide)))
 have c1:E P05 (.lst [] true) (Q []) (.ref 1 2) (Q [.list []]):=F3 B3 rfl
 have c2:E P05 .dict0 (Q [.list []]) (.ref 1 3) (Q [.list [],.dct []]):=c5t rfl
 have c3:E P05 (.lst [] true) (Q [.list [],.dct []]) (.ref 1 4) (Q [.list [],.dct [],.list []]):=F3 B3 rfl
 have c4:E P05 (.lst [] true) (Q [.list [],.dct [],.list []]) (.ref 1 5) (Q [.list [],.dct [],.list [],.list []]):=F3 B3 rfl
 have c5:E P05 (.lst [] true) (Q [.list [],.dct [],.list [],.list []]) (.ref 1 6) (Q [.list [],.dct [],.list [],.list [],.list []]):=F3 B3 rfl
 exact B4 (G9 (A9 c0 (A9 c1 (A9 c2 (A9 c3 (A9 c4 (A9 c5 B3))))))) (c4m (K6 (J2 h (by decide)) (K6 (J2 h1 (by decide)) (K6 (J2 h2 (by decide)) (K6 (J2 h3 (by decide)) (K6 (J2 h4 (by decide)) (K6 (J2 h5 (by decide)) b7g)))))))
theorem b3 (h:Hv 23 ρ [(12,.ref 1 2),(18,.lst (nv (thg u)))]) (hz:sz.length <= 100):X1 P05 d4k ⟨ρ,R3 cs L sz kv sh ln ho⟩ .next ⟨ρ,R3 cs L (sz ++ [pc 12 u]) kv sh ln ho⟩:=by
 have el:=b0k (P:=P05) (st:=⟨ρ,R3 cs L sz kv sh ln ho⟩) (h.get 1 rfl) rfl (by rw [W4]; have:=M3 12 u; lia)
 rw [W4] at el
 obtain ⟨a1,a2⟩:=d1q (G:=P05) (ρ:=ρ) (R:=R3 cs L sz kv sh ln ho) (l:=1) (i:=2) (vs:=nv sz) (w:=.int (pc 12 u:Nat)) rfl (by rw [E3]; unfold lim; lia) rfl
 refine D0 (v:=.imm .none) (E8 (B0 (h.get 0 rfl)) a2 (A9 el B3) (a1.trans ?_))
 unfold R3
 rw [a3y]; rfl
theorem b4 (h:Hv 23 ρ [(14,.ref 1 4),(18,.lst (nv (thg u))),(10,.int (j:Nat))]) (hp:sh.Pairwise (a1t true)) (hj:∀ p ∈ sh,p.2 < j) (hl:sh.length <= 100):X1 P05 d4l ⟨ρ,R3 cs L sz kv sh ln ho⟩ .next ⟨ρ,R3 cs L sz kv (c2u true sh (pc 12 u) j) ln ho⟩:=by
 have el:=b0k (P:=P05) (st:=⟨ρ,R3 cs L sz kv sh ln ho⟩) (h.get 1 rfl) rfl (by rw [W4]; have:=M3 12 u; lia)
 rw [W4] at el
 have c:=d4s (st:=⟨ρ,R3 cs L sz kv sh ln ho⟩) (l:=1) (i:=4) (x:=pc 12 u) (j:=j) (left:=true) rfl hl (by show 2 < 90; decide) hp hj
 exact D0 (B7 C5 (A9 (B0 (h.get 0 rfl)) (A9 (G9 (A9 el (A9 (B0 (h.get 2 rfl)) B3))) B3)) (D7 C5 B6) (Q6 c8e c))
theorem b5 {t:Nat} (h:Hv 23 ρ [(17,.int (t:Nat)),(13,.ref 1 3)]) (hk:kv.length <= 1000):X1 P05 b8e ⟨ρ,R3 cs L sz kv sh ln ho⟩ .next ⟨ρ,R3 cs L sz (Y5 kv (t:Nat) ((a5o kv (t:Nat)).getD 0 + 1)) sh ln ho⟩:=by
 have g:=d1b (P:=P05) (st:=⟨ρ,R3 cs L sz kv sh ln ho⟩) (l:=1) (k:=3) (kvs:=kv) (key:=(t:Nat)) (x:=0) (B0 (h.get 1 rfl)) (A9 (B0 (h.get 0 rfl)) (A9 B9 B3)) (fun u_ u_=>trivial) rfl rfl
 exact B4 (C4 g B9 rfl) (c5v (B0 (st:=⟨ρ,R3 cs L sz kv sh ln ho⟩) (h.get 1 rfl)) (B0 (h.get 0 rfl)) rfl (by unfold lim; lia))
end
end
section
noncomputable def a4f (ls:List Nat) (j:Nat):List (Nat × Nat):=(List.range j).map fun i=>(ls.getD i 0,i)
theorem b6j (ls:List Nat) (j:Nat):a4f ls (j + 1) = a4f ls j ++ [(ls.getD j 0,j)]:=by
 unfold a4f; rw [List.range_succ,List.map_append]; rfl
theorem b9b {ls:List Nat} {j:Nat}:∀ p ∈ a4f ls j,p.2 < j:=fun p m=>by
 obtain ⟨i,hi,rfl⟩:=List.mem_map.mp m
 exact List.mem_range.mp hi
theorem a5e (ls:List Nat) (j:Nat):(a4f ls j).length = j:=by unfold a4f; simp
theorem b6k (ls:List Nat) (j:Nat):d7y (a4f ls j):=fun i p h=>by
 unfold a4f at h
 rw [List.getElem?_map] at h
 by_cases hi:i < j
 ·rw [List.getElem?_range hi] at h
  cases h; rfl
 ·rw [List.getElem?_eq_none (by simp; lia)] at h; cases h
structure RowN (left:Bool) (ls:List Nat) (j:Nat) (row:List (Nat × Nat)):Prop where
 pw:row.Pairwise (a1t left)
 pm:row.Perm (a4f ls j)
theorem RowN.nil (left:Bool) (ls:List Nat):RowN left ls 0 []:=⟨.nil,.refl _⟩
theorem RowN.next {left:Bool} {ls:List Nat} {j:Nat} {row:List (Nat × Nat)} (h:RowN left ls j row):RowN left ls (j + 1) (c2u left row (ls.getD j 0) j):=
 ⟨(b8r h.pw fun p m=>b9b p (h.pm.mem_iff.mp m)).2,by rw [b6j]; exact insP_perm.trans (h.pm.append_right _)⟩
theorem RowN.len {left:Bool} {ls:List Nat} {j:Nat} {row:List (Nat × Nat)} (h:RowN left ls j row):row.length = j:=by rw [h.pm.length_eq,a5e]
theorem RowN.bd {left:Bool} {ls:List Nat} {j:Nat} {row:List (Nat × Nat)} (h:RowN left ls j row):∀ p ∈ row,p.2 < j:=fun p m=>b9b p (h.pm.mem_iff.mp m)
theorem RowN.fst {left:Bool} {ls row:_} (h:RowN left ls ls.length row):(row.map (·.1)).Perm ls:=by
 refine (h.pm.map _).trans (.of_eq ?_)
 unfold a4f
 rw [List.map_map]
 refine List.ext_getElem (by simp) fun i h1 h2=>?_
 simp [h2]
theorem c2d (L:List Nat) (u:Nat):evs (L ++ [u]) = evs L ++ thg u:=by unfold evs; rw [List.flatMap_append,List.flatMap_singleton]
theorem d2v (L:List Nat):(evs L).length <= 12 * L.length:=by
 rw [b8u]
 induction L with
 | nil=>exact Nat.le_refl _
 | cons u L ih=>
  have:=M3 12 u
  simp only [List.map_cons,List.sum_cons,List.length_cons]
  lia
section
variable {cs:List Int} {ρ:List (Option V)} {D L sz ev:List Nat} {f u j:Nat} {sh:List (Nat × Nat)}
theorem b0o (h:Hv 23 ρ ((18,.lst (nv (thg u))) :: K3 D f)) (he:ev.length <= 900):∃ ρ',Hv 23 ρ' (K3 D f) /\ X1 P05 d4m ⟨ρ,R3 cs L sz (G5 ev) sh [] []⟩ .next ⟨ρ',R3 cs L sz (G5 (ev ++ thg u)) sh [] []⟩:=by
 have hl:(thg u).length <= 12:=by rw [W4]; exact M3 12 u
 obtain ⟨b,ρ',e,k,x⟩:=b6h (P:=P05) (i:=17) (n:=23) (xs:=thg u) (l:=fun _:Nat=>K3 D f) (Inv:=fun j b=>b = j) (Rs:=fun b=>R3 cs L sz (G5 (ev ++ (thg u).take b)) sh [] []) (body:=c1d) (fun u_=>rfl) (by decide) (fun j b ρ hj e hρ=>by
  subst e
  refine ⟨b + 1,ρ,rfl,hρ.tl,?_⟩
  have q:=b5 (cs:=cs) (L:=L) (sz:=sz) (kv:=G5 (ev ++ (thg u).take b)) (sh:=sh) (ln:=[]) (ho:=[]) (hρ.pick [0,3]) (by
   rw [b3v]
   have:=d2u (ev ++ (thg u).take b)
   rw [List.length_append,List.length_take] at this
   lia)
  have et:(thg u).take (b + 1) = (thg u).take b ++ [(thg u).getD b 0]:=by rw [List.take_succ_eq_append_getElem hj,List.getD_eq_getElem?_getD,List.getElem?_eq_getElem hj]; rfl
  rw [c2c,List.append_assoc,<- et] at q
  exact G3 q) (b:=0) rfl h.tl
 subst e
 rw [List.take_length] at x
 have x:X P05 [.forGo (.slot 17) (.seq (nv (thg u))) c1d []] ⟨ρ,R3 cs L sz (G5 (ev ++ [])) sh [] []⟩ .next ⟨ρ',_⟩:=x
 rw [List.append_nil] at x
 exact ⟨ρ',k,Y8 (T5 (B0 (h.get 0 rfl)) rfl) x⟩
theorem d2w (h:Hv 23 ρ ((10,.int (j:Nat)) :: (9,.int (u:Nat)) :: K3 D f)) (hu:u < 4096) (hf:f < 21) (hD:D.length = 5) (hz:sz.length <= 60) (he:ev.length <= 900) (hp:sh.Pairwise (a1t true)) (hj:∀ p ∈ sh,p.2 < j) (hl:sh.length <= 100) :
  ∃ ρ',Hv 23 ρ' (K3 D f) /\ X P05 d7v ⟨ρ,R3 cs L sz (G5 ev) sh [] []⟩ .next ⟨ρ',R3 cs L (sz ++ [pc 12 u]) (G5 (ev ++ thg u)) (c2u true sh (pc 12 u) j) [] []⟩:=by
 have x0:=b0 (R:=R3 cs L sz (G5 ev) sh [] []) h hu (by show 2 < 80; decide)
 have h1:=(h.put (i:=18) (.lst (nv (thg u))) rfl (by decide)).put (i:=19) (.bytes (apD 3 u)) rfl (by decide)
 generalize ((ρ.set 18 (some (.lst (nv (thg u))))).set 19 (some (.bytes (apD 3 u)))) = ρ1 at h1 x0
 have x1:=b1 (R:=R3 cs L sz (G5 ev) sh [] []) (K:=[]) (h1.pick [1,0,3,4,12,13]) hu hf hD (by show 2 < 80; decide)
 have x2:=b2 (R:=R3 cs L sz (G5 ev) sh [] []) (K:=[]) (h1.pick [0,3]) hu
 have x3:=b3 (cs:=cs) (L:=L) (kv:=G5 ev) (sh:=sh) (ln:=[]) (ho:=[]) (u:=u) (h1.pick [5,1]) (sz:=sz) (by lia)
 have x4:=b4 (cs:=cs) (L:=L) (kv:=G5 ev) (sz:=sz ++ [pc 12 u]) (ln:=[]) (ho:=[]) (u:=u) (h1.pick [7,1,2]) hp hj hl
 obtain ⟨ρ',k,x5⟩:=b0o (cs:=cs) (L:=L) (sz:=sz ++ [pc 12 u]) (sh:=c2u true sh (pc 12 u) j) (h1.pick [1,4,5,6,7,8,9,10,11,12,13]) he
 exact ⟨ρ',k,C0 x0 (C0 x1 (C0 x2 (C0 x3 (C0 x4 (G3 x5)))))⟩
theorem s10 (h:Hv 23 ρ (K3 D f)) (hL:∀ u ∈ L,u < 4096) (hl:L.length <= 32) (hf:f < 21) (hD:D.length = 5) :
  ∃ ρ' sh,Hv 23 ρ' (K3 D f) /\ RowN true (L.map (pc 12)) L.length sh /\ X1 P05 t10 ⟨ρ,R3 cs L [] [] [] [] []⟩ .next ⟨ρ',R3 cs L (L.map (pc 12)) (G5 (evs L)) sh [] []⟩:=by
 let RS:=fun b:Nat × List (Nat × Nat)=>R3 cs L ((L.take b.1).map (pc 12)) (G5 (evs (L.take b.1))) b.2 [] []
 have hn:∀ j (b:Nat × List (Nat × Nat)) ρ,(It.ref 1 1 j).next ⟨ρ,RS b⟩ = match (nv L)[j]? with | some v=>some (some (v,.ref 1 1 (j + 1))) | none=>some none:=fun j b ρ=>b2j rfl
 obtain ⟨⟨k,sh⟩,ρ',⟨e,i1⟩,kk,x⟩:=a8g (P:=P05) (N:=L.length) (p:=.tup [.slot 10,.slot 9]) (it:=fun j=>.en j (.ref 1 1 j)) (f:=fun j=>.tup [.int (j:Nat),.int (L.getD j 0:Nat)]) (Inv:=fun j (b:Nat × List (Nat × Nat))=>b.1 = j /\ RowN true (L.map (pc 12)) j b.2) (K:=fun u_ ρ=>Hv 23 ρ (K3 D f)) (Rs:=RS) (body:=d7v)
  (fun j b ρ hj u_=>by
   show (match (It.ref 1 1 j).next ⟨ρ,RS b⟩ with | some (some (v,it'))=>_ | some none=>_ | none=>_) = _
   rw [hn,W0 L hj])
  (fun b ρ u_=>by
   show (match (It.ref 1 1 L.length).next ⟨ρ,RS b⟩ with | some (some (v,it'))=>_ | some none=>_ | none=>_) = _
   rw [hn,List.getElem?_eq_none (by rw [E3]; exact Nat.le_refl _)])
  (fun j b ρ hj hI hK=>by
   obtain ⟨e,i1⟩:=hI
   obtain ⟨k,sh⟩:=b
   cases e
   have h1:=(hK.put (i:=10) (.int (k:Nat)) rfl (by decide)).put (i:=9) (.int (L.getD k 0:Nat)) rfl (by decide)
   have hu:L.getD k 0 < 4096:=hL _ (by rw [List.getD_eq_getElem?_getD,List.getElem?_eq_getElem hj]; exact List.getElem_mem _)
   have hk:k < L.length:=hj
   have hle:=d2v (L.take k)
   rw [List.length_take] at hle
   obtain ⟨ρ',a1,a2⟩:=d2w (cs:=cs) (L:=L) (sz:=(L.take k).map (pc 12)) (ev:=evs (L.take k)) (sh:=sh) (h1.pick [1,0,2,3,4,5,6,7,8,9,10,11]) hu hf hD (by rw [List.length_map,List.length_take]; lia) (by lia) i1.pw i1.bd (by rw [i1.len]; lia)
   have et:L.take (k + 1) = L.take k ++ [L.getD k 0]:=by rw [List.take_succ_eq_append_getElem hj,List.getD_eq_getElem?_getD,List.getElem?_eq_getElem hj]; rfl
   refine ⟨_,(k + 1,c2u true sh (pc 12 (L.getD k 0)) k),ρ',N2 (J2 hK (by decide)) (J2 (hK.nil.set (i:=10) _ rfl) (by decide)),⟨rfl,?_⟩,a1,?_⟩
   ·have:=i1.next
    rw [show (L.map (pc 12)).getD k 0 = pc 12 (L.getD k 0) by rw [List.getD_eq_getElem?_getD,List.getElem?_map,List.getD_eq_getElem?_getD,List.getElem?_eq_getElem hj]; rfl] at this
    exact this
   ·rw [<- c2d,<- List.map_singleton,<- List.map_append,<- et] at a2
    exact a2) L.length 0 (0,[]) ρ (Nat.zero_add _) ⟨rfl,.nil _ _⟩ h
 cases e
 refine ⟨ρ',sh,kk,i1,?_⟩
 have x:X P05 _ _ _ ⟨ρ',R3 cs L ((L.take L.length).map (pc 12)) (G5 (evs (L.take L.length))) sh [] []⟩:=x
 rw [List.take_length] at x
 exact Y8 (b5a (B0 (h.get 6 rfl)) rfl) x
end
end
section
theorem c8q:Z1 [("pair" : Str)]:=U9 fun u_ u_ u_ u_ u_ u_ u_ u_ u_ u_ u_ u_ u_ u_ u_ u_ u_ u_=>rfl
theorem d8z {st:St} {n:Nat} (h:n <= 1000):c2q st (.rng 1 (n + 1:Nat) 1) = some (.seq (nv (List.range' 1 n))):=by
 have hz0:Builtin.Range.rangeSize 1 (n + 1:Nat) 1 = n:=by
  unfold Builtin.Range.rangeSize
  rw [if_pos (by decide)]
  split
  ·rw [Int.ediv_one]; lia
  ·lia
 have hs:Builtin.Range.small 1 (n + 1:Nat) 1 = true:=by
  unfold Builtin.Range.small Builtin.Range.rangeFitsLong
  rw [hz0]
  simp
  lia
 have e:S1 1 (n + 1:Nat) 1 = (List.range' 1 n).map fun c=>((c:Nat):Int):=by
  unfold S1
  rw [hz0,Int.toNat_natCast]
  refine List.ext_getElem (by simp) fun i h1 h2=>?_
  simp
 rw [a2z]
 exact b3e hs e
theorem b3w:∀ l:List Nat,(l.map fun c=>((c:Nat):Int)).sum = ((l.sum:Nat):Int)
 | []=>rfl
 | a :: l=>by rw [List.map_cons,List.sum_cons,List.sum_cons,b3w l]; simp
theorem c2e {st:St} {a:V} {l:List Nat} (hs:C7 st a = some (nv l)) (hl:l.length <= 1000) (hb:∀ x ∈ l,x < 2 ^ 40):biV st "sum" [a] = some (.int (l.sum:Nat),st):=by
 have h:((l.map fun c=>((c:Nat):Int)).all (small 50) && decide ((l.map fun c=>((c:Nat):Int)).length <= 1000)) = true:=by
  rw [Bool.and_eq_true]
  refine ⟨List.all_eq_true.mpr fun i m=>?_,decide_eq_true (by rw [List.length_map]; exact hl)⟩
  obtain ⟨c,hc,rfl⟩:=List.mem_map.mp m
  have:=hb c hc
  unfold small
  simp
  lia
 refine (b0u (st:=st) (v:=a) (k:=fun is=>if is.all (small 50) && decide (is.length <= 1000) then some (V.int is.sum,st) else none) hs (a1q l)).trans ?_
 rw [if_pos h,b3w]
section
variable {cs:List Int} {ρ:List (Option V)} {D L sz ho ls:List Nat} {kv:List (Int × Int)} {sh ln:List (Nat × Nat)} {K:List (Nat × V)} {left:Bool}
noncomputable def c9u:Lam:=⟨("pair" : Str),[],(.tup (.sub .par (.int 0)) (.neg (.sub .par (.int 1))))⟩
theorem c2f {p:Nat × Nat} {st:St}:ApO P05 (.clo c9u []) [toT p] st (.tup [.int (kP true p).1,.int (kP true p).2]) st:=c5n c8q rfl
theorem RowN.sorted (h:RowN left ls ls.length sh):∃ r,a4b ((a4f ls ls.length).map (kP left)) (a4f ls ls.length).length = some r /\ a1y (fun i=>((a4f ls ls.length).map toT)[i]?) r.toList = some (sh.map toT):=b0l (b6k _ _) h.pm h.pw
theorem s11 (h:Hv 23 ρ [(12,.ref 1 2),(14,.ref 1 4)]) (hr:RowN true sz sz.length sh) (hz:sz.length <= 32):X1 P05 t11 ⟨ρ,R3 cs L sz kv sh ln ho⟩ .next ⟨ρ,R3 cs L sz kv sh ln ho⟩:=by
 have e1:E P05 (.comp false 23 3 [(.mk (.tup [(.slot 24),(.slot 25)]) (.enum (.val (.slot 12))) [])] (.tup [(.slot 25),(.slot 24)])) ⟨ρ,R3 cs L sz kv sh ln ho⟩ (.lst ((a4f sz sz.length).map toT)) ⟨ρ,R3 cs L sz kv sh ln ho⟩:=by
  unfold a4f
  rw [List.map_map]
  refine c6x (f1:=fun i:Nat=>V.int (i:Nat)) (f2:=fun i:Nat=>V.int (sz.getD i 0:Nat)) (xs:=List.range sz.length) (it:=.en 0 (.ref 1 2 0)) h (b5a (B0 (h.get 0 rfl)) rfl) ?_ (by rw [List.length_range]; unfold lim; lia) fun i hi ρ' h'=>G9 (A9 (B0 (h'.get 1 rfl)) (A9 (B0 (h'.get 0 rfl)) B3))
  have:=P1 (R:=R3 cs L sz kv sh ln ho) (nv sz) (.ref 1 2 0) 0 (I4 (vs:=nv sz) (fun u_=>rfl) _ 0 rfl)
  have e:((nv sz).zipIdx 0).map (fun p=>V.tup [.int (p.2:Nat),p.1]) = (List.range sz.length).map fun i=>V.tup [.int (i:Nat),.int (sz.getD i 0:Nat)]:=by
   refine List.ext_getElem? fun i=>?_
   rw [List.getElem?_map,List.getElem?_map,List.getElem?_zipIdx]
   by_cases hi:i < sz.length
   ·rw [List.getElem?_range hi,W0 sz hi,Nat.zero_add]; rfl
   ·rw [List.getElem?_eq_none (by rw [E3]; lia),List.getElem?_eq_none (by simp; lia)]; rfl
  rw [e] at this
  exact this
 obtain ⟨r,q1,q2⟩:=hr.sorted
 have hl:=a5e sz sz.length
 have c:c5o P05 (.builtin "sorted") [.lst ((a4f sz sz.length).map toT)] [(("key" : Str),.clo c9u [])] ⟨ρ,R3 cs L sz kv sh ln ho⟩ (.lst (sh.map toT)) ⟨ρ,R3 cs L sz kv sh ln ho⟩:=by
  refine a9p (vs:=(a4f sz sz.length).map toT) (ps:=(a4f sz sz.length).map (kP true)) (r:=r) (by show 2 < 100; decide) rfl (by rw [List.length_map,hl]; lia) (by rw [List.length_map,List.length_map]) (fun i x p hx hp=>?_) (by rw [List.length_map]; exact q1) q2
  rw [List.getElem?_map] at hx hp
  cases q:(a4f sz sz.length)[i]? with
  | none=>rw [q] at hx; cases hx
  | some t=>
   rw [q] at hx hp
   cases hx
   cases hp
   exact c2f
 have e2:=a9n (fv:=.builtin "sorted") (m:=c9u) (c0:=100) (q:=("law.<locals>.<lambda>" : Str)) (k:=("key" : Str)) (is:=[]) (ws:=[]) (A9 e1 B3) rfl (fun j i e=>by cases e) c
 exact L7 (D2 (B0 (h.get 1 rfl)) e2 (a7v ((b3c rfl).trans (a8d _ _)))) J0
noncomputable def brd (sh:List (Nat × Nat)):List V:=List.replicate 33 (V.tup [.int 99,.int 0]) ++ sh.map toT ++ List.replicate 33 (V.tup [.int (-1),.int 0])
theorem d4w {st:St} {e:ME} {x:V} (h:E P05 e st x st) (hl:x.lvlOk 2 = true):E P05 (.bin .Mult (.lst [e] false) (.const (.int 33)) false) st (.lst (List.replicate 33 x)) st:=by
 refine a4d (F3 (vs:=[x]) (A9 h B3) rfl) B9 ?_
 show (if decide ((-1000:Int) <= 33) && decide ((33:Int) <= 1000) && decide (1 <= 64) then mkL false (List.replicate (33:Int).toNat [x]).flatten st else none) = _
 rw [if_pos (by decide),show (33:Int).toNat = 33 from rfl,c9t]
 unfold mkL
 rw [if_pos (by simp; unfold lim; lia)]; rfl
theorem s12 (h:Hv 23 ρ ((14,.ref 1 4) :: K)) (hs:sh.length <= 32) (hK:(((14,.ref 1 4) :: K).map fun p:Nat × V=>p.1).contains 20 = false):X1 P05 t12 ⟨ρ,R3 cs L sz kv sh ln ho⟩ .next ⟨(ρ.set 20 (some (.lst (brd sh)))).set 21 (some (.int (33 + sh.length:Nat))),R3 cs L sz kv sh ln ho⟩:=by
 have p1:=d4w (st:=⟨ρ,R3 cs L sz kv sh ln ho⟩) (G9 (A9 (B9 (i:=99)) (A9 (B9 (i:=0)) B3))) rfl
 have p2:=d4w (st:=⟨ρ,R3 cs L sz kv sh ln ho⟩) (G9 (A9 (M6 (B9 (i:=1))) (A9 (B9 (i:=0)) B3))) rfl
 have e1:=a4d (mu:=false) p1 (B0 (st:=⟨ρ,R3 cs L sz kv sh ln ho⟩) (h.get 0 rfl)) (a3a (st:=⟨ρ,R3 cs L sz kv sh ln ho⟩) (vs:=List.replicate 33 (V.tup [.int 99,.int 0])) (us:=sh.map toT) rfl rfl (by simp; unfold lim; lia))
 have e2:=a4d (mu:=false) e1 p2 (a3a (st:=⟨ρ,R3 cs L sz kv sh ln ho⟩) (vs:=List.replicate 33 (V.tup [.int 99,.int 0]) ++ sh.map toT) (us:=List.replicate 33 (V.tup [.int (-1),.int 0])) rfl rfl (by simp; unfold lim; lia))
 have el:=B7 (C5 (P:=P05) (v:=.builtin "len")) (A9 (B0 (st:=⟨ρ,R3 cs L sz kv sh ln ho⟩) (h.get 0 rfl)) B3) B6 (N3 (N5 (vs:=sh.map toT) rfl (by rw [List.length_map]; unfold lim; lia)))
 rw [List.length_map] at el
 exact B4 (G9 (A9 e2 (A9 (M5 (x:=33) B9 el) B3))) (N2 (J2 h (by decide)) (J2 (h.nil.set (i:=20) _ rfl) (by decide)))
theorem b3x {A C:List (Nat × Nat)} (left:Bool) (x:Nat) (hA:∀ a ∈ A,C1 left x a = true) (hC:∀ c ∈ C,C1 left x c = false):(A ++ C).countP (fun p=>!C1 left x p) = (A ++ C).length - A.length:=by
 rw [List.countP_append,List.length_append,List.countP_eq_zero.mpr fun a m=>by rw [hA a m]; decide,List.countP_eq_length.mpr fun c m=>by rw [hC c m]; rfl,Nat.zero_add,Nat.add_sub_cancel_left]
theorem a8h (hp:sh.Pairwise (a1t left)) (x:Nat):sh = sh.filter (C1 left x) ++ sh.filter fun p=>!C1 left x p:=
 S0 (R:=a1t left) (fun a b h hb=>by
  unfold C1 at hb ⊢
  cases left with
  | true=>
   simp only [if_true,decide_eq_true_eq] at hb ⊢
   rcases h with h | ⟨h,_⟩ <;> lia
  | false=>
   simp only [Bool.false_eq_true,if_false,decide_eq_true_eq] at hb ⊢
   rcases h with h | ⟨h,_⟩ <;> lia) sh hp
theorem c8r {m:Nat} (h0:33 <= m) (h:m < 33 + sh.length):(brd sh)[m]? = some (toT (sh.getD (m - 33) (0,0))):=by
 unfold brd
 rw [List.getElem?_append_left (by simp; lia),List.getElem?_append_right (by simp; lia),List.length_replicate]
 exact a8b sh (by lia)
theorem c8s {st:St} {x:Nat} (hR:st.R.length < 98) (hp:sh.Pairwise (a1t true)) (hs:sh.length <= 100):Call P05 (a2u 50) [.lst (brd sh),.int (x:Nat),.int 33,.int (33 + sh.length:Nat)] [(("key" : Str),.imm (.ref 96))] st (.int (33 + (sh.filter (C1 true x)).length:Nat)) st:=by
 have e:=a8h hp x
 have:=a4u (P:=P05) (st:=st) (ad:=50) (a:=.lst (brd sh)) (vs:=brd sh) (lo:=33) (hi:=33 + sh.length) (xi:=((x:Nat):Int)) (gf:=fun m=>(((sh.getD (m - 33) (0,0)).1:Nat):Int)) (hv:=.int (33 + sh.length:Nat)) (key:=.imm (.ref 96)) (args:=[.lst (brd sh),.int (x:Nat),.int 33,.int (33 + sh.length:Nat)]) (kw:=[(("key" : Str),.imm (.ref 96))]) hR rfl (by unfold brd; simp; unfold lim; lia)
   (fun m h0 hm=>⟨_,c8r h0 hm,c2o _⟩) (.inl rfl) rfl rfl
 have b:=W2 (A:=sh.filter (C1 true x)) (C:=sh.filter fun p=>!C1 true x p) (p:=fun e=>!C1 true x e) (q:=fun m=>!decide ((((sh.getD (m - 33) (0,0)).1:Nat):Int) < ((x:Nat):Int))) 33 (fun a ha=>by rw [(List.mem_filter.mp ha).2]; rfl) (fun c hc=>(List.mem_filter.mp hc).2) (fun m e' he=>by
  rw [<- e] at he
  rw [Nat.add_sub_cancel_left,List.getD_eq_getElem?_getD,he]
  unfold C1
  simp)
 rw [<- e] at b
 rw [b] at this
 exact this
theorem b3y (x:Nat):(sh.countP fun p=>!C1 true x p) = (sh.map (·.1)).countP fun y=>decide (x <= y):=by
 rw [List.countP_map]
 refine List.countP_congr fun p u_=>?_
 unfold C1
 simp
theorem s13 (h:Hv 23 ρ [(20,.lst (brd sh)),(21,.int (33 + sh.length:Nat)),(12,.ref 1 2)]) (hr:RowN true sz sz.length sh) (hz:sz.length <= 32) (hb:∀ x ∈ sz,x <= 12):X1 P05 t13 ⟨ρ,R3 cs L sz kv sh ln ho⟩ .next ⟨ρ,R3 cs L sz kv sh ln ho⟩:=by
 have hl:=hr.len
 have e1:E P05 (.comp false 23 2 [(.mk (.slot 24) (.val (.call (.imm (.type "range")) [(.const (.int 1)),(.const (.int 13))] [])) [])] (.bin .Sub (.slot 21) (.call (.imm (.ref 50)) [(.slot 20),(.slot 24),(.const (.int 33)),(.slot 21)] [(("key" : Str),(.imm (.ref 96)))]) false)) ⟨ρ,R3 cs L sz kv sh ln ho⟩ (.lst (nv ((List.range' 1 12).map fun s=>(sh.map (·.1)).countP fun y=>decide (s <= y)))) ⟨ρ,R3 cs L sz kv sh ln ho⟩:=by
  unfold nv
  rw [List.map_map]
  refine b6b (f:=fun k:Nat=>V.int (k:Nat)) (xs:=List.range' 1 12) (it:=.seq (nv (List.range' 1 12))) h (T5 (B7 C5 (A9 B9 (A9 B9 B3)) B6 (b5g (st:=⟨ρ,R3 cs L sz kv sh ln ho⟩) (v:=.rng 1 13 1) rfl)) (d8z (n:=12) (by decide))) (E9 _).R (by decide) fun s u_ ρ' h'=>?_
  have q:=b3p (P:=P05) (st:=⟨ρ',R3 cs L sz kv sh ln ho⟩) (x:=33 + sh.length) (y:=33 + (sh.filter (C1 true s)).length) (by have:=List.length_filter_le (C1 true s) sh; lia) (B0 (h'.get 2 rfl)) (B7 C5 (A9 (B0 (h'.get 1 rfl)) (A9 (B0 (h'.get 0 rfl)) (A9 B9 (A9 (B0 (h'.get 2 rfl)) B3)))) (D7 C5 B6) (Q6 a8a (c8s (by show 2 < 98; decide) hr.pw (by lia))))
  have e:=b3x (A:=sh.filter (C1 true s)) (C:=sh.filter fun p=>!C1 true s p) true s (fun a ha=>(List.mem_filter.mp ha).2) (fun c hc=>by simpa using (List.mem_filter.mp hc).2)
  rw [<- a8h hr.pw s,b3y] at e
  rw [show 33 + sh.length - (33 + (sh.filter (C1 true s)).length) = (sh.map (·.1)).countP fun y=>decide (s <= y) by rw [e]; lia] at q
  exact q
 have hc:∀ x ∈ (List.range' 1 12).map fun s=>(sh.map (·.1)).countP fun y=>decide (s <= y),x < 2 ^ 40:=fun x m=>by
  obtain ⟨s,_,rfl⟩:=List.mem_map.mp m
  have:=List.countP_le_length (p:=fun y=>decide (s <= y)) (l:=sh.map (·.1))
  rw [List.length_map] at this
  lia
 have es:=B7 (C5 (P:=P05) (v:=.builtin "sum")) (A9 e1 B3) B6 (N3 (c2e rfl (by simp) hc))
 have e2:=B7 (C5 (P:=P05) (v:=.builtin "sum")) (A9 (B0 (st:=⟨ρ,R3 cs L sz kv sh ln ho⟩) (h.get 2 rfl)) B3) B6 (N3 (c2e (l:=sz) rfl (by lia) fun x m=>by have:=hb x m; lia))
 have hf:=hr.fst
 rw [a1v _ fun x m=>hb x (hf.mem_iff.mp m),hf.sum_nat] at es
 exact L7 (D2 es e2 ((c8b _ _ _).trans (by simp))) J0
end
end
section
noncomputable def cnt (ev:List Nat):List Nat:=(ded ev).map fun t=>ev.count t
theorem W5 (ev:List Nat):(cnt ev).length = (ded ev).length:=List.length_map _
theorem d2x {ev:List Nat} {j:Nat} (h:j < (ded ev).length):(cnt ev).getD j 0 = ev.count ((ded ev).getD j 0):=by
 unfold cnt
 rw [List.getD_eq_getElem?_getD,List.getElem?_map,List.getD_eq_getElem?_getD,List.getElem?_eq_getElem h]; rfl
theorem c8t {ev:List Nat} {j:Nat} (h:j < (ded ev).length):a5o (G5 ev) ((ded ev).getD j 0:Nat) = some (((cnt ev).getD j 0:Nat):Int):=by
 have:=a5d (fun t=>ev.count t) ((ded ev).getD j 0) (ded ev) (T2 ev).1
 rw [if_pos (by rw [List.getD_eq_getElem?_getD,List.getElem?_eq_getElem h]; exact List.getElem_mem _)] at this
 rw [d2x h]; exact this
theorem b3z {st:St} {l i j:Nat} {ev:List Nat} (ho:st.obj l i = some (.dct (G5 ev))) (h:j < (ded ev).length):(It.dref l i j (G5 ev).length).next st = some (some (.int ((ded ev).getD j 0:Nat),.dref l i (j + 1) (G5 ev).length)):=by
 show (match st.obj l i with
  | some (.dct kvs)=>if kvs.length = (G5 ev).length then (match kvs[j]? with | some kv=>some (some (V.int kv.1,It.dref l i (j + 1) (G5 ev).length)) | none=>some none) else none
  | _=>none) = _
 rw [ho]
 dsimp only
 rw [if_pos rfl]
 have:(G5 ev)[j]? = some ((((ded ev).getD j 0:Nat):Int),((ev.count ((ded ev).getD j 0):Nat):Int)):=by
  unfold G5
  rw [List.getElem?_map,List.getD_eq_getElem?_getD,List.getElem?_eq_getElem h]; rfl
 rw [this]
theorem b9c {st:St} {l i:Nat} {ev:List Nat} (ho:st.obj l i = some (.dct (G5 ev))):(It.dref l i (ded ev).length (G5 ev).length).next st = some none:=by
 show (match st.obj l i with
  | some (.dct kvs)=>if kvs.length = (G5 ev).length then (match kvs[(ded ev).length]? with | some kv=>some (some (V.int kv.1,It.dref l i ((ded ev).length + 1) (G5 ev).length)) | none=>some none) else none
  | _=>none) = _
 rw [ho]
 dsimp only
 rw [if_pos rfl,List.getElem?_eq_none (by rw [b3v]; exact Nat.le_refl _)]
theorem a3f {R:List (List AObj)} {l i:Nat} {ev:List Nat} (ho:∀ ρ,St.obj ⟨ρ,R⟩ l i = some (.dct (G5 ev))):∀ (m j:Nat),j + m = (ded ev).length->I3 R (.dref l i j (G5 ev).length) ((List.range' j m).map fun k=>V.int ((ded ev).getD k 0:Nat))
 | 0,j,e=>fun ρ=>by
  rw [show j = (ded ev).length by lia]
  exact b9c (ho ρ)
 | m + 1,j,e=>⟨_,fun ρ=>b3z (ho ρ) (by lia),a3f ho m (j + 1) (by lia)⟩
section
variable {cs:List Int} {ρ:List (Option V)} {D L sz ev hos:List Nat} {f:Nat} {sh:List (Nat × Nat)} {K:List (Nat × V)} {ln:List (Nat × Nat)}
theorem b9d {e:ME} (h:E P05 e ⟨ρ,R3 cs L sz (G5 ev) sh ln hos⟩ (.ref 1 3) ⟨ρ,R3 cs L sz (G5 ev) sh ln hos⟩):I P05 (.enum (.val e)) ⟨ρ,R3 cs L sz (G5 ev) sh ln hos⟩ (.en 0 (.dref 1 3 0 (G5 ev).length)) ⟨ρ,R3 cs L sz (G5 ev) sh ln hos⟩:=d1c (kvs:=G5 ev) h rfl
theorem s14 (h:Hv 23 ρ (K3 D f)) (hd:(ded ev).length <= 12):∃ ρ' ln,Hv 23 ρ' (K3 D f) /\ RowN false (cnt ev) (cnt ev).length ln /\ X1 P05 t14 ⟨ρ,R3 cs L sz (G5 ev) sh [] []⟩ .next ⟨ρ',R3 cs L sz (G5 ev) sh ln []⟩:=by
 let RS:=fun b:List (Nat × Nat)=>R3 cs L sz (G5 ev) sh b []
 obtain ⟨ln,ρ',i1,kk,x⟩:=a8g (P:=P05) (N:=(ded ev).length) (p:=.tup [.slot 10,.slot 17]) (it:=fun j=>.en j (.dref 1 3 j (G5 ev).length)) (f:=fun j=>.tup [.int (j:Nat),.int ((ded ev).getD j 0:Nat)]) (Inv:=fun j (b:List (Nat × Nat))=>RowN false (cnt ev) j b) (K:=fun u_ ρ=>Hv 23 ρ (K3 D f)) (Rs:=RS) (body:=d8w)
  (fun j b ρ hj u_=>by
   show (match (It.dref 1 3 j (G5 ev).length).next ⟨ρ,RS b⟩ with | some (some (v,it'))=>_ | some none=>_ | none=>_) = _
   rw [b3z (st:=⟨ρ,RS b⟩) rfl hj])
  (fun b ρ u_=>by
   show (match (It.dref 1 3 (ded ev).length (G5 ev).length).next ⟨ρ,RS b⟩ with | some (some (v,it'))=>_ | some none=>_ | none=>_) = _
   rw [b9c (st:=⟨ρ,RS b⟩) rfl])
  (fun j b ρ hj hI hK=>by
   have h1:=(hK.put (i:=10) (.int (j:Nat)) rfl (by decide)).put (i:=17) (.int ((ded ev).getD j 0:Nat)) rfl (by decide)
   refine ⟨_,c2u false b ((cnt ev).getD j 0) j,_,N2 (J2 hK (by decide)) (J2 (hK.nil.set (i:=10) _ rfl) (by decide)),hI.next,h1.tl.tl,?_⟩
   generalize (ρ.set 10 (some (.int (j:Nat)))).set 17 (some (.int ((ded ev).getD j 0:Nat))) = ρ1 at h1
   have c:=d4s (st:=⟨ρ1,RS b⟩) (l:=1) (i:=5) (x:=(cnt ev).getD j 0) (j:=j) (left:=false) rfl (by rw [hI.len]; lia) (by show 2 < 90; decide) hI.pw hI.bd
   exact G3 (D0 (B7 C5 (A9 (B0 (h1.get 6 rfl)) (A9 (G9 (A9 (c5u (B0 (st:=⟨ρ1,RS b⟩) (h1.get 4 rfl)) (B0 (h1.get 0 rfl)) (kvs:=G5 ev) rfl (c8t hj)) (A9 (B0 (h1.get 1 rfl)) B3))) B3)) (D7 C5 B6) (Q6 c8d c)))) (ded ev).length 0 [] ρ (Nat.zero_add _) (.nil _ _) h
 exact ⟨ρ',ln,kk,by rw [W5]; exact i1,Y8 (b9d (B0 (h.get 2 rfl))) x⟩
theorem b4a:∀ row:List (Nat × Nat),Y3 (row.map toT) = some (row.map (kP false))
 | []=>rfl
 | p :: r=>by
  show (match b6p (toT p) with | some p=>(match Y3 (r.map toT) with | some l=>some (p :: l) | none=>none) | none=>none) = _
  rw [b4a r]; rfl
theorem s15 (h:Hv 23 ρ [(13,.ref 1 3),(15,.ref 1 5)]) (hr:RowN false (cnt ev) (cnt ev).length ln) (hd:(ded ev).length <= 12):X1 P05 t15 ⟨ρ,R3 cs L sz (G5 ev) sh ln hos⟩ .next ⟨ρ,R3 cs L sz (G5 ev) sh ln hos⟩:=by
 have e1:E P05 (.comp false 23 3 [(.mk (.tup [(.slot 24),(.slot 25)]) (.enum (.val (.slot 13))) [])] (.tup [(.sub (.slot 13) (.slot 25)),(.slot 24)])) ⟨ρ,R3 cs L sz (G5 ev) sh ln hos⟩ (.lst ((a4f (cnt ev) (cnt ev).length).map toT)) ⟨ρ,R3 cs L sz (G5 ev) sh ln hos⟩:=by
  unfold a4f
  rw [List.map_map]
  refine c6x (f1:=fun i:Nat=>V.int (i:Nat)) (f2:=fun i:Nat=>V.int ((ded ev).getD i 0:Nat)) (xs:=List.range (cnt ev).length) h (b9d (B0 (h.get 0 rfl))) ?_ (by rw [List.length_range,W5]; unfold lim; lia) fun i hi ρ' h'=>G9 (A9 (c5u (B0 (st:=⟨ρ',R3 cs L sz (G5 ev) sh ln hos⟩) (h'.get 2 rfl)) (B0 (h'.get 1 rfl)) (kvs:=G5 ev) rfl (c8t (by rw [<- W5]; exact List.mem_range.mp hi))) (A9 (B0 (h'.get 0 rfl)) B3))
  have:=P1 (R:=R3 cs L sz (G5 ev) sh ln hos) _ _ 0 (a3f (l:=1) (i:=3) (ev:=ev) (fun u_=>rfl) (ded ev).length 0 (Nat.zero_add _))
  have e:(((List.range' 0 (ded ev).length).map fun k=>V.int ((ded ev).getD k 0:Nat)).zipIdx 0).map (fun p=>V.tup [.int (p.2:Nat),p.1]) = (List.range (cnt ev).length).map fun i=>V.tup [.int (i:Nat),.int ((ded ev).getD i 0:Nat)]:=by
   rw [W5]
   refine List.ext_getElem (by simp) fun i h1 h2=>?_
   simp
  rw [e] at this
  exact this
 obtain ⟨r,q1,q2⟩:=hr.sorted
 have hl:=a5e (cnt ev) (cnt ev).length
 have c:biV ⟨ρ,R3 cs L sz (G5 ev) sh ln hos⟩ "sorted" [.lst ((a4f (cnt ev) (cnt ev).length).map toT)] = some (.lst (ln.map toT),⟨ρ,R3 cs L sz (G5 ev) sh ln hos⟩):=by
  show (match a1z ((a4f (cnt ev) (cnt ev).length).map toT) with | some us=>some (V.lst us,(⟨ρ,R3 cs L sz (G5 ev) sh ln hos⟩ : St)) | none=>none) = _
  have:a1z ((a4f (cnt ev) (cnt ev).length).map toT) = some (ln.map toT):=by
   unfold a1z
   rw [b4a]
   dsimp only
   rw [if_pos (by rw [List.length_map,hl,W5]; lia),List.length_map,q1]
   exact q2
  rw [this]
 exact L7 (D2 (B0 (h.get 1 rfl)) (B7 C5 (A9 e1 B3) B6 (N3 c)) (a7v ((b3c rfl).trans (a8d _ _)))) J0
end
end
section
theorem d4x (st:St) (x y:Nat):c2p st .Lt (.int (x:Nat)) (.int (y:Nat)) = some (decide (x < y)):=by
 show some (decide (((x:Nat):Int) < ((y:Nat):Int))) = _
 congr 1
 exact decide_eq_decide.mpr Int.ofNat_lt
theorem d7i (st:St) (x y:Nat):c2p st .Gt (.int (x:Nat)) (.int (y:Nat)) = some (decide (y < x)):=by
 show some (decide (((y:Nat):Int) < ((x:Nat):Int))) = _
 congr 1
 exact decide_eq_decide.mpr Int.ofNat_lt
theorem b9e {P:Pg} {st:St} {a b:ME} {x k:Nat} (hx:x < 2 ^ 16) (hk:k <= 4096) (h1:E P a st (.int (x:Nat)) st) (h2:E P b st (.int (k:Nat)) st):E P (.bin .Pow a b false) st (.int (x ^ k:Nat)) st:=C4 h1 h2 (by
 have hs:(decide ((0:Int) <= (k:Nat)) && decide (((k:Nat):Int) <= 4096) && small 16 ((x:Nat):Int)) = true:=by
  simp [small]; lia
 simp only [J5,G4,J1,J6,J7,J8,J9,Y2,K1,hs,if_true]
 simp)
theorem c8u {st:St} (x y:Nat):biV st "min" [.int (x:Nat),.int (y:Nat)] = some (.int (min x y:Nat),st):=by
 show some (V.int (min ((x:Nat):Int) ((y:Nat):Int)),st) = _
 have e:min ((x:Nat):Int) ((y:Nat):Int) = ((min x y:Nat):Int):=(Nat.le_total x y).elim (fun h=>by rw [Nat.min_eq_left h,Int.min_eq_left (Int.ofNat_le.mpr h)]) fun h=>by rw [Nat.min_eq_right h,Int.min_eq_right (Int.ofNat_le.mpr h)]
 rw [e]
noncomputable def hol (L:List Nat) (own:Nat):Nat:=L.countP fun u=>u ||| own == u
theorem d2y (L:List Nat) (own:Nat):hol L own = L.countP fun u=>decide (own &&& u = own):=by
 unfold hol
 refine List.countP_congr fun u u_=>?_
 rw [beq_iff_eq,decide_eq_true_iff]
 constructor
 ·intro h
  refine Nat.eq_of_testBit_eq fun i=>?_
  have:=congrArg (Nat.testBit · i) h
  simp only [Nat.testBit_or] at this
  rw [Nat.testBit_and]
  revert this
  cases u.testBit i <;> cases own.testBit i <;> simp
 ·intro h
  refine Nat.eq_of_testBit_eq fun i=>?_
  have:=congrArg (Nat.testBit · i) h
  simp only [Nat.testBit_and] at this
  rw [Nat.testBit_or]
  revert this
  cases u.testBit i <;> cases own.testBit i <;> simp
section
variable {cs:List Int} {ρ:List (Option V)} {D L sz ev hos:List Nat} {f own:Nat} {sh:List (Nat × Nat)} {K:List (Nat × V)} {ln:List (Nat × Nat)} {kv:List (Int × Int)} {left:Bool}
theorem c8v (h:hos.Pairwise (· <= ·)) (y:Nat):∃ A C,hos = A ++ C /\ (∀ e ∈ A,e < y) /\ (∀ e ∈ C,y <= e) /\ (A ++ y :: C).Pairwise (· <= ·):=by
 have e:=S0 (R:=fun a b:Nat=>a <= b) (p:=fun a=>decide (a < y)) (fun a b h hb=>decide_eq_true (Nat.lt_of_le_of_lt h (of_decide_eq_true hb))) hos h
 have hA:∀ e ∈ hos.filter (fun a=>decide (a < y)),e < y:=fun e m=>of_decide_eq_true (List.mem_filter.mp m).2
 have hC:∀ e ∈ hos.filter (fun a=>!decide (a < y)),y <= e:=fun e m=>by simpa using (List.mem_filter.mp m).2
 refine ⟨_,_,e,hA,hC,List.pairwise_append.mpr ⟨h.filter _,List.pairwise_cons.mpr ⟨hC,h.filter _⟩,fun a ma b mb=>?_⟩⟩
 rcases List.mem_cons.mp mb with rfl | mb
 ·exact Nat.le_of_lt (hA a ma)
 ·exact Nat.le_trans (Nat.le_of_lt (hA a ma)) (hC b mb)
theorem c2g (h:Hv 23 ρ [(8,.int (own:Nat)),(6,.ref 1 1),(16,.ref 1 6)]) (hs:hos.Pairwise (· <= ·)) (hl:hos.length <= 100) (hL:L.length <= 32) :
  ∃ hos':List Nat,hos'.Pairwise (· <= ·) /\ hos'.length <= hos.length + 1 /\ (∀ x ∈ hos,x ∈ hos') /\ (own ≠ 0->hol L own ∈ hos') /\ X1 P05 d4n ⟨ρ,R3 cs L sz kv sh ln hos⟩ .next ⟨ρ,R3 cs L sz kv sh ln hos'⟩:=by
 have t:=a4e (P:=P05) (d:=8) (B0 (st:=⟨ρ,R3 cs L sz kv sh ln hos⟩) (h.get 0 rfl)) (c1e _) rfl
 by_cases q:own = 0
 ·subst q
  exact ⟨hos,hs,Nat.le_succ _,fun u_ m=>m,fun w=>absurd rfl w,L7 t J0⟩
 ·have e1:E P05 (.comp false 23 2 [(.mk (.slot 24) (.val (.slot 6)) [(.cmp (.bin .BitOr (.slot 24) (.slot 8) false) [.Eq] [(.slot 24)])])] (.slot 24)) ⟨ρ,R3 cs L sz kv sh ln hos⟩ (.lst (nv (L.filter fun u=>u ||| own == u))) ⟨ρ,R3 cs L sz kv sh ln hos⟩:=
   b3a (f:=fun k:Nat=>V.int (k:Nat)) (g:=fun k:Nat=>V.int (k:Nat)) (q:=fun u=>u ||| own == u) (xs:=L) (it:=.ref 1 1 0) h (T5 (B0 (h.get 1 rfl)) rfl) (I4 (vs:=nv L) (fun u_=>rfl) _ 0 rfl) (by unfold lim; lia) fun u u_ ρ' h'=>⟨D2 (d7z (B0 (h'.get 0 rfl)) (B0 (h'.get 1 rfl))) (B0 (h'.get 0 rfl)) (b3d _ _ _),fun u_=>B0 (h'.get 0 rfl)⟩
  have el:=B7 (C5 (P:=P05) (v:=.builtin "len")) (A9 e1 B3) B6 (N3 (N5 rfl (by rw [E3]; have:=List.length_filter_le (fun u=>u ||| own == u) L; unfold lim; lia)))
  rw [E3,<- List.countP_eq_length_filter] at el
  obtain ⟨A,C,rfl,hA,hC,hp⟩:=c8v hs (hol L own)
  have c:=d6y (P:=P05) (st:=⟨ρ,R3 cs L sz kv sh ln (A ++ C)⟩) (ad:=41) (bd:=50) (l:=1) (i:=6) (A:=A) (C:=C) (y:=hol L own) a8a (by show 2 < 80; decide) rfl (by lia) hA hC
  rw [bne_iff_ne.mpr q] at t
  refine ⟨A ++ hol L own :: C,hp,by simp; lia,fun x m=>?_,fun u_=>by simp,b7h t (G3 (D0 (B7 C5 (A9 (B0 (h.get 2 rfl)) (A9 el B3)) B6 (Q6 c8e c))))⟩
  rcases List.mem_append.mp m with m | m
  ·exact List.mem_append_left _ m
  ·exact List.mem_append_right _ (.tail _ m)
theorem s16 (h:Hv 23 ρ (K3 D f)) (hD:D.length <= 50) (hL:L.length <= 32):∃ ρ' hos,Hv 23 ρ' (K3 D f) /\ hos.Pairwise (· <= ·) /\ hos.length <= 50 /\ (∀ i,i < D.length->D.getD i 0 ≠ 0->hol L (D.getD i 0) ∈ hos) /\ X1 P05 t16 ⟨ρ,R3 cs L sz kv sh ln []⟩ .next ⟨ρ',R3 cs L sz kv sh ln hos⟩:=by
 obtain ⟨hos,ρ',⟨i1,i2,i3⟩,kk,x⟩:=b6h (P:=P05) (i:=8) (n:=23) (xs:=D) (l:=fun _:List Nat=>K3 D f) (Inv:=fun j hos=>hos.Pairwise (· <= ·) /\ hos.length <= j /\ ∀ i,i < j->D.getD i 0 ≠ 0->hol L (D.getD i 0) ∈ hos) (Rs:=fun b=>R3 cs L sz kv sh ln b) (body:=d8x) (fun u_=>rfl) (by decide) (fun j b ρ hj hI hρ=>by
  obtain ⟨i1,i2,i3⟩:=hI
  obtain ⟨b',a1,a2,a3,a4,a5⟩:=c2g (cs:=cs) (L:=L) (sz:=sz) (kv:=kv) (sh:=sh) (ln:=ln) (hρ.pick [0,7,6]) i1 (by lia) hL
  refine ⟨b',ρ,⟨a1,by lia,fun i hi hne=>?_⟩,hρ.tl,G3 a5⟩
  rcases Nat.lt_succ_iff_lt_or_eq.mp hi with hi | rfl
  ·exact a3 _ (i3 i hi hne)
  ·exact a4 hne) (b:=[]) ⟨.nil,Nat.le_refl _,fun i hi=>absurd hi (Nat.not_lt_zero i)⟩ h
 exact ⟨ρ',hos,kk,i1,by lia,i3,Y8 (T5 (B0 (h.get 7 rfl)) rfl) x⟩
theorem b4b (hp:ln.Pairwise (a1t left)) (x:Nat):ln = ln.filter (C1 true x) ++ ln.filter fun p=>!C1 true x p:=
 S0 (R:=a1t left) (fun a b h hb=>by
  unfold C1 at hb ⊢
  simp only [if_true,decide_eq_true_eq] at hb ⊢
  rcases h with h | ⟨h,_⟩ <;> lia) ln hp
theorem c8w {st:St} {x:Nat} {a:V} (hR:st.R.length < 98) (hs:C7 st a = some (ln.map toT)) (hp:ln.Pairwise (a1t left)) (hl:ln.length <= 100):Call P05 (a2u 50) [a,.int (x:Nat)] [(("key" : Str),.imm (.ref 96))] st (.int ((ln.filter (C1 true x)).length:Nat)) st:=by
 have e:=b4b hp x
 have:=a4u (P:=P05) (st:=st) (ad:=50) (a:=a) (vs:=ln.map toT) (lo:=0) (hi:=ln.length) (xi:=((x:Nat):Int)) (gf:=fun m=>(((ln.getD m (0,0)).1:Nat):Int)) (hv:=.imm .none) (key:=.imm (.ref 96)) (args:=[a,.int (x:Nat)]) (kw:=[(("key" : Str),.imm (.ref 96))]) hR hs (by rw [List.length_map]; unfold lim; lia)
   (fun m u_ hm=>⟨_,a8b ln hm,c2o _⟩) (.inr ⟨rfl,(List.length_map _).symm⟩) rfl rfl
 have b:=W2 (A:=ln.filter (C1 true x)) (C:=ln.filter fun p=>!C1 true x p) (p:=fun e=>!C1 true x e) (q:=fun m=>!decide ((((ln.getD m (0,0)).1:Nat):Int) < ((x:Nat):Int))) 0 (fun a ha=>by rw [(List.mem_filter.mp ha).2]; rfl) (fun c hc=>(List.mem_filter.mp hc).2) (fun m e' he=>by
  rw [<- e] at he
  rw [Nat.zero_add,List.getD_eq_getElem?_getD,he]
  unfold C1
  simp)
 rw [<- e,Nat.zero_add,Nat.zero_add] at b
 rw [b] at this
 exact this
theorem d4y (hp:ln.Pairwise (a1t left)) (x:Nat):ln.length - (ln.filter (C1 true x)).length = (ln.map (·.1)).countP fun y=>decide (x <= y):=by
 have e:=b3x (A:=ln.filter (C1 true x)) (C:=ln.filter fun p=>!C1 true x p) true x (fun a ha=>(List.mem_filter.mp ha).2) (fun c hc=>by simpa using (List.mem_filter.mp hc).2)
 rw [<- b4b hp x,b3y] at e
 exact e.symm
theorem d4z {st:St} {a:V} {i:Nat} {row:List (Nat × Nat)} (h:st.ρ[i]? = some (some a)) (hc:a.isClo = false) (hs:C7 st a = some (row.map toT)) (hl:row.length <= 1000):E P05 (.call (.imm (.builtin "len")) [(.slot i)] []) st (.int (row.length:Nat)) st:=by
 have:=N5 hs (by rw [List.length_map]; unfold lim; lia)
 rw [List.length_map] at this
 exact B7 C5 (A9 (B0 h hc) B3) B6 (N3 this)
theorem s17 (h:Hv 23 ρ (K3 D f)) (hr:RowN false (cnt ev) (cnt ev).length ln) (hd:(ded ev).length <= 12) (hL:L.length <= 32) (hb:∀ x ∈ cnt ev,x <= L.length):X1 P05 t17 ⟨ρ,R3 cs L sz kv sh ln hos⟩ .next ⟨ρ.set 22 (some (.int (ev.length:Nat))),R3 cs L sz kv sh ln hos⟩:=by
 have hl:ln.length <= 12:=by rw [hr.len,W5]; exact hd
 have e1:E P05 (.comp false 23 2 [(.mk (.slot 24) (.val (.call (.imm (.type "range")) [(.const (.int 1)),(.bin .Add (.call (.imm (.builtin "len")) [(.slot 6)] []) (.const (.int 1)) false)] [])) [])] (.bin .Sub (.call (.imm (.builtin "len")) [(.slot 15)] []) (.call (.imm (.ref 50)) [(.slot 15),(.slot 24)] [(("key" : Str),(.imm (.ref 96)))]) false)) ⟨ρ,R3 cs L sz kv sh ln hos⟩ (.lst (nv ((List.range' 1 L.length).map fun s=>(ln.map (·.1)).countP fun y=>decide (s <= y)))) ⟨ρ,R3 cs L sz kv sh ln hos⟩:=by
  unfold nv
  rw [List.map_map]
  refine b6b (f:=fun k:Nat=>V.int (k:Nat)) (xs:=List.range' 1 L.length) (it:=.seq (nv (List.range' 1 L.length))) h (T5 (B7 C5 (A9 B9 (A9 (M5 (b0k (xs:=L) (h.get 6 rfl) rfl (by lia)) (B9 (i:=1))) B3)) B6 (b5g (st:=⟨ρ,R3 cs L sz kv sh ln hos⟩) (v:=.rng 1 (L.length + 1:Nat) 1) rfl)) (d8z (n:=L.length) (by lia))) (E9 _).R (by simp; unfold lim; lia) fun s u_ ρ' h'=>?_
  have q:=b3p (P:=P05) (st:=⟨ρ',R3 cs L sz kv sh ln hos⟩) (x:=ln.length) (y:=(ln.filter (C1 true s)).length) (List.length_filter_le (C1 true s) ln) (d4z (h'.get 5 rfl) rfl rfl (by lia)) (B7 C5 (A9 (B0 (h'.get 5 rfl)) (A9 (B0 (h'.get 0 rfl)) B3)) (D7 C5 B6) (Q6 a8a (c8w (by show 2 < 98; decide) rfl hr.pw (by lia))))
  rw [d4y hr.pw s] at q
  exact q
 have hc:∀ x ∈ (List.range' 1 L.length).map fun s=>(ln.map (·.1)).countP fun y=>decide (s <= y),x < 2 ^ 40:=fun x m=>by
  obtain ⟨s,_,rfl⟩:=List.mem_map.mp m
  have:=List.countP_le_length (p:=fun y=>decide (s <= y)) (l:=ln.map (·.1))
  rw [List.length_map] at this
  lia
 have es:=B7 (C5 (P:=P05) (v:=.builtin "sum")) (A9 e1 B3) B6 (N3 (c2e rfl (by simp; lia) hc))
 have hf:=hr.fst
 rw [a1v _ fun x m=>hb x (hf.mem_iff.mp m),hf.sum_nat,show (cnt ev).sum = ev.length from a8f (T2 ev).1 ev fun t m=>((T2 ev).2 t).mpr m] at es
 exact B4 es (J2 h (by decide))
theorem s18 {w:Nat} (h:Hv 23 ρ ((22,.int (w:Nat)) :: K3 D f)) (hL:L.length <= 32) (hw:L.length ^ L.length <= 4 ^ min w 81):X1 P05 t18 ⟨ρ,R3 cs L sz kv sh ln hos⟩ .next ⟨ρ,R3 cs L sz kv sh ln hos⟩:=by
 have el:=b0k (P:=P05) (st:=⟨ρ,R3 cs L sz kv sh ln hos⟩) (xs:=L) (h.get 7 rfl) rfl (by lia)
 have e1:=B7 (C5 (P:=P05) (v:=.builtin "min")) (A9 (B0 (st:=⟨ρ,R3 cs L sz kv sh ln hos⟩) (h.get 0 rfl)) (A9 (B9 (i:=81)) B3)) B6 (N3 (c8u w 81))
 exact L7 (D2 (b9e (x:=4) (k:=min w 81) (by decide) (by lia) B9 e1) (b9e (by lia) (by lia) el el) ((d4x _ _ _).trans (by rw [decide_eq_false (by lia)]))) J0
theorem s19 (h:Hv 23 ρ (K3 D f)) (hr:RowN false (cnt ev) (cnt ev).length ln) (hd:(ded ev).length <= 12) (hL:L.length <= 32) (hs:hos.Pairwise (· <= ·)) (hl:hos.length <= 50)
  (h1:2 <= L.length->∃ t,t ∈ ev /\ L.length <= 2 * ev.count t) (h2:2 <= L.length->∃ y ∈ hos,2 * y <= L.length) (h0:1 <= L.length):X1 P05 t19 ⟨ρ,R3 cs L sz kv sh ln hos⟩ (.ret (.imm (.bool true))) ⟨ρ,R3 cs L sz kv sh ln hos⟩:=by
 have hln:ln.length <= 12:=by rw [hr.len,W5]; exact hd
 have el:=b0k (P:=P05) (st:=⟨ρ,R3 cs L sz kv sh ln hos⟩) (xs:=L) (h.get 6 rfl) rfl (by lia)
 have e1:=L5 (P:=P05) el (B9 (i:=1)) (b3d _ L.length 1)
 by_cases q:L.length = 1
 ·rw [q] at e1
  exact E2 (c4e e1 rfl)
 ·have q2:2 <= L.length:=by lia
  rw [show (L.length == 1) = false by simpa using q] at e1
  refine E2 (c4f e1 rfl (c4g ?_))
  have b1:=B7 (C5 (P:=P05)) (A9 (B0 (st:=⟨ρ,R3 cs L sz kv sh ln hos⟩) (h.get 4 rfl)) (A9 (a0f (y:=2) (by decide) (by decide) (M5 el (B9 (i:=1))) B9) B3)) (D7 C5 B6) (Q6 a8a (c8w (by show 2 < 98; decide) rfl hr.pw (by lia)))
  have c1:=L5 (P:=P05) b1 (d4z (row:=ln) (h.get 4 rfl) rfl rfl (by lia)) (d4x _ _ _)
  obtain ⟨t,ht,hc⟩:=h1 q2
  have d1:(ln.filter (C1 true ((L.length + 1) / 2))).length < ln.length:=by
   have e:=d4y hr.pw ((L.length + 1) / 2)
   have:0 < (ln.map (·.1)).countP fun y=>decide ((L.length + 1) / 2 <= y):=List.countP_pos_iff.mpr ⟨ev.count t,hr.fst.mem_iff.mpr (List.mem_map.mpr ⟨t,((T2 ev).2 t).mpr ht,rfl⟩),decide_eq_true (by lia)⟩
   exact Nat.lt_of_sub_pos (e ▸ this)
  rw [decide_eq_true d1] at c1
  refine c4h c1 rfl (c4i ?_)
  have e:=S0 (R:=fun a b:Nat=>a <= b) (p:=fun a=>decide (a <= L.length / 2)) (fun a b h hb=>decide_eq_true (Nat.le_trans h (of_decide_eq_true hb))) hos hs
  have c:=d6w (P:=P05) (st:=⟨ρ,R3 cs L sz kv sh ln hos⟩) (ad:=32) (a:=.ref 1 6) (A:=hos.filter fun a=>decide (a <= L.length / 2)) (C:=hos.filter fun a=>!decide (a <= L.length / 2)) (y:=L.length / 2) (by show 2 < 90; decide) (by rw [<- e]; rfl) (by rw [<- e]; lia) (fun e m=>of_decide_eq_true (List.mem_filter.mp m).2) (fun e m=>by simpa using (List.mem_filter.mp m).2)
  have b2:=B7 (C5 (P:=P05)) (A9 (B0 (st:=⟨ρ,R3 cs L sz kv sh ln hos⟩) (h.get 5 rfl)) (A9 (a0f (y:=2) (by decide) (by decide) el B9) B3)) B6 (Q6 c1s c)
  have c2:=L5 (P:=P05) b2 (B9 (i:=((0:Nat):Int))) (d7i _ _ _)
  obtain ⟨y,my,hy⟩:=h2 q2
  have d2:0 < (hos.filter fun a=>decide (a <= L.length / 2)).length:=List.length_pos_iff.mpr fun w=>by
   have:y ∈ hos.filter fun a=>decide (a <= L.length / 2):=List.mem_filter.mpr ⟨my,decide_eq_true (by lia)⟩
   rw [w] at this; cases this
  rw [decide_eq_true d2] at c2
  exact c2
end
end
section
theorem d7j:∀ is:List Int,is.length <= 63->∃ st:St,st.obj 0 0 = some (.tab 100 qn5) /\ Call P05 f05_law [.lst (is.map .int)] [] { ρ:=[],R:=[tb5] } (.imm (.bool true)) st:=fun is hl=>by
 have k0:Hv 23 (some (V.lst (is.map .int)) :: List.replicate 22 none) [(0,.lst (is.map .int))]:=⟨rfl,fun p m=>by rw [List.mem_singleton.mp m]; rfl⟩
 have x0:=s0 k0 hl
 have k1:=k0.nil.put (i:=1) (.ref 1 0) rfl (by decide)
 have hcl:=b0m is
 generalize a0d is cells5 = cs at *
 generalize (some (V.lst (is.map .int)) :: List.replicate 22 none).set 1 (some (.ref 1 0)) = ρ1 at k1 x0
 have x1:=s1 k1 hcl
 have hD:=c8i cs
 have hd:=d7a cs
 have hf:=d7b cs
 generalize dr5 cs = D at *
 generalize fl5 cs = f at *
 have k2:=k1.nil.put (i:=2) (.lst (nv (D ++ [f]))) rfl (by decide)
 generalize ρ1.set 2 (some (.lst (nv (D ++ [f])))) = ρ2 at k2 x1
 have x2:=s2 (R:=R1 cs) k2 hD
 have k3:=k2.put (i:=3) (.lst (nv (wr5 D f))) rfl (by decide)
 generalize ρ2.set 3 (some (.lst (nv (wr5 D f)))) = ρ3 at k3 x2
 have x3:=s3 (R:=R1 cs) (k3.pick [0]) (d7d hd hf hD) (by show 4 <= 1000; decide) (by show 2 < 80; decide)
 have k4:=k3.put (i:=4) (.lst (nv (wr5 D f))) rfl (by decide)
 generalize ρ3.set 4 (some (.lst (nv (wr5 D f)))) = ρ4 at k4 x3
 have x4:=s4 (R:=R1 cs) (k4.pick [0,1])
 have x5:=s5 (R:=R1 cs) (k4.pick [0]) hd hD
 have k5:=(k4.pick [0,2]).put (i:=5) (.lst (nv D)) rfl (by decide)
 generalize ρ4.set 5 (some (.lst (nv D))) = ρ5 at k5 x5
 have x6:=s6 (cs:=cs) k5.nil
 have k6:=(k5.put (i:=6) (.ref 1 1) rfl (by decide)).put (i:=7) (.lst (nv [0])) rfl (by decide)
 generalize (ρ5.set 6 (some (.ref 1 1))).set 7 (some (.lst (nv [0]))) = ρ6 at k6 x6
 obtain ⟨L,ρ7,k7,hu,hm,h32,x7⟩:=s7 (cs:=cs) (K:=[(5,.lst (nv D)),(4,.lst (nv (wr5 D f))),(2,.lst (nv (D ++ [f])))]) (fun i m=>by
  simp only [List.mem_cons,List.not_mem_nil,or_false] at m
  rcases m with rfl | rfl | rfl | rfl <;> rfl) (.head _) hD k6
 have x8:=s8 (cs:=cs) k7 hu hm (by rw [b8x,hD]; decide)
 obtain ⟨ρ9,k9,x9⟩:=s9 (cs:=cs) (L:=L) (k7.pick [1,2,3,4])
 have hL:∀ u ∈ L,u < 4096:=fun u m=>d2r hd u ((hm u).mp m)
 obtain ⟨ρ10,sh,k10,hsh,x10⟩:=s10 (cs:=cs) k9 hL h32 hf hD
 have hsl:(L.map (pc 12)).length = L.length:=List.length_map _
 have hsh':RowN true (L.map (pc 12)) (L.map (pc 12)).length sh:=by rw [hsl]; exact hsh
 have x11:=s11 (cs:=cs) (L:=L) (kv:=G5 (evs L)) (ln:=[]) (ho:=[]) (k10.pick [1,3]) hsh' (by rw [hsl]; exact h32)
 have x12:=s12 (cs:=cs) (L:=L) (sz:=L.map (pc 12)) (kv:=G5 (evs L)) (ln:=[]) (ho:=[]) (k10.pick [3]) (by rw [hsh.len]; exact h32) rfl
 have k12:=(k10.put (i:=20) (.lst (brd sh)) rfl (by decide)).put (i:=21) (.int (33 + sh.length:Nat)) rfl (by decide)
 generalize (ρ10.set 20 (some (.lst (brd sh)))).set 21 (some (.int (33 + sh.length:Nat))) = ρ12 at k12 x12
 have x13:=s13 (cs:=cs) (L:=L) (kv:=G5 (evs L)) (ln:=[]) (ho:=[]) (k12.pick [1,0,3]) hsh' (by rw [hsl]; exact h32) fun x m=>by
  obtain ⟨u,_,rfl⟩:=List.mem_map.mp m
  exact M3 12 u
 have hde:=b6i (L:=L)
 obtain ⟨ρ14,ln,k14,hln,x14⟩:=s14 (cs:=cs) (L:=L) (sz:=L.map (pc 12)) (sh:=sh) k12.tl.tl hde
 have x15:=s15 (cs:=cs) (L:=L) (sz:=L.map (pc 12)) (sh:=sh) (hos:=[]) (k14.pick [2,4]) hln hde
 obtain ⟨ρ16,hos,k16,hh1,hh2,hh3,x16⟩:=s16 (cs:=cs) (sz:=L.map (pc 12)) (sh:=sh) (kv:=G5 (evs L)) (ln:=ln) k14 (by lia) h32
 have hcnt:∀ x ∈ cnt (evs L),x <= L.length:=fun x m=>by
  obtain ⟨t,mt,rfl⟩:=List.mem_map.mp m
  obtain ⟨u,_,h12,_⟩:=evs_mem.mp (((T2 (evs L)).2 t).mp mt)
  show (evs L).count t <= _
  rw [a1w h12]
  exact List.countP_le_length
 have x17:=s17 (cs:=cs) (L:=L) (sz:=L.map (pc 12)) (sh:=sh) (kv:=G5 (evs L)) (ev:=evs L) (hos:=hos) k16 hln hde h32 hcnt
 have k17:=k16.put (i:=22) (.int ((evs L).length:Nat)) rfl (by decide)
 generalize ρ16.set 22 (some (.int ((evs L).length:Nat))) = ρ17 at k17 x17
 have RL:Row D L:=d2o hD hu hm
 have h1:1 <= L.length:=List.length_pos_iff.mpr fun w=>by have:=RL.zero; rw [w] at this; cases this
 have x18:=s18 (cs:=cs) (L:=L) (sz:=L.map (pc 12)) (sh:=sh) (kv:=G5 (evs L)) (ln:=ln) (hos:=hos) k17 h32 (by
  rw [b8u]
  exact d1x RL.nd RL.or hL h1 h32)
 have x19:=s19 (cs:=cs) (L:=L) (sz:=L.map (pc 12)) (sh:=sh) (kv:=G5 (evs L)) (ev:=evs L) k17.tl hln hde h32 hh1 hh2 (fun h2=>by
  obtain ⟨y,hy⟩:=d9n RL h2
  have hp:0 < ths L y:=by lia
  obtain ⟨u,mu,bu⟩:=List.countP_pos_iff.mp hp
  have h12:=d4t (hL u mu) bu
  exact ⟨y,evs_mem.mpr ⟨u,mu,h12,bu⟩,by rw [a1w h12]; exact hy⟩) (fun h2=>by
  obtain ⟨i,hi,hne,hc⟩:=other RL h2
  refine ⟨_,hh3 i (by lia) hne,?_⟩
  rw [d2y]; exact hc) h1
 refine ⟨⟨[],[tb5]⟩,rfl,H7 (ρ2:=ρ17) (reg:=[.list (cs.map .int),.list (nv L),.list (nv (L.map (pc 12))),.dct (G5 (evs L)),.list (sh.map toT),.list (ln.map toT),.list (nv hos)]) (R2:=[tb5]) (v:=.imm (.bool true)) (by show 1 < 100; decide) rfl ?_ rfl⟩
 show Mine.X P05 b8f ⟨some (V.lst (is.map .int)) :: List.replicate 22 none,[tb5,[]]⟩ _ _
 exact C0 x0 (C0 x1 (C0 x2 (C0 x3 (C0 x4 (C0 x5 (C0 x6 (C0 x7 (C0 x8 (C0 x9 (C0 x10 (C0 x11 (C0 x12 (C0 x13 (C0 x14 (C0 x15 (C0 x16 (C0 x17 (C0 x18 (G3 x19)))))))))))))))))))
end
end Mine
end
open PySem PySem.W PyProof.Rows
set_option Elab.async false
set_option autoImplicit true
open Mine


namespace Mine
theorem hplain0 (h : ∀ (nm qn : Str) kd dfl (body : FuncBody) (sc : Scope) (gl : Addr) cl kw doc pm an code ct (bi : Addr),
  bindArgs ⟨nm, qn, ⟨[], [], none, [], kd, none, dfl⟩, body, sc, gl, cl, .none, kw, doc, pm, an, code, ct, bi⟩ ⟨[], []⟩ = pure []) : Z1 [] := fun nm qn as kd dfl body sc gl cl kw doc pm an code ct bi items ha hi => by
 cases a9l ha
 obtain rfl := List.length_eq_zero_iff.mp hi
 exact h ..
noncomputable def PN05 : List (List Str) := [["flags"], ["iterator"], ["num"], ["script", "cells"], ["numbers"], [], ["pair"], ["script"]]
theorem PN05_ok : ∀ l ∈ PN05, Z1 l := by
 refine List.forall_mem_cons.mpr ⟨U9 fun u_ u_ u_ u_ u_ u_ u_ u_ u_ u_ u_ u_ u_ u_ u_ u_ u_ u_ => rfl, ?_⟩
 refine List.forall_mem_cons.mpr ⟨U9 fun u_ u_ u_ u_ u_ u_ u_ u_ u_ u_ u_ u_ u_ u_ u_ u_ u_ u_ => rfl, ?_⟩
 refine List.forall_mem_cons.mpr ⟨U9 fun u_ u_ u_ u_ u_ u_ u_ u_ u_ u_ u_ u_ u_ u_ u_ u_ u_ u_ => rfl, ?_⟩
 refine List.forall_mem_cons.mpr ⟨c5c fun u_ u_ u_ u_ u_ u_ u_ u_ u_ u_ u_ u_ u_ u_ u_ u_ u_ u_ u_ u_ u_ => rfl, ?_⟩
 refine List.forall_mem_cons.mpr ⟨U9 fun u_ u_ u_ u_ u_ u_ u_ u_ u_ u_ u_ u_ u_ u_ u_ u_ u_ u_ => rfl, ?_⟩
 refine List.forall_mem_cons.mpr ⟨hplain0 fun u_ u_ u_ u_ u_ u_ u_ u_ u_ u_ u_ u_ u_ u_ u_ => rfl, ?_⟩
 refine List.forall_mem_cons.mpr ⟨U9 fun u_ u_ u_ u_ u_ u_ u_ u_ u_ u_ u_ u_ u_ u_ u_ u_ u_ u_ => rfl, ?_⟩
 refine List.forall_mem_cons.mpr ⟨U9 fun u_ u_ u_ u_ u_ u_ u_ u_ u_ u_ u_ u_ u_ u_ u_ u_ u_ u_ => rfl, ?_⟩
 exact fun u_ h => nomatch h
theorem Bt05_ok : ∀ p ∈ d7u, p.1 ≠ "__name__" /\ bootBuiltins p.1 = some p.2 := by
 refine List.forall_mem_cons.mpr ⟨⟨by decide +kernel, PyProof.Rows.Boot.«len»⟩, ?_⟩
 refine List.forall_mem_cons.mpr ⟨⟨by decide +kernel, PyProof.Rows.Boot.«abs»⟩, ?_⟩
 refine List.forall_mem_cons.mpr ⟨⟨by decide +kernel, PyProof.Rows.Boot.«divmod»⟩, ?_⟩
 refine List.forall_mem_cons.mpr ⟨⟨by decide +kernel, PyProof.Rows.Boot.«hex»⟩, ?_⟩
 refine List.forall_mem_cons.mpr ⟨⟨by decide +kernel, PyProof.Rows.Boot.«iter»⟩, ?_⟩
 refine List.forall_mem_cons.mpr ⟨⟨by decide +kernel, PyProof.Rows.Boot.«next»⟩, ?_⟩
 refine List.forall_mem_cons.mpr ⟨⟨by decide +kernel, PyProof.Rows.Boot.«sum»⟩, ?_⟩
 refine List.forall_mem_cons.mpr ⟨⟨by decide +kernel, PyProof.Rows.Boot.«min»⟩, ?_⟩
 refine List.forall_mem_cons.mpr ⟨⟨by decide +kernel, PyProof.Rows.Boot.«sorted»⟩, ?_⟩
 refine List.forall_mem_cons.mpr ⟨⟨by decide +kernel, PyProof.Rows.Boot.«bytes»⟩, ?_⟩
 refine List.forall_mem_cons.mpr ⟨⟨by decide +kernel, PyProof.Rows.Boot.«set»⟩, ?_⟩
 refine List.forall_mem_cons.mpr ⟨⟨by decide +kernel, PyProof.Rows.Boot.«int»⟩, ?_⟩
 refine List.forall_mem_cons.mpr ⟨⟨by decide +kernel, PyProof.Rows.Boot.«range»⟩, ?_⟩
 refine List.forall_mem_cons.mpr ⟨⟨by decide +kernel, PyProof.Rows.Boot.«enumerate»⟩, ?_⟩
 refine List.forall_mem_cons.mpr ⟨⟨by decide +kernel, PyProof.Rows.Boot.«StopIteration»⟩, ?_⟩
 refine List.forall_mem_cons.mpr ⟨⟨by decide +kernel, PyProof.Rows.Boot.«ValueError»⟩, ?_⟩
 exact fun u_ h => nomatch h
noncomputable def pr05 : Program := PySem.Challenge.rw_wb0042_05.prog
noncomputable def vw05 : Program := { pr05 with main := { pr05.main with body := pr05.main.body.drop 16 } }
noncomputable def lo05 : List Str := (G05.map (·.1)).take 12
noncomputable def dr05 : DefRec := ((recsOf vw05).find? (fun e => e.name == ("law" : Str))).getD ⟨"", ⟨[], [], none, [], [], none, []⟩, [], ⟨.function, [], false, false, []⟩, ⟨0, 0, 0, 0⟩⟩
noncomputable def hk05 : Hook := d0u (c5q P05 H05 G05 d7u PN05 100 98)
set_option maxRecDepth 100000 in
set_option maxHeartbeats 8000000 in
theorem said05 : OpenLaw.wellSaid PySem.Challenge.rw_wb0042_05 = true := by decide +kernel
set_option maxRecDepth 100000 in
set_option maxHeartbeats 8000000 in
theorem left05 : LeftO PySem.Challenge.rw_wb0042_05.row.prog vw05 lo05 (fun s => xlAt vw05 [] s && recOk (RowW.records PySem.Challenge.rw_wb0042_05.row.toRowW) s) hk05.obs hk05.val 1500 :=
 LeftO.of_split "special-get-raises" (fun w => by kernel_rfl)
end Mine
set_option maxRecDepth 100000 in
set_option maxHeartbeats 8000000 in
theorem PySem.Challenge.cw_wb0042_05_holds : PySem.Challenge.rw_wb0042_05.Holds := by
 refine holds_law said05 fun said => ?_
 refine holds_open (q := vw05) (loose := lo05) (d := dr05) (kwd := []) (XP := XL vw05 []) (YP := hk05.says) left05 hk05.of hk05.keeps (fun s e => xl_of s (Bool.and_eq_true_iff.mp e).1) XL.keeps (by kernel_rfl) (by kernel_rfl) (by kernel_rfl) (fun s e => recFacts_of (Bool.and_eq_true_iff.mp e).2) rfl said (by decide +kernel) ⟨rfl, rfl, rfl, rfl, rfl, by decide +kernel⟩ ?hw ?hc
 case hw => w_witness2
 intro w s₀ s₁ mg mb G Y fa o pm cd doc dV kV ho hd hcd hD hmg hg args vals as hpre hlay hrd hwl hlo
 obtain ⟨h0, e, k⟩ := Y
 obtain ⟨e, et⟩ := B1 e
 have tb := c5r et k
 have k := c0m (c := 100) (t := 98) k
 have T := ghost_top tb G.T
 have e' := Bool.and_eq_true_iff.mp (Bool.and_eq_true_iff.mp e).1
 have hl := (d3v k e'.1 T.g).1 ("law", f05_law.addr) (List.mem_iff_getElem.mpr ⟨12, by decide, rfl⟩)
 rw [show dr05.name = ("law" : Str) by kernel_rfl, hl] at hmg
 cases hmg
 have wl := d6g (P := P05) (B := ⟨PySem.Challenge.rw_wb0042_05.row.prog, w, P05, [], ghostOf s₁.heap [(100, 98)], mg, mb, T.g, T.b, T.nolimit⟩) rfl k e T.builtins (T.bmain.elim fun bm h => h.elim fun ob h => ⟨bm, ob, h.1, h.2.2.1, h.2.1, h.2.2.2⟩) Bt05_ok PN05_ok (fpv := I5) (List.mem_iff_getElem.mpr ⟨5, by decide, rfl⟩) rfl fun u_ => rfl
 obtain ⟨o', fd, body, params, fo⟩ := wl.pg f05_law (List.mem_iff_getElem.mpr ⟨11, by decide, rfl⟩)
 exact c0k rfl rfl rfl (fun b o e => of_hideAll _ e) (fun b o h e => hideAll_get _ e fun m => h (List.mem_singleton.mp m)) (hideAll_none _ (.head _)) (tb _ (.head _)).2 (tb _ (.head _)).1 rfl wl fo d7j hpre hwl hg

