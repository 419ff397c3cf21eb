import PyProof.Rows.All
import Wide.All
import OpenK.AllK
import Wide.FinOn
import KE.KSortTup
import Lean
import PySem.Challenge.RW_wb0042_01
set_option Elab.async false
set_option linter.all false
set_option bootstrap.genMatcherCode false
set_option compiler.extract_closed false
set_option genSizeOf false
set_option genInjectivity false
section
open Lean in
local macro_rules (kind := Lean.Parser.Command.declaration)
 | stx=>if stx.getPos?.isNone then Macro.throwUnsupported else return stx.rewriteBottomUp fun s=>s.setInfo .none
namespace Mine
universe u0 u1 u2 u3 u4 u5 u6
theorem ex0_2  {p0 p1:Prop} {G:Prop} (h:p0 /\ p1) (k:p0->p1->G):G:=k h.1 h.2
theorem ex0_3  {p0 p1 p2:Prop} {G:Prop} (h:p0 /\ p1 /\ p2) (k:p0->p1->p2->G):G:=k h.1 h.2.1 h.2.2
theorem ex0_4  {p0 p1 p2 p3:Prop} {G:Prop} (h:p0 /\ p1 /\ p2 /\ p3) (k:p0->p1->p2->p3->G):G:=k h.1 h.2.1 h.2.2.1 h.2.2.2
theorem ex0_6  {p0 p1 p2 p3 p4 p5:Prop} {G:Prop} (h:p0 /\ p1 /\ p2 /\ p3 /\ p4 /\ p5) (k:p0->p1->p2->p3->p4->p5->G):G:=k h.1 h.2.1 h.2.2.1 h.2.2.2.1 h.2.2.2.2.1 h.2.2.2.2.2
theorem ex1_1 {α:Sort u0} {p0:α->Prop} {G:Prop} (h:∃ x0,p0 x0) (k:∀ x0,p0 x0->G):G:=h.elim fun x0 q=>k x0 q
theorem ex1_2 {α:Sort u0} {p0 p1:α->Prop} {G:Prop} (h:∃ x0,p0 x0 /\ p1 x0) (k:∀ x0,p0 x0->p1 x0->G):G:=h.elim fun x0 q=>k x0 q.1 q.2
theorem ex1_3 {α:Sort u0} {p0 p1 p2:α->Prop} {G:Prop} (h:∃ x0,p0 x0 /\ p1 x0 /\ p2 x0) (k:∀ x0,p0 x0->p1 x0->p2 x0->G):G:=h.elim fun x0 q=>k x0 q.1 q.2.1 q.2.2
theorem ex1_4 {α:Sort u0} {p0 p1 p2 p3:α->Prop} {G:Prop} (h:∃ x0,p0 x0 /\ p1 x0 /\ p2 x0 /\ p3 x0) (k:∀ x0,p0 x0->p1 x0->p2 x0->p3 x0->G):G:=h.elim fun x0 q=>k x0 q.1 q.2.1 q.2.2.1 q.2.2.2
theorem ex1_5 {α:Sort u0} {p0 p1 p2 p3 p4:α->Prop} {G:Prop} (h:∃ x0,p0 x0 /\ p1 x0 /\ p2 x0 /\ p3 x0 /\ p4 x0) (k:∀ x0,p0 x0->p1 x0->p2 x0->p3 x0->p4 x0->G):G:=h.elim fun x0 q=>k x0 q.1 q.2.1 q.2.2.1 q.2.2.2.1 q.2.2.2.2
theorem ex2_1 {α:Sort u0} {β:Sort u1} {p0:α->β->Prop} {G:Prop} (h:∃ x0 x1,p0 x0 x1) (k:∀ x0 x1,p0 x0 x1->G):G:=h.elim fun x0 e1=>e1.elim fun x1 q=>k x0 x1 q
theorem ex2_2 {α:Sort u0} {β:Sort u1} {p0 p1:α->β->Prop} {G:Prop} (h:∃ x0 x1,p0 x0 x1 /\ p1 x0 x1) (k:∀ x0 x1,p0 x0 x1->p1 x0 x1->G):G:=h.elim fun x0 e1=>e1.elim fun x1 q=>k x0 x1 q.1 q.2
theorem ex2_3 {α:Sort u0} {β:Sort u1} {p0 p1 p2:α->β->Prop} {G:Prop} (h:∃ x0 x1,p0 x0 x1 /\ p1 x0 x1 /\ p2 x0 x1) (k:∀ x0 x1,p0 x0 x1->p1 x0 x1->p2 x0 x1->G):G:=h.elim fun x0 e1=>e1.elim fun x1 q=>k x0 x1 q.1 q.2.1 q.2.2
theorem ex2_4 {α:Sort u0} {β:Sort u1} {p0 p1 p2 p3:α->β->Prop} {G:Prop} (h:∃ x0 x1,p0 x0 x1 /\ p1 x0 x1 /\ p2 x0 x1 /\ p3 x0 x1) (k:∀ x0 x1,p0 x0 x1->p1 x0 x1->p2 x0 x1->p3 x0 x1->G):G:=h.elim fun x0 e1=>e1.elim fun x1 q=>k x0 x1 q.1 q.2.1 q.2.2.1 q.2.2.2
theorem ex2_5 {α:Sort u0} {β:Sort u1} {p0 p1 p2 p3 p4:α->β->Prop} {G:Prop} (h:∃ x0 x1,p0 x0 x1 /\ p1 x0 x1 /\ p2 x0 x1 /\ p3 x0 x1 /\ p4 x0 x1) (k:∀ x0 x1,p0 x0 x1->p1 x0 x1->p2 x0 x1->p3 x0 x1->p4 x0 x1->G):G:=h.elim fun x0 e1=>e1.elim fun x1 q=>k x0 x1 q.1 q.2.1 q.2.2.1 q.2.2.2.1 q.2.2.2.2
theorem ex3_1 {α:Sort u0} {β:Sort u1} {γ:Sort u2} {p0:α->β->γ->Prop} {G:Prop} (h:∃ x0 x1 x2,p0 x0 x1 x2) (k:∀ x0 x1 x2,p0 x0 x1 x2->G):G:=h.elim fun x0 e1=>e1.elim fun x1 e2=>e2.elim fun x2 q=>k x0 x1 x2 q
theorem ex3_2 {α:Sort u0} {β:Sort u1} {γ:Sort u2} {p0 p1:α->β->γ->Prop} {G:Prop} (h:∃ x0 x1 x2,p0 x0 x1 x2 /\ p1 x0 x1 x2) (k:∀ x0 x1 x2,p0 x0 x1 x2->p1 x0 x1 x2->G):G:=h.elim fun x0 e1=>e1.elim fun x1 e2=>e2.elim fun x2 q=>k x0 x1 x2 q.1 q.2
theorem ex3_3 {α:Sort u0} {β:Sort u1} {γ:Sort u2} {p0 p1 p2:α->β->γ->Prop} {G:Prop} (h:∃ x0 x1 x2,p0 x0 x1 x2 /\ p1 x0 x1 x2 /\ p2 x0 x1 x2) (k:∀ x0 x1 x2,p0 x0 x1 x2->p1 x0 x1 x2->p2 x0 x1 x2->G):G:=h.elim fun x0 e1=>e1.elim fun x1 e2=>e2.elim fun x2 q=>k x0 x1 x2 q.1 q.2.1 q.2.2
theorem ex3_4 {α:Sort u0} {β:Sort u1} {γ:Sort u2} {p0 p1 p2 p3:α->β->γ->Prop} {G:Prop} (h:∃ x0 x1 x2,p0 x0 x1 x2 /\ p1 x0 x1 x2 /\ p2 x0 x1 x2 /\ p3 x0 x1 x2) (k:∀ x0 x1 x2,p0 x0 x1 x2->p1 x0 x1 x2->p2 x0 x1 x2->p3 x0 x1 x2->G):G:=h.elim fun x0 e1=>e1.elim fun x1 e2=>e2.elim fun x2 q=>k x0 x1 x2 q.1 q.2.1 q.2.2.1 q.2.2.2
theorem ex3_5 {α:Sort u0} {β:Sort u1} {γ:Sort u2} {p0 p1 p2 p3 p4:α->β->γ->Prop} {G:Prop} (h:∃ x0 x1 x2,p0 x0 x1 x2 /\ p1 x0 x1 x2 /\ p2 x0 x1 x2 /\ p3 x0 x1 x2 /\ p4 x0 x1 x2) (k:∀ x0 x1 x2,p0 x0 x1 x2->p1 x0 x1 x2->p2 x0 x1 x2->p3 x0 x1 x2->p4 x0 x1 x2->G):G:=h.elim fun x0 e1=>e1.elim fun x1 e2=>e2.elim fun x2 q=>k x0 x1 x2 q.1 q.2.1 q.2.2.1 q.2.2.2.1 q.2.2.2.2
theorem ex4_1 {α:Sort u0} {β:Sort u1} {γ:Sort u2} {δ:Sort u3} {p0:α->β->γ->δ->Prop} {G:Prop} (h:∃ x0 x1 x2 x3,p0 x0 x1 x2 x3) (k:∀ x0 x1 x2 x3,p0 x0 x1 x2 x3->G):G:=h.elim fun x0 e1=>e1.elim fun x1 e2=>e2.elim fun x2 e3=>e3.elim fun x3 q=>k x0 x1 x2 x3 q
theorem ex4_2 {α:Sort u0} {β:Sort u1} {γ:Sort u2} {δ:Sort u3} {p0 p1:α->β->γ->δ->Prop} {G:Prop} (h:∃ x0 x1 x2 x3,p0 x0 x1 x2 x3 /\ p1 x0 x1 x2 x3) (k:∀ x0 x1 x2 x3,p0 x0 x1 x2 x3->p1 x0 x1 x2 x3->G):G:=h.elim fun x0 e1=>e1.elim fun x1 e2=>e2.elim fun x2 e3=>e3.elim fun x3 q=>k x0 x1 x2 x3 q.1 q.2
theorem ex4_3 {α:Sort u0} {β:Sort u1} {γ:Sort u2} {δ:Sort u3} {p0 p1 p2:α->β->γ->δ->Prop} {G:Prop} (h:∃ x0 x1 x2 x3,p0 x0 x1 x2 x3 /\ p1 x0 x1 x2 x3 /\ p2 x0 x1 x2 x3) (k:∀ x0 x1 x2 x3,p0 x0 x1 x2 x3->p1 x0 x1 x2 x3->p2 x0 x1 x2 x3->G):G:=h.elim fun x0 e1=>e1.elim fun x1 e2=>e2.elim fun x2 e3=>e3.elim fun x3 q=>k x0 x1 x2 x3 q.1 q.2.1 q.2.2
theorem ex4_4 {α:Sort u0} {β:Sort u1} {γ:Sort u2} {δ:Sort u3} {p0 p1 p2 p3:α->β->γ->δ->Prop} {G:Prop} (h:∃ x0 x1 x2 x3,p0 x0 x1 x2 x3 /\ p1 x0 x1 x2 x3 /\ p2 x0 x1 x2 x3 /\ p3 x0 x1 x2 x3) (k:∀ x0 x1 x2 x3,p0 x0 x1 x2 x3->p1 x0 x1 x2 x3->p2 x0 x1 x2 x3->p3 x0 x1 x2 x3->G):G:=h.elim fun x0 e1=>e1.elim fun x1 e2=>e2.elim fun x2 e3=>e3.elim fun x3 q=>k x0 x1 x2 x3 q.1 q.2.1 q.2.2.1 q.2.2.2
theorem ex4_5 {α:Sort u0} {β:Sort u1} {γ:Sort u2} {δ:Sort u3} {p0 p1 p2 p3 p4:α->β->γ->δ->Prop} {G:Prop} (h:∃ x0 x1 x2 x3,p0 x0 x1 x2 x3 /\ p1 x0 x1 x2 x3 /\ p2 x0 x1 x2 x3 /\ p3 x0 x1 x2 x3 /\ p4 x0 x1 x2 x3) (k:∀ x0 x1 x2 x3,p0 x0 x1 x2 x3->p1 x0 x1 x2 x3->p2 x0 x1 x2 x3->p3 x0 x1 x2 x3->p4 x0 x1 x2 x3->G):G:=h.elim fun x0 e1=>e1.elim fun x1 e2=>e2.elim fun x2 e3=>e3.elim fun x3 q=>k x0 x1 x2 x3 q.1 q.2.1 q.2.2.1 q.2.2.2.1 q.2.2.2.2
end Mine
namespace Mine
@[elab_as_elim] theorem rwl {α:Sort u} {a b:α} {p:α->Prop} (h:a = b) (x:p b):p a:=h ▸ x
@[elab_as_elim] theorem rwr {α:Sort u} {a b:α} {p:α->Prop} (h:a = b) (x:p a):p b:=h ▸ x
theorem cs_none {α:Type u} {x:α} {G:Prop} (h:none = some x):G:=nomatch h
theorem cs_some {α:Type u} {x:α} {G:Prop} (h:some x = none):G:=nomatch h
theorem cs_ft {G:Prop} (h:false = true):G:=nomatch h
theorem cs_tf {G:Prop} (h:true = false):G:=nomatch h
theorem cs_nil {α:Type u} {x:α} {l:List α} {G:Prop} (h : [] = x :: l):G:=nomatch h
theorem cs_cons {α:Type u} {x:α} {l:List α} {G:Prop} (h:x :: l = []):G:=nomatch h
theorem cs_pair {α:Type u} {β:Type v} {a c:α} {b d:β} {G:Prop} (h:some (a,b) = some (c,d)) (k:a = c->b = d->G):G:=k (congrArg Prod.fst (Option.some.inj h)) (congrArg Prod.snd (Option.some.inj h))
theorem cs_list {α:Type u} {a b:α} {l m:List α} {G:Prop} (h:a :: l = b :: m) (k:a = b->l = m->G):G:=k (List.cons.inj h).1 (List.cons.inj h).2
theorem cs_prod {α:Type u} {β:Type v} {a c:α} {b d:β} {G:Prop} (h:(a,b) = (c,d)) (k:a = c->b = d->G):G:=k (congrArg Prod.fst h) (congrArg Prod.snd h)
theorem cs_triv {α:Sort u} {a:α} {G:Prop} (h:a = a) (k:G):G:=k
end Mine
open Lean in
local macro_rules
 | `(tactic| obtain ⟨$ps,*⟩ := $e:term) => do
  let mut x0:Option (Array (TSyntax `ident)):=none
  let mut xs:Array (TSyntax `ident):=#[]
  let mut ts:Array (TSyntax `tactic):=#[]
  let n:=ps.getElems.size
  for p in ps.getElems do
   let q:=p.raw[0][0]
   if p.raw[1].getNumArgs != 0 || q.getNumArgs != 1 then Macro.throwUnsupported
   if q[0].getNumArgs == 1 && !(q[0][0].isIdent && q[0][0].getId == `rfl) then xs:=xs.push (if q[0][0].isIdent then ⟨q[0][0]⟩ else mkIdent `u_)
   else
    let x:=mkIdent (<- Macro.addMacroScope (.mkSimple s!"z{ts.size}"))
    xs:=xs.push x
    if x0.isNone then x0:=some xs else
     let ys:=xs
     ts := ts.push (<- `(tactic| intro $ys:ident*))
    xs:=#[]
    if q[0].getNumArgs == 1 then ts := ts.push (<- `(tactic| first | subst $x | cases $x:ident))
    else if q[0].getKind == ``Lean.Parser.Tactic.rcasesPat.tuple then ts := ts.push (<- `(tactic| obtain $(⟨p.raw[0]⟩):rcasesPatMed := $x))
    else Macro.throwUnsupported
  if n < 2 || 9 < n then Macro.throwUnsupported
  let ys:=x0.getD xs
  if x0.isSome && 0 < xs.size then ts := ts.push (<- `(tactic| intro $xs:ident*))
  let us <- ((List.range n).filter fun i=>n - 1 - i <= 6 && i + 1 <= 7).toArray.mapM fun i=>
   let f:=mkIdent (.mkStr `Mine ("ex" ++ toString (n - 1 - i) ++ "_" ++ toString (i + 1)))
   if e.raw.isIdent then `(tacticSeq| refine $f $e (clear% $(⟨e.raw⟩); fun $ys* => ?_)) else `(tacticSeq| refine $f $e fun $ys* => ?_)
  `(tactic| ((first $[| $us]* | fail); $[$ts];*))
 | `(tactic| rw [$rs,*]) => do
  let ts <- rs.getElems.mapM fun r=>do
   let e:Term:=⟨r.raw[1]⟩
   let f:=mkIdent (if r.raw[0].getNumArgs == 0 then `Mine.rwl else `Mine.rwr)
   `(tactic| first | (with_reducible_and_instances first | refine $f $e ?_ | refine $f ($e ..) ?_) | rewrite [$r])
  `(tactic| (($[$ts];*); try with_reducible rfl))
 | `(tactic| cases $x:ident with $alts:inductionAlt*) => do
  let ts <- #[`List.casesOn, `Option.casesOn, `Nat.casesOn, `Bool.casesOn, `Mine.V.casesOn, `Mine.AObj.casesOn, `PySem.Expr.casesOn, `Mine.ME.casesOn, `PySem.Value.casesOn, `Mine.LE.casesOn, `Mine.MPat.casesOn, `PySem.Data.casesOn, `PySem.UnaryOp.casesOn].mapM fun n => `(tacticSeq| induction $x:ident using $(mkIdent n):ident with $alts:inductionAlt*)
  `(tactic| first $[| $ts]* | fail)
 | `(tactic| cases $h:ident : $e:term with $alts:inductionAlt*) => do
  let z:=mkIdent (<- Macro.addMacroScope `z)
  let ts <- #[`List.casesOn, `Option.casesOn, `Nat.casesOn, `Bool.casesOn, `Mine.V.casesOn].mapM fun n => `(tacticSeq| (generalize $h:ident : $e = $z; induction $z:ident using $(mkIdent n):ident with $alts:inductionAlt*))
  `(tactic| first $[| $ts]* | fail)
 | `(tactic| cases $h:ident) => do
  let p:=mkIdent (h.getId.appendAfter "p")
  let q:=mkIdent (h.getId.appendAfter "q")
  let t1 <- #[`Mine.cs_none, `Mine.cs_some, `Mine.cs_ft, `Mine.cs_tf, `Mine.cs_nil, `Mine.cs_cons].mapM fun n => `(tacticSeq| exact $(mkIdent n) $h)
  let t2 <- #[`Mine.cs_pair, `Mine.cs_list, `Mine.cs_prod].mapM fun n => `(tacticSeq| (refine $(mkIdent n) $h fun $p $q => ?_; clear $h; cases $p:ident; cases $q:ident))
  let t3 <- `(tacticSeq| first | (have $q := Option.some.inj $h; clear $h; cases $q:ident) | subst $h | (refine Mine.cs_triv $h ?_; clear $h) | (injection $h; done) | (injection $h with $p $q; cases $p:ident; cases $q:ident) | (injection $h with $q; cases $q:ident))
  let ts:=(t1 ++ t2).push t3
  `(tactic| first $[| $ts]* | fail)
open PySem PySem.W PyProof.Rows
set_option Elab.async false
set_option autoImplicit true
namespace Mine
section
set_option maxRecDepth 100000
noncomputable def PairAt (h:Heap) (v:Value) (p:Int × Int):Prop:=∃ a n t u,v = .ref a /\ h.get? a = some { cls:=.type "tuple",dict:=none,data:=.seq #[.int p.1 t,.int p.2 u] n,slots:=#[] }
section
variable {prog:Program} {w:World} {A:Around} {E:Value->Shared->Prop} {s:Shared}
end
end
section
set_option backward.eqns.nonrecursive false
set_option genCtorIdx false in
inductive LE where
 | par | cap (i:Nat) | int (i:Int) | sub (a b:LE) | neg (a:LE) | index (i:Nat)
structure Lam where
 x:Str
 caps:List Str
 body:LE
set_option genCtorIdx false in
inductive V where
 | imm (v:Value) | int (i:Int) | str (s:Str) | bytes (b:List UInt8)
 | tup (vs:List V) | lst (vs:List V) | rng (a b c:Int) | ref (l i:Nat) | clo (m:Lam) (vs:List V)
noncomputable def V.ctorIdx (x:V):Nat:=V.casesOn x (fun u_=>0) (fun u_=>1) (fun u_=>2) (fun u_=>3) (fun u_=>4) (fun u_=>5) (fun u_ u_ u_=>6) (fun u_ u_=>7) (fun u_ u_=>8)
noncomputable def V.isClo:V->Bool
 | .clo _ _=>true
 | _=>false
theorem isClo_of {v:V} (h:∀ m vs,v = .clo m vs->False):v.isClo = false:=by
 cases v with
 | clo m vs=>exact (h m vs rfl).elim
 | _=>rfl
set_option genCtorIdx false in
inductive AObj where
 | list (vs:List V) | iter (vs:List V) | tab (c:Addr) (q:Str) | dead
noncomputable def AObj.ctorIdx (x:AObj):Nat:=AObj.casesOn x (fun u_=>0) (fun u_=>1) (fun u_ u_=>2) 3
structure St where
 ρ:List (Option V)
 R:List (List AObj)
set_option genCtorIdx false in
inductive It where
 | seq (vs:List V)
 | ref (l i p:Nat)
 | en (k:Nat) (it:It)
noncomputable def It.ctorIdx (x:It):Nat:=It.casesOn x (fun u_=>0) (fun u_ u_ u_=>1) (fun u_ u_=>2)
set_option genCtorIdx false in
mutual
inductive ME where
 | const (c:Const)
 | slot (i:Nat)
 | imm (v:Value)
 | bin (op:Operator) (a b:ME) (mu:Bool)
 | un (op:UnaryOp) (a:ME)
 | land (es:List ME) | lor (es:List ME)
 | cmp (a:ME) (ops:List CmpOp) (bs:List ME)
 | ite (t a b:ME)
 | call (f:ME) (args:List ME) (kw:List (Str × ME))
 | meth (o:ME) (n:Str) (args:List ME)
 | comp (mu:Bool) (base k:Nat) (cl:List Clause) (elt:ME)
 | sub (o i:ME)
 | slc (o:ME) (lo hi stp:Option ME) (mu:Bool)
 | rvs (o:ME) (mu:Bool)
 | lst (es:List ME) (mu:Bool)
 | tup (es:List ME)
 | dict0
 | lam (m:Lam) (c:Addr) (q:Str) (is:List Nat)
inductive MI where
 | val (e:ME) | enum (i:MI)
inductive MPat where
 | slot (i:Nat) | tup (ps:List MPat) | sub (o i:ME)
inductive Clause where
 | mk (p:MPat) (it:MI) (ifs:List ME)
end
noncomputable def ME.ctorIdx (x:ME):Nat:=ME.casesOn x (fun u_=>0) (fun u_=>1) (fun u_=>2) (fun u_ u_ u_ u_=>3) (fun u_ u_=>4) (fun u_=>5) (fun u_=>6) (fun u_ u_ u_=>7) (fun u_ u_ u_=>8) (fun u_ u_ u_=>9) (fun u_ u_ u_=>10) (fun u_ u_ u_ u_ u_=>11) (fun u_ u_=>12) (fun u_ u_ u_ u_ u_=>13) (fun u_ u_=>14) (fun u_ u_=>15) (fun u_=>16) 17 (fun u_ u_ u_ u_=>18)
noncomputable def MI.ctorIdx (x:MI):Nat:=MI.casesOn x (fun u_=>0) (fun u_=>1)
noncomputable def MPat.ctorIdx (x:MPat):Nat:=MPat.casesOn x (fun u_=>0) (fun u_=>1) (fun u_ u_=>2)
set_option genCtorIdx false in
inductive MS where
 | expr (e:ME) | ret (e:ME) | assign (p:MPat) (e:ME)
 | augS (i:Nat) (op:Operator) (e:ME) | augI (o i:ME) (op:Operator) (e:ME)
 | ite (t:ME) (a b:List MS) | whil (t:ME) (b o:List MS) | for_ (p:MPat) (it:MI) (b o:List MS) | brk
 | forGo (p:MPat) (it:It) (b o:List MS)
 | whilGo (t:ME) (b o:List MS)
 | readEnd (told tells:Nat)
 | fail | refuse (f row low e:Nat)
noncomputable def MS.ctorIdx (x:MS):Nat:=MS.casesOn x (fun u_=>0) (fun u_=>1) (fun u_ u_=>2) (fun u_ u_ u_=>3) (fun u_ u_ u_ u_=>4) (fun u_ u_ u_=>5) (fun u_ u_ u_=>6) (fun u_ u_ u_ u_=>7) 8 (fun u_ u_ u_ u_=>9) (fun u_ u_ u_=>10) (fun u_ u_=>11) 12 (fun u_ u_ u_ u_=>13)
set_option genCtorIdx false in
inductive Fl where | next | brk | ret (v:V)
noncomputable def Fl.ctorIdx (x:Fl):Nat:=Fl.casesOn x 0 1 (fun u_=>2)
structure Fn where
 addr:Addr
 np:Nat
 dfl:List V
 key:Bool
 ns:Nat
 body:List MS
structure Pg where
 fns:List Fn
 gds:List (Addr × List (Int × Str))
noncomputable def St.obj (st:St) (l i:Nat):Option AObj:=match st.R[l]? with | some r=>r[i]? | none=>none
noncomputable def St.setObj (st:St) (l i:Nat) (o:AObj):St:={ st with R:=st.R.modify l (·.set i o) }
noncomputable def St.alloc (st:St) (o:AObj):Option (V × St):=match st.R.getLast? with
 | some r=>some (.ref (st.R.length - 1) r.length,{ st with R:=st.R.dropLast ++ [r ++ [o]] })
 | none=>none
noncomputable def lim:Nat:=1000000
noncomputable def mkL (mu:Bool) (vs:List V) (st:St):Option (V × St):=
 if vs.length <= lim then (if mu then st.alloc (.list vs) else some (.lst vs,st)) else none
noncomputable def small (b:Nat) (a:Int):Bool:=decide (a.natAbs < 2 ^ b)
noncomputable def binI (op:Operator) (a b:Int):Option Int:=match op with
 | .Add=>some (a + b)
 | .Sub=>some (a - b)
 | .Mult=>if small 64 a then some (a * b) else none
 | .FloorDiv=>if decide (b ≠ 0) && small 30 b then some (a.fdiv b) else none
 | .Mod=>if b = 0 then none else some (a.fmod b)
 | .Pow=>if decide (0 <= b) && decide (b <= 4096) && small 16 a then some (a ^ b.toNat) else none
 | .LShift=>if decide (0 <= b) && decide (b <= 1000000) && small 64 a then some (a * 2 ^ b.toNat) else none
 | .RShift=>if decide (0 <= b) then some (a.fdiv (2 ^ b.toNat)) else none
 | .BitAnd=>some (Builtin.bitAnd a b)
 | .BitOr=>some (Builtin.bitOr a b)
 | .BitXor=>some (Builtin.bitXor a b)
 | _=>none
noncomputable def seqOf (st:St):V->Option (List V)
 | .lst vs=>some vs
 | .ref l i=>match st.obj l i with | some (.list vs)=>some vs | _=>none
 | _=>none
noncomputable def intV {α:Type} (v:V) (k:Int->Option α):Option α:=match v with | .int i=>k i | _=>none
noncomputable def seqV {α:Type} (st:St) (v:V) (k:List V->Option α):Option α:=match seqOf st v with | some vs=>k vs | none=>none
noncomputable def strV {α:Type} (v:V) (k:Str->Option α):Option α:=match v with | .str i=>k i | _=>none
noncomputable def bytesV {α:Type} (v:V) (k:List UInt8->Option α):Option α:=match v with | .bytes i=>k i | _=>none
noncomputable def refV {α:Type} (v:V) (k:Nat->Nat->Option α):Option α:=match v with | .ref l i=>k l i | _=>none
noncomputable def listV {α:Type} (st:St) (l i:Nat) (k:List V->Option α):Option α:=match st.obj l i with | some (.list vs)=>k vs | _=>none
theorem listV_t {α:Type} {st:St} {l i:Nat} {k:List V->Option α} {r:α} (h:listV st l i k = some r):∃ vs,st.obj l i = some (.list vs) /\ k vs = some r:=by
 unfold listV at h
 generalize st.obj l i = o at h
 cases o with
 | none=>cases h
 | some o=>
  cases o with
  | list vs=>exact ⟨vs,rfl,h⟩
  | _=>cases h
theorem listV_of {α:Type} {st:St} {l i:Nat} {k:List V->Option α} {vs:List V} (h:st.obj l i = some (.list vs)):listV st l i k = k vs:=by unfold listV; rw [h]
@[elab_as_elim] theorem refV_e {α:Type} {v:V} {k:Nat->Nat->Option α} {r:α} {R:V->Prop} (h:refV v k = some r) (K:∀ l i,k l i = some r->R (.ref l i)):R v:=by
 cases v with
 | ref l i=>exact K l i h
 | _=>cases h
noncomputable def binB (st:St) (op:Operator) (x:List UInt8) (b:V):Option (V × St):=match op with
 | .Add=>bytesV b fun y=>if x.length + y.length <= lim then some (.bytes (x ++ y),st) else none
 | .Mult=>intV b fun n=>if decide (x ≠ []) && decide (x.length <= 16) && decide (-1000 <= n) && decide (n <= 1000) then some (.bytes (List.replicate n.toNat x).flatten,st) else none
 | _=>none
noncomputable def binS (st:St) (op:Operator) (a b:V) (mu:Bool):Option (V × St):=match op with
 | .Mult=>intV b fun n=>seqV st a fun vs=>if decide (-1000 <= n) && decide (n <= 1000) && decide (vs.length <= 64) then mkL mu (List.replicate n.toNat vs).flatten st else none
 | .Add=>seqV st a fun vs=>seqV st b fun us=>mkL mu (vs ++ us) st
 | _=>none
noncomputable def binN (st:St) (o:Option Int):Option (V × St):=match o with | some z=>some (.int z,st) | none=>none
noncomputable def binV (st:St) (op:Operator) (a b:V) (mu:Bool):Option (V × St):=match a with
 | .int x=>intV b fun y=>binN st (binI op x y)
 | .bytes x=>binB st op x b
 | a=>binS st op a b mu
noncomputable def ixOf (n:Nat) (i:Int):Option Nat:=if n <= lim then seqIndex? i n else none
noncomputable def getI (vs:List V) (k:Int):Option V:=match ixOf vs.length k with | some j=>vs[j]? | none=>none
noncomputable def getB (b:List UInt8) (k:Int):Option V:=match ixOf b.length k with | some j=>(match b[j]? with | some c=>some (.int (c.toNat:Int)) | none=>none) | none=>none
noncomputable def subK (st:St) (o:V) (k:Int):Option V:=match o with
 | .tup vs=>getI vs k
 | .bytes b=>getB b k
 | o=>seqV st o fun vs=>getI vs k
noncomputable def subV (st:St) (o i:V):Option V:=intV i (subK st o)
noncomputable def cut {α:Type} (xs:List α) (lo hi:Option Int):List α:=
 (xs.drop (lo.elim 0 (clipAt xs.length))).take (hi.elim xs.length (clipAt xs.length) - lo.elim 0 (clipAt xs.length))
noncomputable def optO (o:Option V):Option (Option Int):=match o with
 | none=>some none
 | some v=>match v with | .int i=>some (some i) | .imm v=>if v == .none then some none else none | _=>none
noncomputable def optV {α:Type} (o:Option V) (k:Option Int->Option α):Option α:=match optO o with | some x=>k x | none=>none
noncomputable def slcO (st:St) (o:V) (mu:Bool) (l h:Option Int):Option (V × St):=match o with
 | .bytes b=>if b.length <= lim then some (.bytes (cut b l h),st) else none
 | o=>seqV st o fun vs=>if vs.length <= lim then mkL mu (cut vs l h) st else none
noncomputable def slcV (st:St) (o:V) (lo hi stp:Option V) (mu:Bool):Option (V × St):=if stp.isNone = true then optV lo fun l=>optV hi fun h=>slcO st o mu l h else none
noncomputable def rvsV (st:St) (o:V) (mu:Bool):Option (V × St):=seqV st o fun vs=>if vs.length <= lim then mkL mu vs.reverse st else none
theorem optV_t {α:Type} {o:Option V} {k:Option Int->Option α} {r:α} (h:optV o k = some r):∃ x,optO o = some x /\ k x = some r:=by
 unfold optV at h
 cases e:optO o with
 | none=>rw [e] at h; cases h
 | some x=>rw [e] at h; exact ⟨x,rfl,h⟩
mutual
noncomputable def toPD:V->Option PyData
 | .imm .none=>some .none
 | .imm (.bool b)=>some (.bool b)
 | .int i=>some (.int i)
 | .str s=>some (.str s)
 | .tup vs=>match toPDL vs with | some ds=>some (.tuple ds) | none=>none
 | .lst vs=>match toPDL vs with | some ds=>some (.list ds) | none=>none
 | _=>none
noncomputable def toPDL:List V->Option (List PyData)
 | []=>some []
 | v :: vs=>match toPD v,toPDL vs with | some d,some ds=>some (d :: ds) | _,_=>none
end
noncomputable def eqd (a b:V):Option Bool:=match toPD a,toPD b with
 | some x,some y=>if SeqAt.shaped x && SeqAt.shaped y then some (PyData.eqv x y) else none
 | _,_=>none
noncomputable def arg1 {α:Type} (args:List V) (k:V->Option α):Option α:=match args with | [v]=>k v | _=>none
noncomputable def arg2 {α:Type} (args:List V) (k:V->V->Option α):Option α:=match args with | [v,u]=>k v u | _=>none
noncomputable def open1 (st:St):V->Option V
 | .ref l i=>match st.obj l i with | some (.list vs)=>some (.lst vs) | _=>none
 | v=>some v
noncomputable def opV {α:Type} (st:St) (v:V) (k:V->Option α):Option α:=match open1 st v with | some x=>k x | none=>none
noncomputable def eqV (st:St) (a b:V):Option Bool:=match a with
 | .bytes x=>bytesV b fun y=>some (x == y)
 | .str x=>strV b fun y=>some (x == y)
 | a=>opV st a fun x=>opV st b fun y=>eqd x y
noncomputable def intsOf:List V->Option (List Int)
 | []=>some []
 | .int i :: r=>match intsOf r with | some l=>some (i :: l) | none=>none
 | _=>none
noncomputable def strsOf:List V->Option (List Str)
 | []=>some []
 | .str i :: r=>match strsOf r with | some l=>some (i :: l) | none=>none
 | _=>none
noncomputable def intsV {α:Type} (st:St) (v:V) (k:List Int->Option α):Option α:=seqV st v fun vs=>match intsOf vs with | some is=>k is | none=>none
noncomputable def notO (b:Option Bool):Option Bool:=match b with | some r=>some (!r) | none=>none
noncomputable def isO (a:V):Option Bool:=match a with | .imm x=>some (x == .none) | .int _=>some false | _=>none
noncomputable def isK (a:V):Option Bool:=match a with | .clo _ _=>some false | a=>isO a
noncomputable def isNoneV (b:V):Bool:=match b with | .imm v=>v == .none | _=>false
noncomputable def cmpV (st:St) (op:CmpOp) (a b:V):Option Bool:=match op with
 | .Eq=>eqV st a b
 | .NotEq=>notO (eqV st a b)
 | .Is=>if isNoneV b = true then isO a else none
 | .Lt=>intV a fun x=>intV b fun y=>some (decide (x < y))
 | .LtE=>intV a fun x=>intV b fun y=>some (decide (x <= y))
 | .Gt=>intV a fun x=>intV b fun y=>some (decide (y < x))
 | .GtE=>intV a fun x=>intV b fun y=>some (decide (y <= x))
 | _=>none
noncomputable def lenT (n:Nat):Option Bool:=if n <= lim then some (decide (0 < n)) else none
noncomputable def truthI (v:Value):Option Bool:=match v with | .bool b=>some b | .none=>some false | _=>none
noncomputable def truthV (st:St) (v:V):Option Bool:=match v with
 | .imm v=>truthI v
 | .int i=>some (i != 0)
 | .bytes b=>lenT b.length
 | .str q=>if q.length <= lim then some ((q.length:Int) != 0) else none
 | .lst vs=>lenT vs.length
 | .ref l i=>seqV st (.ref l i) fun vs=>lenT vs.length
 | _=>none
mutual
noncomputable def V.lvlOk (l:Nat):V->Bool
 | .ref l' _=>decide (l' <= l)
 | .tup vs=>V.lvlOkL l vs
 | .lst vs=>V.lvlOkL l vs
 | .clo _ _=>false
 | _=>true
noncomputable def V.lvlOkL (l:Nat):List V->Bool
 | []=>true
 | v :: vs=>V.lvlOk l v && V.lvlOkL l vs
end
noncomputable def mapO {α β:Type} (f:α->Option β):List α->Option (List β)
 | []=>some []
 | a :: as=>match f a,mapO f as with | some b,some bs=>some (b :: bs) | _,_=>none
noncomputable def frz (reg:List AObj) (lv:Nat):Nat->V->Option V
 | 0,_=>none
 | d + 1,v=>match v with
  | .ref l i=>if l = lv then (match reg[i]? with | some (.list vs)=>(match mapO (frz reg lv d) vs with | some us=>some (.lst us) | none=>none) | _=>none)
    else if l < lv then some v else none
  | .tup vs=>match mapO (frz reg lv d) vs with | some us=>some (.tup us) | none=>none
  | .lst vs=>match mapO (frz reg lv d) vs with | some us=>some (.lst us) | none=>none
  | .clo _ _=>none
  | v=>some v
noncomputable def rangeL (a b c:Int):List Int:=(List.range (Builtin.Range.rangeSize a b c).toNat).map fun (i:Nat)=>a + i * c
noncomputable def mkIt (st:St):V->Option It
 | .lst vs=>some (.seq vs)
 | .tup vs=>some (.seq vs)
 | .bytes b=>some (.seq (b.map fun c=>.int (c.toNat:Int)))
 | .rng a b c=>if Builtin.Range.small a b c then some (.seq ((rangeL a b c).map .int)) else none
 | .ref l i=>match st.obj l i with | some (.list _)=>some (.ref l i 0) | _=>none
 | _=>none
noncomputable def It.next (st:St):It->Option (Option (V × It))
 | .seq []=>some none
 | .seq (v :: vs)=>some (some (v,.seq vs))
 | .ref l i p=>match st.obj l i with
  | some (.list vs)=>(match vs[p]? with | some v=>some (some (v,.ref l i (p + 1))) | none=>some none)
  | _=>none
 | .en k it=>match it.next st with
  | some (some (v,it'))=>some (some (.tup [.int k,v],.en (k + 1) it'))
  | some none=>some none
  | none=>none
noncomputable def ixV {α:Type} (n:Nat) (k:Int) (f:Nat->Option α):Option α:=match ixOf n k with | some j=>f j | none=>none
theorem ixV_t {α:Type} {n:Nat} {k:Int} {f:Nat->Option α} {r:α} (h:ixV n k f = some r):∃ j,ixOf n k = some j /\ f j = some r:=by
 unfold ixV at h
 cases e:ixOf n k with
 | none=>rw [e] at h; cases h
 | some j=>rw [e] at h; exact ⟨j,rfl,h⟩
noncomputable def setItemV (st:St) (o i v:V):Option St:=refV o fun l j=>intV i fun k=>listV st l j fun vs=>ixV vs.length k fun n=>if v.lvlOk l && decide (0 <= k) then some (st.setObj l j (.list (vs.set n v))) else none
noncomputable def pairV (v:V):Option (Int × Int):=match v with
 | .tup vs=>(match intsOf vs with | some is=>(match is with | a :: r=>(match r with | b :: r=>if r.isEmpty = true then some (a,b) else none | []=>none) | []=>none) | none=>none)
 | _=>none
noncomputable def pairsV:List V->Option (List (Int × Int))
 | []=>some []
 | v :: r=>match pairV v with
  | some p=>(match pairsV r with | some l=>some (p :: l) | none=>none)
  | none=>none
noncomputable abbrev BiF:=St->List V->Option (V × St)
noncomputable def lenV (st:St) (v:V):Option (V × St):=match v with
 | .tup vs=>if vs.length <= lim then some (.int vs.length,st) else none
 | .bytes b=>if b.length <= lim then some (.int b.length,st) else none
 | v=>seqV st v fun vs=>if vs.length <= lim then some (.int vs.length,st) else none
noncomputable def biLen:BiF:=fun st args=>arg1 args (lenV st)
noncomputable def biAbs:BiF:=fun st args=>arg1 args fun v=>intV v fun i=>some (.int (if i < 0 then -i else i),st)
noncomputable def biDiv:BiF:=fun st args=>arg2 args fun v u=>intV v fun a=>intV u fun b=>if decide (b = 0) || !small 30 b then none else some (.tup [.int (a.fdiv b),.int (a.fmod b)],st)
noncomputable def biHex:BiF:=fun st args=>arg1 args fun v=>intV v fun i=>if (PySem.baseText "0x" 16 i).length <= lim then some (.str (PySem.baseText "0x" 16 i),st) else none
noncomputable def iterV (st:St) (v:V):Option (V × St):=match v with | .lst vs=>st.alloc (.iter vs) | _=>none
noncomputable def biIter:BiF:=fun st args=>arg1 args (iterV st)
noncomputable def nextO (st:St) (l i:Nat) (o:Option AObj):Option (V × St):=match o with
 | some (.iter (v :: vs))=>some (v,st.setObj l i (.iter vs))
 | _=>none
noncomputable def nextV (st:St) (v:V):Option (V × St):=match v with | .ref l i=>nextO st l i (st.obj l i) | _=>none
noncomputable def biNext:BiF:=fun st args=>arg1 args (nextV st)
noncomputable def biSum:BiF:=fun st args=>arg1 args fun v=>intsV st v fun is=>if is.all (small 50) && decide (is.length <= 1000) then some (.int is.sum,st) else none
noncomputable def biNo:BiF:=fun u_ u_=>none
noncomputable def biTab (n:String):BiF:=if n = "len" then biLen else if n = "abs" then biAbs else if n = "divmod" then biDiv else if n = "hex" then biHex else if n = "iter" then biIter else if n = "next" then biNext else
 if n = "sum" then biSum else biNo
noncomputable def biV (st:St) (n:String) (args:List V):Option (V × St):=biTab n st args
noncomputable def tyInt:BiF:=fun st args=>arg1 args fun v=>intV v fun i=>some (.int i,st)
noncomputable def rng3 (st:St) (is:List Int):Option (V × St):=match is with
 | [b]=>some (.rng 0 b 1,st)
 | [a,b]=>some (.rng a b 1,st)
 | [a,b,c]=>if decide (c = 0) || !small 30 c then none else some (.rng a b c,st)
 | _=>none
noncomputable def tyRng:BiF:=fun st args=>match intsOf args with | some is=>rng3 st is | none=>none
noncomputable def tyBytes:BiF:=fun st args=>arg1 args fun v=>intsV st v fun is=>if is.all (fun i=>decide (0 <= i) && decide (i < 256)) && decide (is.length <= lim) then some (.bytes (is.map fun i=>i.toNat.toUInt8),st) else none
noncomputable def tyTab (n:String):BiF:=if n = "int" then tyInt else if n = "range" then tyRng else if n = "bytes" then tyBytes else biNo
noncomputable def tyV (st:St) (n:String) (args:List V):Option (V × St):=tyTab n st args
@[elab_as_elim] theorem len2_e {α:Type} {l:List α} {p:List α->Prop} (h:l.length = 2) (k:∀ a b,p [a,b]):p l:=by
 match l,h with
 | [a,b],_=>exact k a b
@[elab_as_elim] theorem len3_e {α:Type} {l:List α} {p:List α->Prop} (h:l.length = 3) (k:∀ a b c,p [a,b,c]):p l:=by
 cases l with
 | nil=>cases h
 | cons a l=>exact len2_e (l:=l) (p:=fun l=>p (a :: l)) (Nat.succ.inj h) (k a)
theorem intsOf_t {x:V} {xs:List V} {is:List Int} (h:intsOf (x :: xs) = some is):∃ i l,x = .int i /\ intsOf xs = some l /\ is = i :: l:=by
 cases x with
 | int i=>
  have h:(match intsOf xs with | some l=>some (i :: l) | none=>none) = some is:=h
  cases e:intsOf xs with
  | none=>rw [e] at h; cases h
  | some l=>rw [e] at h; exact ⟨i,l,rfl,rfl,(Option.some.inj h).symm⟩
 | _=>cases h
theorem intsOf_cons {i:Int} {xs:List V} {l:List Int} (h:intsOf xs = some l):intsOf (.int i :: xs) = some (i :: l):=by
 show (match intsOf xs with | some l=>some (i :: l) | none=>none) = _
 rw [h]
theorem strsOf_cons {i:Str} {xs:List V} {l:List Str} (h:strsOf xs = some l):strsOf (.str i :: xs) = some (i :: l):=by
 show (match strsOf xs with | some l=>some (i :: l) | none=>none) = _
 rw [h]
theorem strsOf_t {i:Str} {xs:List V} {is:List Str} (h:strsOf (.str i :: xs) = some is):∃ l,strsOf xs = some l /\ i :: l = is:=by
 have h:(match strsOf xs with | some l=>some (i :: l) | none=>none) = some is:=h
 cases e:strsOf xs with
 | none=>rw [e] at h; cases h
 | some l=>rw [e] at h; exact ⟨l,rfl,Option.some.inj h⟩
theorem mapO_c {α β:Type} {f:α->Option β} {a:α} {b:β} {as:List α} {bs:List β} (h1:f a = some b) (h2:mapO f as = some bs):mapO f (a :: as) = some (b :: bs):=by
 show (match f a,mapO f as with | some b,some bs=>some (b :: bs) | _,_=>none) = _
 rw [h1,h2]
theorem lvlOk_int (l:Nat) (i:Int):V.lvlOk l (.int i) = true:=rfl
theorem toPDL_cons {v:V} {vs:List V} {d:PyData} {ds:List PyData} (h1:toPD v = some d) (h2:toPDL vs = some ds):toPDL (v :: vs) = some (d :: ds):=by
 show (match toPD v,toPDL vs with | some d,some ds=>some (d :: ds) | _,_=>none) = _
 rw [h1,h2]
theorem toPDL_t {v:V} {vs:List V} {r:List PyData} (h:toPDL (v :: vs) = some r):∃ d ds,toPD v = some d /\ toPDL vs = some ds /\ d :: ds = r:=by
 have h:(match toPD v,toPDL vs with | some d,some ds=>some (d :: ds) | _,_=>none) = some r:=h
 cases e1:toPD v with
 | none=>rw [e1] at h; cases h
 | some d=>
  cases e2:toPDL vs with
  | none=>rw [e1,e2] at h; cases h
  | some ds=>rw [e1,e2] at h; exact ⟨d,ds,rfl,rfl,Option.some.inj h⟩
theorem next_ref {st:St} {l i p:Nat} {o:Option (V × It)} (h:(It.ref l i p).next st = some o):∃ vs,st.obj l i = some (.list vs) /\ (match vs[p]? with | some v=>some (v,It.ref l i (p + 1)) | none=>none) = o:=by
 have h:(match st.obj l i with
  | some (.list vs)=>(match vs[p]? with | some v=>some (some (v,It.ref l i (p + 1))) | none=>some none)
  | _=>none) = some o:=h
 generalize st.obj l i = q at h
 cases q with
 | none=>cases h
 | some q=>
  cases q with
  | list vs=>
   refine ⟨vs,rfl,?_⟩
   have h:(match vs[p]? with | some v=>some (some (v,It.ref l i (p + 1))) | none=>some none) = some o:=h
   generalize vs[p]? = u at h ⊢
   cases u <;> exact Option.some.inj h
  | _=>cases h
theorem next_refS {st:St} {l i p:Nat} {x:V} {it':It} (h:(It.ref l i p).next st = some (some (x,it'))):∃ vs,st.obj l i = some (.list vs) /\ vs[p]? = some x /\ it' = .ref l i (p + 1):=by
 obtain ⟨vs,e,h⟩:=next_ref h
 refine ⟨vs,e,?_⟩
 generalize vs[p]? = u at h
 cases u with
 | none=>cases h
 | some u=>cases h; exact ⟨rfl,rfl⟩
theorem next_refN {st:St} {l i p:Nat} (h:(It.ref l i p).next st = some none):∃ vs,st.obj l i = some (.list vs) /\ vs[p]? = none:=by
 obtain ⟨vs,e,h⟩:=next_ref h
 refine ⟨vs,e,?_⟩
 generalize vs[p]? = u at h
 cases u with
 | none=>rfl
 | some u=>cases h
theorem next_en {st:St} {k:Nat} {it:It} {o:Option (V × It)} (h:(It.en k it).next st = some o):∃ q,it.next st = some q /\ (match q with | some (v,it')=>some (V.tup [.int k,v],It.en (k + 1) it') | none=>none) = o:=by
 have h:(match it.next st with
  | some (some (v,it'))=>some (some (V.tup [.int k,v],It.en (k + 1) it'))
  | some none=>some none
  | none=>none) = some o:=h
 generalize it.next st = u at h
 cases u with
 | none=>cases h
 | some u=>refine ⟨u,rfl,?_⟩; cases u <;> exact Option.some.inj h
theorem next_enS {st:St} {k:Nat} {it it':It} {x:V} (h:(It.en k it).next st = some (some (x,it'))):∃ v it2,it.next st = some (some (v,it2)) /\ x = .tup [.int k,v] /\ it' = .en (k + 1) it2:=by
 obtain ⟨q,e,h⟩:=next_en h
 cases q with
 | none=>cases h
 | some q=>
  obtain ⟨v,it2⟩:=q
  cases h; exact ⟨v,it2,e,rfl,rfl⟩
theorem next_enN {st:St} {k:Nat} {it:It} (h:(It.en k it).next st = some none):it.next st = some none:=by
 obtain ⟨q,e,h⟩:=next_en h
 cases q with
 | none=>exact e
 | some q=>cases h
theorem biIf {R:String->Prop} {m n:String} {f g:BiF} {st:St} {args:List V} {r:V × St} (h:(if n = m then f else g) st args = some r) (h1:f st args = some r->R m) (h2:g st args = some r->R n):R n:=by
 by_cases q:n = m
 ·subst q
  rw [if_pos rfl] at h
  exact h1 h
 ·rw [if_neg q] at h
  exact h2 h
@[elab_as_elim] theorem arg1_e {α:Type} {args:List V} {k:V->Option α} {r:α} {R:List V->Prop} (h:arg1 args k = some r) (K:∀ v,k v = some r->R [v]):R args:=by
 match args,h with
 | [v],h=>exact K v h
theorem arg1_t {α:Type} {args:List V} {k:V->Option α} {r:α} (h:arg1 args k = some r):∃ v,args = [v] /\ k v = some r:=by
 match args,h with
 | [v],h=>exact ⟨v,rfl,h⟩
theorem arg2_t {α:Type} {args:List V} {k:V->V->Option α} {r:α} (h:arg2 args k = some r):∃ v u,args = [v,u] /\ k v u = some r:=by
 match args,h with
 | [v,u],h=>exact ⟨v,u,rfl,h⟩
@[elab_as_elim] theorem intV_e {α:Type} {v:V} {k:Int->Option α} {r:α} {R:V->Prop} (h:intV v k = some r) (K:∀ i,k i = some r->R (.int i)):R v:=by
 cases v with
 | int i=>exact K i h
 | _=>cases h
@[elab_as_elim] theorem strV_e {α:Type} {v:V} {k:Str->Option α} {r:α} {R:V->Prop} (h:strV v k = some r) (K:∀ i,k i = some r->R (.str i)):R v:=by
 cases v with
 | str i=>exact K i h
 | _=>cases h
@[elab_as_elim] theorem bytesV_e {α:Type} {v:V} {k:List UInt8->Option α} {r:α} {R:V->Prop} (h:bytesV v k = some r) (K:∀ i,k i = some r->R (.bytes i)):R v:=by
 cases v with
 | bytes i=>exact K i h
 | _=>cases h
theorem bytesV_t {α:Type} {v:V} {k:List UInt8->Option α} {r:α} (h:bytesV v k = some r):∃ i,v = .bytes i /\ k i = some r:=bytesV_e h fun i h=>⟨i,rfl,h⟩
theorem ite_none {α:Type} {c:Prop} [Decidable c] {x:Option α} {r:α} (h:(if c then x else none) = some r):c /\ x = some r:=by
 by_cases q:c
 ·rw [if_pos q] at h; exact ⟨q,h⟩
 ·rw [if_neg q] at h; cases h
theorem opV_t {α:Type} {st:St} {v:V} {k:V->Option α} {r:α} (h:opV st v k = some r):∃ x,open1 st v = some x /\ k x = some r:=by
 unfold opV at h
 cases e:open1 st v with
 | none=>rw [e] at h; cases h
 | some x=>rw [e] at h; exact ⟨x,rfl,h⟩
theorem notO_t {b:Option Bool} {r:Bool} (h:notO b = some r):b = some (!r):=by
 cases b with
 | none=>cases h
 | some c=>rw [<- Option.some.inj (show some (!c) = some r from h),Bool.not_not]
theorem intV_t {α:Type} {v:V} {k:Int->Option α} {r:α} (h:intV v k = some r):∃ i,v = .int i /\ k i = some r:=by
 cases v with
 | int i=>exact ⟨i,rfl,h⟩
 | _=>cases h
theorem seqV_t {α:Type} {st:St} {v:V} {k:List V->Option α} {r:α} (h:seqV st v k = some r):∃ vs,seqOf st v = some vs /\ k vs = some r:=by
 unfold seqV at h
 cases e:seqOf st v with
 | none=>rw [e] at h; cases h
 | some vs=>rw [e] at h; exact ⟨vs,rfl,h⟩
theorem intsV_t {α:Type} {st:St} {v:V} {k:List Int->Option α} {r:α} (h:intsV st v k = some r):∃ vs is,seqOf st v = some vs /\ intsOf vs = some is /\ k is = some r:=by
 obtain ⟨vs,e,h⟩:=seqV_t h
 cases e2:intsOf vs with
 | none=>rw [e2] at h; cases h
 | some is=>rw [e2] at h; exact ⟨vs,is,e,e2,h⟩
theorem seqV_of {α:Type} {st:St} {v:V} {k:List V->Option α} {vs:List V} (h:seqOf st v = some vs):seqV st v k = k vs:=by unfold seqV; rw [h]
theorem intsV_of {α:Type} {st:St} {v:V} {k:List Int->Option α} {vs:List V} {is:List Int} (h:seqOf st v = some vs) (h2:intsOf vs = some is):intsV st v k = k is:=by unfold intsV; rw [seqV_of h,h2]
theorem if_some {α:Type} {c:Prop} [Decidable c] {x r:α} (h:(if c then some x else none) = some r):c /\ x = r:=by
 by_cases q:c
 ·rw [if_pos q] at h; exact ⟨q,Option.some.inj h⟩
 ·rw [if_neg q] at h; cases h
theorem if_none {α:Type} {c:Prop} [Decidable c] {x r:α} (h:(if c then none else some x) = some r):¬ c /\ x = r:=by
 by_cases q:c
 ·rw [if_pos q] at h; cases h
 ·rw [if_neg q] at h; exact ⟨q,Option.some.inj h⟩
noncomputable def insAt {α:Type} (xs:List α) (i:Int) (x:α):List α:=let k:=if i < 0 then (i + xs.length).toNat else min i.toNat xs.length; xs.take k ++ x :: xs.drop k
noncomputable def idxV (vs:List V) (x:V):Option Nat:=match x with
 | .int b=>(match intsOf vs with | some is=>is.findIdx? (· == b) | none=>none)
 | .str b=>(match strsOf vs with | some ss=>ss.findIdx? (· == b) | none=>none)
 | _=>none
noncomputable def idxN (st:St) (vs:List V) (x:V):Option (V × St):=if vs.length <= lim then (match idxV vs x with | some j=>some (.int j,st) | none=>none) else none
noncomputable def idxT (vs:List V) (o:Option (Int × Int)):Option Nat:=match o with | some p=>(match pairsV vs with | some ps=>ps.findIdx? (· == p) | none=>none) | none=>none
noncomputable def idxP (st:St) (vs:List V) (x:V):Option (V × St):=if vs.length <= lim then (match idxT vs (pairV x) with | some j=>some (.int j,st) | none=>none) else none
noncomputable def idxM (st:St) (vs:List V) (x:V):Option (V × St):=match x with | .tup us=>idxP st vs (.tup us) | x=>idxN st vs x
noncomputable def methI (st:St) (args:List V) (vs:List V):Option (V × St):=arg1 args (idxM st vs)
noncomputable def evL (st:St) (caps:List V) (x:V):LE->Option V
 | .par=>some x
 | .cap i=>caps[i]?
 | .int i=>some (.int i)
 | .sub a b=>two (evL st caps x a) (evL st caps x b) fun u v=>subV st u v
 | .neg a=>one (evL st caps x a) fun u=>intV u fun i=>some (.int (-i))
 | .index i=>one caps[i]? fun u=>seqV st u fun vs=>match idxN st vs x with | some r=>some r.1 | none=>none
where
 pick (c:Option Bool) (a b:Option V):Option V:=match c with | some t=>if t = true then a else b | none=>none
 one (a:Option V) (k:V->Option V):Option V:=match a with | some u=>k u | none=>none
 two (a b:Option V) (k:V->V->Option V):Option V:=match a,b with | some u,some v=>k u v | _,_=>none
noncomputable def methL (st:St) (l i:Nat) (n:Str) (args:List V) (vs:List V):Option (V × St):=
 if n = "append" then arg1 args fun v=>if v.lvlOk l && decide (vs.length <= lim) then some (.imm .none,st.setObj l i (.list (vs ++ [v]))) else none
 else if n = "insert" then arg2 args fun kk v=>intV kk fun k=>if v.lvlOk l && decide (vs.length <= lim) && small 60 k then some (.imm .none,st.setObj l i (.list (insAt vs k v))) else none
 else if n = "index" then methI st args vs
 else if n = "pop" then arg1 args fun kk=>intV kk fun k=>if decide (0 <= k) && decide (vs.length <= lim) then (match vs[k.toNat]? with | some v=>some (v,st.setObj l i (.list (vs.eraseIdx k.toNat))) | none=>none) else none
 else none
noncomputable def methJ (st:St) (sep:Str) (args:List V):Option (V × St):=arg1 args fun v=>seqV st v fun vs=>match strsOf vs with | some ss=>if JoinOk sep ss then some (.str (Txt.join sep ss),st) else none | none=>none
noncomputable def getK (st:St) (o:Option Str) (d:V):V × St:=match o with | some s=>(.str s,st) | none=>(d,st)
noncomputable def methG (G:Pg) (st:St) (a:Value) (args:List V):Option (V × St):=match a with
 | .ref a=>arg2 args fun kk d=>intV kk fun k=>match G.gds.lookup a with | some kvs=>some (getK st (kvs.lookup k) d) | none=>none
 | _=>none
noncomputable def methV (G:Pg) (st:St) (o:V) (n:Str) (args:List V):Option (V × St):=match o with
 | .ref l i=>listV st l i (methL st l i n args)
 | .lst vs=>if n = "index" then methI st args vs else none
 | .str sep=>if n = "join" then methJ st sep args else none
 | .imm a=>if n = "get" then methG G st a args else none
 | _=>none
noncomputable def listB (st:St) (l i:Nat) (b:Bool):Bool:=match st.obj l i with | some (.list _)=>b | _=>false
theorem listB_t {st:St} {l i:Nat} {b:Bool} (h:listB st l i b = true):(∃ vs,st.obj l i = some (.list vs)) /\ b = true:=by
 unfold listB at h
 generalize st.obj l i = o at h
 cases o with
 | none=>cases h
 | some o=>
  cases o with
  | list vs=>exact ⟨⟨vs,rfl⟩,h⟩
  | _=>cases h
noncomputable def getOk (G:Pg) (a:Value) (n:Str):Bool:=match a with | .ref a=>decide (n = "get") && (G.gds.lookup a).isSome | _=>false
noncomputable def methOk (G:Pg) (st:St) (o:V) (n:Str):Bool:=match o with
 | .ref l i=>listB st l i (decide (n = "append") || (decide (n = "insert") || (decide (n = "pop") || decide (n = "index"))))
 | .lst _=>decide (n = "index")
 | .str _=>decide (n = "join")
 | .imm a=>getOk G a n
 | _=>false
noncomputable def emptyFrame (ns:Nat) (vs:List V):List (Option V):=vs.map some ++ List.replicate (ns - vs.length) none
noncomputable def bindF (f:Fn) (args:List V) (kw:List (Str × V)):Option (List V):=
 if args.length <= f.np then
  let need:=f.np - args.length
  if need <= f.dfl.length then
   let pos:=args ++ f.dfl.drop (f.dfl.length - need)
   if f.key then (match kw with | []=>some (pos ++ [.imm .none]) | [(k,v)]=>if k = "key" then some (pos ++ [v]) else none | _=>none)
   else (match kw with | []=>some pos | _=>none)
  else none
 else none
noncomputable def enIt (st:St):V->Option It
 | .bytes b=>if b.length <= lim then some (.en 0 (.seq ((b.map fun c=>(c.toNat:Int)).map .int))) else none
 | v=>match seqOf st v,mkIt st v with | some _,some it=>some (.en 0 it) | _,_=>none
noncomputable def augL (st:St) (op:Operator) (l i:Nat) (b:V):Option (V × St):=match op with
 | .Add=>listV st l i fun vs=>seqV st b fun us=>if V.lvlOkL l us && decide (vs.length + us.length <= lim) then some (.ref l i,st.setObj l i (.list (vs ++ us))) else none
 | _=>none
noncomputable def augV (st:St) (op:Operator) (a b:V):Option (V × St):=match a with
 | .int x=>intV b fun y=>binN st (binI op x y)
 | .ref l i=>augL st op l i b
 | _=>none
end
section
set_option backward.eqns.nonrecursive false
noncomputable def badName (x:Str):Bool:=x == ("__debug__" : Str) || x == ("__classdict__" : Str)
noncomputable def all2 {α β:Type} (f:α->β->Bool):List α->List β->Bool
 | [],[]=>true
 | a :: as,b :: bs=>f a b && all2 f as bs
 | _,_=>false
theorem and_t {a b:Bool} (h:(a && b) = true):a = true /\ b = true:=(Bool.and_eq_true_iff).mp h
theorem dec_t {p:Prop} [Decidable p] (h:decide p = true):p:=of_decide_eq_true h
theorem all2_nil {α β:Type} {f:α->β->Bool} {as:List α} (h:all2 f as [] = true):as = []:=by
 cases as with
 | nil=>rfl
 | cons _ _=>exact (Bool.false_ne_true h).elim
theorem all2_cons {α β:Type} {f:α->β->Bool} {as:List α} {b:β} {bs:List β} (h:all2 f as (b :: bs) = true):∃ a as',as = a :: as' /\ f a b = true /\ all2 f as' bs = true:=by
 cases as with
 | nil=>exact (Bool.false_ne_true h).elim
 | cons a as=>exact ⟨a,as,rfl,and_t h⟩
theorem all2_len {α β:Type} {f:α->β->Bool}:∀ {as:List α} {bs:List β},all2 f as bs = true->as.length = bs.length
 | [],[],_=>rfl
 | [],_ :: _,h=>(Bool.false_ne_true h).elim
 | _ :: _,[],h=>(Bool.false_ne_true h).elim
 | _ :: _,_ :: _,h=>congrArg (· + 1) (all2_len (and_t h).2)
set_option genInjectivity false in
set_option genSizeOf false in
structure Pt where
 tag:Nat
 cs:Const:=.none
 x:Str:=⟨#[]⟩
 a:PySem.Expr:=.Constant .none 0 ⟨0,0,0,0⟩
 b:PySem.Expr:=.Constant .none 0 ⟨0,0,0,0⟩
 d:PySem.Expr:=.Constant .none 0 ⟨0,0,0,0⟩
 es:List PySem.Expr:=[]
 bop:Operator:=.Add
 uop:UnaryOp:=.Not
 lop:BoolOp:=.And
 cops:List CmpOp:=[]
 ks:List Keyword:=[]
 gs:List Comprehension:=[]
 sc:List Scope:=[]
 o1:Option PySem.Expr:=none
 o2:Option PySem.Expr:=none
 o3:Option PySem.Expr:=none
 n:Nat:=0
 ar:Arguments:=⟨[],[],none,[],[],none,[]⟩
 p:Pos
noncomputable def parts:PySem.Expr->Pt
 | .Constant c n p=>{ tag:=1,cs:=c,n:=n,p:=p }
 | .Name x p=>{ tag:=2,x:=x,p:=p }
 | .BinOp a op b p=>{ tag:=3,a:=a,bop:=op,b:=b,p:=p }
 | .UnaryOp op a p=>{ tag:=4,uop:=op,a:=a,p:=p }
 | .BoolOp op es p=>{ tag:=5,lop:=op,es:=es,p:=p }
 | .Compare a ops es p=>{ tag:=6,a:=a,cops:=ops,es:=es,p:=p }
 | .IfExp t a b p=>{ tag:=7,a:=t,b:=a,d:=b,p:=p }
 | .Call f as ks p=>{ tag:=8,a:=f,es:=as,ks:=ks,p:=p }
 | .Attribute o x p=>{ tag:=9,a:=o,x:=x,p:=p }
 | .ListComp m g s p=>{ tag:=10,a:=m,gs:=g,sc:=[s],p:=p }
 | .Subscript o i p=>{ tag:=11,a:=o,b:=i,p:=p }
 | .Slice l h s p=>{ tag:=12,o1:=l,o2:=h,o3:=s,p:=p }
 | .List es p=>{ tag:=13,es:=es,p:=p }
 | .Tuple es n p=>{ tag:=14,es:=es,n:=n,p:=p }
 | .Lambda ps b s p=>{ tag:=15,a:=b,ar:=ps,sc:=[s],p:=p }
 | e=>{ tag:=0,a:=e,p:=⟨0,0,0,0⟩ }
noncomputable def scOf (l:List Scope) (d:PySem.Expr) (k:Scope->PySem.Expr):PySem.Expr:=match l with | [s]=>k s | _=>d
noncomputable def buildT (q:Pt):Nat->PySem.Expr
 | 1=>.Constant q.cs q.n q.p
 | 2=>.Name q.x q.p
 | 3=>.BinOp q.a q.bop q.b q.p
 | 4=>.UnaryOp q.uop q.a q.p
 | 5=>.BoolOp q.lop q.es q.p
 | 6=>.Compare q.a q.cops q.es q.p
 | 7=>.IfExp q.a q.b q.d q.p
 | 8=>.Call q.a q.es q.ks q.p
 | 9=>.Attribute q.a q.x q.p
 | 10=>scOf q.sc q.a fun s=>.ListComp q.a q.gs s q.p
 | 11=>.Subscript q.a q.b q.p
 | 12=>.Slice q.o1 q.o2 q.o3 q.p
 | 13=>.List q.es q.p
 | 14=>.Tuple q.es q.n q.p
 | 15=>scOf q.sc q.a fun s=>.Lambda q.ar q.a s q.p
 | _=>q.a
noncomputable def build (q:Pt):PySem.Expr:=buildT q q.tag
theorem build_parts (e:PySem.Expr):build (parts e) = e:=by cases e <;> rfl
section
variable {q:Pt}
theorem build_1 (h:q.tag = 1):build q = .Constant q.cs q.n q.p:=congrArg (buildT q) h
theorem build_2 (h:q.tag = 2):build q = .Name q.x q.p:=congrArg (buildT q) h
theorem build_3 (h:q.tag = 3):build q = .BinOp q.a q.bop q.b q.p:=congrArg (buildT q) h
theorem build_4 (h:q.tag = 4):build q = .UnaryOp q.uop q.a q.p:=congrArg (buildT q) h
theorem build_5 (h:q.tag = 5):build q = .BoolOp q.lop q.es q.p:=congrArg (buildT q) h
theorem build_6 (h:q.tag = 6):build q = .Compare q.a q.cops q.es q.p:=congrArg (buildT q) h
theorem build_7 (h:q.tag = 7):build q = .IfExp q.a q.b q.d q.p:=congrArg (buildT q) h
theorem build_8 (h:q.tag = 8):build q = .Call q.a q.es q.ks q.p:=congrArg (buildT q) h
theorem build_9 (h:q.tag = 9):build q = .Attribute q.a q.x q.p:=congrArg (buildT q) h
theorem build_10 {s:Scope} (h:q.tag = 10) (hs:q.sc = [s]):build q = .ListComp q.a q.gs s q.p:=(congrArg (buildT q) h).trans (congrArg (fun l=>scOf l q.a fun s=>.ListComp q.a q.gs s q.p) hs)
theorem build_11 (h:q.tag = 11):build q = .Subscript q.a q.b q.p:=congrArg (buildT q) h
theorem build_12 (h:q.tag = 12):build q = .Slice q.o1 q.o2 q.o3 q.p:=congrArg (buildT q) h
theorem build_13 (h:q.tag = 13):build q = .List q.es q.p:=congrArg (buildT q) h
theorem build_15 {s:Scope} (h:q.tag = 15) (hs:q.sc = [s]):build q = .Lambda q.ar q.a s q.p:=(congrArg (buildT q) h).trans (congrArg (fun l=>scOf l q.a fun s=>.Lambda q.ar q.a s q.p) hs)
theorem build_14 (h:q.tag = 14):build q = .Tuple q.es q.n q.p:=congrArg (buildT q) h
end
theorem built {R:PySem.Expr->Prop} {e x:PySem.Expr} (h:build (parts e) = x) (k:R x):R e:=(h.symm.trans (build_parts e)) ▸ k
noncomputable def one {α:Type} (l:List α) (k:α->Bool):Bool:=match l with | [a]=>k a | _=>false
theorem one_t {α:Type} {l:List α} {k:α->Bool} (h:one l k = true):∃ a,l = [a] /\ k a = true:=by
 match l,h with
 | [a],h=>exact ⟨a,rfl,h⟩
 | [],h=>exact (Bool.false_ne_true h).elim
 | _ :: _ :: _,h=>exact (Bool.false_ne_true h).elim
noncomputable def two {α:Type} (l:List α) (k:α->α->Bool):Bool:=match l with | [a,b]=>k a b | _=>false
theorem two_t {α:Type} {l:List α} {k:α->α->Bool} (h:two l k = true):∃ a b,l = [a,b] /\ k a b = true:=by
 match l,h with
 | [a,b],h=>exact ⟨a,b,rfl,h⟩
 | [],h=>exact (Bool.false_ne_true h).elim
 | [_],h=>exact (Bool.false_ne_true h).elim
 | _ :: _ :: _ :: _,h=>exact (Bool.false_ne_true h).elim
noncomputable def plainIx:PySem.Expr->Bool
 | .Slice _ _ _ _=>false
 | _=>true
noncomputable def cmpLx (m:Lam) (x:Option Str) (q:Pt):Bool:=decide (q.tag = 2) && (!badName q.x && decide (x = some q.x))
noncomputable def cmpL (m:Lam):LE->PySem.Expr->Bool
 | .par,e=>cmpLx m (some m.x) (parts e)
 | .cap i,e=>cmpLx m m.caps[i]? (parts e)
 | .int i,e=>decide ((parts e).tag = 1 /\ (parts e).cs = .int i)
 | .sub a b,e=>(decide ((parts e).tag = 11) && plainIx (parts e).b) && (cmpL m a (parts e).a && cmpL m b (parts e).b)
 | .neg a,e=>decide ((parts e).tag = 4 /\ (parts e).uop = .USub) && cmpL m a (parts e).a
 | .index i,e=>(decide ((parts e).tag = 8 /\ (parts (parts e).a).tag = 9 /\ (parts (parts e).a).x = ("index" : Str)) && (((parts (parts e).a).p.endLine == (parts e).p.line) && (parts e).ks.isEmpty)) && (cmpLx m m.caps[i]? (parts (parts (parts e).a).a) && one (parts e).es fun b=>cmpLx m (some m.x) (parts b))
noncomputable def lamScope (m:Lam) (sc:Scope):Bool:=(decide (sc.kind = .function /\ (sc.names.map (·.1)).Nodup) && (!sc.isCoroutine && !sc.isGenerator)) && ((decide (sc.names.lookup m.x = some .local) && sc.names.all fun x=>decide (x.2 ≠ .cell)) && m.caps.all fun x=>decide (sc.names.lookup x = some .free))
noncomputable def lamPrm (x:Str) (ps:Arguments):Bool:=(ps.posonlyargs.isEmpty && ps.vararg.isNone) && (((ps.kwonlyargs.isEmpty && ps.kw_defaults.isEmpty) && ps.kwarg.isNone) && (ps.defaults.isEmpty && one ps.args fun a=>decide (a.arg = x)))
noncomputable def lamOk (m:Lam) (ps:Arguments) (e:PySem.Expr) (sc:Scope):Bool:=(lamPrm m.x ps && lamScope m sc) && cmpL m m.body e
end
section
set_option backward.eqns.nonrecursive false
noncomputable abbrev LObj (items:Array Value) (n:Nat):Obj:={ cls:=.type "list",dict:=none,data:=.seq items n,slots:=#[] }
noncomputable abbrev TObj (items:Array Value) (n:Nat):Obj:={ cls:=.type "tuple",dict:=none,data:=.seq items n,slots:=#[] }
set_option genCtorIdx false in
inductive Loc where
 | dict (L:Addr) (x:Str) | cell (c:Addr)
noncomputable def Loc.ctorIdx (x:Loc):Nat:=Loc.casesOn x (fun u_ u_=>0) (fun u_=>1)
noncomputable def Loc.addr:Loc->Addr | .dict L _=>L | .cell c=>c
noncomputable def look (A:List (List Addr)) (l i:Nat):Option Addr:=match A[l]? with | some as=>as[i]? | none=>none
structure Wd where
 h:Heap
 A:List (List Addr)
 T:Addr->Prop
 M:Addr->Prop
mutual
inductive Rel (w:Wd):Nat->Value->V->Prop
 | imm {lv:Nat} {v:Value}:Rel w lv v (.imm v)
 | int {lv:Nat} {i:Int} {t:Tok}:Rel w lv (.int i t) (.int i)
 | str {lv:Nat} {x:Str} {t:Tok}:Rel w lv (.str x t) (.str x)
 | bytes {lv:Nat} {b:List UInt8} {t:Tok}:Rel w lv (.bytes b.toArray t) (.bytes b)
 | tup {lv:Nat} {a:Addr} {items:List Value} {n:Nat} {vs:List V}:¬ w.M a->w.h.get? a = some (TObj items.toArray n)->RelL w lv items vs->Rel w lv (.ref a) (.tup vs)
 | lst {lv:Nat} {a:Addr} {items:List Value} {n:Nat} {vs:List V}:¬ w.M a->w.h.get? a = some (LObj items.toArray n)->RelL w lv items vs->Rel w lv (.ref a) (.lst vs)
 | rng {lv:Nat} {a:Addr} {x y z:Int} {t u v:Tok}:¬ w.M a->IsRange w.h a x y z t u v->Rel w lv (.ref a) (.rng x y z)
 | ref {lv l i:Nat} {a:Addr}:l <= lv->look w.A l i = some a->Rel w lv (.ref a) (.ref l i)
inductive RelL (w:Wd):Nat->List Value->List V->Prop
 | nil {lv:Nat}:RelL w lv [] []
 | cons {lv:Nat} {v:Value} {x:V} {vs:List Value} {xs:List V}:Rel w lv v x->RelL w lv vs xs->RelL w lv (v :: vs) (x :: xs)
end
theorem RelL.ind {w:Wd} {lv:Nat} {p:List Value->List V->Prop} {vs:List Value} {xs:List V} (h:RelL w lv vs xs) (h0:p [] []) (h1:∀ {v x vs xs},Rel w lv v x->RelL w lv vs xs->p vs xs->p (v :: vs) (x :: xs)):p vs xs:=
 RelL.rec (motive_1:=fun u_ u_ u_=>True) (motive_2:=fun vs xs u_=>p vs xs) trivial trivial trivial trivial (fun u_ u_ u_ u_=>trivial) (fun u_ u_ u_ u_=>trivial) (fun u_ u_=>trivial) (fun u_ u_=>trivial) h0 (fun a b u_ ih=>h1 a b ih) h
noncomputable def RelD (w:Wd) (lv:Nat) (v:Value):V->Prop
 | .imm u=>v = u
 | .int i=>∃ t,v = .int i t
 | .str i=>∃ t,v = .str i t
 | .bytes b=>∃ t,v = .bytes b.toArray t
 | .tup vs=>∃ a items n,v = .ref a /\ ¬ w.M a /\ w.h.get? a = some (TObj items.toArray n) /\ RelL w lv items vs
 | .lst vs=>∃ a items n,v = .ref a /\ ¬ w.M a /\ w.h.get? a = some (LObj items.toArray n) /\ RelL w lv items vs
 | .rng x y z=>∃ a t u s,v = .ref a /\ ¬ w.M a /\ IsRange w.h a x y z t u s
 | .ref l i=>∃ a,v = .ref a /\ l <= lv /\ look w.A l i = some a
 | .clo _ _=>False
theorem Rel.inv {w:Wd} {lv:Nat} {v:Value} {x:V} (h:Rel w lv v x):RelD w lv v x:=
 Rel.rec (motive_1:=fun v x u_=>RelD w lv v x) (motive_2:=fun u_ u_ u_=>True) rfl ⟨_,rfl⟩ ⟨_,rfl⟩ ⟨_,rfl⟩ (fun a b c u_=>⟨_,_,_,rfl,a,b,c⟩) (fun a b c u_=>⟨_,_,_,rfl,a,b,c⟩) (fun a b=>⟨_,_,_,_,rfl,a,b⟩) (fun a b=>⟨_,rfl,a,b⟩) trivial (fun u_ u_ u_ u_=>trivial) h
section
variable {w:Wd} {lv:Nat} {v:Value} {R:Value->Prop}
@[elab_as_elim] theorem RelL.nil_e {vs:List Value} {R:List Value->Prop} (h:RelL w lv vs []) (K:R []):R vs:=
 h.ind (p:=fun vs xs=>xs = []->R vs) (fun u_=>K) (fun u_ u_ u_ e=>by cases e) rfl
@[elab_as_elim] theorem RelL.cons_e {vs:List Value} {x:V} {xs:List V} {R:List Value->Prop} (h:RelL w lv vs (x :: xs)) (K:∀ v vs,Rel w lv v x->RelL w lv vs xs->R (v :: vs)):R vs:=
 h.ind (p:=fun vs ys=>ys = x :: xs->R vs) (fun e=>by cases e) (fun h1 h2 u_ e=>by cases e; exact K _ _ h1 h2) rfl
@[elab_as_elim] theorem Rel.int_e {i:Int} (h:Rel w lv v (.int i)) (K:∀ t,R (.int i t)):R v:=by obtain ⟨t,e⟩:=h.inv; exact e ▸ K t
@[elab_as_elim] theorem Rel.str_e {i:Str} (h:Rel w lv v (.str i)) (K:∀ t,R (.str i t)):R v:=by obtain ⟨t,e⟩:=h.inv; exact e ▸ K t
@[elab_as_elim] theorem Rel.bytes_e {i:List UInt8} (h:Rel w lv v (.bytes i)) (K:∀ t,R (.bytes i.toArray t)):R v:=by obtain ⟨t,e⟩:=h.inv; exact e ▸ K t
@[elab_as_elim] theorem Rel.imm_e {i:Value} (h:Rel w lv v (.imm i)) (K:R i):R v:=(show v = i from h.inv) ▸ K
@[elab_as_elim] theorem Rel.tup_e {vs:List V} (h:Rel w lv v (.tup vs)) (K:∀ a items n,¬ w.M a->w.h.get? a = some (TObj (List.toArray items) n)->RelL w lv items vs->R (.ref a)):R v:=by obtain ⟨a,items,n,e,h1,h2,h3⟩:=h.inv; exact e ▸ K a items n h1 h2 h3
@[elab_as_elim] theorem Rel.lst_e {vs:List V} (h:Rel w lv v (.lst vs)) (K:∀ a items n,¬ w.M a->w.h.get? a = some (LObj (List.toArray items) n)->RelL w lv items vs->R (.ref a)):R v:=by obtain ⟨a,items,n,e,h1,h2,h3⟩:=h.inv; exact e ▸ K a items n h1 h2 h3
@[elab_as_elim] theorem Rel.ref_e {l i:Nat} (h:Rel w lv v (.ref l i)) (K:∀ a,l <= lv->look w.A l i = some a->R (.ref a)):R v:=by obtain ⟨a,e,h1,h2⟩:=h.inv; exact e ▸ K a h1 h2
end
noncomputable def dictB:Data->Bool
 | .dict _ _=>true
 | _=>false
noncomputable def Nd (o:Obj):Prop:=∀ es ep,o.data ≠ .dict es ep
noncomputable def Kp (h:Heap) (b:Addr) (o:Obj):Prop:=∃ sl,h.get? b = some { o with slots:=sl } /\ (Nd o->sl = o.slots)
theorem Kp.of {h:Heap} {b:Addr} {o:Obj} (e:h.get? b = some o):Kp h b o:=⟨o.slots,e,fun u_=>rfl⟩
theorem Kp.at {h:Heap} {b:Addr} {o:Obj} (k:Kp h b o) (n:Nd o):h.get? b = some o:=by
 obtain ⟨sl,e,q⟩:=k; rw [q n] at e; exact e
theorem nd_of {o:Obj} (h:dictB o.data = false):Nd o:=fun es ep q=>by rw [q] at h; cases h
theorem Kp.live {h:Heap} {b:Addr} {o:Obj} (k:Kp h b o):∃ o',h.get? b = some o':=let ⟨_,e,_⟩:=k; ⟨_,e⟩
theorem Kp.then {h h':Heap} {b:Addr} {o:Obj} (k:Kp h b o) (t:∀ o',h.get? b = some o'->Kp h' b o'):Kp h' b o:=by
 obtain ⟨sl,e,q⟩:=k
 obtain ⟨sl',e',q'⟩:=t _ e
 exact ⟨sl',e',fun n=>(q' n).trans (q n)⟩
theorem Kp.ns {h h':Heap} {a:Addr} {m:Str->Option Value} (k:∀ o,h.get? a = some o->Kp h' a o) (hn:h.Ns a m):h'.Ns a m:=by
 obtain ⟨o,es,ep,ho,hd,r⟩:=hn
 obtain ⟨sl,hs,_⟩:=k o ho
 exact ⟨_,es,ep,hs,hd,r⟩
theorem Kp.cell {h h':Heap} {a:Addr} {v:Option Value} (k:∀ o,h.get? a = some o->Kp h' a o) (hn:h.IsCell a v):h'.IsCell a v:=by
 obtain ⟨o,ho,r⟩:=hn
 obtain ⟨sl,hs,_⟩:=k o ho
 exact ⟨_,hs,r⟩
structure Wd.Le (lv:Nat) (w w':Wd):Prop where
 keep:∀ b o,w.h.get? b = some o->¬ w.M b->Kp w'.h b o
 avoid:∀ b o,w.h.get? b = some o->w'.M b->w.M b
 same:∀ l i a,l <= lv->look w.A l i = some a->look w'.A l i = some a
noncomputable def cellB:Data->Bool
 | .cell _=>true
 | _=>false
structure Wd.Le0 (lv:Nat) (w w':Wd):Prop where
 keep:∀ b o,w.h.get? b = some o->¬ w.M b->Kp w'.h b o
 avoid:∀ b o,w.h.get? b = some o->cellB o.data = false->w'.M b->w.M b
 same:∀ l i a,l <= lv->look w.A l i = some a->look w'.A l i = some a
theorem Wd.Le.to0 {lv:Nat} {w w':Wd} (h:Wd.Le lv w w'):Wd.Le0 lv w w':=⟨h.keep,fun b o e u_=>h.avoid b o e,h.same⟩
theorem Rel.mono0 {w w':Wd} {lv lv':Nat} (hl:Wd.Le0 lv w w') (hlv:lv <= lv') {v:Value} {x:V} (h:Rel w lv v x):Rel w' lv' v x:=
 Rel.rec (motive_1:=fun v x u_=>Rel w' lv' v x) (motive_2:=fun vs xs u_=>RelL w' lv' vs xs) .imm .int .str .bytes
  (fun hm hg u_ ih=>.tup (fun h=>hm (hl.avoid _ _ hg rfl h)) ((hl.keep _ _ hg hm).at (nd_of rfl)) ih) (fun hm hg u_ ih=>.lst (fun h=>hm (hl.avoid _ _ hg rfl h)) ((hl.keep _ _ hg hm).at (nd_of rfl)) ih)
  (fun hm hg=>.rng (fun h=>hm (hl.avoid _ _ hg rfl h)) ((hl.keep _ _ hg hm).at (nd_of rfl))) (fun h1 h2=>.ref (Nat.le_trans h1 hlv) (hl.same _ _ _ h1 h2)) .nil (fun u_ u_ a b=>.cons a b) h
theorem RelL.mono0 {w w':Wd} {lv lv':Nat} (hl:Wd.Le0 lv w w') (hlv:lv <= lv') {vs:List Value} {xs:List V} (h:RelL w lv vs xs):RelL w' lv' vs xs:=
 h.ind .nil fun h1 u_ ih=>.cons (h1.mono0 hl hlv) ih
theorem Rel.mono {w w':Wd} {lv lv':Nat} (hl:Wd.Le lv w w') (hlv:lv <= lv') {v:Value} {x:V} (h:Rel w lv v x):Rel w' lv' v x:=h.mono0 hl.to0 hlv
theorem RelL.mono {w w':Wd} {lv lv':Nat} (hl:Wd.Le lv w w') (hlv:lv <= lv') {vs:List Value} {xs:List V} (h:RelL w lv vs xs):RelL w' lv' vs xs:=h.mono0 hl.to0 hlv
theorem Wd.Le.refl (lv:Nat) (w:Wd):Wd.Le lv w w:=⟨fun u_ u_ e u_=>.of e,fun u_ u_ u_ h=>h,fun u_ u_ u_ u_ e=>e⟩
theorem Wd.Le.trans {lv:Nat} {a b c:Wd} (x:Wd.Le lv a b) (y:Wd.Le lv b c):Wd.Le lv a c:=
 ⟨fun d o e h=>(x.keep d o e h).then fun o' e'=>y.keep d o' e' (fun h'=>h (x.avoid d o e h')),fun d o e h=>by
  by_cases hm:a.M d
  ·exact hm
  ·obtain ⟨o',e'⟩:=(x.keep d o e hm).live
   exact absurd (x.avoid d o e (y.avoid d o' e' h)) hm,fun l i d h e=>y.same l i d h (x.same l i d h e)⟩
namespace RelL
theorem length {w:Wd} {lv:Nat} {vs:List Value} {xs:List V} (h:RelL w lv vs xs):vs.length = xs.length:=h.ind (p:=fun vs xs=>vs.length = xs.length) rfl fun u_ u_ ih=>congrArg (· + 1) ih
theorem get {w:Wd} {lv:Nat} {vs:List Value} {xs:List V} {i:Nat} {x:V} (h:RelL w lv vs xs):xs[i]? = some x->∃ v,vs[i]? = some v /\ Rel w lv v x:=
 h.ind (p:=fun vs xs=>∀ i,xs[i]? = some x->∃ v,vs[i]? = some v /\ Rel w lv v x) (fun u_ e=>by cases e) (fun h1 u_ ih i e=>match i,e with
  | 0,e=>⟨_,rfl,Option.some.inj e ▸ h1⟩
  | i + 1,e=>ih i e) i
theorem append {w:Wd} {lv:Nat} {vs us:List Value} {xs ys:List V} (h:RelL w lv vs xs) (k:RelL w lv us ys):RelL w lv (vs ++ us) (xs ++ ys):=
 h.ind (p:=fun vs xs=>RelL w lv (vs ++ us) (xs ++ ys)) k fun h1 u_ ih=>.cons h1 ih
theorem take {w:Wd} {lv:Nat} {vs:List Value} {xs:List V} (n:Nat) (h:RelL w lv vs xs):RelL w lv (vs.take n) (xs.take n):=
 h.ind (p:=fun vs xs=>∀ n,RelL w lv (vs.take n) (xs.take n)) (fun n=>match n with | 0=>.nil | _ + 1=>.nil) (fun h1 u_ ih n=>match n with | 0=>.nil | n + 1=>.cons h1 (ih n)) n
theorem drop {w:Wd} {lv:Nat} {vs:List Value} {xs:List V} (n:Nat) (h:RelL w lv vs xs):RelL w lv (vs.drop n) (xs.drop n):=
 h.ind (p:=fun vs xs=>∀ n,RelL w lv (vs.drop n) (xs.drop n)) (fun n=>match n with | 0=>.nil | _ + 1=>.nil) (fun h1 h2 ih n=>match n with | 0=>.cons h1 h2 | n + 1=>ih n) n
theorem set {w:Wd} {lv:Nat} {v:Value} {x:V} (hv:Rel w lv v x) {vs:List Value} {xs:List V} (n:Nat) (h:RelL w lv vs xs):RelL w lv (vs.set n v) (xs.set n x):=
 h.ind (p:=fun vs xs=>∀ n,RelL w lv (vs.set n v) (xs.set n x)) (fun n=>match n with | 0=>.nil | _ + 1=>.nil) (fun h1 h2 ih n=>match n with | 0=>.cons hv h2 | n + 1=>.cons h1 (ih n)) n
theorem reverse {w:Wd} {lv:Nat} {vs:List Value} {xs:List V} (h:RelL w lv vs xs):RelL w lv vs.reverse xs.reverse:=
 h.ind (p:=fun vs xs=>RelL w lv vs.reverse xs.reverse) .nil fun h1 u_ ih=>by rw [List.reverse_cons,List.reverse_cons]; exact append ih (.cons h1 .nil)
theorem replicate {w:Wd} {lv:Nat} {vs:List Value} {xs:List V} (h:RelL w lv vs xs) (n:Nat):RelL w lv (List.replicate n vs).flatten (List.replicate n xs).flatten:=
 Nat.rec .nil (fun u_ ih=>append h ih) n
theorem toInts {w:Wd} {lv:Nat} {vs:List Value} {xs:List V} {is:List Int} (h:RelL w lv vs xs):intsOf xs = some is->IntsAre vs is /\ xs = is.map .int:=
 h.ind (p:=fun vs xs=>∀ is,intsOf xs = some is->IntsAre vs is /\ xs = is.map .int) (fun is e=>by cases e; exact ⟨by constructor,rfl⟩) (fun {v x vs xs} h1 _ ih is e=>by
  obtain ⟨i,l,rfl,hl,rfl⟩:=intsOf_t e
  obtain ⟨a,b⟩:=ih l hl
  exact h1.int_e fun t=>⟨by constructor; exact a,by rw [b]; rfl⟩) is
end RelL
end
section
set_option backward.eqns.nonrecursive false
structure Base where
 prog:Program
 w:World
 G:Pg
 frs:List Addr
 h₀:Heap
 mg:Str->Option Value
 mb:Str->Option Value
 nsG:h₀.Ns mainGlobals mg
 nsB:h₀.Ns builtinsNs mb
 nolim:h₀.NoLimit
noncomputable def Base.on (B:Base) (frs:List Addr):Base:={ B with frs:=frs }
noncomputable def Tch (lay:List Loc) (A:List (List Addr)) (b:Addr):Prop:=(∃ l ∈ lay,l.addr = b) ∨ ∃ l i,look A l i = some b
noncomputable def Avd (lay:List Loc) (A:List (List Addr)) (P:Addr->Prop) (b:Addr):Prop:=Tch lay A b ∨ P b
noncomputable abbrev wd (lay:List Loc) (A:List (List Addr)) (P:Addr->Prop) (h:Heap):Wd:=⟨h,A,Tch lay A,Avd lay A P⟩
noncomputable def CodeM (w:Wd) (cv:Value) (q:Str):Prop:=∃ c o vs t,cv = .ref c /\ ¬ w.M c /\ w.h.get? c = some o /\ o.data = .fields vs /\ vs[1]? = some (.str q t)
theorem CodeM.mono0 {w w':Wd} {lv:Nat} {cv:Value} {q:Str} (le:Wd.Le0 lv w w') (h:CodeM w cv q):CodeM w' cv q:=by
 obtain ⟨c,o,vs,t,e,h1,h2,h3,h4⟩:=h
 exact ⟨c,o,vs,t,e,fun x=>h1 (le.avoid _ _ h2 (by rw [h3]; rfl) x),(le.keep _ _ h2 h1).at (nd_of (by rw [h3]; rfl)),h3,h4⟩
theorem CodeM.mono {w w':Wd} {lv:Nat} {cv:Value} {q:Str} (le:Wd.Le lv w w') (h:CodeM w cv q):CodeM w' cv q:=h.mono0 le.to0
theorem CodeM.rc {w:Wd} {cv:Value} {q:Str} (h:CodeM w cv q):w.h.CodeRec cv q:=by
 obtain ⟨c,o,vs,t,e,_,h2,h3,h4⟩:=h
 exact ⟨c,o,vs,t,e,h2,h3,h4⟩
noncomputable def TabRep (w:Wd) (a c:Addr) (q:Str):Prop:=∃ ps,w.h.get? a = some (tabObj ps) /\ TriplesOk ps.toList /\ (∀ pos cv,codeAmong pos ps.toList = some cv->CodeM w cv q) /\ ¬ w.M c /\ CodeHd w.h c a
theorem TabRep.mono0 {w w':Wd} {lv:Nat} {a c:Addr} {q:Str} (le:Wd.Le0 lv w w') (ha:∀ o,w.h.get? a = some o->Nd o->w'.h.get? a = some o) (h:TabRep w a c q):TabRep w' a c q:=by
 obtain ⟨ps,h1,h2,h3,h4,o,vs,file,tf,flags,tg,inF,text,tt,e1,e2,e3,e4⟩:=h
 exact ⟨ps,ha _ h1 (nd_of rfl),h2,fun pos cv e=>(h3 pos cv e).mono0 le,fun x=>h4 (le.avoid _ _ e1 (by rw [e3]; rfl) x),o,vs,file,tf,flags,tg,inF,text,tt,(le.keep _ _ e1 h4).at (nd_of (by rw [e3]; rfl)),e2,e3,e4⟩
theorem TabRep.mono {w w':Wd} {lv:Nat} {a c:Addr} {q:Str} (le:Wd.Le lv w w') (ha:∀ o,w.h.get? a = some o->Nd o->w'.h.get? a = some o) (h:TabRep w a c q):TabRep w' a c q:=h.mono0 le.to0 ha
noncomputable def CloRep (w:Wd) (lv:Nat) (v:Value) (m:Lam) (vs:List V):Prop:=∃ a qual ps e sc clos pm cdv ct,v = .ref a /\ ¬ w.M a /\ w.h.get? a = some { cls:=.type "function",data:=.func (kla_fn "<lambda>" qual ps e sc clos pm cdv ct) } /\ CodeM w cdv qual /\ lamOk m ps e sc = true /\
 ∀ (i:Nat) (x:Str),m.caps[i]? = some x->∃ (c:Addr) (cv:Value) (u:V),clos.lookup x = some c /\ ¬ w.M c /\ w.h.IsCell c (some cv) /\ vs[i]? = some u /\ Rel w lv cv u
theorem CloRep.mono {w w':Wd} {lv lv':Nat} {v:Value} {m:Lam} {vs:List V} (le:Wd.Le lv w w') (hlv:lv <= lv') (h:CloRep w lv v m vs):CloRep w' lv' v m vs:=by
 obtain ⟨a,qual,ps,e,sc,clos,pm,cdv,ct,e1,h1,h2,h3,h4,h5⟩:=h
 refine ⟨a,qual,ps,e,sc,clos,pm,cdv,ct,e1,fun x=>h1 (le.avoid _ _ h2 x),(le.keep _ _ h2 h1).at (nd_of rfl),h3.mono le,h4,fun i x q=>?_⟩
 obtain ⟨c,cv,u,k1,k2,⟨o,k3,k4⟩,k5,k6⟩:=h5 i x q
 exact ⟨c,cv,u,k1,fun x=>k2 (le.avoid _ _ k3 x),⟨o,(le.keep _ _ k3 k2).at (nd_of (by rw [k4]; rfl)),k4⟩,k5,k6.mono le hlv⟩
inductive RelO (w:Wd) (lv:Nat):Option Value->Option V->Prop
 | none {v}:RelO w lv v none
 | some {v x}:Rel w lv v x->RelO w lv (some v) (some x)
 | clo {v m vs}:CloRep w lv v m vs->RelO w lv (some v) (some (.clo m vs))
theorem RelO.mono {w w':Wd} {lv lv':Nat} (hl:Wd.Le lv w w') (hlv:lv <= lv') {v x} (h:RelO w lv v x):RelO w' lv' v x:=by
 cases h with
 | none=>exact .none
 | some h=>exact .some (h.mono hl hlv)
 | clo h=>exact .clo (h.mono hl hlv)
noncomputable def SlotRep (w:Wd) (lv:Nat):Loc->Option V->Prop
 | .dict L x,o=>∃ m,w.h.Ns L m /\ RelO w lv (m x) o
 | .cell c,o=>∃ cv,w.h.IsCell c cv /\ RelO w lv cv o
noncomputable def ObjRep (w:Wd) (l:Nat) (a:Addr):AObj->Prop
 | .list vs=>∃ items n,w.h.get? a = some (LObj (List.toArray items) n) /\ RelL w l items vs
 | .iter vs=>∃ b items n i,w.h.get? a = some { cls:=.type "list_iterator",dict:=none,data:=.fields #[.ref b,.int (i:Nat) 0],slots:=#[] } /\ ¬ w.M b /\
   w.h.get? b = some (LObj (List.toArray items) n) /\ RelL w l (items.drop i) vs
 | .tab c q=>TabRep w a c q
 | .dead=>∃ o,w.h.get? a = some o /\ Nd o
noncomputable def Loc.apart:Loc->Loc->Prop
 | .dict L x,.dict L' y=>L ≠ L' ∨ x ≠ y
 | .dict L _,.cell c=>L ≠ c
 | .cell c,.dict L _=>c ≠ L
 | .cell c,.cell c'=>c ≠ c'
structure Ok (B:Base) (lay:List Loc) (P:Addr->Prop) (nl:Nat) (A:List (List Addr)) (st:St) (s:Shared):Prop where
 base:∀ b o,B.h₀.get? b = some o->s.heap.get? b = some o
 baseM:∀ b o,B.h₀.get? b = some o->¬ Avd lay A P b
 frs:∀ L ∈ B.frs,∃ o es ep,s.heap.get? L = some o /\ o.data = .dict es ep /\ B.h₀.get? L = none
 len:st.ρ.length = lay.length
 slots:∀ (i:Nat) (l:Loc),lay[i]? = some l->SlotRep (wd lay A P s.heap) (nl - 1) l (st.ρ[i]?).join
 sep:∀ (i j:Nat) (l l':Loc),lay[i]? = some l->lay[j]? = some l'->i ≠ j->l.apart l'
 lenA:A.length = st.R.length
 dimA:∀ l i,look A l i = none ↔ st.obj l i = none
 objs:∀ l i o a,st.obj l i = some o->look A l i = some a->ObjRep (wd lay A P s.heap) l a o
 inj:∀ l i l' i' a,look A l i = some a->look A l' i' = some a->l = l' /\ i = i'
 layA:∀ l ∈ lay,∀ k i,look A k i ≠ some l.addr
 disP:∀ b,P b->¬ Tch lay A b
 alive:∀ b,Avd lay A P b->∃ o,s.heap.get? b = some o
 rlen:st.R.length = nl
 lvl:0 < nl
structure Go (lay:List Loc) (A A':List (List Addr)) (s s':Shared):Prop where
 keep:∀ b o,s.heap.get? b = some o->¬ Tch lay A b->Kp s'.heap b o
 live:∀ b o,s.heap.get? b = some o->∃ o',s'.heap.get? b = some o'
 same:∀ l i a,look A l i = some a->look A' l i = some a
 new:∀ l i a,look A' l i = some a->look A l i = some a ∨ s.heap.get? a = none
 rest:s'.gens = s.gens /\ s'.drawn = s.drawn /\ s'.os = s.os
theorem Go.refl {lay A s}:Go lay A A s s:=⟨fun u_ u_ e u_=>.of e,fun u_ o e=>⟨o,e⟩,fun u_ u_ u_ e=>e,fun u_ u_ u_ e=>.inl e,rfl,rfl,rfl⟩
theorem Go.tch {lay A A' s s'} (g:Go lay A A' s s') {b o} (e:s.heap.get? b = some o) (h:Tch lay A' b):Tch lay A b:=by
 rcases h with h | ⟨l,i,h⟩
 ·exact .inl h
 ·rcases g.new l i b h with h | h
  ·exact .inr ⟨l,i,h⟩
  ·rw [e] at h; cases h
theorem Go.trans {lay A A' A'' s s' s''} (g:Go lay A A' s s') (k:Go lay A' A'' s' s''):Go lay A A'' s s'' where
 keep b o e h:=(g.keep b o e h).then fun o' e'=>k.keep b o' e' fun h'=>h (g.tch e h')
 live b o e:=let ⟨o',e'⟩:=g.live b o e; k.live b o' e'
 same l i a e:=k.same l i a (g.same l i a e)
 new l i a e:=by
  rcases k.new l i a e with e | e
  ·exact g.new l i a e
  ·cases h:s.heap.get? a with
   | none=>exact .inr rfl
   | some o=>obtain ⟨o',h'⟩:=g.live a o h; rw [e] at h'; cases h'
 rest:=⟨k.rest.1.trans g.rest.1,k.rest.2.1.trans g.rest.2.1,k.rest.2.2.trans g.rest.2.2⟩
theorem Go.le {lay A A' s s'} (g:Go lay A A' s s') (P:Addr->Prop) (lv:Nat):Wd.Le lv (wd lay A P s.heap) (wd lay A' P s'.heap) where
 keep b o e h:=g.keep b o e fun h'=>h (.inl h')
 avoid b o e h:=by
  rcases h with h | h
  ·exact .inl (g.tch e h)
  ·exact .inr h
 same l i a _ e:=g.same l i a e
noncomputable def Post {α β:Type} (B:Base) (lay:List Loc) (P:Addr->Prop) (A:List (List Addr)) (s:Shared) (nl:Nat) (st':St) (r:β) (RR:Wd->Nat->α->β->Prop) (v:α) (s':Shared):Prop:=
 ∃ A',Go lay A A' s s' /\ Ok B lay P nl A' st' s' /\ RR (wd lay A' P s'.heap) (nl - 1) v r
theorem Post.lift {α β:Type} {B lay P A A₁ s s₁ nl st'} {r:β} {RR:Wd->Nat->α->β->Prop} {v:α} {s'} (g:Go lay A A₁ s s₁) (h:Post B lay P A₁ s₁ nl st' r RR v s'):Post B lay P A s nl st' r RR v s':=by
 obtain ⟨A',g',h⟩:=h
 exact ⟨A',g.trans g',h⟩
theorem Post.pure {α β:Type} {B lay P A s nl st} {r:β} {RR:Wd->Nat->α->β->Prop} {v:α} (ok:Ok B lay P nl A st s) (hr:RR (wd lay A P s.heap) (nl - 1) v r) :
  Post B lay P A s nl st r RR v s:=⟨A,.refl,ok,hr⟩
theorem Ok.grow {B lay P nl A st s} (ok:Ok B lay P nl A st s) {h':Heap} {tk:Nat} (hk:∀ b o,s.heap.get? b = some o->h'.get? b = some o) :
  Ok B lay P nl A st { s with heap:=h',toks:=tk } /\ Go lay A A s { s with heap:=h',toks:=tk }:=by
 have g:Go lay A A s { s with heap:=h',toks:=tk }:=⟨fun b o e u_=>.of (hk b o e),fun b o e=>⟨o,hk b o e⟩,fun u_ u_ u_ e=>e,fun u_ u_ u_ e=>.inl e,rfl,rfl,rfl⟩
 refine ⟨?_,g⟩
 have le:=fun lv=>g.le P lv
 exact {
  base:=fun b o e=>hk b o (ok.base b o e)
  baseM:=ok.baseM
  frs:=fun L m=>let ⟨o,es,ep,h1,h2⟩:=ok.frs L m; ⟨o,es,ep,hk _ _ h1,h2⟩
  len:=ok.len
  slots:=fun i l e=>by
   have:=ok.slots i l e
   cases l with
   | dict L x=>obtain ⟨m,h1,h2⟩:=this; exact ⟨m,h1.keeps hk,h2.mono (le _) (Nat.le_refl _)⟩
   | cell c=>obtain ⟨m,h1,h2⟩:=this; exact ⟨m,h1.keeps hk,h2.mono (le _) (Nat.le_refl _)⟩
  sep:=ok.sep
  lenA:=ok.lenA
  dimA:=ok.dimA
  objs:=fun l i o a h1 h2=>by
   have:=ok.objs l i o a h1 h2
   cases o with
   | list vs=>obtain ⟨items,n,h3,h4⟩:=this; exact ⟨items,n,hk _ _ h3,h4.mono (le _) (Nat.le_refl _)⟩
   | iter vs=>obtain ⟨b,items,n,j,h3,h5,h6,h4⟩:=this; exact ⟨b,items,n,j,hk _ _ h3,h5,hk _ _ h6,h4.mono (le _) (Nat.le_refl _)⟩
   | tab c q=>exact TabRep.mono (le 0) (fun o e u_=>hk _ _ e) this
   | dead=>obtain ⟨o,h3,h4⟩:=this; exact ⟨o,hk _ _ h3,h4⟩
  inj:=ok.inj
  layA:=ok.layA
  disP:=ok.disP
  alive:=fun b h=>let ⟨o,e⟩:=ok.alive b h; ⟨o,hk b o e⟩
  rlen:=ok.rlen
  lvl:=ok.lvl }
theorem Ok.toks {B lay P nl A st s} (ok:Ok B lay P nl A st s) (tk:Nat):Ok B lay P nl A st { s with toks:=tk } /\ Go lay A A s { s with toks:=tk }:=
 ok.grow (h':=s.heap) (fun u_ u_ e=>e)
noncomputable abbrev RV:Wd->Nat->Value->V->Prop:=fun w lv v x=>Rel w lv v x
theorem Ok.fresh {B lay P nl A st s} (ok:Ok B lay P nl A st s):¬ Avd lay A P s.heap.objs.size:=fun h=>let ⟨_,e⟩:=ok.alive _ h; Nat.lt_irrefl _ (Heap.lt_size e)
end
section
theorem look_some {A:List (List Addr)} {l i:Nat} {a:Addr} (h:look A l i = some a):∃ as,A[l]? = some as /\ as[i]? = some a:=by
 unfold look at h
 split at h
 ·exact ⟨_,‹_›,h⟩
 ·cases h
theorem look_lt {A:List (List Addr)} {l i:Nat} {a:Addr} (h:look A l i = some a):l < A.length:=by
 obtain ⟨as,h1,_⟩:=look_some h
 exact (List.getElem?_eq_some_iff.mp h1).1
theorem look_push (A0:List (List Addr)) (as:List Addr) (a:Addr) (l i:Nat) :
  look (A0 ++ [as ++ [a]]) l i = if l = A0.length /\ i = as.length then some a else look (A0 ++ [as]) l i:=by
 unfold look
 rcases Nat.lt_trichotomy l A0.length with h | h | h
 ·rw [List.getElem?_append_left h,List.getElem?_append_left h,if_neg (fun x=>absurd x.1 (Nat.ne_of_lt h))]
 ·subst h
  simp only [List.getElem?_concat_length,true_and]
  rcases Nat.lt_trichotomy i as.length with k | k | k
  ·rw [List.getElem?_append_left k,if_neg (Nat.ne_of_lt k)]
  ·subst k; simp
  ·rw [List.getElem?_eq_none (by simp; lia),if_neg (by lia),List.getElem?_eq_none (by lia)]
 ·rw [List.getElem?_eq_none (by simp; lia),List.getElem?_eq_none (by simp; lia),if_neg (by lia)]
theorem obj_push (ρ ρ':List (Option V)) (R0:List (List AObj)) (r:List AObj) (o:AObj) (l i:Nat) :
  St.obj ⟨ρ,R0 ++ [r ++ [o]]⟩ l i = if l = R0.length /\ i = r.length then some o else St.obj ⟨ρ',R0 ++ [r]⟩ l i:=by
 unfold St.obj
 dsimp only
 rcases Nat.lt_trichotomy l R0.length with h | h | h
 ·rw [List.getElem?_append_left h,List.getElem?_append_left h,if_neg (fun x=>absurd x.1 (Nat.ne_of_lt h))]
 ·subst h
  simp only [List.getElem?_concat_length,true_and]
  rcases Nat.lt_trichotomy i r.length with k | k | k
  ·rw [List.getElem?_append_left k,if_neg (Nat.ne_of_lt k)]
  ·subst k; simp
  ·rw [List.getElem?_eq_none (by simp; lia),if_neg (by lia),List.getElem?_eq_none (by lia)]
 ·rw [List.getElem?_eq_none (by simp; lia),List.getElem?_eq_none (by simp; lia),if_neg (by lia)]
theorem obj_set (st:St) (l i:Nat) (o:AObj) (l' i':Nat) :
  (st.setObj l i o).obj l' i' = if l' = l /\ i' = i then (st.obj l i).map (fun u_=>o) else st.obj l' i':=by
 unfold St.setObj St.obj
 dsimp only
 rw [List.getElem?_modify]
 by_cases h:l = l'
 ·subst h
  simp only [if_true,true_and]
  cases hR:st.R[l]? with
  | none=>simp
  | some r=>
   show (match (Option.map (fun a=>a.set i o) (some r)) with | some r=>r[i']? | none=>none) = _
   simp only [Option.map_some]
   by_cases k:i = i'
   ·subst k
    simp only [if_true,List.getElem?_set]
    by_cases hl:i < r.length
    ·simp [hl]
    ·simp [hl]
   ·rw [if_neg (fun x=>k x.symm),List.getElem?_set_ne k]
 ·rw [if_neg (fun x=>h x.1.symm)]
  cases st.R[l']? <;> simp [h]
theorem setObj_len (st:St) (l i:Nat) (o:AObj):(st.setObj l i o).R.length = st.R.length:=by simp [St.setObj]
theorem rep_apart0 {w:Wd} {w':Wd} {l:Nat} {a:Addr} {o:AObj} (le:Wd.Le0 l w w') (ha:∀ q,w.h.get? a = some q->w'.h.get? a = some q) (h:ObjRep w l a o):ObjRep w' l a o:=by
 cases o with
 | list vs=>obtain ⟨items,n,h3,h4⟩:=h; exact ⟨items,n,ha _ h3,h4.mono0 le (Nat.le_refl _)⟩
 | iter vs=>obtain ⟨b,items,n,j,h3,h5,h6,h4⟩:=h; exact ⟨b,items,n,j,ha _ h3,fun x=>h5 (le.avoid _ _ h6 rfl x),(le.keep _ _ h6 h5).at (nd_of rfl),h4.mono0 le (Nat.le_refl _)⟩
 | tab c q=>exact TabRep.mono0 le (fun o e u_=>ha _ e) h
 | dead=>obtain ⟨o,h3,h4⟩:=h; exact ⟨o,ha _ h3,h4⟩
theorem rep_apart {w:Wd} {w':Wd} {l:Nat} {a:Addr} {o:AObj} (le:Wd.Le l w w') (ha:∀ q,w.h.get? a = some q->w'.h.get? a = some q) (h:ObjRep w l a o)
  (hm:∀ b q,w.h.get? b = some q->w'.M b->w.M b):ObjRep w' l a o:=by
 cases o with
 | list vs=>obtain ⟨items,n,h3,h4⟩:=h; exact ⟨items,n,ha _ h3,h4.mono le (Nat.le_refl _)⟩
 | iter vs=>obtain ⟨b,items,n,j,h3,h5,h6,h4⟩:=h; exact ⟨b,items,n,j,ha _ h3,fun x=>h5 (hm _ _ h6 x),(le.keep _ _ h6 h5).at (nd_of rfl),h4.mono le (Nat.le_refl _)⟩
 | tab c q=>exact TabRep.mono le (fun o e u_=>ha _ e) h
 | dead=>obtain ⟨o,h3,h4⟩:=h; exact ⟨o,ha _ h3,h4⟩
theorem slot_apart' {w:Wd} {w':Wd} {lv:Nat} {l:Loc} {o:Option V} (le:Wd.Le lv w w') (ha:∀ q,w.h.get? l.addr = some q->Kp w'.h l.addr q) (h:SlotRep w lv l o):SlotRep w' lv l o:=by
 cases l with
 | dict L x=>obtain ⟨m,h1,h2⟩:=h; exact ⟨m,Kp.ns ha h1,h2.mono le (Nat.le_refl _)⟩
 | cell c=>obtain ⟨m,h1,h2⟩:=h; exact ⟨m,Kp.cell ha h1,h2.mono le (Nat.le_refl _)⟩
theorem slot_apart {w:Wd} {w':Wd} {lv:Nat} {l:Loc} {o:Option V} (le:Wd.Le lv w w') (ha:∀ q,w.h.get? l.addr = some q->w'.h.get? l.addr = some q) (h:SlotRep w lv l o):SlotRep w' lv l o:=by
 cases l with
 | dict L x=>obtain ⟨m,h1,h2⟩:=h; exact ⟨m,h1.at' ha,h2.mono le (Nat.le_refl _)⟩
 | cell c=>obtain ⟨m,⟨q,h1,h1'⟩,h2⟩:=h; exact ⟨m,⟨q,ha _ h1,h1'⟩,h2.mono le (Nat.le_refl _)⟩
section
variable {B:Base} {lay:List Loc} {P:Addr->Prop} {nl:Nat} {A:List (List Addr)} {st:St} {s:Shared}
theorem Ok.obj_of (ok:Ok B lay P nl A st s) {l i:Nat} {a:Addr} (h:look A l i = some a):∃ o,st.obj l i = some o:=by
 cases e:st.obj l i with
 | some o=>exact ⟨o,rfl⟩
 | none=>rw [(ok.dimA l i).mpr e] at h; cases h
theorem Ok.look_of (ok:Ok B lay P nl A st s) {l i:Nat} {o:AObj} (h:st.obj l i = some o):∃ a,look A l i = some a:=by
 cases e:look A l i with
 | some o=>exact ⟨o,rfl⟩
 | none=>rw [(ok.dimA l i).mp e] at h; cases h
theorem rep_live {w:Wd} {l:Nat} {a:Addr} {o:AObj} (h:ObjRep w l a o):∃ q,w.h.get? a = some q:=by
 cases o with
 | list vs=>obtain ⟨items,n,h3,h4⟩:=h; exact ⟨_,h3⟩
 | iter vs=>obtain ⟨b,items,n,j,h3,h5,h6,h4⟩:=h; exact ⟨_,h3⟩
 | tab c q=>obtain ⟨ps,h1,_⟩:=h; exact ⟨_,h1⟩
 | dead=>obtain ⟨o,h3,_⟩:=h; exact ⟨o,h3⟩
theorem frame_obj {L:Addr} {o:Obj} {es ep} (hc:o.data = .dict es ep) (h1:s.heap.get? L = some o) (h:∃ lv:Nat × Nat,look A lv.1 lv.2 = some L /\ ∃ q,st.obj lv.1 lv.2 = some q /\ ObjRep (wd lay A P s.heap) lv.1 L q):False:=by
 obtain ⟨lv,_,q,_,h⟩:=h
 cases q with
 | list vs=>obtain ⟨items,n,h3,_⟩:=h; rw [show s.heap.get? L = _ from h3] at h1; cases h1; exact nomatch hc
 | iter vs=>obtain ⟨b,items,n,j,h3,_⟩:=h; rw [show s.heap.get? L = _ from h3] at h1; cases h1; exact nomatch hc
 | tab c q=>obtain ⟨ps,h3,_⟩:=h; rw [show s.heap.get? L = _ from h3] at h1; cases h1; exact nomatch hc
 | dead=>obtain ⟨q,h3,h4⟩:=h; rw [show s.heap.get? L = _ from h3] at h1; cases h1; exact h4 _ _ hc
theorem Ok.setObj (ok:Ok B lay P nl A st s) {l i:Nat} {a:Addr} {o':AObj} {h':Heap} {tk:Nat} (hl:look A l i = some a)
  (hk:∀ b o,b ≠ a->s.heap.get? b = some o->h'.get? b = some o) (ho:ObjRep (wd lay A P h') l a o') :
  Ok B lay P nl A (st.setObj l i o') { s with heap:=h',toks:=tk } /\ Go lay A A s { s with heap:=h',toks:=tk }:=by
 have ta:Tch lay A a:=.inr ⟨l,i,hl⟩
 have hlive:∀ b o,s.heap.get? b = some o->∃ o',h'.get? b = some o':=fun b o e=>by
  by_cases q:b = a
  ·subst q; exact rep_live ho
  ·exact ⟨o,hk b o q e⟩
 have g:Go lay A A s { s with heap:=h',toks:=tk }:=⟨fun b o e h=>.of (hk b o (fun q=>h (q ▸ ta)) e),hlive,fun u_ u_ u_ e=>e,fun u_ u_ u_ e=>.inl e,rfl,rfl,rfl⟩
 have le:=fun lv=>g.le P lv
 refine ⟨?_,g⟩
 exact {
  base:=fun b o e=>hk b o (fun q=>ok.baseM b o e (q ▸ .inl ta)) (ok.base b o e)
  baseM:=ok.baseM
  frs:=fun L m=>let ⟨o,es,ep,h1,h2⟩:=ok.frs L m; ⟨o,es,ep,hk _ _ (fun q=>by subst q; exact frame_obj h2.1 h1 ⟨(l,i),hl,_,(ok.obj_of hl).choose_spec,ok.objs _ _ _ _ (ok.obj_of hl).choose_spec hl⟩) h1,h2⟩
  len:=ok.len
  slots:=fun j lo e=>slot_apart (le _) (fun q hq=>hk _ _ (fun x=>ok.layA lo (List.mem_of_getElem? e) l i (x ▸ hl)) hq) (by rw [show (st.setObj l i o').ρ = st.ρ from rfl]; exact ok.slots j lo e)
  sep:=ok.sep
  lenA:=by rw [setObj_len]; exact ok.lenA
  dimA:=fun l' i'=>by
   rw [obj_set]
   split
   ·rename_i q
    obtain ⟨rfl,rfl⟩:=q
    obtain ⟨o,e⟩:=ok.obj_of hl
    rw [e,hl]; simp
   ·exact ok.dimA l' i'
  objs:=fun l' i' o b h1 h2=>by
   rw [obj_set] at h1
   split at h1
   ·rename_i q
    obtain ⟨rfl,rfl⟩:=q
    obtain ⟨o₀,e⟩:=ok.obj_of hl
    rw [e] at h1; cases h1
    rw [hl] at h2; cases h2
    exact ho
   ·rename_i q
    have hne:b ≠ a:=fun x=>q (ok.inj l' i' l i b h2 (x ▸ hl))
    exact rep_apart (le _) (fun q hq=>hk _ _ hne hq) (ok.objs l' i' o b h1 h2) fun u_ u_ u_ h=>h
  inj:=ok.inj
  layA:=ok.layA
  disP:=ok.disP
  alive:=fun b h=>let ⟨o,e⟩:=ok.alive b h; hlive b o e
  rlen:=by rw [setObj_len]; exact ok.rlen
  lvl:=ok.lvl }
theorem last_of {α:Type} {l:List α} {x:α} (h:l.getLast? = some x):l = l.dropLast ++ [x]:=by
 obtain ⟨ys,rfl⟩:=List.getLast?_eq_some_iff.mp h
 simp
theorem Ok.alloc (ok:Ok B lay P nl A st s) {o:AObj} {x:V} {st':St} {h':Heap} {tk:Nat} (h:st.alloc o = some (x,st'))
  (hk:∀ b q,s.heap.get? b = some q->h'.get? b = some q) {a:Addr} (ha:s.heap.get? a = none)
  (ho:∀ w:Wd,w.h = h'->(∀ b,w.M b->Avd lay A P b ∨ b = a)->Wd.Le (nl - 1) (wd lay A P s.heap) w->ObjRep w (nl - 1) a o) :
  Post B lay P A s nl st' x RV (.ref a) { s with heap:=h',toks:=tk }:=by
 unfold St.alloc at h
 split at h
 ·rename_i r hr
  cases h
  have hR:=last_of hr
  have hRl:st.R.dropLast.length = nl - 1:=by rw [List.length_dropLast,ok.rlen]
  have hAl:A ≠ []:=fun e=>by
   have:=ok.lenA
   have h2:=ok.rlen
   have h3:=ok.lvl
   rw [e] at this; simp at this; lia
  obtain ⟨as,hA⟩ : ∃ as,A = A.dropLast ++ [as]:=⟨A.getLast hAl,last_of (List.getLast?_eq_some_getLast hAl)⟩
  have hA0:A.dropLast.length = nl - 1:=by rw [List.length_dropLast,ok.lenA,ok.rlen]
  have hlen:as.length = r.length:=by
   have key:∀ i,as[i]? = none ↔ r[i]? = none:=fun i=>by
    have:=ok.dimA (nl - 1) i
    unfold look St.obj at this
    rw [hA,hR,<- hA0,List.getElem?_concat_length,hA0,<- hRl,List.getElem?_concat_length] at this
    exact this
   have k1:=key as.length
   have k2:=key r.length
   simp only [List.getElem?_eq_none_iff,Nat.le_refl,true_iff,iff_true] at k1 k2
   lia
  let A':=A.dropLast ++ [as ++ [a]]
  have hlook:∀ l i,look A' l i = if l = nl - 1 /\ i = as.length then some a else look A l i:=fun l i=>by
   have:=look_push A.dropLast as a l i
   rw [hA0,<- hA] at this
   exact this
  have hobj:∀ l i,St.obj ⟨st.ρ,st.R.dropLast ++ [r ++ [o]]⟩ l i = if l = nl - 1 /\ i = as.length then some o else st.obj l i:=fun l i=>by
   have:=obj_push st.ρ st.ρ st.R.dropLast r o l i
   rw [hRl,<- hR,<- hlen] at this
   exact this
  have hnone:look A (nl - 1) as.length = none:=by
   unfold look
   rw [hA,<- hA0,List.getElem?_concat_length]
   exact List.getElem?_eq_none (Nat.le_refl _)
  have hold:∀ l i b,look A l i = some b->look A' l i = some b:=fun l i b e=>by
   rw [hlook]
   split
   ·rename_i q; rw [q.1,q.2,hnone] at e; cases e
   ·exact e
  have hnew:∀ l i b,look A' l i = some b->look A l i = some b ∨ b = a:=fun l i b e=>by
   rw [hlook] at e
   split at e
   ·cases e; exact .inr rfl
   ·exact .inl e
  have ha':∃ q,h'.get? a = some q:=rep_live (ho ⟨h',A,Tch lay A,Avd lay A P⟩ rfl (fun b h=>.inl h) ⟨fun b o e u_=>.of (hk b o e),fun u_ u_ u_ h=>h,fun u_ u_ u_ u_ e=>e⟩)
  have g:Go lay A A' s { s with heap:=h',toks:=tk }:=⟨fun b q e u_=>.of (hk b q e),fun b o e=>⟨o,hk b o e⟩,hold,fun l i b e=>(hnew l i b e).imp id (fun q=>by rw [q]; exact ha),rfl,rfl,rfl⟩
  have le:=fun lv=>g.le P lv
  have hfr:∀ b,Avd lay A P b->b ≠ a:=fun b h q=>by
   obtain ⟨o,h1⟩:=ok.alive b h
   rw [q,ha] at h1; cases h1
  have avd:∀ b,Avd lay A' P b->Avd lay A P b ∨ b = a:=fun b h=>by
   rcases h with (h | ⟨l,i,h⟩) | h
   ·exact .inl (.inl (.inl h))
   ·exact (hnew l i b h).imp (fun h=>.inl (.inr ⟨l,i,h⟩)) id
   ·exact .inl (.inr h)
  refine ⟨A',g,?_,?_⟩
  ·exact {
    base:=fun b q e=>hk b q (ok.base b q e)
    baseM:=fun b q e h=>by
     rcases avd b h with h | h
     ·exact ok.baseM b q e h
     ·have h1:=ok.base b q e
      rw [h,ha] at h1; cases h1
    frs:=fun L m=>let ⟨o,es,ep,h1,h2⟩:=ok.frs L m; ⟨o,es,ep,hk _ _ h1,h2⟩
    len:=ok.len
    slots:=fun j lo e=>slot_apart (le _) (fun q hq=>hk _ _ hq) (ok.slots j lo e)
    sep:=ok.sep
    lenA:=by
     show A'.length = (st.R.dropLast ++ [r ++ [o]]).length
     simp only [A',List.length_append,hA0,hRl,List.length_singleton]
    dimA:=fun l i=>by
     rw [hlook]
     show _ ↔ St.obj ⟨st.ρ,st.R.dropLast ++ [r ++ [o]]⟩ l i = none
     rw [hobj]
     split
     ·simp
     ·exact ok.dimA l i
    objs:=fun l i q b h1 h2=>by
     have h1':St.obj ⟨st.ρ,st.R.dropLast ++ [r ++ [o]]⟩ l i = some q:=h1
     rw [hobj] at h1'
     rw [hlook] at h2
     split at h1'
     ·rename_i y
      rw [if_pos y] at h2
      cases h1'; cases h2
      obtain ⟨rfl,_⟩:=y
      exact ho _ rfl avd (le _)
     ·rename_i y
      rw [if_neg y] at h2
      exact rep_apart (le _) (fun q hq=>hk _ _ hq) (ok.objs l i q b h1' h2) fun c q e h=>(g.le P 0).avoid c q e h
    inj:=fun l i l' i' b h1 h2=>by
     rw [hlook] at h1 h2
     split at h1 <;> split at h2
     ·rename_i y y'; exact ⟨y.1.trans y'.1.symm,y.2.trans y'.2.symm⟩
     ·cases h1; exact absurd rfl (hfr _ (.inl (.inr ⟨_,_,h2⟩)))
     ·cases h2; exact absurd rfl (hfr _ (.inl (.inr ⟨_,_,h1⟩)))
     ·exact ok.inj l i l' i' b h1 h2
    layA:=fun lo hm k i e=>by
     rcases hnew _ _ _ e with e | e
     ·exact ok.layA lo hm k i e
     ·exact hfr lo.addr (.inl (.inl ⟨lo,hm,rfl⟩)) e
    disP:=fun b hp h=>by
     rcases h with h | ⟨l,i,h⟩
     ·exact ok.disP b hp (.inl h)
     ·rcases hnew _ _ _ h with h | h
      ·exact ok.disP b hp (.inr ⟨l,i,h⟩)
      ·exact hfr b (.inr hp) h
    alive:=fun b h=>by
     rcases avd b h with h | h
     ·obtain ⟨o,e⟩:=ok.alive b h; exact ⟨o,hk b o e⟩
     ·exact h ▸ ha'
    rlen:=by
     show (st.R.dropLast ++ [r ++ [o]]).length = nl
     have:=ok.lvl
     simp only [List.length_append,hRl,List.length_singleton]; lia
    lvl:=ok.lvl }
  ·show Rel _ _ _ _
   refine .ref (Nat.le_of_eq ?_) ?_
   ·rw [ok.rlen]
   ·show look A' _ _ = _
    rw [hlook,if_pos ⟨by rw [ok.rlen],hlen.symm⟩]
 ·cases h
theorem mkL_post (ok:Ok B lay P nl A st s) {mu:Bool} {items:List Value} {vs:List V} {x:V} {st':St} {n tk:Nat} (hr:RelL (wd lay A P s.heap) (nl - 1) items vs)
  (h:mkL mu vs st = some (x,st')):Post B lay P A s nl st' x RV (.ref s.heap.objs.size) { s with heap:=s.heap.push (LObj items.toArray n),toks:=tk }:=by
 unfold mkL at h
 have hk:∀ b q,s.heap.get? b = some q->(s.heap.push (LObj items.toArray n)).get? b = some q:=fun b q e=>Heap.get?_push_of_some _ e
 split at h
 ·split at h
  ·refine ok.alloc h hk (Heap.get?_none_of_le (Nat.le_refl _)) fun w hw u_ le=>⟨items,n,?_,hr.mono le (Nat.le_refl _)⟩
   rw [hw]; exact Heap.get?_push_size _ rfl
  ·cases h
   obtain ⟨ok',g⟩:=ok.grow (tk:=tk) hk
   exact ⟨A,g,ok',.lst (fun h=>ok.fresh h) (Heap.get?_push_size _ rfl) (hr.mono (g.le P _) (Nat.le_refl _))⟩
 ·cases h
end
end
section
theorem intBits_of_small {a:Int} {n:Nat} (h:small n a = true):Builtin.Int.intBits a <= n:=intBits_le (of_decide_eq_true h)
theorem mapO_cons {α β:Type} {f:α->Option β} {a:α} {as:List α} {bs:List β} (h:mapO f (a :: as) = some bs):∃ b bs',f a = some b /\ mapO f as = some bs' /\ bs = b :: bs':=by
 have h:(match f a,mapO f as with | some b,some bs=>some (b :: bs) | _,_=>none) = some bs:=h
 cases e1:f a with
 | none=>rw [e1] at h; cases h
 | some b=>
  cases e2:mapO f as with
  | none=>rw [e1,e2] at h; cases h
  | some bs'=>rw [e1,e2] at h; cases h; exact ⟨b,bs',rfl,rfl,rfl⟩
section
variable {B:Base} {Ar:Around} {lay:List Loc} {P:Addr->Prop} {nl:Nat} {A:List (List Addr)} {st:St} {s:Shared} {E:Value->Shared->Prop}
theorem Ok.int_post (ok:Ok B lay P nl A st s) (i:Int) (t tk:Nat):Post B lay P A s nl st (V.int i) RV (.int i t) { s with toks:=tk }:=
 let ⟨ok',g⟩:=ok.toks tk
 ⟨A,g,ok',.int⟩
theorem binI_sound (ok:Ok B lay P nl A st s) {op:Operator} {a b c:Int} {t u:Tok} (h:binI op a b = some c) :
  wpAny (model B.prog B.w) Ar (binaryOp op (.int a t) (.int b u)) (Post B lay P A s nl st (V.int c) RV) E s:=by
 cases op
 case Add=>cases h; exact add_int (ok.int_post _ _ _)
 case Sub=>cases h; exact sub_int (ok.int_post _ _ _)
 case Mult=>
  obtain ⟨q,h⟩:=if_some (show (if small 64 a then some (a * b) else none) = some c from h)
  cases h; exact mul_int (ok.int_post _ _ _) (.of_left (intBits_of_small q))
 case Mod=>
  have h:(if b = 0 then none else some (a.fmod b)) = some c:=h
  by_cases q:b = 0
  ·rw [if_pos q] at h; cases h
  ·rw [if_neg q] at h; cases h; exact mod_int' q (ok.int_post _ _ _)
 case Pow=>
  obtain ⟨q,h⟩:=if_some (show (if decide (0 <= b) && decide (b <= 4096) && small 16 a then some (a ^ b.toNat) else none) = some c from h)
  cases h
  have q1:=Bool.and_eq_true_iff.mp q
  have q2:=Bool.and_eq_true_iff.mp q1.1
  have h1:=of_decide_eq_true q2.1
  have h2:=of_decide_eq_true q2.2
  have h4:=intBits_of_small q1.2
  refine pow_int h1 ?_ (ok.int_post _ _ _)
  have:(Builtin.Int.intBits a:Int) * b <= 16 * b:=Int.mul_le_mul_of_nonneg_right (by lia) h1
  lia
 case LShift=>
  obtain ⟨q,h⟩:=if_some (show (if decide (0 <= b) && decide (b <= 1000000) && small 64 a then some (a * 2 ^ b.toNat) else none) = some c from h)
  cases h
  have q1:=Bool.and_eq_true_iff.mp q
  have q2:=Bool.and_eq_true_iff.mp q1.1
  exact lshift_int_small (of_decide_eq_true q2.1) (of_decide_eq_true q2.2) (of_decide_eq_true q1.2) (ok.int_post _ _ _)
 case RShift=>
  obtain ⟨q,h⟩:=if_some (show (if decide (0 <= b) then some (a.fdiv (2 ^ b.toNat)) else none) = some c from h)
  cases h
  exact rshift_int (of_decide_eq_true q) (ok.int_post _ _ _)
 case BitAnd=>cases h; exact and_int (ok.int_post _ _ _)
 case BitOr=>cases h; exact or_int (ok.int_post _ _ _)
 case BitXor=>cases h; exact xor_int (ok.int_post _ _ _)
 case FloorDiv=>
  obtain ⟨q,h⟩:=if_some (show (if decide (b ≠ 0) && small 30 b then some (a.fdiv b) else none) = some c from h)
  cases h
  have q:=Bool.and_eq_true_iff.mp q
  exact floordiv_int (of_decide_eq_true q.1) (ok.int_post _ _ _) (.inl (PyProof.noPylong_small (by have:=of_decide_eq_true q.2; omega)))
 all_goals cases h
theorem binI_sound_in (ok:Ok B lay P nl A st s) {op:Operator} {a b c:Int} {t u:Tok} (h:binI op a b = some c) :
  wpAny (model B.prog B.w) Ar (inplaceOp op (.int a t) (.int b u)) (Post B lay P A s nl st (V.int c) RV) E s:=by
 cases op
 case Add=>cases h; exact iadd_int (ok.int_post _ _ _)
 case Sub=>cases h; exact isub_int (ok.int_post _ _ _)
 case Mult=>
  obtain ⟨q,h⟩:=if_some (show (if small 64 a then some (a * b) else none) = some c from h)
  cases h; exact imul_int (ok.int_post _ _ _) (.of_left (intBits_of_small q))
 case Mod=>
  have h:(if b = 0 then none else some (a.fmod b)) = some c:=h
  by_cases q:b = 0
  ·rw [if_pos q] at h; cases h
  ·rw [if_neg q] at h; cases h; exact imod_int q (ok.int_post _ _ _)
 case Pow=>
  obtain ⟨q,h⟩:=if_some (show (if decide (0 <= b) && decide (b <= 4096) && small 16 a then some (a ^ b.toNat) else none) = some c from h)
  cases h
  have q1:=Bool.and_eq_true_iff.mp q
  have q2:=Bool.and_eq_true_iff.mp q1.1
  have h1:=of_decide_eq_true q2.1
  have h2:=of_decide_eq_true q2.2
  have h4:=intBits_of_small q1.2
  refine ipow_int h1 ?_ (ok.int_post _ _ _)
  have:(Builtin.Int.intBits a:Int) * b <= 16 * b:=Int.mul_le_mul_of_nonneg_right (by lia) h1
  lia
 case LShift=>
  obtain ⟨q,h⟩:=if_some (show (if decide (0 <= b) && decide (b <= 1000000) && small 64 a then some (a * 2 ^ b.toNat) else none) = some c from h)
  cases h
  have q1:=Bool.and_eq_true_iff.mp q
  have q2:=Bool.and_eq_true_iff.mp q1.1
  exact ilshift_int_small (of_decide_eq_true q2.1) (of_decide_eq_true q2.2) (of_decide_eq_true q1.2) (ok.int_post _ _ _)
 case RShift=>
  obtain ⟨q,h⟩:=if_some (show (if decide (0 <= b) then some (a.fdiv (2 ^ b.toNat)) else none) = some c from h)
  cases h
  exact irshift_int (of_decide_eq_true q) (ok.int_post _ _ _)
 case BitAnd=>cases h; exact iand_int (ok.int_post _ _ _)
 case BitOr=>cases h; exact ior_int (ok.int_post _ _ _)
 case BitXor=>cases h; exact ixor_int (ok.int_post _ _ _)
 case FloorDiv=>
  obtain ⟨q,h⟩:=if_some (show (if decide (b ≠ 0) && small 30 b then some (a.fdiv b) else none) = some c from h)
  cases h
  have q:=Bool.and_eq_true_iff.mp q
  exact ifloordiv_int (of_decide_eq_true q.1) (ok.int_post _ _ _) (.inl (PyProof.noPylong_small (by have:=of_decide_eq_true q.2; omega)))
 all_goals cases h
theorem seqOf_rel (ok:Ok B lay P nl A st s) {v:Value} {x:V} {vs:List V} (r:Rel (wd lay A P s.heap) (nl - 1) v x) (h:seqOf st x = some vs) :
  ∃ a items n,v = .ref a /\ s.heap.get? a = some (LObj (List.toArray items) n) /\ RelL (wd lay A P s.heap) (nl - 1) items vs:=by
 cases r with
 | lst h1 h2 h3=>cases h; exact ⟨_,_,_,rfl,h2,h3⟩
 | ref h1 h2=>
  simp only [seqOf] at h
  split at h
  ·rename_i us e
   cases h
   obtain ⟨items,n,h3,h4⟩:=ok.objs _ _ _ _ e h2
   exact ⟨_,items,n,rfl,h3,h4.mono (.refl _ _) h1⟩
  ·cases h
 | _=>cases h
theorem isList_of {h:Heap} {a:Addr} {items:Array Value} {n:Nat} (e:h.get? a = some (LObj items n)):h.IsList a items:=⟨_,e,rfl,n,rfl⟩
theorem isTuple_of {h:Heap} {a:Addr} {items:Array Value} {n:Nat} (e:h.get? a = some (TObj items n)):h.IsTuple a items:=⟨_,e,rfl,n,rfl⟩
theorem fold_rep (items:List Value):∀ (n:Nat) (acc:List Value),List.foldl (fun x1 x2=>x1 ++ x2) acc.toArray (List.replicate n items.toArray) = (acc ++ (List.replicate n items).flatten).toArray
 | 0,acc=>by simp
 | n + 1,acc=>by
  rw [List.replicate_succ,List.foldl_cons,List.append_toArray,fold_rep items n,List.replicate_succ]
  simp
theorem mul_list_raw {l:Addr} {items:Array Value} {k:Nat} {x:Int} {u:Tok} {Q:Value->Shared->Prop}
  (hl:s.heap.get? l = some { cls:=.type "list",dict:=none,data:=.seq items k,slots:=#[] })
  (hlo : -(2 ^ 63:Int) <= x) (hhi:x < 2 ^ 63) (hsz:items.size * x.toNat <= 2 ^ 24)
  (h:Q (.ref s.heap.objs.size) { s with heap:=s.heap.push { cls:=.type "list",data:=.seq (List.foldl (fun x1 x2=>x1 ++ x2) #[] (List.replicate (if items.isEmpty = true then 0 else x.toNat) items)) } }) :
  wpAny (model B.prog B.w) Ar (binaryOp .Mult (.ref l) (.int x u)) Q E s:=
 wpAny_binaryOp_repeat_ref (T := "list") (U := "int") (by decide) ⟨_,hl,rfl⟩ (fun s'=>typeIs_int s' x u) noFill_list_mul F.fills_int_mul F.slot_int_rmul repeat_list F.slot_int_index.lookup
  (call_meets F.slot_int_rmul (typeIs_int s x u) F.entry_int_rmul (F.args_int_rmul_2 _ _) (int___rmul___int_list x u l items k)
   ⟨hl,rfl,⟨_,hl,rfl⟩,call_meets F.slot_list_mul ⟨_,hl,rfl⟩ F.entry_list_mul (F.args_list_mul_2 _ _)
    (AutoListH.list___mul___list_int_3 l items k x u (by simp [Builtin.List.listFitsIndex]; lia) (by lia) (by simp [Builtin.List.listTooLong,sizeLine]; lia))
    ⟨hl,h⟩⟩)
theorem binB_sound (ok:Ok B lay P nl A st s) {op:Operator} {x:List UInt8} {y z:V} {t:Tok} {u:Value} {st':St} (hy:Rel (wd lay A P s.heap) (nl - 1) u y)
  (h:binB st op x y = some (z,st')):wpAny (model B.prog B.w) Ar (binaryOp op (.bytes x.toArray t) u) (Post B lay P A s nl st' z RV) E s:=by
 cases op with
 | Add=>
  obtain ⟨y',rfl,h1⟩:=bytesV_t h
  obtain ⟨q,h2⟩:=if_some h1
  cases h2
  refine hy.bytes_e fun u=>KBy.add_bytes ?_ fun t' k=>?_
  ·simp only [List.size_toArray]; unfold lim at q; lia
  ·rw [List.append_toArray]
   obtain ⟨ok',g⟩:=ok.toks k
   exact ⟨A,g,ok',.bytes⟩
 | Mult=>
  obtain ⟨n,rfl,h1⟩:=intV_t h
  obtain ⟨q,h2⟩:=if_some h1
  cases h2
  simp only [Bool.and_eq_true,decide_eq_true_eq] at q
  refine hy.int_e fun u=>bytes_mul_any q.1.1.1 (by lia) (by lia) q.1.1.2 fun t' k=>?_
  obtain ⟨ok',g⟩:=ok.toks k
  exact ⟨A,g,ok',.bytes⟩
 | _=>cases h
theorem rep_fold (items:List Value) (n:Nat):List.foldl (fun x1 x2=>x1 ++ x2) #[] (List.replicate (if items.toArray.isEmpty = true then 0 else n) items.toArray) = ((List.replicate n items).flatten).toArray:=by
 have:=fold_rep items (if items.toArray.isEmpty = true then 0 else n) []
 rw [List.nil_append] at this
 rw [this]
 cases items with
 | nil=>simp
 | cons _ _=>rfl
theorem binS_sound (ok:Ok B lay P nl A st s) {op:Operator} {x y z:V} {v u:Value} {mu:Bool} {st':St} (hx:Rel (wd lay A P s.heap) (nl - 1) v x) (hy:Rel (wd lay A P s.heap) (nl - 1) u y)
  (h:binS st op x y mu = some (z,st')):wpAny (model B.prog B.w) Ar (binaryOp op v u) (Post B lay P A s nl st' z RV) E s:=by
 cases op with
 | Mult=>
  obtain ⟨k,rfl,h1⟩:=intV_t h
  obtain ⟨vs,e,h2⟩:=seqV_t h1
  obtain ⟨q,h3⟩:=ite_none h2
  simp only [Bool.and_eq_true,decide_eq_true_eq] at q
  obtain ⟨a,items,n,rfl,hg,hr⟩:=seqOf_rel ok hx e
  refine hy.int_e fun u=>mul_list_raw hg (by lia) (by lia) ?_ ?_
  ·rw [List.size_toArray,hr.length]
   have:=Nat.mul_le_mul_right k.toNat q.2
   lia
  ·rw [rep_fold]
   exact mkL_post ok (hr.replicate _) h3
 | Add=>
  obtain ⟨vs,e1,h1⟩:=seqV_t h
  obtain ⟨us,e2,h2⟩:=seqV_t h1
  obtain ⟨a,items,n,rfl,hg,hr⟩:=seqOf_rel ok hx e1
  obtain ⟨b,items',n',rfl,hg',hr'⟩:=seqOf_rel ok hy e2
  have hz:=(ite_none h2).1
  rw [List.length_append,<- hr.length,<- hr'.length] at hz
  refine PySem.P.add_list hg hg' ?_ (by simp only [List.size_toArray]; unfold lim at hz; rw [sizeLine_eq]; lia)
  rw [List.append_toArray]
  exact mkL_post ok (hr.append hr') h2
 | _=>cases h
theorem binV_sound (ok:Ok B lay P nl A st s) {op:Operator} {x y z:V} {v u:Value} {mu:Bool} {st':St} (hx:Rel (wd lay A P s.heap) (nl - 1) v x) (hy:Rel (wd lay A P s.heap) (nl - 1) u y)
  (h:binV st op x y mu = some (z,st')):wpAny (model B.prog B.w) Ar (binaryOp op v u) (Post B lay P A s nl st' z RV) E s:=by
 have oth:=fun h=>binS_sound (Ar:=Ar) (E:=E) (mu:=mu) (z:=z) (st':=st') (op:=op) ok hx hy h
 cases x with
 | int i=>
  clear oth
  obtain ⟨j,rfl,h1⟩:=intV_t h
  cases e:binI op i j with
  | none=>rw [e] at h1; cases h1
  | some c=>
   rw [e] at h1
   cases h1
   exact hx.int_e fun u_=>hy.int_e fun u_=>binI_sound ok e
 | bytes b=>exact hx.bytes_e fun u_=>binB_sound ok hy h
 | _=>exact oth h
end
end
section
set_option maxRecDepth 100000
end
section
theorem toPD_tup (vs:List V):toPD (.tup vs) = (toPDL vs).map .tuple:=by show (match toPDL vs with | some ds=>some (PyData.tuple ds) | none=>none) = _; cases toPDL vs <;> rfl
theorem toPD_lst (vs:List V):toPD (.lst vs) = (toPDL vs).map .list:=by show (match toPDL vs with | some ds=>some (PyData.list ds) | none=>none) = _; cases toPDL vs <;> rfl
theorem obj_list {α:Type} {o:Option AObj} {f:List V->α} {r:α} (h:(match o with | some (.list vs)=>some (f vs) | _=>none) = some r):∃ vs,o = some (.list vs) /\ f vs = r:=by
 cases o with
 | none=>cases h
 | some o=>
  cases o with
  | list vs=>exact ⟨vs,rfl,Option.some.inj h⟩
  | _=>cases h
mutual
theorem rel_reads {w:Wd} {lv:Nat}:∀ (x:V) {v:Value} {d:PyData},Rel w lv v x->toPD x = some d->∃ as,Reads w.h v d as
 | .imm u,v,d,hr,h=>hr.imm_e (by
  cases u with
  | none=>cases h; exact ⟨_,.none⟩
  | bool b=>cases h; exact ⟨_,.bool _⟩
  | _=>cases h)
 | .int _,_,_,hr,h=>hr.int_e fun u_=>by cases h; exact ⟨_,.int _ _⟩
 | .str _,_,_,hr,h=>hr.str_e fun u_=>by cases h; exact ⟨_,.str _ _⟩
 | .tup vs,_,_,hr,h=>hr.tup_e fun u_ u_ u_ u_ h2 h3=>by
  obtain ⟨ds,e,rfl⟩:=Option.map_eq_some_iff.mp ((toPD_tup vs).symm.trans h)
  obtain ⟨as,r⟩:=relL_reads vs h3 e
  exact ⟨_,.tuple h2 rfl rfl (by simpa using r)⟩
 | .lst vs,_,_,hr,h=>hr.lst_e fun u_ u_ u_ u_ h2 h3=>by
  obtain ⟨ds,e,rfl⟩:=Option.map_eq_some_iff.mp ((toPD_lst vs).symm.trans h)
  obtain ⟨as,r⟩:=relL_reads vs h3 e
  exact ⟨_,.list h2 rfl rfl (by simpa using r)⟩
 | .bytes _,_,_,_,h=>nomatch (show none = some _ from h)
 | .rng _ _ _,_,_,_,h=>nomatch (show none = some _ from h)
 | .ref _ _,_,_,_,h=>nomatch (show none = some _ from h)
 | .clo _ _,_,_,_,h=>nomatch (show none = some _ from h)
theorem relL_reads {w:Wd} {lv:Nat}:∀ (xs:List V) {vs:List Value} {ds:List PyData},RelL w lv vs xs->toPDL xs = some ds->∃ as,ReadsAll w.h vs ds as
 | [],_,_,hr,h=>by
  cases h
  exact hr.nil_e ⟨_,.nil⟩
 | x :: xs,_,_,hr,h=>hr.cons_e fun v vs h1 h2=>by
  obtain ⟨d,ds,e1,e2,e3⟩:=toPDL_t h
  subst e3
  obtain ⟨as,r⟩:=rel_reads x h1 e1
  obtain ⟨bs,q⟩:=relL_reads xs h2 e2
  exact ⟨_,.cons r q⟩
end
section
variable {B:Base} {Ar:Around} {lay:List Loc} {P:Addr->Prop} {nl:Nat} {A:List (List Addr)} {st:St} {s:Shared} {E:Value->Shared->Prop}
theorem open1_rel (ok:Ok B lay P nl A st s) {v:Value} {x y:V} {d:PyData} (r:Rel (wd lay A P s.heap) (nl - 1) v x) (h:open1 st x = some y) (hd:toPD y = some d):∃ as,Reads s.heap v d as:=by
 cases x with
 | ref l i=>
  obtain ⟨vs,e,rfl⟩:=obj_list (o:=st.obj l i) (f:=V.lst) h
  obtain ⟨ds,e',rfl⟩:=Option.map_eq_some_iff.mp ((toPD_lst vs).symm.trans hd)
  refine r.ref_e fun a h1 h2=>?_
  obtain ⟨items,n,h3,h4⟩:=ok.objs _ _ _ _ e h2
  obtain ⟨as,q⟩:=relL_reads vs h4 e'
  exact ⟨_,.list h3 rfl rfl (by simpa using q)⟩
 | _=>cases h; exact rel_reads _ r hd
theorem Ok.bool_post (ok:Ok B lay P nl A st s) (b:Bool) (tk:Nat):Post B lay P A s nl st (V.imm (.bool b)) RV (.bool b) { s with toks:=tk }:=
 let ⟨ok',g⟩:=ok.toks tk
 ⟨A,g,ok',.imm⟩
theorem eqd_t {a b:V} {r:Bool} (h:eqd a b = some r):∃ x y,toPD a = some x /\ toPD b = some y /\ SeqAt.shaped x = true /\ SeqAt.shaped y = true /\ PyData.eqv x y = r:=by
 unfold eqd at h
 cases e1:toPD a with
 | none=>rw [e1] at h; cases h
 | some x=>
  cases e2:toPD b with
  | none=>rw [e1,e2] at h; cases h
  | some y=>
   rw [e1,e2] at h
   obtain ⟨q,h⟩:=if_some h
   have q:=Bool.and_eq_true_iff.mp q
   exact ⟨x,y,rfl,rfl,q.1,q.2,h⟩
@[elab_as_elim] theorem RelL.one_e {w:Wd} {lv:Nat} {vs:List Value} {x:V} {R:List Value->Prop} (h:RelL w lv vs [x]) (K:∀ v,Rel w lv v x->R [v]):R vs:=h.cons_e fun v u_ h1 h2=>h2.nil_e (K v h1)
theorem eqV_sound (ok:Ok B lay P nl A st s) (hu:Ar.units + 64 < cLine) {v u:Value} {x y:V} {b:Bool} (hx:Rel (wd lay A P s.heap) (nl - 1) v x) (hy:Rel (wd lay A P s.heap) (nl - 1) u y) (h:eqV st x y = some b) :
  wpAny (model B.prog B.w) Ar (compareOp .Eq v u) (Post B lay P A s nl st (V.imm (.bool b)) RV) E s /\
  wpAny (model B.prog B.w) Ar (compareOp .NotEq v u) (Post B lay P A s nl st (V.imm (.bool !b)) RV) E s:=by
 have oth:opV st x (fun x=>opV st y fun y=>eqd x y) = some b->wpAny (model B.prog B.w) Ar (compareOp .Eq v u) (Post B lay P A s nl st (V.imm (.bool b)) RV) E s /\
  wpAny (model B.prog B.w) Ar (compareOp .NotEq v u) (Post B lay P A s nl st (V.imm (.bool !b)) RV) E s:=fun h=>by
  obtain ⟨x',e1,k1⟩:=opV_t h
  obtain ⟨y',e2,k2⟩:=opV_t k1
  obtain ⟨d1,d2,h1,h2,q1,q2,rfl⟩:=eqd_t k2
  obtain ⟨as,r1⟩:=open1_rel ok hx e1 h1
  obtain ⟨bs,r2⟩:=open1_rel ok hy e2 h2
  exact ⟨SeqAt.compareEq_shaped r1 r2 q1 q2 hu (ok.bool_post _ s.toks),SeqAt.compareNe_shaped r1 r2 q1 q2 hu (ok.bool_post _ s.toks)⟩
 cases x with
 | bytes x=>
  clear oth
  revert hy
  refine bytesV_e h fun y h hy=>?_
  cases h
  exact hx.bytes_e fun u_=>hy.bytes_e fun u_=>⟨eq_bytes (by simpa using ok.bool_post _ s.toks),ne_bytes (by simpa [bne] using ok.bool_post _ s.toks)⟩
 | str x=>
  clear oth
  revert hy
  refine strV_e h fun y h hy=>?_
  cases h
  exact hx.str_e fun u_=>hy.str_e fun u_=>⟨eq_str (ok.bool_post _ s.toks),ne_str (by simpa only [bne] using ok.bool_post _ s.toks)⟩
 | _=>exact oth h
noncomputable abbrev CmpR (B:Base) (Ar:Around) (lay:List Loc) (P:Addr->Prop) (nl:Nat) (A:List (List Addr)) (st:St) (s:Shared) (E:Value->Shared->Prop) (op:CmpOp) (v u:Value) (b:Bool):Prop:=wpAny (model B.prog B.w) Ar (compareOp op v u) (Post B lay P A s nl st (V.imm (.bool b)) RV) E s
theorem cmpI_sound {op:CmpOp} {f:Int->Int->Bool} (hf:∀ i j t u,CmpR B Ar lay P nl A st s E op (.int i t) (.int j u) (f i j)) {v u:Value} {x y:V} {b:Bool} (hx:Rel (wd lay A P s.heap) (nl - 1) v x) (hy:Rel (wd lay A P s.heap) (nl - 1) u y) (h:(intV x fun i=>intV y fun j=>some (f i j)) = some b):CmpR B Ar lay P nl A st s E op v u b:=by
 obtain ⟨i,rfl,h1⟩:=intV_t h
 obtain ⟨j,rfl,h2⟩:=intV_t h1
 cases h2
 exact hx.int_e fun t=>hy.int_e fun u=>hf i j t u
theorem cmpV_sound (ok:Ok B lay P nl A st s) (hu:Ar.units + 100 < cLine) {op:CmpOp} {v u:Value} {x y:V} {b:Bool} (hx:Rel (wd lay A P s.heap) (nl - 1) v x) (hy:Rel (wd lay A P s.heap) (nl - 1) u y) (h:cmpV st op x y = some b) :
  wpAny (model B.prog B.w) Ar (compareOp op v u) (Post B lay P A s nl st (V.imm (.bool b)) RV) E s:=by
 have hu':Ar.units + 64 < cLine:=Nat.lt_of_le_of_lt (Nat.add_le_add_left (by decide) _) hu
 show CmpR B Ar lay P nl A st s E op v u b
 cases op with
 | Eq=>exact (eqV_sound ok hu' hx hy h).1
 | NotEq=>exact Bool.not_not b ▸ (eqV_sound ok hu' hx hy (notO_t h)).2
 | Lt=>exact cmpI_sound (f:=fun i j=>decide (i < j)) (fun u_ u_ u_ u_=>lt_int (ok.bool_post _ s.toks)) hx hy h
 | LtE=>exact cmpI_sound (f:=fun i j=>decide (i <= j)) (fun u_ u_ u_ u_=>le_int (ok.bool_post _ s.toks)) hx hy h
 | Gt=>exact cmpI_sound (f:=fun i j=>decide (j < i)) (fun u_ u_ u_ u_=>gt_int (ok.bool_post _ s.toks)) hx hy h
 | GtE=>exact cmpI_sound (f:=fun i j=>decide (j <= i)) (fun u_ u_ u_ u_=>ge_int (ok.bool_post _ s.toks)) hx hy h
 | Is=>
  by_cases q:isNoneV y = true
  ·have h:isO x = some b:=(if_pos q).symm.trans h
   cases y with
   | imm w=>
    obtain rfl:w = .none:=eq_of_beq q
    refine hy.imm_e ?_
    cases x with
    | imm z=>cases h; exact hx.imm_e (is_none (ok.bool_post _ s.toks))
    | int z=>cases h; exact hx.int_e fun u_=>is_none (ok.bool_post _ s.toks)
    | _=>cases h
   | _=>cases q
  ·exact nomatch (if_neg q).symm.trans h
 | _=>cases h
end
end
section
noncomputable abbrev RB:Wd->Nat->Bool->Bool->Prop:=fun u_ u_ b b'=>b = b'
section
variable {B:Base} {Ar:Around} {lay:List Loc} {P:Addr->Prop} {nl:Nat} {A:List (List Addr)} {st:St} {s:Shared} {E:Value->Shared->Prop}
theorem Ok.b_post (ok:Ok B lay P nl A st s) (b:Bool) (tk:Nat):Post B lay P A s nl st b RB b { s with toks:=tk }:=
 let ⟨ok',g⟩:=ok.toks tk
 ⟨A,g,ok',rfl⟩
theorem truthV_sound (ok:Ok B lay P nl A st s) {v:Value} {x:V} {b:Bool} (hx:Rel (wd lay A P s.heap) (nl - 1) v x) (h:truthV st x = some b) :
  wpAny (model B.prog B.w) Ar (truthy v) (Post B lay P A s nl st b RB) E s:=by
 have lst:∀ {a:Addr} {items:List Value} {n:Nat} {vs:List V},s.heap.get? a = some (LObj items.toArray n)->items.length = vs.length->vs.length <= lim->
   wpAny (model B.prog B.w) Ar (truthy (.ref a)) (Post B lay P A s nl st (decide (0 < vs.length)) RB) E s:=fun {a items n vs} hg hl hz=>by
  refine wpAny_truthy_list (isList_of hg) (by rw [List.size_toArray]; unfold lim at hz; lia) ?_
  have e:(!items.toArray.isEmpty) = decide (0 < vs.length):=by
   rw [<- hl]
   cases items <;> simp
  rw [e]
  exact ok.b_post _ _
 cases x with
 | imm w=>
  refine hx.imm_e ?_
  cases w with
  | none=>cases h; exact wpAny_pure (ok.b_post _ s.toks)
  | bool b=>cases h; exact wpAny_truthy_bool (ok.b_post _ s.toks)
  | _=>cases h
 | int i=>cases h; exact hx.int_e fun u_=>truthy_int (ok.b_post _ s.toks)
 | str q=>
  obtain ⟨hz,h1⟩:=if_some h
  cases h1
  exact hx.str_e fun u_=>KXt.truthy rfl (by unfold lim at hz; lia) fun u_=>ok.b_post _ _
 | bytes b=>
  obtain ⟨hz,h1⟩:=if_some h
  cases h1
  refine hx.bytes_e fun u_=>KBw.truthy_K rfl (by rw [KBw.ints_length,List.size_toArray]; unfold lim at hz; lia) ?_
  rw [KBw.ints_length,List.size_toArray]
  exact ok.b_post _ _
 | lst vs=>
  obtain ⟨hz,h1⟩:=if_some h
  cases h1
  exact hx.lst_e fun u_ u_ u_ u_ h2 h3=>lst h2 h3.length hz
 | ref l i=>
  obtain ⟨vs,e,h1⟩:=seqV_t h
  obtain ⟨hz,h2⟩:=if_some h1
  cases h2
  obtain ⟨a,items,n,rfl,hg,hr⟩:=seqOf_rel ok hx e
  exact lst hg hr.length hz
 | _=>cases h
theorem getI_t {vs:List V} {k:Int} {z:V} (h:getI vs k = some z):∃ j,ixOf vs.length k = some j /\ vs[j]? = some z:=by
 unfold getI at h
 cases e:ixOf vs.length k with
 | none=>rw [e] at h; cases h
 | some j=>rw [e] at h; exact ⟨j,rfl,h⟩
theorem getB_t {b:List UInt8} {k:Int} {z:V} (h:getB b k = some z):∃ j c,ixOf b.length k = some j /\ b[j]? = some c /\ z = .int (c.toNat:Int):=by
 unfold getB at h
 cases e:ixOf b.length k with
 | none=>rw [e] at h; cases h
 | some j=>
  cases e2:b[j]? with
  | none=>simp only [e,e2] at h; cases h
  | some c=>simp only [e,e2] at h; cases h; exact ⟨j,c,rfl,e2,rfl⟩
theorem ix_bound {n j:Nat} {k:Int} (h:ixOf n k = some j):n <= lim /\ seqIndex? k n = some j:=by
 unfold ixOf at h
 split at h
 ·exact ⟨‹_›,h⟩
 ·cases h
theorem ix_cases {n j:Nat} {k:Int} (h:seqIndex? k n = some j):(0 <= k /\ j = k.toNat /\ k < n) ∨ (k < 0 /\ -(n:Int) <= k /\ j = (k + n).toNat):=by
 unfold seqIndex? at h
 by_cases hk:k < 0
 ·rw [if_pos hk] at h
  dsimp only at h
  by_cases q:(decide (0 <= k + n) && decide (k + n < n)) = true
  ·rw [if_pos q] at h
   simp only [Bool.and_eq_true,decide_eq_true_eq] at q
   cases h; right; lia
  ·rw [if_neg q] at h; cases h
 ·rw [if_neg hk] at h
  dsimp only at h
  by_cases q:(decide (0 <= k) && decide (k < n)) = true
  ·rw [if_pos q] at h
   simp only [Bool.and_eq_true,decide_eq_true_eq] at q
   cases h; left; lia
  ·rw [if_neg q] at h; cases h
theorem subscripted_plain {slice:PySem.Expr} (h:plainIx slice = true) (o i:Value):subscripted slice false o i = operate [o,i] (getItem o i):=by
 cases slice <;> first | rfl | cases h
theorem getItem_sound (ok:Ok B lay P nl A st s) {o i:Value} {x y z:V} (hx:Rel (wd lay A P s.heap) (nl - 1) o x) (hy:Rel (wd lay A P s.heap) (nl - 1) i y) (h:subV st x y = some z) :
  wpAny (model B.prog B.w) Ar (getItem o i) (Post B lay P A s nl st z RV) E s:=by
 obtain ⟨k,rfl,h1⟩:=intV_t h
 refine hy.int_e fun t=>?_
 have oth:seqV st x (fun vs=>getI vs k) = some z->wpAny (model B.prog B.w) Ar (getItem o (.int k t)) (Post B lay P A s nl st z RV) E s:=fun h=>by
  obtain ⟨vs,e,h⟩:=seqV_t h
  obtain ⟨j,hj,hz⟩:=getI_t h
  obtain ⟨a,items,n,rfl,hg,hr⟩:=seqOf_rel ok hx e
  obtain ⟨v,hv,hrv⟩:=hr.get hz
  obtain ⟨hb,hj⟩:=ix_bound hj
  have hlen:=hr.length
  unfold lim at hb
  have q:Post B lay P A s nl st z RV v s:=.pure ok hrv
  rcases ix_cases hj with ⟨h0,hj',h1⟩ | ⟨h0,h1,hj'⟩
  ·exact wpAny_getItem_list (isList_of hg) h0 (by lia) (x:=v) (by rw [<- hj']; simpa using hv) q
  ·exact wpAny_getItem_list_neg (isList_of hg) h0 (by rw [List.size_toArray,hlen]; lia) (by lia) (x:=v) (by rw [List.size_toArray,hlen,<- hj']; simpa using hv) q
 cases x with
 | tup vs=>
  obtain ⟨j,hj,hz⟩:=getI_t h1
  refine hx.tup_e fun a items n u_ h2 h3=>?_
  obtain ⟨v,hv,hrv⟩:=h3.get hz
  obtain ⟨hb,hj⟩:=ix_bound hj
  unfold lim at hb
  have hb2:=ix_cases hj
  exact PyProof.Rows.getItem_tuple (isTuple_of h2) (by lia) (by lia) (by rw [List.size_toArray,h3.length]; exact hj) (x:=v) (by simpa using hv) (.pure ok hrv)
 | bytes b=>
  obtain ⟨j,c,hj,hc,rfl⟩:=getB_t h1
  obtain ⟨hb,hj⟩:=ix_bound hj
  unfold lim at hb
  have hb2:=ix_cases hj
  refine hx.bytes_e fun u_=>getItem_gives (typeIs_bytes s _ _) (by decide) FB.slot_bytes_getitem FB.entry_bytes_getitem (FB.args_bytes_getitem_2 _ _) (gives_bytes_getitem _ _ _ _ c ?_ ?_) ?_
  ·simp only [Builtin.Bytes.fitsIndex,Bool.and_eq_true,decide_eq_true_eq]; lia
  ·rw [List.size_toArray,hj]; simpa using hc
  ·exact ok.int_post _ _ _
 | _=>exact oth h1
theorem subV_sound (ok:Ok B lay P nl A st s) {o i:Value} {x y z:V} (hx:Rel (wd lay A P s.heap) (nl - 1) o x) (hy:Rel (wd lay A P s.heap) (nl - 1) i y) (h:subV st x y = some z) (value:PySem.Expr) {slice:PySem.Expr} (hp:plainIx slice = true) :
  wpAny (model B.prog B.w) Ar (subscriptTail value slice o i) (Post B lay P A s nl st z RV) E s:=by
 have g:=getItem_sound (Ar:=Ar) (E:=E) ok hx hy h
 have hs:∀ {vs},seqOf st x = some vs->wpAny (model B.prog B.w) Ar (subscriptTail value slice o i) (Post B lay P A s nl st z RV) E s:=fun e=>by
  obtain ⟨a,items,n,rfl,hg,hr⟩:=seqOf_rel ok hx e
  exact tail_any (isList_of hg).typeIs slot_list_getitem.lookup g (subscripted_plain hp _ _)
 obtain ⟨k,rfl,h1⟩:=intV_t h
 have oth:=fun h:seqV st x (fun vs=>getI vs k) = some z=>hs (seqV_t h).choose_spec.1
 cases x with
 | tup vs=>
  revert g
  exact hx.tup_e fun u_ u_ u_ u_ h2 u_ g=>tail_any (id := "tuple.__getitem__") ⟨_,h2,rfl⟩ (by first | exact slot_tuple_getitem.lookup | exact F.slot_tuple_getitem.lookup) g (subscripted_plain hp _ _)
 | bytes b=>
  revert g
  exact hx.bytes_e fun u_ g=>tail_any (typeIs_bytes s _ _) FB.slot_bytes_getitem.lookup g (subscripted_plain hp _ _)
 | _=>exact oth h1
end
end
section
noncomputable def RelPart (w:Wd) (lv:Nat) (v:Value):Option V->Prop
 | none=>v = .none
 | some x=>Rel w lv v x
theorem RelPart.mono {w w':Wd} {lv lv':Nat} (hl:Wd.Le lv w w') (hlv:lv <= lv') {v:Value} {x:Option V} (h:RelPart w lv v x):RelPart w' lv' v x:=by
 cases x with
 | none=>exact h
 | some x=>exact Rel.mono hl hlv h
theorem RelPart.part {w:Wd} {lv:Nat} {v:Value} {x:Option V} {k:Option Int} (h:RelPart w lv v x) (hk:optO x = some k):IsPart v k:=by
 cases x with
 | none=>cases hk; rw [show v = .none from h]; exact .none
 | some x=>
  have h:Rel w lv v x:=h
  cases x with
  | int i=>cases hk; exact h.int_e fun u_=>.int _ _
  | imm u=>
   obtain ⟨q,e⟩:=if_some hk
   cases e
   obtain rfl:u = .none:=eq_of_beq q
   exact h.imm_e .none
  | _=>cases hk
section
variable {B:Base} {Ar:Around} {lay:List Loc} {P:Addr->Prop} {nl:Nat} {A:List (List Addr)} {st:St} {s:Shared} {E:Value->Shared->Prop}
theorem slcV_sound (ok:Ok B lay P nl A st s) {o l u:Value} {x z:V} {lo hi:Option V} {mu:Bool} {st':St} (hx:Rel (wd lay A P s.heap) (nl - 1) o x)
  (hl:RelPart (wd lay A P s.heap) (nl - 1) l lo) (hu:RelPart (wd lay A P s.heap) (nl - 1) u hi) (h:slcV st x lo hi none mu = some (z,st')) (value:PySem.Expr) (le ue:Option PySem.Expr) (p:Pos) :
  wpAny (model B.prog B.w) Ar (subscriptTail value (.Slice le ue none p) o (.ref s.heap.objs.size)) (Post B lay P A s nl st' z RV) E
   { s with heap:=s.heap.push { cls:=.type "slice",data:=.fields #[l,u,.none] } }:=by
 have hk:∀ b q,s.heap.get? b = some q->(s.heap.push { cls:=.type "slice",data:=.fields #[l,u,.none] }).get? b = some q:=fun b q e=>Heap.get?_push_of_some _ e
 obtain ⟨ok1,g1⟩:=ok.grow (tk:=s.toks) hk
 obtain ⟨_,h1⟩:=ite_none h
 obtain ⟨lk,e1,h2⟩:=optV_t h1
 obtain ⟨hk',e2,h3⟩:=optV_t h2
 have p1:=hl.part e1
 have p2:=hu.part e2
 clear h h1 h2 hl hu e1 e2
 have oth:seqV st x (fun vs=>if vs.length <= lim then mkL mu (cut vs lk hk') st else none) = some (z,st')->wpAny (model B.prog B.w) Ar (subscriptTail value (.Slice le ue none p) o (.ref s.heap.objs.size)) (Post B lay P A s nl st' z RV) E
   { s with heap:=s.heap.push { cls:=.type "slice",data:=.fields #[l,u,.none] } }:=fun h=>by
  obtain ⟨vs,e,h1⟩:=seqV_t h
  obtain ⟨hz,h2⟩:=ite_none h1
  obtain ⟨a,items,n,rfl,hg,hr⟩:=seqOf_rel ok hx e
  have hlen:=hr.length
  unfold lim at hz
  refine tail_any (isList_of (hk _ _ hg)).typeIs slot_list_getitem.lookup ?_ (ops:=[.ref s.heap.objs.size,.ref a]) rfl
  refine wpAny_getItem_list_slice (isList_of (hk _ _ hg)) (Heap.IsSliceOf.new ..) p1 p2 .none (by simp) ?_ (by rw [List.size_toArray,hlen,sizeLine_eq]; lia)
  rw [slicePick_plain]
  have hc:RelL (wd lay A P (s.heap.push { cls:=.type "slice",data:=.fields #[l,u,.none] })) (nl - 1) (cut items lk hk') (cut vs lk hk'):=by
   unfold cut
   rw [hlen]
   exact ((hr.mono (g1.le P _) (Nat.le_refl _)).drop _).take _
  have:=(mkL_post ok1 (n:=0) (tk:=s.toks) hc h2).lift g1
  unfold cut at this
  simpa only [List.size_toArray] using this
 cases x with
 | bytes b=>
  clear oth
  obtain ⟨hz,e⟩:=if_some h3
  cases e
  refine hx.bytes_e fun t=>?_
  refine tail_any (typeIs_bytes _ _ _) FB.slot_bytes_getitem.lookup ?_ (ops:=[.ref s.heap.objs.size,.bytes _ _]) rfl
  refine getItem_meets (typeIs_bytes _ _ _) (by decide) FB.slot_bytes_getitem FB.entry_bytes_getitem (FB.args_bytes_getitem_2 _ _) (KBc.meets_slice2 _ _ _ p1 p2) ⟨Heap.IsSliceOf.new _ _ _ _,?_,fun t' k=>?_⟩
  ·have:=KBc.size_picked_le b.toArray lk hk'
   have h2:b.toArray.size = b.length:=List.size_toArray
   unfold lim at hz
   rw [sizeLine_eq]; lia
  ·rw [KBc.picked_eq]
   obtain ⟨ok2,g2⟩:=ok1.toks k
   refine ⟨A,g1.trans g2,ok2,?_⟩
   show Rel _ _ (Value.bytes _ _) _
   simp only [List.size_toArray]
   exact .bytes
 | _=>exact oth h3
theorem rvsV_sound (ok:Ok B lay P nl A st s) {o:Value} {x z:V} {mu:Bool} {st':St} {t:Tok} (hx:Rel (wd lay A P s.heap) (nl - 1) o x) (h:rvsV st x mu = some (z,st')) (value:PySem.Expr) (ue:PySem.Expr) (p:Pos) :
  wpAny (model B.prog B.w) Ar (subscriptTail value (.Slice none none (some ue) p) o (.ref s.heap.objs.size)) (Post B lay P A s nl st' z RV) E
   { s with heap:=s.heap.push { cls:=.type "slice",data:=.fields #[.none,.none,.int (-1) t] } }:=by
 have hk:∀ b q,s.heap.get? b = some q->(s.heap.push { cls:=.type "slice",data:=.fields #[.none,.none,.int (-1) t] }).get? b = some q:=fun b q e=>Heap.get?_push_of_some _ e
 obtain ⟨ok1,g1⟩:=ok.grow (tk:=s.toks) hk
 obtain ⟨vs,e,h1⟩:=seqV_t h
 obtain ⟨hz,h2⟩:=ite_none h1
 obtain ⟨a,items,n,rfl,hg,hr⟩:=seqOf_rel ok hx e
 have hlen:=hr.length
 unfold lim at hz
 refine tail_any (isList_of (hk _ _ hg)).typeIs slot_list_getitem.lookup ?_ (ops:=[.ref a,.ref s.heap.objs.size]) rfl
 refine wpAny_getItem_list_slice (isList_of (hk _ _ hg)) (Heap.IsSliceOf.new ..) .none .none (.int _ _) (by decide) ?_ (by rw [List.size_toArray,hlen,sizeLine_eq]; lia)
 rw [krv_pick]
 exact (mkL_post ok1 (n:=0) (tk:=s.toks) (hr.mono (g1.le P _) (Nat.le_refl _)).reverse h2).lift g1
end
end
section
theorem intItems_of {vs:List Value} {ns:List Int} (h:IntsAre vs ns):∃ xs:Array (Int × Tok),vs.toArray = intItems xs /\ xs.toList.map (·.1) = ns:=by
 induction h with
 | nil=>exact ⟨#[],by simp [intItems],rfl⟩
 | cons n t h ih=>
  obtain ⟨xs,h1,h2⟩:=ih
  refine ⟨((n,t) :: xs.toList).toArray,?_,by simp [h2]⟩
  have:intItems (((n,t) :: xs.toList).toArray) = ((Value.int n t) :: (intItems xs).toList).toArray:=by simp [intItems]
  rw [this,<- h1]
section
variable {B:Base} {Ar:Around} {lay:List Loc} {P:Addr->Prop} {nl:Nat} {A:List (List Addr)} {st:St} {s:Shared} {E:Value->Shared->Prop}
theorem Ok.kept_int (ok:Ok B lay P nl A st s) (i:Int) {h':Heap} (t tk:Nat) (hk:∀ b o,s.heap.get? b = some o->h'.get? b = some o) :
  Post B lay P A s nl st (V.int i) RV (.int i t) { s with heap:=h',toks:=tk }:=
 let ⟨ok',g⟩:=ok.grow (tk:=tk) hk
 ⟨A,g,ok',.int⟩
theorem iter_list_raw {l:Addr} {items:Array Value} {Q:Value->Shared->Prop} (hl:s.heap.IsList l items)
  (h:Q (.ref s.heap.objs.size) { s with heap:=s.heap.push { cls:=.type "list_iterator",data:=.fields #[.ref l,.int 0 0] } }) :
  wpAny (model B.prog B.w) Ar (call (.builtin "iter") [.ref l]) Q E s:=by
 refine Calls.call_function_entry (by decide +kernel) (by decide +kernel) kdk_entry_iter (kdk_args_iter _) ?_
 unfold Builtin.«iter»
 refine wpAny_bind (m:=someArgs "iter" 1 2 _) (wpAny_of_eq (a:=[Value.ref l]) (by first | rfl | kernel_rfl!) ?_)
 show wpAny _ _ (pyIter (.ref l) >>= _) _ _ _
 refine wpAny_bind (wpAny_pyIter_list hl ?_)
 exact wpAny_pure ⟨_,rfl,h⟩
theorem next_list_raw {it l:Addr} {i:Nat} {items:Array Value} {x:Value} {Q:Value->Shared->Prop} (hit:s.heap.IsListIter it l i)
  (hl:s.heap.IsList l items) (hx:items[i]? = some x)
  (hQ:Q x { s with heap:=s.heap.update it (Obj.mapFields (·.setIfInBounds 1 (rawInt ((i:Int) + 1)))) }) :
  wpAny (model B.prog B.w) Ar (call (.builtin "next") [.ref it]) Q E s:=by
 obtain ⟨o,ho,hc,hd⟩:=id hit
 obtain ⟨ol,hol,_,n,hdl⟩:=hl
 refine Calls.call_function_entry (by decide +kernel) (by decide +kernel) kdk_entry_next (kdk_args_next _) ?_
 unfold Builtin.«next»
 refine wpAny_bind (m:=someArgs "next" 1 2 _) (wpAny_of_eq (a:=[Value.ref it]) (by first | rfl | kernel_rfl!) ?_)
 dsimp only
 refine wpAny_bind (wpAny_specialOf (name:=Str.ofString "__next__") hit.typeIs slot_listiter_next.lookup ?_)
 refine wpAny_ite_split (fun hab=>absurd hab (by decide)) (fun u_=>?_)
 refine wpAny_bind (wpAny_callSpecial?_slot (name:=Str.ofString "__next__") hit.typeIs slot_listiter_next
  (wpAny_call_entry slot_listiter_next hit.typeIs entry_listiter_next ?_ (args_listiter_next _)))
 show wpAny _ _ (field (.ref it) 0 >>= _) _ _ s
 refine wpAny_bind (wpAny_field ho hd (x:=.ref l) rfl ?_)
 show wpAny _ _ (if (Value.ref l == Value.none) = true then _ else _) _ _ s
 rw [if_neg (show ¬ ((Value.ref l == Value.none) = true) from Bool.false_ne_true)]
 show wpAny _ _ (field (.ref it) 1 >>= _) _ _ s
 refine wpAny_bind (wpAny_field ho hd (x:=.int i 0) rfl ?_)
 show wpAny _ _ (seqItems? (.ref l) >>= _) _ _ s
 refine wpAny_bind (wpAny_seqItems hol hdl ?_)
 simp only [Int.toNat_natCast,hx]
 exact wpAny_bind (wpAny_setField ho hd (by simp) (wpAny_pure ⟨x,rfl,wpAny_pure ⟨_,rfl,hQ⟩⟩))
theorem numAt_eq {xs:Array (Int × Tok)} {is:List Int} (h:xs.toList.map (·.1) = is) {j:Nat} (hj:j < is.length):is[j]? = some (numAt xs j):=by
 subst h
 have hj':j < xs.size:=by simpa using hj
 unfold numAt
 simp [hj']
theorem sum_sound (ok:Ok B lay P nl A st s) (hh:Ar.handled = none) {a:Addr} {items:List Value} {n:Nat} {is:List Int} (hg:s.heap.get? a = some (LObj items.toArray n)) (hi:IntsAre items is)
  (hs:∀ i ∈ is,small 50 i = true) (hz:is.length <= 1000):wpAny (model B.prog B.w) Ar (call (.builtin "sum") [.ref a]) (Post B lay P A s nl st (V.int is.sum) RV) E s:=by
 obtain ⟨xs,h1,h2⟩:=intItems_of hi
 have hlen:xs.size = is.length:=by rw [<- h2]; simp
 have hl:=isList_of hg
 rw [h1] at hl
 refine sum_intList hh hl (fun j hj=>?_) fun h' tk t' hk=>?_
 ·rw [preSum_eq,h2]
  have key:∀ js:List Int,(∀ i ∈ js,small 50 i = true)->js.length <= 1000->-(2 ^ 61) <= js.sum /\ js.sum <= 2 ^ 61:=fun js h hn=>by
   have:∀ (js:List Int) (n:Nat),(∀ i ∈ js,small 50 i = true)->js.length <= n->-(2 ^ 50:Int) * n <= js.sum /\ js.sum <= 2 ^ 50 * n:=by
    intro js
    induction js with
    | nil=>intro n _ _; simp; lia
    | cons a r ih=>
     intro n h hn
     obtain ⟨m,rfl⟩ : ∃ m,n = m + 1:=⟨n - 1,by simp at hn; lia⟩
     have h1:=ih m (fun i hi=>h i (.tail _ hi)) (by simpa using hn)
     have h2:=of_decide_eq_true (h a (.head _))
     rw [List.sum_cons]
     lia
   have:=this js 1000 h hn
   lia
  have hv:numAt xs j ∈ is:=by
   exact List.mem_of_getElem? (numAt_eq h2 (by lia))
  have h3:=of_decide_eq_true (hs _ hv)
  have h4:=key (is.take (j + 1)) (fun i hi=>hs i (List.mem_of_mem_take hi)) (by rw [List.length_take]; lia)
  unfold InLong
  lia
 ·rw [preSum_eq,h2,hlen,List.take_of_length_le (Nat.le_refl _)]
  exact ok.kept_int _ _ _ hk
end
end
section
set_option maxRecDepth 100000
section
variable {prog:Program} {w:World} {A:Around} {E:Value->Shared->Prop} {s:Shared}
end
section
variable {B:Base} {Ar:Around} {lay:List Loc} {P:Addr->Prop} {nl:Nat} {A:List (List Addr)} {st:St} {s:Shared} {E:Value->Shared->Prop}
end
end
section
theorem RelL.one {w:Wd} {lv:Nat} {vs:List Value} {x:V} (h:RelL w lv vs [x]):∃ v,vs = [v] /\ Rel w lv v x:=by
 cases h with | cons h1 h2=>cases h2; exact ⟨_,rfl,h1⟩
theorem RelL.two {w:Wd} {lv:Nat} {vs:List Value} {x y:V} (h:RelL w lv vs [x,y]):∃ v u,vs = [v,u] /\ Rel w lv v x /\ Rel w lv u y:=by
 cases h with | cons h1 h2=>obtain ⟨u,rfl,h3⟩:=h2.one; exact ⟨_,_,rfl,h1,h3⟩
structure GdOk (B:Base):Prop where
 meth:∀ a,(B.G.gds.lookup a).isSome = true->∀ (Ar:Around) (E:Value->Shared->Prop) (s:Shared) (pl:Sem Bool) (Q:Value × List Value->Shared->Prop),(∀ b o,B.h₀.get? b = some o->s.heap.get? b = some o)->
  Q (.builtin "dict.get",[.ref a]) s->wpAny (model B.prog B.w) Ar (getMethod (.ref a) "get" pl) Q E s
 get:∀ a kvs,B.G.gds.lookup a = some kvs->∀ (Ar:Around) (E:Value->Shared->Prop) (s:Shared) (k:Int) (t:Tok) (d:Value) (Q:Value->Shared->Prop),(∀ b o,B.h₀.get? b = some o->s.heap.get? b = some o)->
  (∀ tk,match kvs.lookup k with | some x=>∀ t',Q (.str x t') { s with toks:=tk } | none=>Q d { s with toks:=tk })->
  wpAny (model B.prog B.w) Ar (call (.builtin "dict.get") [.ref a,.int k t,d]) Q E s
section
variable {B:Base} {Ar:Around} {lay:List Loc} {P:Addr->Prop} {nl:Nat} {A:List (List Addr)} {st:St} {s:Shared} {E:Value->Shared->Prop}
theorem Ok.str_post (ok:Ok B lay P nl A st s) (x:Str) (t tk:Nat):Post B lay P A s nl st (V.str x) RV (.str x t) { s with toks:=tk }:=
 let ⟨ok',g⟩:=ok.toks tk
 ⟨A,g,ok',.str⟩
theorem pairV_t {v:V} {p:Int × Int} (h:pairV v = some p):∃ vs,v = .tup vs /\ intsOf vs = some [p.1,p.2]:=by
 cases v with
 | tup vs=>
  refine ⟨vs,rfl,?_⟩
  unfold pairV at h
  cases e:intsOf vs with
  | none=>simp only [e] at h; cases h
  | some is=>
   simp only [e] at h
   cases is with
   | nil=>cases h
   | cons a r=>
    cases r with
    | nil=>cases h
    | cons b r=>
     obtain ⟨q,h⟩:=if_some h
     rw [<- h,List.isEmpty_iff.mp q]
 | _=>cases h
theorem pair_at {w:Wd} {lv:Nat} {v:Value} {x:V} {p:Int × Int} (h:Rel w lv v x) (e:pairV x = some p):PairAt w.h v p:=by
 obtain ⟨vs,rfl,e2⟩:=pairV_t e
 refine h.tup_e fun a items n u_ h2 h3=>?_
 have hv:=(h3.toInts e2).2
 rw [hv] at h3
 exact RelL.cons_e (R:=fun items=>w.h.get? a = some (TObj (List.toArray items) n)->PairAt w.h (.ref a) p) h3 (fun v vs r1 h3=>h3.cons_e fun u us r2 h4=>h4.nil_e (r1.int_e fun t=>r2.int_e fun t2 h2=>⟨_,_,_,_,rfl,h2⟩)) h2
theorem pairs_at {w:Wd} {lv:Nat}:∀ (vs:List V) (items:List Value) (ps:List (Int × Int)),RelL w lv items vs->pairsV vs = some ps->
  ps.length = items.length /\ ∀ (i:Nat) (v:Value) (p:Int × Int),items[i]? = some v->ps[i]? = some p->PairAt w.h v p
 | [],_,ps,h,e=>h.nil_e (by cases e; exact ⟨rfl,fun i v p e=>nomatch e⟩)
 | x :: vs,_,ps,h,e=>h.cons_e fun v items h1 h2=>by
  cases e1:pairV x with
  | none=>rw [pairsV,e1] at e; cases e
  | some p=>
   cases e2:pairsV vs with
   | none=>rw [pairsV,e1,e2] at e; cases e
   | some l=>
    rw [pairsV,e1,e2] at e
    cases e
    obtain ⟨k1,k2⟩:=pairs_at vs items l h2 e2
    refine ⟨congrArg (· + 1) k1,fun i v' p' q q'=>?_⟩
    cases i with
    | zero=>cases q; cases q'; exact pair_at h1 e1
    | succ i=>exact k2 i v' p' q q'
noncomputable abbrev Runs (B:Base) (Ar:Around) (lay:List Loc) (P:Addr->Prop) (nl:Nat) (A:List (List Addr)) (s:Shared) (E:Value->Shared->Prop) (z:V) (st':St) (t:Sem Value):Prop:=wpAny (model B.prog B.w) Ar t (Post B lay P A s nl st' z RV) E s
theorem lenV_sound (ok:Ok B lay P nl A st s) {v:Value} {x z:V} {st':St} (hv:Rel (wd lay A P s.heap) (nl - 1) v x) (h:lenV st x = some (z,st')):Runs B Ar lay P nl A s E z st' (call (.builtin "len") [v]):=by
 have fin:∀ {n:Nat},(if n <= lim then some (V.int n,st) else none) = some (z,st')->(n <= lim->(∀ t tk,Post B lay P A s nl st (V.int n) RV (.int n t) { s with toks:=tk })->Runs B Ar lay P nl A s E (V.int n) st (call (.builtin "len") [v]))->Runs B Ar lay P nl A s E z st' (call (.builtin "len") [v]):=fun h k=>by
  obtain ⟨hz,h⟩:=if_some h
  cases h
  exact k hz fun t tk=>ok.int_post _ _ _
 have sq:seqV st x (fun vs=>if vs.length <= lim then some (V.int vs.length,st) else none) = some (z,st')->Runs B Ar lay P nl A s E z st' (call (.builtin "len") [v]):=fun h=>by
  obtain ⟨vs,hs,h⟩:=seqV_t h
  obtain ⟨a,its,k,rfl,hg,hr'⟩:=seqOf_rel ok hv hs
  refine fin h fun hz hp=>Calls.call_len_list (isList_of hg) (by rw [List.size_toArray,hr'.length]; unfold lim at hz; lia) ?_
  rw [List.size_toArray,hr'.length]
  exact hp _ _
 cases x with
 | tup vs=>
  revert fin
  refine hv.tup_e fun a its n u_ h2 h3 fin=>fin h fun hz hp=>PyProof.Rows.len_tuple (isTuple_of h2) (by rw [List.size_toArray,h3.length]; unfold lim at hz; lia) ?_
  rw [List.size_toArray,h3.length]
  exact hp _ _
 | bytes b=>
  revert fin
  refine hv.bytes_e fun t fin=>fin h fun hz hp=>len_bytes (by rw [List.size_toArray]; unfold lim at hz; lia) ?_
  rw [List.size_toArray]
  exact hp _ _
 | _=>exact sq h
theorem biLen_sound (ok:Ok B lay P nl A st s) {items:List Value} {args:List V} {z:V} {st':St} (hr:RelL (wd lay A P s.heap) (nl - 1) items args) (h:biLen st args = some (z,st')):Runs B Ar lay P nl A s E z st' (call (.builtin "len") items):=by
 revert hr
 exact arg1_e h fun x h hr=>hr.one_e fun v hv=>lenV_sound ok hv h
theorem biAbs_sound (ok:Ok B lay P nl A st s) {items:List Value} {args:List V} {z:V} {st':St} (hr:RelL (wd lay A P s.heap) (nl - 1) items args) (h:biAbs st args = some (z,st')):Runs B Ar lay P nl A s E z st' (call (.builtin "abs") items):=by
 revert hr
 exact arg1_e h fun x h=>intV_e h fun i h hr=>hr.one_e fun v hv=>hv.int_e fun t=>by
  cases h
  exact call_abs_int fun u tk=>ok.int_post _ _ _
theorem biDiv_sound (ok:Ok B lay P nl A st s) {items:List Value} {args:List V} {z:V} {st':St} (hr:RelL (wd lay A P s.heap) (nl - 1) items args) (h:biDiv st args = some (z,st')):Runs B Ar lay P nl A s E z st' (call (.builtin "divmod") items):=by
 obtain ⟨x,y,rfl,h1⟩:=arg2_t h
 obtain ⟨a,rfl,h2⟩:=intV_t h1
 obtain ⟨b,rfl,h3⟩:=intV_t h2
 obtain ⟨q,h4⟩:=if_none h3
 cases h4
 rw [Bool.or_eq_true,not_or,decide_eq_true_eq,Bool.not_eq_true',Bool.not_eq_false] at q
 refine hr.cons_e fun v u_ hv hr=>hr.one_e fun u hu=>hv.int_e fun t=>hu.int_e fun t2=>divmod_int q.1 ?_ (.inl (PyProof.noPylong_small (by have:=of_decide_eq_true q.2; omega)))
 obtain ⟨ok',g⟩:=ok.grow (h':=s.heap.push { cls:=.type "tuple",data:=.seq #[.int (Int.fdiv _ _) s.toks,.int (Int.fmod _ _) (s.toks + 1)] }) (tk:=s.toks + 1 + 1) (fun b q e=>Heap.get?_push_of_some _ e)
 exact ⟨A,g,ok',.tup (items:=[_,_]) ok.fresh (Heap.get?_push_size _ rfl) (.cons .int (.cons .int .nil))⟩
theorem biHex_sound (ok:Ok B lay P nl A st s) {items:List Value} {args:List V} {z:V} {st':St} (hr:RelL (wd lay A P s.heap) (nl - 1) items args) (h:biHex st args = some (z,st')):Runs B Ar lay P nl A s E z st' (call (.builtin "hex") items):=by
 revert hr
 refine arg1_e h fun x h=>intV_e h fun i h hr=>hr.one_e fun v hv=>hv.int_e fun t=>?_
 obtain ⟨hz,h1⟩:=if_some h
 cases h1
 unfold lim at hz
 exact PySem.P.hex_of_int (ok.str_post _ _ _) (by rw [sizeLine_eq]; lia)
theorem biIter_sound (ok:Ok B lay P nl A st s) {items:List Value} {args:List V} {z:V} {st':St} (hr:RelL (wd lay A P s.heap) (nl - 1) items args) (h:biIter st args = some (z,st')):Runs B Ar lay P nl A s E z st' (call (.builtin "iter") items):=by
 obtain ⟨x,rfl,h⟩:=arg1_t h
 obtain ⟨v,rfl,hv⟩:=hr.one
 cases x with
 | lst vs=>
  refine hv.lst_e fun a0 its0 k0 h1 h2 h3=>?_
  refine iter_list_raw (isList_of h2) ?_
  refine ok.alloc (tk:=s.toks) h (fun b q e=>Heap.get?_push_of_some _ e) (Heap.get?_none_of_le (Nat.le_refl _)) fun w hw hm le=>⟨a0,its0,k0,0,?_,?_,?_,?_⟩
  ·rw [hw]; exact Heap.get?_push_size _ rfl
  ·intro q
   rcases hm _ q with q | q
   ·exact h1 q
   ·subst q; exact absurd (Heap.lt_size h2) (Nat.lt_irrefl _)
  ·rw [hw]; exact Heap.get?_push_of_some _ h2
  ·rw [List.drop_zero]; exact h3.mono le (Nat.le_refl _)
 | _=>cases h
theorem biNext_sound (ok:Ok B lay P nl A st s) {items:List Value} {args:List V} {z:V} {st':St} (hr:RelL (wd lay A P s.heap) (nl - 1) items args) (h:biNext st args = some (z,st')):Runs B Ar lay P nl A s E z st' (call (.builtin "next") items):=by
 obtain ⟨x,rfl,h⟩:=arg1_t h
 obtain ⟨v,rfl,hv⟩:=hr.one
 cases x with
 | ref l0 i0=>
  refine hv.ref_e fun a0 h1 h2=>?_
  have hn:∃ vs,st.obj l0 i0 = some (.iter (z :: vs)) /\ st' = st.setObj l0 i0 (.iter vs):=by
   change nextO st l0 i0 (st.obj l0 i0) = _ at h
   generalize st.obj l0 i0 = o at h
   match o,h with
   | some (.iter (v :: vs)),h=>cases h; exact ⟨vs,rfl,rfl⟩
  obtain ⟨vs,e,rfl⟩:=hn
  obtain ⟨b,its,k,i,h3,h4,h5,h6⟩:=ok.objs _ _ _ _ e h2
  obtain ⟨x,hx,hxr⟩:=h6.get (i:=0) rfl
  have hx':its[i]? = some x:=by
   rw [List.getElem?_drop] at hx; simpa using hx
  refine next_list_raw (i:=i) ⟨_,h3,rfl,rfl⟩ (isList_of h5) (x:=x) (by simpa using hx') ?_
  have hne:b ≠ _:=fun q=>h4 (q ▸ .inl (.inr ⟨_,_,h2⟩))
  have hs:=Heap.SameBut.update s.heap a0 (Obj.mapFields (·.setIfInBounds 1 (rawInt ((i:Int) + 1))))
  obtain ⟨ok',g⟩:=ok.setObj (tk:=s.toks) (h':=s.heap.update a0 (Obj.mapFields (·.setIfInBounds 1 (rawInt ((i:Int) + 1))))) (o':=.iter _) h2 (fun b o hb e=>(hs.2 b hb).trans e)
   ⟨b,its,k,i + 1,by rw [Heap.get?_update_self _ h3 rfl]; simp [Obj.mapFields,rawInt],h4,(hs.2 b hne).trans h5,by
    have le:∀ lv,Wd.Le lv (wd lay A P s.heap) (wd lay A P (s.heap.update a0 (Obj.mapFields (·.setIfInBounds 1 (rawInt ((i:Int) + 1)))))):=
     fun lv=>⟨fun c o e q=>.of ((hs.2 c (fun x=>q (x ▸ .inl (.inr ⟨_,_,h2⟩)))).trans e),fun u_ u_ u_ h=>h,fun u_ u_ u_ u_ e=>e⟩
    have:=(h6.drop 1).mono (le _) (Nat.le_refl _)
    simpa [List.drop_drop,Nat.add_comm] using this⟩
  refine ⟨A,g,ok',?_⟩
  exact (hxr.mono (lv':=nl - 1) (.refl _ _) h1).mono (g.le P _) (Nat.le_refl _)
 | _=>cases h
theorem biSum_sound (ok:Ok B lay P nl A st s) (hh:Ar.handled = none) {items:List Value} {args:List V} {z:V} {st':St} (hr:RelL (wd lay A P s.heap) (nl - 1) items args) (h:biSum st args = some (z,st')):Runs B Ar lay P nl A s E z st' (call (.builtin "sum") items):=by
 obtain ⟨x,rfl,h⟩:=arg1_t h
 obtain ⟨vs,is,e,e2,h⟩:=intsV_t h
 obtain ⟨v,rfl,hv⟩:=hr.one
 obtain ⟨a,its,k,rfl,hg,hr'⟩:=seqOf_rel ok hv e
 obtain ⟨q,h⟩:=if_some h
 cases h
 simp only [Bool.and_eq_true,List.all_eq_true,decide_eq_true_eq] at q
 exact sum_sound ok hh hg (hr'.toInts e2).1 q.1 q.2
noncomputable abbrev BiR (B:Base) (Ar:Around) (lay:List Loc) (P:Addr->Prop) (nl:Nat) (A:List (List Addr)) (s:Shared) (E:Value->Shared->Prop) (z:V) (st':St) (items:List Value) (n:String):Prop:=Runs B Ar lay P nl A s E z st' (call (.builtin n) items)
theorem biV_sound (ok:Ok B lay P nl A st s) (hh:Ar.handled = none) {n:String} {items:List Value} {args:List V} {z:V} {st':St} (hr:RelL (wd lay A P s.heap) (nl - 1) items args)
  (h:biV st n args = some (z,st')):wpAny (model B.prog B.w) Ar (call (.builtin n) items) (Post B lay P A s nl st' z RV) E s:=
 biIf (R:=BiR B Ar lay P nl A s E z st' items) h (biLen_sound ok hr) fun h=>biIf (R:=BiR B Ar lay P nl A s E z st' items) h (biAbs_sound ok hr) fun h=>biIf (R:=BiR B Ar lay P nl A s E z st' items) h (biDiv_sound ok hr) fun h=>
 biIf (R:=BiR B Ar lay P nl A s E z st' items) h (biHex_sound ok hr) fun h=>biIf (R:=BiR B Ar lay P nl A s E z st' items) h (biIter_sound ok hr) fun h=>biIf (R:=BiR B Ar lay P nl A s E z st' items) h (biNext_sound ok hr) fun h=>
 biIf (R:=BiR B Ar lay P nl A s E z st' items) h (biSum_sound ok hh hr) fun h => 
  nomatch h
theorem Ok.rng_post (ok:Ok B lay P nl A st s) (a b c:Int) (t u v tk:Nat) :
  Post B lay P A s nl st (V.rng a b c) RV (.ref s.heap.objs.size) { s with heap:=s.heap.push { cls:=.type "range",data:=.fields #[.int a t,.int b u,.int c v] },toks:=tk }:=
 let ⟨ok',g⟩:=ok.grow (h':=s.heap.push { cls:=.type "range",data:=.fields #[.int a t,.int b u,.int c v] }) (tk:=tk) (fun u_ u_ e=>Heap.get?_push_of_some _ e)
 ⟨A,g,ok',.rng ok.fresh (IsRange.new ..)⟩
theorem tyRng_sound (ok:Ok B lay P nl A st s) {items:List Value} {args:List V} {z:V} {st':St} (hr:RelL (wd lay A P s.heap) (nl - 1) items args) (h:tyRng st args = some (z,st')):Runs B Ar lay P nl A s E z st' (call (.type "range") items):=by
 cases e:intsOf args with
 | none=>unfold tyRng at h; rw [e] at h; cases h
 | some is=>
  have h0:rng3 st is = some (z,st'):=by unfold tyRng at h; rw [e] at h; exact h
  clear h
  have h:=h0
  obtain rfl:=(hr.toInts e).2
  clear e h0
  cases is with
  | nil=>cases h
  | cons a r=>
  cases r with
  | nil=>
   cases h
   exact hr.one_e fun v hv=>hv.int_e fun t=>call_range_1 (ok.rng_post _ _ _ _ _ _ _)
  | cons b r=>
  cases r with
  | nil=>
   cases h
   exact hr.cons_e fun v u_ hv hr=>hr.one_e fun u hu=>hv.int_e fun t=>hu.int_e fun t2=>call_range_2 (ok.rng_post _ _ _ _ _ _ _)
  | cons c r=>
  cases r with
  | cons _ _=>cases h
  | nil=>
   obtain ⟨q,h1⟩:=if_none h
   cases h1
   rw [Bool.or_eq_true,not_or,decide_eq_true_eq,Bool.not_eq_true',Bool.not_eq_false] at q
   exact hr.cons_e fun v u_ hv hr=>hr.cons_e fun u u_ hu hr=>hr.one_e fun t ht=>hv.int_e fun t1=>hu.int_e fun t2=>ht.int_e fun t3=>
    call_range_3 q.1 (ok.rng_post _ _ _ _ _ _ _) (.inl (PyProof.noPylong_small (by have:=of_decide_eq_true q.2; lia)))
theorem tyBytes_sound (hh:Ar.handled = none) (ok:Ok B lay P nl A st s) {items:List Value} {args:List V} {z:V} {st':St} (hr:RelL (wd lay A P s.heap) (nl - 1) items args) (h:tyBytes st args = some (z,st')):Runs B Ar lay P nl A s E z st' (call (.type "bytes") items):=by
 obtain ⟨x,rfl,h1⟩:=arg1_t h
 obtain ⟨vs,is,e,e2,h2⟩:=intsV_t h1
 obtain ⟨q,h3⟩:=if_some h2
 cases h3
 refine hr.one_e fun v hv=>?_
 obtain ⟨a,its,k,rfl,hg,hr'⟩:=seqOf_rel ok hv e
 simp only [Bool.and_eq_true,List.all_eq_true,decide_eq_true_eq] at q
 have hi:=(hr'.toInts e2).1
 have hl:=hi.length
 have hz:=q.2
 unfold lim at hz
 refine call_bytes_ints (isList_of hg) hi (fun n hn=>q.1 n hn) (by rw [sizeLine_eq]; lia) hh fun h' t k hk=>?_
 obtain ⟨ok',g⟩:=ok.grow (tk:=k) hk
 exact ⟨A,g,ok',.bytes⟩
theorem tyInt_sound (ok:Ok B lay P nl A st s) {items:List Value} {args:List V} {z:V} {st':St} (hr:RelL (wd lay A P s.heap) (nl - 1) items args) (h:tyInt st args = some (z,st')):Runs B Ar lay P nl A s E z st' (call (.type "int") items):=by
 revert hr
 exact arg1_e h fun x h=>intV_e h fun i h hr=>hr.one_e fun v hv=>hv.int_e fun t=>by
  cases h
  exact call_int_int (ok.int_post _ _ s.toks)
noncomputable abbrev TyR (B:Base) (Ar:Around) (lay:List Loc) (P:Addr->Prop) (nl:Nat) (A:List (List Addr)) (s:Shared) (E:Value->Shared->Prop) (z:V) (st':St) (items:List Value) (n:String):Prop:=Runs B Ar lay P nl A s E z st' (call (.type n) items)
theorem tyV_sound (ok:Ok B lay P nl A st s) (hh:Ar.handled = none) {n:String} {items:List Value} {args:List V} {z:V} {st':St} (hr:RelL (wd lay A P s.heap) (nl - 1) items args)
  (h:tyV st n args = some (z,st')):wpAny (model B.prog B.w) Ar (call (.type n) items) (Post B lay P A s nl st' z RV) E s:=
 biIf (R:=TyR B Ar lay P nl A s E z st' items) h (tyInt_sound ok hr) fun h=>biIf (R:=TyR B Ar lay P nl A s E z st' items) h (tyRng_sound ok hr) fun h=>biIf (R:=TyR B Ar lay P nl A s E z st' items) h (tyBytes_sound hh ok hr) fun h =>  nomatch h
end
end
section
theorem insAt_array (items:List Value) (x:Int) (y:Value) :
  (items.toArray.extract 0 (if x < 0 then (x + (items.toArray.size:Int)).toNat else min x.toNat items.toArray.size)).push y ++ items.toArray.extract (if x < 0 then (x + (items.toArray.size:Int)).toNat else min x.toNat items.toArray.size) = (insAt items x y).toArray:=by
 unfold insAt
 simp
 exact List.take_of_length_le (by rw [List.length_drop]; lia)
theorem RelL.insAt {w:Wd} {lv:Nat} {vs:List Value} {xs:List V} (h:RelL w lv vs xs) (k:Int) {v:Value} {x:V} (hv:Rel w lv v x):RelL w lv (insAt vs k v) (insAt xs k x):=by
 unfold Mine.insAt
 rw [h.length]
 exact (h.take _).append (.cons hv (h.drop _))
theorem insAt_length {α:Type} (xs:List α) (k:Int) (x:α):(insAt xs k x).length = xs.length + 1:=by
 unfold insAt
 rw [List.length_append,List.length_cons,<- Nat.add_assoc,<- List.length_append,List.take_append_drop]
mutual
theorem lvlOk_rel {w:Wd} {lv l:Nat}:∀ {x:V} {v:Value},Rel w lv v x->x.lvlOk l = true->Rel w l v x
 | .imm _,_,h,_=>h.imm_e .imm
 | .int _,_,h,_=>h.int_e fun u_=>.int
 | .str _,_,h,_=>h.str_e fun u_=>.str
 | .bytes _,_,h,_=>h.bytes_e fun u_=>.bytes
 | .tup vs,_,h,q=>h.tup_e fun u_ u_ u_ a b c=>.tup a b (lvlOkL_rel c q)
 | .lst vs,_,h,q=>h.lst_e fun u_ u_ u_ a b c=>.lst a b (lvlOkL_rel c q)
 | .rng _ _ _,_,h,_=>by cases h with | rng a b=>exact .rng a b
 | .ref _ _,_,h,q=>h.ref_e fun u_ a b=>.ref (of_decide_eq_true q) b
 | .clo _ _,_,h,_=>by cases h
theorem lvlOkL_rel {w:Wd} {lv l:Nat}:∀ {xs:List V} {vs:List Value},RelL w lv vs xs->V.lvlOkL l xs = true->RelL w l vs xs
 | [],_,h,_=>h.nil_e .nil
 | x :: xs,_,h,q=>h.cons_e fun u_ u_ a b=>by
  have q:(V.lvlOk l x && V.lvlOkL l xs) = true:=q
  rw [Bool.and_eq_true] at q
  exact .cons (lvlOk_rel a q.1) (lvlOkL_rel b q.2)
end
section
variable {B:Base} {Ar:Around} {lay:List Loc} {P:Addr->Prop} {nl:Nat} {A:List (List Addr)} {st:St} {s:Shared} {E:Value->Shared->Prop}
theorem Ok.setList (ok:Ok B lay P nl A st s) {l i:Nat} {a:Addr} {items:List Value} {vs:List V} {n:Nat} {h':Heap} {tk:Nat} (hl:look A l i = some a)
  (hs:Heap.SameBut a s.heap h') (hg:h'.get? a = some (LObj items.toArray n)) (hr:RelL (wd lay A P s.heap) l items vs) :
  Ok B lay P nl A (st.setObj l i (.list vs)) { s with heap:=h',toks:=tk } /\ Go lay A A s { s with heap:=h',toks:=tk }:=by
 have le:Wd.Le l (wd lay A P s.heap) (wd lay A P h'):=⟨fun c o e q=>.of ((hs.2 c (fun x=>q (x ▸ .inl (.inr ⟨_,_,hl⟩)))).trans e),fun u_ u_ u_ h=>h,fun u_ u_ u_ u_ e=>e⟩
 exact ok.setObj hl (fun b o hb e=>(hs.2 b hb).trans e) ⟨items,n,hg,hr.mono le (Nat.le_refl _)⟩
theorem seqOf_obj {l i:Nat} {vs:List V} (h:st.obj l i = some (.list vs)):seqOf st (.ref l i) = some vs:=by simp only [seqOf]; rw [h]
noncomputable def MethAt (B:Base) (Ar:Around) (lay:List Loc) (P:Addr->Prop) (nl:Nat) (n:Str) (ov:Value) (o:V) (id:String):Prop:=
 ∀ (A:List (List Addr)) (st:St) (s:Shared) (E:Value->Shared->Prop),Ok B lay P nl A st s->Rel (wd lay A P s.heap) (nl - 1) ov o->∀ (items:List Value) (args:List V) (z:V) (st':St),
  RelL (wd lay A P s.heap) (nl - 1) items args->methV B.G st o n args = some (z,st')->wpAny (model B.prog B.w) Ar (call (.builtin id) (ov :: items)) (Post B lay P A s nl st' z RV) E s
theorem append_at' {l i:Nat} {ov:Value}:MethAt B Ar lay P nl "append" ov (.ref l i) "list.append" := fun A st s E ok hv items args z st' hr h=>by
 obtain ⟨vs,e,h1⟩:=listV_t h
 obtain ⟨x,rfl,h2⟩:=arg1_t ((if_pos rfl).symm.trans h1)
 obtain ⟨q,h3⟩:=if_some h2
 cases h3
 rw [Bool.and_eq_true,decide_eq_true_eq] at q
 obtain ⟨v,rfl,hv'⟩:=hr.one
 refine hv.ref_e fun a h1 h2=>?_
 obtain ⟨its,k,h3,h4⟩:=ok.objs _ _ _ _ e h2
 have hz:=q.2
 have hl:=h4.length
 unfold lim at hz
 refine append_at h3 (fun h' hs hg=>?_) (by rw [List.size_toArray,sizeLine_eq]; lia)
 obtain ⟨ok',g⟩:=ok.setList (tk:=s.toks) (items:=its ++ [v]) (vs:=vs ++ [x]) (n:=k + 1) h2 hs (by rw [hg]; simp) (h4.append (.cons (lvlOk_rel hv' q.1) .nil))
 exact ⟨A,g,ok',.imm⟩
theorem insert_at' {l i:Nat} {ov:Value}:MethAt B Ar lay P nl "insert" ov (.ref l i) "list.insert" := fun A st s E ok hv items args z st' hr h=>by
 obtain ⟨vs,e,h1⟩:=listV_t h
 unfold methL at h1
 rw [if_neg (by decide +kernel),if_pos rfl] at h1
 obtain ⟨kk,x,rfl,h2⟩:=arg2_t h1
 obtain ⟨k0,rfl,h3⟩:=intV_t h2
 obtain ⟨q,h4⟩:=if_some h3
 cases h4
 rw [Bool.and_eq_true,Bool.and_eq_true,decide_eq_true_eq] at q
 obtain ⟨v,u,rfl,hv',hu⟩:=hr.two
 refine hv'.int_e fun t=>hv.ref_e fun a h1 h2=>?_
 obtain ⟨its,k,h3,h4⟩:=ok.objs _ _ _ _ e h2
 have hz:=q.1.2
 have hl:=h4.length
 unfold lim at hz
 have hsm:=of_decide_eq_true q.2
 have fin:∀ h',Heap.SameBut a s.heap h'->h'.get? a = some (LObj (insAt its k0 u).toArray (k + 1))->Post B lay P A s nl (st.setObj l i (.list (insAt vs k0 x))) (V.imm .none) RV .none { s with heap:=h',toks:=s.toks }:=fun h' hs hg=>by
  obtain ⟨ok',g⟩:=ok.setList (tk:=s.toks) h2 hs hg (h4.insAt _ (lvlOk_rel hu q.1.1))
  exact ⟨A,g,ok',.imm⟩
 refine call_meets PySem.F.slot_list_insert ⟨_,h3,rfl⟩ PySem.F.entry_list_insert (PySem.F.args_list_insert_3 _ _ _) (PySem.AutoSeq1.list_insert_list_int_val_1 a _ k _ _ u (by simp [Builtin.List.listFitsIndex]; lia) (by rw [List.size_toArray,sizeLine_eq]; lia)) ⟨h3,fin _ (Heap.SameBut.update ..) ?_⟩
 rw [Heap.get?_update_self _ h3 rfl]
 show some (Obj.mapSeq _ _) = _
 unfold Obj.mapSeq
 dsimp only
 rw [insAt_array,if_neg]
 rw [List.size_toArray,List.size_toArray,insAt_length,beq_iff_eq]; lia
theorem strs_of {w:Wd} {lv:Nat}:∀ {xs:List V} {vs:List Value} {ss:List Str},RelL w lv vs xs->strsOf xs = some ss->∃ l:List (Str × Tok),vs = strValues l /\ l.map (·.1) = ss
 | [],_,_,h,e=>h.nil_e (by cases e; exact ⟨[],rfl,rfl⟩)
 | x :: xs,_,_,h,e=>h.cons_e fun v vs h1 h2=>by
  cases x with
  | str x=>
   obtain ⟨l,q,e⟩:=strsOf_t e
   subst e
   obtain ⟨l',rfl,rfl⟩:=strs_of h2 q
   exact h1.str_e fun t=>⟨(x,t) :: l',rfl,rfl⟩
  | _=>cases e
theorem index_raw {l:Addr} {items:List Value} {n j:Nat} {xv:Value} {f:Value->Bool} {Q:Value->Shared->Prop} (hg:s.heap.get? l = some (LObj items.toArray n)) (he:∀ y ∈ items,MeetsSeq.EqGives y xv (f y)) (hj:(items.map f).findIdx? id = some j) (hl:items.length <= lim)
  (hq:∀ t tk,Q (.int j t) { s with toks:=tk }):wpAny (model B.prog B.w) Ar (call (.builtin "list.index") [.ref l,xv]) Q E s:=by
 rw [List.findIdx?_map] at hj
 obtain ⟨h1,h2,h3⟩:=List.findIdx?_eq_some_iff_getElem.mp hj
 unfold lim at hl
 refine call_meets PySem.F.slot_list_index ⟨_,hg,rfl⟩ PySem.F.entry_list_index (PySem.F.args_list_index_2 _ _) (MeetsSeq.list_index l items.toArray n xv f (fun y hy=>he y (List.mem_toArray.mp hy)) j h1 (by lia) h2 fun m u_ hm=>Bool.eq_false_iff.mpr (h3 m hm)) ⟨hg,hq _ _⟩
theorem ints_find {items:List Value} {is:List Int} (h:IntsAre items is) (b:Int):(∀ y ∈ items,∀ t,MeetsSeq.EqGives y (.int b t) (match y with | .int a _=>a == b | _=>false)) /\ items.map (fun y=>match y with | .int a _=>a == b | _=>false) = is.map (· == b):=by
 induction h with
 | nil=>exact ⟨fun u_ m=>(nomatch m),rfl⟩
 | cons _ _ _ ih=>exact ⟨fun y m t=>by
   rcases List.mem_cons.mp m with rfl | m
   ·exact .int _ _ _ _
   ·exact ih.1 y m t,congrArg (_ :: ·) ih.2⟩
theorem strs_find:∀ (l:List (Str × Tok)) (b:Str),(∀ y ∈ strValues l,∀ t,MeetsSeq.EqGives y (.str b t) (match y with | .str a _=>a == b | _=>false)) /\ (strValues l).map (fun y=>match y with | .str a _=>a == b | _=>false) = (l.map (·.1)).map (· == b)
 | [],_=>⟨fun u_ m=>(nomatch m),rfl⟩
 | (a,u) :: l,b=>⟨fun y m t=>by
   rcases List.mem_cons.mp m with rfl | m
   ·exact eqGives_str _ _ _ _
   ·exact (strs_find l b).1 y m t,congrArg (_ :: ·) (strs_find l b).2⟩
open Classical in
noncomputable def pairIs (h:Heap) (p:Int × Int) (v:Value):Bool:=decide (PairAt h v p)
open Classical in
theorem pairIs_of {h:Heap} {p q:Int × Int} {v:Value} (k:PairAt h v q):pairIs h p v = (q == p):=by
 unfold pairIs
 by_cases e:q = p
 ·subst e
  rw [beq_self_eq_true,decide_eq_true k]
 ·rw [beq_eq_false_iff_ne.mpr e]
  refine decide_eq_false fun k2=>e ?_
  obtain ⟨q1,q2⟩:=q
  obtain ⟨p1,p2⟩:=p
  obtain ⟨a,n,t,u,rfl,e1⟩:=k
  obtain ⟨a2,n2,t2,u2,e0,e2⟩:=k2
  cases e0
  rw [e1] at e2
  cases (e2 :) with
  | refl=>rfl
theorem pair_eq {A:Around} {s:Shared} {v u:Value} {p q:Int × Int} (hv:PairAt s.heap v q) (hu:PairAt s.heap u p) (hA:A.units + 64 < cLine):SeqAt.EqAt A s v u (q == p):=by
 obtain ⟨q1,q2⟩:=q
 obtain ⟨p1,p2⟩:=p
 obtain ⟨a,n,t1,t2,rfl,e1⟩:=hv
 obtain ⟨b,n2,u1,u2,rfl,e2⟩:=hu
 have r1:Reads s.heap (.ref a) (.tuple [.int q1,.int q2]) _:=.tuple e1 rfl rfl (.cons (.int _ _) (.cons (.int _ _) .nil))
 have r2:Reads s.heap (.ref b) (.tuple [.int p1,.int p2]) _:=.tuple e2 rfl rfl (.cons (.int _ _) (.cons (.int _ _) .nil))
 have h1:SeqAt.shaped (.tuple [.int q1,.int q2]) = true:=by rfl
 have h2:SeqAt.shaped (.tuple [.int p1,.int p2]) = true:=by rfl
 have:=SeqAt.eqAt_reads _ _ A s _ _ _ _ r1 r2 (SeqAt.canLay_of_shaped h1) (SeqAt.canLay_of_shaped h2) (SeqAt.room_of_shaped h1 hA)
 rwa [show PyData.eqv (.tuple [.int q1,.int q2]) (.tuple [.int p1,.int p2]) = ((q1,q2) == (p1,p2)) by
  simp only [PyData.eqv,PyData.eqvAll,Bool.and_true]; rfl] at this
theorem index_rawAt {l:Addr} {items:List Value} {n j:Nat} {xv:Value} {f:Value->Bool} {Q:Value->Shared->Prop} (hg:s.heap.get? l = some (LObj items.toArray n)) (he:∀ y ∈ items,SeqAt.EqAt Ar.in1 s y xv (f y)) (hj:(items.map f).findIdx? id = some j) (hl:items.length <= lim)
  (hq:∀ t tk,Q (.int j t) { s with toks:=tk }):wpAny (model B.prog B.w) Ar (call (.builtin "list.index") [.ref l,xv]) Q E s:=by
 rw [List.findIdx?_map] at hj
 obtain ⟨h1,h2,h3⟩:=List.findIdx?_eq_some_iff_getElem.mp hj
 unfold lim at hl
 exact call_meets PySem.F.slot_list_index ⟨_,hg,rfl⟩ PySem.F.entry_list_index (PySem.F.args_list_index_2 _ _) (SeqAt.list_indexAt l items.toArray n none #[] xv f j h1 (by lia) h2 fun m u_ hm=>Bool.eq_false_iff.mpr (h3 m hm)) ⟨hg,fun y hy=>he y (List.mem_toArray.mp hy),hq _ _⟩
theorem index_sound (ok:Ok B lay P nl A st s) {ov v:Value} {o x z:V} {vs:List V} {st':St} (hs:seqOf st o = some vs) (hv:Rel (wd lay A P s.heap) (nl - 1) ov o) (hx:Rel (wd lay A P s.heap) (nl - 1) v x) (h:idxN st vs x = some (z,st')):wpAny (model B.prog B.w) Ar (call (.builtin "list.index") [ov,v]) (Post B lay P A s nl st' z RV) E s:=by
 obtain ⟨hl,h⟩:=ite_none h
 obtain ⟨a,its,k,rfl,hg,hr⟩:=seqOf_rel ok hv hs
 cases e:idxV vs x with
 | none=>rw [e] at h; cases h
 | some j=>
  rw [e] at h
  cases h
  cases x with
  | int b=>
   cases q:intsOf vs with
   | none=>rw [idxV,q] at e; cases e
   | some is=>
    rw [idxV,q] at e
    have hf:=ints_find (hr.toInts q).1 b
    exact hx.int_e fun t=>index_raw hg (fun y m=>hf.1 y m t) (by rw [hf.2,List.findIdx?_map]; exact e) (hr.length ▸ hl) fun u tk=>ok.int_post _ _ _
  | str b=>
   cases q:strsOf vs with
   | none=>rw [idxV,q] at e; cases e
   | some ss=>
    rw [idxV,q] at e
    obtain ⟨l,rfl,rfl⟩:=strs_of hr q
    have hf:=strs_find l b
    exact hx.str_e fun t=>index_raw hg (fun y m=>hf.1 y m t) (by rw [hf.2,List.findIdx?_map]; exact e) (hr.length ▸ hl) fun u tk=>ok.int_post _ _ _
  | _=>cases e
theorem index_pair (hu:Ar.units + 100 < cLine) (ok:Ok B lay P nl A st s) {ov v:Value} {o x z:V} {vs:List V} {st':St} (hs:seqOf st o = some vs) (hv:Rel (wd lay A P s.heap) (nl - 1) ov o) (hx:Rel (wd lay A P s.heap) (nl - 1) v x) (h:idxP st vs x = some (z,st')):wpAny (model B.prog B.w) Ar (call (.builtin "list.index") [ov,v]) (Post B lay P A s nl st' z RV) E s:=by
 obtain ⟨hl,h⟩:=ite_none h
 obtain ⟨a,its,k,rfl,hg,hr⟩:=seqOf_rel ok hv hs
 cases e:idxT vs (pairV x) with
 | none=>rw [e] at h; cases h
 | some j=>
  rw [e] at h
  cases h
  cases q:pairV x with
  | none=>rw [q] at e; cases e
  | some p=>
   cases q2:pairsV vs with
   | none=>rw [q,idxT,q2] at e; cases e
   | some ps=>
    rw [q,idxT,q2] at e
    have e:ps.findIdx? (· == p) = some j:=e
    obtain ⟨k1,k2⟩:=pairs_at vs its ps hr q2
    have hp:=pair_at hx q
    have hm:its.map (pairIs s.heap p) = ps.map (· == p):=List.ext_getElem (by rw [List.length_map,List.length_map,k1]) fun i h1 h2=>by
     rw [List.length_map] at h1 h2
     rw [List.getElem_map,List.getElem_map]
     exact pairIs_of (k2 i _ _ (List.getElem?_eq_getElem h1) (List.getElem?_eq_getElem h2))
    refine index_rawAt (f:=pairIs s.heap p) hg (fun y m=>?_) (by rw [hm,List.findIdx?_map]; exact e) (hr.length ▸ hl) fun u tk=>ok.int_post _ _ _
    obtain ⟨i,hi,rfl⟩:=List.mem_iff_getElem.mp m
    have h2:i < ps.length:=by rw [k1]; exact hi
    have:=k2 i _ _ (List.getElem?_eq_getElem hi) (List.getElem?_eq_getElem h2)
    rw [pairIs_of this]
    exact pair_eq this hp (by show Ar.units + 1 + 64 < cLine; lia)
theorem index_at' (hu:Ar.units + 100 < cLine) {ov:Value} {o:V} (ho:∀ st:St,∀ {args:List V} {r:V × St},methV B.G st o "index" args = some r->∃ vs,seqOf st o = some vs /\ methI st args vs = some r):MethAt B Ar lay P nl "index" ov o "list.index" := fun A st s E ok hv items args z st' hr h=>by
 obtain ⟨vs,e,h⟩:=ho st h
 obtain ⟨x,rfl,h⟩:=arg1_t h
 obtain ⟨v,rfl,hv'⟩:=hr.one
 cases x with
 | tup us=>exact index_pair hu ok e hv hv' h
 | _=>exact index_sound ok e hv hv' h
theorem erase_rel {w:Wd} {lv:Nat}:∀ {its:List Value} {vs:List V} (k:Nat),RelL w lv its vs->RelL w lv (its.eraseIdx k) (vs.eraseIdx k)
 | _,_,_,.nil=>.nil
 | _,_,0,.cons _ h=>h
 | _,_,k + 1,.cons h1 h=>.cons h1 (erase_rel k h)
theorem pop_at' {l i:Nat} {ov:Value}:MethAt B Ar lay P nl "pop" ov (.ref l i) "list.pop" := fun A st s E ok hv items args z st' hr h=>by
 obtain ⟨vs,e,h1⟩:=listV_t h
 unfold methL at h1
 rw [if_neg (by decide +kernel),if_neg (by decide +kernel),if_neg (by decide +kernel),if_pos rfl] at h1
 obtain ⟨kk,rfl,h2⟩:=arg1_t h1
 obtain ⟨k0,rfl,h3⟩:=intV_t h2
 obtain ⟨q,h4⟩:=ite_none h3
 obtain ⟨q1,q2⟩:=and_t q
 have q1:=of_decide_eq_true q1
 have q2:=of_decide_eq_true q2
 cases hx:vs[k0.toNat]? with
 | none=>rw [hx] at h4; cases h4
 | some x=>
 rw [hx] at h4
 have e1:x = z:=congrArg Prod.fst (Option.some.inj h4)
 have e2:st.setObj l i (.list (vs.eraseIdx k0.toNat)) = st':=congrArg Prod.snd (Option.some.inj h4)
 subst e1; subst e2
 obtain ⟨v,rfl,hv'⟩:=hr.one
 refine hv'.int_e fun t=>hv.ref_e fun a h1 h2=>?_
 obtain ⟨its,k,h3,h4⟩:=ok.objs _ _ _ _ e h2
 have hl:=h4.length
 obtain ⟨y,hy,ry⟩:=h4.get hx
 have hlt:k0.toNat < its.length:=(List.getElem?_eq_some_iff.mp hy).1
 unfold lim at q2
 have hk:seqIndex? k0 its.toArray.size = some k0.toNat:=by
  rw [List.size_toArray]
  have hn:¬ k0 < 0:=by lia
  have h1:k0 < its.length:=by lia
  simp [seqIndex?,hn,q1,h1]
 have fin:∀ h',Heap.SameBut a s.heap h'->h'.get? a = some (LObj (its.eraseIdx k0.toNat).toArray (k + 1))->Post B lay P A s nl (st.setObj l i (.list (vs.eraseIdx k0.toNat))) x RV y { s with heap:=h',toks:=s.toks }:=fun h' hs hg=>by
  obtain ⟨ok',g⟩:=ok.setList (tk:=s.toks) h2 hs hg (erase_rel _ h4)
  exact ⟨A,g,ok',(ry.mono (.refl _ _) h1).mono (g.le P _) (Nat.le_refl _)⟩
 refine call_meets PySem.F.slot_list_pop ⟨_,h3,rfl⟩ PySem.F.entry_list_pop (PySem.F.args_list_pop_2 _ _) (PySem.MeetsSeq.list_pop_at a _ k _ t _ y (by simp [Builtin.List.listFitsIndex]; lia) hk (by simpa using hy) (by rw [List.size_toArray,sizeLine_eq]; lia)) ⟨h3,fin _ (Heap.SameBut.update ..) ?_⟩
 rw [Heap.get?_update_self _ h3 rfl]
 show some (Obj.mapSeq _ _) = _
 unfold Obj.mapSeq
 simp
 rw [List.length_eraseIdx_of_lt hlt]; lia
theorem methV_join {G:Pg} {st:St} {x:Str} {args:List V}:methV G st (.str x) "join" args = methJ st x args:=by
 delta methV
 dsimp only
 exact if_pos rfl
theorem join_at' {x:Str} {ov:Value}:MethAt B Ar lay P nl "join" ov (.str x) "str.join" := fun A st s E ok hv items args z st' hr h=>by
 obtain ⟨y,rfl,h1⟩:=arg1_t (methV_join.symm.trans h)
 obtain ⟨vs,e,h2⟩:=seqV_t h1
 obtain ⟨v,rfl,hv'⟩:=hr.one
 obtain ⟨a,its,k,rfl,hg,hr'⟩:=seqOf_rel ok hv' e
 cases q:strsOf vs with
 | none=>rw [q] at h2; cases h2
 | some ss=>
  rw [q] at h2
  obtain ⟨hj,h3⟩:=if_some h2
  cases h3
  obtain ⟨l,rfl,rfl⟩:=strs_of hr' q
  exact hv.str_e fun t=>SC.join (isList_of hg) rfl hj fun t' k=>ok.str_post _ _ _
theorem get_at' (gd:GdOk B) {a:Addr} {ov:Value}:MethAt B Ar lay P nl "get" ov (.imm (.ref a)) "dict.get" := fun A st s E ok hv items args z st' hr h=>by
 obtain ⟨kk,d,rfl,h1⟩:=arg2_t (show methG B.G st (.ref a) args = _ from (ite_none (c:=("get" : Str) = "get") h).2)
 obtain ⟨k,rfl,h2⟩:=intV_t h1
 cases e:B.G.gds.lookup a with
 | none=>rw [e] at h2; cases h2
 | some kvs=>
  rw [e] at h2
  have h3:getK st (kvs.lookup k) d = (z,st'):=Option.some.inj h2
  obtain ⟨v,u,rfl,hv',hu⟩:=hr.two
  refine hv.imm_e (hv'.int_e fun t=>gd.get _ kvs e _ _ _ _ _ _ _ (fun b o e=>ok.base b o e) fun tk=>?_)
  generalize kvs.lookup k = o at h3
  cases o with
  | some x=>cases h3; exact fun t'=>ok.str_post _ _ _
  | none=>
   cases h3
   obtain ⟨ok',g⟩:=ok.toks tk
   exact ⟨A,g,ok',hu.mono (g.le P _) (Nat.le_refl _)⟩
theorem getMethod_sound (hu:Ar.units + 100 < cLine) (gd:GdOk B) (ok:Ok B lay P nl A st s) {ov:Value} {o:V} {n:Str} (hx:Rel (wd lay A P s.heap) (nl - 1) ov o) (h:methOk B.G st o n = true) :
  ∃ id,(∀ (pl:Sem Bool) (Q:Value × List Value->Shared->Prop),Q (.builtin id,[ov]) s->wpAny (model B.prog B.w) Ar (getMethod ov n pl) Q E s) /\ MethAt B Ar lay P nl n ov o id:=by
 cases o with
 | ref l i=>
  obtain ⟨⟨vs,e⟩,h⟩:=listB_t h
  refine hx.ref_e fun a h1 h2=>?_
  obtain ⟨its,k,h3,h4⟩:=ok.objs _ _ _ _ e h2
  rcases Bool.or_eq_true_iff.mp h with q | q
  ·obtain rfl:=of_decide_eq_true q
   exact ⟨"list.append",fun pl Q hq=>Calls.getMethod_list_append h3 rfl rfl hq,append_at'⟩
  ·
   rcases Bool.or_eq_true_iff.mp q with q | q
   ·
    obtain rfl:=of_decide_eq_true q
    exact ⟨"list.insert",fun pl Q hq=>getMethod_list_of PySem.F.slot_list_insert PySem.F.type_list_insert (isList_of h3) ⟨_,h3,rfl⟩ hq,insert_at'⟩
   ·
    rcases Bool.or_eq_true_iff.mp q with q | q
    ·obtain rfl:=of_decide_eq_true q
     exact ⟨"list.pop",fun pl Q hq=>getMethod_list_of PySem.F.slot_list_pop PySem.F.type_list_pop (isList_of h3) ⟨_,h3,rfl⟩ hq,pop_at'⟩
    obtain rfl:=of_decide_eq_true q
    exact ⟨"list.index",fun pl Q hq=>getMethod_list_of PySem.F.slot_list_index PySem.F.type_list_index (isList_of h3) ⟨_,h3,rfl⟩ hq,index_at' hu fun st args r h=>by
     obtain ⟨vs,e,h⟩:=listV_t h
     unfold methL at h
     rw [if_neg (by decide +kernel),if_neg (by decide +kernel),if_pos rfl] at h
     exact ⟨vs,seqOf_obj e,h⟩⟩
 | lst vs=>
  obtain rfl:=of_decide_eq_true h
  refine hx.lst_e fun a items k u_ h3 u_=>⟨"list.index",fun pl Q hq=>getMethod_list_of PySem.F.slot_list_index PySem.F.type_list_index (isList_of h3) ⟨_,h3,rfl⟩ hq,index_at' hu fun st args r h=>⟨vs,rfl,(ite_none (c:=("index" : Str) = "index") h).2⟩⟩
 | str x=>
  obtain rfl:=of_decide_eq_true h
  exact hx.str_e fun t=>⟨"str.join",fun pl Q hq=>by with_reducible exact GM.join hq,join_at'⟩
 | imm v=>
  cases v with
  | ref a=>
   obtain ⟨q,h2⟩:=Bool.and_eq_true_iff.mp h
   obtain rfl:=of_decide_eq_true q
   exact hx.imm_e ⟨"dict.get",fun pl Q hq=>gd.meth _ h2 _ _ _ _ _ (fun b o e=>ok.base b o e) hq,get_at' gd⟩
  | _=>cases h
 | _=>cases h
end
end
section
noncomputable abbrev RU:Wd->Nat->Unit->Unit->Prop:=fun u_ u_ u_ u_=>True
section
variable {B:Base} {Ar:Around} {lay:List Loc} {P:Addr->Prop} {nl:Nat} {A:List (List Addr)} {st:St} {s:Shared} {E:Value->Shared->Prop}
theorem setItem_raw {l:Addr} {items:Array Value} {n:Nat} {k:Int} {t:Tok} {v:Value} {Q:Unit->Shared->Prop} (hl:s.heap.get? l = some (LObj items n))
  (h0:0 <= k) (hfit:k < 2 ^ 63) (hn:k < items.size)
  (hQ:Q () { s with heap:=s.heap.update l (Obj.mapSeq (·.setIfInBounds k.toNat v)) }) :
  wpAny (model B.prog B.w) Ar (setItem (.ref l) (.int k t) v) Q E s:=by
 have hl':=isList_of hl
 have hj:k.toNat < items.size:=by lia
 have hfits:=fitsIndex_of h0 hfit
 unfold setItem
 refine wpAny_holding ?_
 first | refine wpAny_bind (wpAny_pure ?_) | skip
 refine wpAny_bind (wpAny_sequenceKey hl'.typeIs (by decide) ?_)
 refine wpAny_bind (wpAny_callSpecial?_slot (name:=Str.ofString "__setitem__") hl'.typeIs slot_list_setitem
  (wpAny_call_entry slot_list_setitem hl'.typeIs entry_list_setitem ?_ (args_list_setitem _ _ _)))
 show wpAny _ _ (Builtin.List.listSubscript? (.int k t) >>= _) _ _ s
 refine wpAny_bind (wpAny_listSubscript_int hfits ?_)
 obtain ⟨j,rfl⟩:=Int.eq_ofNat_of_zero_le h0
 have hj':j < items.size:=hj
 show wpAny _ _ ((seqItemAt l j >>= fun r=>pure (r.map (j,·))) >>= _) _ _ s
 refine wpAny_bind (wpAny_bind (wpAny_seqItemAt hl rfl (wpAny_pure ?_)))
 rw [Array.getElem?_eq_getElem hj']
 show wpAny _ _ (setSeqItemAt l j v >>= _) _ _ s
 refine wpAny_bind (wpAny_setSeqItemAt hl rfl ?_)
 first
  | exact wpAny_bind (wpAny_pure (wpAny_pure ⟨.none,rfl,wpAny_pure hQ⟩))
  | exact wpAny_pure ⟨.none,rfl,wpAny_pure hQ⟩
theorem setItemV_sound (ok:Ok B lay P nl A st s) {o i v:Value} {x y z:V} {st':St} (hx:Rel (wd lay A P s.heap) (nl - 1) o x) (hy:Rel (wd lay A P s.heap) (nl - 1) i y)
  (hz:Rel (wd lay A P s.heap) (nl - 1) v z) (h:setItemV st x y z = some st') :
  wpAny (model B.prog B.w) Ar (setItem o i v) (Post B lay P A s nl st' () RU) E s:=by
 revert hx
 refine refV_e h fun l9 j9 h1 hx=>?_
 obtain ⟨k9,rfl,h2⟩:=intV_t h1
 obtain ⟨vs,e,h3⟩:=listV_t h2
 obtain ⟨j,hj,h4⟩:=ixV_t h3
 obtain ⟨q,h5⟩:=if_some h4
 cases h5
 rw [Bool.and_eq_true,decide_eq_true_eq] at q
 obtain ⟨hb,hj⟩:=ix_bound hj
 unfold lim at hb
 refine hy.int_e fun t=>hx.ref_e fun a h1 h2=>?_
 obtain ⟨its,k,h3,h4⟩:=ok.objs _ _ _ _ e h2
 have hlen:=h4.length
 have hc:=ix_cases hj
 have hjk:j = k9.toNat:=by lia
 refine setItem_raw h3 q.2 (by lia) (by rw [List.size_toArray,hlen]; lia) ?_
 obtain ⟨ok',g⟩:=ok.setList (tk:=s.toks) (h':=s.heap.update a (Obj.mapSeq (·.setIfInBounds k9.toNat v))) (items:=its.set k9.toNat v) (vs:=vs.set k9.toNat z) (n:=k) h2 (Heap.SameBut.update ..) (by
  rw [Heap.get?_update_self _ h3 rfl]
  simp [Obj.mapSeq]) (h4.set (lvlOk_rel hz q.1) _)
 rw [hjk]
 exact ⟨A,g,ok',trivial⟩
theorem iadd_list_raw {l b:Addr} {items items2:Array Value} {n n2:Nat} {Q:Value->Shared->Prop} (hl:s.heap.get? l = some (LObj items n)) (hb:s.heap.get? b = some (LObj items2 n2))
  (hsz:items.size + items2.size <= sizeLine) (h:Q (.ref l) { s with heap:=s.heap.update l (Obj.mapSeq fun x=>x ++ items2) }) :
  wpAny (model B.prog B.w) Ar (inplaceOp .Add (.ref l) (.ref b)) Q E s:=by
 have tl:=(isList_of hl).typeIs
 have tb:=(isList_of hb).typeIs
 unfold inplaceOp
 refine wpAny_holding ?_
 have hfi:fillsInplaceSlot (.type "list") "add" (Operator.Add == .Add) = pure false:=by
  unfold fillsInplaceSlot
  show (typeLookup (.type "list") (dunderI "add") >>= fun fi=>pure (fi.isSome && !isSeqSlot fi)) = pure false
  rw [PySem.F.slot_list_iadd.lookup]
  rfl
 have hsi:seqSlot? (.type "list") (dunderI "add") = pure (some (.builtin "list.__iadd__")):=PySem.seqSlot_of PySem.F.slot_list_iadd.lookup (by decide +kernel)
 refine wpAny_bind (wpAny_typeOf tl (wpAny_bind (wpAny_of_eq hfi ?_)))
 show wpAny _ _ (if false = true then _ else _) Q E s
 rw [if_neg Bool.false_ne_true]
 refine wpAny_bind (wpAny_binaryOp1_none (nm := "add") tl tb noFill_list_add ?_)
 refine wpAny_bind (wpAny_of_eq hsi ?_)
 refine wpAny_bind (wpAny_rule ?_)
 refine call_meets PySem.F.slot_list_iadd tl PySem.F.entry_list_iadd (PySem.F.args_list_iadd_2 _ _) (PySem.AutoSeq1.list___iadd___list_list_0 l items n b items2 n2 ?_ (by lia) (by lia)) ⟨hl,hb,h⟩
 have:Builtin.List.listTooLong (items.size + items2.size) = false:=by simp [Builtin.List.listTooLong]; lia
 rw [this]; simp
theorem augV_sound (ok:Ok B lay P nl A st s) {op:Operator} {o i:Value} {x y z:V} {st':St} (hx:Rel (wd lay A P s.heap) (nl - 1) o x) (hy:Rel (wd lay A P s.heap) (nl - 1) i y)
  (h:augV st op x y = some (z,st')):wpAny (model B.prog B.w) Ar (inplaceOp op o i) (Post B lay P A s nl st' z RV) E s:=by
 cases x with
 | int x=>
  obtain ⟨j,rfl,h1⟩:=intV_t h
  cases e:binI op x j with
  | none=>rw [e] at h1; cases h1
  | some c=>
   rw [e] at h1
   cases h1
   exact hx.int_e fun u_=>hy.int_e fun u_=>binI_sound_in ok e
 | ref l0 i0=>
  cases op with
  | Add=>
   obtain ⟨vs,e1,h1⟩:=listV_t h
   obtain ⟨us,e2,h2⟩:=seqV_t h1
   obtain ⟨q,h3⟩:=if_some h2
   cases h3
   rw [Bool.and_eq_true,decide_eq_true_eq] at q
   obtain ⟨b,its2,k2,rfl,hg2,hr2⟩:=seqOf_rel ok hy e2
   refine hx.ref_e fun a h1 h2=>?_
   obtain ⟨its,k,h3,h4⟩:=ok.objs _ _ _ _ e1 h2
   have hl:=h4.length
   have hl2:=hr2.length
   have hz:=q.2
   unfold lim at hz
   refine iadd_list_raw h3 hg2 (by rw [List.size_toArray,List.size_toArray,sizeLine_eq]; lia) ?_
   obtain ⟨ok',g⟩:=ok.setList (tk:=s.toks) (h':=s.heap.update a (Obj.mapSeq fun x=>x ++ its2.toArray)) (items:=its ++ its2) (vs:=vs ++ us) (n:=if its2 = [] then k else k + 1) h2 (Heap.SameBut.update ..) (by
    rw [Heap.get?_update_self _ h3 rfl]
    cases its2 <;> simp [Obj.mapSeq]) (h4.append (lvlOkL_rel hr2 q.1))
   exact ⟨A,g,ok',.ref h1 h2⟩
  | _=>cases h
 | _=>cases h
theorem Ok.setDict (ok:Ok B lay P nl A st s) {i:Nat} {L:Addr} {x:Str} {v:Option Value} {z:Option V} {h':Heap} {tk:Nat} (hi:lay[i]? = some (.dict L x)) {m:Str->Option Value} (hm:s.heap.Ns L m)
  (hn:h'.Ns L (fun y=>if y = x then v else m y)) (hs:Heap.SameBut L s.heap h') (hv:RelO (wd lay A P s.heap) (nl - 1) v z) :
  Ok B lay P nl A { st with ρ:=st.ρ.set i z } { s with heap:=h',toks:=tk } /\ Go lay A A s { s with heap:=h',toks:=tk }:=by
 have ta:Tch lay A L:=.inl ⟨_,List.mem_of_getElem? hi,rfl⟩
 have hk:∀ b o,b ≠ L->s.heap.get? b = some o->h'.get? b = some o:=fun b o hb e=>(hs.2 b hb).trans e
 have hL:∃ o,h'.get? L = some o:=let ⟨o,_,_,e,_⟩:=hn; ⟨o,e⟩
 have hlive:∀ b o,s.heap.get? b = some o->∃ o',h'.get? b = some o':=fun b o e=>by
  by_cases q:b = L
  ·subst q; exact hL
  ·exact ⟨o,hk b o q e⟩
 have g:Go lay A A s { s with heap:=h',toks:=tk }:=⟨fun b o e h=>.of (hk b o (fun q=>h (q ▸ ta)) e),hlive,fun u_ u_ u_ e=>e,fun u_ u_ u_ e=>.inl e,rfl,rfl,rfl⟩
 have le:=fun lv=>g.le P lv
 refine ⟨?_,g⟩
 exact {
  base:=fun b o e=>hk b o (fun q=>ok.baseM b o e (q ▸ .inl ta)) (ok.base b o e)
  baseM:=ok.baseM
  frs:=fun M hM=>by
   obtain ⟨o,es,ep,h1,h2,h3⟩:=ok.frs M hM
   by_cases q:M = L
   ·subst q
    obtain ⟨o',es',ep',e',d',_⟩:=hn
    exact ⟨o',es',ep',e',d',h3⟩
   ·exact ⟨o,es,ep,hk _ _ q h1,h2,h3⟩
  len:=by rw [List.length_set]; exact ok.len
  slots:=fun j lo e=>by
   have old:=ok.slots j lo e
   by_cases hji:j = i
   ·subst hji
    rw [hi] at e; cases e
    have hlt:j < st.ρ.length:=by rw [ok.len]; exact (List.getElem?_eq_some_iff.mp hi).1
    refine ⟨_,hn,?_⟩
    rw [if_pos rfl,List.getElem?_set_self hlt]
    exact hv.mono (le _) (Nat.le_refl _)
   ·rw [List.getElem?_set_ne (fun q=>hji q.symm)]
    have ap:=ok.sep j i lo _ e hi hji
    cases lo with
    | dict L' y=>
     obtain ⟨m',h1,h2⟩:=old
     by_cases hLL:L' = L
     ·subst hLL
      have hyx:y ≠ x:=by
       rcases ap with q | q
       ·exact absurd rfl q
       ·exact q
      refine ⟨_,hn,?_⟩
      rw [if_neg hyx]
      have:m' y = m y:=by
       obtain ⟨o1,es1,ep1,a1,b1,c1,d1⟩:=h1
       obtain ⟨o2,es2,ep2,a2,b2,c2,d2⟩:=hm
       rw [a1] at a2; cases a2
       rw [b1] at b2; cases b2
       rw [<- d1,<- d2]
      rw [<- this]
      exact h2.mono (le _) (Nat.le_refl _)
     ·exact ⟨m',h1.sameBut hs hLL,h2.mono (le _) (Nat.le_refl _)⟩
    | cell c=>
     have hc:c ≠ L:=ap
     obtain ⟨cv,⟨q,h1,h1'⟩,h2⟩:=old
     exact ⟨cv,⟨q,hk _ _ hc h1,h1'⟩,h2.mono (le _) (Nat.le_refl _)⟩
  sep:=ok.sep
  lenA:=ok.lenA
  dimA:=ok.dimA
  objs:=fun l' i' o b h1 h2=>rep_apart (le _) (fun q hq=>hk _ _ (fun x=>ok.layA _ (List.mem_of_getElem? hi) l' i' (by rw [h2,x]; rfl)) hq) (ok.objs l' i' o b h1 h2) fun u_ u_ u_ h=>h
  inj:=ok.inj
  layA:=ok.layA
  disP:=ok.disP
  alive:=fun b h=>let ⟨o,e⟩:=ok.alive b h; hlive b o e
  rlen:=ok.rlen
  lvl:=ok.lvl }
theorem Ok.setCell (ok:Ok B lay P nl A st s) {i:Nat} {c:Addr} {v:Value} {z:V} {h':Heap} {tk:Nat} (hi:lay[i]? = some (.cell c))
  (hn:h'.IsCell c (some v)) (hs:Heap.SameBut c s.heap h') (hv:Rel (wd lay A P s.heap) (nl - 1) v z) :
  Ok B lay P nl A { st with ρ:=st.ρ.set i (some z) } { s with heap:=h',toks:=tk } /\ Go lay A A s { s with heap:=h',toks:=tk }:=by
 have ta:Tch lay A c:=.inl ⟨_,List.mem_of_getElem? hi,rfl⟩
 have hk:∀ b o,b ≠ c->s.heap.get? b = some o->h'.get? b = some o:=fun b o hb e=>(hs.2 b hb).trans e
 have hL:∃ o,h'.get? c = some o:=let ⟨o,e,_⟩:=hn; ⟨o,e⟩
 have hlive:∀ b o,s.heap.get? b = some o->∃ o',h'.get? b = some o':=fun b o e=>by
  by_cases q:b = c
  ·subst q; exact hL
  ·exact ⟨o,hk b o q e⟩
 have g:Go lay A A s { s with heap:=h',toks:=tk }:=⟨fun b o e h=>.of (hk b o (fun q=>h (q ▸ ta)) e),hlive,fun u_ u_ u_ e=>e,fun u_ u_ u_ e=>.inl e,rfl,rfl,rfl⟩
 have le:=fun lv=>g.le P lv
 refine ⟨?_,g⟩
 exact {
  base:=fun b o e=>hk b o (fun q=>ok.baseM b o e (q ▸ .inl ta)) (ok.base b o e)
  baseM:=ok.baseM
  frs:=fun M hM=>by
   obtain ⟨o,es,ep,h1,h2,h3⟩:=ok.frs M hM
   refine ⟨o,es,ep,hk _ _ (fun q=>?_) h1,h2,h3⟩
   subst q
   obtain ⟨cv,⟨o',e',d'⟩,_⟩:=ok.slots i _ hi
   have e2:=Option.some.inj (h1.symm.trans e')
   rw [e2,d'] at h2; cases h2
  len:=by rw [List.length_set]; exact ok.len
  slots:=fun j lo e=>by
   have old:=ok.slots j lo e
   by_cases hji:j = i
   ·subst hji
    rw [hi] at e; cases e
    have hlt:j < st.ρ.length:=by rw [ok.len]; exact (List.getElem?_eq_some_iff.mp hi).1
    refine ⟨_,hn,?_⟩
    rw [List.getElem?_set_self hlt]
    exact .some (hv.mono (le _) (Nat.le_refl _))
   ·rw [List.getElem?_set_ne (fun q=>hji q.symm)]
    have ap:=ok.sep j i lo _ e hi hji
    refine slot_apart (le _) (fun q hq=>hk _ _ ?_ hq) old
    cases lo with
    | dict L' y=>exact ap
    | cell c'=>exact ap
  sep:=ok.sep
  lenA:=ok.lenA
  dimA:=ok.dimA
  objs:=fun l' i' o b h1 h2=>rep_apart (le _) (fun q hq=>hk _ _ (fun x=>ok.layA _ (List.mem_of_getElem? hi) l' i' (by rw [h2,x]; rfl)) hq) (ok.objs l' i' o b h1 h2) fun u_ u_ u_ h=>h
  inj:=ok.inj
  layA:=ok.layA
  disP:=ok.disP
  alive:=fun b h=>let ⟨o,e⟩:=ok.alive b h; hlive b o e
  rlen:=ok.rlen
  lvl:=ok.lvl }
end
end
section
structure CX where
 res:Str->Option Nat
 cel:Str->Bool
 gl:Str->Option Value
 n:Nat
 code:Value
 qual:Str
noncomputable def ownOf (scope:Scope):List Str:=(scope.names.filter fun x=>x.2 == .local || x.2 == .cell).map (·.1)
noncomputable def compCX (cx:CX) (Gl:Str->Option Value) (scope:Scope):CX where
 res x:=match scope.names.lookup x with
  | some .local=>((ownOf scope).idxOf? x).map (cx.n + ·)
  | some .cell=>((ownOf scope).idxOf? x).map (cx.n + ·)
  | some .free=>cx.res x
  | _=>none
 cel x:=match scope.names.lookup x with | some .cell=>true | some .free=>cx.cel x | _=>false
 gl x:=match scope.names.lookup x with | some .globalImplicit=>Gl x | _=>none
 n:=cx.n + (ownOf scope).length
 code:=cx.code
 qual:=cx.qual
structure Hn where
 mu:Pos->Bool
 gl:Str->Option Value
 pv:Addr
noncomputable def glIs (gl:Str->Option Value) (x:Str) (v:Value):Bool:=!badName x && decide (gl x = some v)
noncomputable def rsIs (res:Str->Option Nat) (x:Str) (i:Nat):Bool:=!badName x && decide (res x = some i)
noncomputable def glCall (gl:Str->Option Value) (v:Value) (q:Pt) (k:List PySem.Expr->Bool):Bool:=(decide (q.tag = 8 /\ (parts q.a).tag = 2) && q.ks.isEmpty) && (glIs gl (parts q.a).x v && k q.es)
noncomputable def cmpI (f:PySem.Expr->ME->Bool) (gl:Str->Option Value) (e:PySem.Expr):MI->Bool
 | .val m=>f e m
 | .enum (.val m)=>glCall gl (.type "enumerate") (parts e) fun as=>all2 f as [m]
 | _=>false
noncomputable def cmpP (f:PySem.Expr->ME->Bool) (res:Str->Option Nat):Nat->PySem.Expr->MPat->Bool
 | 0,_,_=>false
 | d + 1,e,p=>match p with
  | .slot i=>decide ((parts e).tag = 2) && decide (res (parts e).x = some i)
  | .tup ps=>decide ((parts e).tag = 14) && all2 (cmpP f res d) (parts e).es ps
  | .sub o i=>(decide ((parts e).tag = 11) && plainIx (parts e).b) && (f (parts e).a o && f (parts e).b i)
noncomputable def cmpO (f:PySem.Expr->ME->Bool):Option PySem.Expr->Option ME->Bool
 | none,none=>true
 | some e,some m=>f e m
 | _,_=>false
noncomputable def cmpK (f:PySem.Expr->ME->Bool) (k:Keyword) (m:Str × ME):Bool:=decide (k.arg = some m.1) && f k.value m.2
noncomputable def encOk:MI->PySem.Expr->Bool
 | .enum _,t=>decide ((parts t).tag = 14)
 | _,_=>true
noncomputable def cmpCl (f:PySem.Expr->ME->Bool) (gl:Str->Option Value) (res:Str->Option Nat):(PySem.Expr->MI->Bool)->List Comprehension->List Clause->Bool
 | _,[],[]=>true
 | fi,⟨t,i,ifs,a⟩ :: r,.mk p m fs :: cs=>(decide (a = 0) && encOk m t) && ((cmpP f res 4 t p && fi i m) && (all2 f ifs fs && cmpCl f gl res (cmpI f gl) r cs))
 | _,_,_=>false
noncomputable def scopeOk (cx:CX) (scope:Scope):Bool:=decide (scope.kind = .function) && decide ((scope.names.map (·.1)).Nodup) && scope.names.all (fun x=>x.2 != .free || cx.cel x.1) && decide (scope.names.lookup (".0" : Str) = some .local)
noncomputable def tagOf:ME->Nat
 | .const _=>1 | .slot _=>2 | .imm _=>2 | .bin _ _ _ _=>3 | .un _ _=>4 | .land _=>5 | .lor _=>5 | .cmp _ _ _=>6 | .ite _ _ _=>7 | .call _ _ _=>8 | .meth _ _ _=>8 | .comp _ _ _ _ _=>10 | .sub _ _=>11 | .slc _ _ _ _ _=>11 | .rvs _ _=>11
 | .lst _ _=>13 | .tup _=>14 | .lam _ _ _ _=>15 | _=>0
noncomputable def cmpG (H:Hn) (f:CX->PySem.Expr->ME->Bool) (cx:CX) (q:Pt):ME->Bool
 | .const c=>decide (q.cs = c)
 | .slot i=>rsIs cx.res q.x i
 | .imm v=>glIs cx.gl q.x v
 | .bin op a b mu=>decide (q.bop = op /\ H.mu q.p = mu) && (f cx q.a a && f cx q.b b)
 | .un op a=>decide (q.uop = op) && f cx q.a a
 | .land es=>decide (q.lop = .And) && all2 (f cx) q.es es
 | .lor es=>decide (q.lop = .Or) && all2 (f cx) q.es es
 | .cmp a ops bs=>decide (q.cops = ops) && (f cx q.a a && all2 (f cx) q.es bs)
 | .ite t a b=>f cx q.a t && (f cx q.b a && f cx q.d b)
 | .call g as ks=>decide ((parts q.a).tag = 2) && (f cx q.a g && (all2 (f cx) q.es as && all2 (cmpK (f cx)) q.ks ks))
 | .meth o nm as=>(decide ((parts q.a).tag = 9 /\ (parts q.a).x = nm /\ q.es.length < 20 /\ (parts (parts q.a).a).tag ≠ 8) && (((parts q.a).p.endLine == q.p.line) && q.ks.isEmpty)) && (f cx (parts q.a).a o && all2 (f cx) q.es as)
 | .comp mu base k cl m=>one q.sc fun scope=>(decide (H.mu q.p = mu /\ base = cx.n /\ k = (ownOf scope).length) && scopeOk cx scope) &&
   (cmpCl (f (compCX cx H.gl scope)) (compCX cx H.gl scope).gl (compCX cx H.gl scope).res (cmpI (f cx) cx.gl) q.gs cl && f (compCX cx H.gl scope) q.a m)
 | .sub o i=>plainIx q.b && (f cx q.a o && f cx q.b i)
 | .slc o lo hi stp mu=>(decide (H.mu q.p = mu /\ (parts q.b).tag = 12) && ((parts q.b).o3.isNone && stp.isNone)) && (f cx q.a o && (cmpO (f cx) (parts q.b).o1 lo && cmpO (f cx) (parts q.b).o2 hi))
 | .rvs o mu=>(decide (H.mu q.p = mu /\ (parts q.b).tag = 12) && ((parts q.b).o1.isNone && (parts q.b).o2.isNone)) && (f cx q.a o && cmpO (f cx) (parts q.b).o3 (some (.un .USub (.const (.int 1)))))
 | .lst es mu=>decide (H.mu q.p = mu) && all2 (f cx) q.es es
 | .tup es=>decide (q.es.length <= 1000) && all2 (f cx) q.es es
 | .lam m c0 qn is=>one q.sc fun sc=>(decide (cx.code = .ref c0 /\ cx.qual ++ ("<lambda>" : Str) = qn) && lamOk m q.ar q.a sc) && (all2 (fun x i=>rsIs cx.res x i && cx.cel x) m.caps is && sc.names.all (fun x=>decide (x.2 ≠ .free) || m.caps.contains x.1))
 | _=>false
noncomputable def cmpF (H:Hn) (f:CX->PySem.Expr->ME->Bool) (cx:CX) (q:Pt) (m:ME):Bool:=decide (q.tag = tagOf m /\ tagOf m ≠ 0) && cmpG H f cx q m
noncomputable def cmp (H:Hn):Nat->CX->PySem.Expr->ME->Bool
 | 0,_,_,_=>false
 | n + 1,cx,e,m=>cmpF H (cmp H n) cx (parts e) m
section
variable {H:Hn} {f:CX->PySem.Expr->ME->Bool} {cx:CX} {e:PySem.Expr} {R:PySem.Expr->Prop}
theorem cmp_tag:∀ {n:Nat} {m:ME},cmp H n cx e m = true->(parts e).tag ≠ 0
 | 0,_,h=>(Bool.false_ne_true h).elim
 | _ + 1,_,h=>(dec_t (and_t h).1).1 ▸ (dec_t (and_t h).1).2
theorem cm {m:ME} (h:cmpF H f cx (parts e) m = true):(parts e).tag = tagOf m /\ cmpG H f cx (parts e) m = true:=⟨(dec_t (and_t h).1).1,(and_t h).2⟩
@[elab_as_elim] theorem cmp_const {c} (h:cmpF H f cx (parts e) (.const c) = true) (K:∀ n p,R (.Constant c n p)):R e:=by
 obtain ⟨t,h⟩:=cm h
 obtain rfl:=dec_t h
 exact built (build_1 t) (K _ _)
@[elab_as_elim] theorem cmp_slot {i} (h:cmpF H f cx (parts e) (.slot i) = true) (K:∀ x p,rsIs cx.res x i = true->R (.Name x p)):R e:=built (build_2 (cm h).1) (K _ _ (cm h).2)
@[elab_as_elim] theorem cmp_imm {v} (h:cmpF H f cx (parts e) (.imm v) = true) (K:∀ x p,glIs cx.gl x v = true->R (.Name x p)):R e:=built (build_2 (cm h).1) (K _ _ (cm h).2)
@[elab_as_elim] theorem cmp_bin {op a b mu} (h:cmpF H f cx (parts e) (.bin op a b mu) = true) (K:∀ a' b' p,H.mu p = mu->f cx a' a = true->f cx b' b = true->R (.BinOp a' op b' p)):R e:=by
 obtain ⟨t,h⟩:=cm h
 obtain ⟨h,k⟩:=and_t h
 obtain ⟨rfl,hm⟩:=dec_t h
 exact built (build_3 t) (K _ _ _ hm (and_t k).1 (and_t k).2)
@[elab_as_elim] theorem cmp_un {op a} (h:cmpF H f cx (parts e) (.un op a) = true) (K:∀ a' p,f cx a' a = true->R (.UnaryOp op a' p)):R e:=by
 obtain ⟨t,h⟩:=cm h
 obtain ⟨h,k⟩:=and_t h
 obtain rfl:=dec_t h
 exact built (build_4 t) (K _ _ k)
@[elab_as_elim] theorem cmp_land {es} (h:cmpF H f cx (parts e) (.land es) = true) (K:∀ es' p,all2 (f cx) es' es = true->R (.BoolOp .And es' p)):R e:=by
 obtain ⟨t,h⟩:=cm h
 obtain ⟨h,k⟩:=and_t h
 exact built ((build_5 t).trans (by rw [dec_t h])) (K _ _ k)
@[elab_as_elim] theorem cmp_lor {es} (h:cmpF H f cx (parts e) (.lor es) = true) (K:∀ es' p,all2 (f cx) es' es = true->R (.BoolOp .Or es' p)):R e:=by
 obtain ⟨t,h⟩:=cm h
 obtain ⟨h,k⟩:=and_t h
 exact built ((build_5 t).trans (by rw [dec_t h])) (K _ _ k)
@[elab_as_elim] theorem cmp_cmp {a ops bs} (h:cmpF H f cx (parts e) (.cmp a ops bs) = true) (K:∀ a' bs' p,f cx a' a = true->all2 (f cx) bs' bs = true->R (.Compare a' ops bs' p)):R e:=by
 obtain ⟨t,h⟩:=cm h
 obtain ⟨h,k⟩:=and_t h
 obtain rfl:=dec_t h
 exact built (build_6 t) (K _ _ _ (and_t k).1 (and_t k).2)
@[elab_as_elim] theorem cmp_ite {t a b} (h:cmpF H f cx (parts e) (.ite t a b) = true) (K:∀ t' a' b' p,f cx t' t = true->f cx a' a = true->f cx b' b = true->R (.IfExp t' a' b' p)):R e:=
 have k:=and_t (cm h).2
 built (build_7 (cm h).1) (K _ _ _ _ k.1 (and_t k.2).1 (and_t k.2).2)
@[elab_as_elim] theorem cmp_call {g as ks} (h:cmpF H f cx (parts e) (.call g as ks) = true) (K:∀ x p as' ks' q,f cx (.Name x p) g = true->all2 (f cx) as' as = true->all2 (cmpK (f cx)) ks' ks = true->R (.Call (.Name x p) as' ks' q)):R e:=by
 obtain ⟨t,h⟩:=cm h
 obtain ⟨hn,k⟩:=and_t h
 obtain ⟨k1,k2⟩:=and_t k
 refine built (build_8 t) ?_
 have e1:=(build_2 (dec_t hn)).symm.trans (build_parts _)
 rw [<- e1] at k1 ⊢
 exact K _ _ _ _ _ k1 (and_t k2).1 (and_t k2).2
@[elab_as_elim] theorem cmp_meth {o nm as} (h:cmpF H f cx (parts e) (.meth o nm as) = true) (K:∀ o' p as' q,(p.endLine == q.line) = true->(parts o').tag ≠ 8->as'.length < 20->f cx o' o = true->all2 (f cx) as' as = true->R (.Call (.Attribute o' nm p) as' [] q)):R e:=by
 obtain ⟨t,h⟩:=cm h
 obtain ⟨h,k⟩:=and_t h
 obtain ⟨h,h2⟩:=and_t h
 obtain ⟨ha,rfl,hl,hc⟩:=dec_t h
 refine built (build_8 t) ?_
 rw [List.isEmpty_iff.mp (and_t h2).2,<- (build_9 ha).symm.trans (build_parts _)]
 exact K _ _ _ _ (and_t h2).1 hc hl (and_t k).1 (and_t k).2
@[elab_as_elim] theorem cmp_comp {mu base k cl m} (h:cmpF H f cx (parts e) (.comp mu base k cl m) = true) (K:∀ elt gens scope p,H.mu p = mu->base = cx.n->k = (ownOf scope).length->scopeOk cx scope = true->cmpCl (f (compCX cx H.gl scope)) (compCX cx H.gl scope).gl (compCX cx H.gl scope).res (cmpI (f cx) cx.gl) gens cl = true->f (compCX cx H.gl scope) elt m = true->R (.ListComp elt gens scope p)):R e:=by
 obtain ⟨t,h⟩:=cm h
 obtain ⟨scope,hs,h⟩:=one_t h
 obtain ⟨h,k⟩:=and_t h
 obtain ⟨h,hk⟩:=and_t h
 obtain ⟨h1,h2,h3⟩:=dec_t h
 exact built (build_10 t hs) (K _ _ _ _ h1 h2 h3 hk (and_t k).1 (and_t k).2)
@[elab_as_elim] theorem cmp_sub {o i} (h:cmpF H f cx (parts e) (.sub o i) = true) (K:∀ o' i' p,plainIx i' = true->f cx o' o = true->f cx i' i = true->R (.Subscript o' i' p)):R e:=
 have k:=and_t (cm h).2
 built (build_11 (cm h).1) (K _ _ _ k.1 (and_t k.2).1 (and_t k.2).2)
@[elab_as_elim] theorem cmp_slc {o lo hi stp mu} (h:cmpF H f cx (parts e) (.slc o lo hi stp mu) = true) (K:∀ o' lo' hi' p q,stp = none->f cx o' o = true->cmpO (f cx) lo' lo = true->cmpO (f cx) hi' hi = true->R (.Subscript o' (.Slice lo' hi' none p) q)):R e:=by
 obtain ⟨t,h⟩:=cm h
 obtain ⟨h,k⟩:=and_t h
 obtain ⟨h,h2⟩:=and_t h
 obtain ⟨hm,hs⟩:=dec_t h
 refine built (build_11 t) ?_
 rw [<- (build_12 hs).symm.trans (build_parts _),Option.isNone_iff_eq_none.mp (and_t h2).1]
 exact K _ _ _ _ _ (Option.isNone_iff_eq_none.mp (and_t h2).2) (and_t k).1 (and_t (and_t k).2).1 (and_t (and_t k).2).2
@[elab_as_elim] theorem cmp_rvs {o mu} (h:cmpF H f cx (parts e) (.rvs o mu) = true) (K:∀ o' se p q,f cx o' o = true->f cx se (.un .USub (.const (.int 1))) = true->R (.Subscript o' (.Slice none none (some se) p) q)):R e:=by
 obtain ⟨t,h⟩:=cm h
 obtain ⟨h,k⟩:=and_t h
 obtain ⟨h,h2⟩:=and_t h
 obtain ⟨hm,hs⟩:=dec_t h
 obtain ⟨k1,k2⟩:=and_t k
 refine built (build_11 t) ?_
 rw [<- (build_12 hs).symm.trans (build_parts _),Option.isNone_iff_eq_none.mp (and_t h2).1,Option.isNone_iff_eq_none.mp (and_t h2).2]
 cases hq:(parts (parts e).b).o3 with
 | none=>rw [hq] at k2; exact (Bool.false_ne_true k2).elim
 | some se=>rw [hq] at k2; exact K _ _ _ _ k1 k2
@[elab_as_elim] theorem cmp_lst {es mu} (h:cmpF H f cx (parts e) (.lst es mu) = true) (K:∀ es' p,H.mu p = mu->all2 (f cx) es' es = true->R (.List es' p)):R e:=
 have k:=and_t (cm h).2
 built (build_13 (cm h).1) (K _ _ (dec_t k.1) k.2)
@[elab_as_elim] theorem cmp_tup {es} (h:cmpF H f cx (parts e) (.tup es) = true) (K:∀ es' n p,es'.length <= 1000->all2 (f cx) es' es = true->R (.Tuple es' n p)):R e:=
 have k:=and_t (cm h).2
 built (build_14 (cm h).1) (K _ _ _ (dec_t k.1) k.2)
@[elab_as_elim] theorem glCall_t {gl v k} (h:glCall gl v (parts e) k = true) (K:∀ x p as q,glIs gl x v = true->k as = true->R (.Call (.Name x p) as [] q)):R e:=by
 obtain ⟨h,h2⟩:=and_t h
 obtain ⟨h,hk⟩:=and_t h
 obtain ⟨t,hn⟩:=dec_t h
 refine built (build_8 t) ?_
 rw [List.isEmpty_iff.mp hk,<- (build_2 hn).symm.trans (build_parts _)]
 exact K _ _ _ _ (and_t h2).1 (and_t h2).2
end
structure EnvOk (B:Base) (cx:CX) (env:Env) (lay:List Loc):Prop where
 kind:env.scope.kind = .function
 globals:env.globals = mainGlobals
 builtins:env.builtins = builtinsNs
 len:lay.length = cx.n
 var:∀ x i,cx.res x = some i->(env.kindOf x = some .local /\ lay[i]? = some (.dict env.locals x)) ∨
  ((env.kindOf x = some .cell ∨ env.kindOf x = some .free) /\ ∃ c,env.cells.lookup x = some c /\ lay[i]? = some (.cell c))
 cell:∀ x,cx.cel x = true->(env.kindOf x = some .cell ∨ env.kindOf x = some .free) /\ ∃ c,env.cells.lookup x = some c
 code:env.code = cx.code
 qual:env.qual = cx.qual
 glob:∀ x v,cx.gl x = some v->env.kindOf x = some .globalImplicit /\ (B.mg x = some v ∨ (B.mg x = none /\ B.mb x = some v))
 celf:∀ x i,cx.res x = some i->cx.cel x = false->env.kindOf x = some .local
noncomputable def FrEnv (l:List Env) (frs:List Addr):Prop:=l.map (·.frame) = frs.map some /\ ∀ env ∈ l,env.scope.kind ≠ .module
structure ArOk (B:Base) (Ar:Around) (nl:Nat):Prop where
 handled:Ar.handled = none
 frames:∃ l,Ar.frames = some l /\ FrEnv l B.frs
 depth:Ar.depth <= 400 + nl
 units:Ar.units <= 200 + 20 * nl
 nl:nl <= 100
theorem ArOk.cmp {B:Base} {Ar:Around} {nl:Nat} (ao:ArOk B Ar nl):Ar.units + 100 < cLine:=by
 have:=ao.units
 have:=ao.nl
 have e:cLine = 9900:=rfl
 lia
inductive RelK (w:Wd) (lv:Nat):List (Str × Value)->List (Str × V)->Prop
 | nil:RelK w lv [] []
 | cons {k:Str} {v:Value} {x:V} {vs xs}:RelO w lv (some v) (some x)->RelK w lv vs xs->RelK w lv ((k,v) :: vs) ((k,x) :: xs)
noncomputable def RelS (w:Wd) (lv:Nat) (vs:List Value) (xs:List V):Prop:=vs.length = xs.length /\ ∀ (i:Nat),RelO w lv vs[i]? xs[i]?
theorem RelL.toS {w:Wd} {lv:Nat} {vs:List Value} {xs:List V} (h:RelL w lv vs xs):RelS w lv vs xs:=⟨h.length,fun i=>by
 cases e:xs[i]? with
 | none=>rw [List.getElem?_eq_none (h.length ▸ List.getElem?_eq_none_iff.mp e)]; exact .none
 | some x=>obtain ⟨v,e1,e2⟩:=h.get e; rw [e1]; exact .some e2⟩
theorem RelS.snoc {w:Wd} {lv:Nat} {vs:List Value} {xs:List V} {v:Value} {x:V} (h:RelL w lv vs xs) (k:RelO w lv (some v) (some x)):RelS w lv (vs ++ [v]) (xs ++ [x]):=⟨by rw [List.length_append,List.length_append,h.length]; rfl,fun i=>by
 by_cases q:i < vs.length
 ·rw [List.getElem?_append_left q,List.getElem?_append_left (h.length ▸ q)]; exact h.toS.2 i
 ·rw [List.getElem?_append_right (Nat.le_of_not_lt q),List.getElem?_append_right (h.length ▸ Nat.le_of_not_lt q),h.length]
  generalize i - xs.length = j
  cases j with
  | zero=>exact k
  | succ j=>exact .none⟩
theorem RelK.mono {w w':Wd} {lv lv':Nat} (hl:Wd.Le lv w w') (hlv:lv <= lv') {vs xs} (h:RelK w lv vs xs):RelK w' lv' vs xs:=by
 induction h with
 | nil=>exact .nil
 | cons h1 _ ih=>exact .cons (h1.mono hl hlv) ih
noncomputable abbrev RL:Wd->Nat->List Value->List V->Prop:=fun w lv vs xs=>RelL w lv vs xs
inductive RelF (w:Wd) (lv:Nat):Flow->Fl->Prop
 | next:RelF w lv .next .next
 | brk:RelF w lv .brk .brk
 | ret {v x}:Rel w lv v x->RelF w lv (.ret v) (.ret x)
end
section
noncomputable def slotsOf:MPat->List Nat
 | .tup ps=>ps.filterMap fun p=>match p with | .slot i=>some i | _=>none
 | _=>[]
noncomputable def okSwap (t v:PySem.Expr) (p:MPat):Bool:=!decide ((parts t).tag = 14 /\ (parts v).tag = 14) || ((!((parts v).es.all (constantsAlone 8)) || (parts v).es.all (foldedForSure 8)) && decide (slotsOf p).Nodup)
set_option genInjectivity false in
set_option genSizeOf false in
structure SPt where
 tag:Nat
 e:PySem.Expr:=.Constant .none 0 ⟨0,0,0,0⟩
 e2:PySem.Expr:=.Constant .none 0 ⟨0,0,0,0⟩
 oe:Option PySem.Expr:=none
 oe2:Option PySem.Expr:=none
 ts:List PySem.Expr:=[]
 op:Operator:=.Add
 a:List Stmt:=[]
 b:List Stmt:=[]
 d:List Stmt:=[]
 hs:List ExceptHandler:=[]
 p:Pos
noncomputable def sparts:Stmt->SPt
 | .Expr e p=>{ tag:=1,e:=e,p:=p }
 | .Return e p=>{ tag:=2,oe:=e,p:=p }
 | .Assign ts v p=>{ tag:=3,ts:=ts,e:=v,p:=p }
 | .AugAssign t op v p=>{ tag:=4,e:=t,op:=op,e2:=v,p:=p }
 | .If t a b p=>{ tag:=5,e:=t,a:=a,b:=b,p:=p }
 | .While t a b p=>{ tag:=6,e:=t,a:=a,b:=b,p:=p }
 | .For t i a b p=>{ tag:=7,e:=t,e2:=i,a:=a,b:=b,p:=p }
 | .Break p=>{ tag:=8,p:=p }
 | .Raise a b p=>{ tag:=9,oe:=a,oe2:=b,p:=p }
 | .Try a hs b d p=>{ tag:=10,a:=a,hs:=hs,b:=b,d:=d,p:=p }
 | s=>{ tag:=0,a:=[s],p:=⟨0,0,0,0⟩ }
noncomputable def sbuildT (q:SPt):Nat->Stmt
 | 1=>.Expr q.e q.p
 | 2=>.Return q.oe q.p
 | 3=>.Assign q.ts q.e q.p
 | 4=>.AugAssign q.e q.op q.e2 q.p
 | 5=>.If q.e q.a q.b q.p
 | 6=>.While q.e q.a q.b q.p
 | 7=>.For q.e q.e2 q.a q.b q.p
 | 8=>.Break q.p
 | 9=>.Raise q.oe q.oe2 q.p
 | 10=>.Try q.a q.hs q.b q.d q.p
 | _=>(match q.a with | [s]=>s | _=>.Break q.p)
noncomputable def sbuild (q:SPt):Stmt:=sbuildT q q.tag
theorem sbuild_parts (s:Stmt):sbuild (sparts s) = s:=by cases s <;> rfl
theorem sbuilt {R:Stmt->Prop} {s x:Stmt} {n:Nat} (h:(sparts s).tag = n) (hx:sbuildT (sparts s) n = x) (k:R x):R s:=((congrArg (sbuildT (sparts s)) h).symm.trans (sbuild_parts s)) ▸ hx ▸ k
noncomputable def nmIs (res:Str->Option Nat) (i:Nat) (e:PySem.Expr):Bool:=decide ((parts e).tag = 2) && rsIs res (parts e).x i
noncomputable def glNm (gl:Str->Option Value) (v:Value) (e:PySem.Expr):Bool:=decide ((parts e).tag = 2) && glIs gl (parts e).x v
noncomputable def retOf (s:Stmt) (k:PySem.Expr->Bool):Bool:=decide ((sparts s).tag = 2) && one (sparts s).oe.toList k
noncomputable def hdOf (h:ExceptHandler) (k:PySem.Expr->List Stmt->Bool):Bool:=match h with | .ExceptHandler t n b _=>n.isNone && one t.toList fun t=>k t b
noncomputable def onRead (H:Hn) (cx:CX) (i j:Nat) (q:SPt):Bool:=(q.b.isEmpty && q.d.isEmpty) &&
 (one q.a (fun s1=>retOf s1 fun e1=>decide ((parts e1).tag = 13) && one (parts e1).es fun e2=>glCall cx.gl (.ref H.pv) (parts e2) fun as=>one as (nmIs cx.res j)) &&
 one q.hs (fun h=>hdOf h fun t body=>glNm cx.gl (.type "StopIteration") t && one body fun s2=>retOf s2 (nmIs cx.res i)))
noncomputable def loMsg:Str := "lo must be non-negative"
noncomputable def onFail (f:PySem.Expr->ME->Bool) (cx:CX) (q:SPt):Bool:=q.oe2.isNone && one q.oe.toList fun e=>glCall cx.gl (.type "ValueError") (parts e) fun as=>one as fun a=>f a (.const (.str loMsg))
noncomputable def hdAs (h:ExceptHandler) (k:PySem.Expr->Str->List Stmt->Bool):Bool:=match h with | .ExceptHandler t n b _=>one t.toList fun t=>one n.toList fun n=>k t n b
noncomputable def onOr (f:PySem.Expr->ME->Bool) (cx:CX) (row e:Nat) (t:PySem.Expr):Bool:=decide ((parts t).tag = 5 /\ (parts t).lop = .Or) && two (parts t).es fun c1 c2=>
 (decide ((parts c1).tag = 6 /\ (parts c1).cops = [.NotEq]) && (glCall cx.gl (.type "str") (parts (parts c1).a) (fun as=>one as (nmIs cx.res e)) && one (parts c1).es fun m=>f m (.const (.str loMsg)))) &&
  f c2 (.cmp (.slot row) [.NotEq] [.lst [.const (.int 0),.const (.int 2),.const (.int 5)] false])
noncomputable def onRefuse (f:PySem.Expr->ME->Bool) (cx:CX) (g row low e:Nat) (q:SPt):Bool:=(q.b.isEmpty && q.d.isEmpty) &&
 ((match q.a with | s1 :: _=>decide ((sparts s1).tag = 1 /\ (parts (sparts s1).e).tag ≠ 10) && f (sparts s1).e (.call (.slot g) [.slot row,.const (.int 2),.slot low] []) | []=>false) &&
  one q.hs fun h=>hdAs h fun t n b=>(glNm cx.gl (.type "ValueError") t && (rsIs cx.res n e && !cx.cel n)) && one b fun s2=>decide ((sparts s2).tag = 5) && ((sparts s2).b.isEmpty && onOr f cx row e (sparts s2).e))
noncomputable def stag:MS->Nat
 | .expr _=>1 | .ret _=>2 | .assign _ _=>3 | .augS _ _ _=>4 | .augI _ _ _ _=>4 | .ite _ _ _=>5 | .whil _ _ _=>6 | .for_ _ _ _ _=>7 | .brk=>8 | .fail=>9 | .readEnd _ _=>10 | .refuse _ _ _ _=>10 | _=>11
noncomputable def cmpSG (H:Hn) (f:PySem.Expr->ME->Bool) (g:Stmt->MS->Bool) (cx:CX) (q:SPt):MS->Bool
 | .expr e=>decide ((parts q.e).tag ≠ 10) && f q.e e
 | .ret e=>one q.oe.toList fun e'=>f e' e
 | .assign p e=>one q.ts fun t=>okSwap t q.e p && (cmpP f cx.res 4 t p && f q.e e)
 | .augS i op e=>(decide (q.op = op) && nmIs cx.res i q.e) && f q.e2 e
 | .augI o i op e=>(decide (q.op = op /\ (parts q.e).tag = 11) && plainIx (parts q.e).b) && ((f (parts q.e).a o && f (parts q.e).b i) && f q.e2 e)
 | .ite t a b=>f q.e t && (all2 g q.a a && all2 g q.b b)
 | .whil t a b=>f q.e t && (all2 g q.a a && all2 g q.b b)
 | .for_ p i a b=>(encOk i q.e && (cmpP f cx.res 4 q.e p && cmpI f cx.gl q.e2 i)) && (all2 g q.a a && all2 g q.b b)
 | .brk=>true
 | .fail=>onFail f cx q
 | .refuse g row low e=>onRefuse f cx g row low e q
 | .readEnd i j=>onRead H cx i j q
 | _=>false
noncomputable def cmpS (H:Hn) (n:Nat):Nat->CX->Stmt->MS->Bool
 | 0,_,_,_=>false
 | d + 1,cx,s,m=>decide ((sparts s).tag = stag m) && cmpSG H (cmp H n cx) (cmpS H n d cx) cx (sparts s) m
section
variable {H:Hn} {n d:Nat} {cx:CX} {s:Stmt} {R:Stmt->Prop}
theorem toList_one {α:Type} {o:Option α} {k:α->Bool} (h:one o.toList k = true):∃ a,o = some a /\ k a = true:=by
 cases o with
 | none=>exact (Bool.false_ne_true h).elim
 | some a=>exact ⟨a,rfl,h⟩
theorem cmpS_at {R:Stmt->Prop} {m:MS} (h:cmpS H n d cx s m = true) (K:∀ d,(sparts s).tag = stag m->cmpSG H (cmp H n cx) (cmpS H n d cx) cx (sparts s) m = true->R s):R s:=by
 cases d with
 | zero=>exact (Bool.false_ne_true h).elim
 | succ d=>exact K d (dec_t (and_t h).1) (and_t h).2
@[elab_as_elim] theorem cmpS_expr {e} (h:cmpS H n d cx s (.expr e) = true) (K:∀ e' p,(parts e').tag ≠ 10->cmp H n cx e' e = true->R (.Expr e' p)):R s:=
 cmpS_at h fun u_ t h=>sbuilt t rfl (K _ _ (dec_t (and_t h).1) (and_t h).2)
@[elab_as_elim] theorem cmpS_ret {e} (h:cmpS H n d cx s (.ret e) = true) (K:∀ e' p,cmp H n cx e' e = true->R (.Return (some e') p)):R s:=
 cmpS_at h fun u_ t h=>let ⟨_,ho,h⟩:=toList_one h; sbuilt t (congrArg (fun o=>Stmt.Return o _) ho) (K _ _ h)
@[elab_as_elim] theorem cmpS_assign {p e} (h:cmpS H n d cx s (.assign p e) = true) (K:∀ t v q,okSwap t v p = true->cmpP (cmp H n cx) cx.res 4 t p = true->cmp H n cx v e = true->R (.Assign [t] v q)):R s:=
 cmpS_at h fun u_ t h=>let ⟨_,ho,h⟩:=one_t h; sbuilt t (congrArg (fun o=>Stmt.Assign o _ _) ho) (K _ _ _ (and_t h).1 (and_t (and_t h).2).1 (and_t (and_t h).2).2)
@[elab_as_elim] theorem cmpS_augS {i op e} (h:cmpS H n d cx s (.augS i op e) = true) (K:∀ t v p,nmIs cx.res i t = true->cmp H n cx v e = true->R (.AugAssign t op v p)):R s:=
 cmpS_at h fun u_ t h=>sbuilt t (congrArg (fun o=>Stmt.AugAssign _ o _ _) (dec_t (and_t (and_t h).1).1)) (K _ _ _ (and_t (and_t h).1).2 (and_t h).2)
@[elab_as_elim] theorem cmpS_augI {o i op e} (h:cmpS H n d cx s (.augI o i op e) = true) (K:∀ o' i' v p q,plainIx i' = true->cmp H n cx o' o = true->cmp H n cx i' i = true->cmp H n cx v e = true->R (.AugAssign (.Subscript o' i' q) op v p)):R s:=
 cmpS_at h fun u_ t h=>by
  obtain ⟨h1,h2⟩:=and_t h
  obtain ⟨h1,hp⟩:=and_t h1
  obtain ⟨h3,h4⟩:=dec_t h1
  have e1:=(build_11 h4).symm.trans (build_parts _)
  exact sbuilt (x:=.AugAssign (.Subscript (parts (sparts _).e).a (parts (sparts _).e).b _) op _ _) t (by rw [e1,<- h3]; rfl) (K _ _ _ _ _ hp (and_t (and_t h2).1).1 (and_t (and_t h2).1).2 (and_t h2).2)
@[elab_as_elim] theorem cmpS_ite {t a b} (h:cmpS H n d cx s (.ite t a b) = true) (K:∀ d t' a' b' p,cmp H n cx t' t = true->all2 (cmpS H n d cx) a' a = true->all2 (cmpS H n d cx) b' b = true->R (.If t' a' b' p)):R s:=
 cmpS_at h fun u_ t h=>sbuilt t rfl (K _ _ _ _ _ (and_t h).1 (and_t (and_t h).2).1 (and_t (and_t h).2).2)
@[elab_as_elim] theorem cmpS_whil {t a b} (h:cmpS H n d cx s (.whil t a b) = true) (K:∀ d t' a' b' p,cmp H n cx t' t = true->all2 (cmpS H n d cx) a' a = true->all2 (cmpS H n d cx) b' b = true->R (.While t' a' b' p)):R s:=
 cmpS_at h fun u_ t h=>sbuilt t rfl (K _ _ _ _ _ (and_t h).1 (and_t (and_t h).2).1 (and_t (and_t h).2).2)
@[elab_as_elim] theorem cmpS_for {p i a b} (h:cmpS H n d cx s (.for_ p i a b) = true) (K:∀ d t i' a' b' q,encOk i t = true->cmpP (cmp H n cx) cx.res 4 t p = true->cmpI (cmp H n cx) cx.gl i' i = true->all2 (cmpS H n d cx) a' a = true->all2 (cmpS H n d cx) b' b = true->R (.For t i' a' b' q)):R s:=
 cmpS_at h fun u_ t h=>sbuilt t rfl (K _ _ _ _ _ _ (and_t (and_t h).1).1 (and_t (and_t (and_t h).1).2).1 (and_t (and_t (and_t h).1).2).2 (and_t (and_t h).2).1 (and_t (and_t h).2).2)
@[elab_as_elim] theorem cmpS_brk (h:cmpS H n d cx s .brk = true) (K:∀ p,R (.Break p)):R s:=cmpS_at h fun u_ t u_=>sbuilt t rfl (K _)
@[elab_as_elim] theorem retOf_t {k} (h:retOf s k = true) (K:∀ e p,k e = true->R (.Return (some e) p)):R s:=
 let ⟨_,ho,h'⟩:=toList_one (and_t h).2
 sbuilt (dec_t (and_t h).1) (congrArg (fun o=>Stmt.Return o _) ho) (K _ _ h')
end
noncomputable def HOk (B:Base) (H:Hn):Prop:=∀ x v,H.gl x = some v->B.mg x = some v ∨ (B.mg x = none /\ B.mb x = some v)
noncomputable def cx0 (code:Value) (qual:Str):CX:=⟨fun u_=>none,fun u_=>false,fun u_=>none,0,code,qual⟩
noncomputable def fnCX (H:Hn) (fd:FuncData):CX:=compCX (cx0 fd.code (fd.qualname ++ ".<locals>.")) H.gl fd.scope
noncomputable def HBind (B:Base) (f:Fn) (fd:FuncData) (params:List Str):Prop:=∀ (w:Wd) (lv:Nat) (s:Shared) (items:List Value) (args:List V) (ks:List (Str × Value)) (kws:List (Str × V)) (vs:List V),(∀ b o,B.h₀.get? b = some o->s.heap.get? b = some o)->w.h = s.heap->RelL w lv items args->RelK w lv ks kws->bindF f args kws = some vs->
  ∃ vals,BindsTo s fd ⟨items,ks⟩ (params.zip vals) /\ RelS w lv vals vs /\ vals.length = params.length
structure FnOk (B:Base) (H:Hn) (f:Fn) (o:Obj) (fd:FuncData) (body:List Stmt) (params:List Str):Prop where
 ho:B.h₀.get? f.addr = some o
 hd:o.data = .func fd
 hbody:fd.body = .stmts body
 hclo:fd.closure = []
 hglob:fd.globals = mainGlobals
 hbuilt:fd.builtins = builtinsNs
 hcd:B.h₀.CodeRec fd.code fd.qualname
 hco:fd.scope.isCoroutine = false
 hgen:fd.scope.isGenerator = false
 hkind:fd.scope.kind = .function
 hnd:(fd.scope.names.map (·.1)).Nodup
 hcomp:∃ n d,all2 (cmpS H n d (fnCX H fd)) body f.body = true
 hns:f.ns = (ownOf fd.scope).length
 hpar:(ownOf fd.scope).take params.length = params
 hbind:HBind B f fd params
structure RdOk (B:Base) (H:Hn) (f:Fn) (o:Obj) (fd:FuncData) (rest:List Stmt) (params:List Str) (b e:PySem.Expr) (q:Pos):Prop where
 fo:FnOk B H f o fd (.Assign [b] e q :: rest) params
 addr:f.addr = H.pv
 bi:∀ v,bindF f [v] [] = some [v]
 ask:glCall (fnCX H fd).gl (.builtin "next") (parts e) (fun as=>one as (nmIs (fnCX H fd).res 0)) = true
noncomputable def BMain (B:Base):Prop:=∃ bm o,B.mg "__builtins__" = some (.ref bm) /\ B.h₀.get? bm = some o /\ bm ≠ builtinsNs /\ o.cls = .type "module" /\ o.dict = some builtinsNs /\ o.data = .plain
structure Wl (P:Pg) (B:Base) (H:Hn):Prop where
 hG:B.G = P
 hg:HOk B H
 gd:GdOk B
 bm:BMain B
 pg:∀ f ∈ P.fns,∃ o fd body params,FnOk B H f o fd body params
 rd:∃ f o fd rest params b e q,RdOk B H f o fd rest params b e q
theorem FnOk.on {B:Base} {H:Hn} {f:Fn} {o:Obj} {fd:FuncData} {body:List Stmt} {params:List Str} (h:FnOk B H f o fd body params) (frs:List Addr):FnOk (B.on frs) H f o fd body params:=
 ⟨h.ho,h.hd,h.hbody,h.hclo,h.hglob,h.hbuilt,h.hcd,h.hco,h.hgen,h.hkind,h.hnd,h.hcomp,h.hns,h.hpar,h.hbind⟩
theorem Wl.on {P:Pg} {B:Base} {H:Hn} (h:Wl P B H) (frs:List Addr):Wl P (B.on frs) H where
 hG:=h.hG
 hg:=h.hg
 gd:=⟨h.gd.meth,h.gd.get⟩
 bm:=h.bm
 pg:=fun f m=>let ⟨o,fd,body,params,x⟩:=h.pg f m; ⟨o,fd,body,params,x.on frs⟩
 rd:=by
  obtain ⟨f,o,fd,rest,params,b,e,q,x⟩:=h.rd
  exact ⟨f,o,fd,rest,params,b,e,q,x.fo.on frs,x.addr,x.bi,x.ask⟩
noncomputable def Keep (s:Shared) (fv:Value):Prop:=(∀ a,fv ≠ .ref a) ∨ ∃ a o fd,fv = .ref a /\ s.heap.get? a = some o /\ o.data = .func fd
structure Cf (P:Pg) where
 B:Base
 H:Hn
 cx:CX
 env:Env
 lay:List Loc
 Q:Addr->Prop
 nl:Nat
 Ar:Around
 wl:Wl P B H
 eo:EnvOk B cx env lay
 ao:ArOk B Ar nl
section
variable {P:Pg}
noncomputable abbrev Cf.pr (c:Cf P) (Q:Addr->Prop):Cf P:={ c with Q:=Q }
noncomputable abbrev Cf.wd (c:Cf P) (A:List (List Addr)) (h:Heap):Wd:=Mine.wd c.lay A c.Q h
noncomputable abbrev Cf.Ok (c:Cf P) (A:List (List Addr)) (st:St) (s:Shared):Prop:=Mine.Ok c.B c.lay c.Q c.nl A st s
noncomputable abbrev Cf.W {α:Type} (c:Cf P) (t:Sem α) (Q:α->Shared->Prop) (E:Value->Shared->Prop) (s:Shared):Prop:=wpAny (model c.B.prog c.B.w) c.Ar t Q E s
noncomputable abbrev Cf.Po {α β:Type} (c:Cf P) (A:List (List Addr)) (s:Shared) (st':St) (r:β) (RR:Wd->Nat->α->β->Prop) (v:α) (s':Shared):Prop:=Post c.B c.lay c.Q A s c.nl st' r RR v s'
noncomputable abbrev Cf.Rel (c:Cf P) (A:List (List Addr)) (s:Shared) (v:Value) (x:V):Prop:=Mine.Rel (c.wd A s.heap) (c.nl - 1) v x
noncomputable def Cf.Tri {α β:Type} (c:Cf P) (t:Sem α) (st:St) (r:β) (st':St) (RR:Wd->Nat->α->β->Prop):Prop:=∀ A s E,c.Ok A st s->c.W t (c.Po A s st' r RR) E s
theorem Cf.go {c:Cf P} {α β:Type} {t:Sem α} {st:St} {r:β} {st':St} {RR:Wd->Nat->α->β->Prop} (h:c.Tri t st r st' RR) {A s E} (ok:c.Ok A st s) {Q:α->Shared->Prop}
  (k:∀ v s₁ A₁,Go c.lay A A₁ s s₁->c.Ok A₁ st' s₁->RR (c.wd A₁ s₁.heap) (c.nl - 1) v r->Q v s₁):c.W t Q E s:=
 wpAny_mono (h A s E ok) (fun v s₁ ⟨A₁,g,ok₁,hr⟩=>k v s₁ A₁ g ok₁ hr) (fun u_ u_ e=>e)
theorem Cf.end {c:Cf P} {α β:Type} {t:Sem α} {r:β} {st':St} {RR:Wd->Nat->α->β->Prop} {A A₁ s s₁ E} (g:Go c.lay A A₁ s s₁) (h:c.W t (c.Po A₁ s₁ st' r RR) E s₁):c.W t (c.Po A s st' r RR) E s₁:=
 wpAny_mono h (fun u_ u_ q=>q.lift g) (fun u_ u_ e=>e)
theorem Cf.end' {c:Cf P} {α β:Type} {t:Sem α} {r:β} {st':St} {RR:Wd->Nat->α->β->Prop} {A A₁ s s₁ s₂ E} (g:Go c.lay A A₁ s s₁) (h:c.W t (c.Po A₁ s₁ st' r RR) E s₂):c.W t (c.Po A s st' r RR) E s₂:=
 wpAny_mono h (fun u_ u_ q=>q.lift g) (fun u_ u_ e=>e)
theorem Cf.use {c:Cf P} {α β:Type} {t:Sem α} {r:β} {st':St} {RR:Wd->Nat->α->β->Prop} {A s s₀ E} (h:c.W t (c.Po A s₀ st' r RR) E s) {Q:α->Shared->Prop}
  (k:∀ v s₁ A₁,Go c.lay A A₁ s₀ s₁->c.Ok A₁ st' s₁->RR (c.wd A₁ s₁.heap) (c.nl - 1) v r->Q v s₁):c.W t Q E s:=
 wpAny_mono h (fun v s₁ ⟨A₁,g,ok₁,hr⟩=>k v s₁ A₁ g ok₁ hr) (fun u_ u_ e=>e)
theorem Cf.Rel.go {c:Cf P} {A A' s s' v x} (h:c.Rel A s v x) (g:Go c.lay A A' s s'):c.Rel A' s' v x:=h.mono (g.le c.Q _) (Nat.le_refl _)
theorem RelL.go {c:Cf P} {A A':List (List Addr)} {s s':Shared} {vs xs} (h:RelL (c.wd A s.heap) (c.nl - 1) vs xs) (g:Go c.lay A A' s s'):RelL (c.wd A' s'.heap) (c.nl - 1) vs xs:=h.mono (g.le c.Q _) (Nat.le_refl _)
noncomputable def CompUse (P:Pg) (m:ME) (st:St) (v:V) (st':St):Prop:=∀ (c:Cf P) n elt gens scope pos,cmpF c.H (cmp c.H n) c.cx (parts (.ListComp elt gens scope pos)) m = true->∀ A s F,c.Ok A st s->
  ∀ (use:Option (Value->Sem Unit)) (Q:Value->Shared->Prop),
  (∀ (a C:Addr) (A6:List (List Addr)) (s6:Shared),Go c.lay A A6 s s6->(c.pr fun b=>c.Q b ∨ b ∈ [C]).Ok A6 st' s6->(c.pr fun b=>c.Q b ∨ b ∈ [C]).Rel A6 s6 (.ref a) v->s.heap.get? C = none->(∃ m,s6.heap.Ns C m)->
   match use with
   | none=>∀ h',Heap.SameBut C s6.heap h'->Q (.ref a) { s6 with heap:=h' }
   | some u=>c.W (u (.ref a)) (fun u_ s''=>∃ m,s''.heap.Ns C m /\ ∀ h',Heap.SameBut C s''.heap h'->Q .none { s'' with heap:=h' }) F s6)->
  c.W (comprehension (.ListComp elt gens scope pos) scope c.env (firstIterPos gens pos) (newList []) (firstAsync gens) (firstIter gens c.env) use) Q F s
noncomputable def notC (m:ME):Bool:=decide (tagOf m ≠ 10)
noncomputable def E (P:Pg) (m:ME) (st:St) (v:V) (st':St):Prop:=(notC m = true ∨ CompUse P m st v st') /\ ∀ (c:Cf P) n e,cmpF c.H (cmp c.H n) c.cx (parts e) m = true->c.Tri (eval e c.env) st v st' RV
theorem E.of {m st v st'} (h:notC m = true) (k:∀ (c:Cf P) n e,cmpF c.H (cmp c.H n) c.cx (parts e) m = true->c.Tri (eval e c.env) st v st' RV):E P m st v st':=⟨.inl h,k⟩
theorem E.at {m st v st'} (h:E P m st v st') {c:Cf P} {n e} (hc:cmp c.H n c.cx e m = true):c.Tri (eval e c.env) st v st' RV:=by
 cases n with
 | zero=>exact (Bool.false_ne_true hc).elim
 | succ n=>exact h.2 c n e hc
noncomputable def Es (P:Pg) (ms:List ME) (st:St) (vs:List V) (st':St):Prop:=(vs.length = ms.length /\ (ms = []->st' = st)) /\ ∀ (c:Cf P) n es pos,all2 (cmp c.H n c.cx) es ms = true->c.Tri (spliced (backTo pos (starEach es c.env))) st vs st' RL
noncomputable def Ek (P:Pg) (ms:List (Str × ME)) (st:St) (vs:List (Str × V)) (st':St):Prop:=∀ (c:Cf P) n (es:List Keyword) pos,all2 (cmpK (cmp c.H n c.cx)) es ms = true->
 c.Tri (evalAll ((backToKw pos (keywordEach es c.env)).map (·.2))) st vs st' (fun w lv us xs=>RelK w lv ((ms.map (·.1)).zip us) xs)
noncomputable def Eo (P:Pg) (m:Option ME) (st:St) (v:Option V) (st':St):Prop:=(m = none->v = none /\ st' = st) /\ ∀ (c:Cf P) n e,cmpO (cmp c.H n c.cx) e m = true->c.Tri (evalPart e c.env) st v st' RelPart
noncomputable def T (P:Pg) (_:Nat) (m:ME) (st:St) (b:Bool) (st':St):Prop:=∀ (c:Cf P) n e,cmpF c.H (cmp c.H n) c.cx (parts e) m = true->c.Tri (isTrue e c.env (eval e c.env)) st b st' RB
theorem T.at {d m st v st'} (h:T P d m st v st') {c:Cf P} {n e} (hc:cmp c.H n c.cx e m = true):c.Tri (isTrue e c.env (eval e c.env)) st v st' RB:=by
 cases n with
 | zero=>exact (Bool.false_ne_true hc).elim
 | succ n=>exact h c n e hc
noncomputable def Ap (P:Pg) (f:V) (args:List V) (kw:List (Str × V)) (st:St) (z:V) (st':St):Prop:=∀ (c:Cf P) A s E,c.Ok A st s->∀ fv items ks,c.Rel A s fv f->RelL (c.wd A s.heap) (c.nl - 1) items args->RelK (c.wd A s.heap) (c.nl - 1) ks kw->
 Keep s fv /\ c.W (call fv items ks) (c.Po A s st' z RV) E s
noncomputable def ApO (P:Pg) (f:V) (args:List V) (st:St) (z:V) (st':St):Prop:=∀ (c:Cf P) A s E,c.Ok A st s->∀ fv items,RelO (c.wd A s.heap) (c.nl - 1) (some fv) (some f)->RelL (c.wd A s.heap) (c.nl - 1) items args->
 Keep s fv /\ c.W (call fv items []) (c.Po A s st' z RV) E s
end
end
section
section
variable {H:Hn} {n:Nat} {cx:CX} {e:PySem.Expr} {m:ME} {env:Env}
theorem starEach_of (h:cmp H n cx e m = true) (rest:List PySem.Expr):starEach (e :: rest) env = (false,eval e env) :: starEach rest env:=by
 have:=cmp_tag h
 cases e with
 | Starred _ _=>exact absurd rfl this
 | _=>rfl
theorem cmp_marks {op:CmpOp} (h:cmp H n cx e m = true):behindInMarks op e = false:=by
 have:=cmp_tag h
 cases e with
 | Set _ _ _=>exact absurd rfl this
 | _=>rfl
theorem plain_backTo (pos:Pos):∀ (es:List PySem.Expr) (ms:List ME),all2 (cmp H n cx) es ms = true->(backTo pos (starEach es env)).any (·.1) = false
 | [],_,_=>rfl
 | _ :: _,[],h=>(Bool.false_ne_true h).elim
 | e :: es,m :: ms,h=>by
  rw [starEach_of (and_t h).1]
  exact plain_backTo pos es ms (and_t h).2
theorem plain_kw (pos:Pos) {f:PySem.Expr->ME->Bool}:∀ (es:List Keyword) (ms:List (Str × ME)),all2 (cmpK f) es ms = true->
  (backToKw pos (keywordEach es env)).any (·.1.isNone) = false /\ (backToKw pos (keywordEach es env)).all (·.1.isSome) = true /\ (backToKw pos (keywordEach es env)).filterMap (·.1) = ms.map (·.1)
 | [],[],_=>⟨rfl,rfl,rfl⟩
 | _ :: _,[],h=>(Bool.false_ne_true h).elim
 | [],_ :: _,h=>(Bool.false_ne_true h).elim
 | ⟨k,v,p⟩ :: r,m :: ms,h=>by
  obtain ⟨h1,h2⟩:=and_t h
  obtain rfl:=dec_t (and_t h1).1
  obtain ⟨a,b,c⟩:=plain_kw pos r ms h2
  exact ⟨a,b,congrArg (m.1 :: ·) c⟩
theorem evalKw_cons {pos:Pos} {k:Str} {v:PySem.Expr} {p:Pos} {r:List Keyword} {M:Model} {A:Around} {Q:List Value->Shared->Prop} {E:Value->Shared->Prop} {s:Shared}
  (h:wpAny M A (eval v env) (fun u s=>wpAny M A (evalAll ((backToKw pos (keywordEach r env)).map (·.2))) (fun us s=>Q (u :: us) s) E s) E s) :
  wpAny M A (evalAll ((backToKw pos (keywordEach (⟨some k,v,p⟩ :: r) env)).map (·.2))) Q E s:=
 wpAny_evalAll_cons (x:=do let v <- eval v env; standAt pos; pure v) (wpAny_bind (wpAny_mono h (fun u_ u_ q=>wpAny_bind (wpAny_standAt (wpAny_pure q))) fun u_ u_ e=>e))
end
theorem callWith_any {M:Model} {A:Around} {E:Value->Shared->Prop} {s:Shared} {pos:Pos} {fv:Value} {first:List Value} {args:List (Bool × Sem Value)} {keywords:List (Option Str × Sem Value)} {Q:Value->Shared->Prop}
  (hp:(args.any (·.1) || keywords.any (·.1.isNone)) = false)
  (h:wpAny M A (evalArgs fv true args keywords) (fun x s₁=>Keep s₁ fv /\ wpAny M A (call fv (first ++ x.pos) x.kw) Q E s₁) E s) :
  wpAny M A (callWith pos fv first args keywords) Q E s:=by
 unfold callWith
 refine wpAny_bind (wpAny_holding (wpAny_mono h (fun x s₁ h₁=>wpAny_bind (wpAny_standAt ?_)) fun u_ u_ x=>x))
 have tail:∀ {t:Sem Value},wpAny M A t Q E s₁->wpAny M A (t >>= fun r=>holding [r] point >>= fun u_=>pure r) Q E s₁:=
  fun ht=>wpAny_bind (wpAny_mono ht (fun r s₂ hr=>wpAny_bind (wpAny_holding (wpAny_point (wpAny_pure hr)))) fun u_ u_ x=>x)
 rw [hp]
 obtain ⟨hk,hc⟩:=h₁
 rcases hk with hk | ⟨a,o,fd,rfl,ho,hd⟩
 ·have e:keeperOf fv = pure .machine:=by
   cases fv <;> first | rfl | exact absurd rfl (hk _)
  exact wpAny_bind (wpAny_of_eq e (tail hc))
 ·refine wpAny_bind (m:=keeperOf (.ref a)) ?_
  unfold keeperOf
  refine wpAny_bind (wpAny_load ho ?_)
  rw [hd]
  refine wpAny_pure ?_
  dsimp only
  split
  ·exact tail hc
  ·exact tail (by unfold callMarked; exact Calls.wpAny_keep hc)
theorem cmp_last {H:Hn} {n:Nat} {cx:CX}:∀ {ops:List CmpOp} {es:List PySem.Expr} {ms:List ME},all2 (cmp H n cx) es ms = true->lastMarks ops es = false
 | [],[],_,_=>rfl
 | [],_ :: _,_,_=>rfl
 | [_],[],_,_=>rfl
 | [_],[_],_ :: _,h=>cmp_marks (and_t h).1
 | [_],[_],[],h=>(Bool.false_ne_true h).elim
 | [_],_ :: _ :: _,_,_=>rfl
 | _ :: _ :: _,[],_,_=>rfl
 | _ :: op :: ops,_ :: es,_ :: _,h=>cmp_last (ops:=op :: ops) (es:=es) (and_t h).2
 | _ :: _ :: _,_ :: _,[],h=>(Bool.false_ne_true h).elim
section
variable {P:Pg} {st st1 st2 st3 st4:St}
theorem E_int {i:Int}:E P (.const (.int i)) st (.int i) st:=E.of rfl fun u_ u_ u_ h u_ s u_ ok=>cmp_const h fun u_ u_=>wpAny_Constant_int (ok.int_post _ _ _)
theorem E_none:E P (.const .none) st (.imm .none) st:=E.of rfl fun u_ u_ u_ h u_ u_ u_ ok=>cmp_const h fun u_ u_=>wpAny_Constant_none (.pure ok .imm)
theorem E_bool {b:Bool}:E P (.const (.bool b)) st (.imm (.bool b)) st:=E.of rfl fun u_ u_ u_ h u_ u_ u_ ok=>cmp_const h fun u_ u_=>wpAny_Constant_bool (.pure ok .imm)
theorem E_str {x:Str}:E P (.const (.str x)) st (.str x) st:=E.of rfl fun u_ u_ u_ h u_ u_ u_ ok=>cmp_const h fun u_ u_=>wpAny_Constant_str (ok.str_post _ _ _)
theorem E_bytes {b:List UInt8}:E P (.const (.bytes b)) st (.bytes b) st:=E.of rfl fun u_ u_ u_ h A s u_ ok=>cmp_const h fun u_ u_=>
 let ⟨ok',g⟩:=ok.toks (s.toks + 1)
 wpAny_mkTextBytes ⟨A,g,ok',.bytes⟩
theorem bad_no {x:Str} (hb:(!badName x) = true):(x == ("__debug__" : Str)) = false /\ (x == ("__classdict__" : Str)) = false:=Bool.or_eq_false_iff.mp ((Bool.not_eq_true' _).mp hb)
theorem load_globB {c:Cf P} {Ar:Around} {s:Shared} {E:Value->Shared->Prop} {Q:Value->Shared->Prop} {x:Str} {pos:Pos} {v:Value} (base:∀ b o,c.B.h₀.get? b = some o->s.heap.get? b = some o) (hi:glIs c.cx.gl x v = true) (h:Q v s):wpAny (model c.B.prog c.B.w) Ar (eval (.Name x pos) c.env) Q E s:=by
 obtain ⟨k,hg⟩:=c.eo.glob x _ (dec_t (and_t hi).2)
 refine wpAny_Name ?_ (bad_no (and_t hi).1).1
 rw [loadName_read c.eo.kind k]
 have e1:s.heap.Ns c.env.globals c.B.mg:=c.eo.globals ▸ c.B.nsG.keeps base
 rcases hg with hg | hg
 ·exact Calls.loadGlobal_global e1 hg h
 ·exact Calls.loadGlobal_builtin e1 hg.1 (c.eo.builtins ▸ c.B.nsB.keeps base) hg.2 h
theorem load_glob {c:Cf P} {A:List (List Addr)} {st:St} {s:Shared} {E:Value->Shared->Prop} {Q:Value->Shared->Prop} {x:Str} {pos:Pos} {v:Value} (ok:c.Ok A st s) (hi:glIs c.cx.gl x v = true) (h:Q v s):c.W (eval (.Name x pos) c.env) Q E s:=load_globB ok.base hi h
theorem E_imm {v:Value}:E P (.imm v) st (.imm v) st:=E.of rfl fun u_ u_ u_ h u_ u_ u_ ok=>cmp_imm h fun u_ u_ h=>load_glob ok h (.pure ok .imm)
theorem load_nmO {c:Cf P} {Ar:Around} {A:List (List Addr)} {st:St} {s:Shared} {E:Value->Shared->Prop} {Q:Value->Shared->Prop} {x:Str} {i:Nat} {v:V} (ok:c.Ok A st s) (h:rsIs c.cx.res x i = true)
  (hv:st.ρ[i]? = some (some v)) (hq:∀ u,RelO (c.wd A s.heap) (c.nl - 1) (some u) (some v)->Q u s):wpAny (model c.B.prog c.B.w) Ar (loadName c.env x) Q E s:=by
 have b2:=(bad_no (and_t h).1).2
 have sl:=fun l hl=>ok.slots i l hl
 rw [hv] at sl
 rcases c.eo.var x i (dec_t (and_t h).2) with ⟨k,l⟩ | ⟨k,a,hc,l⟩
 ·obtain ⟨m,h1,h2⟩:=sl _ l
  cases hmx:m x with
  | none=>rw [hmx] at h2; cases h2
  | some u=>exact wpAny_loadName_local c.eo.kind k h1 hmx (hq _ (hmx ▸ h2))
 ·obtain ⟨cv,h1,h2⟩:=sl _ l
  cases cv with
  | none=>cases h2
  | some u=>exact k.elim (fun k=>wpAny_loadName_cell c.eo.kind k hc h1 (hq _ h2)) (fun k=>wpAny_loadName_free c.eo.kind k hc h1 (hq _ h2) b2)
theorem RelO.rel {w:Wd} {lv:Nat} {u:Value} {v:V} (h:RelO w lv (Option.some u) (Option.some v)) (hc:v.isClo = false):Rel w lv u v:=by
 cases h with
 | some h=>exact h
 | clo _=>cases hc
theorem RelO.cl {w:Wd} {lv:Nat} {u:Value} {m:Lam} {vs:List V} (h:RelO w lv (Option.some u) (Option.some (V.clo m vs))):CloRep w lv u m vs:=by
 cases h with
 | some h=>exact h.inv.elim
 | clo h=>exact h
theorem load_nm {c:Cf P} {Ar:Around} {A:List (List Addr)} {st:St} {s:Shared} {E:Value->Shared->Prop} {Q:Value->Shared->Prop} {x:Str} {i:Nat} {v:V} (ok:c.Ok A st s) (h:rsIs c.cx.res x i = true)
  (hv:st.ρ[i]? = some (some v)) (hc:v.isClo = false) (hq:∀ u,c.Rel A s u v->Q u s):wpAny (model c.B.prog c.B.w) Ar (loadName c.env x) Q E s:=load_nmO ok h hv fun u hu=>hq u (hu.rel hc)
theorem load_slot {c:Cf P} {Ar:Around} {A:List (List Addr)} {st:St} {s:Shared} {E:Value->Shared->Prop} {Q:Value->Shared->Prop} {x:Str} {p:Pos} {i:Nat} {v:V} (ok:c.Ok A st s) (h:rsIs c.cx.res x i = true)
  (hv:st.ρ[i]? = some (some v)) (hq:∀ u,RelO (c.wd A s.heap) (c.nl - 1) (some u) (some v)->Q u s):wpAny (model c.B.prog c.B.w) Ar (eval (.Name x p) c.env) Q E s:=wpAny_Name (load_nmO ok h hv hq) (bad_no (and_t h).1).1
theorem E_slot {i:Nat} {v:V} (h:st.ρ[i]? = some (some v)) (hn:v.isClo = false:=by first | rfl | assumption):E P (.slot i) st v st:=E.of rfl fun u_ u_ u_ hc u_ u_ u_ ok=>cmp_slot hc fun u_ u_ hc=>load_slot ok hc h fun u_ hu=>.pure ok (hu.rel hn)
theorem Cf.two {c:Cf P} {n a b a' b' x y z} {t:Value->Value->Sem Value} (h1:E P a st x st1) (h2:E P b st1 y st2) (ha:cmp c.H n c.cx a' a = true) (hb:cmp c.H n c.cx b' b = true) {A s E} (ok:c.Ok A st s)
  (k:∀ u v A s,c.Ok A st2 s->c.Rel A s u x->c.Rel A s v y->c.W (t u v) (c.Po A s st3 z RV) E s) :
  c.W (eval a' c.env) (fun u s1=>c.W (eval b' c.env) (fun v s2=>c.W (t u v) (c.Po A s st3 z RV) E s2) E s1) E s:=
 Cf.go (h1.at ha) ok fun u_ u_ u_ g1 ok1 r1=>Cf.go (h2.at hb) ok1 fun u_ u_ u_ g2 ok2 r2=>Cf.end (g1.trans g2) (k _ _ _ _ ok2 (Cf.Rel.go r1 g2) r2)
theorem E_bin {op a b mu x y z} (h1:E P a st x st1) (h2:E P b st1 y st2) (h3:binV st2 op x y mu = some (z,st3)):E P (.bin op a b mu) st z st3:=E.of rfl fun u_ u_ u_ h u_ u_ u_ ok=>
 cmp_bin h fun u_ u_ u_ u_ ha hb=>wpAny_BinOp (Cf.two h1 h2 ha hb ok fun u_ u_ u_ u_ ok r1 r2=>binV_sound ok r1 r2 h3)
theorem E_binI {op a b mu x y z} (h1:E P a st (.int x) st1) (h2:E P b st1 (.int y) st2) (h3:binI op x y = some z):E P (.bin op a b mu) st (.int z) st2:=
 E_bin h1 h2 (show (match binI op x y with | some z=>some (V.int z,st2) | none=>none) = _ by rw [h3])
theorem E_neg {a i} (h1:E P a st (.int i) st1):E P (.un .USub a) st (.int (-i)) st1:=E.of rfl fun u_ u_ u_ h u_ u_ u_ ok=>cmp_un h fun u_ u_ k=>by
 refine wpAny_UnaryOp (Cf.go (h1.at k) ok fun v s1 A1 g1 ok1 r1=>?_)
 cases r1
 exact neg_int ((ok1.int_post _ _ _).lift g1)
theorem E_cmp {op a b x y r} (h1:E P a st x st1) (h2:E P b st1 y st2) (h3:cmpV st2 op x y = some r):E P (.cmp a [op] [b]) st (.imm (.bool r)) st2:=E.of rfl fun c u_ u_ h u_ u_ u_ ok=>cmp_cmp h fun u_ u_ u_ ha hb=>by
 obtain ⟨b',_,rfl,hb2,hn⟩:=all2_cons hb
 cases all2_nil hn
 exact wpAny_Compare1 (Cf.two h1 h2 ha hb2 ok fun u_ u_ u_ u_ ok r1 r2=>cmpV_sound ok c.ao.cmp r1 r2 h3) (cmp_marks hb2)
theorem if_t {b:Bool} {p q:Prop} (h:b = true) (k:p):if b = true then p else q:=by rw [if_pos h]; exact k
theorem if_f {b:Bool} {p q:Prop} (h:b = false) (k:q):if b = true then p else q:=by rw [if_neg (h ▸ Bool.false_ne_true)]; exact k
theorem E_iteT {t a b v} (h1:T P 8 t st true st1) (h2:E P a st1 v st2):E P (.ite t a b) st v st2:=E.of rfl fun u_ u_ u_ h u_ u_ u_ ok=>cmp_ite h fun u_ u_ u_ u_ kt ka u_=>
 wpAny_IfExp (Cf.go (h1.at kt) ok fun u_ s1 A1 g1 ok1 r1=>if_t r1 (Cf.end g1 (h2.at ka A1 s1 _ ok1)))
theorem E_iteF {t a b v} (h1:T P 8 t st false st1) (h2:E P b st1 v st2):E P (.ite t a b) st v st2:=E.of rfl fun u_ u_ u_ h u_ u_ u_ ok=>cmp_ite h fun u_ u_ u_ u_ kt u_ kb=>
 wpAny_IfExp (Cf.go (h1.at kt) ok fun u_ s1 A1 g1 ok1 r1=>if_f r1 (Cf.end g1 (h2.at kb A1 s1 _ ok1)))
theorem E_sub {o i ov iv v} (h1:E P o st ov st1) (h2:E P i st1 iv st2) (h3:subV st2 ov iv = some v):E P (.sub o i) st v st2:=E.of rfl fun u_ u_ u_ h u_ u_ u_ ok=>cmp_sub h fun u_ u_ u_ hp ha hb=>
 Subscript_ (Cf.two h1 h2 ha hb ok fun u_ u_ u_ u_ ok r1 r2=>subV_sound ok r1 r2 h3 _ hp)
theorem Eo_none:Eo P none st none st:=⟨fun u_=>⟨rfl,rfl⟩,fun c n e h A s E ok=>by
 cases e with
 | some _=>exact (Bool.false_ne_true h).elim
 | none=>rw [evalPart_none]; exact wpAny_pure (.pure ok rfl)⟩
theorem Eo_some {e v} (h1:E P e st v st1):Eo P (some e) st (some v) st1:=⟨(fun h=>nomatch h),fun c n e h A s E ok=>by
 cases e with
 | none=>exact (Bool.false_ne_true h).elim
 | some e=>rw [evalPart_some]; exact h1.at h A s E ok⟩
theorem E_slc {o lo hi stp mu ov l h p v st'} (h1:E P o st ov st1) (h2:Eo P lo st1 l st2) (h3:Eo P hi st2 h st3) (h4:Eo P stp st3 p st4) (h5:slcV st4 ov l h p mu = some (v,st')):E P (.slc o lo hi stp mu) st v st':=E.of rfl fun c n e hc A s E ok=>cmp_slc hc fun u_ u_ u_ u_ u_ hn k1 k2 k3=>by
 obtain ⟨rfl,rfl⟩:=h4.1 hn
 refine Subscript_ (Cf.go (h1.at k1) ok fun v s1 A1 g1 ok1 r1=>wpAny_Slice (Cf.go (h2.2 c n _ k2) ok1 fun lv s2 A2 g2 ok2 r2=>Cf.go (h3.2 c n _ k3) ok2 fun uv s3 A3 g3 ok3 r3=>?_))
 rw [evalPart_none]
 exact wpAny_pure (Cf.end' (g1.trans (g2.trans g3)) (slcV_sound ok3 (Cf.Rel.go r1 (g2.trans g3)) (r2.mono (g3.le c.Q _) (Nat.le_refl _)) r3 h5 _ _ _ _))
theorem E_rvs {o mu ov v st'} (h1:E P o st ov st1) (h2:rvsV st1 ov mu = some (v,st')):E P (.rvs o mu) st v st':=E.of rfl fun c n e hc A s E ok=>cmp_rvs hc fun u_ u_ u_ u_ k1 k3=>by
 refine Subscript_ (Cf.go (h1.at k1) ok fun v s1 A1 g1 ok1 r1=>wpAny_Slice ?_)
 rw [evalPart_none,evalPart_some]
 refine wpAny_pure (wpAny_pure (Cf.go ((E_neg (E_int (i:=1))).at k3) ok1 fun w s2 A2 g2 ok2 r2=>r2.int_e fun t=>Cf.end' (g1.trans g2) (rvsV_sound ok2 (Cf.Rel.go r1 g2) h2 _ _ _)))
theorem Es_nil:Es P [] st [] st:=⟨⟨rfl,fun u_=>rfl⟩,fun c n es pos h A s E ok=>by
 obtain rfl:=all2_nil h
 exact wpAny_items_nil (.pure ok .nil)⟩
theorem Es_cons {e es v vs} (h1:E P e st v st1) (h2:Es P es st1 vs st2):Es P (e :: es) st (v :: vs) st2:=⟨⟨congrArg (· + 1) h2.1.1,fun h=>nomatch h⟩,fun c n xs pos h A s E ok=>by
 obtain ⟨x,xs,rfl,h,k⟩:=all2_cons h
 exact wpAny_items_cons (Cf.go (h1.at h) ok fun v' s1 A1 g1 ok1 r1=>Cf.go (h2.2 c n xs pos k) ok1 fun vs' s2 A2 g2 ok2 r2=>⟨A2,g1.trans g2,ok2,.cons (Cf.Rel.go r1 g2) r2⟩) (starEach_of h _)⟩
theorem Ek_nil:Ek P [] st [] st:=fun c n es pos h A s E ok=>by
 obtain rfl:=all2_nil h
 exact wpAny_evalAll_nil (.pure ok .nil)
theorem cmp_succ {H:Hn} {n:Nat} {cx:CX} {e:PySem.Expr} {m:ME} (h:cmp H n cx e m = true):∃ k,cmpF H (cmp H k) cx (parts e) m = true:=by
 cases n with
 | zero=>exact (Bool.false_ne_true h).elim
 | succ n=>exact ⟨n,h⟩
theorem Ek_slot {k:Str} {i:Nat} {v:V} (h:st.ρ[i]? = some (some v)):Ek P [(k,.slot i)] st [(k,v)] st:=fun c n xs pos h' A s E ok=>by
 obtain ⟨⟨k',x,p⟩,xs,rfl,h1,hr⟩:=all2_cons h'
 obtain ⟨hk,h1⟩:=and_t h1
 obtain rfl:=dec_t hk
 obtain rfl:=all2_nil hr
 obtain ⟨d,h1⟩:=cmp_succ (show cmp c.H n c.cx x (.slot i) = true from h1)
 refine evalKw_cons ?_
 refine cmp_slot h1 fun y q hy=>?_
 exact load_slot ok hy h fun u hu=>wpAny_evalAll_nil ⟨A,.refl,ok,.cons hu .nil⟩
theorem E_lst {es mu vs v} (h1:Es P es st vs st1) (h2:mkL mu vs st1 = some (v,st2)):E P (.lst es mu) st v st2:=E.of rfl fun c n e h A s E ok=>cmp_lst h fun u_ u_ u_ k=>by
 refine wpAny_List (Cf.go (h1.2 c n _ _ k) ok fun items s1 A1 g1 ok1 r1=>⟨?_,(mkL_post (tk:=s1.toks) (n:=0) ok1 r1 h2).lift g1⟩)
 have hz:vs.length <= lim:=by
  unfold mkL at h2
  split at h2
  ·assumption
  ·cases h2
 unfold lim at hz
 rw [sizeLine_eq,r1.length]; lia
theorem E_tup {es vs} (h1:Es P es st vs st1):E P (.tup es) st (.tup vs) st1:=E.of rfl fun c n e h A s E ok=>cmp_tup h fun u_ u_ u_ hl k=>by
 refine wpAny_Tuple (Cf.go (h1.2 c n _ _ k) ok fun items s1 A1 g1 ok1 r1=>⟨?_,?_⟩)
 ·rw [all2_len k,<- h1.1.1] at hl
  rw [sizeLine_eq,r1.length]; lia
 ·obtain ⟨ok2,g2⟩:=ok1.grow (h':=s1.heap.push { cls:=.type "tuple",data:=.seq items.toArray }) (tk:=s1.toks) (fun u_ u_ e=>Heap.get?_push_of_some _ e)
  exact ⟨A1,g1.trans g2,ok2,.tup ok1.fresh (Heap.get?_push_size _ rfl) (r1.mono (g2.le c.Q _) (Nat.le_refl _))⟩
theorem Cf.argsG {c:Cf P} {n as as' ks ks' vs fv pos} (h2:Es P as st1 vs st2) (ha:all2 (cmp c.H n c.cx) as' as = true) (hk:all2 (cmpK (cmp c.H n c.cx)) ks' ks = true) {A s E} (ok:c.Ok A st1 s) {Q:Args->Shared->Prop}
  (k:∀ items A2 s2,Go c.lay A A2 s s2->c.Ok A2 st2 s2->RelL (c.wd A2 s2.heap) (c.nl - 1) items vs->c.W (evalAll ((backToKw pos (keywordEach ks' c.env)).map (·.2))) (fun kvals s3=>Q ⟨items,(ks.map (·.1)).zip kvals⟩ s3) E s2) :
  c.W (evalArgs fv true (backTo pos (starEach as' c.env)) (backToKw pos (keywordEach ks' c.env))) Q E s:=by
 obtain ⟨_,k2,k3⟩:=plain_kw (env:=c.env) pos _ _ hk
 rw [<- k3] at k
 have key:=h2.2 c n as' pos ha
 cases as' with
 | nil=>
  cases as with
  | cons _ _=>exact (Bool.false_ne_true ha).elim
  | nil=>
   obtain rfl:=List.length_eq_zero_iff.mp h2.1.1
   exact evalArgs_kw_nil k2 (k [] A s .refl (h2.1.2 rfl ▸ ok) .nil)
 | cons e es=>
  cases as with
  | nil=>exact (Bool.false_ne_true ha).elim
  | cons m ms=>
   rw [starEach_of (and_t ha).1] at key ⊢
   exact evalArgs_kw k2 (Cf.go key ok fun items s2 A2 g2 ok2 r2=>k items A2 s2 g2 ok2 r2)
theorem Cf.args {c:Cf P} {n as as' ks ks' vs kvs fv pos} (h2:Es P as st1 vs st2) (h3:Ek P ks st2 kvs st3) (ha:all2 (cmp c.H n c.cx) as' as = true) (hk:all2 (cmpK (cmp c.H n c.cx)) ks' ks = true) {A s E} (ok:c.Ok A st1 s) {Q:Args->Shared->Prop}
  (k:∀ items kv A3 s3,Go c.lay A A3 s s3->c.Ok A3 st3 s3->RelL (c.wd A3 s3.heap) (c.nl - 1) items vs->RelK (c.wd A3 s3.heap) (c.nl - 1) kv kvs->Q ⟨items,kv⟩ s3) :
  c.W (evalArgs fv true (backTo pos (starEach as' c.env)) (backToKw pos (keywordEach ks' c.env))) Q E s:=
 Cf.argsG h2 ha hk ok fun u_ u_ u_ g2 ok2 r2=>Cf.go (h3 c n ks' pos hk) ok2 fun u_ u_ u_ g3 ok3 r3=>k _ _ _ _ (g2.trans g3) ok3 (RelL.go r2 g3) r3
theorem E_call {f args kw fv vs ks v} (h1:E P f st fv st1) (h2:Es P args st1 vs st2) (h3:Ek P kw st2 ks st3) (h4:Ap P fv vs ks st3 v st4):E P (.call f args kw) st v st4:=E.of rfl fun c n e h A s E ok=>cmp_call h fun u_ u_ u_ u_ pos hf ha hk=>
 wpAny_Call_Name_kw (Cf.go (h1.at hf) ok fun f' s1 A1 g1 ok1 r1=>callWith_any (by rw [plain_backTo pos _ _ ha,(plain_kw pos _ _ hk).1]; rfl)
  (Cf.args h2 h3 ha hk ok1 fun items kv A3 s3 g3 ok3 r3 rk=>let ⟨hk,hc⟩:=h4 c A3 s3 E ok3 f' items kv (Cf.Rel.go r1 g3) r3 rk; ⟨hk,Cf.end (g1.trans g3) hc⟩))
theorem E_callS {i args fv vs v} (h1:st.ρ[i]? = some (some fv)) (h2:Es P args st vs st1) (h4:ApO P fv vs st1 v st2):E P (.call (.slot i) args []) st v st2:=E.of rfl fun c n e h A s E ok=>cmp_call h fun x p u_ u_ pos hf ha hk=>by
 obtain ⟨d,hf⟩:=cmp_succ hf
 have hx:rsIs c.cx.res x i = true:=(cm hf).2
 exact wpAny_Call_Name_kw (load_slot ok hx h1 fun u hu=>callWith_any (by rw [plain_backTo pos _ _ ha,(plain_kw pos _ _ hk).1]; rfl)
  (Cf.args h2 Ek_nil ha hk ok fun items kv A3 s3 g3 ok3 r3 rk=>by
   cases rk
   obtain ⟨hk,hc⟩:=h4 c A3 s3 E ok3 u items (hu.mono (g3.le c.Q _) (Nat.le_refl _)) r3
   exact ⟨hk,Cf.end g3 hc⟩))
theorem methodCall_form {H:Hn} {n:Nat} {cx:CX} {env:Env} {o:PySem.Expr} {name:Str} {apos pos:Pos} {args:List PySem.Expr} {ms:List ME} (hp:(apos.endLine == pos.line) = true) (ho:(parts o).tag ≠ 8) (hl:args.length < 20) (hm:all2 (cmp H n cx) args ms = true) :
  eval (.Call (.Attribute o name apos) args [] pos) env = (do
   let ov <- eval o env
   standAt apos.atName
   let (f,first) <- holding [ov] (getMethod ov name (do return (<- importBound o env).getD true))
   callWith pos f first (backTo pos (starEach args env)) []):=by
 have hform:methodCallForm (args.length + 0) (backTo pos (starEach args env)) [] = true:=by
  unfold methodCallForm
  rw [List.all_eq_not_any_not]
  simp only [Bool.not_not,plain_backTo (env:=env) pos args ms hm,Bool.not_false,Bool.and_eq_true,decide_eq_true_eq]
  exact ⟨⟨trivial,rfl⟩,by simp; lia⟩
 show (do
  let ov <- attributeBase o name env (eval o env)
  standAt apos.atName
  methodCall o name apos pos env ov (args.length + 0) (backTo pos (starEach args env)) []) = _
 have e1:attributeBase o name env (eval o env) = eval o env:=by
  cases o with
  | Call _ _ _ _=>exact absurd rfl ho
  | _=>rfl
 rw [e1]
 unfold methodCall
 rw [hform]
 have e2:methodCallPos true o env apos pos = pure pos:=by
  unfold methodCallPos
  rw [hp]
  rfl
 rw [e2]
 rfl
theorem E_meth {o n args ov vs v st'} (h1:E P o st ov st1) (hok:methOk P st1 ov n = true) (h2:Es P args st1 vs st2) (h3:methV P st2 ov n vs = some (v,st')):E P (.meth o n args) st v st':=E.of rfl fun c nn e h A s E ok=>cmp_meth h fun u_ u_ u_ pos hp ho hl k1 k2=>by
 rw [methodCall_form hp ho hl k2]
 rw [<- c.wl.hG] at hok h3
 refine wpAny_bind (Cf.go (h1.at k1) ok fun v s1 A1 g1 ok1 r1=>wpAny_bind (wpAny_standAt ?_))
 obtain ⟨id,hg,hm⟩:=getMethod_sound (Ar:=c.Ar) (E:=E) c.ao.cmp c.wl.gd ok1 r1 hok
 refine wpAny_bind (wpAny_holding (hg _ _ (callWith_any (by rw [plain_backTo pos _ _ k2]; rfl) ?_)))
 refine Cf.args (ks':=[]) h2 Ek_nil k2 rfl ok1 fun items kv A2 s2 g2 ok2 r2 rk=>⟨.inl fun a e=>(nomatch e),?_⟩
 cases rk
 exact Cf.end (g1.trans g2) (hm A2 _ s2 E ok2 (Cf.Rel.go r1 g2) items vs _ st' r2 h3)
end
end
section
noncomputable def plainT:ME->Bool
 | .un .Not _=>false | .land _=>false | .lor _=>false | .ite _ _ _=>false | .cmp _ _ _=>false | _=>true
section
variable {P:Pg} {st st1 st2 st3 st4:St}
theorem Cf.last {c:Cf P} {n b b' y v x op r pos} (h2:E P b st y st1) (h3:cmpV st1 op x y = some r) (hb:all2 (cmp c.H n c.cx) b' [b] = true) {A s E} (ok:c.Ok A st s) (hv:c.Rel A s v x) :
  c.W (testChain pos v [op] (evalEach b' c.env)) (c.Po A s st1 r RB) E s:=by
 obtain ⟨b',_,rfl,hb1,hn⟩:=all2_cons hb
 cases all2_nil hn
 exact test_last (Cf.go (h2.at hb1) ok fun u_ u_ u_ g1 ok1 r1=>Cf.use (cmpV_sound ok1 c.ao.cmp (Cf.Rel.go hv g1) r1 h3) fun u_ u_ A2 g2 ok2 r2=>by
  cases r2
  exact wpAny_truthy_bool ⟨A2,g1.trans g2,ok2,rfl⟩)
theorem T_cmp1 {d op a b x y r} (h1:E P a st x st1) (h2:E P b st1 y st2) (h3:cmpV st2 op x y = some r):T P (d + 1) (.cmp a [op] [b]) st r st2:=fun c u_ u_ h u_ u_ u_ ok=>cmp_cmp h fun a' bs' p ha hb=>by
 show c.W (do testChain p (<- eval a' c.env) [op] (markedEach [op] bs' (evalEach bs' c.env))) _ _ _
 rw [markedEach_of_false _ _ _ (cmp_last hb)]
 exact wpAny_bind (Cf.go (h1.at ha) ok fun u_ u_ u_ g1 ok1 r1=>Cf.end g1 (Cf.last h2 h3 hb ok1 r1))
theorem T_isS {d i v r} (h:st.ρ[i]? = some (some v)) (hk:isK v = some r):T P (d + 1) (.cmp (.slot i) [.Is] [.const .none]) st r st:=by
 cases hc:v.isClo with
 | false=>
  refine T_cmp1 (E_slot h hc) E_none ?_
  cases v <;> first | exact hk | cases hc
 | true=>
  cases v with
  | clo m vs=>
   cases hk
   refine fun c n e h' A s E ok=>cmp_cmp h' fun a' bs' p ha hb=>?_
   show c.W (do testChain p (<- eval a' c.env) [.Is] (markedEach [.Is] bs' (evalEach bs' c.env))) _ _ _
   rw [markedEach_of_false _ _ _ (cmp_last hb)]
   obtain ⟨d,ha⟩:=cmp_succ ha
   refine wpAny_bind ?_
   refine cmp_slot ha fun x q hx=>load_slot ok hx h fun u hu=>?_
   obtain ⟨b',_,rfl,hb1,hn⟩:=all2_cons hb
   cases all2_nil hn
   refine test_last (Cf.go ((E_none (P:=P) (st:=st)).at hb1) ok fun w u_ A2 g1 ok1 r1=>r1.imm_e ?_)
   obtain ⟨a,_,_,_,_,_,_,_,_,rfl,_⟩:=hu.cl
   exact is_none (wpAny_truthy_bool ⟨A2,g1,ok1,rfl⟩)
  | _=>cases hc
theorem T_not {d a b} (h1:T P d a st b st1):T P (d + 1) (.un .Not a) st (!b) st1:=fun u_ u_ u_ h u_ u_ u_ ok=>cmp_un h fun u_ u_ k=>
 wpAny_isTrue_Not (Cf.go (h1.at k) ok fun u_ u_ A1 g1 ok1 r1=>⟨A1,g1,ok1,congrArg not r1⟩)
theorem plainT_tag {m:ME} (hp:plainT m = true):(tagOf m == 5 || (tagOf m == 6 || tagOf m == 7)) = false:=by
 cases m with
 | land _=>exact (Bool.false_ne_true hp).elim
 | lor _=>exact (Bool.false_ne_true hp).elim
 | cmp _ _ _=>exact (Bool.false_ne_true hp).elim
 | ite _ _ _=>exact (Bool.false_ne_true hp).elim
 | _=>rfl
theorem plainT_un {m:ME} (hp:plainT m = true) (t:tagOf m = 4):∃ op a,m = .un op a /\ op ≠ .Not:=by
 cases m with
 | un op a=>exact ⟨op,a,rfl,fun q=>by subst q; exact Bool.false_ne_true hp⟩
 | _=>exact nomatch t
theorem plain_true {H:Hn} {f:CX->PySem.Expr->ME->Bool} {cx:CX} {e:PySem.Expr} {m:ME} (h:cmpF H f cx (parts e) m = true) (hp:plainT m = true) (env:Env) (whole:Sem Value):isTrue e env whole = (do let v <- whole; standAt e.pos; holding [v] (truthy v)):=by
 obtain ⟨t,h⟩:=cm h
 have k:=plainT_tag hp
 rw [<- t] at k
 cases e with
 | UnaryOp op x p=>
  obtain ⟨op',a,rfl,hn⟩:=plainT_un hp t.symm
  obtain rfl:op = op':=dec_t (and_t h).1
  cases op with
  | Not=>exact absurd rfl hn
  | _=>rfl
 | BoolOp _ _ _=>exact nomatch k
 | Compare _ _ _ _=>exact nomatch k
 | IfExp _ _ _ _=>exact nomatch k
 | _=>rfl
theorem T_val {d m v b} (h1:E P m st v st1) (h2:truthV st1 v = some b) (hp:plainT m = true):T P d m st b st1:=fun c n e h u_ u_ u_ ok=>
 wpAny_isTrue_value (Cf.go (h1.2 c n e h) ok fun u_ u_ u_ g1 ok1 r1=>Cf.end g1 (truthV_sound ok1 r1 h2)) (plain_true h hp _ _)
theorem T_lorF {d e e2 es b} (h1:T P d e st false st1) (h2:T P (d + 1) (.lor (e2 :: es)) st1 b st2):T P (d + 1) (.lor (e :: e2 :: es)) st b st2:=fun c n u_ h u_ u_ u_ ok=>cmp_lor h fun u_ p k=>by
 obtain ⟨_,xs,rfl,k1,k2⟩:=all2_cons k
 exact wpAny_isTrue_BoolOp (wpAny_allTrue_Or_cons (Cf.go (h1.at k1) ok fun u_ u_ A1 g1 ok1 r1=>if_f r1 (Cf.end g1 (h2 c n (.BoolOp .Or xs p) k2 _ _ _ ok1))))
theorem T_lor1 {d e b} (h1:T P d e st b st1):T P (d + 1) (.lor [e]) st b st1:=fun u_ u_ u_ h u_ u_ u_ ok=>cmp_lor h fun u_ u_ k=>by
 obtain ⟨_,_,rfl,k1,k2⟩:=all2_cons k
 cases all2_nil k2
 refine wpAny_isTrue_BoolOp (wpAny_allTrue_Or_cons (Cf.go (h1.at k1) ok fun u_ u_ A1 g1 ok1 r1=>?_))
 cases b with
 | true=>exact if_t r1 ⟨A1,g1,ok1,rfl⟩
 | false=>exact if_f r1 (wpAny_allTrue_Or_nil ⟨A1,g1,ok1,rfl⟩)
theorem E_lorT {e e2 es v} (h1:E P e st v st1) (ht:truthV st1 v = some true):E P (.lor (e :: e2 :: es)) st v st1:=E.of rfl fun c u_ u_ h u_ u_ u_ ok=>cmp_lor h fun u_ u_ k=>by
 obtain ⟨x,_,rfl,k1,k⟩:=all2_cons k
 obtain ⟨y,ys,rfl,_,_⟩:=all2_cons k
 exact wpAny_bind (Cf.go (h1.at k1) ok fun u u_ u_ g1 ok1 r1=>wpAny_bind (wpAny_standAt (wpAny_bind (wpAny_holding (Cf.use (truthV_sound ok1 r1 ht) fun b u_ A2 g2 ok2 hb=>by
  cases hb
  exact wpAny_pure ⟨A2,g1.trans g2,ok2,Cf.Rel.go r1 g2⟩)))))
theorem E_lorF {e e2 es v w} (h1:E P e st v st1) (ht:truthV st1 v = some false) (h2:E P (.lor (e2 :: es)) st1 w st2):E P (.lor (e :: e2 :: es)) st w st2:=E.of rfl fun c n u_ h u_ u_ u_ ok=>cmp_lor h fun u_ p k=>by
 obtain ⟨x,xs,rfl,k1,k2⟩:=all2_cons k
 obtain ⟨y,ys,rfl,_,_⟩:=all2_cons k2
 exact wpAny_bind (Cf.go (h1.at k1) ok fun u u_ u_ g1 ok1 r1=>wpAny_bind (wpAny_standAt (wpAny_bind (wpAny_holding (Cf.use (truthV_sound ok1 r1 ht) fun b u_ A2 g2 ok2 hb=>by
  cases hb
  exact Cf.end (g1.trans g2) (h2.2 c n (.BoolOp .Or (y :: ys) p) k2 _ _ _ ok2))))))
theorem E_lor1 {e v} (h1:E P e st v st1):E P (.lor [e]) st v st1:=E.of rfl fun c n u_ h u_ u_ u_ ok=>cmp_lor h fun u_ u_ k=>by
 obtain ⟨x,xs,rfl,k1,k2⟩:=all2_cons k
 cases all2_nil k2
 exact h1.at k1 _ _ _ ok
theorem E_landT {e e2 es v w} (h1:E P e st v st1) (ht:truthV st1 v = some true) (h2:E P (.land (e2 :: es)) st1 w st2):E P (.land (e :: e2 :: es)) st w st2:=E.of rfl fun c n u_ h u_ u_ u_ ok=>cmp_land h fun u_ p k=>by
 obtain ⟨x,xs,rfl,k1,k2⟩:=all2_cons k
 obtain ⟨y,ys,rfl,_,_⟩:=all2_cons k2
 exact wpAny_bind (Cf.go (h1.at k1) ok fun u u_ u_ g1 ok1 r1=>wpAny_bind (wpAny_standAt (wpAny_bind (wpAny_holding (Cf.use (truthV_sound ok1 r1 ht) fun b u_ A2 g2 ok2 hb=>by
  cases hb
  exact Cf.end (g1.trans g2) (h2.2 c n (.BoolOp .And (y :: ys) p) k2 _ _ _ ok2))))))
theorem E_land1 {e v} (h1:E P e st v st1):E P (.land [e]) st v st1:=E.of rfl fun c n u_ h u_ u_ u_ ok=>cmp_land h fun u_ u_ k=>by
 obtain ⟨x,xs,rfl,k1,k2⟩:=all2_cons k
 cases all2_nil k2
 exact h1.at k1 _ _ _ ok
noncomputable def ifsC (es:List PySem.Expr) (env:Env):Sem Bool:=forIn es true fun c r=>if r = true then do let ok <- isTrue c env (eval c env); pure (ForInStep.yield ok) else pure (ForInStep.yield r)
noncomputable def Ifs (P:Pg) (fs:List ME) (st:St) (b:Bool) (st':St):Prop:=∀ (c:Cf P) n es,all2 (cmp c.H n c.cx) es fs = true->c.Tri (ifsC es c.env) st b st' RB
theorem Ifs_nil:Ifs P [] st true st:=fun u_ u_ u_ h u_ u_ u_ ok=>by
 cases all2_nil h
 exact wpAny_pure (.pure ok rfl)
theorem Ifs_one {f b} (h:T P 8 f st b st1):Ifs P [f] st b st1:=fun c n es k u_ u_ u_ ok=>by
 obtain ⟨e,_,rfl,k1,k2⟩:=all2_cons k
 cases all2_nil k2
 unfold ifsC
 rw [List.forIn_cons,if_pos rfl]
 exact wpAny_bind (wpAny_bind (Cf.go (h.at k1) ok fun u_ u_ A1 g1 ok1 r1=>wpAny_pure (wpAny_pure ⟨A1,g1,ok1,r1⟩)))
end
end
section
set_option maxRecDepth 100000
open PySem.W.KBw
section
variable {prog:Program} {w:World} {A:Around} {E:Value->Shared->Prop} {s:Shared} {b:Array UInt8} {t:Tok}
theorem nextOf_bytes_item {it:Addr} {i:Nat} {c:UInt8} {Q:Value->Shared->Prop} (hit:KBw.IsBytesIter s.heap it b t i) (hx:b[i]? = some c)
  (hQ:∀ h',KBw.IsBytesIter h' it b t (i + 1)->Heap.SameBut it s.heap h'->Q (.int (c.toNat:Int) s.toks) { s with heap:=h',toks:=s.toks + 1 }):wpAny (model prog w) A (Builtin.SmallTypes.nextOf (.ref it)) Q E s:=by
 obtain ⟨o,ho,hc,hd⟩:=id hit
 unfold Builtin.SmallTypes.nextOf
 refine wpAny_bind (wpAny_callSpecial?_slot (name:=PySem.Str.ofString "__next__") (KBw.iter_typeIs hit) KBw.slot_next
  (wpAny_call_entry KBw.slot_next (KBw.iter_typeIs hit) KBw.entry_next ?_ (KBw.args_next _)))
 show wpAny _ _ (field (.ref it) 0 >>= _) _ _ s
 refine wpAny_bind (wpAny_field ho hd (x:=.bytes b t) rfl ?_)
 show wpAny _ _ (if (Value.bytes b t == Value.none) = true then _ else _) _ _ s
 rw [if_neg (show ¬ ((Value.bytes b t == Value.none) = true) from Bool.false_ne_true)]
 show wpAny _ _ (field (.ref it) 1 >>= _) _ _ s
 refine wpAny_bind (wpAny_field ho hd (x:=.int i 0) rfl ?_)
 refine wpAny_bind (wpAny_of_eq (a:=b) rfl ?_)
 simp only [Int.toNat_natCast,hx]
 refine wpAny_bind (wpAny_setField ho hd (by simp) (wpAny_bind (wpAny_mkInt (wpAny_pure ⟨_,rfl,wpAny_pure (hQ _ ?_ (Heap.SameBut.update ..))⟩))))
 exact ⟨_,Heap.get?_update_self _ ho (Obj.isFreed_of_fields (Obj.data_mapFields hd _)),(Obj.cls_mapFields ..).trans hc,by
  rw [Obj.data_mapFields hd]; simp [rawInt]⟩
theorem nextOf_bytes_end {it:Addr} {i:Nat} {Q:Value->Shared->Prop} (hh:A.handled = none) (hit:KBw.IsBytesIter s.heap it b t i) (hx:b[i]? = none)
  (hE:∀ h' e,Heap.ExtBut it s.heap h'->(∃ o,h'.get? e = some o /\ o.cls = .type "StopIteration")->E (.ref e) { s with heap:=h' }):wpAny (model prog w) A (Builtin.SmallTypes.nextOf (.ref it)) Q E s:=by
 obtain ⟨o,ho,hc,hd⟩:=id hit
 unfold Builtin.SmallTypes.nextOf
 refine wpAny_bind (wpAny_callSpecial?_slot (name:=PySem.Str.ofString "__next__") (KBw.iter_typeIs hit) KBw.slot_next
  (wpAny_call_entry KBw.slot_next (KBw.iter_typeIs hit) KBw.entry_next ?_ (KBw.args_next _)))
 show wpAny _ _ (field (.ref it) 0 >>= _) _ _ s
 refine wpAny_bind (wpAny_field ho hd (x:=.bytes b t) rfl ?_)
 show wpAny _ _ (if (Value.bytes b t == Value.none) = true then _ else _) _ _ s
 rw [if_neg (show ¬ ((Value.bytes b t == Value.none) = true) from Bool.false_ne_true)]
 show wpAny _ _ (field (.ref it) 1 >>= _) _ _ s
 refine wpAny_bind (wpAny_field ho hd (x:=.int i 0) rfl ?_)
 refine wpAny_bind (wpAny_of_eq (a:=b) rfl ?_)
 simp only [Int.toNat_natCast,hx]
 refine wpAny_bind (wpAny_rule (wpAny_bind (wpAny_setField ho hd (by simp) ?_)))
 show wpAny _ _ (newExc (.type "StopIteration") [] >>= _) _ _ _
 refine wpAny_bind ?_
 simp only [newExc,newTuple]
 refine wpAny_bind (wpAny_newObj_type ?_ (by size_fits))
 refine wpAny_bind (m:=firstArgMember _ _) (wpAny_of_eq (a:=Value.none) (by first | rfl | (simp only [firstArgMember]; rfl)) ?_)
 refine wpAny_newObj_type ?_ (by size_fits)
 delta raiseNew
 refine wpAny_bind (wpAny_handled ?_)
 first | rw [show A.in1.handled = none from hh] | rw [hh]
 refine wpAny_bind (wpAny_pure (wpAny_throw ?_))
 exact hE _ _ (((Heap.SameBut.update ..).extBut.push _).push _) ⟨_,Heap.get?_push_size _ rfl,rfl⟩
set_option maxHeartbeats 1000000 in
theorem meets_enumerate_newB (b:Array UInt8) (t:Tok) :
  Meets (Builtin.«enumerate.__new__» ⟨[.type "enumerate",.bytes b t],[]⟩) (fun u_ R s=>
   R (.ok (.ret (.ref (s.heap.push { cls:=.type "bytes_iterator",data:=.fields #[.bytes b t,.int 0 0] }).objs.size)))
    { s with heap:=(s.heap.push { cls:=.type "bytes_iterator",data:=.fields #[.bytes b t,.int 0 0] }).push { cls:=.type "enumerate",data:=.fields #[.none,.bool false,.ref s.heap.objs.size,rawInt 0,.none,.none] } }):=
 .of_wp fun prog w A R s h=>by
  obtain ⟨hp,g,d,tk,os⟩:=s
  have hsub:=sub_enumerate
  wp_walk
  refine wpAny_stack_any fun st=>wpAny_pure ?_
  split
  ·rename_i c _ _ _ _ _
   cases (c == Value.type "enumerate")
   ·wp_walk using KBw.pyIter_bytes
    exact ⟨_,rfl,h⟩
   ·wp_walk using KBw.pyIter_bytes
    exact ⟨_,rfl,h⟩
  ·wp_walk using KBw.pyIter_bytes
   exact ⟨_,rfl,h⟩
theorem call_enumerate_bytes {Q:Value->Shared->Prop}
  (h:∀ h',IsEnum h' (s.heap.objs.size + 1) s.heap.objs.size 0 .none->KBw.IsBytesIter h' s.heap.objs.size b t 0->h'.objs.size = s.heap.objs.size + 2->
   (∀ b o,s.heap.get? b = some o->h'.get? b = some o)->Q (.ref (s.heap.objs.size + 1)) { s with heap:=h' }) :
  wpAny (model prog w) A (call (.type "enumerate") [.bytes b t]) Q E s:=by
 refine callType_new F.called_enumerate (by decide) (F.typeCall_enumerate_1 _) (F.newCall_enumerate_1 _) (fun obj=>F.args_object_init_2 obj _) F.entry_enumerate_new
  (meets_enumerate_newB b t) ?_
 have hz:(s.heap.push { cls:=.type "bytes_iterator",data:=.fields #[.bytes b t,.int 0 0] }).objs.size = s.heap.objs.size + 1:=Heap.size_push ..
 show _ /\ _
 rw [hz]
 have he:IsEnum ((s.heap.push { cls:=.type "bytes_iterator",data:=.fields #[.bytes b t,.int 0 0] }).push
   { cls:=.type "enumerate",data:=.fields #[.none,.bool false,.ref s.heap.objs.size,rawInt 0,.none,.none] }) (s.heap.objs.size + 1) s.heap.objs.size 0 .none:=by
  have:=Heap.get?_push_size (s.heap.push { cls:=.type "bytes_iterator",data:=.fields #[.bytes b t,.int 0 0] })
   (o:={ cls:=.type "enumerate",data:=.fields #[.none,.bool false,.ref s.heap.objs.size,rawInt 0,.none,.none] }) rfl
  rw [hz] at this; exact this
 refine ⟨⟨_,he,rfl⟩,h _ he ⟨_,Heap.get?_push_of_some _ (Heap.get?_push_size _ rfl),rfl,rfl⟩ (by rw [Heap.size_push,hz]) fun b o y=>Heap.get?_push_of_some _ (Heap.get?_push_of_some _ y)⟩
end
theorem Draws.bytes {prog:Program} {w:World} {A:Around} (hh:A.handled = none) (it:Addr) (b:Array UInt8) (t:Tok) :
  Draws prog w A it [it] b.size (fun i v=>∃ c u,b[i]? = some c /\ v = .int (c.toNat:Int) u) (fun i h=>KBw.IsBytesIter h it b t i) where
 live:=fun u_ u_ st=>let ⟨o,ho,_⟩:=st; ⟨o,ho⟩
 frame:=fun u_ u_ u_ st hk=>let ⟨o,ho,r⟩:=st; ⟨o,hk it (by simp) o ho,r⟩
 item:=fun i s Q E hi st hQ=>by
  refine nextOf_bytes_item st (c:=b[i]) (by simp [hi]) fun h' hit' hs'=>?_
  exact hQ _ h' (s.toks + 1) ⟨_,_,by simp [hi],rfl⟩ hit' hs'
 done:=fun s Q E st hE=>nextOf_bytes_end hh st (by simp) hE
end
section
set_option maxRecDepth 100000
open PySem.W.KBw
section
variable {prog:Program} {w:World} {A:Around} {E:Value->Shared->Prop} {s:Shared} {b:Array UInt8} {t:Tok}
end
end
section
set_option maxRecDepth 100000
open PySem.W.KBw
section
variable {prog:Program} {w:World} {A:Around} {E:Value->Shared->Prop} {s:Shared} {b:Array UInt8} {t:Tok}
end
end
section
inductive Src (h:Heap) (it:Addr):Nat->List Int->Prop
 | bytes {b:List UInt8} {t:Tok} {i:Nat} {is:List Int}:i <= b.length->is = (b.drop i).map (fun c=>(c.toNat:Int))->KBw.IsBytesIter h it b.toArray t i->Src h it i is
theorem Src.at {h h':Heap} {it:Addr} {i:Nat} {is:List Int} (x:Src h it i is) (k:∀ o,h.get? it = some o->h'.get? it = some o):Src h' it i is:=by
 cases x with
 | bytes h1 h2 h3=>obtain ⟨o,ho,r⟩:=h3; exact .bytes h1 h2 ⟨o,k o ho,r⟩
theorem Src.nf {h:Heap} {it:Addr} {i:Nat} {is:List Int} (x:Src h it i is):∀ o,h.get? it = some o->∀ es ep,o.data ≠ .dict es ep:=by
 intro o e es ep q
 cases x with
 | bytes _ _ h1=>obtain ⟨p,ho,hc,hd⟩:=h1; rw [e] at ho; cases ho; rw [hd] at q; cases q
theorem Src.live {h:Heap} {it:Addr} {i:Nat} {is:List Int} (x:Src h it i is):∃ o,h.get? it = some o:=by
 cases x with
 | bytes _ _ h3=>obtain ⟨o,ho,_⟩:=h3; exact ⟨o,ho⟩
theorem drop_map_cons {b:List UInt8} {i:Nat} {x:Int} {is:List Int} (h:x :: is = (b.drop i).map (fun c=>(c.toNat:Int))):∃ c,b[i]? = some c /\ x = (c.toNat:Int) /\ is = (b.drop (i + 1)).map (fun c=>(c.toNat:Int)) /\ i < b.length:=by
 by_cases hl:i < b.length
 ·rw [List.drop_eq_getElem_cons hl,List.map_cons] at h
  cases h
  exact ⟨b[i],List.getElem?_eq_getElem hl,rfl,rfl,hl⟩
 ·rw [List.drop_eq_nil_of_le (by lia)] at h; cases h
section
variable {prog:Program} {w:World} {A:Around} {E:Value->Shared->Prop} {s:Shared}
theorem Src.next {I it:Addr} {i:Nat} {x:Int} {is:List Int} {old:Value} {Q:Option Value->Shared->Prop} (hh:A.handled = none) (h:Src s.heap it i (x :: is)) (he:IsEnum s.heap I it i old) (hne:I ≠ it)
  (hQ:∀ h' tk u,IsEnumOut h' I it ((i:Int) + 1) (.int x u) s.heap.objs.size->Src h' it (i + 1) is->
   h'.get? s.heap.objs.size = some { cls:=.type "tuple",data:=.seq #[.int i tk,.int x u] }->h'.objs.size = s.heap.objs.size + 1->
   (∀ b o,b ≠ I->b ≠ it->s.heap.get? b = some o->h'.get? b = some o)->Q (some (.ref s.heap.objs.size)) { s with heap:=h',toks:=tk + 1 }):wpAny (model prog w) A (pyNext (.ref I)) Q E s:=by
 cases h with
 | @bytes b t _ _ h1 h2 h3=>
  obtain ⟨c,q1,q2,q3,q4⟩:=drop_map_cons h2
  refine wpAny_pyNext_enum_itemD (Draws.bytes (A:=A.in1) hh it b.toArray t) he h3 (by simpa using q4) hne (by simpa using hne) fun x' h' tk hP he' hst hT hz hk=>?_
  obtain ⟨c',u,p1,rfl⟩:=hP
  have:c' = c:=by
   have:b[i]? = some c':=by simpa using p1
   rw [q1] at this; exact (Option.some.inj this).symm
  subst this
  subst q2
  exact hQ h' tk u he' (.bytes q4 q3 hst) hT hz hk
theorem Src.done {I it:Addr} {i:Nat} {old:Value} {Q:Option Value->Shared->Prop} (hh:A.handled = none) (h:Src s.heap it i []) (he:IsEnum s.heap I it i old)
  (hQ:∀ h',Heap.ExtBut it s.heap h'->Q none { s with heap:=h' }):wpAny (model prog w) A (pyNext (.ref I)) Q E s:=by
 cases h with
 | @bytes b t _ _ h1 h2 h3=>
  have:b.drop i = []:=List.map_eq_nil_iff.mp h2.symm
  have hl:i = b.toArray.size:=by rw [List.size_toArray]; have:=List.drop_eq_nil_iff.mp this; lia
  exact wpAny_pyNext_enum_endD (Draws.bytes (A:=A.in1) hh it b.toArray t) he (hl ▸ h3) hQ
end
end
section
inductive ItRep (w:Wd) (lv:Nat):Addr->List Addr->It->Prop
 | list {I a:Addr} {i:Nat} {items:List Value} {n:Nat} {vs:List V}:w.h.IsListIter I a i->¬ w.M a->w.h.get? a = some (LObj items.toArray n)->RelL w lv (items.drop i) vs->ItRep w lv I [I] (.seq vs)
 | tuple {I a:Addr} {i:Nat} {items:List Value} {n:Nat} {vs:List V}:w.h.IsTupleIter I a i->¬ w.M a->w.h.get? a = some (TObj items.toArray n)->RelL w lv (items.drop i) vs->ItRep w lv I [I] (.seq vs)
 | range {I:Addr} {x left step:Int} {vs:List V}:IsRangeIter w.h I x left step->vs = (List.range left.toNat).map (fun (j:Nat)=>V.int (x + j * step))->ItRep w lv I [I] (.seq vs)
 | bytes {I:Addr} {b:List UInt8} {t:Tok} {i:Nat} {vs:List V}:KBw.IsBytesIter w.h I b.toArray t i->vs = (b.drop i).map (fun c=>V.int (c.toNat:Int))->ItRep w lv I [I] (.seq vs)
 | ref {I a:Addr} {l k p:Nat}:w.h.IsListIter I a p->l <= lv->look w.A l k = some a->ItRep w lv I [I] (.ref l k p)
 | enList {I it a:Addr} {i:Nat} {old:Value} {items:List Value} {n:Nat} {vs:List V}:IsEnum w.h I it i old->I ≠ it->w.h.IsListIter it a i->¬ w.M a->w.h.get? a = some (LObj items.toArray n)->RelL w lv (items.drop i) vs->ItRep w lv I [I,it] (.en i (.seq vs))
 | enInt {I it:Addr} {i:Nat} {old:Value} {is:List Int} {vs:List V}:IsEnum w.h I it i old->I ≠ it->Src w.h it i is->vs = is.map .int->ItRep w lv I [I,it] (.en i (.seq vs))
 | enRef {I it a:Addr} {l k p:Nat} {old:Value}:IsEnum w.h I it p old->I ≠ it->w.h.IsListIter it a p->l <= lv->look w.A l k = some a->ItRep w lv I [I,it] (.en p (.ref l k p))
section
variable {B:Base} {Ar:Around} {lay:List Loc} {P P':Addr->Prop} {nl:Nat} {A A':List (List Addr)} {st:St} {s s':Shared} {E:Value->Shared->Prop}
theorem Ok.weaken (ok:Ok B lay P' nl A st s) (hp:∀ b,P b->P' b):Ok B lay P nl A st s:=by
 have ha:∀ b,Avd lay A P b->Avd lay A P' b:=fun b h=>h.imp id (hp b)
 have le:∀ lv,Wd.Le lv (wd lay A P' s.heap) (wd lay A P s.heap):=fun lv=>⟨fun u_ u_ e u_=>.of e,fun b u_ u_ h=>ha b h,fun u_ u_ u_ u_ e=>e⟩
 exact {
  base:=ok.base
  baseM:=fun b o e h=>ok.baseM b o e (ha b h)
  frs:=ok.frs
  len:=ok.len
  slots:=fun i l e=>slot_apart (le _) (fun u_ h=>h) (ok.slots i l e)
  sep:=ok.sep
  lenA:=ok.lenA
  dimA:=ok.dimA
  objs:=fun l i o a h1 h2=>rep_apart (le _) (fun u_ h=>h) (ok.objs l i o a h1 h2) fun b u_ u_ h=>ha b h
  inj:=ok.inj
  layA:=ok.layA
  disP:=fun b h=>ok.disP b (hp b h)
  alive:=fun b h=>ok.alive b (ha b h)
  rlen:=ok.rlen
  lvl:=ok.lvl }
theorem Ok.guard (ok:Ok B lay P nl A st s) (wr:List Addr) (h1:∀ b ∈ wr,s.heap.get? b = none) {h':Heap} {tk:Nat} (hk:∀ b o,s.heap.get? b = some o->h'.get? b = some o)
  (h3:∀ b ∈ wr,∃ o,h'.get? b = some o):Ok B lay (fun b=>P b ∨ b ∈ wr) nl A st { s with heap:=h',toks:=tk }:=by
 have old:∀ b o,s.heap.get? b = some o->b ∉ wr:=fun b o e m=>by rw [h1 b m] at e; cases e
 have av:∀ b o,s.heap.get? b = some o->Avd lay A (fun b=>P b ∨ b ∈ wr) b->Avd lay A P b:=fun b o e h=>by
  rcases h with h | h | h
  ·exact .inl h
  ·exact .inr h
  ·exact absurd h (old b o e)
 have le:∀ lv,Wd.Le lv (wd lay A P s.heap) (wd lay A (fun b=>P b ∨ b ∈ wr) h'):=fun lv=>⟨fun b o e u_=>.of (hk b o e),av,fun u_ u_ u_ u_ e=>e⟩
 exact {
  base:=fun b o e=>hk b o (ok.base b o e)
  baseM:=fun b o e h=>ok.baseM b o e (av b o (ok.base b o e) h)
  frs:=fun L m=>let ⟨o,es,ep,h1,h2⟩:=ok.frs L m; ⟨o,es,ep,hk _ _ h1,h2⟩
  len:=ok.len
  slots:=fun i l e=>slot_apart (le _) (fun q h=>hk _ _ h) (ok.slots i l e)
  sep:=ok.sep
  lenA:=ok.lenA
  dimA:=ok.dimA
  objs:=fun l i o a q1 q2=>rep_apart (le _) (fun q h=>hk _ _ h) (ok.objs l i o a q1 q2) av
  inj:=ok.inj
  layA:=ok.layA
  disP:=fun b h q=>by
   rcases h with h | h
   ·exact ok.disP b h q
   ·obtain ⟨o,e⟩:=ok.alive b (.inl q)
    exact old b o e h
  alive:=fun b h=>by
   rcases h with h | h | h
   ·obtain ⟨o,e⟩:=ok.alive b (.inl h); exact ⟨o,hk b o e⟩
   ·obtain ⟨o,e⟩:=ok.alive b (.inr h); exact ⟨o,hk b o e⟩
   ·exact h3 b h
  rlen:=ok.rlen
  lvl:=ok.lvl }
theorem Ok.notFr (ok:Ok B lay P nl A st s) {b:Addr} (h:∀ o,s.heap.get? b = some o->Nd o):b ∉ B.frs:=fun m=>
 let ⟨o,es,ep,h1,h2,_⟩:=ok.frs b m; h o h1 es ep h2
theorem Ok.newFr (ok:Ok B lay P nl A st s) {b:Addr} (h:s.heap.get? b = none):b ∉ B.frs:=fun m=>by
 obtain ⟨o,es,ep,h1,_⟩:=ok.frs b m; rw [h] at h1; cases h1
theorem Ok.priv (ok:Ok B lay P nl A st s) (wr:List Addr) (hw:∀ b ∈ wr,P b) {h':Heap} {tk:Nat} (hk:∀ b o,b ∉ wr->s.heap.get? b = some o->h'.get? b = some o) (hl:∀ b ∈ wr,∃ o,h'.get? b = some o) (hd:∀ b ∈ wr,b ∉ B.frs) :
  Ok B lay P nl A st { s with heap:=h',toks:=tk }:=by
 have hn:∀ b,¬ Avd lay A P b->b ∉ wr:=fun b h m=>h (.inr (hw b m))
 have ht:∀ b,Tch lay A b->b ∉ wr:=fun b h m=>ok.disP b (hw b m) h
 have le:∀ lv,Wd.Le lv (wd lay A P s.heap) (wd lay A P h'):=fun lv=>⟨fun b o e h=>.of (hk b o (hn b h) e),fun u_ u_ u_ h=>h,fun u_ u_ u_ u_ e=>e⟩
 exact {
  base:=fun b o e=>hk b o (hn b (ok.baseM b o e)) (ok.base b o e)
  baseM:=ok.baseM
  frs:=fun L m=>let ⟨o,es,ep,h1,h2,h3⟩:=ok.frs L m; ⟨o,es,ep,hk _ _ (fun q=>hd L q m) h1,h2,h3⟩
  len:=ok.len
  slots:=fun i l e=>slot_apart (le _) (fun q h=>hk _ _ (ht _ (.inl ⟨l,List.mem_of_getElem? e,rfl⟩)) h) (ok.slots i l e)
  sep:=ok.sep
  lenA:=ok.lenA
  dimA:=ok.dimA
  objs:=fun l i o a h1 h2=>rep_apart (le _) (fun q h=>hk _ _ (ht _ (.inr ⟨l,i,h2⟩)) h) (ok.objs l i o a h1 h2) fun u_ u_ u_ h=>h
  inj:=ok.inj
  layA:=ok.layA
  disP:=ok.disP
  alive:=fun b h=>by
   by_cases m:b ∈ wr
   ·exact hl b m
   ·obtain ⟨o,e⟩:=ok.alive b h; exact ⟨o,hk b o m e⟩
  rlen:=ok.rlen
  lvl:=ok.lvl }
theorem ItRep.nf {w:Wd} {lv:Nat} {I:Addr} {wr:List Addr} {it:It} (h:ItRep w lv I wr it):∀ b ∈ wr,∀ o,w.h.get? b = some o->Nd o:=by
 intro b m o e
 have fld:(∃ q vs,w.h.get? b = some q /\ q.data = .fields vs)->Nd o:=fun ⟨q,vs,e',hc⟩=>by
  rw [e] at e'; cases e'; intro es ep; rw [hc]; exact fun q=>nomatch q
 have en:∀ {it i old},IsEnum w.h b it i old->Nd o:=fun {it i old} e'=>fld ⟨_,_,e',rfl⟩
 cases h with
 | list h1=>obtain ⟨q,ho,hc,hd⟩:=h1; rw [List.mem_singleton.mp m] at fld; exact fld ⟨q,_,ho,hd⟩
 | tuple h1=>obtain ⟨q,ho,hc,hd⟩:=h1; rw [List.mem_singleton.mp m] at fld; exact fld ⟨q,_,ho,hd⟩
 | range h1=>rw [List.mem_singleton.mp m] at fld; exact fld ⟨_,_,h1,rfl⟩
 | bytes h1=>obtain ⟨q,ho,hc,hd⟩:=h1; rw [List.mem_singleton.mp m] at fld; exact fld ⟨q,_,ho,hd⟩
 | ref h1=>obtain ⟨q,ho,hc,hd⟩:=h1; rw [List.mem_singleton.mp m] at fld; exact fld ⟨q,_,ho,hd⟩
 | enList h1 h0 h2=>
  rcases List.mem_cons.mp m with rfl | m
  ·exact en h1
  ·obtain ⟨q,ho,hc,hd⟩:=h2; rw [List.mem_singleton.mp m] at fld; exact fld ⟨q,_,ho,hd⟩
 | enInt h1 h0 h2=>
  rcases List.mem_cons.mp m with rfl | m
  ·exact en h1
  ·rw [List.mem_singleton.mp m] at e; exact h2.nf o e
 | enRef h1 h0 h2=>
  rcases List.mem_cons.mp m with rfl | m
  ·exact en h1
  ·obtain ⟨q,ho,hc,hd⟩:=h2; rw [List.mem_singleton.mp m] at fld; exact fld ⟨q,_,ho,hd⟩
theorem ItRep.go (ok:Ok B lay P nl A st s) {I:Addr} {wr:List Addr} {it:It} {lv:Nat} (hw:∀ b ∈ wr,P b) (g:Go lay A A' s s') (h:ItRep (wd lay A P s.heap) lv I wr it):ItRep (wd lay A' P s'.heap) lv I wr it:=by
 have kp:∀ b,b ∈ wr->∀ o,s.heap.get? b = some o->s'.heap.get? b = some o:=fun b m o e=>(g.keep b o e (ok.disP b (hw b m))).at (h.nf b m o e)
 have le:=g.le P lv
 cases h with
 | list h1 h2 h3 h4=>exact .list (h1.at (kp _ (.head _))) (fun q=>h2 (le.avoid _ _ h3 q)) ((le.keep _ _ h3 h2).at (nd_of rfl)) (h4.mono le (Nat.le_refl _))
 | tuple h1 h2 h3 h4=>exact .tuple (h1.at (kp _ (.head _))) (fun q=>h2 (le.avoid _ _ h3 q)) ((le.keep _ _ h3 h2).at (nd_of rfl)) (h4.mono le (Nat.le_refl _))
 | range h1 h2=>exact .range (kp _ (.head _) _ h1) h2
 | bytes h1 h2=>obtain ⟨o,ho,r⟩:=h1; exact .bytes ⟨o,kp _ (.head _) _ ho,r⟩ h2
 | ref h1 h2 h3=>exact .ref (h1.at (kp _ (.head _))) h2 (g.same _ _ _ h3)
 | enList h1 h0 h2 h3 h4 h5=>exact .enList (kp _ (.head _) _ h1) h0 (h2.at (kp _ (.tail _ (.head _)))) (fun q=>h3 (le.avoid _ _ h4 q)) ((le.keep _ _ h4 h3).at (nd_of rfl)) (h5.mono le (Nat.le_refl _))
 | enInt h1 h0 h2 h3=>exact .enInt (kp _ (.head _) _ h1) h0 (h2.at (kp _ (.tail _ (.head _)))) h3
 | enRef h1 h0 h2 h3 h4=>exact .enRef (kp _ (.head _) _ h1) h0 (h2.at (kp _ (.tail _ (.head _)))) h3 (g.same _ _ _ h4)
noncomputable def tgtOk (it:It) (t:PySem.Expr):Prop:=match it with
 | .en _ _=>∃ es k p,t = .Tuple es k p
 | _=>True
theorem letGo_plain {t:PySem.Expr} {I:Addr} {v:Value} {o:Obj} {T:String} {Q:Unit->Shared->Prop} (ho:s.heap.get? I = some o) (hc:o.cls = .type T)
  (hT : ["enumerate", "zip", "dict_itemiterator", "dict_reverseitemiterator", "odict_iterator", "itertools.zip_longest", "itertools.pairwise"].contains T = false) (hq:Q () s) :
  wpAny (model B.prog B.w) Ar (letOwnedTupleGo t (.ref I) v) Q E s:=by
 obtain ⟨c,d,dt,sl⟩:=o
 simp only at hc
 subst hc
 have two:wpAny (model B.prog B.w) Ar (do
   let (.ref r,.ref a):=((Value.ref I),v) | return
   let o <- load r
   match o.cls,o.data with
   | .type n,.fields vs=>
    if ["enumerate", "zip", "dict_itemiterator", "dict_reverseitemiterator", "odict_iterator", "itertools.zip_longest", "itertools.pairwise"].contains n && vs[0]? == some (rawInt a) then
     rule "for.unpacks-the-owned-tuple"
     updateField r 0 .none
   | _,_=>pure ():Sem Unit) Q E s:=by
  cases v with
  | ref a=>
   refine wpAny_bind (wpAny_load ho ?_)
   dsimp only
   cases dt with
   | fields vs=>
    dsimp only
    rw [hT,Bool.false_and,if_neg Bool.false_ne_true]
    exact wpAny_pure hq
   | _=>exact wpAny_pure hq
  | _=>exact wpAny_pure hq
 cases t <;> first | exact two | exact wpAny_pure hq
structure Stepped (wr:List Addr) (s s':Shared):Prop where
 keep:∀ b o,b ∉ wr->s.heap.get? b = some o->s'.heap.get? b = some o
 rest:s'.gens = s.gens /\ s'.drawn = s.drawn /\ s'.os = s.os
end
end
section
theorem range_map_succ (k:Nat) (x step:Int):(List.range (k + 1)).map (fun (j:Nat)=>V.int (x + j * step)) = V.int x :: (List.range k).map (fun (j:Nat)=>V.int (x + step + j * step)):=by
 rw [List.range_succ_eq_map,List.map_cons,List.map_map]
 congr 1
 ·simp
 ·apply List.map_congr_left
  intro j _
  simp only [Function.comp,Nat.succ_eq_add_one]
  congr 1
  rw [Int.natCast_add,Int.add_mul]; lia
theorem drop_head {α:Type} {xs:List α} {i:Nat} {x:α} {ys:List α} (h:xs.drop i = x :: ys):xs[i]? = some x /\ xs.drop (i + 1) = ys:=by
 constructor
 ·have:(xs.drop i)[0]? = some x:=by rw [h]; rfl
  simpa [List.getElem?_drop] using this
 ·rw [<- List.drop_drop,h]; rfl
theorem drop_nil {α:Type} {xs:List α} {i:Nat} (h:xs.drop i = []):xs[i]? = none:=by
 have:=List.drop_eq_nil_iff.mp h
 exact List.getElem?_eq_none this
section
variable {B:Base} {Ar:Around} {lay:List Loc} {P:Addr->Prop} {nl:Nat} {A:List (List Addr)} {st:St} {s:Shared} {E:Value->Shared->Prop}
noncomputable def Next (B:Base) (lay:List Loc) (P:Addr->Prop) (nl:Nat) (A:List (List Addr)) (st:St) (s:Shared) (I:Addr) (wr:List Addr) (it':It) (v:Value) (x:V) (s2:Shared):Prop:=
 Stepped wr s s2 /\ Ok B lay P nl A st s2 /\ Rel (wd lay A P s2.heap) (nl - 1) v x /\ ItRep (wd lay A P s2.heap) (nl - 1) I wr it'
theorem le_of_step {wr:List Addr} (hw:∀ b ∈ wr,P b) {h':Heap} (hk:∀ b o,b ∉ wr->s.heap.get? b = some o->h'.get? b = some o) (lv:Nat):Wd.Le lv (wd lay A P s.heap) (wd lay A P h'):=
 ⟨fun b o e h=>.of (hk b o (fun m=>h (.inr (hw b m))) e),fun u_ u_ u_ h=>h,fun u_ u_ u_ u_ e=>e⟩
noncomputable abbrev NextR (B:Base) (Ar:Around) (lay:List Loc) (P:Addr->Prop) (nl:Nat) (A:List (List Addr)) (st:St) (s:Shared) (I:Addr) (wr:List Addr) (it':It) (x:V) (t:PySem.Expr) (E:Value->Shared->Prop) (r:Option Value) (s1:Shared):Prop:=
 ∃ v,r = some v /\ wpAny (model B.prog B.w) Ar (letOwnedTupleGo t (.ref I) v) (fun u_ s2=>Next B lay P nl A st s I wr it' v x s2) E s1
theorem fin_plain (ok:Ok B lay P nl A st s) {I:Addr} {h':Heap} {o:Obj} {T:String} {tk:Nat} {v:Value} {x:V} {it':It} {t:PySem.Expr} (hw:∀ b ∈ [I],P b) (hnf:∀ b ∈ [I],b ∉ B.frs) (hs:Heap.SameBut I s.heap h') (ho:h'.get? I = some o) (hc:o.cls = .type T)
  (hT : ["enumerate", "zip", "dict_itemiterator", "dict_reverseitemiterator", "odict_iterator", "itertools.zip_longest", "itertools.pairwise"].contains T = false)
  (hr:(∀ lv,Wd.Le lv (wd lay A P s.heap) (wd lay A P h'))->Rel (wd lay A P h') (nl - 1) v x /\ ItRep (wd lay A P h') (nl - 1) I [I] it') :
  NextR B Ar lay P nl A st s I [I] it' x t E (some v) { s with heap:=h',toks:=tk }:=by
 have hk:∀ b o,b ∉ [I]->s.heap.get? b = some o->h'.get? b = some o:=fun b o m e=>(hs.2 b (fun q=>m (q ▸ List.mem_cons_self))).trans e
 obtain ⟨h1,h2⟩:=hr fun lv=>le_of_step (lay:=lay) (A:=A) hw hk lv
 exact ⟨v,rfl,letGo_plain ho hc hT ⟨⟨hk,rfl,rfl,rfl⟩,ok.priv (tk:=tk) [I] hw hk (fun b m=>by rw [List.mem_singleton.mp m]; exact ⟨o,ho⟩) hnf,h1,h2⟩⟩
theorem both2 {p:Nat->Prop} {a c:Nat} (h1:p a) (h2:p c):∀ b ∈ [a,c],p b:=fun b m=>(List.mem_cons.mp m).elim (fun e=>e.symm ▸ h1) fun m=>(List.mem_singleton.mp m).symm ▸ h2
theorem fin_enum (ok:Ok B lay P nl A st s) {I it2:Addr} {h':Heap} {i u tk:Nat} {j:Int} {old v:Value} {w:V} {it':It} {es:List PySem.Expr} {x1:Nat} {kk:Pos} (hw:∀ b ∈ [I,it2],P b) (hnf:∀ b ∈ [I,it2],b ∉ B.frs) (h1:IsEnum s.heap I it2 i old)
  (he:IsEnumOut h' I it2 j v s.heap.objs.size) (h0:I ≠ it2) (hT:h'.get? s.heap.objs.size = some (TObj #[.int i u,v] 0)) (hk:∀ b o,b ≠ I->b ≠ it2->s.heap.get? b = some o->h'.get? b = some o)
  (hr:∀ h2',IsEnum h2' I it2 j v->(∀ o,h'.get? it2 = some o->h2'.get? it2 = some o)->(∀ lv,Wd.Le lv (wd lay A P s.heap) (wd lay A P h2'))->(∃ o,h2'.get? it2 = some o) /\ Rel (wd lay A P h2') (nl - 1) v w /\ ItRep (wd lay A P h2') (nl - 1) I [I,it2] it') :
  NextR B Ar lay P nl A st s I [I,it2] it' (.tup [.int (i:Nat),w]) (.Tuple es x1 kk) E (some (.ref s.heap.objs.size)) { s with heap:=h',toks:=tk }:=by
 refine ⟨_,rfl,wpAny_letOwnedTupleGo_enum he fun h2' he' hs'=>?_⟩
 have hk':∀ b o,b ∉ [I,it2]->s.heap.get? b = some o->h2'.get? b = some o:=fun b o m e=>
  (hs'.2 b (fun q=>m (q ▸ .head _))).trans (hk b o (fun q=>m (q ▸ .head _)) (fun q=>m (q ▸ .tail _ (.head _))) e)
 have le:=le_of_step (lay:=lay) (A:=A) hw hk'
 obtain ⟨r0,r1,r2⟩:=hr h2' he' (fun o e=>(hs'.2 _ (fun q=>h0 q.symm)).trans e) le
 exact ⟨⟨hk',rfl,rfl,rfl⟩,ok.priv [I,it2] hw hk' (both2 ⟨_,he'⟩ r0) hnf,.tup (items:=[_,_]) ok.fresh ((hs'.2 _ fun q=>Nat.lt_irrefl _ (q ▸ Heap.lt_size h1)).trans hT) (.cons .int (.cons r1 .nil)),r2⟩
theorem next_item (ok:Ok B lay P nl A st s) (hh:Ar.handled = none) {I:Addr} {wr:List Addr} {it it':It} {x:V} (hw:∀ b ∈ wr,P b) (hr:ItRep (wd lay A P s.heap) (nl - 1) I wr it) (hn:it.next st = some (some (x,it')))
  {t:PySem.Expr} (ht:tgtOk it t) :
  wpAny (model B.prog B.w) Ar (pyNext (.ref I)) (fun r s1=>∃ v,r = some v /\ wpAny (model B.prog B.w) Ar (letOwnedTupleGo t (.ref I) v) (fun u_ s2=>Next B lay P nl A st s I wr it' v x s2) E s1) E s:=by
 have hnf:∀ b ∈ wr,b ∉ B.frs:=fun b m=>ok.notFr (hr.nf b m)
 show wpAny (model B.prog B.w) Ar (pyNext (.ref I)) (NextR B Ar lay P nl A st s I wr it' x t E) E s
 cases hr with
 | @list a i items n vs h1 h2 h3 h4=>
  cases vs with
  | nil=>cases hn
  | cons x0 vs0=>
   cases hn
   generalize hd:items.drop i = ds at h4
   revert hd
   refine h4.cons_e fun v u_ r1 r2 hd=>?_
   obtain ⟨hx,hd'⟩:=drop_head hd
   refine wpAny_pyNext_list_item h1 (isList_of h3) (x:=v) (by simpa using hx) fun h' hi hs=>?_
   obtain ⟨o,ho,hc,_⟩:=id hi
   exact fin_plain (tk:=s.toks) ok hw hnf hs ho hc (by decide) fun le=>⟨r1.mono (le _) (Nat.le_refl _),.list hi h2 (((le 0).keep _ _ h3 h2).at (nd_of rfl)) (by rw [hd']; exact r2.mono (le _) (Nat.le_refl _))⟩
 | @tuple a i items n vs h1 h2 h3 h4=>
  cases vs with
  | nil=>cases hn
  | cons x0 vs0=>
   cases hn
   generalize hd:items.drop i = ds at h4
   revert hd
   refine h4.cons_e fun v u_ r1 r2 hd=>?_
   obtain ⟨hx,hd'⟩:=drop_head hd
   refine wpAny_pyNext_tuple_item h1 (isTuple_of h3) (x:=v) (by simpa using hx) fun h' hi hs=>?_
   obtain ⟨o,ho,hc,_⟩:=id hi
   exact fin_plain (tk:=s.toks) ok hw hnf hs ho hc (by decide) fun le=>⟨r1.mono (le _) (Nat.le_refl _),.tuple hi h2 (((le 0).keep _ _ h3 h2).at (nd_of rfl)) (by rw [hd']; exact r2.mono (le _) (Nat.le_refl _))⟩
 | @range x1 left step vs h1 h2=>
  cases vs with
  | nil=>cases hn
  | cons x0 vs0=>
   cases hn
   obtain ⟨k,hk0⟩ : ∃ k,left.toNat = k + 1:=by
    cases hl:left.toNat with
    | zero=>rw [hl] at h2; cases h2
    | succ k=>exact ⟨k,rfl⟩
   rw [hk0,range_map_succ] at h2
   cases h2
   exact wpAny_pyNext_range_item h1 (by lia) fun h' hi hs=>fin_plain ok hw hnf hs hi rfl (by decide) fun u_=>⟨.int,.range hi (by rw [show (left - 1).toNat = k by lia])⟩
 | @bytes b t0 i vs h1 h2=>
  cases vs with
  | nil=>cases hn
  | cons x0 vs0=>
   cases hn
   generalize hd:b.drop i = ds at h2
   cases ds with
   | nil=>cases h2
   | cons c ds=>
    cases h2
    obtain ⟨hx,hd'⟩:=drop_head hd
    refine KBw.next_item h1 (c:=c) (by simpa using hx) fun h' hi hs=>?_
    obtain ⟨o,ho,hc,_⟩:=id hi
    exact fin_plain ok hw hnf hs ho hc (by decide) fun u_=>⟨.int,.bytes hi (by rw [hd'])⟩
 | @ref a l k p h1 h2 h3=>
  obtain ⟨vs,e,hv,hi2⟩:=next_refS hn
  subst hi2
  obtain ⟨items,n,h4,h5⟩:=ok.objs _ _ _ _ e h3
  obtain ⟨v,hx,r1⟩:=h5.get hv
  refine wpAny_pyNext_list_item h1 (isList_of h4) (x:=v) (by simpa using hx) fun h' hi hs=>?_
  obtain ⟨o,ho,hc,_⟩:=id hi
  exact fin_plain (tk:=s.toks) ok hw hnf hs ho hc (by decide) fun le=>⟨r1.mono (le _) h2,.ref hi h2 h3⟩
 | @enList it2 a i old items n vs h1 h0 h2 h3 h4 h5=>
  obtain ⟨es,kk,pp,rfl⟩:=ht
  cases vs with
  | nil=>cases hn
  | cons x0 vs0=>
   cases hn
   generalize hd:items.drop i = ds at h5
   cases h5 with
   | @cons v _ vs1 _ r1 r2=>
    obtain ⟨hx,hd'⟩:=drop_head hd
    refine wpAny_pyNext_enum_item h1 h2 (isList_of h4) (x:=v) (by simpa using hx) h0 fun h' he hi hT hz hk=>fin_enum ok hw hnf h1 he h0 hT hk fun h2' he' hs' le=>?_
    have hi':h2'.IsListIter it2 a (i + 1):=hi.at hs'
    exact ⟨let ⟨o,ho,_⟩:=hi'; ⟨o,ho⟩,r1.mono (le _) (Nat.le_refl _),.enList (by simpa using he') h0 hi' h3 (((le 0).keep _ _ h4 h3).at (nd_of rfl)) (by rw [hd']; exact r2.mono (le _) (Nat.le_refl _))⟩
 | @enInt it2 i old is vs h1 h0 h2 h3=>
  obtain ⟨es,kk,pp,rfl⟩:=ht
  subst h3
  cases is with
  | nil=>cases hn
  | cons x0 is0=>
   cases hn
   refine Src.next hh h2 h1 h0 fun h' tk u he hi hT hz hk=>fin_enum ok hw hnf h1 he h0 hT hk fun h2' he' hs' le=>?_
   have hi':Src h2' it2 (i + 1) is0:=hi.at hs'
   exact ⟨hi'.live,.int,.enInt (by simpa using he') h0 hi' rfl⟩
 | @enRef it2 a l k p old h1 h0 h2 h3 h4=>
  obtain ⟨es,kk,pp,rfl⟩:=ht
  obtain ⟨v0,it3,hn2,hx0,hx1⟩:=next_enS hn
  subst hx0; subst hx1
  obtain ⟨vs,e,hv,hi3⟩:=next_refS hn2
  subst hi3
  obtain ⟨items,n,h5,h6⟩:=ok.objs _ _ _ _ e h4
  obtain ⟨v,hx,r1⟩:=h6.get hv
  refine wpAny_pyNext_enum_item h1 h2 (isList_of h5) (x:=v) (by simpa using hx) h0 fun h' he hi hT hz hk=>fin_enum ok hw hnf h1 he h0 hT hk fun h2' he' hs' le=>?_
  have hi':h2'.IsListIter it2 a (p + 1):=hi.at hs'
  exact ⟨let ⟨o,ho,_⟩:=hi'; ⟨o,ho⟩,r1.mono (le _) h3,.enRef (by simpa using he') h0 hi' h3 h4⟩
end
end
section
section
variable {B:Base} {Ar:Around} {lay:List Loc} {P:Addr->Prop} {nl:Nat} {A:List (List Addr)} {st:St} {s:Shared} {E:Value->Shared->Prop}
theorem next_done (ok:Ok B lay P nl A st s) (hh:Ar.handled = none) {I:Addr} {wr:List Addr} {it:It} (hr:ItRep (wd lay A P s.heap) (nl - 1) I wr it) (hn:it.next st = some none) :
  wpAny (model B.prog B.w) Ar (pyNext (.ref I)) (fun r s1=>r = none /\ Stepped wr s s1) E s:=by
 have one:∀ {J:Addr} {h':Heap},Heap.ExtBut J s.heap h'->Stepped [J] s { s with heap:=h' }:=fun hk=>⟨fun b o m e=>hk b o (fun q=>m (by simp [q])) e,rfl,rfl,rfl⟩
 cases hr with
 | @list a i items n vs h1 h2 h3 h4=>
  cases vs with
  | cons _ _=>cases hn
  | nil=>
   generalize hd:items.drop i = ds at h4
   cases h4
   exact wpAny_pyNext_list_end hh h1 (isList_of h3) (by simpa using drop_nil hd) fun h' hk=>⟨rfl,one hk⟩
 | @tuple a i items n vs h1 h2 h3 h4=>
  cases vs with
  | cons _ _=>cases hn
  | nil=>
   generalize hd:items.drop i = ds at h4
   cases h4
   exact wpAny_pyNext_tuple_end hh h1 (isTuple_of h3) (by simpa using drop_nil hd) fun h' hk=>⟨rfl,one hk⟩
 | @range x1 left step vs h1 h2=>
  cases vs with
  | cons _ _=>cases hn
  | nil=>
   have:left.toNat = 0:=by
    cases hl:left.toNat with
    | zero=>rfl
    | succ k=>rw [hl,range_map_succ] at h2; cases h2
   exact wpAny_pyNext_range_end hh h1 (by lia) fun h' hk=>⟨rfl,one hk⟩
 | @bytes b t0 i vs h1 h2=>
  cases vs with
  | cons _ _=>cases hn
  | nil=>
   have hd:b.drop i = []:=by
    cases hd:b.drop i with
    | nil=>rfl
    | cons _ _=>rw [hd] at h2; cases h2
   exact KBw.next_end hh h1 (by simpa using drop_nil hd) fun h' hk=>⟨rfl,one hk⟩
 | @ref a l k p h1 h2 h3=>
  obtain ⟨vs,e,hv⟩:=next_refN hn
  obtain ⟨items,n,h4,h5⟩:=ok.objs _ _ _ _ e h3
  have hl:=h5.length
  exact wpAny_pyNext_list_end hh h1 (isList_of h4) (by rw [List.getElem?_eq_none_iff] at hv; simp; lia) fun h' hk=>⟨rfl,one hk⟩
 | @enList it2 a i old items n vs h1 h0 h2 h3 h4 h5=>
  cases vs with
  | cons _ _=>cases hn
  | nil=>
   generalize hd:items.drop i = ds at h5
   cases h5
   exact wpAny_pyNext_enum_end hh h1 h2 (isList_of h4) (by simpa using drop_nil hd) fun h' hk=>⟨rfl,⟨fun b o m e=>hk b o (fun q=>m (by simp [q])) e,rfl,rfl,rfl⟩⟩
 | @enInt it2 i old is vs h1 h0 h2 h3=>
  subst h3
  cases is with
  | cons _ _=>cases hn
  | nil=>exact Src.done hh h2 h1 fun h' hk=>⟨rfl,⟨fun b o m e=>hk b o (fun q=>m (by simp [q])) e,rfl,rfl,rfl⟩⟩
 | @enRef it2 a l k p old h1 h0 h2 h3 h4=>
  obtain ⟨vs,e,hv⟩:=next_refN (next_enN hn)
  obtain ⟨items,n,h5,h6⟩:=ok.objs _ _ _ _ e h4
  have hl:=h6.length
  exact wpAny_pyNext_enum_end hh h1 h2 (isList_of h5) (by rw [List.getElem?_eq_none_iff] at hv; simp; lia) fun h' hk=>⟨rfl,⟨fun b o m e=>hk b o (fun q=>m (by simp [q])) e,rfl,rfl,rfl⟩⟩
noncomputable def Made0 (B:Base) (lay:List Loc) (P:Addr->Prop) (nl:Nat) (A:List (List Addr)) (s:Shared) (st':St) (it:It) (iv:Value) (s2:Shared):Prop:=
 ∃ I wr A1,iv = .ref I /\ Go lay A A1 s s2 /\ (∀ b ∈ wr,s.heap.get? b = none) /\ Ok B lay (fun b=>P b ∨ b ∈ wr) nl A1 st' s2 /\ ItRep (wd lay A1 (fun b=>P b ∨ b ∈ wr) s2.heap) (nl - 1) I wr it
theorem Made0.lift {A1:List (List Addr)} {s1:Shared} {st':St} {it:It} {iv:Value} {s2:Shared} (g:Go lay A A1 s s1) (h:Made0 B lay P nl A1 s1 st' it iv s2):Made0 B lay P nl A s st' it iv s2:=by
 obtain ⟨I,wr,A2,h1,h2,h3,h4,h5⟩:=h
 refine ⟨I,wr,A2,h1,g.trans h2,fun b m=>?_,h4,h5⟩
 cases e:s.heap.get? b with
 | none=>rfl
 | some o=>obtain ⟨o',e'⟩:=g.live b o e; rw [h3 b m] at e'; cases e'
theorem guard_le (wr:List Addr) (h1:∀ b ∈ wr,s.heap.get? b = none) {h':Heap} (hk:∀ b o,s.heap.get? b = some o->h'.get? b = some o) (lv:Nat):Wd.Le lv (wd lay A P s.heap) (wd lay A (fun b=>P b ∨ b ∈ wr) h'):=
 ⟨fun b o e u_=>.of (hk b o e),(fun b o e h=>by
  rcases h with h | h | h
  ·exact .inl h
  ·exact .inr h
  ·rw [h1 b h] at e; cases e),fun u_ u_ u_ u_ e=>e⟩
theorem mkIt_sound (ok:Ok B lay P nl A st s) {v:Value} {x:V} {it:It} (hx:Rel (wd lay A P s.heap) (nl - 1) v x) (h:mkIt st x = some it) :
  wpAny (model B.prog B.w) Ar (pyIter v) (Made0 B lay P nl A s st it) E s:=by
 have hn:s.heap.get? s.heap.objs.size = none:=Heap.get?_none_of_le (Nat.le_refl _)
 have fr:∀ b ∈ [s.heap.objs.size],s.heap.get? b = none:=fun b m=>by rw [List.mem_singleton.mp m]; exact hn
 have key:∀ (o:Obj) (ho:o.isFreed = false),(∀ w:Wd,w.h = s.heap.push o->w.A = A->Wd.Le (nl - 1) (wd lay A P s.heap) w->ItRep w (nl - 1) s.heap.objs.size [s.heap.objs.size] it)->
   Made0 B lay P nl A s st it (.ref s.heap.objs.size) { s with heap:=s.heap.push o }:=fun o ho hi=>by
  have hk:∀ b q,s.heap.get? b = some q->(s.heap.push o).get? b = some q:=fun b q e=>Heap.get?_push_of_some _ e
  have ok':=ok.guard (tk:=s.toks) [s.heap.objs.size] fr hk (fun b m=>⟨o,by rw [List.mem_singleton.mp m]; exact Heap.get?_push_size _ ho⟩)
  exact ⟨_,[s.heap.objs.size],A,rfl,(ok.grow (tk:=s.toks) hk).2,fr,ok',hi _ rfl rfl (guard_le [s.heap.objs.size] fr hk _)⟩
 cases x with
 | lst vs=>
  refine hx.lst_e fun a items n h1 h2 h3=>?_
  ·cases h
   refine wpAny_pyIter_list (isList_of h2) (key _ rfl fun w hw hA le=>?_)
   exact .list (i:=0) ⟨_,by rw [hw]; exact Heap.get?_push_size _ rfl,rfl,rfl⟩ (fun q=>h1 (le.avoid _ _ h2 q)) ((le.keep _ _ h2 h1).at (nd_of rfl)) (by rw [List.drop_zero]; exact h3.mono le (Nat.le_refl _))
 | tup vs=>
  refine hx.tup_e fun a items n h1 h2 h3=>?_
  ·cases h
   refine wpAny_pyIter_tuple (isTuple_of h2) (key _ rfl fun w hw hA le=>?_)
   exact .tuple (i:=0) ⟨_,by rw [hw]; exact Heap.get?_push_size _ rfl,rfl,rfl⟩ (fun q=>h1 (le.avoid _ _ h2 q)) ((le.keep _ _ h2 h1).at (nd_of rfl)) (by rw [List.drop_zero]; exact h3.mono le (Nat.le_refl _))
 | bytes b=>
  refine hx.bytes_e fun t=>?_
  cases h
  refine KBw.pyIter_bytes (key _ rfl fun w hw hA le=>?_)
  exact .bytes (i:=0) ⟨_,by rw [hw]; exact Heap.get?_push_size _ rfl,rfl,rfl⟩ (by rw [List.drop_zero])
 | rng a b c=>
  cases hx with
  | rng h1 h2=>
   obtain ⟨hs,h⟩:=if_some (show (if Builtin.Range.small a b c then some (It.seq ((rangeL a b c).map .int)) else none) = some it from h)
   cases h
   refine wpAny_pyIter_range h2 hs (key _ rfl fun w hw hA le=>?_)
   refine .range (by show w.h.get? _ = _; rw [hw]; exact Heap.get?_push_size _ rfl) ?_
   unfold rangeL
   rw [List.map_map]
   rfl
 | ref l i=>
  refine hx.ref_e fun a h1 h2=>?_
  ·obtain ⟨vs,e,rfl⟩:=obj_list (o:=st.obj l i) (f:=fun u_=>It.ref l i 0) h
   obtain ⟨items,n,h3,h4⟩:=ok.objs _ _ _ _ e h2
   refine wpAny_pyIter_list (isList_of h3) (key _ rfl fun w hw hA le=>?_)
   exact .ref (p:=0) ⟨_,by rw [hw]; exact Heap.get?_push_size _ rfl,rfl,rfl⟩ h1 (by rw [hA]; exact h2)
 | _=>cases h
theorem mkEn_sound (ok:Ok B lay P nl A st s) {v:Value} {x:V} {vs:List V} {it:It} (hx:Rel (wd lay A P s.heap) (nl - 1) v x) (hv:seqOf st x = some vs) (h:mkIt st x = some it) :
  wpAny (model B.prog B.w) Ar (call (.type "enumerate") [v]) (fun r s1=>wpAny (model B.prog B.w) Ar (pyIter r) (Made0 B lay P nl A s st (.en 0 it)) E s1) E s:=by
 obtain ⟨a,items,n,rfl,hg,hr⟩:=seqOf_rel ok hx hv
 refine call_enumerate_list (isList_of hg) fun h' he hi hz hk=>?_
 refine wpAny_pyIter_enum he ?_
 have fr:∀ b ∈ [s.heap.objs.size + 1,s.heap.objs.size],s.heap.get? b = none:=fun b m=>by
  rcases List.mem_cons.mp m with rfl | m
  ·exact Heap.get?_none_of_le (Nat.le_succ _)
  ·rw [List.mem_singleton.mp m]; exact Heap.get?_none_of_le (Nat.le_refl _)
 have lv:∀ b ∈ [s.heap.objs.size + 1,s.heap.objs.size],∃ o,h'.get? b = some o:=fun b m=>by
  rcases List.mem_cons.mp m with rfl | m
  ·exact ⟨_,he⟩
  ·rw [List.mem_singleton.mp m]; obtain ⟨o,ho,_⟩:=hi; exact ⟨o,ho⟩
 have ok':=ok.guard (tk:=s.toks) _ fr hk lv
 have le:=guard_le (lay:=lay) (A:=A) (P:=P) _ fr hk (nl - 1)
 refine ⟨_,[s.heap.objs.size + 1,s.heap.objs.size],A,rfl,(ok.grow (tk:=s.toks) hk).2,fr,ok',?_⟩
 have hne:s.heap.objs.size + 1 ≠ s.heap.objs.size:=Nat.succ_ne_self _
 cases x with
 | lst us=>
  cases hx with
  | @lst _ items' n' _ h1 h2 h3=>
   cases h
   exact .enList (i:=0) (old:=.none) (by simpa using he) hne hi (fun q=>h1 (le.avoid _ _ h2 q)) ((le.keep _ _ h2 h1).at (nd_of rfl)) (by rw [List.drop_zero]; exact h3.mono le (Nat.le_refl _))
 | ref l i=>
  cases hx with
  | ref h1 h2=>
   obtain ⟨vs,e,rfl⟩:=obj_list (o:=st.obj l i) (f:=fun u_=>It.ref l i 0) h
   exact .enRef (p:=0) (old:=.none) (by simpa using he) hne hi h1 h2
 | _=>cases hv
theorem enIt_sound (ok:Ok B lay P nl A st s) {v:Value} {x:V} {it:It} (hx:Rel (wd lay A P s.heap) (nl - 1) v x) (h:enIt st x = some it) :
  wpAny (model B.prog B.w) Ar (call (.type "enumerate") [v]) (fun r s1=>wpAny (model B.prog B.w) Ar (pyIter r) (Made0 B lay P nl A s st it) E s1) E s:=by
 have old:∀ {x:V} {it:It},Rel (wd lay A P s.heap) (nl - 1) v x->(match seqOf st x,mkIt st x with | some _,some it=>some (It.en 0 it) | _,_=>none) = some it->
   wpAny (model B.prog B.w) Ar (call (.type "enumerate") [v]) (fun r s1=>wpAny (model B.prog B.w) Ar (pyIter r) (Made0 B lay P nl A s st it) E s1) E s:=fun {x it} hx h=>by
  split at h
  ·cases h; exact mkEn_sound ok hx ‹_› ‹_›
  ·cases h
 cases x with
 | bytes b=>
  simp only [enIt] at h
  split at h
  ·rename_i hl
   cases h
   cases hx
   refine call_enumerate_bytes fun h' he hi hz hk=>?_
   refine wpAny_pyIter_enum he ?_
   have hne:s.heap.objs.size + 1 ≠ s.heap.objs.size:=Nat.succ_ne_self _
   have fr:∀ b ∈ [s.heap.objs.size + 1,s.heap.objs.size],s.heap.get? b = none:=fun b m=>by
    rcases List.mem_cons.mp m with rfl | m
    ·exact Heap.get?_none_of_le (Nat.le_succ _)
    ·rw [List.mem_singleton.mp m]; exact Heap.get?_none_of_le (Nat.le_refl _)
   have ok':=ok.guard (tk:=s.toks) [s.heap.objs.size + 1,s.heap.objs.size] fr hk (fun b m=>by
    rcases List.mem_cons.mp m with rfl | m
    ·exact ⟨_,he⟩
    ·rw [List.mem_singleton.mp m]; obtain ⟨o,ho,_⟩:=hi; exact ⟨o,ho⟩)
   exact ⟨_,[s.heap.objs.size + 1,s.heap.objs.size],A,rfl,(ok.grow (tk:=s.toks) hk).2,fr,ok',.enInt (i:=0) (old:=.none) (by simpa using he) hne (.bytes (Nat.zero_le _) rfl hi) (by rw [List.drop_zero])⟩
  ·cases h
 | _=>exact old hx h
end
section
variable {P:Pg} {st st1:St}
theorem star_one {a:PySem.Expr} (h:(parts a).tag ≠ 0) (p:Pos) (env:Env):backTo p (starEach [a] env) = [(false,eval a env)]:=by
 cases a with
 | Starred _ _=>exact absurd rfl h
 | _=>rfl
theorem fold_no {a:PySem.Expr} (h:(parts a).tag ≠ 0) (env:Env) (x:Value):foldedSetIterable a env x = pure x:=by
 cases a with
 | Set _ _ _=>exact absurd rfl h
 | _=>rfl
theorem Cf.call1 {c:Cf P} {n e m x v A s} {F:Value->Shared->Prop} {Q:Value->Shared->Prop} (h:glCall c.cx.gl v (parts e) (fun as=>all2 (cmp c.H n c.cx) as [m]) = true) (h1:E P m st x st1) (ok:c.Ok A st s)
  (k:∀ u A1 s1,Go c.lay A A1 s s1->c.Ok A1 st1 s1->c.Rel A1 s1 u x->Keep s1 v /\ c.W (call v [u] []) Q F s1):c.W (eval e c.env) Q F s:=by
 refine glCall_t h fun y p as q hg ha=>?_
 obtain ⟨a,_,rfl,ha1,hn⟩:=all2_cons ha
 cases all2_nil hn
 refine wpAny_Call_Name_kw (load_glob ok hg ?_)
 rw [star_one (cmp_tag ha1)]
 exact callWith_any rfl (Calls.evalArgs_plain (Calls.spliced_cons (Cf.go (h1.at ha1) ok fun u s1 A1 g1 ok1 r1=>Calls.spliced_nil (k u A1 s1 g1 ok1 r1))))
theorem keep_ty {s:Shared} {T:String}:Keep s (.type T):=.inl fun u_ q=>(nomatch q)
noncomputable abbrev Cf.Iter (c:Cf P) (A:List (List Addr)) (s:Shared) (st1:St) (it:It) (F:Value->Shared->Prop) (x:Value) (s1:Shared):Prop:=c.W (pyIter x) (Made0 c.B c.lay c.Q c.nl A s st1 it) F s1
noncomputable def encTgt (i:MI) (it:It):Prop:=match it with | .en _ _=>∃ j,i = .enum j | _=>True
theorem tgt_ok {i:MI} {it:It} {t:PySem.Expr} (h:encTgt i it) (hc:encOk i t = true):tgtOk it t:=by
 cases it with
 | en k it=>
  obtain ⟨j,rfl⟩:=h
  exact ⟨_,_,_,(build_parts t).symm.trans (build_14 (dec_t hc))⟩
 | _=>trivial
theorem enc_enum {j:MI}:∀ {it:It},encTgt (.enum j) it
 | .en _ _=>⟨j,rfl⟩
 | .seq _=>trivial
 | .ref _ _ _=>trivial
theorem plain_it {st:St} {v:V} {it:It} (h:mkIt st v = some it) (i:MI):encTgt i it:=by
 cases v with
 | lst _=>cases h; trivial
 | tup _=>cases h; trivial
 | bytes _=>cases h; trivial
 | rng a b c=>
  obtain ⟨_,h⟩:=if_some (show (if Builtin.Range.small a b c then some (It.seq ((rangeL a b c).map .int)) else none) = some it from h)
  cases h; trivial
 | ref l k=>
  obtain ⟨vs,e,rfl⟩:=obj_list (o:=st.obj l k) (f:=fun u_=>It.ref l k 0) h
  trivial
 | _=>cases h
noncomputable def I (P:Pg) (m:MI) (st:St) (it:It) (st':St):Prop:=encTgt m it /\ ∀ (c:Cf P) n e,cmpI (cmp c.H n c.cx) c.cx.gl e m = true->(∀ x,foldedSetIterable e c.env x = pure x) /\ ∀ A s F,c.Ok A st s->c.W (eval e c.env) (c.Iter A s st' it F) F s
theorem Cf.Iter.lift {c:Cf P} {A A1 s s1 st1 it F x s2} (g:Go c.lay A A1 s s1) (h:c.Iter A1 s1 st1 it F x s2):c.Iter A s st1 it F x s2:=wpAny_mono h (fun u_ u_ q=>q.lift g) fun u_ u_ e=>e
theorem cmpI_enum {f gl e m}:cmpI f gl e (.enum (.val m)) = glCall gl (.type "enumerate") (parts e) (fun as=>all2 f as [m]):=rfl
theorem glCall_tag {gl v q k} (h:glCall gl v q k = true):q.tag = 8:=(dec_t (and_t (and_t h).1).1).1
theorem I_val {e v it} (h1:E P e st v st1) (h2:mkIt st1 v = some it):I P (.val e) st it st1:=⟨plain_it h2 _,fun c u_ u_ h=>
 ⟨fold_no (cmp_tag h) _,fun u_ u_ u_ ok=>Cf.go (h1.at h) ok fun u_ u_ u_ g1 ok1 r1=>Cf.Iter.lift g1 (mkIt_sound ok1 r1 h2)⟩⟩
theorem I_enum {e v it} (h1:E P e st v st1) (h2:enIt st1 v = some it):I P (.enum (.val e)) st it st1:=⟨enc_enum,fun c u_ u_ h=>
 have h:=cmpI_enum.symm.trans h
 ⟨fold_no (fun q=>(nomatch (glCall_tag h).symm.trans q)) _,fun u_ u_ u_ ok=>Cf.call1 h h1 ok fun u_ u_ u_ g1 ok1 r1=>⟨keep_ty,wpAny_mono (enIt_sound ok1 r1 h2) (fun u_ u_ q=>Cf.Iter.lift g1 q) fun u_ u_ e=>e⟩⟩⟩
end
end
section
noncomputable def setMany (ρ:List (Option V)) (l:List (Nat × V)):List (Option V):=l.foldl (fun ρ p=>ρ.set p.1 (some p.2)) ρ
section
variable {P:Pg} {st st1 st2 st3:St}
theorem store_sound {c:Cf P} {A:List (List Addr)} {s:Shared} {F:Value->Shared->Prop} (ok:c.Ok A st s) {x:Str} {i:Nat} (hx:c.cx.res x = some i) {v:Value} {z:V} (hv:c.Rel A s v z) :
  c.W (storeName c.env x v) (c.Po A s { st with ρ:=st.ρ.set i (some z) } () RU) F s:=by
 rcases c.eo.var x i hx with ⟨k,l⟩ | ⟨k,a,hc,l⟩
 ·obtain ⟨m,h1,_⟩:=ok.slots i _ l
  refine wpAny_storeName_local k h1 (fun h' hn hs=>?_) (by rw [c.eo.kind]; rfl)
  obtain ⟨ok',g⟩:=ok.setDict (tk:=s.toks + 1) l h1 hn hs (.some hv)
  exact ⟨A,g,ok',trivial⟩
 ·obtain ⟨cv,h1,_⟩:=ok.slots i _ l
  have fin:∀ h',h'.IsCell a (some v)->Heap.SameBut a s.heap h'->c.Po A s { st with ρ:=st.ρ.set i (some z) } () RU () { s with heap:=h' }:=fun h' hn hs=>
   let ⟨ok',g⟩:=ok.setCell (tk:=s.toks) l hn hs hv
   ⟨A,g,ok',trivial⟩
  rcases k with k | k
  ·exact wpAny_storeName_cell c.eo.kind k hc h1 fin
  ·delta storeName
   simp only [k,c.eo.kind]
   exact wpAny_bind (wpAny_cellOf hc (wpAny_cellSet h1 fin))
noncomputable def As (P:Pg) (_:Nat) (p:MPat) (z:V) (st st':St):Prop:=
 ((∀ i,p = .slot i->st' = { st with ρ:=st.ρ.set i (some z) }) /\ (∀ l:List Nat,p = .tup (l.map .slot)->∃ zs,z = .tup zs /\ zs.length = l.length /\ st' = { st with ρ:=setMany st.ρ (l.zip zs) })) /\
 ∀ (c:Cf P) n d e,cmpP (cmp c.H n c.cx) c.cx.res d e p = true->∀ A s F v,c.Ok A st s->c.Rel A s v z->c.W (assign e c.env v) (c.Po A s st' () RU) F s
@[elab_as_elim] theorem cmpP_slot {f:PySem.Expr->ME->Bool} {res:Str->Option Nat} {d i e} {R:PySem.Expr->Prop} (h:cmpP f res d e (.slot i) = true) (K:∀ x p,res x = some i->R (.Name x p)):R e:=by
 cases d with
 | zero=>exact (Bool.false_ne_true h).elim
 | succ d=>exact built (build_2 (dec_t (and_t h).1)) (K _ _ (dec_t (and_t h).2))
@[elab_as_elim] theorem cmpP_tup {f:PySem.Expr->ME->Bool} {res:Str->Option Nat} {d ps e} {R:PySem.Expr->Prop} (h:cmpP f res d e (.tup ps) = true) (K:∀ d es n p,all2 (cmpP f res d) es ps = true->R (.Tuple es n p)):R e:=by
 cases d with
 | zero=>exact (Bool.false_ne_true h).elim
 | succ d=>exact built (build_14 (dec_t (and_t h).1)) (K _ _ _ _ (and_t h).2)
@[elab_as_elim] theorem cmpP_sub {f:PySem.Expr->ME->Bool} {res:Str->Option Nat} {d o i e} {R:PySem.Expr->Prop} (h:cmpP f res d e (.sub o i) = true) (K:∀ o' i' p,f o' o = true->f i' i = true->R (.Subscript o' i' p)):R e:=by
 cases d with
 | zero=>exact (Bool.false_ne_true h).elim
 | succ d=>exact built (build_11 (dec_t (and_t (and_t h).1).1)) (K _ _ _ (and_t (and_t h).2).1 (and_t (and_t h).2).2)
theorem cmpP_tag {f:PySem.Expr->ME->Bool} {res:Str->Option Nat} {d p e} (h:cmpP f res d e p = true):(parts e).tag ≠ 0:=by
 cases p with
 | slot i=>exact cmpP_slot (R:=fun e=>(parts e).tag ≠ 0) h fun u_ u_ u_ q=>nomatch q
 | tup ps=>exact cmpP_tup (R:=fun e=>(parts e).tag ≠ 0) h fun u_ u_ u_ u_ u_ q=>nomatch q
 | sub o i=>exact cmpP_sub (R:=fun e=>(parts e).tag ≠ 0) h fun u_ u_ u_ u_ u_ q=>nomatch q
theorem As_slot {d i v} (_:i < st.ρ.length):As P (d + 1) (.slot i) v st { st with ρ:=st.ρ.set i (some v) }:=
 ⟨⟨fun u_ e=>by cases e; rfl,fun u_ e=>nomatch e⟩,fun u_ u_ u_ u_ h u_ u_ u_ u_ ok hv=>cmpP_slot h fun u_ u_ hx=>wpAny_assign_Name (store_sound ok hx hv)⟩
theorem As_sub {d o i ov iv v} (h1:E P o st ov st1) (h2:E P i st1 iv st2) (h3:setItemV st2 ov iv v = some st3):As P (d + 1) (.sub o i) v st st3:=
 ⟨⟨fun u_ e=>(nomatch e),fun u_ e=>nomatch e⟩,fun c u_ u_ u_ h u_ u_ u_ u_ ok hv=>cmpP_sub h fun u_ u_ u_ ho hi=>by
  rw [assign_Subscript]
  refine wpAny_bind (wpAny_holding (Cf.go (h1.at ho) ok fun ov' s1 A1 g1 ok1 r1=>wpAny_bind (wpAny_holding (Cf.go (h2.at hi) ok1 fun iv' s2 A2 g2 ok2 r2=>wpAny_bind (wpAny_standAt (wpAny_bind (wpAny_holding ?_)))))))
  have g12:=g1.trans g2
  exact Cf.use (setItemV_sound ok2 (Cf.Rel.go r1 g2) r2 (Cf.Rel.go hv g12) h3) fun u_ u_ A3 g3 ok3 u_=>wpAny_release ⟨A3,g12.trans g3,ok3,trivial⟩⟩
theorem assignEach_of {f:PySem.Expr->ME->Bool} {res:Str->Option Nat} {env:Env} {d:Nat}:∀ {es:List PySem.Expr} {ps:List MPat},all2 (cmpP f res d) es ps = true->
  (assignEach es env).findIdx? (·.1) = none /\ (assignEach es env).map (·.2) = es.map (fun e=>assign e env)
 | [],_,_=>⟨rfl,rfl⟩
 | _ :: _,[],h=>(Bool.false_ne_true h).elim
 | e :: es,p :: ps,h=>by
  obtain ⟨q2,q3⟩:=assignEach_of (env:=env) (and_t h).2
  have he:assignEach (e :: es) env = (false,assign e env) :: assignEach es env:=by
   have:=cmpP_tag (and_t h).1
   cases e with
   | Starred _ _=>exact absurd rfl this
   | _=>rfl
  rw [he]
  exact ⟨by rw [List.findIdx?_cons,q2]; rfl,congrArg (assign e env :: ·) q3⟩
noncomputable def AsL (P:Pg) (d:Nat) (ps:List MPat) (xs:List V) (st st':St):Prop:=
 (ps.length = xs.length /\ ∀ l:List Nat,ps = l.map .slot->st' = { st with ρ:=setMany st.ρ (l.zip xs) }) /\
 ∀ (c:Cf P) n d es,all2 (cmpP (cmp c.H n c.cx) c.cx.res d) es ps = true->∀ A s F items,c.Ok A st s->RelL (c.wd A s.heap) (c.nl - 1) items xs->c.W (assignInOrder (es.map fun e=>assign e c.env) items) (c.Po A s st' () RU) F s
theorem AsL_nil {d}:AsL P d [] [] st st:=⟨⟨rfl,fun l e=>by cases l with | nil=>rfl | cons _ _=>cases e⟩,fun c u_ u_ es h A s F items ok hr=>by
 obtain rfl:=all2_nil h
 exact hr.nil_e (wpAny_pure ⟨A,.refl,ok,trivial⟩)⟩
theorem AsL_cons {d p x ps xs} (h1:As P d p x st st1) (h2:AsL P d ps xs st1 st2):AsL P d (p :: ps) (x :: xs) st st2:=
 ⟨⟨congrArg (· + 1) h2.1.1,fun l e=>by
  cases l with
  | nil=>cases e
  | cons i l=>
   obtain ⟨e1,e2⟩:=List.cons.inj e
   rw [h2.1.2 l e2,h1.1.1 i e1]
   rfl⟩,fun c n d es h A s F items ok hr=>by
  obtain ⟨e,es,rfl,k1,k2⟩:=all2_cons h
  refine RelL.cons_e (R:=fun items=>c.W (assignInOrder ((e :: es).map fun e=>assign e c.env) items) (c.Po A s st2 () RU) F s) hr fun v vs r1 r2=>?_
  exact wpAny_bind (wpAny_holding (Cf.use (h1.2 c n d e k1 _ _ F v ok r1) fun u_ s2 A2 g2 ok2 u_=>Cf.end g2 (h2.2 c n d es k2 A2 s2 F vs ok2 (RelL.go r2 g2))))⟩
theorem As_tup {d ps xs} (h:AsL P d ps xs st st1):As P (d + 1) (.tup ps) (.tup xs) st st1:=
 ⟨⟨fun u_ e=>(nomatch e),fun l e=>by
  cases e
  exact ⟨xs,rfl,by rw [<- h.1.1,List.length_map],h.1.2 l rfl⟩⟩,fun c n u_ u_ hc A s F v ok hv=>cmpP_tup hc fun d es u_ u_ ha=>by
  obtain ⟨q2,q3⟩:=assignEach_of (env:=c.env) ha
  refine hv.tup_e fun a items m u_ g2 g3=>?_
  refine wpAny_assign_Tuple c.ao.handled (isTuple_of g2) ?_ q2 fun h' hx=>?_
  ·have:=congrArg List.length q3
   rw [List.length_map,List.length_map] at this
   rw [this,List.size_toArray,g3.length,<- h.1.1,all2_len ha]
  ·rw [q3]
   obtain ⟨ok1,g1⟩:=ok.grow (tk:=s.toks) (fun b o e=>hx b o (Nat.ne_of_lt (Heap.lt_size e)) e)
   exact Cf.end' g1 (h.2 c n d es ha A _ F items ok1 (RelL.go g3 g1))⟩
theorem As_tup2 {d p q x y} (h1:As P d p x st st1) (h2:As P d q y st1 st2):As P (d + 1) (.tup [p,q]) (.tup [x,y]) st st2:=As_tup (AsL_cons h1 (AsL_cons h2 AsL_nil))
end
end
section
structure GoX (X:Addr->Prop) (lay:List Loc) (A A':List (List Addr)) (s s':Shared):Prop where
 keep:∀ b o,s.heap.get? b = some o->¬ Tch lay A b->¬ X b->Kp s'.heap b o
 live:∀ b o,s.heap.get? b = some o->¬ X b->∃ o',s'.heap.get? b = some o'
 same:∀ l i a,look A l i = some a->look A' l i = some a
 new:∀ l i a,look A' l i = some a->look A l i = some a ∨ s.heap.get? a = none ∨ X a
 rest:s'.gens = s.gens /\ s'.drawn = s.drawn /\ s'.os = s.os
theorem Go.toX {X:Addr->Prop} {lay A A' s s'} (g:Go lay A A' s s'):GoX X lay A A' s s':=
 ⟨fun b o e h u_=>g.keep b o e h,fun b o e u_=>g.live b o e,g.same,fun l i a e=>(g.new l i a e).imp id .inl,g.rest⟩
theorem GoX.tch {X:Addr->Prop} {lay A A' s s'} (g:GoX X lay A A' s s') {b o} (e:s.heap.get? b = some o) (hx:¬ X b) (h:Tch lay A' b):Tch lay A b:=by
 rcases h with h | ⟨l,i,h⟩
 ·exact .inl h
 ·rcases g.new l i b h with h | h | h
  ·exact .inr ⟨l,i,h⟩
  ·rw [e] at h; cases h
  ·exact absurd h hx
theorem GoX.fresh {X Y:Addr->Prop} {lay A A' A'' s s' s''} (g:GoX Y lay A A' s s') (k:GoX X lay A' A'' s' s'') (h:∀ b o,s.heap.get? b = some o->X b->Y b):GoX Y lay A A'' s s'' where
 keep b o e t y:=(g.keep b o e t y).then fun o' e'=>k.keep b o' e' (fun h'=>t (g.tch e y h')) (fun x=>y (h b o e x))
 live b o e y:=let ⟨o',e'⟩:=g.live b o e y; k.live b o' e' (fun x=>y (h b o e x))
 same l i a e:=k.same l i a (g.same l i a e)
 new l i a e:=by
  rcases k.new l i a e with e | e | e
  ·exact g.new l i a e
  ·cases h1:s.heap.get? a with
   | none=>exact .inr (.inl rfl)
   | some o=>
    by_cases y:Y a
    ·exact .inr (.inr y)
    ·obtain ⟨o',h'⟩:=g.live a o h1 y; rw [e] at h'; cases h'
  ·cases h1:s.heap.get? a with
   | none=>exact .inr (.inl rfl)
   | some o=>exact .inr (.inr (h a o h1 e))
 rest:=⟨k.rest.1.trans g.rest.1,k.rest.2.1.trans g.rest.2.1,k.rest.2.2.trans g.rest.2.2⟩
theorem GoX.trans {X:Addr->Prop} {lay A A' A'' s s' s''} (g:GoX X lay A A' s s') (k:GoX X lay A' A'' s' s''):GoX X lay A A'' s s'':=g.fresh k fun u_ u_ u_ x=>x
theorem GoX.mono {X Y:Addr->Prop} {lay A A' s s'} (g:GoX X lay A A' s s') (h:∀ b,X b->Y b):GoX Y lay A A' s s':=
 ⟨fun b o e t y=>g.keep b o e t (fun x=>y (h b x)),fun b o e y=>g.live b o e (fun x=>y (h b x)),g.same,fun l i a e=>(g.new l i a e).imp id (Or.imp id (h a)),g.rest⟩
theorem GoX.le2 {X:Addr->Prop} {lay A A' s s'} (g:GoX X lay A A' s s') {P P':Addr->Prop} (hx:∀ b,X b->P b) (hp:∀ b,P' b->P b) (lv:Nat):Wd.Le lv (wd lay A P s.heap) (wd lay A' P' s'.heap) where
 keep b o e h:=g.keep b o e (fun h'=>h (.inl h')) (fun x=>h (.inr (hx b x)))
 avoid b o e h:=by
  by_cases q:X b
  ·exact .inr (hx b q)
  ·rcases h with h | h
   ·exact .inl (g.tch e q h)
   ·exact .inr (hp b h)
 same l i a _ e:=g.same l i a e
theorem GoX.le {X:Addr->Prop} {lay A A' s s'} (g:GoX X lay A A' s s') {P:Addr->Prop} (hx:∀ b,X b->P b) (lv:Nat):Wd.Le lv (wd lay A P s.heap) (wd lay A' P s'.heap):=g.le2 hx (fun u_ h=>h) lv
theorem GoX.toGo {X:Addr->Prop} {lay A A' s s'} (g:GoX X lay A A' s s') (h:∀ b,X b->s.heap.get? b = none):Go lay A A' s s':=by
 have h':∀ b o,s.heap.get? b = some o->¬ X b:=fun b o e x=>by rw [h b x] at e; cases e
 exact ⟨fun b o e t=>g.keep b o e t (h' b o e),fun b o e=>g.live b o e (h' b o e),g.same,fun l i a e=>by
  rcases g.new l i a e with q | q | q
  ·exact .inl q
  ·exact .inr q
  ·exact .inr (h a q),g.rest⟩
section
variable {B:Base} {env:Env} {lay:List Loc} {P:Addr->Prop} {nl:Nat} {Ar:Around} {A A':List (List Addr)} {st:St} {s s':Shared} {E:Value->Shared->Prop}
theorem ItRep.goX (ok:Ok B lay P nl A st s) {X:Addr->Prop} {I:Addr} {wr:List Addr} {it:It} {lv:Nat} (hw:∀ b ∈ wr,P b) (hx:∀ b,X b->P b) (hxw:∀ b ∈ wr,¬ X b) (g:GoX X lay A A' s s') (h:ItRep (wd lay A P s.heap) lv I wr it):ItRep (wd lay A' P s'.heap) lv I wr it:=by
 have kp:∀ b,b ∈ wr->∀ o,s.heap.get? b = some o->s'.heap.get? b = some o:=fun b m o e=>(g.keep b o e (ok.disP b (hw b m)) (hxw b m)).at (h.nf b m o e)
 have le:=g.le hx lv
 cases h with
 | list h1 h2 h3 h4=>exact .list (h1.at (kp _ (.head _))) (fun q=>h2 (le.avoid _ _ h3 q)) ((le.keep _ _ h3 h2).at (nd_of rfl)) (h4.mono le (Nat.le_refl _))
 | tuple h1 h2 h3 h4=>exact .tuple (h1.at (kp _ (.head _))) (fun q=>h2 (le.avoid _ _ h3 q)) ((le.keep _ _ h3 h2).at (nd_of rfl)) (h4.mono le (Nat.le_refl _))
 | range h1 h2=>exact .range (kp _ (.head _) _ h1) h2
 | bytes h1 h2=>obtain ⟨o,ho,r⟩:=h1; exact .bytes ⟨o,kp _ (.head _) _ ho,r⟩ h2
 | ref h1 h2 h3=>exact .ref (h1.at (kp _ (.head _))) h2 (g.same _ _ _ h3)
 | enList h1 h0 h2 h3 h4 h5=>exact .enList (kp _ (.head _) _ h1) h0 (h2.at (kp _ (.tail _ (.head _)))) (fun q=>h3 (le.avoid _ _ h4 q)) ((le.keep _ _ h4 h3).at (nd_of rfl)) (h5.mono le (Nat.le_refl _))
 | enInt h1 h0 h2 h3=>exact .enInt (kp _ (.head _) _ h1) h0 (h2.at (kp _ (.tail _ (.head _)))) h3
 | enRef h1 h0 h2 h3 h4=>exact .enRef (kp _ (.head _) _ h1) h0 (h2.at (kp _ (.tail _ (.head _)))) h3 (g.same _ _ _ h4)
theorem pyIter_self {w:Wd} {lv:Nat} {I:Addr} {wr:List Addr} {it:It} (h:ItRep w lv I wr it) (hw:w.h = s.heap) {Q:Value->Shared->Prop} (hq:Q (.ref I) s):wpAny (model B.prog B.w) Ar (pyIter (.ref I)) Q E s:=by
 cases h with
 | list h1=>rw [hw] at h1; exact wpAny_pyIter_listiter h1 hq
 | tuple h1=>rw [hw] at h1; exact wpAny_pyIter_tupleiter h1 hq
 | range h1=>rw [hw] at h1; exact wpAny_pyIter_rangeiter h1 hq
 | bytes h1=>rw [hw] at h1; exact KBw.pyIter_self h1 hq
 | ref h1=>rw [hw] at h1; exact wpAny_pyIter_listiter h1 hq
 | enList h1=>rw [hw] at h1; exact wpAny_pyIter_enum h1 hq
 | enInt h1=>rw [hw] at h1; exact wpAny_pyIter_enum h1 hq
 | enRef h1=>rw [hw] at h1; exact wpAny_pyIter_enum h1 hq
theorem compStart_sound {elt:PySem.Expr} {gens:List Comprehension} {scope:Scope} {pos:Pos} {depth:Nat} {acc:Value} {R:Result->Shared->Prop} {t i:PySem.Expr} {ifs:List PySem.Expr}
  (hg:gens[depth]? = some ⟨t,i,ifs,0⟩) {w:Wd} {lv:Nat} {I:Addr} {wr:List Addr} {it:It} (hi:ItRep w lv I wr it) (hw:w.h = s.heap)
  (h:codeAny (model B.prog B.w) Ar (.compLoop (.ListComp elt gens scope pos) depth (.ref I) acc env) R s) :
  codeAny (model B.prog B.w) Ar (.compStart (.ListComp elt gens scope pos) depth (.ref I) acc env) R s:=by
 refine codeAny_of_tree ?_
 show wpAny _ Ar ((compStart (.ListComp elt gens scope pos) depth (.ref I) acc env).onRaise (fun x=>do noteFrame x env; standAt theWindowsPlace)) _ _ s
 refine wpAny_onRaise ?_
 unfold compStart
 have e1:(((clausesOf (.ListComp elt gens scope pos))[depth]?).elim false fun x=>x.is_async != 0) = false:=by
  show ((gens[depth]?).elim false fun x=>x.is_async != 0) = false
  rw [hg]; rfl
 rw [e1,if_neg Bool.false_ne_true]
 refine wpAny_bind (wpAny_askSetting ?_)
 have fin:wpAny (model B.prog B.w) Ar (again (.compLoop (.ListComp elt gens scope pos) depth (.ref I) acc env)) (fun fin s'=>match fin with | .done f=>R (.ok f) s' | .again c'=>c'.quiet = true /\ codeAny (model B.prog B.w) Ar c' R s')
   (fun e s'=>wpAny (model B.prog B.w) Ar (do noteFrame e env; standAt theWindowsPlace) (fun u_ s''=>R (.error e) s'') (fun e s'=>R (.error e) s') s') s:=wpAny_pure ⟨rfl,h⟩
 split
 ·exact fin
 ·refine wpAny_bind (wpAny_rule ?_)
  have e2:(clausesOf (.ListComp elt gens scope pos))[depth]? = some ⟨t,i,ifs,0⟩:=hg
  rw [e2]
  refine wpAny_bind (wpAny_standAt ?_)
  exact wpAny_bind (pyIter_self hi hw fin)
noncomputable def CPost (B:Base) (lay:List Loc) (P:Addr->Prop) (nl:Nat) (X:Addr->Prop) (A:List (List Addr)) (s:Shared) (acc:Addr) (items:List Value) (st':St) (vs:List V) (r:Result) (s':Shared):Prop:=
 r = .ok .next /\ ∃ A' its k,GoX X lay A A' s s' /\ Ok B lay P nl A' st' s' /\ s'.heap.get? acc = some (LObj (items ++ its).toArray k) /\ RelL (wd lay A' P s'.heap) (nl - 1) its vs
theorem Ok.forget (wr:List Addr) (ok:Ok B lay (fun b=>P b ∨ b ∈ wr) nl A st s) (hw:∀ b ∈ wr,¬ P b) (sp:Stepped wr s s') (hd:∀ b ∈ wr,b ∉ B.frs):Ok B lay P nl A st s':=by
 have hn:∀ b,¬ Avd lay A (fun b=>P b ∨ b ∈ wr) b->b ∉ wr:=fun b h m=>h (.inr (.inr m))
 have ht:∀ b,Tch lay A b->b ∉ wr:=fun b h m=>ok.disP b (.inr m) h
 have ha:∀ b,Avd lay A P b->Avd lay A (fun b=>P b ∨ b ∈ wr) b:=fun b h=>h.imp id .inl
 have le:∀ lv,Wd.Le lv (wd lay A (fun b=>P b ∨ b ∈ wr) s.heap) (wd lay A P s'.heap):=fun lv=>⟨fun b o e h=>.of (sp.keep b o (hn b h) e),fun b u_ u_ h=>ha b h,fun u_ u_ u_ u_ e=>e⟩
 exact {
  base:=fun b o e=>sp.keep b o (hn b (ok.baseM b o e)) (ok.base b o e)
  baseM:=fun b o e h=>ok.baseM b o e (ha b h)
  frs:=fun L m=>let ⟨o,es,ep,h1,h2⟩:=ok.frs L m; ⟨o,es,ep,sp.keep _ _ (fun q=>hd L q m) h1,h2⟩
  len:=ok.len
  slots:=fun i l e=>slot_apart (le _) (fun q h=>sp.keep _ _ (ht _ (.inl ⟨l,List.mem_of_getElem? e,rfl⟩)) h) (ok.slots i l e)
  sep:=ok.sep
  lenA:=ok.lenA
  dimA:=ok.dimA
  objs:=fun l i o a h1 h2=>rep_apart (le _) (fun q h=>sp.keep _ _ (ht _ (.inr ⟨l,i,h2⟩)) h) (ok.objs l i o a h1 h2) fun b u_ u_ h=>ha b h
  inj:=ok.inj
  layA:=ok.layA
  disP:=fun b h=>ok.disP b (.inl h)
  alive:=fun b h=>by
   have:b ∉ wr:=by
    rcases h with h | h
    ·exact ht b h
    ·exact fun m=>hw b m h
   obtain ⟨o,e⟩:=ok.alive b (ha b h)
   exact ⟨o,sp.keep b o this e⟩
  rlen:=ok.rlen
  lvl:=ok.lvl }
theorem tgt_next {it it':It} {x:V} {t:PySem.Expr} (h:it.next st = some (some (x,it'))) (ht:tgtOk it t):tgtOk it' t:=by
 cases it with
 | seq vs=>
  cases vs with
  | nil=>cases h
  | cons v vs=>cases h; trivial
 | ref l i p=>
  obtain ⟨_,_,_,e⟩:=next_refS h
  subst e; trivial
 | en k it=>
  obtain ⟨_,_,_,_,e⟩:=next_enS h
  subst e; exact ht
end
noncomputable def emitL (e:PySem.Expr) (acc:Value) (env:Env):Sem Unit:=do let _ <- call (.builtin "list.append") [acc,<- eval e env]
noncomputable def turnK (e:PySem.Expr) (gens:List Comprehension) (scope:Scope) (pos:Pos) (depth:Nat) (it acc:Value) (env:Env) (ok:Bool):Sem Fin:=
 if ok = true then (match gens[depth + 1]? with
  | some g'=>do
   let x <- eval g'.iter env
   standAt g'.iter.pos
   let x <- if g'.is_async != 0 then foldedIterable g'.iter x else foldedSetIterable g'.iter env x
   let _ <- runOwn (.compStart (.ListComp e gens scope pos) (depth + 1) (<- holding [x] (if g'.is_async != 0 then asyncIter x else pyIter x)) acc env) env
   again (.compLoop (.ListComp e gens scope pos) depth it acc env)
  | none=>do
   emitL e acc env
   again (.compLoop (.ListComp e gens scope pos) depth it acc env))
 else again (.compLoop (.ListComp e gens scope pos) depth it acc env)
theorem compTurn_list {e:PySem.Expr} {gens:List Comprehension} {scope:Scope} {pos:Pos} {depth:Nat} {it acc:Value} {env:Env} {t i:PySem.Expr} {ifs:List PySem.Expr} (hg:gens[depth]? = some ⟨t,i,ifs,0⟩) :
  compTurn (.ListComp e gens scope pos) depth it acc env = (do
   standAt i.pos
   match <- pyNext it with
   | none=>pure (.done .next)
   | some v=>do
    letOwnedTupleGo t it v
    assign t env v
    let ok <- ifsC ifs env
    turnK e gens scope pos depth it acc env ok):=by
 unfold compTurn
 dsimp only
 rw [hg]
 rfl
end
section
theorem drop_get {α:Type} {xs:List α} {i:Nat} {x:α} {ys:List α} (h:xs.drop i = x :: ys):xs[i]? = some x /\ xs.drop (i + 1) = ys:=drop_head h
section
variable {P:Pg}
structure Turn (c:Cf P) (e:PySem.Expr) (elt:ME) (n:Nat) (gens:List Comprehension) (depth:Nat) (p:MPat) (fs:List ME) (cs:List Clause) (t i:PySem.Expr) (ifs:List PySem.Expr) (rest:List Comprehension):Prop where
 he:cmp c.H n c.cx e elt = true
 hd:gens.drop depth = ⟨t,i,ifs,0⟩ :: rest
 hp:cmpP (cmp c.H n c.cx) c.cx.res 4 t p = true
 hf:all2 (cmp c.H n c.cx) ifs fs = true
 hc:cmpCl (cmp c.H n c.cx) c.cx.gl c.cx.res (cmpI (cmp c.H n c.cx) c.cx.gl) rest cs = true
noncomputable abbrev Cf.pw (c:Cf P) (wr:List Addr):Cf P:=c.pr fun b=>c.Q b ∨ b ∈ wr
structure TurnS (c:Cf P) (A:List (List Addr)) (st:St) (s:Shared) (I:Addr) (wr:List Addr) (acc:Addr) (items:List Value) (k:Nat) (it:It):Prop where
 ok:(c.pw wr).Ok A st s
 hi:ItRep ((c.pw wr).wd A s.heap) (c.nl - 1) I wr it
 hg:s.heap.get? acc = some (LObj items.toArray k)
noncomputable abbrev Own (wr:List Addr) (acc:Addr) (b:Addr):Prop:=b ∈ wr ∨ b = acc
noncomputable def CS (P:Pg) (p:MPat) (fs:List ME) (cs:List Clause) (elt:ME) (it:It) (st:St) (vs:List V) (st':St):Prop:=
 ∀ (c:Cf P) e n gens scope pos depth t i ifs rest,Turn c e elt n gens depth p fs cs t i ifs rest->tgtOk it t->∀ A s I wr acc items k,(∀ b ∈ wr,¬ c.Q b)->c.Q acc->TurnS c A st s I wr acc items k it->items.length + vs.length <= lim->
  codeAny (model c.B.prog c.B.w) c.Ar (.compLoop (.ListComp e gens scope pos) depth (.ref I) (.ref acc) c.env) (CPost c.B c.lay c.Q c.nl (Own wr acc) A s acc items st' vs) s
noncomputable def C (P:Pg) (cl:List Clause) (elt:ME) (it:It) (st:St) (vs:List V) (st':St):Prop:=match cl with
 | []=>True
 | .mk p _ fs :: cs=>CS P p fs cs elt it st vs st'
section
variable {c:Cf P} {e:PySem.Expr} {elt:ME} {n:Nat} {gens:List Comprehension} {scope:Scope} {pos:Pos} {depth:Nat} {p:MPat} {fs:List ME} {cs:List Clause} {t i:PySem.Expr} {ifs:List PySem.Expr} {rest:List Comprehension}
 {A:List (List Addr)} {s:Shared} {I:Addr} {wr:List Addr} {acc:Addr} {items:List Value} {k:Nat} {R:Result->Shared->Prop} {st st1 st2:St} {it it':It} {x:V} {b:Bool}
noncomputable def Fin.to (c:Cf P) (R:Result->Shared->Prop) (r:Fin) (s:Shared):Prop:=match r with | .done f=>R (.ok f) s | .again d=>d.quiet = true /\ codeAny (model c.B.prog c.B.w) c.Ar d R s
theorem turn_code (tu:Turn c e elt n gens depth p fs cs t i ifs rest)
  (h:∀ F,c.W (pyNext (.ref I)) (fun r s1=>c.W (match r with
   | none=>pure (.done .next)
   | some v=>do
    letOwnedTupleGo t (.ref I) v
    assign t c.env v
    let ok <- ifsC ifs c.env
    turnK e gens scope pos depth (.ref I) (.ref acc) c.env ok) (Fin.to c R) F s1) F s) :
  codeAny (model c.B.prog c.B.w) c.Ar (.compLoop (.ListComp e gens scope pos) depth (.ref I) (.ref acc) c.env) R s:=by
 refine codeAny_of_tree ?_
 show wpAny _ c.Ar ((compTurn (.ListComp e gens scope pos) depth (.ref I) (.ref acc) c.env).onRaise (fun x=>do noteFrame x c.env; theTreesLotGoes x)) _ _ s
 refine wpAny_onRaise ?_
 rw [compTurn_list (drop_get tu.hd).1]
 exact wpAny_bind (wpAny_standAt (wpAny_bind (wpAny_mono (h _) (fun r s1 h=>by cases r <;> exact h) fun u_ u_ e=>e)))
theorem C_end {P:Pg} {p i ifs cs elt it st} (h0:it.next st = some none):C P (.mk p i ifs :: cs) elt it st [] st:=fun c u_ u_ u_ u_ u_ u_ u_ u_ u_ u_ tu u_ A s I wr acc items k hwP hacc ts u_=>
 turn_code tu fun u_=>wpAny_mono (next_done ts.ok c.ao.handled ts.hi h0) (fun _ _ ⟨hr,sp⟩=>hr ▸ wpAny_pure ⟨rfl,A,[],k,⟨fun b o e u_ x=>.of (sp.keep b o (fun q=>x (.inl q)) e),fun b o e x=>⟨o,sp.keep b o (fun q=>x (.inl q)) e⟩,fun u_ u_ u_ e=>e,fun u_ u_ u_ e=>.inl e,sp.rest⟩,
  ts.ok.forget wr hwP sp (fun b m=>ts.ok.notFr (ts.hi.nf b m)),by rw [List.append_nil]; exact sp.keep acc _ (fun m=>hwP acc m hacc) ts.hg,.nil⟩) fun u_ u_ e=>e
theorem own_at {A' s'} (ok:(c.pw wr).Ok A st s) (hacc:c.Q acc) (g:Go c.lay A A' s s') (hg:s.heap.get? acc = some (LObj items.toArray k)):s'.heap.get? acc = some (LObj items.toArray k):=
 (g.keep acc _ hg (ok.disP acc (.inl hacc))).at (nd_of rfl)
theorem TurnS.go {A' s' st'} (ts:TurnS c A st s I wr acc items k it) (hacc:c.Q acc) (g:Go c.lay A A' s s') (ok:(c.pw wr).Ok A' st' s'):TurnS c A' st' s' I wr acc items k it:=
 ⟨ok,ts.hi.go ts.ok (fun u_ m=>.inr m) g,own_at ts.ok hacc g ts.hg⟩
theorem turn_item (h0:it.next st = some (some (x,it'))) (h1:As P 4 p x st st1) (h2:Ifs P fs st1 b st2) (tu:Turn c e elt n gens depth p fs cs t i ifs rest) (ht:tgtOk it t) (hwP:∀ b ∈ wr,¬ c.Q b) (hacc:c.Q acc) (ts:TurnS c A st s I wr acc items k it)
  (K:∀ A4 s4 F,GoX (Own wr acc) c.lay A A4 s s4->TurnS c A4 st2 s4 I wr acc items k it'->c.W (turnK e gens scope pos depth (.ref I) (.ref acc) c.env b) (Fin.to c R) F s4) :
  codeAny (model c.B.prog c.B.w) c.Ar (.compLoop (.ListComp e gens scope pos) depth (.ref I) (.ref acc) c.env) R s:=by
 refine turn_code tu fun F=>wpAny_mono (next_item (E:=F) ts.ok c.ao.handled (fun u_ m=>.inr m) ts.hi h0 ht) (fun r s1 ⟨v,hr,hv⟩=>?_) fun u_ u_ e=>e
 subst hr
 refine wpAny_bind (wpAny_mono hv (fun _ s2 ⟨sp,ok2,r2,hi2⟩=>?_) fun u_ u_ e=>e)
 have gx2:GoX (Own wr acc) c.lay A A s s2:=⟨fun b o e u_ x=>.of (sp.keep b o (fun q=>x (.inl q)) e),fun b o e x=>⟨o,sp.keep b o (fun q=>x (.inl q)) e⟩,fun u_ u_ u_ e=>e,fun u_ u_ u_ e=>.inl e,sp.rest⟩
 have ts2:TurnS c A st s2 I wr acc items k it':=⟨ok2,hi2,sp.keep acc _ (fun m=>hwP acc m hacc) ts.hg⟩
 refine wpAny_bind (Cf.use (c:=c.pw wr) (h1.2 (c.pw wr) n 4 t tu.hp A s2 _ v ok2 r2) fun u_ s3 A3 g3 ok3 u_=>?_)
 refine wpAny_bind (Cf.go (c:=c.pw wr) (h2 (c.pw wr) n ifs tu.hf) ok3 fun b' s4 A4 g4 ok4 r4=>?_)
 obtain rfl:b' = b:=r4
 exact K A4 s4 F (gx2.trans (g3.trans g4).toX) (ts2.go hacc (g3.trans g4) ok4)
theorem again_to {d:Code} {F} (hq:d.quiet = true) (h:codeAny (model c.B.prog c.B.w) c.Ar d R s):c.W (again d) (Fin.to c R) F s:=wpAny_pure ⟨hq,h⟩
theorem C_skip {P:Pg} {p i ifs cs elt it it' v xs st st1 st2 st3} (h0:it.next st = some (some (v,it'))) (h1:As P 4 p v st st1) (h2:Ifs P ifs st1 false st2) (h4:C P (.mk p i ifs :: cs) elt it' st2 xs st3):C P (.mk p i ifs :: cs) elt it st xs st3:=fun c e n gens scope pos depth t u_ u_ rest tu ht A s I wr acc items k hwP hacc ts hz=>
 turn_item h0 h1 h2 tu ht hwP hacc ts fun A4 s4 u_ g4 ts4=>by
  unfold turnK
  rw [if_neg Bool.false_ne_true]
  refine again_to rfl (codeAny_mono (h4 c e n gens scope pos depth t _ _ rest tu (tgt_next h0 ht) A4 s4 I wr acc items k hwP hacc ts4 hz) fun r s8 ⟨hr,A8,its8,k8,gx8,h8⟩=>?_)
  exact ⟨hr,A8,its8,k8,g4.trans gx8,h8⟩
theorem C_on {P:Pg} {p i ifs elt it it' v x xs st st1 st2 st3 st4} (h0:it.next st = some (some (v,it'))) (h1:As P 4 p v st st1) (h2:Ifs P ifs st1 true st2) (h3:E P elt st2 x st3) (h4:C P [.mk p i ifs] elt it' st3 xs st4):C P [.mk p i ifs] elt it st (x :: xs) st4:=fun c e n gens scope pos depth t u_ u_ rest tu ht A s I wr acc items k hwP hacc ts hz=>
 turn_item h0 h1 h2 tu ht hwP hacc ts fun A4 s4 u_ g4 ts4=>by
  have hr:rest = []:=by
   have:=tu.hc
   cases rest with
   | nil=>rfl
   | cons g _=>obtain ⟨_,_,_,_⟩:=g; exact (Bool.false_ne_true this).elim
  subst hr
  unfold turnK emitL
  rw [if_pos rfl,List.getElem?_eq_none (List.drop_eq_nil_iff.mp (drop_get tu.hd).2)]
  refine wpAny_bind (wpAny_bind (Cf.go (c:=c.pw wr) (h3.at tu.he) ts4.ok fun v5 s5 A5 g5 ok5 r5=>?_))
  have ts5:=ts4.go hacc g5 ok5
  rw [List.length_cons] at hz
  unfold lim at hz
  refine wpAny_bind (append_at ts5.hg (fun h' hs hg'=>wpAny_pure ?_) (by rw [List.size_toArray,sizeLine_eq]; lia))
  have gx6:GoX (fun b=>b = acc) c.lay A5 A5 s5 { s5 with heap:=h' }:=⟨fun b o e u_ x=>.of ((hs.2 b x).trans e),fun b o e x=>⟨o,(hs.2 b x).trans e⟩,fun u_ u_ u_ e=>e,fun u_ u_ u_ e=>.inl e,rfl,rfl,rfl⟩
  have hq:∀ b,b = acc->(c.pw wr).Q b:=fun b q=>.inl (q ▸ hacc)
  have ok6:=ok5.priv (tk:=s5.toks) (h':=h') [acc] (fun b q=>hq b (List.mem_singleton.mp q)) (fun b o q e=>(hs.2 b (fun x=>q (List.mem_singleton.mpr x))).trans e) (fun b q=>by rw [List.mem_singleton.mp q]; exact ⟨_,hg'⟩) (fun b q=>ok5.notFr fun o e es ep h=>by rw [List.mem_singleton.mp q,ts5.hg] at e; cases e; cases h)
  have ts6:TurnS c A5 st3 { s5 with heap:=h' } I wr acc (items ++ [v5]) (k + 1) it':=⟨ok6,ts5.hi.goX (X:=fun b=>b = acc) ok5 (fun u_ m=>.inr m) hq (fun b q x=>hwP acc (x ▸ q) hacc) gx6,by rw [hg']; simp⟩
  refine again_to rfl (codeAny_mono (h4 c e n gens scope pos depth t _ _ [] tu (tgt_next h0 ht) A5 _ I wr acc (items ++ [v5]) (k + 1) hwP hacc ts6 (by simp; unfold lim; lia)) fun r s7 ⟨hr,A7,its,k7,gx7,ok7,hg7,r7⟩=>?_)
  refine ⟨hr,A7,v5 :: its,k7,(g4.trans g5.toX).trans ((gx6.mono fun b q=>.inr q).trans gx7),ok7,by rw [hg7]; simp,.cons ?_ r7⟩
  have hx:∀ b,Own wr acc b->(c.pw wr).Q b:=fun b q=>q.elim .inr (hq b)
  exact (r5.mono (gx6.le hq (c.nl - 1)) (Nat.le_refl _)).mono (gx7.le2 hx (fun b q=>.inl q) (c.nl - 1)) (Nat.le_refl _)
end
end
end
section
theorem cellsFrom_facts:∀ (names:List (Str × NameKind)) (cl:List (Str × Addr)) (h:Heap),(names.map (·.1)).Nodup->
  (∀ x,(x,NameKind.cell) ∉ names->(cellsFrom h.objs.size names cl).lookup x = cl.lookup x) /\
  (∀ x,(x,NameKind.cell) ∈ names->∃ c,(cellsFrom h.objs.size names cl).lookup x = some c /\ (pushCells h names).IsCell c none /\ h.objs.size <= c) /\
  (∀ x y c,(x,NameKind.cell) ∈ names->(y,NameKind.cell) ∈ names->(cellsFrom h.objs.size names cl).lookup x = some c->(cellsFrom h.objs.size names cl).lookup y = some c->x = y)
 | [],cl,h,_=>⟨fun u_ u_=>rfl,fun u_ m=>(nomatch m),fun u_ u_ u_ m=>(nomatch m)⟩
 | (n,k) :: r,cl,h,hd=>by
  obtain ⟨hn,hr⟩:=List.nodup_cons.mp hd
  have notin:∀ j,(n,j) ∉ r:=fun j m=>hn (List.mem_map.mpr ⟨_,m,rfl⟩)
  by_cases hk:k = .cell
  ·subst hk
   obtain ⟨i1,i2,i3⟩:=cellsFrom_facts r ((n,h.objs.size) :: cl) (h.push { cls:=.type "cell",data:=.cell none }) hr
   rw [Heap.size_push] at i1 i2 i3
   have e1:cellsFrom h.objs.size ((n,NameKind.cell) :: r) cl = cellsFrom (h.objs.size + 1) r ((n,h.objs.size) :: cl):=by
    rw [cellsFrom]; exact if_pos rfl
   have e2:pushCells h ((n,NameKind.cell) :: r) = pushCells (h.push { cls:=.type "cell",data:=.cell none }) r:=by
    rw [pushCells]; exact if_pos rfl
   rw [e1,e2]
   have hhead:(cellsFrom (h.objs.size + 1) r ((n,h.objs.size) :: cl)).lookup n = some h.objs.size:=by
    rw [i1 n (notin _)]; simp [List.lookup_cons]
   have hcell:(pushCells (h.push { cls:=.type "cell",data:=.cell none }) r).IsCell h.objs.size none:=
    ⟨_,pushCells_keeps r _ _ _ (Heap.get?_push_size _ rfl),rfl⟩
   refine ⟨fun x m=>?_,fun x m=>?_,fun x y c mx my ex ey=>?_⟩
   ·have hne:x ≠ n:=fun q=>m (by rw [q]; exact List.mem_cons_self)
    rw [i1 x fun q=>m (List.mem_cons_of_mem _ q),List.lookup_cons]
    have:(x == n) = false:=by simpa using hne
    rw [this]
   ·rcases List.mem_cons.mp m with q | q
    ·cases q; exact ⟨_,hhead,hcell,Nat.le_refl _⟩
    ·obtain ⟨c,h1,h2,h3⟩:=i2 x q
     exact ⟨c,h1,h2,Nat.le_of_succ_le h3⟩
   ·rcases List.mem_cons.mp mx with q | q <;> rcases List.mem_cons.mp my with q' | q'
    ·cases q; cases q'; rfl
    ·cases q
     rw [hhead] at ex
     obtain ⟨c',h1,_,h3⟩:=i2 y q'
     rw [h1] at ey; cases ex; cases ey; lia
    ·cases q'
     rw [hhead] at ey
     obtain ⟨c',h1,_,h3⟩:=i2 x q
     rw [h1] at ex; cases ex; cases ey; lia
    ·exact i3 x y c q q' ex ey
  ·obtain ⟨i1,i2,i3⟩:=cellsFrom_facts r cl h hr
   have hk':(k == NameKind.cell) = false:=by simpa using hk
   have e1:cellsFrom h.objs.size ((n,k) :: r) cl = cellsFrom h.objs.size r cl:=by rw [cellsFrom]; simp only [hk',Bool.false_eq_true,if_false]
   have e2:pushCells h ((n,k) :: r) = pushCells h r:=by rw [pushCells]; simp only [hk',Bool.false_eq_true,if_false]
   rw [e1,e2]
   have sub:∀ x,(x,NameKind.cell) ∈ (n,k) :: r->(x,NameKind.cell) ∈ r:=fun x m=>by
    rcases List.mem_cons.mp m with q | q
    ·cases q; exact absurd rfl hk
    ·exact q
   exact ⟨fun x m=>i1 x fun q=>m (List.mem_cons_of_mem _ q),fun x m=>i2 x (sub x m),fun x y c mx my=>i3 x y c (sub x mx) (sub y my)⟩
section
variable {M:Model} {Ar:Around} {E:Value->Shared->Prop} {s:Shared} {env:Env}
theorem wpAny_newCompEnv {scope:Scope} {g:Addr} {cl:List (Str × Addr)} {qual:Str} {Q:Env->Shared->Prop}
  (hQ:Q { scope,locals:=s.heap.objs.size,globals:=g,cells:=cellsFrom (s.heap.objs.size + 1) scope.names cl,qual,func:=none,code:=env.code,frame:=env.frame,builtins:=env.builtins }
   { s with heap:=pushCells (s.heap.push { cls:=.type "dict",data:=.dict #[] }) scope.names }) :
  wpAny M Ar (newFunctionEnv scope g cl [] qual none .none (some env)) Q E s:=by
 simp only [newFunctionEnv,Option.isSome_some,if_true]
 refine wpAny_bind (wpAny_alloc ?_)
 refine wpAny_bind (wpAny_layCells _ (fun name kind cells=>by cases hkc:kind == NameKind.cell <;> simp [hkc]) _ _ _ _ ?_)
 rw [show ({ s with heap:=s.heap.push { cls:=.type "dict",data:=.dict #[] } }:Shared).heap.objs.size = s.heap.objs.size + 1 from Heap.size_push ..]
 refine wpAny_bind ?_
 rw [List.forIn_nil]
 exact wpAny_pure (wpAny_pure hQ)
theorem closureFor_of (scope:Scope) (h:∀ x ∈ scope.names,x.2 = .free->∃ c,env.cells.lookup x.1 = some c) :
  ∃ cl,closureFor scope env = pure cl /\ (∀ x c,cl.lookup x = some c->env.cells.lookup x = some c) /\ ∀ x,(x,NameKind.free) ∈ scope.names->cl.lookup x = env.cells.lookup x:=by
 have key:∀ (names:List (Str × NameKind)) (acc:List (Str × Addr)),(∀ x ∈ names,x.2 = .free->∃ c,env.cells.lookup x.1 = some c)->
   (∀ x c,acc.lookup x = some c->env.cells.lookup x = some c)->
   ∃ cl,(forIn names acc (fun (x:Str × NameKind) (r:List (Str × Addr))=>if (x.2 == NameKind.free) = true then (do let a <- cellOf env x.1; pure (ForInStep.yield ((x.1,a) :: r)):Sem _) else pure (ForInStep.yield r))) = (pure cl:Sem _) /\
    (∀ x c,cl.lookup x = some c->env.cells.lookup x = some c) /\ (∀ x,(acc.lookup x).isSome ∨ (x,NameKind.free) ∈ names->cl.lookup x = env.cells.lookup x):=by
  intro names
  induction names with
  | nil=>
   intro acc _ ha
   refine ⟨acc,by rw [List.forIn_nil],ha,fun x q=>?_⟩
   rcases q with q | q
   ·obtain ⟨c,hc⟩:=Option.isSome_iff_exists.mp q
    rw [hc,ha x c hc]
   ·cases q
  | cons y r ih=>
   intro acc hn ha
   have hr:∀ x ∈ r,x.2 = .free->∃ c,env.cells.lookup x.1 = some c:=fun x m=>hn x (List.mem_cons_of_mem _ m)
   by_cases hk:(y.2 == NameKind.free) = true
   ·have hk':y.2 = .free:=by simpa using hk
    obtain ⟨c,hc⟩:=hn y List.mem_cons_self hk'
    have ha':∀ x c',((y.1,c) :: acc).lookup x = some c'->env.cells.lookup x = some c':=fun x c' e=>by
     rw [List.lookup_cons] at e
     split at e
     ·rename_i q; cases e; rw [beq_iff_eq.mp q]; exact hc
     ·exact ha x c' e
    obtain ⟨cl,h1,h2,h3⟩:=ih ((y.1,c) :: acc) hr ha'
    refine ⟨cl,?_,h2,fun x q=>?_⟩
    ·rw [List.forIn_cons,if_pos hk]
     have:cellOf env y.1 = (pure c:Sem _):=by unfold cellOf; rw [hc]
     rw [this]
     simp only [pure_bind]
     exact h1
    ·apply h3
     rcases q with q | q
     ·left; rw [List.lookup_cons]; split
      ·rfl
      ·exact q
     ·rcases List.mem_cons.mp q with q | q
      ·left; rw [List.lookup_cons]; rw [<- q]; simp
      ·exact .inr q
   ·obtain ⟨cl,h1,h2,h3⟩:=ih acc hr ha
    refine ⟨cl,?_,h2,fun x q=>?_⟩
    ·rw [List.forIn_cons,if_neg hk]
     simp only [pure_bind]
     exact h1
    ·apply h3
     rcases q with q | q
     ·exact .inl q
     ·rcases List.mem_cons.mp q with q | q
      ·exact absurd (by rw [<- q]; rfl) hk
      ·exact .inr q
 obtain ⟨cl,h1,h2,h3⟩:=key scope.names [] h (fun u_ u_ e=>by simp at e)
 refine ⟨cl,?_,h2,fun x m=>h3 x (.inr m)⟩
 show ((forIn scope.names [] (fun (x:Str × NameKind) (r:List (Str × Addr))=>if (x.2 == NameKind.free) = true then (do let a <- cellOf env x.1; pure (ForInStep.yield ((x.1,a) :: r)):Sem _) else pure (ForInStep.yield r)):Sem _) >>= fun cs=>pure cs) = pure cl
 rw [h1,pure_bind]
end
section
variable {B:Base} {lay lay':List Loc} {P P':Addr->Prop} {nl:Nat} {A A':List (List Addr)} {st:St} {s s':Shared} {E:Value->Shared->Prop}
theorem ItRep.ext {w w':Wd} {lv:Nat} {I:Addr} {wr:List Addr} {it:It} (le:Wd.Le lv w w') (kp:∀ b ∈ wr,∀ o,w.h.get? b = some o->w'.h.get? b = some o) (h:ItRep w lv I wr it):ItRep w' lv I wr it:=by
 cases h with
 | list h1 h2 h3 h4=>exact .list (h1.at (kp _ (.head _))) (fun q=>h2 (le.avoid _ _ h3 q)) ((le.keep _ _ h3 h2).at (nd_of rfl)) (h4.mono le (Nat.le_refl _))
 | tuple h1 h2 h3 h4=>exact .tuple (h1.at (kp _ (.head _))) (fun q=>h2 (le.avoid _ _ h3 q)) ((le.keep _ _ h3 h2).at (nd_of rfl)) (h4.mono le (Nat.le_refl _))
 | range h1 h2=>exact .range (kp _ (.head _) _ h1) h2
 | bytes h1 h2=>obtain ⟨o,ho,r⟩:=h1; exact .bytes ⟨o,kp _ (.head _) _ ho,r⟩ h2
 | ref h1 h2 h3=>exact .ref (h1.at (kp _ (.head _))) h2 (le.same _ _ _ h2 h3)
 | enList h1 h0 h2 h3 h4 h5=>exact .enList (kp _ (.head _) _ h1) h0 (h2.at (kp _ (.tail _ (.head _)))) (fun q=>h3 (le.avoid _ _ h4 q)) ((le.keep _ _ h4 h3).at (nd_of rfl)) (h5.mono le (Nat.le_refl _))
 | enInt h1 h0 h2 h3=>exact .enInt (kp _ (.head _) _ h1) h0 (h2.at (kp _ (.tail _ (.head _)))) h3
 | enRef h1 h0 h2 h3 h4=>exact .enRef (kp _ (.head _) _ h1) h0 (h2.at (kp _ (.tail _ (.head _)))) h3 (le.same _ _ _ h3 h4)
theorem Ok.extend (ok:Ok B lay P nl A st s) (new:List Loc) (h1:∀ l ∈ new,s.heap.get? l.addr = none) {h':Heap} {tk:Nat} (hk:∀ b o,s.heap.get? b = some o->h'.get? b = some o)
  (hs:∀ l ∈ new,match l with | .dict L x=>∃ m,h'.Ns L m /\ m x = none | .cell c=>h'.IsCell c none)
  (hp:∀ (i j:Nat) (l l':Loc),new[i]? = some l->new[j]? = some l'->i ≠ j->l.apart l') :
  Ok B (lay ++ new) P nl A { st with ρ:=st.ρ ++ List.replicate new.length none } { s with heap:=h',toks:=tk } /\
  ∀ lv,Wd.Le lv (wd lay A P s.heap) (wd (lay ++ new) A P h'):=by
 have nw:∀ b o,s.heap.get? b = some o->∀ l ∈ new,l.addr ≠ b:=fun b o e l m q=>by have:=h1 l m; rw [q,e] at this; cases this
 have tc:∀ b,Tch (lay ++ new) A b->Tch lay A b ∨ ∃ l ∈ new,l.addr = b:=fun b h=>by
  rcases h with ⟨l,m,q⟩ | h
  ·rcases List.mem_append.mp m with m | m
   ·exact .inl (.inl ⟨l,m,q⟩)
   ·exact .inr ⟨l,m,q⟩
  ·exact .inl (.inr h)
 have av:∀ b o,s.heap.get? b = some o->Avd (lay ++ new) A P b->Avd lay A P b:=fun b o e h=>by
  rcases h with h | h
  ·rcases tc b h with h | ⟨l,m,q⟩
   ·exact .inl h
   ·exact absurd q (nw b o e l m)
  ·exact .inr h
 have le:∀ lv,Wd.Le lv (wd lay A P s.heap) (wd (lay ++ new) A P h'):=fun lv=>⟨fun b o e u_=>.of (hk b o e),av,fun u_ u_ u_ u_ e=>e⟩
 have hlive:∀ l ∈ new,∃ o,h'.get? l.addr = some o:=fun l m=>by
  have:=hs l m
  cases l with
  | dict L x=>obtain ⟨m,h,_⟩:=this; obtain ⟨o,_,_,e,_⟩:=h; exact ⟨o,e⟩
  | cell c=>obtain ⟨o,e,_⟩:=this; exact ⟨o,e⟩
 refine ⟨?_,le⟩
 exact {
  base:=fun b o e=>hk b o (ok.base b o e)
  baseM:=fun b o e h=>ok.baseM b o e (av b o (ok.base b o e) h)
  frs:=fun L m=>let ⟨o,es,ep,h1,h2⟩:=ok.frs L m; ⟨o,es,ep,hk _ _ h1,h2⟩
  len:=by simp [ok.len]
  slots:=fun i l e=>by
   show SlotRep _ _ _ ((st.ρ ++ List.replicate new.length none)[i]?).join
   by_cases hi:i < lay.length
   ·rw [List.getElem?_append_left hi] at e
    rw [List.getElem?_append_left (ok.len ▸ hi)]
    exact slot_apart (le _) (fun q h=>hk _ _ h) (ok.slots i l e)
   ·have hi':=Nat.not_lt.mp hi
    rw [List.getElem?_append_right hi'] at e
    rw [List.getElem?_append_right (ok.len ▸ hi')]
    have hm:=List.mem_of_getElem? e
    have hl:=(List.getElem?_eq_some_iff.mp e).1
    have:((List.replicate new.length (none:Option V))[i - st.ρ.length]?).join = none:=by
     cases q:(List.replicate new.length (none:Option V))[i - st.ρ.length]? with
     | none=>rfl
     | some u=>have:=List.eq_of_mem_replicate (List.mem_of_getElem? q); rw [this]; rfl
    rw [this]
    have:=hs l hm
    cases l with
    | dict L x=>obtain ⟨m,q1,q2⟩:=this; exact ⟨m,q1,q2 ▸ .none⟩
    | cell c=>exact ⟨none,this,.none⟩
  sep:=fun i j l l' e e' hij=>by
   have old_new:∀ (l l':Loc),l ∈ lay->l' ∈ new->l.addr ≠ l'.addr:=fun l l' m m' q=>by
    obtain ⟨o,e⟩:=ok.alive l.addr (.inl (.inl ⟨l,m,rfl⟩))
    exact nw _ o e l' m' q.symm
   have ap:∀ (l l':Loc),l.addr ≠ l'.addr->l.apart l':=fun l l' h=>by
    cases l <;> cases l' <;> first | exact .inl h | exact h
   by_cases hi:i < lay.length <;> by_cases hj:j < lay.length
   ·rw [List.getElem?_append_left hi] at e
    rw [List.getElem?_append_left hj] at e'
    exact ok.sep i j l l' e e' hij
   ·rw [List.getElem?_append_left hi] at e
    rw [List.getElem?_append_right (Nat.not_lt.mp hj)] at e'
    exact ap _ _ (old_new l l' (List.mem_of_getElem? e) (List.mem_of_getElem? e'))
   ·rw [List.getElem?_append_right (Nat.not_lt.mp hi)] at e
    rw [List.getElem?_append_left hj] at e'
    exact ap _ _ (old_new l' l (List.mem_of_getElem? e') (List.mem_of_getElem? e)).symm
   ·rw [List.getElem?_append_right (Nat.not_lt.mp hi)] at e
    rw [List.getElem?_append_right (Nat.not_lt.mp hj)] at e'
    exact hp _ _ l l' e e' (by lia)
  lenA:=ok.lenA
  dimA:=ok.dimA
  objs:=fun l i o a q1 q2=>rep_apart (le _) (fun q h=>hk _ _ h) (ok.objs l i o a q1 q2) av
  inj:=ok.inj
  layA:=fun l m k i e=>by
   rcases List.mem_append.mp m with m | m
   ·exact ok.layA l m k i e
   ·obtain ⟨o,q⟩:=ok.alive l.addr (.inl (.inr ⟨k,i,e⟩))
    exact nw _ o q l m rfl
  disP:=fun b hb h=>by
   rcases tc b h with h | ⟨l,m,q⟩
   ·exact ok.disP b hb h
   ·obtain ⟨o,e⟩:=ok.alive b (.inr hb)
    exact nw _ o e l m q
  alive:=fun b h=>by
   rcases h with h | h
   ·rcases tc b h with h | ⟨l,m,q⟩
    ·obtain ⟨o,e⟩:=ok.alive b (.inl h); exact ⟨o,hk b o e⟩
    ·exact q ▸ hlive l m
   ·obtain ⟨o,e⟩:=ok.alive b (.inr h); exact ⟨o,hk b o e⟩
  rlen:=ok.rlen
  lvl:=ok.lvl }
theorem Ok.shrink' {new:List Loc} (ok:Ok B (lay ++ new) P nl A st s) {C:Addr} (hC:∃ l ∈ new,l.addr = C) (hl:∀ l ∈ lay,l.addr ≠ C) :
  Ok B lay (fun b=>P b ∨ b ∈ [C]) nl A { st with ρ:=st.ρ.take lay.length } s /\ ∀ lv,Wd.Le lv (wd (lay ++ new) A P s.heap) (wd lay A (fun b=>P b ∨ b ∈ [C]) s.heap):=by
 have tc:∀ b,Tch lay A b->Tch (lay ++ new) A b:=fun b h=>h.imp (fun ⟨l,m,q⟩=>⟨l,List.mem_append_left _ m,q⟩) id
 have tC:Tch (lay ++ new) A C:=let ⟨l,m,q⟩:=hC; .inl ⟨l,List.mem_append_right _ m,q⟩
 have av:∀ b,Avd lay A (fun b=>P b ∨ b ∈ [C]) b->Avd (lay ++ new) A P b:=fun b h=>by
  rcases h with h | h | h
  ·exact .inl (tc b h)
  ·exact .inr h
  ·exact .inl (List.mem_singleton.mp h ▸ tC)
 have lkC:∀ l i,look A l i ≠ some C:=fun l i e=>let ⟨l',m,q⟩:=hC; ok.layA l' (List.mem_append_right _ m) l i (q ▸ e)
 have le:∀ lv,Wd.Le lv (wd (lay ++ new) A P s.heap) (wd lay A (fun b=>P b ∨ b ∈ [C]) s.heap):=fun lv=>⟨fun b o e u_=>.of e,fun b u_ u_ h=>av b h,fun u_ u_ u_ u_ e=>e⟩
 refine ⟨?_,le⟩
 exact {
  base:=ok.base
  baseM:=fun b o e h=>ok.baseM b o e (av b h)
  frs:=ok.frs
  len:=by simp [ok.len]
  slots:=fun i l e=>by
   have hi:=(List.getElem?_eq_some_iff.mp e).1
   show SlotRep _ _ _ ((st.ρ.take lay.length)[i]?).join
   rw [List.getElem?_take_of_lt hi]
   exact slot_apart (le _) (fun q h=>h) (ok.slots i l (by rw [List.getElem?_append_left hi]; exact e))
  sep:=fun i j l l' e e' hij=>ok.sep i j l l' (by rw [List.getElem?_append_left (List.getElem?_eq_some_iff.mp e).1]; exact e) (by rw [List.getElem?_append_left (List.getElem?_eq_some_iff.mp e').1]; exact e') hij
  lenA:=ok.lenA
  dimA:=ok.dimA
  objs:=fun l i o a q1 q2=>rep_apart (le _) (fun q h=>h) (ok.objs l i o a q1 q2) fun b u_ u_ h=>av b h
  inj:=ok.inj
  layA:=fun l m=>ok.layA l (List.mem_append_left _ m)
  disP:=fun b hb h=>by
   rcases hb with hb | hb
   ·exact ok.disP b hb (tc b h)
   ·have hb:=List.mem_singleton.mp hb
    subst hb
    rcases h with ⟨l,m,q⟩ | ⟨l,i,q⟩
    ·exact hl l m q
    ·exact lkC l i q
  alive:=fun b h=>ok.alive b (av b h)
  rlen:=ok.rlen
  lvl:=ok.lvl }
theorem Ok.adopt (ok:Ok B lay P' nl A st s) (hP:∀ b,P b->P' b) {a:Addr} (ha:P' a) (hna:¬ P a) {o:AObj} {x:V} {st':St} (h:st.alloc o = some (x,st'))
  (ho:∀ w:Wd,w.h = s.heap->Wd.Le (nl - 1) (wd lay A P' s.heap) w->(∀ b,w.M b->Avd lay A P' b)->ObjRep w (nl - 1) a o) :
  ∃ A',(∀ l i b,look A l i = some b->look A' l i = some b) /\ (∀ l i b,look A' l i = some b->look A l i = some b ∨ b = a) /\ Ok B lay P nl A' st' s /\ Rel (wd lay A' P s.heap) (nl - 1) (.ref a) x:=by
 unfold St.alloc at h
 split at h
 ·rename_i r hr
  cases h
  have hR:=last_of hr
  have hRl:st.R.dropLast.length = nl - 1:=by rw [List.length_dropLast,ok.rlen]
  have hAl:A ≠ []:=fun e=>by
   have:=ok.lenA
   have h2:=ok.rlen
   have h3:=ok.lvl
   rw [e] at this; simp at this; lia
  obtain ⟨as,hA⟩ : ∃ as,A = A.dropLast ++ [as]:=⟨A.getLast hAl,last_of (List.getLast?_eq_some_getLast hAl)⟩
  have hA0:A.dropLast.length = nl - 1:=by rw [List.length_dropLast,ok.lenA,ok.rlen]
  have hlen:as.length = r.length:=by
   have key:∀ i,as[i]? = none ↔ r[i]? = none:=fun i=>by
    have:=ok.dimA (nl - 1) i
    unfold look St.obj at this
    rw [hA,hR,<- hA0,List.getElem?_concat_length,hA0,<- hRl,List.getElem?_concat_length] at this
    exact this
   have k1:=key as.length
   have k2:=key r.length
   simp only [List.getElem?_eq_none_iff,Nat.le_refl,true_iff,iff_true] at k1 k2
   lia
  let A':=A.dropLast ++ [as ++ [a]]
  have hlook:∀ l i,look A' l i = if l = nl - 1 /\ i = as.length then some a else look A l i:=fun l i=>by
   have:=look_push A.dropLast as a l i
   rw [hA0,<- hA] at this
   exact this
  have hobj:∀ l i,St.obj ⟨st.ρ,st.R.dropLast ++ [r ++ [o]]⟩ l i = if l = nl - 1 /\ i = as.length then some o else st.obj l i:=fun l i=>by
   have:=obj_push st.ρ st.ρ st.R.dropLast r o l i
   rw [hRl,<- hR,<- hlen] at this
   exact this
  have hnone:look A (nl - 1) as.length = none:=by
   unfold look
   rw [hA,<- hA0,List.getElem?_concat_length]
   exact List.getElem?_eq_none (Nat.le_refl _)
  have hold:∀ l i b,look A l i = some b->look A' l i = some b:=fun l i b e=>by
   rw [hlook]
   split
   ·rename_i q; rw [q.1,q.2,hnone] at e; cases e
   ·exact e
  have hnew:∀ l i b,look A' l i = some b->look A l i = some b ∨ b = a:=fun l i b e=>by
   rw [hlook] at e
   split at e
   ·cases e; exact .inr rfl
   ·exact .inl e
  have avd:∀ b,Avd lay A' P b->Avd lay A P' b:=fun b h=>by
   rcases h with (h | ⟨l,i,h⟩) | h
   ·exact .inl (.inl h)
   ·rcases hnew l i b h with h | h
    ·exact .inl (.inr ⟨l,i,h⟩)
    ·exact .inr (h ▸ ha)
   ·exact .inr (hP b h)
  have le:∀ lv,Wd.Le lv (wd lay A P' s.heap) (wd lay A' P s.heap):=fun lv=>⟨fun b o e u_=>.of e,fun b u_ u_ h=>avd b h,fun l i b u_ e=>hold l i b e⟩
  have hnt:=ok.disP a ha
  refine ⟨A',hold,hnew,?_,?_⟩
  ·exact {
    base:=ok.base
    baseM:=fun b q e h=>ok.baseM b q e (avd b h)
    frs:=ok.frs
    len:=ok.len
    slots:=fun j lo e=>slot_apart (le _) (fun q hq=>hq) (ok.slots j lo e)
    sep:=ok.sep
    lenA:=by
     show A'.length = (st.R.dropLast ++ [r ++ [o]]).length
     simp only [A',List.length_append,hA0,hRl,List.length_singleton]
    dimA:=fun l i=>by
     rw [hlook]
     show _ ↔ St.obj ⟨st.ρ,st.R.dropLast ++ [r ++ [o]]⟩ l i = none
     rw [hobj]
     split
     ·simp
     ·exact ok.dimA l i
    objs:=fun l i q b h1 h2=>by
     have h1':St.obj ⟨st.ρ,st.R.dropLast ++ [r ++ [o]]⟩ l i = some q:=h1
     rw [hobj] at h1'
     rw [hlook] at h2
     split at h1'
     ·rename_i y
      rw [if_pos y] at h2
      cases h1'; cases h2
      obtain ⟨rfl,_⟩:=y
      exact ho _ rfl (le _) avd
     ·rename_i y
      rw [if_neg y] at h2
      exact rep_apart (le _) (fun q hq=>hq) (ok.objs l i q b h1' h2) fun c q e h=>avd c h
    inj:=fun l i l' i' b h1 h2=>by
     rw [hlook] at h1 h2
     split at h1 <;> split at h2
     ·rename_i y y'; exact ⟨y.1.trans y'.1.symm,y.2.trans y'.2.symm⟩
     ·cases h1; exact absurd (.inr ⟨_,_,h2⟩) hnt
     ·cases h2; exact absurd (.inr ⟨_,_,h1⟩) hnt
     ·exact ok.inj l i l' i' b h1 h2
    layA:=fun lo hm k i e=>by
     rcases hnew _ _ _ e with e | e
     ·exact ok.layA lo hm k i e
     ·exact hnt (.inl ⟨lo,hm,e⟩)
    disP:=fun b hp h=>by
     rcases h with h | ⟨l,i,h⟩
     ·exact ok.disP b (hP b hp) (.inl h)
     ·rcases hnew _ _ _ h with h | h
      ·exact ok.disP b (hP b hp) (.inr ⟨l,i,h⟩)
      ·exact hna (h ▸ hp)
    alive:=fun b h=>ok.alive b (avd b h)
    rlen:=by
     show (st.R.dropLast ++ [r ++ [o]]).length = nl
     have:=ok.lvl
     simp only [List.length_append,hRl,List.length_singleton]; lia
    lvl:=ok.lvl }
  ·refine .ref (Nat.le_of_eq ?_) ?_
   ·rw [ok.rlen]
   ·show look A' _ _ = _
    rw [hlook,if_pos ⟨by rw [ok.rlen],hlen.symm⟩]
 ·cases h
end
end
section
theorem lookup_mapk (f:Str->NameKind->NameKind) (x:Str):∀ l:List (Str × NameKind),(l.map fun y=>(y.1,f y.1 y.2)).lookup x = (l.lookup x).map (f x)
 | []=>rfl
 | (n,k) :: r=>by
  simp only [List.map_cons,List.lookup_cons]
  cases h:x == n with
  | true=>rw [beq_iff_eq.mp h]; rfl
  | false=>exact lookup_mapk f x r
theorem lookup_relabel (scope:Scope) (env:Env) (x:Str):(relabel scope env).names.lookup x =
  (scope.names.lookup x).map fun k=>if (k == .free && env.scope.kind == .function && env.kindOf x == some .cell) = true then NameKind.cell else k:=by
 rw [<- lookup_mapk (fun x k=>if (k == .free && env.scope.kind == .function && env.kindOf x == some .cell) = true then NameKind.cell else k)]
 unfold relabel
 dsimp only
 congr 1
 refine List.map_congr_left fun y u_=>?_
 split <;> rfl
theorem mem_lookup {l:List (Str × NameKind)} (hd:(l.map (·.1)).Nodup) {x:Str} {k:NameKind} (h:(x,k) ∈ l):l.lookup x = some k:=by
 induction l with
 | nil=>cases h
 | cons y r ih=>
  obtain ⟨n,j⟩:=y
  obtain ⟨hn,hr⟩:=List.nodup_cons.mp hd
  rw [List.lookup_cons]
  rcases List.mem_cons.mp h with q | q
  ·cases q; simp
  ·have:x ≠ n:=fun e=>hn (e ▸ List.mem_map.mpr ⟨_,q,rfl⟩)
   have hx':(x == n) = false:=by simpa using this
   rw [hx']; exact ih hr q
theorem own_nodup {scope:Scope} (hd:(scope.names.map (·.1)).Nodup):(ownOf scope).Nodup:=by
 unfold ownOf
 exact List.Nodup.sublist (List.Sublist.map _ List.filter_sublist) hd
theorem mem_own {scope:Scope} {x:Str} {k:NameKind} (h:scope.names.lookup x = some k) (hk:k = .local ∨ k = .cell):x ∈ ownOf scope:=by
 unfold ownOf
 refine List.mem_map.mpr ⟨(x,k),List.mem_filter.mpr ⟨mem_of_lookup h,?_⟩,rfl⟩
 rcases hk with rfl | rfl <;> rfl
theorem own_kind {scope:Scope} (hd:(scope.names.map (·.1)).Nodup) {x:Str} (h:x ∈ ownOf scope):scope.names.lookup x = some .local ∨ scope.names.lookup x = some .cell:=by
 unfold ownOf at h
 obtain ⟨⟨y,k⟩,h1,h2⟩:=List.mem_map.mp h
 obtain ⟨h3,h4⟩:=List.mem_filter.mp h1
 simp only at h2
 subst h2
 have:=mem_lookup hd h3
 simp only [Bool.or_eq_true,beq_iff_eq] at h4
 rcases h4 with q | q <;> rw [q] at this
 ·exact .inl this
 ·exact .inr this
noncomputable def locOf (scope:Scope) (C:Addr) (cs:List (Str × Addr)) (x:Str):Loc:=if scope.names.lookup x = some .cell then .cell ((cs.lookup x).getD 0) else .dict C x
theorem idx_get {l:List Str} {x:Str} {i:Nat} (h:l.idxOf? x = some i):l[i]? = some x:=by
 induction l generalizing i with
 | nil=>simp at h
 | cons y r ih=>
  rw [List.idxOf?_cons] at h
  split at h
  ·rename_i q; cases h; simp [(beq_iff_eq.mp q)]
  ·cases e:r.idxOf? x with
   | none=>rw [e] at h; cases h
   | some j=>rw [e] at h; cases h; simpa using ih e
theorem idx_some {l:List Str} {x:Str} (h:x ∈ l):∃ i,l.idxOf? x = some i:=by
 cases e:l.idxOf? x with
 | some i=>exact ⟨i,rfl⟩
 | none=>exact absurd h (List.idxOf?_eq_none_iff.mp e)
theorem EnvOk.inner {B:Base} {H:Hn} {cx:CX} {env:Env} {lay:List Loc} (hg:HOk B H) (eo:EnvOk B cx env lay) {scope:Scope} (hk:scope.kind = .function) (hd:(scope.names.map (·.1)).Nodup) (hf:∀ x ∈ scope.names,(x.2 != .free || cx.cel x.1) = true) {C:Addr} {cs:List (Str × Addr)}
  (hcell:∀ x,scope.names.lookup x = some .cell->∃ c,cs.lookup x = some c) (hfree:∀ x,scope.names.lookup x = some .free->cs.lookup x = env.cells.lookup x)
  {cenv:Env} (h1:cenv.scope = relabel scope env) (h2:cenv.locals = C) (h3:cenv.cells = cs) (h4:cenv.globals = env.globals) (h5:cenv.builtins = env.builtins) (h6:cenv.code = env.code) (h7:cenv.qual = env.qual) :
  EnvOk B (compCX cx H.gl scope) cenv (lay ++ (ownOf scope).map (locOf scope C cs)):=by
 have kd:∀ x k,scope.names.lookup x = some k->cenv.kindOf x = some (if (k == .free && env.scope.kind == .function && env.kindOf x == some .cell) = true then NameKind.cell else k):=fun x k e=>by
  unfold Env.kindOf
  rw [h1,lookup_relabel,e]; rfl
 have fr:∀ x,scope.names.lookup x = some .free->cx.cel x = true:=fun x e=>by
  have:=hf _ (mem_of_lookup e)
  simpa using this
 have frk:∀ x,scope.names.lookup x = some .free->cenv.kindOf x = some .cell ∨ cenv.kindOf x = some .free:=fun x e=>by
  rw [kd x _ e]
  split
  ·exact .inl rfl
  ·exact .inr rfl
 have slot:∀ x i,((ownOf scope).idxOf? x).map (cx.n + ·) = some i->(lay ++ (ownOf scope).map (locOf scope C cs))[i]? = some (locOf scope C cs x):=fun x i e=>by
  cases q:(ownOf scope).idxOf? x with
  | none=>rw [q] at e; cases e
  | some j=>
   rw [q] at e; cases e
   dsimp only
   rw [<- eo.len,List.getElem?_append_right (Nat.le_add_right _ _),Nat.add_sub_cancel_left,List.getElem?_map,idx_get q]
   rfl
 exact {
  kind:=by rw [h1]; exact hk
  globals:=h4.trans eo.globals
  builtins:=h5.trans eo.builtins
  len:=by rw [List.length_append,List.length_map,eo.len]; rfl
  var:=fun x i e=>by
   delta compCX at e; dsimp only at e
   cases q:scope.names.lookup x with
   | none=>rw [q] at e; cases e
   | some k=>
    rw [q] at e
    cases k with
    | «local»=>
     have:=slot x i e
     unfold locOf at this
     rw [q,if_neg (by decide)] at this
     exact .inl ⟨kd x _ q,h2 ▸ this⟩
    | cell=>
     have:=slot x i e
     unfold locOf at this
     rw [q,if_pos rfl] at this
     obtain ⟨c,hc⟩:=hcell x q
     rw [hc] at this
     exact .inr ⟨.inl (kd x _ q),c,h3 ▸ hc,this⟩
    | free=>
     dsimp only at e
     obtain ⟨hkk,c,hc⟩:=eo.cell x (fr x q)
     rcases eo.var x i e with ⟨k,_⟩ | ⟨_,c',hc',hl⟩
     ·rcases hkk with hkk | hkk <;> rw [hkk] at k <;> cases k
     ·refine .inr ⟨frk x q,c',by rw [h3,hfree x q]; exact hc',?_⟩
      rw [List.getElem?_append_left (List.getElem?_eq_some_iff.mp hl).1]
      exact hl
    | _=>cases e
  cell:=fun x e=>by
   delta compCX at e; dsimp only at e
   cases q:scope.names.lookup x with
   | none=>rw [q] at e; cases e
   | some k=>
    rw [q] at e
    cases k with
    | cell=>
     obtain ⟨c,hc⟩:=hcell x q
     exact ⟨.inl (kd x _ q),c,h3 ▸ hc⟩
    | free=>
     obtain ⟨_,c,hc⟩:=eo.cell x (fr x q)
     exact ⟨frk x q,c,by rw [h3,hfree x q]; exact hc⟩
    | _=>cases e
  code:=h6.trans eo.code
  qual:=h7.trans eo.qual
  glob:=fun x v e=>by
   delta compCX at e; dsimp only at e
   cases q:scope.names.lookup x with
   | none=>rw [q] at e; cases e
   | some k=>
    rw [q] at e
    cases k with
    | globalImplicit=>exact ⟨kd x _ q,hg x v e⟩
    | _=>cases e
  celf:=fun x i e e2=>by
   delta compCX at e e2; dsimp only at e e2
   cases q:scope.names.lookup x with
   | none=>rw [q] at e; cases e
   | some k=>
    rw [q] at e e2
    cases k with
    | «local»=>exact kd x _ q
    | cell=>cases e2
    | free=>rw [fr x q] at e2; cases e2
    | _=>cases e }
section
variable {scope:Scope} {cs:List (Str × Addr)} {C:Addr} {h:Heap}
theorem not_live {h:Heap} {b:Addr} (k:∀ o,h.get? b = some o->False):h.get? b = none:=by
 cases q:h.get? b with
 | none=>rfl
 | some o=>exact (k o q).elim
theorem loc_ge (hc:∀ x,scope.names.lookup x = some .cell->∃ c,cs.lookup x = some c /\ h.IsCell c none /\ C + 1 <= c) {l:Loc} (ml:l ∈ (ownOf scope).map (locOf scope C cs)):C <= l.addr:=by
 obtain ⟨x,mx,rfl⟩:=List.mem_map.mp ml
 unfold locOf
 split
 ·rename_i q
  obtain ⟨c,q1,_,q3⟩:=hc x q
  rw [q1]
  exact Nat.le_of_succ_le q3
 ·exact Nat.le_refl _
theorem loc_none (hc:∀ x,scope.names.lookup x = some .cell->∃ c,cs.lookup x = some c /\ h.IsCell c none /\ C + 1 <= c) (hns:h.Ns C fun u_=>none):∀ l ∈ (ownOf scope).map (locOf scope C cs),match l with | .dict L x=>∃ m,h.Ns L m /\ m x = none | .cell c=>h.IsCell c none:=fun l ml=>by
 obtain ⟨x,mx,rfl⟩:=List.mem_map.mp ml
 unfold locOf
 split
 ·rename_i q
  split at q
  ·cases q
  ·cases q; exact ⟨_,hns,rfl⟩
 ·rename_i q
  split at q
  ·rename_i w
   obtain ⟨c,q1,q2,_⟩:=hc x w
   rw [q1] at q; cases q
   exact q2
  ·cases q
theorem loc_apart (hc:∀ x,scope.names.lookup x = some .cell->∃ c,cs.lookup x = some c /\ h.IsCell c none /\ C + 1 <= c) (f3:∀ x y c,(x,NameKind.cell) ∈ scope.names->(y,NameKind.cell) ∈ scope.names->cs.lookup x = some c->cs.lookup y = some c->x = y) (own:(ownOf scope).Nodup) :
  ∀ (i j:Nat) (l l':Loc),((ownOf scope).map (locOf scope C cs))[i]? = some l->((ownOf scope).map (locOf scope C cs))[j]? = some l'->i ≠ j->l.apart l':=fun i j l l' e e' hij=>by
 rw [List.getElem?_map] at e e'
 cases q:(ownOf scope)[i]? with
 | none=>rw [q] at e; cases e
 | some x=>
  cases q':(ownOf scope)[j]? with
  | none=>rw [q'] at e'; cases e'
  | some y=>
   rw [q] at e; rw [q'] at e'; cases e; cases e'
   have hxy:x ≠ y:=fun w=>by
    subst w
    exact hij ((List.getElem?_inj (List.getElem?_eq_some_iff.mp q).1 own).mp (q.trans q'.symm))
   unfold locOf
   split <;> split
   ·rename_i w w'
    obtain ⟨c,q1,_,_⟩:=hc x w
    obtain ⟨c',q1',_,_⟩:=hc y w'
    rw [q1,q1']
    exact fun (w2:c = c')=>hxy (f3 x y c (mem_of_lookup w) (mem_of_lookup w') q1 (w2 ▸ q1'))
   ·rename_i w w'
    obtain ⟨c,q1,_,q3⟩:=hc x w
    rw [q1]
    exact fun w=>Nat.lt_irrefl _ (show C < C from w ▸ q3)
   ·rename_i w w'
    obtain ⟨c,q1,_,q3⟩:=hc y w'
    rw [q1]
    exact fun w=>Nat.lt_irrefl _ (show C < C from w ▸ q3)
   ·exact .inr hxy
end
section
variable {P:Pg} {st st1 st2:St}
theorem comp_core {mu:Bool} {base k:Nat} {p:MPat} {mi:MI} {fs:List ME} {cls:List Clause} {m:ME} {it:It} {vs:List V} {v:V} {st5 st':St} (hi1:I P mi st it st1) (hbase:st1.ρ.length = base) (h2:C P (.mk p mi fs :: cls) m it { st1 with ρ:=st1.ρ ++ List.replicate k none } vs st5)
  (hf:mkL mu vs { st5 with ρ:=st5.ρ.take base } = some (v,st')):CompUse P (.comp mu base k (.mk p mi fs :: cls) m) st v st':=by
 intro c n elt gens scope pos h A s F ok use Q K
 have h:=and_t (cm h).2
 obtain ⟨hk,hcl⟩:=and_t h.1
 obtain ⟨_,hbn,rfl⟩:=dec_t hk
 obtain ⟨hcl0,hm⟩:=and_t h.2
 unfold scopeOk at hcl
 simp only [Bool.and_eq_true,decide_eq_true_eq,List.all_eq_true] at hcl
 obtain ⟨⟨⟨hkind,hnd⟩,hfr⟩,hdot⟩:=hcl
 cases gens with
 | nil=>exact (Bool.false_ne_true hcl0).elim
 | cons g r=>
 obtain ⟨t,i,ifs,as⟩:=g
 obtain ⟨w1,w2⟩:=and_t hcl0
 obtain ⟨has,hen⟩:=and_t w1
 obtain rfl:=dec_t has
 obtain ⟨w3,w4⟩:=and_t w2
 obtain ⟨c1,c2⟩:=and_t w3
 obtain ⟨c3,c4⟩:=and_t w4
 obtain ⟨hfold,hit⟩:=hi1.2 c n i c2
 obtain ⟨cl,hclos,hcl1,hcl2⟩:=closureFor_of (env:=c.env) scope fun x mx hx=>by
  have:=hfr x mx
  rw [hx] at this
  exact (c.eo.cell x.1 (by simpa using this)).2
 refine wpAny_comprehension_free (use:=use) (cl:=cl) (g:=⟨t,i,ifs,0⟩) (gs:=r) rfl hfold hclos hkind (fun x mx hx=>mem_lookup hnd (by rw [<- hx]; exact mx)) ?_
 show wpAny _ _ (eval i c.env) _ _ _
 refine wpAny_mono (hit A s F ok) (fun x s1 h1=>wpAny_mono h1 (fun iv s2 hh2=>?_) fun u_ u_ e=>e) fun u_ u_ e=>e
 obtain ⟨I,wr,A1,rfl,g2,fr2,ok2,hi2⟩:=hh2
 refine wpAny_newObj_type (wpAny_newCompEnv ?_)
 dsimp only
 generalize ha:s2.heap.objs.size = a
 have hka:∀ b o,s2.heap.get? b = some o->b ≠ a:=fun b o e q=>Nat.lt_irrefl _ (ha ▸ q ▸ Heap.lt_size e)
 have han:s2.heap.get? a = none:=Heap.get?_none_of_le (by lia)
 generalize hH2:s2.heap.push { cls:=.type "list",dict:=none,data:=.seq ([]:List Value).toArray } = H2
 have hk2:∀ b o,s2.heap.get? b = some o->H2.get? b = some o:=fun b o e=>hH2 ▸ Heap.get?_push_of_some _ e
 have hga:H2.get? a = some (LObj ([]:List Value).toArray 0):=by rw [<- hH2,<- ha]; exact Heap.get?_push_size _ rfl
 have hsz2:H2.objs.size = a + 1:=by rw [<- hH2,Heap.size_push,ha]
 generalize hC:H2.objs.size = C
 have hCn:H2.get? C = none:=Heap.get?_none_of_le (by lia)
 obtain ⟨f1,f2,f3⟩:=cellsFrom_facts scope.names cl (H2.push { cls:=.type "dict",data:=.dict #[] }) hnd
 rw [Heap.size_push,hC] at f1 f2 f3
 generalize hcs:cellsFrom (C + 1) scope.names cl = cs at f1 f2 f3
 generalize hH4:pushCells (H2.push { cls:=.type "dict",data:=.dict #[] }) scope.names = H4 at f2
 have hk4:∀ b o,H2.get? b = some o->H4.get? b = some o:=fun b o e=>hH4 ▸ pushCells_keeps _ _ _ _ (Heap.get?_push_of_some _ e)
 have hns:H4.Ns C fun u_=>none:=by
  rw [<- hH4,<- hC]; exact (Heap.Ns.new H2 (.type "dict")).keeps (pushCells_keeps _ _)
 have ok3:=ok2.guard (tk:=s2.toks) [a] (fun b mb=>by rw [List.mem_singleton.mp mb]; exact han) hk2 (fun b mb=>by rw [List.mem_singleton.mp mb]; exact ⟨_,hga⟩)
 have ok3':Ok c.B c.lay (fun b=>(c.Q b ∨ b = a) ∨ b ∈ wr) c.nl A1 st1 { s2 with heap:=H2,toks:=s2.toks }:=ok3.weaken fun b q=>by
  rcases q with (q | q) | q
  ·exact .inl (.inl q)
  ·exact .inr (List.mem_singleton.mpr q)
  ·exact .inl (.inr q)
 have own:=own_nodup hnd
 have cellAddr:∀ x,scope.names.lookup x = some .cell->∃ c,cs.lookup x = some c /\ H4.IsCell c none /\ C + 1 <= c:=fun x q=>f2 x (mem_of_lookup q)
 have lge:=fun {l}=>loc_ge (l:=l) cellAddr
 obtain ⟨ok4,le4⟩:=ok3'.extend (h':=H4) (tk:=s2.toks) ((ownOf scope).map (locOf scope C cs)) (fun l ml=>Heap.get?_none_of_le (hC ▸ lge ml)) hk4 (loc_none cellAddr hns) (loc_apart cellAddr f3 own)
 have gx24:∀ b o,s2.heap.get? b = some o->H4.get? b = some o:=fun b o e=>hk4 b o (hk2 b o e)
 have fresh2:∀ b,s2.heap.get? b = none->s.heap.get? b = none:=fun b e=>not_live fun o q=>by
  obtain ⟨o',e'⟩:=g2.live b o q; rw [e] at e'; cases e'
 have hIw:∀ b ∈ wr,∃ o,s2.heap.get? b = some o:=fun b mb=>ok2.alive b (.inr (.inr mb))
 have hi4:ItRep (wd (c.lay ++ (ownOf scope).map (locOf scope C cs)) A1 (fun b=>(c.Q b ∨ b = a) ∨ b ∈ wr) H4) (c.nl - 1) I wr it:=by
  refine hi2.ext (w:=wd c.lay A1 (fun b=>c.Q b ∨ b ∈ wr) s2.heap) ⟨fun b o e u_=>.of (gx24 b o e),fun b o e q=>?_,fun u_ u_ u_ u_ e=>e⟩ (fun b mb o e=>gx24 b o e)
  have:=(le4 0).avoid b o (hk2 b o e) q
  rcases this with q | (q | q) | q
  ·exact .inl q
  ·exact .inr (.inl q)
  ·exact absurd q (hka b o e)
  ·exact .inr (.inr q)
 have eo':=EnvOk.inner c.wl.hg c.eo (scope:=scope) hkind hnd (fun x mx=>hfr x mx) (C:=C) (cs:=cs) (fun x q=>let ⟨c,q1,_⟩:=cellAddr x q; ⟨c,q1⟩)
  (fun x q=>by
   rw [f1 x (fun w=>by rw [mem_lookup hnd w] at q; cases q)]
   exact hcl2 x (mem_of_lookup q)) (cenv:={ scope:=relabel scope c.env,locals:=C,globals:=c.env.globals,cells:=cs,qual:=c.env.qual,func:=none,code:=c.env.code,frame:=c.env.frame,builtins:=c.env.builtins }) rfl rfl rfl rfl rfl rfl rfl
 refine compStart_sound (w:=wd (c.lay ++ (ownOf scope).map (locOf scope C cs)) A1 (fun b=>(c.Q b ∨ b = a) ∨ b ∈ wr) H4) (gens:=⟨t,i,ifs,0⟩ :: r) rfl hi4 rfl ?_
 unfold mkL at hf
 split at hf
 case isFalse=>cases hf
 rename_i hlen
 have hst:({ st1 with ρ:=st1.ρ ++ List.replicate (ownOf scope).length none }:St) = { st1 with ρ:=st1.ρ ++ List.replicate ((ownOf scope).map (locOf scope C cs)).length none }:=by rw [List.length_map]
 rw [hst] at h2
 have hPa:∀ b ∈ wr,¬ (c.Q b ∨ b = a):=fun b mb q=>by
  obtain ⟨o,e⟩:=hIw b mb
  rcases q with q | q
  ·obtain ⟨o',e'⟩:=ok.alive b (.inr q)
   rw [fr2 b mb] at e'; cases e'
  ·exact hka b o e q
 refine codeAny_mono (h2 ⟨c.B,c.H,compCX c.cx c.H.gl scope,_,_,fun b=>c.Q b ∨ b = a,c.nl,c.Ar,c.wl,eo',c.ao⟩ elt n (⟨t,i,ifs,0⟩ :: r) scope pos 0 t i ifs r ⟨hm,rfl,c1,c3,c4⟩ (tgt_ok hi1.1 hen) A1 _ I wr a [] 0 hPa (.inr rfl) ⟨ok4,hi4,hk4 _ _ hga⟩ (by simpa using hlen)) fun rr s6 h6=>?_
 obtain ⟨rfl,A2,its,k,gx,ok5,hg5,r5⟩:=h6
 have hdotI:∃ j:Nat,(ownOf scope)[j]? = some (".0" : Str):=by
  obtain ⟨j,hj⟩:=idx_some (mem_own hdot (.inl rfl))
  exact ⟨j,idx_get hj⟩
 obtain ⟨j,hj⟩:=hdotI
 have hlj:((ownOf scope).map (locOf scope C cs))[j]? = some (.dict C (".0" : Str)):=by
  rw [List.getElem?_map,hj]
  show some (locOf scope C cs _) = _
  unfold locOf
  rw [hdot,if_neg (by decide)]
 have hlj':(c.lay ++ (ownOf scope).map (locOf scope C cs))[c.lay.length + j]? = some (.dict C (".0" : Str)):=by
  rw [List.getElem?_append_right (Nat.le_add_right _ _),Nat.add_sub_cancel_left]; exact hlj
 obtain ⟨mC,hmC,_⟩:=ok5.slots _ _ hlj'
 have hlC:∀ l ∈ c.lay,l.addr ≠ C:=fun l ml q=>by
  obtain ⟨o,e⟩:=ok.alive l.addr (.inl (.inl ⟨l,ml,rfl⟩))
  obtain ⟨o',e'⟩:=g2.live _ o e
  have:=hk2 _ _ e'
  rw [q,hCn] at this; cases this
 obtain ⟨ok6,le6⟩:=ok5.shrink' ⟨_,List.mem_of_getElem? hlj,rfl⟩ hlC
 have hr6:=r5.mono (le6 (c.nl - 1)) (Nat.le_refl _)
 have haC:a ≠ C:=fun q=>Nat.lt_irrefl a (by
  have:a < C:=by rw [<- hC,hsz2]; exact Nat.lt_succ_self a
  rw [<- q] at this; exact this)
 have hnone4:∀ b,H4.get? b = none->s.heap.get? b = none:=fun b e=>fresh2 b (by
  cases q:s2.heap.get? b with
  | none=>rfl
  | some o=>rw [gx24 b o q] at e; cases e)
 have hX:∀ b,(b ∈ wr ∨ b = a)->s.heap.get? b = none:=fun b q=>by
  rcases q with q | q
  ·exact fr2 b q
  ·exact fresh2 b (q ▸ han)
 have hnew:∀ l ∈ (ownOf scope).map (locOf scope C cs),s.heap.get? l.addr = none:=fun l ml=>fresh2 _ (not_live fun o q=>by
  have:=hk2 _ _ q
  rw [Heap.get?_none_of_le (hC ▸ lge ml)] at this; cases this)
 have hkeep:∀ b o,s.heap.get? b = some o->¬ Tch c.lay A b->Kp s6.heap b o:=fun b o e nt=>by
  refine (g2.keep b o e nt).then fun o2 e2=>?_
  have e4:=gx24 b o2 e2
  exact gx.keep b o2 e4 (fun q=>by
   rcases q with ⟨l,ml,q⟩ | q
   ·rcases List.mem_append.mp ml with ml | ml
    ·exact nt (.inl ⟨l,ml,q⟩)
    ·have:=hnew l ml; rw [q,e] at this; cases this
   ·exact nt (g2.tch e (.inr q))) (fun q=>by rw [hX b q] at e; cases e)
 have hlive:∀ b o,s.heap.get? b = some o->∃ o',s6.heap.get? b = some o':=fun b o e=>by
  obtain ⟨o2,e2⟩:=g2.live b o e
  exact gx.live b o2 (gx24 b o2 e2) (fun q=>by rw [hX b q] at e; cases e)
 have hsame:∀ l i b,look A l i = some b->look A2 l i = some b:=fun l i b e=>gx.same l i b (g2.same l i b e)
 have hnw:∀ l i b,look A2 l i = some b->look A l i = some b ∨ s.heap.get? b = none:=fun l i b e=>by
  rcases gx.new l i b e with q | q | q
  ·exact g2.new l i b q
  ·exact .inr (hnone4 b q)
  ·exact .inr (hX b q)
 have hrest:s6.gens = s.gens /\ s6.drawn = s.drawn /\ s6.os = s.os:=⟨gx.rest.1.trans g2.rest.1,gx.rest.2.1.trans g2.rest.2.1,gx.rest.2.2.trans g2.rest.2.2⟩
 have hna:¬ c.Q a:=fun q=>by
  obtain ⟨o,e⟩:=ok.alive a (.inr q)
  rw [hX a (.inr rfl)] at e; cases e
 have hbl:c.cx.n = c.lay.length:=c.eo.len.symm
 have hCs:s.heap.get? C = none:=fresh2 C (not_live fun o q=>by rw [hk2 _ _ q] at hCn; cases hCn)
 rw [hbn,hbl] at hf
 have fin:∃ A3,Go c.lay A A3 s s6 /\ Ok c.B c.lay (fun b=>c.Q b ∨ b ∈ [C]) c.nl A3 st' s6 /\ Rel (wd c.lay A3 (fun b=>c.Q b ∨ b ∈ [C]) s6.heap) (c.nl - 1) (.ref a) v:=by
  split at hf
  ·obtain ⟨A3,a1,a2,ok7,r7⟩:=ok6.adopt (P:=fun b=>c.Q b ∨ b ∈ [C]) (fun b q=>q.imp .inl id) (.inl (.inr rfl)) (fun q=>q.elim hna fun q=>haC (List.mem_singleton.mp q)) hf fun w hw le u_=>⟨its,k,by rw [hw]; exact hg5,hr6.mono le (Nat.le_refl _)⟩
   refine ⟨A3,⟨hkeep,hlive,fun l i b e=>a1 l i b (hsame l i b e),fun l i b e=>?_,hrest⟩,ok7,r7⟩
   rcases a2 l i b e with q | q
   ·exact hnw l i b q
   ·exact .inr (by rw [q]; exact hX a (.inr rfl))
  ·cases hf
   refine ⟨A2,⟨hkeep,hlive,hsame,hnw,hrest⟩,ok6.weaken fun b q=>q.imp .inl id,.lst (fun q=>?_) hg5 (hr6.mono (show Wd.Le (c.nl - 1) (wd c.lay A2 (fun b=>(c.Q b ∨ b = a) ∨ b ∈ [C]) s6.heap) (wd c.lay A2 (fun b=>c.Q b ∨ b ∈ [C]) s6.heap) from ⟨fun u_ u_ e u_=>.of e,fun b _ _ (q:Avd c.lay A2 (fun b=>c.Q b ∨ b ∈ [C]) b)=>q.imp id fun q=>q.imp .inl id,fun u_ u_ u_ u_ e=>e⟩) (Nat.le_refl _))⟩
   rcases q with q | q | q
   ·exact ok6.disP a (.inl (.inr rfl)) q
   ·exact hna q
   ·exact haC (List.mem_singleton.mp q)
 obtain ⟨A3,g3,ok7,r7⟩:=fin
 have:=K a C A3 s6 g3 ok7 r7 hCs ⟨mC,hmC⟩
 cases use with
 | none=>exact ⟨mC,hmC,this⟩
 | some u=>exact this
theorem drop_dict {c:Cf P} {A A6 s s6 C} (ok:c.Ok A st s) (g:Go c.lay A A6 s s6) (ok6:(c.pr fun b=>c.Q b ∨ b ∈ [C]).Ok A6 st1 s6) (hC:s.heap.get? C = none) {h':Heap} (hs:Heap.SameBut C s6.heap h') :
  Go c.lay A A6 s { s6 with heap:=h' } /\ c.Ok A6 st1 { s6 with heap:=h' } /\ ∀ lv,Wd.Le lv ((c.pr fun b=>c.Q b ∨ b ∈ [C]).wd A6 s6.heap) (c.wd A6 h'):=by
 have hnC:∀ b ∈ [C],¬ c.Q b:=fun b q w=>by
  rw [List.mem_singleton.mp q] at w
  obtain ⟨o,e⟩:=ok.alive C (.inr w)
  rw [hC] at e; cases e
 have kp:∀ b o,b ≠ C->s6.heap.get? b = some o->h'.get? b = some o:=fun b o q e=>(hs.2 b q).trans e
 have ne:∀ b o,s.heap.get? b = some o->b ≠ C:=fun b o e q=>by rw [q,hC] at e; cases e
 refine ⟨⟨fun b o e nt=>(g.keep b o e nt).then fun o' e'=>.of (kp b o' (ne b o e) e'),fun b o e=>let ⟨o',e'⟩:=g.live b o e; ⟨o',kp b o' (ne b o e) e'⟩,g.same,g.new,g.rest⟩,
  Ok.forget (s':={ s6 with heap:=h' }) [C] ok6 hnC ⟨fun b o q e=>kp b o (fun w=>q (List.mem_singleton.mpr w)) e,rfl,rfl,rfl⟩ (fun b q=>ok.newFr (List.mem_singleton.mp q ▸ hC)),
  fun u_=>⟨fun b o e q=>.of (kp b o (fun w=>q (.inr (.inr (List.mem_singleton.mpr w)))) e),fun b u_ u_ q=>q.imp id .inl,fun u_ u_ u_ u_ e=>e⟩⟩
theorem E_comp {mu base n p i ifs cs elt it vs v st'} (h1:I P i st it st1) (hb:st1.ρ.length = base) (h2:C P (.mk p i ifs :: cs) elt it { st1 with ρ:=st1.ρ ++ List.replicate n none } vs st2) (h3:mkL mu vs { st2 with ρ:=st2.ρ.take base } = some (v,st')) :
  E P (.comp mu base n (.mk p i ifs :: cs) elt) st v st':=
 have u:=comp_core h1 hb h2 h3
 ⟨.inr u,fun c u_ u_ h A s F ok=>cmp_comp (R:=fun e=>cmpF c.H (cmp c.H _) c.cx (parts e) _ = true->c.W (eval e c.env) (c.Po A s st' v RV) F s) h (fun u_ u_ u_ u_ u_ u_ u_ u_ u_ u_ h=>by
  rw [eval_ListComp]
  refine u c _ _ _ _ _ h A s F ok none _ fun a C A6 s6 g ok6 r6 hC u_ h' hs=>?_
  obtain ⟨g7,ok7,le⟩:=drop_dict ok g ok6 hC hs
  exact ⟨A6,g7,ok7,r6.mono (le _) (Nat.le_refl _)⟩) h⟩
end
end
section
noncomputable def HdFr (Ar:Around) (env:Env):Prop:=∃ l,Ar.frames = some (env :: l)
section
variable {B:Base} {lay:List Loc} {P:Addr->Prop} {nl:Nat} {Ar:Around} {A:List (List Addr)} {st:St} {s:Shared} {E:Value->Shared->Prop}
end
theorem exec_AugAssign_Sub (o i:PySem.Expr) (spos:Pos) (op:Operator) (value:PySem.Expr) (pos:Pos) (hi:plainIx i = true):exec (.AugAssign (.Subscript o i spos) op value pos) env = (do
  standAt pos
  let ov <- eval o env
  let iv <- holding [ov] (eval i env)
  let new <- holding [ov,iv] do
   standAt spos
   let old <- getItem ov iv
   let v <- holding [old] (eval value env)
   standAt pos
   operate [old,v] (inplaceOp op old v)
  standAt spos
  holding [new,ov,iv] (setItem ov iv new)
  release [new,ov,iv] []
  pure .next):=by
 have e:exec (.AugAssign (.Subscript o i spos) op value pos) env = (do
  standAt pos
  let ov <- eval o env
  let iv <- holding [ov] (eval i env)
  let new <- holding [ov,iv] do
   standAt spos
   let old <- getItem ov iv
   let v <- holding [old] (eval value env)
   standAt pos
   operate [old,v] (inplaceOp op old v)
  standAt spos
  augStore i ov iv new):=rfl
 rw [e]
 cases i <;> first | rfl | cases hi
theorem swaps_no {v:PySem.Expr} (h:(parts v).tag ≠ 10) (h0:(parts v).tag ≠ 0) (t:Option PySem.Expr) (l:Nat) (env:Env):swapsWith v t l env = pure false:=by
 cases v with
 | ListComp _ _ _ _=>exact absurd rfl h
 | SetComp _ _ _ _=>exact absurd rfl h0
 | DictComp _ _ _ _ _=>exact absurd rfl h0
 | _=>rfl
theorem quiet {P:Pg} (c:Cf P):interactive c.env = false:=by
 unfold interactive
 rw [c.eo.kind]; rfl
section
variable {P:Pg}
noncomputable def LPost (c:Cf P) (X:Addr->Prop) (A:List (List Addr)) (s:Shared) (st':St) (fl:Fl) (r:Result) (s':Shared):Prop:=
 ∃ f,r = .ok f /\ ∃ A',GoX X c.lay A A' s s' /\ c.Ok A' st' s' /\ RelF (c.wd A' s'.heap) (c.nl - 1) f fl
theorem LPost.lift {c:Cf P} {X:Addr->Prop} {A A1 s s1 st' fl r s'} (g:GoX X c.lay A A1 s s1) (h:LPost c X A1 s1 st' fl r s'):LPost c X A s st' fl r s':=
 let ⟨f,hr,A',g',h⟩:=h
 ⟨f,hr,A',g.trans g',h⟩
noncomputable def notGo:MS->Bool
 | .whilGo _ _ _=>false
 | .forGo _ _ _ _=>false
 | _=>true
noncomputable def X1 (P:Pg) (m:MS) (st:St) (fl:Fl) (st':St):Prop:=notGo m = true /\ ∀ (c:Cf P) n d s,HdFr c.Ar c.env->cmpS c.H n d c.cx s m = true->c.Tri (exec s c.env) st fl st' RelF
noncomputable def XS (P:Pg) (ms:List MS) (st:St) (fl:Fl) (st':St):Prop:=∀ (c:Cf P) n d ss,HdFr c.Ar c.env->all2 (cmpS c.H n d c.cx) ss ms = true->c.Tri (execs ss c.env) st fl st' RelF
noncomputable def XW (P:Pg) (t:ME) (b o:List MS) (st:St) (fl:Fl) (st':St):Prop:=∀ (c:Cf P) n d t' b' o',HdFr c.Ar c.env->cmp c.H n c.cx t' t = true->all2 (cmpS c.H n d c.cx) b' b = true->all2 (cmpS c.H n d c.cx) o' o = true->∀ A s,c.Ok A st s->
 codeAny (model c.B.prog c.B.w) c.Ar (.whileLoop t' b' o' c.env) (LPost c (fun u_=>False) A s st' fl) s
noncomputable def XF (P:Pg) (p:MPat) (it:It) (b o:List MS) (st:St) (fl:Fl) (st':St):Prop:=∀ (c:Cf P) n d t b' o',HdFr c.Ar c.env->cmpP (cmp c.H n c.cx) c.cx.res 4 t p = true->all2 (cmpS c.H n d c.cx) b' b = true->all2 (cmpS c.H n d c.cx) o' o = true->tgtOk it t->
 ∀ A s I wr,(c.pw wr).Ok A st s->(∀ b ∈ wr,¬ c.Q b)->ItRep ((c.pw wr).wd A s.heap) (c.nl - 1) I wr it->codeAny (model c.B.prog c.B.w) c.Ar (.forLoop t (.ref I) b' o' c.env) (LPost c (fun b=>b ∈ wr) A s st' fl) s
noncomputable def X (P:Pg) (ms:List MS) (st:St) (fl:Fl) (st':St):Prop:=match ms with
 | .whilGo t b o :: _=>XW P t b o st fl st'
 | .forGo p it b o :: _=>XF P p it b o st fl st'
 | ms=>XS P ms st fl st'
theorem X.of {m ms st fl st'} (hm:notGo m = true) (h:XS P (m :: ms) st fl st'):X P (m :: ms) st fl st':=by
 cases m <;> first | exact h | exact (Bool.false_ne_true hm).elim
theorem X.at {ms st fl st'} (h:X P ms st fl st'):XS P ms st fl st':=by
 have no:∀ {m ms},(∀ {H n d cx s},cmpS H n d cx s m = true->False)->XS P (m :: ms) st fl st':=fun {m ms} k c n d ss _ h=>by
  cases ss with
  | nil=>exact (Bool.false_ne_true h).elim
  | cons _ _=>exact (k (and_t h).1).elim
 match ms,h with
 | [],h=>exact h
 | m :: ms,h=>
  cases m with
  | whilGo _ _ _=>exact no fun h=>cmpS_at (R:=fun u_=>False) h fun u_ u_ h=>Bool.false_ne_true h
  | forGo _ _ _ _=>exact no fun h=>cmpS_at (R:=fun u_=>False) h fun u_ u_ h=>Bool.false_ne_true h
  | _=>exact h
variable {st st1 st2 st3 st4:St}
theorem X_nil:X P [] st .next st:=fun u_ u_ u_ u_ u_ h u_ u_ u_ ok=>by
 cases all2_nil h
 exact wpAny_execs_nil (.pure ok .next)
theorem X_next {m ms fl} (h1:X1 P m st .next st1) (h2:X P ms st1 fl st2):X P (m :: ms) st fl st2:=.of h1.1 fun c n d u_ hd h u_ u_ u_ ok=>by
 obtain ⟨s,ss,rfl,h,k⟩:=all2_cons h
 refine wpAny_execs_cons (Cf.go (h1.2 c n d s hd h) ok fun f s1 A1 g1 ok1 r1=>?_)
 cases r1
 exact Cf.end g1 (h2.at c n d ss hd k _ _ _ ok1)
theorem X_ret {m ms v} (h1:X1 P m st (.ret v) st1):X P (m :: ms) st (.ret v) st1:=.of h1.1 fun c n d u_ hd h u_ u_ u_ ok=>by
 obtain ⟨s,ss,rfl,h,k⟩:=all2_cons h
 refine wpAny_execs_cons (Cf.go (h1.2 c n d s hd h) ok fun f s1 A1 g1 ok1 r1=>?_)
 cases r1
 exact ⟨A1,g1,ok1,.ret ‹_›⟩
theorem X_brk {m ms} (h1:X1 P m st .brk st1):X P (m :: ms) st .brk st1:=.of h1.1 fun c n d u_ hd h u_ u_ u_ ok=>by
 obtain ⟨s,ss,rfl,h,k⟩:=all2_cons h
 refine wpAny_execs_cons (Cf.go (h1.2 c n d s hd h) ok fun f s1 A1 g1 ok1 r1=>?_)
 cases r1
 exact ⟨A1,g1,ok1,.brk⟩
theorem X_one {m fl} (h:X1 P m st fl st1):X P [m] st fl st1:=by
 cases fl with
 | next=>exact X_next h X_nil
 | brk=>exact X_brk h
 | ret v=>exact X_ret h
theorem X1_expr {e v} (h1:E P e st v st1):X1 P (.expr e) st .next st1:=⟨rfl,fun c u_ u_ u_ u_ h u_ u_ u_ ok=>cmpS_expr h fun u_ u_ hn h=>
 wpAny_Expr_any (Cf.go (h1.at h) ok fun u_ u_ A1 g1 ok1 u_=>⟨A1,g1,ok1,.next⟩) (quiet c) (swaps_no hn (cmp_tag h) _ _ _)⟩
theorem X1_ret {e v} (h1:E P e st v st1):X1 P (.ret e) st (.ret v) st1:=⟨rfl,fun u_ u_ u_ u_ u_ h u_ u_ u_ ok=>cmpS_ret h fun u_ u_ h=>
 wpAny_Return_some (Cf.go (h1.at h) ok fun u_ u_ A1 g1 ok1 r1=>⟨A1,g1,ok1,.ret r1⟩)⟩
theorem X1_brk:X1 P .brk st .brk st:=⟨rfl,fun u_ u_ u_ u_ u_ h u_ u_ u_ ok=>cmpS_brk h fun p=>wpAny_bind (m:=standAt p) (wpAny_standAt (wpAny_pure (.pure ok .brk)))⟩
theorem X1_iteT {t a b fl} (h1:T P 8 t st true st1) (h2:X P a st1 fl st2):X1 P (.ite t a b) st fl st2:=⟨rfl,fun c n u_ u_ hd h u_ u_ u_ ok=>cmpS_ite h fun d u_ u_ u_ u_ ht ha u_=>
 wpAny_If (Cf.go (h1.at ht) ok fun u_ u_ u_ g1 ok1 r1=>if_t r1 (Cf.end g1 (h2.at c n d _ hd ha _ _ _ ok1)))⟩
theorem X1_iteF {t a b fl} (h1:T P 8 t st false st1) (h2:X P b st1 fl st2):X1 P (.ite t a b) st fl st2:=⟨rfl,fun c n u_ u_ hd h u_ u_ u_ ok=>cmpS_ite h fun d u_ u_ u_ u_ ht u_ hb=>
 wpAny_If (Cf.go (h1.at ht) ok fun u_ u_ u_ g1 ok1 r1=>if_f r1 (Cf.end g1 (h2.at c n d _ hd hb _ _ _ ok1)))⟩
theorem X1_augS {i op e old v new} (h0:st.ρ[i]? = some (some old)) (h1:E P e st v st1) (h2:augV st1 op old v = some (new,st2)) (_:i < st2.ρ.length):X1 P (.augS i op e) st .next { st2 with ρ:=st2.ρ.set i (some new) }:=⟨rfl,fun c n u_ u_ u_ h A s F ok=>cmpS_augS h fun t v' p ht hv=>by
 obtain ⟨ht,hr⟩:=and_t ht
 rw [<- (build_2 (dec_t ht)).symm.trans (build_parts t)]
 exact wpAny_AugAssign_Name (load_nm ok hr h0 (isClo_of fun u_ u_ q=>by rw [q] at h2; cases h2) fun u hu=>Cf.go (h1.at hv) ok fun u_ u_ u_ g1 ok1 r1=>Cf.use (augV_sound ok1 (Cf.Rel.go hu g1) r1 h2) fun u_ u_ u_ g2 ok2 r2=>
  Cf.use (store_sound ok2 (dec_t (and_t hr).2) r2) fun u_ u_ A3 g3 ok3 u_=>⟨A3,(g1.trans g2).trans g3,ok3,.next⟩)⟩
theorem X1_augI {o i op e ov iv old v new st5} (h1:E P o st ov st1) (h2:E P i st1 iv st2) (h3:subV st2 ov iv = some old) (h4:E P e st2 v st3) (h5:augV st3 op old v = some (new,st4)) (h6:setItemV st4 ov iv new = some st5):X1 P (.augI o i op e) st .next st5:=⟨rfl,fun c n u_ u_ u_ h A s F ok=>cmpS_augI h fun o' i' v' p q hp ho hi hv=>by
 rw [exec_AugAssign_Sub o' i' _ op v' _ hp]
 refine wpAny_bind (wpAny_standAt (wpAny_bind (Cf.go (h1.at ho) ok fun ova s1 A1 g1 ok1 r1=>wpAny_bind (wpAny_holding (Cf.go (h2.at hi) ok1 fun iva s2 A2 g2 ok2 r2=>?_)))))
 have r1':=Cf.Rel.go r1 g2
 refine wpAny_bind (wpAny_holding (wpAny_bind (wpAny_standAt (wpAny_bind (Cf.use (getItem_sound ok2 r1' r2 h3) fun olda s3 A3 g3 ok3 r3=>wpAny_bind (wpAny_holding (Cf.go (h4.at hv) ok3 fun va s4 A4 g4 ok4 r4=>?_)))))))
 refine wpAny_bind (wpAny_standAt (wpAny_operateT (Cf.use (augV_sound ok4 (Cf.Rel.go r3 g4) r4 h5) fun newa s5 A5 g5 ok5 r5=>?_)))
 have g25:=(g3.trans g4).trans g5
 refine wpAny_bind (wpAny_standAt (wpAny_bind (wpAny_holding (Cf.use (setItemV_sound ok5 (Cf.Rel.go r1' g25) (Cf.Rel.go r2 g25) r5 h6) fun u_ s6 A6 g6 ok6 u_=>?_))))
 exact wpAny_bind (wpAny_release (wpAny_pure ⟨A6,((g1.trans g2).trans g25).trans g6,ok6,.next⟩))⟩
noncomputable def whileK (t:PySem.Expr) (b o:List Stmt) (env:Env) (v:Bool):Sem Fin:=if v = true then (do
  match <- execs b env with
  | .next | .cont=>again (.whileLoop t b o env)
  | .brk=>pure (.done .next)
  | .ret v=>pure (.done (.ret v)))
 else do return .done (<- execs o env)
section
variable {c:Cf P} {n d:Nat} {A:List (List Addr)} {s:Shared} {R:Result->Shared->Prop} {t':PySem.Expr} {b' o':List Stmt} {fl:Fl} {v:V}
theorem while_code (h:∀ F,c.W (isTrue t' c.env (eval t' c.env)) (fun v s1=>c.W (whileK t' b' o' c.env v) (Fin.to c R) F s1) F s):codeAny (model c.B.prog c.B.w) c.Ar (.whileLoop t' b' o' c.env) R s:=by
 refine codeAny_of_tree ?_
 show wpAny _ c.Ar ((isTrue t' c.env (eval t' c.env) >>= whileK t' b' o' c.env).onRaise (fun x=>do noteFrame x c.env; theTreesLotGoes x)) _ _ s
 exact wpAny_onRaise (wpAny_bind (wpAny_mono (h _) (fun u_ u_ h=>wpAny_mono h (fun r s1 h=>by cases r <;> exact h) fun u_ u_ e=>e) fun u_ u_ e=>e))
end
theorem X1_whil {t b o fl} (h:X P [.whilGo t b o] st fl st1):X1 P (.whil t b o) st fl st1:=⟨rfl,fun c n u_ u_ hd hc A s u_ ok=>cmpS_whil hc fun d t' b' o' u_ ht hb ho=>
 wpAny_While (codeAny_mono (h c n d t' b' o' hd ht hb ho A s ok) fun r s1 ⟨f,hr,A1,g,ok1,r1⟩=>hr ▸ ⟨A1,g.toGo fun u_ h=>h.elim,ok1,r1⟩)⟩
theorem W_on {t b o fl} (h1:T P 8 t st true st1) (h2:X P b st1 .next st2) (h3:X P [.whilGo t b o] st2 fl st3):X P [.whilGo t b o] st fl st3:=fun c n d t' b' o' hd ht hb ho A s ok=>while_code fun F=>Cf.go (h1.at ht) ok fun v s1 A1 g1 ok1 r1=>by
 cases r1
 refine wpAny_bind (Cf.go (h2.at c n d b' hd hb) ok1 fun f s2 A2 g2 ok2 r2=>?_)
 cases r2
 exact again_to rfl (codeAny_mono (h3 c n d t' b' o' hd ht hb ho A2 s2 ok2) fun u_ u_ q=>q.lift (g1.trans g2).toX)
theorem W_end {t b o fl} (h1:T P 8 t st false st1) (h2:X P o st1 fl st2):X P [.whilGo t b o] st fl st2:=fun c n d t' b' o' hd ht hb ho A s ok=>while_code fun F=>Cf.go (h1.at ht) ok fun v s1 A1 g1 ok1 r1=>by
 cases r1
 exact wpAny_bind (Cf.go (h2.at c n d o' hd ho) ok1 fun f s2 A2 g2 ok2 r2=>wpAny_pure ⟨f,rfl,A2,(g1.trans g2).toX,ok2,r2⟩)
end
end
section
noncomputable def forB (t:PySem.Expr) (it:Value) (b o:List Stmt) (env:Env):Sem Fin:=do
 match <- execs b env with
 | .next | .cont=>again (.forLoop t it b o env)
 | .brk=>pure (.done .next)
 | .ret v=>pure (.done (.ret v))
noncomputable def forK (t:PySem.Expr) (it:Value) (b o:List Stmt) (env:Env):Option Value->Sem Fin
 | none=>again (.block o env)
 | some v=>do
  letOwnedTupleGo t it v
  assign t env v
  forB t it b o env
theorem Stepped.toX {lay A wr s s'} (sp:Stepped wr s s'):GoX (fun b=>b ∈ wr) lay A A s s':=⟨fun b o e u_ x=>.of (sp.keep b o x e),fun b o e x=>⟨o,sp.keep b o x e⟩,fun u_ u_ u_ e=>e,fun u_ u_ u_ e=>.inl e,sp.rest⟩
section
variable {P:Pg} {c:Cf P} {n d:Nat} {A:List (List Addr)} {s:Shared} {R:Result->Shared->Prop} {t':PySem.Expr} {b' o':List Stmt} {I:Addr} {wr:List Addr} {st st1 st2 st3:St} {it it':It} {p:MPat} {b o:List MS} {v:V} {fl:Fl}
theorem for_code (h:∀ F,c.W (pyNext (.ref I)) (fun r s1=>c.W (forK t' (.ref I) b' o' c.env r) (Fin.to c R) F s1) F s):codeAny (model c.B.prog c.B.w) c.Ar (.forLoop t' (.ref I) b' o' c.env) R s:=by
 refine codeAny_of_tree ?_
 show wpAny _ c.Ar ((do
  standAt t'.pos
  let r <- (pyNext (.ref I)).onRaise (fun u_=>standAt { t'.pos with line:=0 })
  forK t' (.ref I) b' o' c.env r).onRaise (fun x=>do noteFrame x c.env; theTreesLotGoes x)) _ _ s
 exact wpAny_onRaise (wpAny_bind (wpAny_standAt (wpAny_bind (wpAny_onRaise (wpAny_mono (h _) (fun u_ u_ h=>wpAny_mono h (fun r s1 h=>by cases r <;> exact h) fun u_ u_ e=>e) fun u_ u_ e=>wpAny_standAt e)))))
theorem F_item (h0:it.next st = some (some (v,it'))) (h1:As P 4 p v st st1) (hp:cmpP (cmp c.H n c.cx) c.cx.res 4 t' p = true) (ht:tgtOk it t') (ok:(c.pw wr).Ok A st s) (hi:ItRep ((c.pw wr).wd A s.heap) (c.nl - 1) I wr it)
  (K:∀ A3 s3 F,GoX (fun b=>b ∈ wr) c.lay A A3 s s3->(c.pw wr).Ok A3 st1 s3->ItRep ((c.pw wr).wd A3 s3.heap) (c.nl - 1) I wr it'->c.W (forB t' (.ref I) b' o' c.env) (Fin.to c R) F s3) :
  codeAny (model c.B.prog c.B.w) c.Ar (.forLoop t' (.ref I) b' o' c.env) R s:=
 for_code fun F=>wpAny_mono (next_item (E:=F) ok c.ao.handled (fun u_ m=>.inr m) hi h0 ht) (fun r s1 ⟨v,hr,hv⟩=>by
  subst hr
  exact wpAny_bind (wpAny_mono hv (fun _ s2 ⟨sp,ok2,r2,hi2⟩=>wpAny_bind (Cf.use (c:=c.pw wr) (h1.2 (c.pw wr) n 4 t' hp A s2 _ _ ok2 r2) fun u_ s3 A3 g3 ok3 u_=>K A3 s3 F (sp.toX.trans g3.toX) ok3 (hi2.go ok2 (fun u_ m=>.inr m) g3))) fun u_ u_ e=>e)) fun u_ u_ e=>e
theorem F_on {fl} (h0:it.next st = some (some (v,it'))) (h1:As P 4 p v st st1) (h2:X P b st1 .next st2) (h3:X P [.forGo p it' b o] st2 fl st3):X P [.forGo p it b o] st fl st3:=fun c n d t' b' o' hd hp hb ho ht A s I wr ok hw hi=>
 F_item h0 h1 hp ht ok hi fun A3 s3 F g3 ok3 hi3=>by
  refine wpAny_bind (Cf.go (c:=c.pw wr) (h2.at (c.pw wr) n d b' hd hb) ok3 fun f s4 A4 g4 ok4 r4=>?_)
  cases r4
  exact again_to rfl (codeAny_mono (h3 c n d t' b' o' hd hp hb ho (tgt_next h0 ht) A4 s4 I wr ok4 hw (hi3.go ok3 (fun u_ m=>.inr m) g4)) fun u_ u_ q=>q.lift (g3.trans g4.toX))
theorem F_brk (h0:it.next st = some (some (v,it'))) (h1:As P 4 p v st st1) (h2:X P b st1 .brk st2):X P [.forGo p it b o] st .next st2:=fun c n d t' b' o' hd hp hb ho ht A s I wr ok hw hi=>
 F_item h0 h1 hp ht ok hi fun A3 s3 F g3 ok3 hi3=>by
  refine wpAny_bind (Cf.go (c:=c.pw wr) (h2.at (c.pw wr) n d b' hd hb) ok3 fun f s4 A4 g4 ok4 r4=>?_)
  cases r4
  exact wpAny_pure ⟨_,rfl,A4,g3.trans g4.toX,ok4.weaken fun b q=>.inl q,.next⟩
theorem F_end {fl} (h0:it.next st = some none) (h1:X P o st fl st1):X P [.forGo p it b o] st fl st1:=fun c n d t' b' o' hd hp hb ho ht A s I wr ok hw hi=>
 for_code fun F=>wpAny_mono (next_done ok c.ao.handled hi h0) (fun r0 s1 ⟨hr,sp⟩=>by
  subst hr
  exact again_to rfl (codeAny_block (Cf.go (h1.at c n d o' hd ho) (ok.forget wr hw sp fun b m=>ok.notFr (hi.nf b m)) fun f s2 A2 g2 ok2 r2=>⟨f,rfl,A2,sp.toX.trans g2.toX,ok2,r2⟩))) fun u_ u_ e=>e
end
section
variable {P:Pg} {st st1 st2:St}
theorem X1_for {p i b o it fl} (h1:I P i st it st1) (h2:X P [.forGo p it b o] st1 fl st2):X1 P (.for_ p i b o) st fl st2:=⟨rfl,fun c n u_ u_ hd hc A s F ok=>cmpS_for hc fun d t i' b' o' u_ he hp hI hb ho=>by
 obtain ⟨hfold,hit⟩:=h1.2 c n i' hI
 refine wpAny_For (wpAny_mono (hit A s F ok) (fun x s1 q1=>wpAny_mono q1 (fun iv s2 q2=>?_) fun u_ u_ e=>e) fun u_ u_ e=>e) hfold
 obtain ⟨I,wr,A1,rfl,g2,fr2,ok2,hi2⟩:=q2
 have hwP:∀ b ∈ wr,¬ c.Q b:=fun b mb w=>by
  obtain ⟨o,e⟩:=ok.alive b (.inr w)
  rw [fr2 b mb] at e; cases e
 refine codeAny_mono (h2 c n d t b' o' hd hp hb ho (tgt_ok h1.1 he) A1 s2 I wr ok2 hwP hi2) fun r s3 ⟨f,hr,A3,g3,ok3,r3⟩=>?_
 subst hr
 exact ⟨A3,(g2.toX.trans g3).toGo fr2,ok3,r3⟩⟩
end
end
section
theorem exec_Assign1 (t v:PySem.Expr) (pos:Pos):exec (.Assign [t] v pos) env = (do
  standAt pos
  if <- swapsWith v (some t) pos.line env then do
   evalThenUse v env fun v=>assignAll v ((assignEach [t] env).map (·.2))
   pure .next
  else do
   let x <- eval v env
   assignStores env x (<- swappedStores [t] v env) ((assignEach [t] env).map (·.2))):=rfl
noncomputable def nameAt (env:Env) (line:Nat):PySem.Expr->Option Str
 | .Name id pos=>if (env.kindOf id == some .local && pos.line == line) = true then some id else none
 | _=>none
noncomputable def swapM (env:Env) (ts vs:List PySem.Expr) (names:List Str):Sem (Option (List Str)):=
 if (!(ts.length == 2 || ts.length == 3) || vs.length != ts.length || env.blockKind != .function) = true then pure none
 else if (vs.any fun | .Starred ..=>true | _=>false) = true then pure none
 else if (names.length != ts.length || names.eraseDups.length != names.length) = true then pure none
 else if (vs.all (foldedForSure 8)) = true then pure none
 else if (vs.all (constantsAlone 8)) = true then unsupported "assign.tuple-of-constant-expressions:order-of-the-stores"
 else pure (some names)
theorem ite_or {p:Prop} [Decidable p] {α:Type} {a b x:α} {Q:Prop} (h:¬ p->b = a ∨ b = x /\ Q):(if p then a else b) = a ∨ (if p then a else b) = x /\ Q:=by
 by_cases k:p
 ·exact .inl (if_pos k)
 ·rw [if_neg k]; exact h k
theorem swapM_cases {env:Env} {ts vs:List PySem.Expr} {names:List Str} (hk:(!(vs.all (constantsAlone 8)) || vs.all (foldedForSure 8)) = true):swapM env ts vs names = pure none ∨ swapM env ts vs names = pure (some names) /\ names.length = ts.length:=
 ite_or fun u_=>ite_or fun u_=>ite_or fun hl=>ite_or fun h4=>by
  cases h5:vs.all (constantsAlone 8) with
  | true=>rw [h5] at hk; exact absurd hk h4
  | false=>exact .inr ⟨if_neg Bool.false_ne_true,by
   cases q:names.length != ts.length with
   | true=>exact absurd (by rw [q]; rfl) hl
   | false=>simpa using q⟩
theorem swapped_cases (env:Env) (t v:PySem.Expr) (p:MPat) {f:PySem.Expr->ME->Bool} {res:Str->Option Nat} {d:Nat} (hp:cmpP f res d t p = true) (hk:okSwap t v p = true) :
  swappedStores [t] v env = pure none ∨ ∃ ts k q line,t = .Tuple ts k q /\ swappedStores [t] v env = pure (some (ts.filterMap (nameAt env line))) /\ (ts.filterMap (nameAt env line)).length = ts.length /\ (slotsOf p).Nodup:=by
 have two:(parts t).tag ≠ 14->swappedStores [t] v env = pure none:=fun h=>by
  have tg:(parts t).tag = 2 ∨ (parts t).tag = 14 ∨ (parts t).tag = 11:=by
   cases p with
   | slot i=>exact cmpP_slot (R:=fun e=>(parts e).tag = 2 ∨ (parts e).tag = 14 ∨ (parts e).tag = 11) hp fun u_ u_ u_=>.inl rfl
   | tup ps=>exact cmpP_tup (R:=fun e=>(parts e).tag = 2 ∨ (parts e).tag = 14 ∨ (parts e).tag = 11) hp fun u_ u_ u_ u_ u_=>.inr (.inl rfl)
   | sub o i=>exact cmpP_sub (R:=fun e=>(parts e).tag = 2 ∨ (parts e).tag = 14 ∨ (parts e).tag = 11) hp fun u_ u_ u_ u_ u_=>.inr (.inr rfl)
  rcases tg with q | q | q
  ·exact built (R:=fun t=>swappedStores [t] v env = pure none) (build_2 q) rfl
  ·exact absurd q h
  ·exact built (R:=fun t=>swappedStores [t] v env = pure none) (build_11 q) rfl
 by_cases ht:(parts t).tag = 14
 ·have et:=(build_14 ht).symm.trans (build_parts t)
  rw [<- et] at hk ⊢
  generalize (parts t).es = ts at hk ⊢
  by_cases hv:(parts v).tag = 14
  ·rw [<- (build_14 hv).symm.trans (build_parts v)] at hk ⊢
   generalize (parts v).es = vs at hk ⊢
   have hk:=and_t (show ((!(vs.all (constantsAlone 8)) || vs.all (foldedForSure 8)) && decide (slotsOf p).Nodup) = true from hk)
   have e:swappedStores [.Tuple ts (parts t).n (parts t).p] (.Tuple vs (parts v).n (parts v).p) env = swapM env ts vs (ts.filterMap (nameAt env ((ts.head?.map (·.pos.line)).getD 0))):=rfl
   rw [e]
   exact (swapM_cases hk.1).imp id fun h=>⟨ts,_,_,_,rfl,h.1,h.2,dec_t hk.2⟩
  ·refine .inl ?_
   cases v with
   | Tuple _ _ _=>exact absurd rfl hv
   | _=>rfl
 ·exact .inl (two ht)
theorem set_out (x:Nat × V):∀ (l:List (Nat × V)) (ρ:List (Option V)),x.1 ∉ l.map (·.1)->setMany (ρ.set x.1 (some x.2)) l = (setMany ρ l).set x.1 (some x.2)
 | [],_,_=>rfl
 | y :: r,ρ,h=>by
  have h1:x.1 ≠ y.1:=fun q=>h (by rw [q]; exact List.mem_cons_self)
  have h2:x.1 ∉ r.map (·.1):=fun q=>h (List.mem_cons_of_mem _ q)
  show setMany ((ρ.set x.1 (some x.2)).set y.1 (some y.2)) r = _
  rw [List.set_comm _ _ h1,set_out x r _ h2]; rfl
theorem setMany_append (l l':List (Nat × V)) (ρ:List (Option V)):setMany ρ (l ++ l') = setMany (setMany ρ l) l':=by
 unfold setMany; rw [List.foldl_append]
theorem setMany_rev:∀ (l:List (Nat × V)) (ρ:List (Option V)),(l.map (·.1)).Nodup->setMany ρ l.reverse = setMany ρ l
 | [],_,_=>rfl
 | x :: r,ρ,h=>by
  obtain ⟨h1,h2⟩:=List.nodup_cons.mp h
  rw [List.reverse_cons,setMany_append]
  show (setMany ρ r.reverse).set x.1 (some x.2) = setMany (ρ.set x.1 (some x.2)) r
  rw [setMany_rev r ρ h2,set_out x r ρ h1]
section
variable {P:Pg} {st st1 st2:St}
theorem store_many {c:Cf P} {F:Value->Shared->Prop}:∀ (l:List (Str × Nat)) (items:List Value) (zs:List V) (st:St) (A:List (List Addr)) (s:Shared),(∀ x ∈ l,c.cx.res x.1 = some x.2)->zs.length = l.length->c.Ok A st s->RelL (c.wd A s.heap) (c.nl - 1) items zs->
  c.W (assignInOrder (l.map fun x=>bindName c.env x.1) items) (c.Po A s { st with ρ:=setMany st.ρ ((l.map (·.2)).zip zs) } () RU) F s
 | [],items,zs,st,A,s,_,hz,ok,hr=>by
  cases zs with
  | cons _ _=>cases hz
  | nil=>
   cases hr
   exact wpAny_pure (.pure ok trivial)
 | x :: r,items,zs,st,A,s,hx,hz,ok,hr=>by
  cases hr with
  | nil=>cases hz
  | cons r1 r2=>exact wpAny_bind (wpAny_holding (wpAny_bindName (Cf.use (store_sound ok (hx x List.mem_cons_self) r1) fun u_ s1 A1 g1 ok1 u_=>
    Cf.end g1 (store_many r _ _ _ A1 s1 (fun y m=>hx y (List.mem_cons_of_mem _ m)) (Nat.succ.inj hz) ok1 (RelL.go r2 g1)))))
theorem swap_names {f:PySem.Expr->ME->Bool} {res:Str->Option Nat} {d line:Nat} {env:Env}:∀ {ts:List PySem.Expr} {ps:List MPat},all2 (cmpP f res d) ts ps = true->(ts.filterMap (nameAt env line)).length = ts.length->
  ∃ l:List (Str × Nat),ts.filterMap (nameAt env line) = l.map (·.1) /\ (∀ x ∈ l,res x.1 = some x.2) /\ ps = (l.map (·.2)).map .slot
 | [],[],_,_=>⟨[],rfl,fun u_ m=>(nomatch m),rfl⟩
 | [],_ :: _,h,_=>(Bool.false_ne_true h).elim
 | _ :: _,[],h,_=>(Bool.false_ne_true h).elim
 | t :: ts,p :: ps,h,hl=>by
  cases hid:nameAt env line t with
  | none=>
   rw [List.filterMap_cons_none hid] at hl
   exact absurd (List.length_filterMap_le (nameAt env line) ts) (by rw [hl]; exact Nat.not_succ_le_self _)
  | some id=>
   rw [List.filterMap_cons_some hid] at hl ⊢
   obtain ⟨l,a1,a2,a3⟩:=swap_names (env:=env) (line:=line) (and_t h).2 (Nat.succ.inj hl)
   cases t with
   | Name x pos=>
    have hxe:x = id:=by
     exact (if_some (show (if (env.kindOf x == some .local && pos.line == line) = true then some x else none) = some id from hid)).2
    subst hxe
    have hp:=(and_t h).1
    have tg:∀ i,p = .slot i->res x = some i:=fun i q=>by
     subst q
     exact cmpP_slot (R:=fun e=>e = .Name x pos->res x = some i) hp (fun y q hy e=>by cases e; exact hy) rfl
    cases p with
    | slot i=>exact ⟨(x,i) :: l,by rw [a1]; rfl,fun y m=>(List.mem_cons.mp m).elim (fun q=>q ▸ tg i rfl) (a2 y),by rw [a3]; rfl⟩
    | tup _=>exact (cmpP_tup (R:=fun e=>e = .Name x pos->False) hp (fun u_ u_ u_ u_ u_ e=>nomatch e) rfl).elim
    | sub _ _=>exact (cmpP_sub (R:=fun e=>e = .Name x pos->False) hp (fun u_ u_ u_ u_ u_ e=>nomatch e) rfl).elim
   | _=>cases hid
theorem slots_of:∀ l:List Nat,slotsOf (.tup (l.map .slot)) = l
 | []=>rfl
 | x :: l=>congrArg (x :: ·) (slots_of l)
theorem zip_rev {α β:Type} {l:List α} {m:List β} (h:m.length = l.length):(l.reverse.zip m.reverse) = (l.zip m).reverse:=by
 induction l generalizing m with
 | nil=>rfl
 | cons a l ih=>
  cases m with
  | nil=>cases h
  | cons b m=>
   rw [List.reverse_cons,List.reverse_cons,List.zip_append (by simpa using h.symm),ih (Nat.succ.inj h)]
   exact List.reverse_cons.symm
theorem cmpP_tuple {f:PySem.Expr->ME->Bool} {res:Str->Option Nat} {d k:Nat} {q:Pos} {ts:List PySem.Expr} {p:MPat} (h:cmpP f res (d + 1) (.Tuple ts k q) p = true):∃ ps,p = .tup ps /\ all2 (cmpP f res d) ts ps = true:=by
 cases p with
 | tup ps=>exact ⟨ps,rfl,h⟩
 | slot i=>exact (Bool.false_ne_true h).elim
 | sub _ _=>exact (Bool.false_ne_true h).elim
theorem assign_tail {c:Cf P} {n t' v' p z x A s F} (h2:As P 4 p z st st1) (hk:okSwap t' v' p = true) (hp:cmpP (cmp c.H n c.cx) c.cx.res 4 t' p = true) (ok:c.Ok A st s) (hx:c.Rel A s x z) :
  c.W (do assignStores c.env x (<- swappedStores [t'] v' c.env) ((assignEach [t'] c.env).map (·.2))) (c.Po A s st1 .next RelF) F s:=by
 have hea:(assignEach [t'] c.env).map (·.2) = [assign t' c.env]:=(assignEach_of (f:=cmp c.H n c.cx) (res:=c.cx.res) (d:=4) (es:=[t']) (ps:=[p]) (Bool.and_eq_true_iff.mpr ⟨hp,rfl⟩)).2
 rcases swapped_cases c.env t' v' p hp hk with h | ⟨ts,k,q,line,rfl,h,hlen,hnd⟩
 ·rw [h]
  refine wpAny_bind (wpAny_pure ?_)
  show c.W (do assignAll x ((assignEach [t'] c.env).map (·.2)); pure Flow.next) _ _ _
  rw [hea]
  exact wpAny_bind (Cf.use (h2.2 c n 4 t' hp A s F x ok hx) fun u_ u_ A2 g2 ok2 u_=>wpAny_pure ⟨A2,g2,ok2,.next⟩)
 ·rw [h]
  refine wpAny_bind (wpAny_pure ?_)
  obtain ⟨ps,rfl,ha⟩:=cmpP_tuple (d:=3) hp
  obtain ⟨l,a1,a2,rfl⟩:=swap_names (env:=c.env) (line:=line) ha hlen
  obtain ⟨zs,rfl,hz,hst⟩:=h2.1.2 _ rfl
  rw [List.length_map] at hz
  cases hx with
  | @tup a items mm _ h1 h2 h3=>
   show c.W (do
    rule "assign.swapped-stores"
    let items <- unpackItems _ (ts.filterMap (nameAt c.env line)).length none
    assignInOrder ((ts.filterMap (nameAt c.env line)).reverse.map fun n=>bindName c.env n) items.reverse
    pure Flow.next) _ _ _
   rw [a1,show (l.map (·.1)).length = items.toArray.size by rw [List.length_map,List.size_toArray,h3.length,hz]]
   refine wpAny_bind (wpAny_rule (wpAny_bind (wpAny_unpackItems_tuple c.ao.handled (isTuple_of h2) fun h' hx=>?_)))
   obtain ⟨ok2,g2⟩:=ok.grow (tk:=s.toks) (h':=h') fun b o e=>hx b o (Nat.ne_of_lt (Heap.lt_size e)) e
   rw [show (l.map (·.1)).reverse.map (fun n=>bindName c.env n) = l.reverse.map (fun x=>bindName c.env x.1) by rw [<- List.map_reverse,List.map_map]; rfl]
   have hrev:=RelL.reverse (h3.mono (g2.le c.Q _) (Nat.le_refl _))
   refine wpAny_bind (Cf.use (store_many l.reverse _ zs.reverse st A _ (fun y my=>a2 y (List.mem_reverse.mp my)) (by simpa using hz) ok2 hrev) fun u_ s3 A3 g3 ok3 u_=>?_)
   rw [List.map_reverse,zip_rev (by simpa using hz),setMany_rev _ _ (by rw [List.map_fst_zip (by simpa using Nat.le_of_eq hz.symm)]; rw [slots_of] at hnd; exact hnd),<- hst] at ok3
   exact wpAny_pure ⟨A3,g2.trans g3,ok3,.next⟩
theorem lc_of {v:PySem.Expr} (h:(parts v).tag = 10):∃ a b s p,v = .ListComp a b s p:=by
 cases v with
 | ListComp a b s p=>exact ⟨a,b,s,p,rfl⟩
 | _=>exact nomatch h
theorem swaps_lc (elt:PySem.Expr) (gens:List Comprehension) (scope:Scope) (vpos:Pos) (t:PySem.Expr) (l:Nat) (env:Env):swapsWith (.ListComp elt gens scope vpos) (some t) l env = pure false ∨ ∃ x p,t = .Name x p:=by
 cases t with
 | Name x p=>exact .inr ⟨x,p,rfl⟩
 | _=>exact .inl rfl
theorem X1_assign {p e v} (h1:E P e st v st1) (h2:As P 4 p v st1 st2):X1 P (.assign p e) st .next st2:=⟨rfl,fun c n u_ u_ u_ h A s F ok=>cmpS_assign h fun t' v' pos hk hp hm=>by
 rw [exec_Assign1]
 refine wpAny_bind (wpAny_standAt ?_)
 have plain:swapsWith v' (some t') pos.line c.env = pure false->c.W (do
   if <- swapsWith v' (some t') pos.line c.env then do
    evalThenUse v' c.env fun v=>assignAll v ((assignEach [t'] c.env).map (·.2))
    pure .next
   else do
    let x <- eval v' c.env
    assignStores c.env x (<- swappedStores [t'] v' c.env) ((assignEach [t'] c.env).map (·.2))) (c.Po A s st2 .next RelF) F s:=fun hs=>by
  rw [hs]
  exact wpAny_bind (wpAny_pure (wpAny_bind (Cf.go (h1.at hm) ok fun x s1 A1 g1 ok1 r1=>Cf.end g1 (assign_tail h2 hk hp ok1 r1))))
 by_cases hv:(parts v').tag = 10
 ·obtain ⟨elt,gens,scope,vpos,rfl⟩:=lc_of hv
  rcases swaps_lc elt gens scope vpos t' pos.line c.env with hs | ⟨x,xpos,rfl⟩
  ·exact plain hs
  ·cases hb:(c.env.blockKind == .function && c.env.kindOf x == some .local && xpos.line == vpos.line && !(scope.names.any fun (n,k)=>n == x && (k == .local || k == .cell))) with
   | false=>exact plain (congrArg (fun b=>(pure b:Sem Bool)) hb)
   | true=>
    have hs:swapsWith (.ListComp elt gens scope vpos) (some (.Name x xpos)) pos.line c.env = pure true:=congrArg (fun b=>(pure b:Sem Bool)) hb
    have hu:CompUse P e st v st1:=h1.1.resolve_left fun hn=>dec_t hn (by
     cases n with
     | zero=>exact (Bool.false_ne_true hm).elim
     | succ n=>exact (cm hm).1.symm)
    rw [hs]
    refine wpAny_bind (wpAny_pure (wpAny_bind ?_))
    show c.W (do let _ <- comprehension (.ListComp elt gens scope vpos) scope c.env (firstIterPos gens vpos) (newList []) (firstAsync gens) (firstIter gens c.env) (some fun v=>assignAll v [assign (.Name x xpos) c.env])) _ _ _
    cases n with
    | zero=>exact (Bool.false_ne_true hm).elim
    | succ n=>
    refine wpAny_bind (wpAny_mono (hu c n elt gens scope vpos hm A s F ok _ (fun u_ s'=>c.Po A s st2 .next RelF .next s') fun a C A6 s6 g6 ok6 r6 hC ⟨mC,hmC⟩=>?_) (fun u_ s' h=>wpAny_pure (wpAny_pure h)) fun u_ u_ e=>e)
    refine Cf.use (c:=c.pr fun b=>c.Q b ∨ b ∈ [C]) (h2.2 (c.pr fun b=>c.Q b ∨ b ∈ [C]) (n + 1) 4 _ hp A6 s6 F (.ref a) ok6 r6) fun u_ s7 A7 g7 ok7 u_=>⟨mC,Kp.ns (fun o e=>g7.keep C o e (ok6.disP C (.inr List.mem_cons_self))) hmC,fun h' hs'=>?_⟩
    obtain ⟨g8,ok8,_⟩:=drop_dict ok (g6.trans g7) ok7 hC hs'
    exact ⟨A7,g8,ok8,.next⟩
 ·exact plain (swaps_no hv (cmp_tag hm) _ _ _)⟩
end
end
section
theorem look_app (A:List (List Addr)) (l i:Nat):look (A ++ [[]]) l i = look A l i:=by
 unfold look
 rcases Nat.lt_trichotomy l A.length with h | h | h
 ·rw [List.getElem?_append_left h]
 ·subst h; rw [List.getElem?_concat_length,List.getElem?_eq_none (Nat.le_refl _)]; rfl
 ·rw [List.getElem?_eq_none (by simp; lia),List.getElem?_eq_none (by lia)]
theorem obj_app (ρ ρ':List (Option V)) (R:List (List AObj)) (l i:Nat):St.obj ⟨ρ,R ++ [[]]⟩ l i = St.obj ⟨ρ',R⟩ l i:=by
 unfold St.obj
 dsimp only
 rcases Nat.lt_trichotomy l R.length with h | h | h
 ·rw [List.getElem?_append_left h]
 ·subst h; rw [List.getElem?_concat_length,List.getElem?_eq_none (Nat.le_refl _)]; rfl
 ·rw [List.getElem?_eq_none (by simp; lia),List.getElem?_eq_none (by lia)]
theorem look_drop (A:List (List Addr)) (l i:Nat):look A.dropLast l i = if l < A.length - 1 then look A l i else none:=by
 unfold look
 by_cases h:l < A.length - 1
 ·rw [if_pos h,List.dropLast_eq_take,List.getElem?_take_of_lt h]
 ·rw [if_neg h,List.getElem?_eq_none (by rw [List.length_dropLast]; lia)]
theorem obj_drop (ρ ρ':List (Option V)) (R:List (List AObj)) (l i:Nat):St.obj ⟨ρ,R.dropLast⟩ l i = if l < R.length - 1 then St.obj ⟨ρ',R⟩ l i else none:=by
 unfold St.obj
 dsimp only
 by_cases h:l < R.length - 1
 ·rw [if_pos h,List.dropLast_eq_take,List.getElem?_take_of_lt h]
 ·rw [if_neg h,List.getElem?_eq_none (by rw [List.length_dropLast]; lia)]
section
variable {B:Base} {lay new:List Loc} {P:Addr->Prop} {nl:Nat} {A A2:List (List Addr)} {st st2:St} {s s' s2:Shared}
noncomputable abbrev PX (lay:List Loc) (P:Addr->Prop):Addr->Prop:=fun b=>P b ∨ ∃ l ∈ lay,l.addr = b
noncomputable abbrev PK (lay:List Loc) (P:Addr->Prop) (K:List Addr):Addr->Prop:=fun b=>PX lay P b /\ b ∉ K
noncomputable abbrev wdK (lay:List Loc) (A:List (List Addr)) (P:Addr->Prop) (K:List Addr) (h:Heap):Wd:=⟨h,A,Tch lay A,fun b=>Avd lay A P b /\ b ∉ K⟩
theorem wdK_le {K:List Addr} {h:Heap} (lv:Nat):Wd.Le lv (wd lay A P h) (wdK lay A P K h):=⟨fun u_ u_ e u_=>.of e,fun u_ u_ u_ h=>h.1,fun u_ u_ u_ u_ e=>e⟩
theorem enter_le {K:List Addr} (hK:∀ b ∈ K,∀ l i,look A l i ≠ some b) (hf:∀ l ∈ new,s.heap.get? l.addr = none) {h':Heap} (hk:∀ b o,s.heap.get? b = some o->h'.get? b = some o) (lv:Nat):Wd.Le lv (wdK lay A P K s.heap) (wd new (A ++ [[]]) (PK lay P K) h') where
 keep b o e _:=.of (hk b o e)
 avoid b o e h:=by
  rcases h with (⟨l,m,q⟩ | ⟨l,i,q⟩) | ⟨h | ⟨l,m,q⟩,n⟩
  ·have:=hf l m; rw [q] at this; rw [this] at e; cases e
  ·rw [look_app] at q; exact ⟨.inl (.inr ⟨l,i,q⟩),fun m=>hK b m l i q⟩
  ·exact ⟨.inr h,n⟩
  ·exact ⟨.inl (.inl ⟨l,m,q⟩),n⟩
 same l i a _ e:=by show look (A ++ [[]]) l i = some a; rw [look_app]; exact e
theorem Ok.enter {K:List Addr} (ok:Ok B lay P nl A st s) (hK:∀ b ∈ K,∃ l ∈ lay,l.addr = b) (hf:∀ l ∈ new,s.heap.get? l.addr = none) {h':Heap} {tk:Nat} (hk:∀ b o,s.heap.get? b = some o->h'.get? b = some o) {ρ:List (Option V)} (hlen:ρ.length = new.length)
  (hs:∀ (w:Wd),w.h = h'->Wd.Le (nl - 1) (wdK lay A P K s.heap) w->∀ (i:Nat) (l:Loc),new[i]? = some l->SlotRep w nl l (ρ[i]?).join) (hlive:∀ l ∈ new,∃ o,h'.get? l.addr = some o)
  (hp:∀ (i j:Nat) (l l':Loc),new[i]? = some l->new[j]? = some l'->i ≠ j->l.apart l') {frs:List Addr} (hF:∀ M ∈ frs,M ∈ B.frs ∨ s.heap.get? M = none /\ ∃ o es ep,h'.get? M = some o /\ o.data = .dict es ep) :
  Ok (B.on frs) new (PK lay P K) (nl + 1) (A ++ [[]]) { ρ:=ρ,R:=st.R ++ [[]] } { s with heap:=h',toks:=tk }:=by
 have leK:=fun lv=>enter_le (lay:=lay) (A:=A) (P:=P) (K:=K) (fun b m l i e=>let ⟨x,mx,q⟩:=hK b m; ok.layA x mx l i (q ▸ e)) hf hk lv
 have le:=fun lv=>(wdK_le (lay:=lay) (A:=A) (P:=P) (K:=K) (h:=s.heap) lv).trans (leK lv)
 have av:∀ b o,s.heap.get? b = some o->Avd new (A ++ [[]]) (PK lay P K) b->Avd lay A P b:=fun b o e h=>(le 0).avoid b o e h
 exact {
  base:=fun b o e=>hk b o (ok.base b o e)
  baseM:=fun b o e h=>ok.baseM b o e (av b o (ok.base b o e) h)
  frs:=fun M m=>by
   rcases hF M m with m | ⟨hL0,o,es,ep,h1,h2⟩
   ·obtain ⟨o,es,ep,h1,h2⟩:=ok.frs M m; exact ⟨o,es,ep,hk _ _ h1,h2⟩
   ·refine ⟨o,es,ep,h1,h2,?_⟩
    cases q:B.h₀.get? M with
    | none=>exact q
    | some o=>rw [ok.base _ _ q] at hL0; cases hL0
  len:=hlen
  slots:=fun i l e=>hs _ rfl (leK _) i l e
  sep:=hp
  lenA:=by simp [ok.lenA]
  dimA:=fun l i=>by rw [look_app,obj_app ρ st.ρ]; exact ok.dimA l i
  objs:=fun l i o a h1 h2=>by
   rw [obj_app ρ st.ρ] at h1
   rw [look_app] at h2
   exact rep_apart (le _) (fun q e=>hk _ _ e) (ok.objs l i o a h1 h2) av
  inj:=fun l i l' i' a h1 h2=>ok.inj l i l' i' a (by rwa [look_app] at h1) (by rwa [look_app] at h2)
  layA:=fun l m k i e=>by
   rw [look_app] at e
   obtain ⟨o,q⟩:=ok.alive l.addr (.inl (.inr ⟨k,i,e⟩))
   rw [hf l m] at q; cases q
  disP:=fun b hb h=>by
   have hal:∃ o,s.heap.get? b = some o:=by
    rcases hb.1 with hb | ⟨l,m,q⟩
    ·exact ok.alive b (.inr hb)
    ·exact ok.alive b (.inl (.inl ⟨l,m,q⟩))
   obtain ⟨o,e⟩:=hal
   rcases h with ⟨l,m,q⟩ | ⟨l,i,q⟩
   ·have:=hf l m; rw [q,e] at this; cases this
   ·rw [look_app] at q
    rcases hb.1 with hb | ⟨l',m,q'⟩
    ·exact ok.disP b hb (.inr ⟨l,i,q⟩)
    ·exact ok.layA l' m l i (q' ▸ q)
  alive:=fun b h=>by
   rcases h with (⟨l,m,q⟩ | ⟨l,i,q⟩) | ⟨h | ⟨l,m,q⟩,_⟩
   ·exact q ▸ hlive l m
   ·rw [look_app] at q
    obtain ⟨o,e⟩:=ok.alive b (.inl (.inr ⟨l,i,q⟩)); exact ⟨o,hk b o e⟩
   ·obtain ⟨o,e⟩:=ok.alive b (.inr h); exact ⟨o,hk b o e⟩
   ·obtain ⟨o,e⟩:=ok.alive b (.inl (.inl ⟨l,m,q⟩)); exact ⟨o,hk b o e⟩
  rlen:=by simp [ok.rlen]
  lvl:=Nat.succ_pos _ }
theorem leave_go {B':Base} {P':Addr->Prop} (ok:Ok B lay P nl A st s) (ok2:Ok B' new P' (nl + 1) A2 st2 s2) (hf:∀ l ∈ new,s.heap.get? l.addr = none) (hk:∀ b o,s.heap.get? b = some o->s'.heap.get? b = some o)
  (hrest:s'.gens = s.gens /\ s'.drawn = s.drawn /\ s'.os = s.os) (g:Go new (A ++ [[]]) A2 s' s2):Go lay A A2.dropLast s s2:=by
 have hl:A2.length - 1 = A.length:=by rw [ok2.lenA,ok2.rlen,Nat.add_sub_cancel,ok.lenA,ok.rlen]
 refine ⟨fun b o e nt=>g.keep b o (hk b o e) fun h=>?_,fun b o e=>g.live b o (hk b o e),fun l i b e=>?_,fun l i b e=>?_,g.rest.1.trans hrest.1,g.rest.2.1.trans hrest.2.1,g.rest.2.2.trans hrest.2.2⟩
 ·rcases h with ⟨l,m,q⟩ | ⟨l,i,q⟩
  ·have:=hf l m; rw [q,e] at this; cases this
  ·rw [look_app] at q; exact nt (.inr ⟨l,i,q⟩)
 ·rw [look_drop,if_pos (by rw [hl]; exact look_lt e)]
  exact g.same l i b (by rw [look_app]; exact e)
 ·rw [look_drop] at e
  split at e
  ·rcases g.new l i b e with q | q
   ·rw [look_app] at q; exact .inl q
   ·right
    cases w:s.heap.get? b with
    | none=>rfl
    | some o=>rw [hk b o w] at q; cases q
  ·cases e
noncomputable def Cells (K:List Addr) (h:Heap):Prop:=∀ b ∈ K,∀ o,h.get? b = some o->cellB o.data = true
theorem av_leave {B':Base} {K:List Addr} (ok2:Ok B' new (PK lay P K) (nl + 1) A2 st2 s2) (hc:Cells K s2.heap) {b:Addr} {o:Obj} (e:s2.heap.get? b = some o) (hn:cellB o.data = false) (h:Avd lay A2.dropLast P b):Avd new A2 (PK lay P K) b:=by
 have nk:b ∉ K:=fun m=>by rw [hc b m o e] at hn; cases hn
 rcases h with (h | ⟨l,i,q⟩) | h
 ·exact .inr ⟨.inr h,nk⟩
 ·refine .inl (.inr ⟨l,i,?_⟩)
  rw [look_drop] at q
  split at q
  ·exact q
  ·cases q
 ·exact .inr ⟨.inl h,nk⟩
theorem Ok.leave {frs:List Addr} {K:List Addr} (hfr:∀ M ∈ B.frs,M ∈ frs) (ok:Ok B lay P nl A st s) (hK:∀ b ∈ K,∃ l ∈ lay,l.addr = b) (hc:Cells K s2.heap) (ok2:Ok (B.on frs) new (PK lay P K) (nl + 1) A2 st2 s2) (hf:∀ l ∈ new,s.heap.get? l.addr = none) (hk:∀ b o,s.heap.get? b = some o->s'.heap.get? b = some o)
  (hrest:s'.gens = s.gens /\ s'.drawn = s.drawn /\ s'.os = s.os) (g:Go new (A ++ [[]]) A2 s' s2):Ok B lay P nl A2.dropLast { ρ:=st.ρ,R:=st2.R.dropLast } s2:=by
 have gg:=leave_go ok ok2 hf hk hrest g
 have le:=fun lv=>gg.le P lv
 have hl:A2.length - 1 = nl:=by rw [ok2.lenA,ok2.rlen,Nat.add_sub_cancel]
 have hR:st2.R.length - 1 = nl:=by rw [ok2.rlen,Nat.add_sub_cancel]
 have sub:∀ l i a,look A2.dropLast l i = some a->look A2 l i = some a /\ l < nl:=fun l i a e=>by
  rw [look_drop,hl] at e
  split at e
  ·exact ⟨e,‹_›⟩
  ·cases e
 have le2:∀ lv,lv < nl->Wd.Le0 lv (wd new A2 (PK lay P K) s2.heap) (wd lay A2.dropLast P s2.heap):=fun lv hlv=>⟨fun u_ u_ e u_=>.of e,fun b o e n h=>av_leave ok2 hc e n h,fun l i a q e=>by
  show look A2.dropLast l i = some a
  rw [look_drop,hl,if_pos (Nat.lt_of_le_of_lt q hlv)]; exact e⟩
 have hkeep:∀ l ∈ lay,∀ q,s.heap.get? l.addr = some q->Kp s2.heap l.addr q:=fun l m q e=>g.keep _ _ (hk _ _ e) fun h=>by
  rcases h with ⟨l',m',w⟩ | ⟨k,i,w⟩
  ·have:=hf l' m'; rw [w,e] at this; cases this
  ·rw [look_app] at w; exact ok.layA l m k i w
 exact {
  base:=ok2.base
  baseM:=fun b o e h=>by
   rcases h with (h | ⟨l,i,q⟩) | h
   ·exact ok.baseM b o e (.inl (.inl h))
   ·exact ok2.baseM b o e (.inl (.inr ⟨l,i,(sub l i b q).1⟩))
   ·exact ok.baseM b o e (.inr h)
  frs:=fun M m=>ok2.frs M (hfr M m)
  len:=ok.len
  slots:=fun i l e=>slot_apart' (le _) (fun q h=>hkeep l (List.mem_of_getElem? e) q h) (ok.slots i l e)
  sep:=ok.sep
  lenA:=by rw [List.length_dropLast,List.length_dropLast,ok2.lenA]
  dimA:=fun l i=>by
   rw [look_drop,obj_drop st.ρ st2.ρ,hl,hR]
   split
   ·exact ok2.dimA l i
   ·simp
  objs:=fun l i o a h1 h2=>by
   obtain ⟨h3,h4⟩:=sub l i a h2
   rw [obj_drop st.ρ st2.ρ,hR,if_pos h4] at h1
   exact rep_apart0 (le2 l h4) (fun q e=>e) (ok2.objs l i o a h1 h3)
  inj:=fun l i l' i' a h1 h2=>ok2.inj l i l' i' a (sub _ _ _ h1).1 (sub _ _ _ h2).1
  layA:=fun l m k i e=>by
   obtain ⟨o,w⟩:=ok.alive l.addr (.inl (.inl ⟨l,m,rfl⟩))
   rcases g.new k i _ (sub _ _ _ e).1 with q | q
   ·rw [look_app] at q; exact ok.layA l m k i q
   ·rw [hk _ _ w] at q; cases q
  disP:=fun b hb h=>by
   rcases h with h | ⟨l,i,q⟩
   ·exact ok.disP b hb (.inl h)
   ·exact ok2.disP b ⟨.inl hb,fun m=>let ⟨l,ml,q⟩:=hK b m; ok.disP b hb (.inl ⟨l,ml,q⟩)⟩ (.inr ⟨l,i,(sub _ _ _ q).1⟩)
  alive:=fun b h=>by
   rcases h with (⟨l,m,rfl⟩ | ⟨l,i,q⟩) | h
   ·obtain ⟨o,w⟩:=ok.alive l.addr (.inl (.inl ⟨l,m,rfl⟩)); exact gg.live _ o w
   ·exact ok2.alive b (.inl (.inr ⟨l,i,(sub l i b q).1⟩))
   ·obtain ⟨o,w⟩:=ok.alive b (.inr h); exact gg.live _ o w
  rlen:=by rw [List.length_dropLast,hR]
  lvl:=ok.lvl }
theorem frz_sound {B:Base} {K:List Addr} (hc:Cells K s2.heap) (ok2:Ok B new (PK lay P K) (nl + 1) A2 st2 s2) (hnl:0 < nl) {reg:List AObj} (hr:st2.R.getLast? = some reg):∀ (d:Nat) (v:Value) (x u:V),Rel (wd new A2 (PK lay P K) s2.heap) nl v x->frz reg nl d x = some u->
  Rel (wd lay A2.dropLast P s2.heap) (nl - 1) v u
 | 0,_,_,_,_,h=>nomatch h
 | d + 1,v,x,u,hv,h=>by
  have hl:A2.length - 1 = nl:=by rw [ok2.lenA,ok2.rlen,Nat.add_sub_cancel]
  have sub:∀ l i a,look A2.dropLast l i = some a->look A2 l i = some a /\ l < nl:=fun l i a e=>by
   rw [look_drop,hl] at e
   split at e
   ·exact ⟨e,‹_›⟩
   ·cases e
  have av:=fun {b:Addr} {o:Obj} (e:s2.heap.get? b = some o) (n:cellB o.data = false) h=>av_leave (lay:=lay) (P:=P) ok2 hc e n h
  have many:∀ (vs:List Value) (xs us:List V),RelL (wd new A2 (PK lay P K) s2.heap) nl vs xs->mapO (frz reg nl d) xs = some us->RelL (wd lay A2.dropLast P s2.heap) (nl - 1) vs us:=by
   intro vs
   induction vs with
   | nil=>intro xs us h1 h2; cases h1; cases h2; exact .nil
   | cons v vs ih=>
    intro xs us h1 h2
    cases h1 with
    | cons h1 h1'=>
     obtain ⟨b,bs,q1,q2,rfl⟩:=mapO_cons h2
     exact .cons (frz_sound hc ok2 hnl hr d _ _ _ h1 q1) (ih _ _ h1' q2)
  cases hv with
  | imm=>cases h; exact .imm
  | int=>cases h; exact .int
  | str=>cases h; exact .str
  | bytes=>cases h; exact .bytes
  | tup h1 h2 h3=>
   rename_i vs
   have h:(match mapO (frz reg nl d) vs with | some us=>some (V.tup us) | none=>none) = some u:=h
   cases e:mapO (frz reg nl d) vs with
   | none=>rw [e] at h; cases h
   | some us=>rw [e] at h; cases h; exact .tup (fun q=>h1 (av h2 rfl q)) h2 (many _ _ _ h3 e)
  | lst h1 h2 h3=>
   rename_i vs
   have h:(match mapO (frz reg nl d) vs with | some us=>some (V.lst us) | none=>none) = some u:=h
   cases e:mapO (frz reg nl d) vs with
   | none=>rw [e] at h; cases h
   | some us=>rw [e] at h; cases h; exact .lst (fun q=>h1 (av h2 rfl q)) h2 (many _ _ _ h3 e)
  | rng h1 h2=>cases h; exact .rng (fun q=>h1 (av h2 rfl q)) h2
  | @ref l i a h1 h2=>
   have h:(if l = nl then (match reg[i]? with | some (.list vs)=>(match mapO (frz reg nl d) vs with | some us=>some (V.lst us) | none=>none) | _=>none) else if l < nl then some (.ref l i) else none) = some u:=h
   split at h
   ·rename_i hln
    subst hln
    split at h
    ·rename_i vs hvs
     split at h
     ·cases h
      have hR:=last_of hr
      have hRl:st2.R.dropLast.length = l:=by rw [List.length_dropLast,ok2.rlen,Nat.add_sub_cancel]
      have ho:st2.obj l i = some (.list vs):=by
       unfold St.obj
       rw [hR,<- hRl,List.getElem?_concat_length]
       exact hvs
      obtain ⟨items,n,e,hrr⟩:=ok2.objs l i _ a ho h2
      refine .lst (fun q=>?_) e (many _ _ _ hrr ‹_›)
      rcases q with (⟨l',m,q⟩ | ⟨l',i',q⟩) | q
      ·exact ok2.disP a ⟨.inr ⟨l',m,q⟩,fun m=>by cases hc a m _ e⟩ (.inr ⟨_,_,h2⟩)
      ·obtain ⟨q1,q2⟩:=sub _ _ _ q
       have:=(ok2.inj _ _ _ _ _ h2 q1).1
       lia
      ·exact ok2.disP a ⟨.inl q,fun m=>by cases hc a m _ e⟩ (.inr ⟨_,_,h2⟩)
     ·cases h
    ·cases h
   ·split at h
    ·rename_i hlt
     cases h
     refine .ref (by lia) ?_
     show look A2.dropLast l i = some a
     rw [look_drop,hl,if_pos hlt]; exact h2
    ·cases h
end
end
section
theorem bindL_get {kindOf:Str->Option NameKind} {x:Str} (hk:kindOf x = some .local):∀ (binds:List (Str × Value)) (m:Str->Option Value),(binds.map (·.1)).Nodup->
  bindL kindOf binds m x = match binds.lookup x with | some v=>some v | none=>m x
 | [],_,_=>rfl
 | (n,v) :: r,m,h=>by
  obtain ⟨h1,h2⟩:=List.nodup_cons.mp h
  show bindL kindOf r (if kindOf n = some .local then fun y=>if y = n then some v else m y else m) x = _
  rw [bindL_get hk r _ h2,List.lookup_cons]
  by_cases q:x = n
  ·subst q
   have:r.lookup x = none:=by
    cases e:r.lookup x with
    | none=>rfl
    | some u=>exact absurd (List.mem_map.mpr ⟨_,mem_of_lookup e,rfl⟩) h1
   rw [this,if_pos hk]
   simp
  ·have q':(x == n) = false:=by simpa using q
   rw [q']
   dsimp only
   cases e:r.lookup x with
   | some u=>rfl
   | none=>
    by_cases hl:kindOf n = some .local
    ·rw [if_pos hl]; exact if_neg q
    ·rw [if_neg hl]
theorem bindC_get {kindOf:Str->Option NameKind} {x:Str} (hk:kindOf x = some .cell):∀ (binds:List (Str × Value)) (m:Str->Option Value),(binds.map (·.1)).Nodup->
  bindC kindOf binds m x = match binds.lookup x with | some v=>some v | none=>m x
 | [],_,_=>rfl
 | (n,v) :: r,m,h=>by
  obtain ⟨h1,h2⟩:=List.nodup_cons.mp h
  show bindC kindOf r (if kindOf n = some .local then m else fun y=>if y = n then some v else m y) x = _
  rw [bindC_get hk r _ h2,List.lookup_cons]
  by_cases q:x = n
  ·subst q
   have:r.lookup x = none:=by
    cases e:r.lookup x with
    | none=>rfl
    | some u=>exact absurd (List.mem_map.mpr ⟨_,mem_of_lookup e,rfl⟩) h1
   rw [this,if_neg (by rw [hk]; decide)]
   simp
  ·have q':(x == n) = false:=by simpa using q
   rw [q']
   dsimp only
   cases e:r.lookup x with
   | some u=>rfl
   | none=>
    by_cases hl:kindOf n = some .local
    ·rw [if_pos hl]
    ·rw [if_neg hl]; exact if_neg q
theorem zip_lookup:∀ (ps:List Str) (vs:List Value) (i:Nat) (x:Str),ps.Nodup->ps.length = vs.length->ps[i]? = some x->(ps.zip vs).lookup x = vs[i]?
 | [],_,i,x,_,_,h=>by simp at h
 | p :: ps,[],_,_,_,h,_=>by simp at h
 | p :: ps,v :: vs,0,x,_,_,h=>by
  simp only [List.getElem?_cons_zero,Option.some.injEq] at h
  subst h
  simp
 | p :: ps,v :: vs,i + 1,x,hn,hl,h=>by
  obtain ⟨h1,h2⟩:=List.nodup_cons.mp hn
  rw [List.getElem?_cons_succ] at h
  have hx:x ≠ p:=fun q=>h1 (q ▸ List.mem_of_getElem? h)
  have hx':(x == p) = false:=by simpa using hx
  rw [List.zip_cons_cons,List.lookup_cons,hx',List.getElem?_cons_succ]
  exact zip_lookup ps vs i x h2 (by simpa using hl) h
theorem zip_lookup_none {ps:List Str} {vs:List Value} {x:Str} (h:x ∉ ps):(ps.zip vs).lookup x = none:=by
 cases e:(ps.zip vs).lookup x with
 | none=>rfl
 | some u=>exact absurd (List.of_mem_zip (mem_of_lookup e)).1 h
section
variable {B:Base} {H:Hn} {lay:List Loc} {P:Addr->Prop} {nl:Nat} {Ar:Around} {A:List (List Addr)} {st:St} {s:Shared} {E:Value->Shared->Prop}
theorem EnvOk.fn (hg:HOk B H) {fd:FuncData} (hk:fd.scope.kind = .function) {C:Addr} {cs:List (Str × Addr)} (hcell:∀ x,fd.scope.names.lookup x = some .cell->∃ c,cs.lookup x = some c)
  {cenv:Env} (h1:cenv.scope = fd.scope) (h2:cenv.locals = C) (h3:cenv.cells = cs) (h4:cenv.globals = mainGlobals) (h5:cenv.builtins = builtinsNs) (h6:cenv.code = fd.code) (h7:cenv.qual = fd.qualname ++ ".<locals>.") :
  EnvOk B (fnCX H fd) cenv ((ownOf fd.scope).map (locOf fd.scope C cs)):=by
 have kd:∀ x,cenv.kindOf x = fd.scope.names.lookup x:=fun x=>by unfold Env.kindOf; rw [h1]
 have slot:∀ x i,((ownOf fd.scope).idxOf? x).map (0 + ·) = some i->((ownOf fd.scope).map (locOf fd.scope C cs))[i]? = some (locOf fd.scope C cs x):=fun x i e=>by
  cases q:(ownOf fd.scope).idxOf? x with
  | none=>rw [q] at e; cases e
  | some j=>
   rw [q] at e
   have e:0 + j = i:=Option.some.inj e
   rw [<- e,Nat.zero_add,List.getElem?_map,idx_get q]
   rfl
 exact {
  kind:=by rw [h1]; exact hk
  globals:=h4
  builtins:=h5
  len:=by rw [List.length_map]; exact (Nat.zero_add _).symm
  var:=fun x i e=>by
   delta fnCX compCX cx0 at e; dsimp only at e
   cases q:fd.scope.names.lookup x with
   | none=>rw [q] at e; cases e
   | some k=>
    rw [q] at e
    cases k with
    | «local»=>
     have:=slot x i e
     unfold locOf at this
     rw [q,if_neg (by decide)] at this
     exact .inl ⟨(kd x).trans q,h2 ▸ this⟩
    | cell=>
     have:=slot x i e
     unfold locOf at this
     rw [q,if_pos rfl] at this
     obtain ⟨c,hc⟩:=hcell x q
     rw [hc] at this
     exact .inr ⟨.inl ((kd x).trans q),c,h3 ▸ hc,this⟩
    | _=>cases e
  cell:=fun x e=>by
   delta fnCX compCX cx0 at e; dsimp only at e
   cases q:fd.scope.names.lookup x with
   | none=>rw [q] at e; cases e
   | some k=>
    rw [q] at e
    cases k with
    | cell=>
     obtain ⟨c,hc⟩:=hcell x q
     exact ⟨.inl ((kd x).trans q),c,h3 ▸ hc⟩
    | _=>cases e
  code:=h6
  qual:=h7
  glob:=fun x v e=>by
   delta fnCX compCX cx0 at e; dsimp only at e
   cases q:fd.scope.names.lookup x with
   | none=>rw [q] at e; cases e
   | some k=>
    rw [q] at e
    cases k with
    | globalImplicit=>exact ⟨(kd x).trans q,hg x v e⟩
    | _=>cases e
  celf:=fun x i e e2=>by
   delta fnCX compCX cx0 at e e2; dsimp only at e e2
   cases q:fd.scope.names.lookup x with
   | none=>rw [q] at e; cases e
   | some k=>
    rw [q] at e e2
    cases k with
    | «local»=>exact (kd x).trans q
    | cell=>cases e2
    | _=>cases e }
theorem EnvOk.on {B:Base} {cx:CX} {env:Env} {lay:List Loc} (h:EnvOk B cx env lay) (frs:List Addr):EnvOk (B.on frs) cx env lay:=⟨h.kind,h.globals,h.builtins,h.len,h.var,h.cell,h.code,h.qual,h.glob,h.celf⟩
theorem ArOk.deeper (ao:ArOk B Ar nl) (h:nl < 100) (env:Env) {L:Addr} (hf:env.frame = some L) (hk:env.scope.kind ≠ .module):ArOk (B.on (L :: B.frs)) (Ar.deeper env) (nl + 1):=
 ⟨ao.handled,by
  obtain ⟨l,h1,h2,h3⟩:=ao.frames
  refine ⟨env :: l,Around.frames_deeper h1,?_,?_⟩
  ·rw [List.map_cons,h2,hf]; rfl
  ·intro e m
   rcases List.mem_cons.mp m with rfl | m
   ·exact hk
   ·exact h3 e m,by have:=ao.depth; show Ar.depth + 1 <= _; lia,by have:=ao.units; show Ar.units + 3 <= _; lia,by lia⟩
theorem call_enter {K:List Addr} (hg:HOk B H) {f:Fn} {o:Obj} {fd:FuncData} {body:List Stmt} {params:List Str} (fo:FnOk B H f o fd body params) (ok:Ok B lay P nl A st s) (hK:∀ b ∈ K,∃ l ∈ lay,l.addr = b) (ao:ArOk B Ar nl) (hroom:nl < 100)
  {items:List Value} {args:List V} {ks:List (Str × Value)} {kws:List (Str × V)} {vs:List V} (hr:RelL (wd lay A P s.heap) (nl - 1) items args) (hkw:RelK (wdK lay A P K s.heap) (nl - 1) ks kws)
  (hvs:bindF f args kws = some vs) {Q:Value->Shared->Prop}
  (KK:∀ (env:Env) (new:List Loc) (h1:Heap) (tk:Nat),EnvOk (B.on (s.heap.objs.size :: B.frs)) (fnCX H fd) env new->ArOk (B.on (s.heap.objs.size :: B.frs)) (Ar.deeper env) (nl + 1)->HdFr (Ar.deeper env) env->env.frame = some s.heap.objs.size->
   (∀ l ∈ new,s.heap.get? l.addr = none)->(∀ b o,s.heap.get? b = some o->h1.get? b = some o)->(∀ x,env.kindOf x = fd.scope.names.lookup x)->
   Ok (B.on (s.heap.objs.size :: B.frs)) new (PK lay P K) (nl + 1) (A ++ [[]]) { ρ:=emptyFrame f.ns vs,R:=st.R ++ [[]] } { s with heap:=h1,toks:=tk }->
   wpAny (model B.prog B.w) (Ar.deeper env) (execs body env) (fun fl s'=>Q (match fl with | .ret v=>v | _=>.none) s')
    (fun e s'=>wpAny (model B.prog B.w) (Ar.deeper env) (leaving env e) (fun u_ s''=>E e s'') (fun e' s''=>E e' s'') s') { s with heap:=h1,toks:=tk }) :
  wpAny (model B.prog B.w) Ar (call (.ref f.addr) items ks) Q E s:=by
 obtain ⟨vals,hbt,hvr,hvl⟩:=fo.hbind (wdK lay A P K s.heap) (nl - 1) s items args ks kws vs ok.base rfl (hr.mono (wdK_le _) (Nat.le_refl _)) hkw hvs
 refine wpAny_call (codeAny_call_function (by have:=ao.depth; have:=ao.nl; unfold recursionLimit; lia) (ok.base _ _ fo.ho) fo.hd fo.hco fo.hgen fo.hbody (fo.hcd.keeps ok.base) (hbt _ _ _ _ ?_))
 rw [fo.hclo]
 have own:=own_nodup fo.hnd
 have hpn:params.Nodup:=by rw [<- fo.hpar]; exact own.sublist (List.take_sublist _ _)
 have hzm:(params.zip vals).map (·.1) = params:=List.map_fst_zip (by lia)
 have facts:=cellsFrom_facts fd.scope.names [] (s.heap.push { cls:=.type "frame",data:=.dict #[] }) fo.hnd
 rw [Heap.size_push] at facts
 obtain ⟨f1,f2,f3⟩:=facts
 have cellAddr:∀ x,fd.scope.names.lookup x = some .cell->∃ c,(cellsFrom (s.heap.objs.size + 1) fd.scope.names []).lookup x = some c /\ s.heap.objs.size + 1 <= c:=fun x q=>by
  obtain ⟨c,q1,_,q3⟩:=f2 x (mem_of_lookup q); exact ⟨c,q1,q3⟩
 refine wpAny_newFunctionEnv_cells fo.hkind (fun x mx=>?_) (fun env he s1 X=>?_)
 ·have hm:x.1 ∈ params:=by rw [<- hzm]; exact List.mem_map.mpr ⟨x,mx,rfl⟩
  rw [<- fo.hpar] at hm
  rcases own_kind fo.hnd (List.mem_of_mem_take hm) with q | q
  ·exact .inl q
  ·obtain ⟨c,q1,_⟩:=cellAddr _ q
   exact .inr ⟨q,by rw [q1]; rfl⟩
 ·subst he
  obtain ⟨h1,tk,rfl,hk⟩:=X.done
  refine ⟨B.nolim.keeps fun b o e=>hk b o (ok.base b o e),codeAny_func ?_⟩
  generalize hcs:cellsFrom (s.heap.objs.size + 1) fd.scope.names [] = cs at *
  generalize henv:newEnv fd.scope s.heap.objs.size fd.globals cs (fd.qualname ++ ".<locals>.") (some f.addr) fd.code none fd.builtins = env at *
  have e1:env.scope = fd.scope:=by rw [<- henv]; rfl
  have hfrm:env.frame = some s.heap.objs.size:=by rw [<- henv]; rfl
  have e2':env.locals = s.heap.objs.size:=by rw [<- henv]; rfl
  have e3:env.cells = cs:=by rw [<- henv]; rfl
  have e4:env.globals = mainGlobals:=by rw [<- henv]; exact fo.hglob
  have e5:env.builtins = builtinsNs:=by rw [<- henv]; exact fo.hbuilt
  have hkd:∀ x,env.kindOf x = fd.scope.names.lookup x:=fun x=>by unfold Env.kindOf; rw [e1]
  have eo:=EnvOk.fn (C:=s.heap.objs.size) (cs:=cs) hg fo.hkind (fun x q=>let ⟨c,q1,_⟩:=cellAddr x q; ⟨c,q1⟩) e1 e2' e3 e4 e5 (by rw [<- henv]; rfl) (by rw [<- henv]; rfl)
  have hL:s.heap.get? s.heap.objs.size = none:=Heap.get?_none_of_le (Nat.le_refl _)
  have hnew:∀ l ∈ (ownOf fd.scope).map (locOf fd.scope s.heap.objs.size cs),s.heap.get? l.addr = none:=fun l ml=>by
   obtain ⟨x,mx,rfl⟩:=List.mem_map.mp ml
   unfold locOf
   split
   ·rename_i q
    obtain ⟨c,q1,q3⟩:=cellAddr x q
    rw [q1]
    exact Heap.get?_none_of_le (Nat.le_of_succ_le q3)
   ·exact hL
  have hvlen:vs.length = params.length:=hvr.1.symm.trans hvl
  have hple:params.length <= (ownOf fd.scope).length:=by
   have:=congrArg List.length fo.hpar
   rw [List.length_take] at this; lia
  have hgetρ:∀ i x,(ownOf fd.scope)[i]? = some x->∀ w:Wd,Wd.Le (nl - 1) (wdK lay A P K s.heap) w->RelO w nl ((params.zip vals).lookup x) ((emptyFrame f.ns vs)[i]?).join:=fun i x hi w le=>by
   unfold emptyFrame
   by_cases hlt:i < params.length
   ·have hpi:params[i]? = some x:=by
     rw [<- fo.hpar,List.getElem?_take_of_lt hlt]; exact hi
    rw [zip_lookup params vals i x hpn hvl.symm hpi,List.getElem?_append_left (by rw [List.length_map,hvlen]; exact hlt),List.getElem?_map]
    cases hv:vs[i]? with
    | none=>have:=List.getElem?_eq_none_iff.mp hv; lia
    | some u=>
     have:=(hvr.2 i).mono le (Nat.sub_le _ _)
     rw [hv] at this
     exact this
   ·have hnp:x ∉ params:=fun m=>by
     obtain ⟨j,hj⟩:=List.mem_iff_getElem?.mp m
     have hjl:=(List.getElem?_eq_some_iff.mp hj).1
     have hj':(ownOf fd.scope)[j]? = some x:=by
      rw [<- fo.hpar,List.getElem?_take_of_lt hjl] at hj; exact hj
     obtain ⟨hjl',_⟩:=List.getElem?_eq_some_iff.mp hj'
     have:=(List.getElem?_inj hjl' own).mp (hj'.trans hi.symm)
     lia
    rw [zip_lookup_none hnp,List.getElem?_append_right (by rw [List.length_map,hvlen]; lia)]
    have:((List.replicate (f.ns - vs.length) (none:Option V))[i - (vs.map some).length]?).join = none:=by
     cases q:(List.replicate (f.ns - vs.length) (none:Option V))[i - (vs.map some).length]? with
     | none=>rfl
     | some u=>have:=List.eq_of_mem_replicate (List.mem_of_getElem? q); rw [this]; rfl
    rw [this]
    exact .none
  have ok1:=ok.enter (K:=K) (ρ:=emptyFrame f.ns vs) (tk:=tk) hK hnew hk (by simp only [emptyFrame,List.length_append,List.length_map,List.length_replicate]; rw [fo.hns]; lia) (fun w hw le i l hi=>by
    rw [List.getElem?_map] at hi
    cases q:(ownOf fd.scope)[i]? with
    | none=>rw [q] at hi; cases hi
    | some x=>
     rw [q] at hi
     have hi:locOf fd.scope s.heap.objs.size cs x = l:=Option.some.inj hi
     have key:=hgetρ i x q w le
     rcases own_kind fo.hnd (List.mem_of_getElem? q) with k | k
     ·unfold locOf at hi
      rw [k,if_neg (by decide)] at hi
      subst hi
      refine ⟨_,by rw [hw,<- e2']; exact X.toInCall.ns,?_⟩
      rw [bindL_get ((hkd x).trans k) _ _ (by rw [hzm]; exact hpn)]
      generalize (params.zip vals).lookup x = oo at key
      cases oo <;> exact key
     ·unfold locOf at hi
      obtain ⟨c,q1,_⟩:=cellAddr x k
      rw [k,if_pos rfl,q1] at hi
      subst hi
      refine ⟨_,by rw [hw]; exact X.cell x c (by rw [e3]; exact q1),?_⟩
      rw [bindC_get ((hkd x).trans k) _ _ (by rw [hzm]; exact hpn)]
      generalize (params.zip vals).lookup x = oo at key
      cases oo <;> exact key) (fun l ml=>by
    obtain ⟨x,mx,rfl⟩:=List.mem_map.mp ml
    rcases own_kind fo.hnd mx with k | k
    ·unfold locOf
     rw [k,if_neg (by decide)]
     obtain ⟨oo,_,_,q,_⟩:=X.toInCall.ns
     exact ⟨oo,by rw [<- e2']; exact q⟩
    ·obtain ⟨c,q1,_⟩:=cellAddr x k
     unfold locOf
     rw [k,if_pos rfl,q1]
     obtain ⟨oo,q,_⟩:=X.cell x c (by rw [e3]; exact q1)
     exact ⟨oo,q⟩) (fun i j l l' hi hj hij=>by
    rw [List.getElem?_map] at hi hj
    cases q:(ownOf fd.scope)[i]? with
    | none=>rw [q] at hi; cases hi
    | some x=>
     cases q':(ownOf fd.scope)[j]? with
     | none=>rw [q'] at hj; cases hj
     | some y=>
      rw [q] at hi; rw [q'] at hj
      have hi:locOf fd.scope s.heap.objs.size cs x = l:=Option.some.inj hi
      have hj:locOf fd.scope s.heap.objs.size cs y = l':=Option.some.inj hj
      subst hi; subst hj
      have hxy:x ≠ y:=fun w=>by
       subst w
       obtain ⟨hil,_⟩:=List.getElem?_eq_some_iff.mp q
       exact hij ((List.getElem?_inj hil own).mp (q.trans q'.symm))
      unfold locOf
      split <;> split
      ·rename_i w w'
       obtain ⟨c,q1,_⟩:=cellAddr x w
       obtain ⟨c',q1',_⟩:=cellAddr y w'
       rw [q1,q1']
       intro w2
       have w3:c = c':=w2
       subst w3
       exact hxy (f3 x y c (mem_of_lookup w) (mem_of_lookup w') q1 q1')
      ·rename_i w w'
       obtain ⟨c,q1,q3⟩:=cellAddr x w
       rw [q1]
       exact fun w=>Nat.lt_irrefl _ (show s.heap.objs.size < s.heap.objs.size from w ▸ q3)
      ·rename_i w w'
       obtain ⟨c,q1,q3⟩:=cellAddr y w'
       rw [q1]
       exact fun w=>Nat.lt_irrefl _ (show s.heap.objs.size < s.heap.objs.size from w ▸ q3)
      ·exact .inr hxy) (frs:=s.heap.objs.size :: B.frs) (fun M m=>by
    rcases List.mem_cons.mp m with rfl | m
    ·obtain ⟨oo,es,ep,q,q2,_⟩:=X.toInCall.ns
     exact .inr ⟨hL,oo,es,ep,by rw [<- e2']; exact q,q2⟩
    ·exact .inl m)
  exact KK env _ h1 tk (eo.on _) (ao.deeper hroom env hfrm (by rw [e1,fo.hkind]; decide)) (let ⟨l,h1,_⟩:=ao.frames; ⟨l,Around.frames_deeper h1⟩) hfrm hnew hk hkd ok1
end
section
variable {P:Pg} {st st1 st2:St}
theorem cells_keep {B:Base} {lay new:List Loc} {P:Addr->Prop} {nl:Nat} {A A2:List (List Addr)} {st:St} {s s' s2:Shared} {K:List Addr} (hK:∀ b ∈ K,∃ l ∈ lay,l.addr = b) (ok:Ok B lay P nl A st s) (hc:Cells K s.heap) (hf:∀ l ∈ new,s.heap.get? l.addr = none) (hk:∀ b o,s.heap.get? b = some o->s'.heap.get? b = some o) (g:Go new (A ++ [[]]) A2 s' s2):Cells K s2.heap:=fun b m o e=>by
 obtain ⟨l,ml,q⟩:=hK b m
 obtain ⟨o1,e1⟩:=ok.alive b (.inl (.inl ⟨l,ml,q⟩))
 obtain ⟨sl,e2,_⟩:=g.keep b o1 (hk b o1 e1) fun t=>by
  rcases t with ⟨x,mx,w⟩ | ⟨k,i,w⟩
  ·have:=hf x mx; rw [w,e1] at this; cases this
  ·rw [look_app] at w; exact ok.layA l ml k i (q ▸ w)
 rw [e2] at e
 cases e
 exact hc b m o1 e1
noncomputable def Call (P:Pg) (f:Fn) (args:List V) (kw:List (Str × V)) (st:St) (z:V) (st':St):Prop:=∀ (c:Cf P) o fd body params,FnOk c.B c.H f o fd body params->∀ A s F K,c.Ok A st s->(∀ b ∈ K,∃ l ∈ c.lay,l.addr = b)->Cells K s.heap->∀ items ks,RelL (c.wd A s.heap) (c.nl - 1) items args->RelK (wdK c.lay A c.Q K s.heap) (c.nl - 1) ks kw->
 c.W (call (.ref f.addr) items ks) (c.Po A s st' z RV) F s
theorem call_x {f:Fn} {args kw vs fl st2 z reg} (hR:st.R.length < 100) (hb:bindF f args kw = some vs) (h:X P f.body ⟨emptyFrame f.ns vs,st.R ++ [[]]⟩ fl st2) (hreg:st2.R.getLast? = some reg) (hz:fl = .next /\ z = .imm .none ∨ ∃ v,fl = .ret v /\ frz reg st.R.length 4 v = some z) :
  Call P f args kw st z ⟨st.ρ,st2.R.dropLast⟩:=by
 intro c o fd body params fo A s F K ok hK hKc items ks hr hkw
 obtain ⟨n,d,hcomp⟩:=fo.hcomp
 rw [ok.rlen] at hR
 refine call_enter (K:=K) c.wl.hg fo ok hK c.ao hR hr hkw hb fun env new h1 tk eo ao' hdf u_ hnew hk u_ ok1=>?_
 refine wpAny_mono (Cf.go (c:=⟨c.B.on (s.heap.objs.size :: c.B.frs),c.H,fnCX c.H fd,env,new,PK c.lay c.Q K,c.nl + 1,c.Ar.deeper env,c.wl.on _,eo,ao'⟩) (h.at _ n d body hdf hcomp) ok1 (Q:=fun fl s'=>c.Po A s ⟨st.ρ,st2.R.dropLast⟩ z RV (match fl with | .ret v=>v | _=>.none) s') (E:=fun u_ u_=>False) fun flv s3 A3 g3 ok3 r3=>?_) (fun u_ u_ h=>h) (fun u_ u_ h=>h.elim)
 have hgo:=leave_go (s':={ s with heap:=h1,toks:=tk }) ok ok3 hnew hk ⟨rfl,rfl,rfl⟩ g3
 have hc3:=cells_keep hK ok hKc hnew hk g3
 have hok:=Ok.leave (s':={ s with heap:=h1,toks:=tk }) (fun u_ m=>.tail _ m) ok hK hc3 ok3 hnew hk ⟨rfl,rfl,rfl⟩ g3
 rcases hz with ⟨rfl,rfl⟩ | ⟨v,rfl,hu⟩
 ·cases r3
  exact ⟨_,hgo,hok,.imm⟩
 ·cases r3 with
  | ret r3=>
   rw [ok.rlen] at hu
   exact ⟨_,hgo,hok,frz_sound hc3 ok3 ok.lvl hreg 4 _ _ _ r3 hu⟩
theorem Call_ret {f:Fn} {args kw vs v u ρ2 R2 reg} (hR:st.R.length < 100) (hb:bindF f args kw = some vs) (h:X P f.body ⟨emptyFrame f.ns vs,st.R ++ [[]]⟩ (.ret v) ⟨ρ2,R2 ++ [reg]⟩) (hu:frz reg st.R.length 4 v = some u):Call P f args kw st u ⟨st.ρ,R2⟩:=by
 have:=call_x hR hb h (List.getLast?_concat ..) (.inr ⟨v,rfl,hu⟩)
 rwa [List.dropLast_concat] at this
theorem Call_next {f:Fn} {args kw vs ρ2 R2 reg} (hR:st.R.length < 100) (hb:bindF f args kw = some vs) (h:X P f.body ⟨emptyFrame f.ns vs,st.R ++ [[]]⟩ .next ⟨ρ2,R2 ++ [reg]⟩):Call P f args kw st (.imm .none) ⟨st.ρ,R2⟩:=by
 have:=call_x hR hb h (List.getLast?_concat ..) (.inl ⟨rfl,rfl⟩)
 rwa [List.dropLast_concat] at this
theorem Ap_fn {a f args kw v} (hf:P.fns.find? (fun f=>f.addr == a) = some f) (h:Call P f args kw st v st1):Ap P (.imm (.ref a)) args kw st v st1:=fun c A s F ok fv items ks hfv hr hk=>by
 obtain ⟨o,fd,body,params,fo⟩:=c.wl.pg f (List.mem_of_find?_eq_some hf)
 have ha:=List.find?_some hf
 obtain rfl:=beq_iff_eq.mp ha
 cases hfv
 exact ⟨.inr ⟨_,o,fd,rfl,ok.base _ _ fo.ho,fo.hd⟩,h c o fd body params fo A s F [] ok (fun u_ m=>nomatch m) (fun u_ m=>nomatch m) items ks hr (hk.mono (wdK_le _) (Nat.le_refl _))⟩
theorem Ap_bi {n args v} (h:biV st n args = some (v,st1)):Ap P (.imm (.builtin n)) args [] st v st1:=fun c A s F ok fv items ks hfv hr hk=>by
 cases hfv
 cases hk
 exact ⟨.inl fun a q=>(nomatch q),biV_sound ok c.ao.handled hr h⟩
theorem Ap_ty {n args v} (h:tyV st n args = some (v,st1)):Ap P (.imm (.type n)) args [] st v st1:=fun c A s F ok fv items ks hfv hr hk=>by
 cases hfv
 cases hk
 exact ⟨.inl fun a q=>(nomatch q),tyV_sound ok c.ao.handled hr h⟩
end
end
section
section
variable {B:Base} {Ar:Around} {E:Value->Shared->Prop} {s:Shared}
theorem next_end_raw {it l:Addr} {i:Nat} {items:Array Value} {Q:Value->Shared->Prop} (hh:Ar.handled = none) (hit:s.heap.IsListIter it l i) (hl:s.heap.IsList l items) (hx:items[i]? = none)
  (hE:∀ h1 h' e t oe vs,Heap.SameBut it s.heap h1->(∃ o,h1.get? it = some o /\ Nd o)->(∀ b o,h1.get? b = some o->h'.get? b = some o)->h1.get? e = none->h'.get? e = some oe->oe.cls = .type "StopIteration" -> oe.data = .fields vs->vs[0]? = some (.ref t)->vs[1]? = some .none->E (.ref e) { s with heap:=h' }) :
  wpAny (model B.prog B.w) Ar (call (.builtin "next") [.ref it]) Q E s:=by
 obtain ⟨o,ho,hc,hd⟩:=id hit
 obtain ⟨ol,hol,_,n,hdl⟩:=hl
 refine Calls.call_function_entry (by decide +kernel) (by decide +kernel) kdk_entry_next (kdk_args_next _) ?_
 unfold Builtin.«next»
 refine wpAny_bind (m:=someArgs "next" 1 2 _) (wpAny_of_eq (a:=[Value.ref it]) (by first | rfl | kernel_rfl!) ?_)
 dsimp only
 refine wpAny_bind (wpAny_specialOf (name:=Str.ofString "__next__") hit.typeIs slot_listiter_next.lookup ?_)
 refine wpAny_ite_split (fun hab=>absurd hab (by decide)) (fun u_=>?_)
 refine wpAny_bind (wpAny_callSpecial?_slot (name:=Str.ofString "__next__") hit.typeIs slot_listiter_next
  (wpAny_call_entry slot_listiter_next hit.typeIs entry_listiter_next ?_ (args_listiter_next _)))
 show wpAny _ _ (field (.ref it) 0 >>= _) _ _ s
 refine wpAny_bind (wpAny_field ho hd (x:=.ref l) rfl ?_)
 show wpAny _ _ (if (Value.ref l == Value.none) = true then _ else _) _ _ s
 rw [if_neg (show ¬ ((Value.ref l == Value.none) = true) from Bool.false_ne_true)]
 show wpAny _ _ (field (.ref it) 1 >>= _) _ _ s
 refine wpAny_bind (wpAny_field ho hd (x:=.int i 0) rfl ?_)
 show wpAny _ _ (seqItems? (.ref l) >>= _) _ _ s
 refine wpAny_bind (wpAny_seqItems hol hdl ?_)
 simp only [Int.toNat_natCast,hx]
 refine wpAny_bind (wpAny_rule (wpAny_bind (wpAny_setField ho hd (by simp) ?_)))
 show wpAny _ _ (newExc (.type "StopIteration") [] >>= _) _ _ _
 refine wpAny_bind ?_
 simp only [newExc,newTuple]
 refine wpAny_bind (wpAny_newObj_type ?_ (by size_fits))
 refine wpAny_bind (m:=firstArgMember _ _) (wpAny_of_eq (a:=Value.none) (by first | rfl | (simp only [firstArgMember]; rfl)) ?_)
 refine wpAny_newObj_type ?_ (by size_fits)
 delta raiseNew
 refine wpAny_bind (wpAny_handled ?_)
 have hs:Heap.SameBut it s.heap (s.heap.update it (Obj.mapFields (·.setIfInBounds 0 Value.none))):=Heap.SameBut.update ..
 have ho1:=Heap.get?_update_self (Obj.mapFields (·.setIfInBounds 0 Value.none)) ho (Obj.isFreed_of_fields (Obj.data_mapFields hd _))
 generalize hh1:s.heap.update it (Obj.mapFields (·.setIfInBounds 0 Value.none)) = h1 at *
 rw [show Ar.in1.in1.handled = none from hh]
 refine wpAny_bind (wpAny_pure (wpAny_throw ?_))
 refine hE h1 _ _ h1.objs.size _ _ hs ⟨_,ho1,fun es ep q=>by rw [Obj.data_mapFields hd] at q; cases q⟩ (fun b o e=>Heap.get?_push_of_some _ (Heap.get?_push_of_some _ e)) ?_ (Heap.get?_push_size _ rfl) rfl rfl ?_ ?_
 ·exact Heap.get?_none_of_le (Nat.le_of_lt (by rw [Heap.size_push]; exact Nat.lt_succ_self _))
 ·exact Array.getElem?_append_left (by simp)
 ·exact Array.getElem?_append_left (by simp)
end
theorem rep_apartN {w:Wd} {w':Wd} {l:Nat} {a:Addr} {o:AObj} (le:Wd.Le l w w') (ha:∀ q,w.h.get? a = some q->Nd q->w'.h.get? a = some q) (h:ObjRep w l a o)
  (hm:∀ b q,w.h.get? b = some q->w'.M b->w.M b):ObjRep w' l a o:=by
 cases o with
 | list vs=>obtain ⟨items,n,h3,h4⟩:=h; exact ⟨items,n,ha _ h3 (fun u_ u_ q=>nomatch q),h4.mono le (Nat.le_refl _)⟩
 | iter vs=>obtain ⟨b,items,n,j,h3,h5,h6,h4⟩:=h; exact ⟨b,items,n,j,ha _ h3 (fun u_ u_ q=>nomatch q),fun x=>h5 (hm _ _ h6 x),(le.keep _ _ h6 h5).at (nd_of rfl),h4.mono le (Nat.le_refl _)⟩
 | tab c q=>exact TabRep.mono le ha h
 | dead=>obtain ⟨o,h3,h4⟩:=h; exact ⟨o,ha _ h3 h4,h4⟩
section
variable {B:Base} {lay:List Loc} {P:Addr->Prop} {nl:Nat} {A:List (List Addr)} {st:St} {s:Shared}
theorem Ok.setObjK (ok:Ok B lay P nl A st s) {l i:Nat} {a:Addr} {o':AObj} {h':Heap} {tk:Nat} (hl:look A l i = some a)
  (hb:∀ b o,B.h₀.get? b = some o->h'.get? b = some o) (hk:∀ b o,b ≠ a->s.heap.get? b = some o->Kp h' b o) (ho:ObjRep (wd lay A P h') l a o') :
  Ok B lay P nl A (st.setObj l i o') { s with heap:=h',toks:=tk } /\ Go lay A A s { s with heap:=h',toks:=tk }:=by
 have ta:Tch lay A a:=.inr ⟨l,i,hl⟩
 have hlive:∀ b o,s.heap.get? b = some o->∃ o',h'.get? b = some o':=fun b o e=>by
  by_cases q:b = a
  ·subst q; exact rep_live ho
  ·exact (hk b o q e).live
 have g:Go lay A A s { s with heap:=h',toks:=tk }:=⟨fun b o e h=>hk b o (fun q=>h (q ▸ ta)) e,hlive,fun u_ u_ u_ e=>e,fun u_ u_ u_ e=>.inl e,rfl,rfl,rfl⟩
 have le:=fun lv=>g.le P lv
 refine ⟨?_,g⟩
 exact {
  base:=hb
  baseM:=ok.baseM
  frs:=fun L m=>by
   obtain ⟨o,es,ep,h1,h2,h3⟩:=ok.frs L m
   obtain ⟨sl,e,_⟩:=hk L o (fun q=>by subst q; exact frame_obj h2 h1 ⟨(l,i),hl,_,(ok.obj_of hl).choose_spec,ok.objs _ _ _ _ (ok.obj_of hl).choose_spec hl⟩) h1
   exact ⟨_,es,ep,e,h2,h3⟩
  len:=ok.len
  slots:=fun j lo e=>slot_apart' (le _) (fun q hq=>hk _ _ (fun x=>ok.layA lo (List.mem_of_getElem? e) l i (x ▸ hl)) hq) (by rw [show (st.setObj l i o').ρ = st.ρ from rfl]; exact ok.slots j lo e)
  sep:=ok.sep
  lenA:=by rw [setObj_len]; exact ok.lenA
  dimA:=fun l' i'=>by
   rw [obj_set]
   split
   ·rename_i q
    obtain ⟨rfl,rfl⟩:=q
    obtain ⟨o,e⟩:=ok.obj_of hl
    rw [e,hl]; simp
   ·exact ok.dimA l' i'
  objs:=fun l' i' o b h1 h2=>by
   rw [obj_set] at h1
   split at h1
   ·rename_i q
    obtain ⟨rfl,rfl⟩:=q
    obtain ⟨o₀,e⟩:=ok.obj_of hl
    rw [e] at h1; cases h1
    rw [hl] at h2; cases h2
    exact ho
   ·rename_i q
    have hne:b ≠ a:=fun x=>q (ok.inj l' i' l i b h2 (x ▸ hl))
    exact rep_apartN (le _) (fun q hq nd=>(hk _ _ hne hq).at nd) (ok.objs l' i' o b h1 h2) fun u_ u_ u_ h=>h
  inj:=ok.inj
  layA:=ok.layA
  disP:=ok.disP
  alive:=fun b h=>let ⟨o,e⟩:=ok.alive b h; hlive b o e
  rlen:=by rw [setObj_len]; exact ok.rlen
  lvl:=ok.lvl }
end
theorem funFr {h base:Heap}:∀ {l:List Env} {frs:List Addr},FrEnv l frs->(∀ L ∈ frs,base.get? L = none /\ ∃ o es ep,h.get? L = some o /\ o.data = .dict es ep)->h.FunFrames base l
 | [],_,_,_=>trivial
 | env :: l,[],fe,_=>by have:=fe.1; simp at this
 | env :: l,L :: frs,fe,hf=>by
  have e:=fe.1
  rw [List.map_cons,List.map_cons] at e
  injection e with e1 e2
  obtain ⟨h1,o,es,ep,h2,h3⟩:=hf L (.head _)
  exact ⟨fe.2 env (.head _),⟨L,o,e1,h1,h2,fun vs q=>by rw [h3] at q; cases q⟩,funFr ⟨e2,fun x m=>fe.2 x (.tail _ m)⟩ fun M m=>hf M (.tail _ m)⟩
theorem isExc_Stop:isSubtype (.type "StopIteration") (.type "BaseException") = pure true:=by rw [isSubtype_type]; kernel_rfl
theorem notTuple_Stop:isSubtype (.type ((Manifest.find? "StopIteration").elim "type" fun x=>x.metatype)) (.type "tuple") = pure false:=by
 rw [show ((Manifest.find? "StopIteration").elim "type" fun x=>x.metatype) = "type" from by kernel_rfl,isSubtype_type]; kernel_rfl
theorem self_Stop:isSubtype (.type "StopIteration") (.type "StopIteration") = pure true:=by rw [isSubtype_type]; kernel_rfl
section
variable {P:Pg} {st:St}
@[elab_as_elim] theorem cmpS_read {H:Hn} {n d:Nat} {cx:CX} {s:Stmt} {R:Stmt->Prop} {i j:Nat} (h:cmpS H n d cx s (.readEnd i j) = true)
  (K:∀ e t y p4 p5 p8 p9 p10,glCall cx.gl (.ref H.pv) (parts e) (fun as=>one as (nmIs cx.res j)) = true->glNm cx.gl (.type "StopIteration") t = true->nmIs cx.res i y = true->R (.Try [.Return (some (.List [e] p4)) p5] [.ExceptHandler (some t) none [.Return (some y) p8] p9] [] [] p10)):R s:=
 cmpS_at h fun u_ tg h=>by
  obtain ⟨h1,h2⟩:=and_t h
  obtain ⟨h2,h3⟩:=and_t h2
  obtain ⟨s1,ha,h2⟩:=one_t h2
  obtain ⟨hd,hh,h3⟩:=one_t h3
  refine sbuilt tg (x:=.Try [s1] [hd] [] [] _) (show Stmt.Try (sparts _).a (sparts _).hs (sparts _).b (sparts _).d (sparts _).p = _ by rw [ha,hh,List.isEmpty_iff.mp (and_t h1).1,List.isEmpty_iff.mp (and_t h1).2]) ?_
  obtain ⟨t,nm,b,p⟩:=hd
  obtain ⟨hn,h3⟩:=and_t h3
  cases nm with
  | some _=>exact (Bool.false_ne_true hn).elim
  | none=>
  obtain ⟨t,ht,h3⟩:=toList_one h3
  subst ht
  obtain ⟨h5,h4⟩:=and_t h3
  obtain ⟨s2,hb,h4⟩:=one_t h4
  subst hb
  refine retOf_t (R:=fun s=>R (.Try [s] _ [] [] _)) h2 fun e1 p5 he=>retOf_t (R:=fun s=>R (.Try _ [.ExceptHandler _ _ [s] _] [] [] _)) h4 fun y p8 hy=>?_
  obtain ⟨h13,he⟩:=and_t he
  obtain ⟨e2,h6,he⟩:=one_t he
  rw [<- (build_13 (dec_t h13)).symm.trans (build_parts e1),h6]
  exact K e2 t y _ p5 p8 p _ he h5 hy
theorem nm_load {c:Cf P} {Ar:Around} {A s y i v} {F:Value->Shared->Prop} {Q:Value->Shared->Prop} (h:nmIs c.cx.res i y = true) (ok:c.Ok A st s) (hv:st.ρ[i]? = some (some v)) (hc:v.isClo = false) (k:∀ u,c.Rel A s u v->Q u s):wpAny (model c.B.prog c.B.w) Ar (eval y c.env) Q F s:=
 built (R:=fun y=>wpAny (model c.B.prog c.B.w) Ar (eval y c.env) Q F s) (build_2 (dec_t (and_t h).1)) (load_slot ok (and_t h).2 hv fun u hu=>k u (hu.rel hc))
theorem glNm_load {c:Cf P} {Ar:Around} {s y v} {F:Value->Shared->Prop} {Q:Value->Shared->Prop} (h:glNm c.cx.gl v y = true) (base:∀ b o,c.B.h₀.get? b = some o->s.heap.get? b = some o) (k:Q v s):wpAny (model c.B.prog c.B.w) Ar (eval y c.env) Q F s:=
 built (R:=fun y=>wpAny (model c.B.prog c.B.w) Ar (eval y c.env) Q F s) (build_2 (dec_t (and_t h).1)) (load_globB base (and_t h).2 k)
theorem call_nm {c:Cf P} {A s e j v fv} {F:Value->Shared->Prop} {Q:Value->Shared->Prop} (h:glCall c.cx.gl fv (parts e) (fun as=>one as (nmIs c.cx.res j)) = true) (ok:c.Ok A st s) (hk:Keep s fv) (hv:st.ρ[j]? = some (some v)) (hc:v.isClo = false)
  (k:∀ u,c.Rel A s u v->c.W (call fv [u] []) Q F s):c.W (eval e c.env) Q F s:=by
 refine glCall_t h fun y p as q hg ha=>?_
 obtain ⟨a,rfl,ha⟩:=one_t ha
 refine wpAny_Call_Name_kw (load_glob ok hg ?_)
 rw [star_one fun q=>(nomatch (dec_t (and_t ha).1).symm.trans q)]
 exact callWith_any rfl (Calls.evalArgs_plain (Calls.spliced_cons (nm_load ha ok hv hc fun u hu=>Calls.spliced_nil ⟨hk,k u hu⟩)))
theorem X1_readEnd {told tells l k v} (hroom:st.R.length < 100) (hj:st.ρ[tells]? = some (some (.ref l k))) (hobj:st.obj l k = some (.iter [])) (hv:st.ρ[told]? = some (some v)) (hcv:v.isClo = false:=by rfl):X1 P (.readEnd told tells) st (.ret v) (st.setObj l k .dead):=⟨rfl,fun c n u_ u_ hdf h A s E ok=>cmpS_read h fun e t y p4 p5 p8 p9 p10 he ht hy=>by
 rw [ok.rlen] at hroom
 obtain ⟨f,o,fd,rest,params,b,ne,q,rd⟩:=c.wl.rd
 have fo:=rd.fo
 have eo:=c.eo
 have ao:=c.ao
 refine wpAny_mono (Q:=c.Po A s (st.setObj l k .dead) (Fl.ret v) RelF) (E:=fun u_ u_=>False) ?_ (fun u_ u_ h=>h) (fun u_ u_ h=>h.elim)
 refine wpAny_Try_except (wpAny_execs_cons (wpAny_Return_some (wpAny_List ?_)))
 rw [star_one fun q=>nomatch (glCall_tag he).symm.trans q]
 refine Calls.spliced_cons ?_
 refine call_nm he ok (.inr ⟨_,o,fd,congrArg Value.ref rd.addr.symm,ok.base _ _ fo.ho,fo.hd⟩) hj rfl fun u hu=>?_
 rw [<- rd.addr]
 refine call_enter (K:=[]) c.wl.hg fo ok (fun u_ m=>nomatch m) ao hroom (.cons hu .nil) .nil (rd.bi _) fun env2 new h1 tk eo2 ao2 hdf2 hfr2 hnew hk1 hkd ok1=>?_
 refine wpAny_execs_cons ?_
 rw [exec_Assign1]
 refine wpAny_bind (wpAny_standAt ?_)
 rw [swaps_no (fun q=>nomatch (glCall_tag rd.ask).symm.trans q) (fun q=>nomatch (glCall_tag rd.ask).symm.trans q)]
 refine wpAny_bind (wpAny_pure ?_)
 rw [if_neg Bool.false_ne_true]
 refine wpAny_bind ?_
 refine call_nm (c:=⟨c.B.on (s.heap.objs.size :: c.B.frs),c.H,fnCX c.H fd,env2,new,PK c.lay c.Q [],c.nl + 1,c.Ar.deeper env2,c.wl.on _,eo2,ao2⟩) rd.ask ok1 (.inl (fun a q=>nomatch q)) (v:=.ref l k) rfl rfl fun u2 hu2=>?_
 obtain ⟨hle2,hlook2⟩ : l <= c.nl + 1 - 1 /\ ∃ a,u2 = .ref a /\ look (A ++ [[]]) l k = some a:=by
  cases hu2 with | ref h1 h2=>exact ⟨h1,_,rfl,h2⟩
 obtain ⟨a,rfl,hlook2⟩:=hlook2
 have hlook:look A l k = some a:=by rw [<- look_app]; exact hlook2
 obtain ⟨b0,items,ni,i0,e1,e2,e3,e4⟩:=ok.objs l k _ a hobj hlook
 have hend:items.toArray[i0]? = none:=by
  have:items.drop i0 = []:=by
   generalize items.drop i0 = zs at e4
   cases e4; rfl
  simpa using drop_nil this
 refine next_end_raw (B:=c.B.on (s.heap.objs.size :: c.B.frs)) ao2.handled ⟨_,hk1 _ _ e1,rfl,rfl⟩ (isList_of (hk1 _ _ e3)) hend fun h2 h3 ea t oe vs hs ha2 hk3 hea he3 hec hed hv0 hv1=>?_
 obtain ⟨l0,hl0,fe0⟩:=ao.frames
 obtain ⟨oa,hoa,hnda⟩:=ha2
 have hfrs:∀ L ∈ s.heap.objs.size :: c.B.frs,∃ o es ep,h2.get? L = some o /\ o.data = .dict es ep:=fun L m=>by
  obtain ⟨o,es,ep,q1,q2,_⟩:=ok1.frs L m
  refine ⟨o,es,ep,(hs.2 L fun q=>?_).trans q1,q2⟩
  subst q
  have q3:h1.get? L = some o:=q1
  rw [hk1 _ _ e1] at q3
  cases q3; cases q2
 have haf:a ∉ s.heap.objs.size :: c.B.frs:=fun m=>by
  obtain ⟨o,es,ep,q1,q2⟩:=hfrs a m
  rw [hoa] at q1; cases q1
  exact hnda _ _ q2
 generalize hbase:hideAll h2 (s.heap.objs.size :: c.B.frs) = base
 have hbn1:∀ L ∈ s.heap.objs.size :: c.B.frs,base.get? L = none:=fun L m=>hbase ▸ hideAll_none _ m
 have hbg:∀ b o,h2.get? b = some o->b ∉ s.heap.objs.size :: c.B.frs->base.get? b = some o:=fun b o q m=>hbase ▸ hideAll_get _ q m
 have hbo:∀ b o,base.get? b = some o->h2.get? b = some o:=fun b o q=>of_hideAll (s.heap.objs.size :: c.B.frs) (hbase ▸ q)
 have hen:base.get? ea = none:=by
  cases q:base.get? ea with
  | none=>rfl
  | some o=>rw [hbo _ _ q] at hea; cases hea
 have fe2:FrEnv (env2 :: l0) (s.heap.objs.size :: c.B.frs):=by
  obtain ⟨l2,q1,q2⟩:=ao2.frames
  rw [Around.frames_deeper hl0] at q1
  cases q1; exact q2
 refine wpAny_leaving_firstW (base:=base) (outer:=l0) (Around.frames_deeper hl0) (funFr fe2 fun L m=>⟨hbn1 L m,let ⟨o,es,ep,q1,q2⟩:=hfrs L m; ⟨o,es,ep,hk3 _ _ q1,q2⟩⟩) hfr2 he3 (fun b o q=>hk3 _ _ (hbo _ _ q)) hen hed hv1 hv0 fun h4 hL=>?_
 obtain ⟨k1,k2,k3,k4⟩:=hL
 obtain ⟨ll,hll⟩:=hdf
 rw [hl0] at hll
 cases hll
 have fl4:Heap.FlyingW base (c.env :: ll) ea oe.cls (.ref t) h4:=⟨k1,hen,k2.2.2,k3⟩
 obtain ⟨_,⟨L,_,hf,_⟩,_⟩:=k2.2.2
 refine wpAny_looks_onW hl0 hf fl4 fun h5 held5 u45=>?_
 refine wpAny_landsW held5 fun h6 fl6 u56=>?_
 rw [hec] at fl6
 have inb:∀ (h':Heap),base.StaysIn h'->∀ b o,c.B.h₀.get? b = some o->h'.get? b = some o:=fun h' hst b o q=>by
  have hb:b ∉ s.heap.objs.size :: c.B.frs:=fun m=>by
   obtain ⟨_,_,_,_,_,q3⟩:=ok1.frs b m
   have q4:c.B.h₀.get? b = none:=q3
   rw [q] at q4; cases q4
  have hba:b ≠ a:=fun q5=>ok.baseM b o q (.inl (.inr ⟨l,k,q5 ▸ hlook⟩))
  exact hst b o (hbg b o ((hs.2 b hba).trans (hk1 b o (ok.base b o q))) hb)
 obtain ⟨ob,hob,hobc⟩:=fl6.there
 refine wpAny_handleBy_builtin (X := "StopIteration") (T := "StopIteration") (b:=true) isExc_Stop notTuple_Stop self_Stop ?_
 refine glNm_load ht (inb h6 fl6.1) ⟨rfl,⟨ob,hob,hobc⟩,?_⟩
 rw [if_pos rfl]
 refine lands_againW fl6 fun h7 fl7 u67=>?_
 have hk7:∀ b o,b ≠ a->s.heap.get? b = some o->Kp h7 b o:=fun b o hba q=>by
  have q2:h2.get? b = some o:=(hs.2 b hba).trans (hk1 b o q)
  by_cases m:b ∈ s.heap.objs.size :: c.B.frs
  ·obtain ⟨o',es,ep,q3,q4⟩:=hfrs b m
   rw [q2] at q3; cases q3
   have up:h3.UpToSlots h7:=((show h3.UpToSlots h4 from k4).trans u45).trans (u56.trans u67)
   obtain ⟨sl,q5⟩:=up b o (hk3 _ _ q2) fun vs w=>by rw [q4] at w; cases w
   exact ⟨sl,q5,fun nd=>absurd q4 (nd _ _)⟩
  ·exact .of (fl7.1 b o (hbg b o q2 m))
 have ha7:h7.get? a = some oa:=fl7.1 a oa (hbg a oa hoa haf)
 obtain ⟨ok7,g7⟩:=ok.setObjK (tk:=tk) (o':=.dead) hlook (inb h7 fl7.1) hk7 ⟨oa,ha7,hnda⟩
 refine wpAny_execs_cons (wpAny_Return_some (nm_load hy ok7 (v:=v) hv hcv fun u3 hu3=>⟨A,g7,ok7,.ret hu3⟩))⟩
end
end
section
noncomputable def onObj (h:Heap) (a:Addr) (k:Obj->Bool):Bool:=match h.get? a with | some o=>k o | none=>false
theorem onObj_t {h:Heap} {a:Addr} {k:Obj->Bool} (e:onObj h a k = true):∃ o,h.get? a = some o /\ k o = true:=by
 unfold onObj at e
 cases q:h.get? a with
 | none=>rw [q] at e; exact (Bool.false_ne_true e).elim
 | some o=>rw [q] at e; exact ⟨o,rfl,e⟩
noncomputable def isFun (d:Data) (k:FuncData->Bool):Bool:=match d with | .func fd=>k fd | _=>false
noncomputable def isDict (d:Data) (k:Array DictEntry->Bool):Bool:=match d with | .dict es _=>k es | _=>false
noncomputable def isSeq (d:Data) (k:Array Value->Bool):Bool:=match d with | .seq vs _=>k vs | _=>false
noncomputable def isFields (d:Data) (k:Array Value->Bool):Bool:=match d with | .fields vs=>k vs | _=>false
theorem isFun_t {d:Data} {k:FuncData->Bool} (e:isFun d k = true):∃ fd,d = .func fd /\ k fd = true:=by
 cases d with
 | func fd=>exact ⟨fd,rfl,e⟩
 | _=>exact (Bool.false_ne_true e).elim
theorem isDict_t {d:Data} {k:Array DictEntry->Bool} (e:isDict d k = true):∃ es ep,d = .dict es ep /\ k es = true:=by
 cases d with
 | dict es ep=>exact ⟨es,ep,rfl,e⟩
 | _=>exact (Bool.false_ne_true e).elim
theorem isSeq_t {d:Data} {k:Array Value->Bool} (e:isSeq d k = true):∃ vs n,d = .seq vs n /\ k vs = true:=by
 cases d with
 | seq vs n=>exact ⟨vs,n,rfl,e⟩
 | _=>exact (Bool.false_ne_true e).elim
theorem isFields_t {d:Data} {k:Array Value->Bool} (e:isFields d k = true):∃ vs,d = .fields vs /\ k vs = true:=by
 cases d with
 | fields vs=>exact ⟨vs,rfl,e⟩
 | _=>exact (Bool.false_ne_true e).elim
noncomputable def isRef (v:Value) (k:Addr->Bool):Bool:=match v with | .ref a=>k a | _=>false
noncomputable def isStr (v:Value) (q:Str):Bool:=match v with | .str x _=>decide (x = q) | _=>false
noncomputable def isInt (v:Value) (i:Int):Bool:=match v with | .int x _=>decide (x = i) | _=>false
noncomputable def isNone (v:Value):Bool:=match v with | .none=>true | _=>false
theorem isRef_t {v:Value} {k:Addr->Bool} (e:isRef v k = true):∃ a,v = .ref a /\ k a = true:=by
 cases v with
 | ref a=>exact ⟨a,rfl,e⟩
 | _=>exact (Bool.false_ne_true e).elim
theorem isStr_t {v:Value} {q:Str} (e:isStr v q = true):∃ t,v = .str q t:=by
 cases v with
 | str x t=>exact ⟨t,by rw [dec_t e]⟩
 | _=>exact (Bool.false_ne_true e).elim
theorem isInt_t {v:Value} {i:Int} (e:isInt v i = true):∃ t,v = .int i t:=by
 cases v with
 | int x t=>exact ⟨t,by rw [dec_t e]⟩
 | _=>exact (Bool.false_ne_true e).elim
theorem isNone_t {v:Value} (e:isNone v = true):v = .none:=by
 cases v with
 | none=>rfl
 | _=>exact (Bool.false_ne_true e).elim
noncomputable def codeChk (h:Heap) (cd:Value) (q:Str):Bool:=isRef cd fun c=>onObj h c fun o=>isFields o.data fun vs=>(vs[1]?).any (isStr · q)
theorem codeRec_of {h:Heap} {cd:Value} {q:Str} (e:codeChk h cd q = true):h.CodeRec cd q:=by
 obtain ⟨c,rfl,e⟩:=isRef_t e
 obtain ⟨o,ho,e⟩:=onObj_t e
 obtain ⟨vs,hd,e⟩:=isFields_t e
 obtain ⟨v,hv,e⟩:=Option.any_eq_true _ _ |>.mp e
 obtain ⟨t,rfl⟩:=isStr_t e
 exact ⟨c,o,vs,t,rfl,ho,hd,hv⟩
noncomputable def glRef (es:Array DictEntry) (p:Str × Addr):Bool:=(nsFind es p.1).any (isRef · fun b=>decide (b = p.2))
noncomputable def glNone (es:Array DictEntry) (p:Str × Value):Bool:=(nsFind es p.1).isNone
noncomputable def glOf (G:List (Str × Addr)) (Bt:List (Str × Value)) (x:Str):Option Value:=match G.lookup x with | some a=>some (.ref a) | none=>Bt.lookup x
noncomputable def glChk (h:Heap) (G:List (Str × Addr)) (Bt:List (Str × Value)):Bool:=onObj h mainGlobals fun o=>isDict o.data fun es=>G.all (glRef es) && Bt.all (glNone es)
theorem memLk {α β:Type} [BEq α] [LawfulBEq α] {a:α} {b:β}:∀ {l:List (α × β)},l.lookup a = some b->(a,b) ∈ l
 | [],h=>by cases h
 | (x,y) :: r,h=>by
  rw [List.lookup_cons] at h
  split at h
  ·rename_i q
   have:=eq_of_beq q
   subst this
   cases h; exact .head _
  ·exact .tail _ (memLk h)
theorem gl_mg {h0 h:Heap} {G:List (Str × Addr)} {Bt:List (Str × Value)} {mg:Str->Option Value} (hk:∀ b o,h0.get? b = some o->h.get? b = some o) (e:glChk h0 G Bt = true) (hn:h.Ns mainGlobals mg) :
  (∀ p ∈ G,mg p.1 = some (.ref p.2)) /\ ∀ p ∈ Bt,mg p.1 = none:=by
 obtain ⟨o,ho,e⟩:=onObj_t e
 obtain ⟨es,ep,hd,e⟩:=isDict_t e
 obtain ⟨h1,h2⟩:=and_t e
 have hm:∀ x,mg x = nsFind es x:=fun x=>by
  obtain ⟨o',es',ep',q1,q2,_,q3⟩:=hn
  rw [hk _ _ ho] at q1
  cases q1
  rw [hd] at q2
  cases q2
  exact (q3 x).symm
 refine ⟨fun p m=>?_,fun p m=>(hm _).trans (Option.isNone_iff_eq_none.mp (List.all_eq_true.mp h2 _ m))⟩
 obtain ⟨u,hu,q⟩:=Option.any_eq_true _ _ |>.mp (List.all_eq_true.mp h1 _ m)
 obtain ⟨b,rfl,q⟩:=isRef_t q
 rw [hm,hu,dec_t q]
theorem HOk_of {B:Base} {G:List (Str × Addr)} {Bt:List (Str × Value)} {mu:Pos->Bool} {pv:Addr} {h0:Heap} (hk:∀ b o,h0.get? b = some o->B.h₀.get? b = some o) (e:glChk h0 G Bt = true) (hb:∀ x:Str,x ≠ "__name__" -> B.mb x = bootBuiltins x)
  (h3:∀ p ∈ Bt,p.1 ≠ "__name__" /\ bootBuiltins p.1 = some p.2):HOk B ⟨mu,glOf G Bt,pv⟩:=by
 obtain ⟨g1,g2⟩:=gl_mg hk e B.nsG
 intro x v h
 change glOf G Bt x = some v at h
 unfold glOf at h
 split at h
 ·rename_i a ha
  cases h
  exact .inl (g1 _ (memLk ha))
 ·have hmem:=memLk h
  obtain ⟨h4,h5⟩:=h3 _ hmem
  exact .inr ⟨g2 _ hmem,(hb _ h4).trans h5⟩
noncomputable def entOk (e:DictEntry) (p:Int × Str):Bool:=decide (e.hash = hashInt p.1) && (isInt e.key p.1 && isStr e.val p.2)
noncomputable def gdChk (h:Heap) (p:Addr × List (Int × Str)):Bool:=!(p.1 == sysModules) && onObj h p.1 fun o=>(isTy o.cls && (o.dict.isNone && o.slots.isEmpty)) && isDict o.data fun es=>all2 entOk es.toList p.2
 where isTy (v:Value):Bool:=match v with | .type n=>n == "dict" | _=>false
theorem isTy_t {v:Value} (e:gdChk.isTy v = true):v = .type "dict" := by
 cases v with
 | type n=>exact congrArg Value.type (beq_iff_eq.mp e)
 | _=>exact (Bool.false_ne_true e).elim
theorem find_ents (k:Int):∀ (es:List DictEntry) (L:List (Int × Str)),all2 entOk es L = true->(match L.lookup k with | some x=>∃ t,findBy Value.isInt es.toArray k = some (.str x t) | none=>findBy Value.isInt es.toArray k = none)
 | [],[],_=>rfl
 | [],_ :: _,h=>(Bool.false_ne_true h).elim
 | _ :: _,[],h=>(Bool.false_ne_true h).elim
 | e :: es,(k',x) :: L,h=>by
  have ih:=find_ents k es L (and_t h).2
  obtain ⟨h1,h2⟩:=and_t (and_t h).1
  obtain ⟨t',hk⟩:=isInt_t (and_t h2).1
  obtain ⟨t,hv⟩:=isStr_t (and_t h2).2
  unfold findBy at *
  simp only [List.lookup_cons,List.find?_toArray,List.find?_cons,hk] at *
  by_cases q:k = k'
  ·subst q
   have e2:Value.isInt k (.int k t') = true:=by simp [Value.isInt]
   rw [beq_self_eq_true k,e2]
   exact ⟨t,congrArg some hv⟩
  ·have e2:Value.isInt k (.int k' t') = false:=by
    simp [Value.isInt]; exact fun w=>q (by lia)
   rw [show (k == k') = false from beq_eq_false_iff_ne.mpr q,e2]
   exact ih
theorem ents_mem {e:DictEntry}:∀ {es:List DictEntry} {L:List (Int × Str)},all2 entOk es L = true->e ∈ es->∃ k t,e.key = .int k t /\ e.hash = hashInt k
 | _ :: _,[],h,_=>(Bool.false_ne_true h).elim
 | _ :: es,p :: L,h,m=>by
  rcases List.mem_cons.mp m with rfl | m
  ·obtain ⟨h1,h2⟩:=and_t (and_t h).1
   obtain ⟨t,hk⟩:=isInt_t (and_t h2).1
   exact ⟨p.1,t,hk,dec_t h1⟩
  ·exact ents_mem (and_t h).2 m
theorem GdOk_of {B:Base} {h0:Heap} (hk:∀ b o,h0.get? b = some o->B.h₀.get? b = some o) (e:B.G.gds.all (gdChk h0) = true):GdOk B:=by
 have one:∀ b kvs,B.G.gds.lookup b = some kvs->(b == sysModules) = false /\ ∃ es:Array DictEntry,all2 entOk es.toList kvs = true /\ ∀ s:Shared,(∀ b o,B.h₀.get? b = some o->s.heap.get? b = some o)->s.heap.MapOf (intKind B.prog B.w) b (findBy Value.isInt es):=fun b kvs hl=>by
  obtain ⟨e1,e2⟩:=and_t (List.all_eq_true.mp e _ (memLk hl))
  obtain ⟨o,ho,e2⟩:=onObj_t e2
  obtain ⟨e2,e3⟩:=and_t e2
  obtain ⟨e4,e5⟩:=and_t e2
  obtain ⟨es,ep,hd,e3⟩:=isDict_t e3
  refine ⟨(Bool.not_eq_true' _).mp e1,es,e3,fun s hs=>⟨o,es,ep,hs _ _ (hk _ _ ho),⟨isTy_t e4,Option.isNone_iff_eq_none.mp (and_t e5).1,Array.isEmpty_iff.mp (and_t e5).2⟩,hd,fun x hx=>?_,fun u_=>rfl⟩⟩
  obtain ⟨k,t,q1,q2⟩:=ents_mem e3 (Array.mem_def.mp hx)
  exact ⟨k,q1 ▸ intKind_is _ _ _ _,q2⟩
 constructor
 ·intro b hb Ar E s pl Q hs hq
  obtain ⟨kvs,hb⟩:=Option.isSome_iff_exists.mp hb
  obtain ⟨_,es,_,hm⟩:=one b kvs hb
  have:=hm s hs
  exact getMethod_builtin this.typeIs PySem.F.plainAttrs_dict PySem.F.slot_dict_get PySem.F.type_dict_get this.noDict hq
 ·intro b kvs hb Ar E s k t d Q hs hq
  obtain ⟨hsm,es,ha,hm⟩:=one b kvs hb
  have hmm:=hm s hs
  refine call_meetsIn PySem.F.slot_dict_get hmm.typeIs PySem.F.entry_dict_get (PySem.F.args_dict_get_3 _ _ _) (meets_dict_get_default (intKind B.prog B.w) b (intKind_is _ _ k t) hsm d) ⟨_,hmm,?_⟩
  have hf:=find_ents k _ _ ha
  have hq':=hq (s.toks + 1)
  split at hf
  ·rename_i x hx
   rw [hx] at hq'
   obtain ⟨t',ht⟩:=hf
   rw [ht]
   exact hq' t'
  ·rename_i hx
   rw [hx] at hq'
   rw [hf]
   exact hq'
end
section
noncomputable def namesOf (l:List Arg):List Str:=l.map (·.arg)
theorem names1 {l:List Arg} {a:Str} {r:List Str} (h:namesOf l = a :: r):∃ n p l',l = ⟨a,n,p⟩ :: l' /\ namesOf l' = r:=by
 cases l with
 | nil=>cases h
 | cons x l=>
  obtain ⟨b,n,p⟩:=x
  cases h
  exact ⟨n,p,l,rfl,rfl⟩
theorem names0 {l:List Arg} (h:namesOf l = []):l = []:=List.map_eq_nil_iff.mp h
theorem binds2 {s:Shared} {fd:FuncData} {args:Args} {binds:List (Str × Value)} {T D:Addr} {o:Obj} {items:Array Value} {n:Nat} {m:Str->Option Value} {name:Str} {α β:Type} {a:α} {b:β}
  {k:Option (Array Value)->Sem (List (Str × Value))} {f1:Option Value->Sem α} {f2:α->Sem β} {f3:β->Sem (List (Str × Value))} (hd:fd.defaults = .ref T) (ho:s.heap.get? T = some o) (hs:o.data = .seq items n) (hN:s.heap.Ns D m) 
  (h₁:bindArgs fd args = seqItems? fd.defaults >>= k) (h₂:k (some items) = ((nsGet D name >>= f1) >>= f2) >>= f3) (h₃:f1 (m name) = pure a) (h₄:f2 a = pure b) (h₅:f3 b = pure binds):BindsTo s fd args binds:=
 fun u_ u_ u_ u_ hq=>by
  rw [h₁,hd]
  refine wpAny_bind (wpAny_seqItems ho hs ?_)
  rw [h₂]
  refine wpAny_bind (wpAny_bind (wpAny_bind (wpAny_nsGet hN ?_)))
  rw [h₃]
  refine wpAny_pure ?_
  rw [h₄]
  refine wpAny_pure ?_
  rw [h₅]
  exact wpAny_pure hq
section
variable {fd:FuncData} {T D:Addr} {t0:Tok} {n1 n2 n3 n4 n5:Option PySem.Expr} {p1 p2 p3 p4 p5:Pos} {kd dfl} {s:Shared} {o oD:Obj} {n ep:Nat} {m:Str->Option Value} {i1 i2 i3 i4 v:Value}
noncomputable abbrev KP:List Str:=["a", "x", "lo", "hi", "key"]
noncomputable abbrev kdfl (t0:Tok) (items:List Value) (v:Value):List (Str × Value):=KP.zip ((items ++ [Value.int 0 t0,.none].drop (items.length - 2)) ++ [v])
theorem bkey (hp:fd.params = ⟨[],[⟨"a",n1,p1⟩,⟨"x",n2,p2⟩,⟨"lo",n3,p3⟩,⟨"hi",n4,p4⟩],none,[⟨"key",n5,p5⟩],kd,none,dfl⟩) (hd:fd.defaults = .ref T) (hkd:fd.kwdefaults = .ref D)
  (ho:s.heap.get? T = some o) (hs:o.data = .seq #[.int 0 t0,.none] n) (hN:s.heap.Ns D m) (hm:m "key" = some .none) {items:List Value} (h2:2 <= items.length) (h4:items.length <= 4) :
  BindsTo s fd ⟨items,[]⟩ (kdfl t0 items .none) /\ ∀ v,BindsTo s fd ⟨items,[("key",v)]⟩ (kdfl t0 items v):=by
 obtain ⟨nm,qn,ps,body,sc,gl,cl,df,kw,doc,pm,an,code,ct,bi⟩:=fd
 simp only at hp hd hkd
 subst hp hd hkd
 cases items with
 | nil=>cases h2
 | cons i1 r=>
 cases r with
 | nil=>cases h2 with | step h=>cases h
 | cons i2 r=>
 cases r with
 | nil=>exact ⟨binds2 rfl ho hs hN rfl rfl (by rw [hm]) rfl rfl,fun u_=>.of_defaults rfl ho hs rfl rfl⟩
 | cons i3 r=>
 cases r with
 | nil=>exact ⟨binds2 rfl ho hs hN rfl rfl (by rw [hm]) rfl rfl,fun u_=>.of_defaults rfl ho hs rfl rfl⟩
 | cons i4 r=>
 cases r with
 | nil=>exact ⟨binds2 rfl ho hs hN rfl rfl (by rw [hm]) rfl rfl,fun u_=>.of_defaults rfl ho hs rfl rfl⟩
 | cons _ r=>exact absurd h4 (Nat.not_le_of_gt (Nat.succ_le_succ (Nat.succ_le_succ (Nat.succ_le_succ (Nat.succ_le_succ (Nat.succ_pos _))))))
end
theorem hd_tl {α:Type} {l:List α} {n:Nat} (h:l.length = n + 1):∃ a t,l = a :: t /\ t.length = n:=by
 cases l with
 | nil=>cases h
 | cons a t=>exact ⟨a,t,rfl,Nat.succ.inj h⟩
noncomputable def HPlain (l:List Str):Prop:=∀ (nm qn:Str) (as:List Arg) kd dfl (body:FuncBody) (sc:Scope) (gl:Addr) cl kw doc pm an code ct (bi:Addr) (items:List Value),namesOf as = l->items.length = l.length->
 bindArgs ⟨nm,qn,⟨[],as,none,[],kd,none,dfl⟩,body,sc,gl,cl,.none,kw,doc,pm,an,code,ct,bi⟩ ⟨items,[]⟩ = pure (l.zip items)
theorem hplain1 {a:Str} (h:∀ (nm qn:Str) n p kd dfl (body:FuncBody) (sc:Scope) (gl:Addr) cl kw doc pm an code ct (bi:Addr) (i:Value),
  bindArgs ⟨nm,qn,⟨[],[⟨a,n,p⟩],none,[],kd,none,dfl⟩,body,sc,gl,cl,.none,kw,doc,pm,an,code,ct,bi⟩ ⟨[i],[]⟩ = pure [(a,i)]):HPlain [a]:=fun nm qn as kd dfl body sc gl cl kw doc pm an code ct bi items ha hi=>by
 obtain ⟨n,p,l,rfl,ha1⟩:=names1 ha
 cases names0 ha1
 obtain ⟨i,rfl⟩:=List.length_eq_one_iff.mp hi
 exact h ..
theorem hplain2 {a b:Str} (h:∀ (nm qn:Str) n p n2 p2 kd dfl (body:FuncBody) (sc:Scope) (gl:Addr) cl kw doc pm an code ct (bi:Addr) (i j:Value),
  bindArgs ⟨nm,qn,⟨[],[⟨a,n,p⟩,⟨b,n2,p2⟩],none,[],kd,none,dfl⟩,body,sc,gl,cl,.none,kw,doc,pm,an,code,ct,bi⟩ ⟨[i,j],[]⟩ = pure [(a,i),(b,j)]):HPlain [a,b]:=fun nm qn as kd dfl body sc gl cl kw doc pm an code ct bi items ha hi=>by
 obtain ⟨n,p,l1,rfl,ha1⟩:=names1 ha
 obtain ⟨n2,p2,l2,rfl,ha2⟩:=names1 ha1
 cases names0 ha2
 obtain ⟨i,t,rfl,h1⟩:=hd_tl hi
 obtain ⟨j,t2,rfl,h2⟩:=hd_tl h1
 obtain rfl:=List.length_eq_zero_iff.mp h2
 exact h ..
theorem hplain3 {a b d:Str} (h:∀ (nm qn:Str) n p n2 p2 n3 p3 kd dfl (body:FuncBody) (sc:Scope) (gl:Addr) cl kw doc pm an code ct (bi:Addr) (i j k:Value),
  bindArgs ⟨nm,qn,⟨[],[⟨a,n,p⟩,⟨b,n2,p2⟩,⟨d,n3,p3⟩],none,[],kd,none,dfl⟩,body,sc,gl,cl,.none,kw,doc,pm,an,code,ct,bi⟩ ⟨[i,j,k],[]⟩ = pure [(a,i),(b,j),(d,k)]):HPlain [a,b,d]:=fun nm qn as kd dfl body sc gl cl kw doc pm an code ct bi items ha hi=>by
 obtain ⟨n,p,l1,rfl,ha1⟩:=names1 ha
 obtain ⟨n2,p2,l2,rfl,ha2⟩:=names1 ha1
 obtain ⟨n3,p3,l3,rfl,ha3⟩:=names1 ha2
 cases names0 ha3
 obtain ⟨i,t,rfl,h1⟩:=hd_tl hi
 obtain ⟨j,t2,rfl,h2⟩:=hd_tl h1
 obtain ⟨k,t3,rfl,h3⟩:=hd_tl h2
 obtain rfl:=List.length_eq_zero_iff.mp h3
 exact h ..
noncomputable def prms (fd:FuncData):List Str:=namesOf fd.params.args ++ namesOf fd.params.kwonlyargs
noncomputable def barePrm (p:Arguments):Bool:=p.posonlyargs.isEmpty && (p.vararg.isNone && p.kwarg.isNone)
noncomputable def isDfl (l:List V):Bool:=match l with
 | x :: r=>isZero x && (match r with | y :: r=>isNo y && r.isEmpty | []=>false)
 | []=>false
 where
  isZero (v:V):Bool:=match v with | .int i=>decide (i = 0) | _=>false
  isNo (v:V):Bool:=match v with | .imm v=>isNone v | _=>false
theorem isZero_t {v:V} (h:isDfl.isZero v = true):v = .int 0:=by
 cases v with
 | int i=>rw [dec_t h]
 | _=>exact (Bool.false_ne_true h).elim
theorem isNo_t {v:V} (h:isDfl.isNo v = true):v = .imm .none:=by
 cases v with
 | imm v=>rw [isNone_t h]
 | _=>exact (Bool.false_ne_true h).elim
theorem isDfl_t {l:List V} (h:isDfl l = true):l = [.int 0,.imm .none]:=by
 cases l with
 | nil=>exact (Bool.false_ne_true h).elim
 | cons x r=>
  cases r with
  | nil=>exact (Bool.false_ne_true (and_t h).2).elim
  | cons y r=>rw [isZero_t (and_t h).1,isNo_t (and_t (and_t h).2).1,List.isEmpty_iff.mp (and_t (and_t h).2).2]
noncomputable def one2 {α:Type} (l:List α) (k:α->α->Bool):Bool:=match l with | [a,b]=>k a b | _=>false
theorem one2_t {α:Type} {l:List α} {k:α->α->Bool} (h:one2 l k = true):∃ a b,l = [a,b] /\ k a b = true:=by
 match l,h with
 | [a,b],h=>exact ⟨a,b,rfl,h⟩
 | [],h=>exact (Bool.false_ne_true h).elim
 | [_],h=>exact (Bool.false_ne_true h).elim
 | _ :: _ :: _ :: _,h=>exact (Bool.false_ne_true h).elim
noncomputable def kT4 (u v:Value):Bool:=isInt u 0 && isNone v
noncomputable def kT3 (vs:Array Value):Bool:=one2 vs.toList kT4
noncomputable def kT2 (o:Obj):Bool:=isSeq o.data kT3
noncomputable def kT1 (h:Heap) (T:Addr):Bool:=onObj h T kT2
noncomputable def kD4 (e:DictEntry):Bool:=isStr e.key "key" && isNone e.val
noncomputable def kD3 (es:Array DictEntry):Bool:=one es.toList kD4
noncomputable def kD2 (o:Obj):Bool:=isDict o.data kD3
noncomputable def kD1 (h:Heap) (D:Addr):Bool:=onObj h D kD2
noncomputable def keyA (f:Fn) (p:Arguments):Bool:=decide (f.key = true /\ f.np = 4 /\ namesOf p.args = [("a" : Str), "x", "lo", "hi"] /\ namesOf p.kwonlyargs = [("key" : Str)])
noncomputable def keyB (h:Heap) (fd:FuncData):Bool:=isRef fd.defaults (kT1 h) && isRef fd.kwdefaults (kD1 h)
noncomputable def keyChk (h:Heap) (f:Fn) (fd:FuncData):Bool:=(keyA f fd.params && isDfl f.dfl) && keyB h fd
noncomputable def plA (PN:List (List Str)) (f:Fn) (p:Arguments):Bool:=decide (f.key = false /\ f.np = p.args.length /\ namesOf p.args ∈ PN)
noncomputable def plB (f:Fn) (fd:FuncData):Bool:=f.dfl.isEmpty && (fd.params.kwonlyargs.isEmpty && isNone fd.defaults)
noncomputable def bindChk (h:Heap) (PN:List (List Str)) (f:Fn) (fd:FuncData):Bool:=barePrm fd.params && (keyChk h f fd || (plA PN f fd.params && plB f fd))
noncomputable def kwV (key:Bool) (pos:List V) (kw:List (Str × V)):Option (List V):=
 if key then (match kw with | []=>some (pos ++ [.imm .none]) | [(k,v)]=>if k = "key" then some (pos ++ [v]) else none | _=>none)
 else (match kw with | []=>some pos | _=>none)
theorem bindF_t {f:Fn} {args:List V} {kws:List (Str × V)} {vs:List V} (h:bindF f args kws = some vs):args.length <= f.np /\ f.np - args.length <= f.dfl.length /\ kwV f.key (args ++ f.dfl.drop (f.dfl.length - (f.np - args.length))) kws = some vs:=
 let ⟨a,h⟩:=ite_none h
 ⟨a,ite_none h⟩
theorem hbind_plain {B:Base} {f:Fn} {fd:FuncData} {params:List Str} (h1:f.np = params.length) (h2:f.dfl = []) (h3:f.key = false)
  (hb:∀ items:List Value,items.length = params.length->bindArgs fd ⟨items,[]⟩ = pure (params.zip items)):HBind B f fd params:=fun w lv s items args ks kws vs u_ hw hr hk hf=>by
 obtain ⟨hle,hz,hf⟩:=bindF_t hf
 rw [h1] at hle hz
 rw [h2] at hz
 have hl:items.length = params.length:=hr.length.trans (Nat.le_antisymm hle (Nat.le_of_sub_eq_zero (Nat.le_zero.mp hz)))
 rw [h3,h2] at hf
 cases hk with
 | nil=>
  rw [List.drop_nil,List.append_nil] at hf
  obtain rfl:args = vs:=Option.some.inj hf
  exact ⟨items,.of_eq (hb items hl),hr.toS,hl⟩
 | cons _ _=>cases hf
theorem RelL.dfl {w:Wd} {lv:Nat} {t0:Tok} (n:Nat):RelL w lv ([Value.int 0 t0,.none].drop n) ([V.int 0,.imm .none].drop n):=match n with
 | 0=>.cons .int (.cons .imm .nil)
 | 1=>.cons .imm .nil
 | k + 2=>by rw [show [Value.int 0 t0,.none].drop (k + 2) = [] from List.drop_nil,show [V.int 0,.imm .none].drop (k + 2) = [] from List.drop_nil]; exact .nil
theorem keyT {h:Heap} {v:Value} (e:isRef v (kT1 h) = true):∃ T o n t0,v = .ref T /\ h.get? T = some o /\ o.data = .seq #[.int 0 t0,.none] n:=by
 obtain ⟨T,hd,e⟩:=isRef_t e
 obtain ⟨o,hg,e⟩:=onObj_t e
 obtain ⟨us,n,hs,e⟩:=isSeq_t e
 obtain ⟨u,v,hus,e⟩:=one2_t e
 obtain ⟨t0,rfl⟩:=isInt_t (and_t e).1
 obtain rfl:=isNone_t (and_t e).2
 exact ⟨T,o,n,t0,hd,hg,(Array.toList_inj.mp hus:us = #[.int 0 t0,.none]) ▸ hs⟩
theorem keyD {h:Heap} {v:Value} (e:isRef v (kD1 h) = true):∃ D o m,v = .ref D /\ h.get? D = some o /\ m "key" = some .none /\ ∀ h':Heap,h'.get? D = some o->h'.Ns D m:=by
 obtain ⟨D,hd,e⟩:=isRef_t e
 obtain ⟨o,hg,e⟩:=onObj_t e
 obtain ⟨es,ep,hs,e⟩:=isDict_t e
 obtain ⟨x,hes,e⟩:=one_t e
 obtain ⟨hh,ky,vl⟩:=x
 obtain ⟨t1,rfl⟩:=isStr_t (and_t e).1
 obtain rfl:=isNone_t (and_t e).2
 obtain rfl:es = #[⟨hh,.str "key" t1,.none⟩]:=Array.toList_inj.mp hes
 exact ⟨D,o,nsFind #[⟨hh,.str "key" t1,.none⟩],hd,hg,rfl,fun h' q=>⟨_,_,_,q,hs,fun e he=>by
  rcases List.mem_singleton.mp (List.mem_toArray.mp he) with rfl
  exact ⟨_,_,rfl⟩,fun u_=>rfl⟩⟩
theorem bare_t {p:Arguments} (h:barePrm p = true):p = ⟨[],p.args,none,p.kwonlyargs,p.kw_defaults,none,p.defaults⟩:=by
 obtain ⟨po,as,va,ko,kd,ka,dd⟩:=p
 obtain ⟨b1,b2⟩:=and_t h
 obtain rfl:po = []:=List.isEmpty_iff.mp b1
 obtain rfl:va = none:=Option.isNone_iff_eq_none.mp (and_t b2).1
 obtain rfl:ka = none:=Option.isNone_iff_eq_none.mp (and_t b2).2
 rfl
theorem key_prm {f:Fn} {p:Arguments} (h:barePrm p = true) (ha:namesOf p.args = [("a" : Str), "x", "lo", "hi"]) (hk:namesOf p.kwonlyargs = [("key" : Str)]):∃ n1 p1 n2 p2 n3 p3 n4 p4 n5 p5,p = ⟨[],[⟨"a",n1,p1⟩,⟨"x",n2,p2⟩,⟨"lo",n3,p3⟩,⟨"hi",n4,p4⟩],none,[⟨"key",n5,p5⟩],p.kw_defaults,none,p.defaults⟩:=by
 rw [bare_t h]
 generalize p.args = as at ha
 generalize p.kwonlyargs = ko at hk
 obtain ⟨n1,p1,l1,rfl,ha1⟩:=names1 ha
 obtain ⟨n2,p2,l2,rfl,ha2⟩:=names1 ha1
 obtain ⟨n3,p3,l3,rfl,ha3⟩:=names1 ha2
 obtain ⟨n4,p4,l4,rfl,ha4⟩:=names1 ha3
 cases names0 ha4
 obtain ⟨n5,p5,l5,rfl,hk5⟩:=names1 hk
 cases names0 hk5
 exact ⟨_,_,_,_,_,_,_,_,_,_,rfl⟩
theorem hbind_key {B:Base} {h0:Heap} (hh:∀ b o,h0.get? b = some o->B.h₀.get? b = some o) {f:Fn} {fd:FuncData} (hb:barePrm fd.params = true) (h2:f.dfl = [.int 0,.imm .none]) (hA:keyA f fd.params = true) (hB:keyB h0 fd = true):HBind B f fd KP:=by
 obtain ⟨h3,h1,ha,hka⟩:=dec_t hA
 obtain ⟨T,oT,nT,t0,hd,hgT,hsT⟩:=keyT (and_t hB).1
 obtain ⟨D,oD,mD,hkd,hgD,hmD,hNs⟩:=keyD (and_t hB).2
 obtain ⟨n1,p1,n2,p2,n3,p3,n4,p4,n5,p5,hps⟩:=key_prm (f:=f) hb ha hka
 intro w lv s items args ks kws vs hbase hw hr hk hf
 obtain ⟨hle,hz,hf⟩:=bindF_t hf
 rw [h1] at hle hz
 rw [h2] at hz
 rw [h3,h2,h1] at hf
 have hl:=hr.length
 have hg:2 <= args.length:=Nat.le_of_add_le_add_right (b:=2) (show 2 + 2 <= args.length + 2 from Nat.sub_le_iff_le_add'.mp hz)
 obtain ⟨k0,k1⟩:=bkey hps hd hkd (hbase _ _ (hh _ _ hgT)) hsT (hNs _ (hbase _ _ (hh _ _ hgD))) hmD (items:=items) (hl ▸ hg) (hl ▸ hle)
 have dr : [V.int 0,.imm .none].length - (4 - args.length) = items.length - 2:=by
  rw [hl]
  obtain ⟨d,hd⟩:=Nat.exists_eq_add_of_le hg
  rw [hd] at hle ⊢
  rw [Nat.add_sub_cancel_left]
  exact (congrArg (2 - ·) (Nat.add_sub_add_left 2 2 d)).trans (Nat.sub_sub_self (Nat.le_of_add_le_add_left hle))
 rw [dr] at hf
 have fin:∀ {v x},RelO w lv (some v) (some x)->RelS w lv ((items ++ [Value.int 0 t0,.none].drop (items.length - 2)) ++ [v]) ((args ++ [V.int 0,.imm .none].drop (items.length - 2)) ++ [x]):=fun h=>RelS.snoc (hr.append (RelL.dfl _)) h
 have len:∀ v,((items ++ [Value.int 0 t0,.none].drop (items.length - 2)) ++ [v]).length = KP.length:=fun v=>by
  rw [List.length_append,List.length_append,List.length_drop]
  show items.length + (2 - (items.length - 2)) + 1 = 5
  rw [hl]
  lia
 cases hk with
 | nil=>
  cases hf
  exact ⟨_,k0,fin (.some .imm),len _⟩
 | @cons k v x _ _ qk hk=>
  cases hk with
  | nil=>
   obtain ⟨rfl,hf⟩:=ite_none (c:=k = ("key" : Str)) hf
   cases hf
   exact ⟨_,k1 v,fin qk,len _⟩
  | cons _ _=>cases hf
noncomputable def isFnK (k:ScopeKind):Bool:=match k with | .function=>true | _=>false
noncomputable def fdA (fd:FuncData):Bool:=decide (fd.globals = mainGlobals /\ fd.builtins = builtinsNs) && fd.closure.isEmpty
noncomputable def fdB (s:Scope):Bool:=(!s.isCoroutine && !s.isGenerator) && isFnK s.kind
noncomputable def fdC (ns:Nat) (params:List Str) (s:Scope):Bool:=decide ((s.names.map (·.1)).Nodup /\ ns = (ownOf s).length /\ (ownOf s).take params.length = params)
noncomputable def fdChk (h:Heap) (ns:Nat) (params:List Str) (fd:FuncData):Bool:=(fdA fd && codeChk h fd.code fd.qualname) && (fdB fd.scope && fdC ns params fd.scope)
noncomputable def isBody (b:FuncBody) (k:List Stmt->Bool):Bool:=match b with | .stmts l=>k l | .expr _=>false
theorem isBody_t {b:FuncBody} {k:List Stmt->Bool} (e:isBody b k = true):∃ l,b = .stmts l /\ k l = true:=by
 cases b with
 | stmts l=>exact ⟨l,rfl,e⟩
 | expr _=>exact (Bool.false_ne_true e).elim
noncomputable def codeOk (H:Hn) (f:Fn) (fd:FuncData) (body:List Stmt):Bool:=all2 (cmpS H 40 40 (fnCX H fd)) body f.body
noncomputable def fnC (h:Heap) (PN:List (List Str)) (H:Hn) (f:Fn) (K:FuncData->List Stmt->Bool) (fd:FuncData) (body:List Stmt):Bool:=(fdChk h f.ns (prms fd) fd && bindChk h PN f fd) && (codeOk H f fd body && K fd body)
noncomputable def fnB (h:Heap) (PN:List (List Str)) (H:Hn) (f:Fn) (K:FuncData->List Stmt->Bool) (fd:FuncData):Bool:=isBody fd.body (fnC h PN H f K fd)
noncomputable def fnA (h:Heap) (PN:List (List Str)) (H:Hn) (f:Fn) (K:FuncData->List Stmt->Bool) (o:Obj):Bool:=isFun o.data (fnB h PN H f K)
noncomputable def fnChk (h:Heap) (PN:List (List Str)) (H:Hn) (f:Fn) (K:FuncData->List Stmt->Bool):Bool:=onObj h f.addr (fnA h PN H f K)
theorem hbind_of {B:Base} {h0:Heap} (hh:∀ b o,h0.get? b = some o->B.h₀.get? b = some o) {PN:List (List Str)} (hPN:∀ l ∈ PN,HPlain l) {f:Fn} {fd:FuncData} (e:bindChk h0 PN f fd = true):HBind B f fd (prms fd):=by
 obtain ⟨hb,e⟩:=and_t e
 rcases Bool.or_eq_true_iff.mp e with e | e
 ·obtain ⟨e,e'⟩:=and_t e
  have:=hbind_key (B:=B) hh hb (isDfl_t (and_t e).2) (and_t e).1 e'
  obtain ⟨_,_,k3,k4⟩:=dec_t (and_t e).1
  unfold prms
  rw [k3,k4]
  exact this
 ·obtain ⟨k1,k3,k4⟩:=dec_t (and_t e).1
  obtain ⟨e1,e2⟩:=and_t (and_t e).2
  have hp:=hPN _ k4
  unfold prms
  rw [List.isEmpty_iff.mp (and_t e2).1,show namesOf [] = [] from rfl,List.append_nil]
  refine hbind_plain (k3.trans (List.length_map _).symm) (List.isEmpty_iff.mp e1) k1 fun items hi=>?_
  have df:=isNone_t (and_t e2).2
  have hps:=bare_t hb
  rw [List.isEmpty_iff.mp (and_t e2).1] at hps
  obtain ⟨nm,qn,ps,body,sc,gl,cl,df',kw',doc,pm,an,code,ct,bi⟩:=fd
  obtain rfl:df' = .none:=df
  have:=hp nm qn ps.args ps.kw_defaults ps.defaults body sc gl cl kw' doc pm an code ct bi items rfl hi
  rw [<- hps] at this
  exact this
theorem FnOk_of {B:Base} {h0:Heap} (hh:∀ b o,h0.get? b = some o->B.h₀.get? b = some o) {PN:List (List Str)} (hPN:∀ l ∈ PN,HPlain l) {H:Hn} {f:Fn} {K:FuncData->List Stmt->Bool} (e:fnChk h0 PN H f K = true) :
  ∃ o fd body params,FnOk B H f o fd body params /\ K fd body = true:=by
 obtain ⟨o,ho,e⟩:=onObj_t e
 obtain ⟨fd,hd,e⟩:=isFun_t e
 obtain ⟨body,hbody,e⟩:=isBody_t e
 obtain ⟨e1,e2⟩:=and_t e
 obtain ⟨e1,eb⟩:=and_t e1
 obtain ⟨e2,ek⟩:=and_t e2
 obtain ⟨ea,es⟩:=and_t e1
 obtain ⟨ea,ec⟩:=and_t ea
 obtain ⟨eA,e0⟩:=and_t ea
 obtain ⟨c2,c3⟩:=dec_t eA
 obtain ⟨es,eC⟩:=and_t es
 obtain ⟨c8,c9,c10⟩:=dec_t eC
 obtain ⟨es,c7⟩:=and_t es
 obtain ⟨c5,c6⟩:=and_t es
 have hkind:fd.scope.kind = .function:=by
  generalize fd.scope.kind = k at c7
  cases k <;> first | rfl | exact (Bool.false_ne_true c7).elim
 exact ⟨o,fd,body,prms fd,⟨hh _ _ ho,hd,hbody,List.isEmpty_iff.mp e0,c2,c3,(codeRec_of ec).keeps hh,(Bool.not_eq_true' _).mp c5,(Bool.not_eq_true' _).mp c6,hkind,c8,⟨40,40,e2⟩,c9,c10,hbind_of hh hPN eb⟩,ek⟩
noncomputable def rdOne (H:Hn) (fd:FuncData) (q:SPt):Bool:=decide (q.tag = 3 /\ q.ts.length = 1) && glCall (fnCX H fd).gl (.builtin "next") (parts q.e) (fun as=>one as (nmIs (fnCX H fd).res 0))
noncomputable def rdChk (H:Hn) (fd:FuncData) (body:List Stmt):Bool:=match body with
 | s :: _=>rdOne H fd (sparts s)
 | []=>false
theorem rdChk_t {H:Hn} {fd:FuncData} {body:List Stmt} (h:rdChk H fd body = true):∃ b e q rest,body = .Assign [b] e q :: rest /\ glCall (fnCX H fd).gl (.builtin "next") (parts e) (fun as=>one as (nmIs (fnCX H fd).res 0)) = true:=by
 cases body with
 | nil=>exact (Bool.false_ne_true h).elim
 | cons s r=>
  have h1:=dec_t (and_t h).1
  obtain ⟨b,hb⟩:=List.length_eq_one_iff.mp h1.2
  exact ⟨b,(sparts s).e,(sparts s).p,r,congrArg (· :: r) (((congrArg (sbuildT (sparts s)) h1.1).symm.trans (sbuild_parts s)).symm.trans (congrArg (fun l=>Stmt.Assign l _ _) hb)),(and_t h).2⟩
end
section
theorem ints_of {R:WRecords} {P:Params} {h:Heap}:∀ {xs:List WData} {vs:List Value},WShape.hasItems R xs .int = true->WellAll P h vs xs->
  ∃ is:List Int,xs = is.map .int /\ is.length = xs.length /\ ∀ (w:Wd) (lv:Nat),RelL w lv vs (is.map .int)
 | [],vs,_,hw=>by cases hw; exact ⟨[],rfl,rfl,fun u_ u_=>.nil⟩
 | x :: xs,vs,hi,hw=>by
  cases hw with
  | cons hv hr=>
   have hi':WShape.has R x .int = true /\ WShape.hasItems R xs .int = true:=by simpa [WShape.hasItems] using hi
   obtain ⟨i,rfl⟩:=hasW_int hi'.1
   obtain ⟨is,h1,h2,h3⟩:=ints_of hi'.2 hr
   cases hv with
   | int _ t=>exact ⟨i :: is,by rw [h1]; rfl,by simp [h2],fun w lv=>.cons .int (h3 w lv)⟩
theorem law_args {l:OpenLaw} (hmost:l.most = some 63) {args:List WData} {vals:List Value} {P:Params} {h:Heap} (hpre:l.row.claim.pre args = true) (hwl:WellAll P h vals args) :
  ∃ (is:List Int) (a:Addr) (vs:List Value),is.length <= 63 /\ vals = [.ref a] /\ h.get? a = some (LObj vs.toArray 0) /\ ∀ (w:Wd) (lv:Nat),RelL w lv vs (is.map .int):=by
 have hsh:=(pre_splitW hpre).1
 have hcond:=(pre_splitW hpre).2
 have hsh':WShape.hasAll [] args [.list .int] = true:=hsh
 obtain ⟨d,r,rfl,hd,hr⟩:=hasAllW_cons hsh'
 obtain rfl:=hasAllW_nil hr
 obtain ⟨xs,rfl,hx⟩:=hasW_list hd
 cases hwl with
 | cons hv hn=>
  cases hn
  cases hv with
  | @list a vs _ hg hw=>
   obtain ⟨is,h1,h2,h3⟩:=ints_of hx hw
   refine ⟨is,a,vs,?_,rfl,hg,h3⟩
   rw [h2]
   have hc:(OpenLaw.pre l).holds [] { args:=[.list xs] } = true:=hcond
   unfold OpenLaw.pre at hc
   rw [hmost] at hc
   dsimp only at hc
   unfold WTm.holds at hc
   split at hc
   ·rename_i hval
    by_cases hle:xs.length <= 63
    ·exact hle
    ·exfalso
     have:(63:Int) < (xs.length:Int):=by omega
     have e:PySem.W.less? (.int 63) (.int (xs.length:Int)) = some true:=by
      simp [PySem.W.less?,Num.less?,this]
     simp [WTm.value,e] at hval
   ·cases hc
end
section
theorem ArOk.caller (B:Base) (hf:B.frs = []):ArOk B callerA 1:=
 ⟨rfl,⟨[],rfl,by rw [hf]; exact ⟨rfl,fun u_ h=>nomatch h⟩⟩,by decide,by decide,by decide⟩
noncomputable def env0:Env:={ scope:=⟨.function,[],false,false,[]⟩,locals:=0,globals:=mainGlobals,cells:=[],builtins:=builtinsNs }
noncomputable def hookOf (chk:Heap->Bool):Hook:=⟨Bool,fun s=>chk s.heap,fun u_=>true,fun u_ h=>∃ h0,chk h0 = true /\ ∀ b o,h0.get? b = some o->h.get? b = some o,fun u_ s e=>⟨s.heap,e,fun u_ u_ e=>e⟩,fun _ _ _ ⟨h0,e,k⟩ kk=>⟨h0,e,fun b o q=>kk b o (k b o q)⟩⟩
noncomputable def fnKind (H:Hn) (f:Fn) (fd:FuncData) (body:List Stmt):Bool:=!decide (f.addr = H.pv) || rdChk H fd body
noncomputable def fnOne (P:Pg) (H:Hn) (PN:List (List Str)) (h:Heap) (f:Fn):Bool:=fnChk h PN H f (fnKind H f)
noncomputable def lawChk (P:Pg) (H:Hn) (G:List (Str × Addr)) (Bt:List (Str × Value)) (PN:List (List Str)) (h:Heap):Bool:=(glChk h G Bt && P.gds.all (gdChk h)) && P.fns.all (fnOne P H PN h)
theorem Wl_of {P:Pg} {B:Base} (hG:B.G = P) {G:List (Str × Addr)} {Bt:List (Str × Value)} {mu:Pos->Bool} {pv:Addr} {PN:List (List Str)} {h0:Heap} (hk:∀ b o,h0.get? b = some o->B.h₀.get? b = some o) (e:lawChk P ⟨mu,glOf G Bt,pv⟩ G Bt PN h0 = true)
  (hb:∀ x:Str,x ≠ "__name__" -> B.mb x = bootBuiltins x) (hbm:BMain B) (h3:∀ p ∈ Bt,p.1 ≠ "__name__" /\ bootBuiltins p.1 = some p.2) (hPN:∀ l ∈ PN,HPlain l) {fpv:Fn} (hpv:fpv ∈ P.fns) (ha:fpv.addr = pv) (hbi:∀ v,bindF fpv [v] [] = some [v]):Wl P B ⟨mu,glOf G Bt,pv⟩:=by
 obtain ⟨e,e3⟩:=and_t e
 have fn:=fun f m=>FnOk_of (B:=B) hk hPN (List.all_eq_true.mp e3 f m)
 refine ⟨hG,HOk_of hk (and_t e).1 hb h3,GdOk_of hk (hG ▸ (and_t e).2),hbm,fun f m=>let ⟨o,fd,body,params,x,_⟩:=fn f m; ⟨o,fd,body,params,x⟩,?_⟩
 obtain ⟨o,fd,body,params,x,y⟩:=fn fpv hpv
 rcases Bool.or_eq_true_iff.mp y with y | y
 ·exact absurd ha (of_decide_eq_false ((Bool.not_eq_true' _).mp y))
 ·obtain ⟨b,e,q,rest,rfl,y⟩:=rdChk_t y
  exact ⟨fpv,o,fd,rest,params,b,e,q,x,ha,hbi,y⟩
end
section
structure LF (w:Wd) (lv:Nat) (env:Env) (m:Lam) (x:V) (vs:List V):Prop where
 loc:¬ w.M env.locals
 par:∃ mm xv,w.h.Ns env.locals mm /\ mm m.x = some xv /\ Rel w lv xv x
 cap:∀ (i:Nat) (y:Str),m.caps[i]? = some y->∃ (c:Addr) (cv:Value) (u:V),env.cells.lookup y = some c /\ ¬ w.M c /\ w.h.IsCell c (some cv) /\ vs[i]? = some u /\ Rel w lv cv u
theorem LF.mono {w w':Wd} {lv:Nat} {env:Env} {m:Lam} {x:V} {vs:List V} (le:Wd.Le lv w w') (h:LF w lv env m x vs):LF w' lv env m x vs:=by
 obtain ⟨h1,⟨mm,xv,h2,h3,h4⟩,h5⟩:=h
 refine ⟨fun q=>?_,⟨mm,xv,Kp.ns (fun o e=>le.keep _ o e h1) h2,h3,h4.mono le (Nat.le_refl _)⟩,fun i y q=>?_⟩
 ·obtain ⟨o,_,_,e,_⟩:=h2
  exact h1 (le.avoid _ _ e q)
 ·obtain ⟨c,cv,u,k1,k2,⟨o,k3,k4⟩,k5,k6⟩:=h5 i y q
  exact ⟨c,cv,u,k1,fun x=>k2 (le.avoid _ _ k3 x),⟨o,(le.keep _ _ k3 k2).at (nd_of (by rw [k4]; rfl)),k4⟩,k5,k6.mono le (Nat.le_refl _)⟩
structure LS (env:Env) (m:Lam):Prop where
 kind:env.scope.kind = .function
 par:env.kindOf m.x = some .local
 cap:∀ y ∈ m.caps,env.kindOf y = some .free
section
variable {B:Base} {Ar:Around} {lay:List Loc} {P:Addr->Prop} {nl:Nat} {env:Env} {m:Lam} {x:V} {vs:List V} {st:St}
noncomputable def LJ (B:Base) (Ar:Around) (lay:List Loc) (P:Addr->Prop) (nl:Nat) (env:Env) (m:Lam) (x:V) (vs:List V) (st:St) (t:Sem Value) (z:V):Prop:=
 ∀ A s E,Ok B lay P nl A st s->LF (wd lay A P s.heap) (nl - 1) env m x vs->wpAny (model B.prog B.w) Ar t (Post B lay P A s nl st z RV) E s
theorem LJ.go {t:Sem Value} {z:V} (h:LJ B Ar lay P nl env m x vs st t z) {A s E} (ok:Ok B lay P nl A st s) (lf:LF (wd lay A P s.heap) (nl - 1) env m x vs) {Q:Value->Shared->Prop}
  (k:∀ v s₁ A₁,Go lay A A₁ s s₁->Ok B lay P nl A₁ st s₁->LF (wd lay A₁ P s₁.heap) (nl - 1) env m x vs->Rel (wd lay A₁ P s₁.heap) (nl - 1) v z->Q v s₁):wpAny (model B.prog B.w) Ar t Q E s:=
 wpAny_mono (h A s E ok lf) (fun v s₁ h=>by
  obtain ⟨A₁,g,ok₁,hr⟩:=h
  exact k v s₁ A₁ g ok₁ (lf.mono (g.le P _)) hr) (fun u_ u_ e=>e)
theorem LJ.two {t t':Sem Value} {u v z:V} {op:Value->Value->Sem Value} (h1:LJ B Ar lay P nl env m x vs st t u) (h2:LJ B Ar lay P nl env m x vs st t' v) {A s E} (ok:Ok B lay P nl A st s) (lf:LF (wd lay A P s.heap) (nl - 1) env m x vs)
  (k:∀ a b A s,Ok B lay P nl A st s->Rel (wd lay A P s.heap) (nl - 1) a u->Rel (wd lay A P s.heap) (nl - 1) b v->wpAny (model B.prog B.w) Ar (op a b) (Post B lay P A s nl st z RV) E s) :
  wpAny (model B.prog B.w) Ar t (fun a s1=>wpAny (model B.prog B.w) Ar t' (fun b s2=>wpAny (model B.prog B.w) Ar (op a b) (Post B lay P A s nl st z RV) E s2) E s1) E s:=
 h1.go ok lf fun u_ u_ u_ g1 ok1 lf1 r1=>h2.go ok1 lf1 fun u_ u_ u_ g2 ok2 u_ r2=>wpAny_mono (k _ _ _ _ ok2 (r1.mono (g2.le P _) (Nat.le_refl _)) r2) (fun u_ u_ q=>q.lift (g1.trans g2)) fun u_ u_ e=>e
theorem lam_nm {s:Shared} {E:Value->Shared->Prop} {e:PySem.Expr} {Q:Value->Shared->Prop} {o:Option Str} (h:cmpLx m o (parts e) = true) (k:∀ y,o = some y->(y == ("__classdict__" : Str)) = false->wpAny (model B.prog B.w) Ar (loadName env y) Q E s):wpAny (model B.prog B.w) Ar (eval e env) Q E s:=by
 obtain ⟨t,h⟩:=and_t h
 obtain ⟨hb,h⟩:=and_t h
 exact built (R:=fun e=>wpAny (model B.prog B.w) Ar (eval e env) Q E s) (build_2 (dec_t t)) (wpAny_Name (k _ (dec_t h) (bad_no hb).2) (bad_no hb).1)
theorem lam_par {e:PySem.Expr} (ls:LS env m) (h:cmpLx m (some m.x) (parts e) = true):LJ B Ar lay P nl env m x vs st (eval e env) x:=fun A s E ok lf=>lam_nm h fun y e u_=>by
 cases e
 obtain ⟨mm,xv,h2,h3,h4⟩:=lf.par
 exact wpAny_loadName_local ls.kind ls.par h2 h3 (.pure ok h4)
theorem lam_cap {e:PySem.Expr} {i:Nat} {u:V} (ls:LS env m) (h:cmpLx m m.caps[i]? (parts e) = true) (hu:vs[i]? = some u):LJ B Ar lay P nl env m x vs st (eval e env) u:=fun A s E ok lf=>lam_nm h fun y e b2=>by
 obtain ⟨c,cv,u',k1,k2,k3,k5,k6⟩:=lf.cap i y e
 rw [hu] at k5
 cases k5
 exact wpAny_loadName_free ls.kind (ls.cap y (List.mem_of_getElem? e)) k1 k3 (.pure ok k6) b2
theorem one_v {a:Option V} {k:V->Option V} {z:V} (h:evL.one a k = some z):∃ u,a = some u /\ k u = some z:=by
 cases a with
 | none=>cases h
 | some u=>exact ⟨u,rfl,h⟩
theorem two_v {a b:Option V} {k:V->V->Option V} {z:V} (h:evL.two a b k = some z):∃ u v,a = some u /\ b = some v /\ k u v = some z:=by
 cases a with
 | none=>cases h
 | some u=>
  cases b with
  | none=>cases h
  | some v=>exact ⟨u,v,rfl,rfl,h⟩
theorem star_nm {m:Lam} {o:Option Str} {e:PySem.Expr} {env:Env} {p:Pos} (h:cmpLx m o (parts e) = true):backTo p (starEach [e] env) = [(false,eval e env)]:=star_one (fun q=>(nomatch (dec_t (and_t h).1).symm.trans q)) p env
theorem lam_index {o b:PySem.Expr} {apos pos:Pos} {i:Nat} {u z:V} (ls:LS env m) (hp:(apos.endLine == pos.line) = true) (h1:cmpLx m m.caps[i]? (parts o) = true) (h2:cmpLx m (some m.x) (parts b) = true) (hu:vs[i]? = some u)
  (hz:∃ us r,seqOf st u = some us /\ idxN st us x = some (z,r) /\ r = st):LJ B Ar lay P nl env m x vs st (eval (.Call (.Attribute o "index" apos) [b] [] pos) env) z:=fun A s E ok lf=>by
 obtain ⟨us,r,hs,hi,rfl⟩:=hz
 have hform:eval (.Call (.Attribute o "index" apos) [b] [] pos) env = (do
   let ov <- eval o env
   standAt apos.atName
   let (f,first) <- holding [ov] (getMethod ov "index" (do return (<- importBound o env).getD true))
   callWith pos f first (backTo pos (starEach [b] env)) []):=by
  have ho:(parts o).tag ≠ 8:=fun q=>(nomatch (dec_t (and_t h1).1).symm.trans q)
  have hf:methodCallForm (1 + 0) (backTo pos (starEach [b] env)) [] = true:=by rw [star_nm h2]; rfl
  show (do
   let ov <- attributeBase o "index" env (eval o env)
   standAt apos.atName
   methodCall o "index" apos pos env ov (1 + 0) (backTo pos (starEach [b] env)) []) = _
  have e1:attributeBase o "index" env (eval o env) = eval o env:=by
   cases o with
   | Call _ _ _ _=>exact absurd rfl ho
   | _=>rfl
  rw [e1]
  unfold methodCall
  rw [hf]
  have e2:methodCallPos true o env apos pos = pure pos:=by
   unfold methodCallPos
   rw [hp]
   rfl
  rw [e2]
  rfl
 rw [hform]
 refine wpAny_bind ((lam_cap ls h1 hu).go ok lf fun ov s1 A1 g1 ok1 lf1 r1=>wpAny_bind (wpAny_standAt ?_))
 obtain ⟨a,its,k,rfl,hg,hr⟩:=seqOf_rel ok1 r1 hs
 refine wpAny_bind (wpAny_holding (getMethod_list_of PySem.F.slot_list_index PySem.F.type_list_index (isList_of hg) ⟨_,hg,rfl⟩ ?_))
 rw [star_nm h2]
 refine callWith_any rfl (Calls.evalArgs_plain (Calls.spliced_cons ((lam_par ls h2).go ok1 lf1 fun v s2 A2 g2 ok2 lf2 r2=>Calls.spliced_nil ⟨.inl fun a e=>(nomatch e),?_⟩)))
 exact wpAny_mono (index_sound ok2 hs (r1.mono (g2.le P _) (Nat.le_refl _)) r2 hi) (fun u_ u_ q=>q.lift (g1.trans g2)) fun u_ u_ e=>e
theorem evL_sound (ls:LS env m):∀ (le:LE) (e:PySem.Expr) (z:V),cmpL m le e = true->evL st vs x le = some z->LJ B Ar lay P nl env m x vs st (eval e env) z
 | .par,e,z,h,hz=>by
  cases hz
  exact lam_par ls h
 | .cap i,e,z,h,hz=>lam_cap ls h hz
 | .int i,e,z,h,hz=>fun A s E ok lf=>by
  cases hz
  obtain ⟨h1,h2⟩:=dec_t h
  exact built (R:=fun e=>wpAny (model B.prog B.w) Ar (eval e env) _ E s) ((build_1 h1).trans (by rw [h2])) (wpAny_Constant_int (ok.int_post _ _ _))
 | .sub a b,e,z,h,hz=>fun A s E ok lf=>by
  obtain ⟨u,v,e1,e2,hz⟩:=two_v hz
  obtain ⟨h,hc⟩:=and_t h
  obtain ⟨ht,hp⟩:=and_t h
  exact built (R:=fun e=>wpAny (model B.prog B.w) Ar (eval e env) _ E s) (build_11 (dec_t ht)) (Subscript_ ((evL_sound ls a _ u (and_t hc).1 e1).two (evL_sound ls b _ v (and_t hc).2 e2) ok lf fun u_ u_ u_ u_ ok r1 r2=>subV_sound ok r1 r2 hz _ hp))
 | .neg a,e,z,h,hz=>fun A s E ok lf=>by
  obtain ⟨u,e1,hz⟩:=one_v hz
  obtain ⟨i,rfl,hz⟩:=intV_t hz
  cases hz
  obtain ⟨ht,hc⟩:=and_t h
  obtain ⟨h1,h2⟩:=dec_t ht
  refine built (R:=fun e=>wpAny (model B.prog B.w) Ar (eval e env) _ E s) ((build_4 h1).trans (by rw [h2])) (wpAny_UnaryOp ((evL_sound ls a _ _ hc e1).go ok lf fun v s1 A1 g1 ok1 lf1 r1=>?_))
  exact r1.int_e fun t=>neg_int ((ok1.int_post _ _ _).lift g1)
 | .index i,e,z,h,hz=>by
  obtain ⟨u,e1,hz⟩:=one_v hz
  obtain ⟨us,hs,hz⟩:=seqV_t hz
  obtain ⟨h,hc⟩:=and_t h
  obtain ⟨ht,h⟩:=and_t h
  obtain ⟨h1,h2,h3⟩:=dec_t ht
  obtain ⟨hp,hk⟩:=and_t h
  obtain ⟨hc1,hc2⟩:=and_t hc
  obtain ⟨b,hb,hc2⟩:=one_t hc2
  have ha:Expr.Attribute (parts (parts e).a).a (parts (parts e).a).x (parts (parts e).a).p = (parts e).a:=(build_9 h2).symm.trans (build_parts _)
  have hE:build (parts e) = .Call (.Attribute (parts (parts e).a).a "index" (parts (parts e).a).p) [b] [] (parts e).p:=by
   rw [build_8 h1,hb,List.isEmpty_iff.mp hk]
   exact congrArg (fun a=>Expr.Call a [b] [] _) (ha.symm.trans (congrArg (fun x=>Expr.Attribute _ x _) h3))
  refine built (R:=fun e=>LJ B Ar lay P nl env m x vs st (eval e env) z) hE (lam_index ls hp hc1 hc2 e1 ?_)
  cases q:idxN st us x with
  | none=>rw [q] at hz; cases hz
  | some r=>
   rw [q] at hz
   cases hz
   refine ⟨us,r.2,hs,q,?_⟩
   obtain ⟨_,q⟩:=ite_none q
   cases w:idxV us x with
   | none=>rw [w] at q; cases q
   | some j=>rw [w] at q; cases q; rfl
end
end
section
theorem lamPrm_t {x:Str} {ps:Arguments} (h:lamPrm x ps = true):∃ n p,ps = ⟨[],[⟨x,n,p⟩],none,[],[],none,[]⟩:=by
 obtain ⟨po,as,va,ko,kd,ka,dd⟩:=ps
 obtain ⟨h1,h2⟩:=and_t h
 obtain ⟨h2,h3⟩:=and_t h2
 obtain ⟨h3,h4⟩:=and_t h3
 obtain ⟨a,ha,h5⟩:=one_t h4
 obtain ⟨y,n,p⟩:=a
 obtain rfl:po = []:=List.isEmpty_iff.mp (and_t h1).1
 obtain rfl:va = none:=Option.isNone_iff_eq_none.mp (and_t h1).2
 obtain rfl:ko = []:=List.isEmpty_iff.mp (and_t (and_t h2).1).1
 obtain rfl:kd = []:=List.isEmpty_iff.mp (and_t (and_t h2).1).2
 obtain rfl:ka = none:=Option.isNone_iff_eq_none.mp (and_t h2).2
 obtain rfl:dd = []:=List.isEmpty_iff.mp h3
 obtain rfl:y = x:=dec_t h5
 exact ⟨n,p,congrArg (fun as=>Arguments.mk [] as none [] [] none []) ha⟩
structure LamSc (m:Lam) (sc:Scope):Prop where
 kind:sc.kind = .function
 nd:(sc.names.map (·.1)).Nodup
 co:sc.isCoroutine = false
 gen:sc.isGenerator = false
 par:sc.names.lookup m.x = some .local
 nocell:∀ x ∈ sc.names,x.2 ≠ .cell
 cap:∀ y ∈ m.caps,sc.names.lookup y = some .free
theorem lamScope_t {m:Lam} {sc:Scope} (h:lamScope m sc = true):LamSc m sc:=by
 obtain ⟨h1,h2⟩:=and_t h
 obtain ⟨h1,h3⟩:=and_t h1
 obtain ⟨h2,h4⟩:=and_t h2
 obtain ⟨h2,h5⟩:=and_t h2
 obtain ⟨k1,k2⟩:=dec_t h1
 exact ⟨k1,k2,(Bool.not_eq_true' _).mp (and_t h3).1,(Bool.not_eq_true' _).mp (and_t h3).2,dec_t h2,fun x m=>dec_t (List.all_eq_true.mp h5 x m),fun y m=>dec_t (List.all_eq_true.mp h4 y m)⟩
section
variable {P:Pg} {st:St}
theorem ApO_clo {m:Lam} {vs:List V} {x z:V} (hx:HPlain [m.x]) (h:evL st vs x m.body = some z):ApO P (.clo m vs) [x] st z st:=fun c A s E ok fv items hf hr=>by
 obtain ⟨a,qual,ps,e,sc,clos,pm,cdv,ct,rfl,hM,hg,hcode,hok,hcap⟩:=hf.cl
 obtain ⟨v,rfl,hv⟩:=hr.one
 obtain ⟨ho,hbody⟩:=and_t hok
 obtain ⟨n,p,rfl⟩:=lamPrm_t (and_t ho).1
 have S:=lamScope_t (and_t ho).2
 refine ⟨.inr ⟨a,_,_,rfl,hg,rfl⟩,wpAny_call (kla_callFunE (by have:=c.ao.depth; have:=c.ao.nl; unfold recursionLimit; lia) hg rfl S.co S.gen rfl hcode.rc ?_)⟩
 have hb:=hx "<lambda>" qual [⟨m.x,n,p⟩] [] [] (.expr e) sc mainGlobals clos .none .none pm none cdv ct builtinsNs [v] rfl rfl
 rw [hb]
 refine wpAny_pure (wpAny_newFunctionEnv S.nocell (fun y my=>by
  rcases List.mem_singleton.mp my with rfl
  exact S.par) (fun h₁ hns hsb=>?_) S.kind)
 have hk:∀ b o,s.heap.get? b = some o->h₁.get? b = some o:=fun b o e=>hsb.extBut b o (Nat.ne_of_lt (Heap.lt_size e)) (Heap.get?_push_of_some _ e)
 refine ⟨c.B.nolim.keeps fun b o e=>hk b o (ok.base b o e),kla_codeExpr ?_⟩
 obtain ⟨ok1,g1⟩:=ok.grow (tk:=s.toks + 1) hk
 have le:=g1.le c.Q (c.nl - 1)
 generalize henv:newEnv sc s.heap.objs.size mainGlobals clos (qual ++ ".<locals>.") (some a) cdv none builtinsNs = env
 have kd:∀ y,env.kindOf y = sc.names.lookup y:=fun y=>by rw [<- henv]; rfl
 have ls:LS env m:=⟨by rw [<- henv]; exact S.kind,(kd _).trans S.par,fun y my=>(kd _).trans (S.cap y my)⟩
 have lf:LF (c.wd A h₁) (c.nl - 1) env m x vs:=⟨by rw [<- henv]; exact ok.fresh,⟨_,v,by rw [<- henv]; exact hns,by show List.lookup m.x [(m.x,v)] = _; simp,hv.mono le (Nat.le_refl _)⟩,fun i y q=>by
  obtain ⟨b,cv,u,k1,k2,⟨o,k3,k4⟩,k5,k6⟩:=hcap i y q
  exact ⟨b,cv,u,by rw [<- henv]; exact k1,k2,⟨o,hk _ _ k3,k4⟩,k5,k6.mono le (Nat.le_refl _)⟩⟩
 exact wpAny_mono (evL_sound ls m.body e z hbody h A { s with heap:=h₁,toks:=s.toks + 1 } _ ok1 lf) (fun u_ u_ q=>q.lift g1) fun u_ u_ e=>e
end
end
section
theorem codeAmong_or {pos:Pos} {a b:Int} {c cv:Value} (l:List Value) (h:TriplesOk l) (e:codeAmong pos (l ++ [rawInt a,rawInt b,c]) = some cv):codeAmong pos l = some cv ∨ cv = c:=by
 fun_induction TriplesOk l with
 | case1=>
  simp only [List.nil_append,codeAmong,rawInt] at e
  split at e
  ·exact .inr (Option.some.inj e).symm
  ·cases e
 | case2 a' t b' u x rest ih=>
  simp only [List.cons_append,codeAmong] at e ⊢
  split at e
  ·rename_i hc; rw [if_pos hc]; exact .inl e
  ·rename_i hc; rw [if_neg hc]; exact ih h e
 | case3 l h1 h2=>exact h.elim
theorem setObj_same {st:St} {l i:Nat} {o:AObj} (h:st.obj l i = some o):st.setObj l i o = st:=by
 unfold St.obj at h
 cases e:st.R[l]? with
 | none=>rw [e] at h; cases h
 | some r=>
  rw [e] at h
  have hr:r.set i o = r:=List.ext_getElem? fun j=>by
   by_cases q:i = j
   ·subst q
    rw [List.getElem?_set_self (List.getElem?_eq_some_iff.mp h).1]
    exact h.symm
   ·rw [List.getElem?_set_ne q]
  have hR:st.R.modify l (fun r=>r.set i o) = st.R:=List.ext_getElem? fun j=>by
   rw [List.getElem?_modify]
   by_cases q:l = j
   ·subst q; rw [e]; simp [hr]
   ·simp [q]
  exact congrArg (fun R=>St.mk st.ρ R) hR
theorem all2_get {α β:Type} {f:α->β->Bool}:∀ {as:List α} {bs:List β} {j:Nat} {a:α},all2 f as bs = true->as[j]? = some a->∃ b,bs[j]? = some b /\ f a b = true
 | [],_,_,_,_,e=>by cases e
 | _ :: _,[],_,_,h,_=>(Bool.false_ne_true h).elim
 | _ :: _,b :: _,0,_,h,e=>⟨b,rfl,Option.some.inj e ▸ (and_t h).1⟩
 | _ :: as,_ :: bs,j + 1,_,h,e=>all2_get (as:=as) (bs:=bs) (j:=j) (and_t h).2 e
section
variable {P:Pg} {st st1 st2:St}
theorem make_lam (c:Cf P) {l0 i0:Nat} {A:List (List Addr)} {s:Shared} {E:Value->Shared->Prop} {c0:Addr} {q:Str} (ok:c.Ok A st s) (ht:st.obj l0 i0 = some (.tab c0 q)) (hcode:c.cx.code = .ref c0) (hq:c.cx.qual ++ ("<lambda>" : Str) = q) {ps:Arguments} {e:PySem.Expr} {sc:Scope} {clos:List (Str × Addr)} {pos:Pos} (hcl:closureFor sc c.env = pure clos) {Q:Value->Shared->Prop}
  (K:∀ a pm cdv ct s1,c.Ok A st s1->Go c.lay A A s s1->¬ Avd c.lay A c.Q a->s1.heap.get? a = some { cls:=.type "function",data:=.func (kla_fn "<lambda>" q ps e sc clos pm cdv ct) }->CodeM (c.wd A s1.heap) cdv q->Q (.ref a) s1) :
  c.W (makeFunction "<lambda>" (c.env.qual ++ ("<lambda>" : Str)) ps (.expr e) sc c.env [] [] [] pos pos.line) Q E s:=by
 obtain ⟨T,hlook⟩:=ok.look_of ht
 obtain ⟨tb,h1,h2,h3,h4,hC⟩:=ok.objs l0 i0 _ T ht hlook
 have hT:Avd c.lay A c.Q T:=.inl (.inr ⟨l0,i0,hlook⟩)
 rw [show c.env.qual ++ ("<lambda>" : Str) = q from by rw [c.eo.qual]; exact hq]
 have hgm:=c.B.nsG.keeps ok.base
 obtain ⟨bm,ob,b1,b2,b3,b4,b5,b6⟩:=c.wl.bm
 have hGT:mainGlobals ≠ T:=fun w=>by
  obtain ⟨o,_,_,e,_⟩:=c.B.nsG
  exact ok.baseM _ _ e (w ▸ hT)
 have hbT:bm ≠ T:=fun w=>ok.baseM _ _ b2 (w ▸ hT)
 have hbG:bm ≠ mainGlobals:=fun w=>by
  obtain ⟨o,_,_,e,hd,_⟩:=c.B.nsG
  rw [w,e] at b2; cases b2; rw [hd] at b6; cases b6
 have hB:s.heap.BuiltinsAt c.B.mg T:=⟨bm,ob,b1,b3,hbG,hbT,ok.base _ _ b2,b4,b5,b6⟩
 have fresh:∀ b,s.heap.objs.size <= b->¬ Avd c.lay A c.Q b:=fun b hb h=>by
  obtain ⟨o,e⟩:=ok.alive b h
  exact Nat.lt_irrefl _ (Nat.lt_of_lt_of_le (Heap.lt_size e) hb)
 cases hca:codeAmong pos tb.toList with
 | some cv=>
  refine kla_makeFunctionHit (mg:=c.B.mg) hcl c.eo.globals hgm (c.eo.code.trans hcode) hC h1 h2 hca hB fun ctv h' tk hk hsz=>?_
  have hk2:∀ b o,s.heap.get? b = some o->(h'.push { cls:=.type "function",data:=.func (kla_fn "<lambda>" q ps e sc clos ((c.B.mg "__name__").getD .none) cv ctv) }).get? b = some o:=fun b o w=>Heap.get?_push_of_some _ (hk b o w)
  obtain ⟨ok1,g1⟩:=ok.grow (tk:=tk) hk2
  exact K _ _ _ _ _ ok1 g1 (fresh _ hsz) (Heap.get?_push_size _ rfl) ((h3 _ _ hca).mono (g1.le c.Q 0))
 | none=>
  refine kla_makeFunction (mg:=c.B.mg) hcl c.eo.globals hgm (c.eo.code.trans hcode) hC h1 h2 hca hGT hB fun c' ctv h' tk hx hge hlt hrec htb=>?_
  generalize hfo:kla_obj "<lambda>" q ps e sc clos ((c.B.mg "__name__").getD .none) c' ctv = fo
  have hk2:∀ b o,b ≠ T->s.heap.get? b = some o->(h'.push fo).get? b = some o:=fun b o w e=>Heap.get?_push_of_some _ (hx b o w e)
  have hcM:CodeM (c.wd A (h'.push fo)) (.ref c') q:=by
   obtain ⟨c2,oc,vs,t,e2,k1,k2,k3⟩:=hrec
   cases e2
   exact ⟨c',oc,vs,t,rfl,fresh _ hge,Heap.get?_push_of_some _ k1,k2,k3⟩
  have ho:ObjRep (c.wd A (h'.push fo)) l0 T (.tab c0 q):=by
   refine ⟨_,Heap.get?_push_of_some _ htb,?_,fun p cv w=>?_,h4,?_⟩
   ·rw [Array.toList_append]; exact TriplesOk_snoc _ _ _ _ h2
   ·rw [Array.toList_append] at w
    rcases codeAmong_or _ h2 w with w | rfl
    ·obtain ⟨c2,o,vs,t,e2,k0,k1,k2,k3⟩:=h3 p cv w
     exact ⟨c2,o,vs,t,e2,k0,hk2 _ _ (fun w=>k0 (w ▸ hT)) k1,k2,k3⟩
    ·exact hcM
   ·obtain ⟨o,vs,file,tf,flags,tg,inF,text,tt,k1,k2⟩:=hC
    exact ⟨o,vs,file,tf,flags,tg,inF,text,tt,hk2 _ _ (fun w=>h4 (w ▸ hT)) k1,k2⟩
  obtain ⟨ok1,g1⟩:=ok.setObj (tk:=tk) hlook hk2 ho
  rw [setObj_same ht] at ok1
  exact K _ _ _ _ _ ok1 g1 (fresh _ (Nat.le_trans hge (Nat.le_of_lt hlt))) (by rw [<- hfo]; exact Heap.get?_push_size _ rfl) hcM
noncomputable def CallV (P:Pg) (fv:Value) (args:List V) (kw:List (Str × V)) (st:St) (z:V) (st':St):Prop:=∀ (c:Cf P) A s F K,c.Ok A st s->(∀ b ∈ K,∃ l ∈ c.lay,l.addr = b)->Cells K s.heap->∀ items ks,RelL (c.wd A s.heap) (c.nl - 1) items args->RelK (wdK c.lay A c.Q K s.heap) (c.nl - 1) ks kw->
 Keep s fv /\ c.W (call fv items ks) (c.Po A s st' z RV) F s
theorem CallV_fn {a:Addr} {f:Fn} {args:List V} {kw:List (Str × V)} {v:V} (hf:P.fns.find? (fun f=>f.addr == a) = some f) (h:Call P f args kw st v st1):CallV P (.ref a) args kw st v st1:=fun c A s F K ok hK hC items ks hr hk=>by
 obtain ⟨o,fd,body,params,fo⟩:=c.wl.pg f (List.mem_of_find?_eq_some hf)
 have hfa:=List.find?_some hf
 obtain rfl:=beq_iff_eq.mp hfa
 exact ⟨.inr ⟨_,o,fd,rfl,ok.base _ _ fo.ho,fo.hd⟩,h c o fd body params fo A s F K ok hK hC items ks hr hk⟩
theorem E_callLamG (l0 i0:Nat) {fv:Value} {args:List ME} {k:Str} {m:Lam} {c0:Addr} {q:Str} {is:List Nat} {vs ws:List V} {v:V} (h2:Es P args st vs st1) (ht:st1.obj l0 i0 = some (.tab c0 q))
  (hw:∀ j i:Nat,is[j]? = some i->∃ u,ws[j]? = some u /\ u.isClo = false /\ st1.ρ[i]? = some (some u)) (h3:CallV P fv vs [(k,.clo m ws)] st1 v st2):E P (.call (.imm fv) args [(k,.lam m c0 q is)]) st v st2:=E.of rfl fun c n e h A s E ok=>cmp_call h fun x p as' ks' pos hf' ha hk=>by
 obtain ⟨d,hf'⟩:=cmp_succ hf'
 refine wpAny_Call_Name_kw (load_glob ok (cm hf').2 ?_)
 refine callWith_any (by rw [plain_backTo pos _ _ ha,(plain_kw pos _ _ hk).1]; rfl) (Cf.argsG h2 ha hk ok fun items A2 s2 g2 ok2 r2=>?_)
 obtain ⟨⟨k',x',p'⟩,xs,rfl,h1,hr⟩:=all2_cons hk
 obtain ⟨hk1,h1⟩:=and_t h1
 obtain rfl:=dec_t hk1
 obtain rfl:=all2_nil hr
 refine evalKw_cons ?_
 obtain ⟨d',h1⟩:=cmp_succ (show cmp c.H n c.cx x' (.lam m c0 q is) = true from h1)
 obtain ⟨t15,h1⟩:=cm h1
 obtain ⟨sc,hsc,h1⟩:=one_t h1
 obtain ⟨h1,hcap⟩:=and_t h1
 obtain ⟨hcode,hlam⟩:=and_t h1
 obtain ⟨hcode,hqual⟩:=dec_t hcode
 obtain ⟨hcap,hfree⟩:=and_t hcap
 obtain ⟨hlam0,_⟩:=and_t hlam
 obtain ⟨hprm,hscope⟩:=and_t hlam0
 obtain ⟨n0,p0,hps⟩:=lamPrm_t hprm
 have S:=lamScope_t hscope
 refine built (R:=fun e=>c.W (eval e c.env) _ E s2) (build_15 t15 hsc) ?_
 refine kla_eval (by rw [hps]; rfl) ?_
 have capAt:∀ (A2:List (List Addr)) (s2:Shared),c.Ok A2 st1 s2->∀ (j:Nat) (y:Str),m.caps[j]? = some y->∃ (i:Nat) (b:Addr) (cv:Value) (u:V),is[j]? = some i /\ c.lay[i]? = some (.cell b) /\ c.env.cells.lookup y = some b /\ s2.heap.IsCell b (some cv) /\ ws[j]? = some u /\ c.Rel A2 s2 cv u:=fun A2 s2 ok2 j y hy=>by
  obtain ⟨i,hi,hb⟩:=all2_get hcap hy
  obtain ⟨hb,hcel⟩:=and_t hb
  obtain ⟨u,hu,huc,hρ⟩:=hw j i hi
  have kf:=(c.eo.cell y hcel).1
  rcases c.eo.var y i (dec_t (and_t hb).2) with ⟨kl,_⟩ | ⟨_,b,hcells,hlay⟩
  ·rw [kl] at kf; rcases kf with kf | kf <;> cases kf
  ·obtain ⟨cv,k1,k2⟩:=ok2.slots i _ hlay
   rw [hρ] at k2
   cases cv with
   | none=>cases k2
   | some cv=>exact ⟨i,b,cv,u,hi,hlay,hcells,k1,hu,k2.rel huc⟩
 obtain ⟨clos,hclos,hcl1,hcl2⟩:=closureFor_of (env:=c.env) sc fun y my hy=>by
  have:=List.all_eq_true.mp hfree y my
  rw [hy] at this
  have hm:y.1 ∈ m.caps:=by simpa using this
  obtain ⟨j,hj⟩:=List.mem_iff_getElem?.mp hm
  obtain ⟨_,b,_,_,_,_,hb,_⟩:=capAt A2 s2 ok2 j y.1 hj
  exact ⟨b,hb⟩
 refine make_lam c ok2 ht hcode hqual hclos fun fa pm cdv ct s3 ok3 g3 hfa hg hcM=>wpAny_evalAll_nil ?_
 let K:List Addr:=m.caps.filterMap fun y=>c.env.cells.lookup y
 have hK:∀ b ∈ K,∃ (j i:Nat) (y:Str) (cv:Value),m.caps[j]? = some y /\ c.lay[i]? = some (.cell b) /\ s2.heap.IsCell b (some cv):=fun b mb=>by
  obtain ⟨y,my,hb⟩:=List.mem_filterMap.mp mb
  obtain ⟨j,hj⟩:=List.mem_iff_getElem?.mp my
  obtain ⟨i,b',cv,u,k1,k2,k3,k4,_⟩:=capAt A2 s2 ok2 j y hj
  rw [hb] at k3
  cases k3
  exact ⟨j,i,y,cv,hj,k2,k4⟩
 refine (fun hh:Keep s3 fv /\ _=>⟨hh.1,Cf.end (g2.trans g3) hh.2⟩) (h3 c A2 s3 E K ok3 (fun b mb=>let ⟨_,_,_,_,_,k2,_⟩:=hK b mb; ⟨_,List.mem_of_getElem? k2,rfl⟩) (fun b mb o e=>?_) items _ (RelL.go r2 g3) (.cons (.clo ⟨fa,q,(parts x').ar,(parts x').a,sc,clos,pm,cdv,ct,rfl,fun w=>hfa w.1,hg,?_,hlam,fun j y hy=>?_⟩) .nil))
 ·obtain ⟨_,i,_,_,_,k2,_⟩:=hK b mb
  obtain ⟨cv,⟨o',w1,w2⟩,_⟩:=ok3.slots i _ k2
  rw [show s3.heap.get? b = _ from w1] at e
  cases e
  rw [w2]; rfl
 ·exact hcM.mono (wdK_le 0)
 ·obtain ⟨i,b,cv,u,k1,k2,k3,k4,k5,k6⟩:=capAt A2 s3 ok3 j y hy
  have my:=List.mem_of_getElem? hy
  exact ⟨b,cv,u,(hcl2 y (mem_of_lookup (S.cap y my))).trans k3,fun w=>w.2 (List.mem_filterMap.mpr ⟨y,my,k3⟩),k4,k5,k6.mono (wdK_le _) (Nat.le_refl _)⟩
end
end
section
theorem law_goodT {l:OpenLaw} {s₁ s':Shared} {cl:Str->Option Addr} {mean:ExcName->Option Value} {args:List WData} (hK:OldK s₁.heap s'.heap) (hos:s'.os = s₁.os) (hg:s'.gens = #[]) :
  GoodWG l.row.claim cl mean args s₁ (.ok (.ret (.bool true))) s':=by
 refine ⟨.inl ⟨.bool true,.bool true,[],rfl,fun u_=>rfl,.bool true,?_,fun u_=>⟨List.nodup_nil,fun u_ h=>nomatch h⟩⟩,hK,hos,.of_eq hg⟩
 refine postW_of (r:=l.row.toRowW) (X:=true) rfl ?_ rfl
 show WTm.value [] (.eq .res (.lit (.bool true))) _ = _
 simp [WTm.value,same_self]
end
section
noncomputable def isCd (v:Value):Bool:=match v with | .type n=>decide (n = "code") | _=>false
noncomputable def isBl (v:Value):Bool:=match v with | .bool _=>true | _=>false
noncomputable def isIn (v:Value):Bool:=match v with | .int _ _=>true | _=>false
noncomputable def isSt (v:Value):Bool:=match v with | .str _ _=>true | _=>false
noncomputable def is11 (v:Option Value) (t:Addr):Bool:=match v with | some (.ref a)=>decide (a = t) | _=>false
noncomputable def tabZ (o:Obj):Bool:=(isNone o.cls && isFields o.data (·.isEmpty)) && (o.dict.isNone && o.slots.isEmpty)
noncomputable def codeZ (t:Addr) (vs:Array Value):Bool:=(is11 vs[11]? t && isSt (vs.getD 18 .none)) && ((isIn (vs.getD 7 .none) && isBl (vs.getD 9 .none)) && isIn (vs.getD 10 .none))
noncomputable def tabChk (h:Heap) (c t:Addr):Bool:=(!decide (c = t) && onObj h t tabZ) && onObj h c fun o=>isCd o.cls && isFields o.data (codeZ t)
theorem tabZ_t {o:Obj} (e:tabZ o = true):o = tabObj #[]:=by
 obtain ⟨e1,e2⟩:=and_t e
 obtain ⟨e1,e3⟩:=and_t e1
 obtain ⟨e2,e4⟩:=and_t e2
 obtain ⟨vs,hd,e5⟩:=isFields_t e3
 obtain ⟨c,d,dt,sl⟩:=o
 rw [show c = .none from isNone_t e1,show d = none from Option.isNone_iff_eq_none.mp e2,show dt = .fields vs from hd,Array.isEmpty_iff.mp e5,show sl = #[] from Array.isEmpty_iff.mp e4]
theorem isCd_t {v:Value} (e:isCd v = true):v = .type "code" := by
 cases v with
 | type n=>rw [dec_t e]
 | _=>exact (Bool.false_ne_true e).elim
theorem isBl_t {v:Value} (e:isBl v = true):∃ b,v = .bool b:=by
 cases v with
 | bool b=>exact ⟨b,rfl⟩
 | _=>exact (Bool.false_ne_true e).elim
theorem isIn_t {v:Value} (e:isIn v = true):∃ b t,v = .int b t:=by
 cases v with
 | int b t=>exact ⟨b,t,rfl⟩
 | _=>exact (Bool.false_ne_true e).elim
theorem isSt_t {v:Value} (e:isSt v = true):∃ b t,v = .str b t:=by
 cases v with
 | str b t=>exact ⟨b,t,rfl⟩
 | _=>exact (Bool.false_ne_true e).elim
theorem is11_t {v:Option Value} {t:Addr} (e:is11 v t = true):v = some (.ref t):=by
 cases v with
 | none=>exact (Bool.false_ne_true e).elim
 | some v=>
  cases v with
  | ref a=>rw [dec_t e]
  | _=>exact (Bool.false_ne_true e).elim
theorem tabChk_t {h:Heap} {c t:Addr} (e:tabChk h c t = true):CodeHd h c t /\ h.get? t = some (tabObj #[]):=by
 obtain ⟨e1,e2⟩:=and_t e
 obtain ⟨e0,e1⟩:=and_t e1
 obtain ⟨ot,ht,e1⟩:=onObj_t e1
 obtain ⟨o,ho,e2⟩:=onObj_t e2
 obtain ⟨e2,e3⟩:=and_t e2
 obtain ⟨vs,hd,e3⟩:=isFields_t e3
 obtain ⟨e3,e4⟩:=and_t e3
 obtain ⟨e3,e5⟩:=and_t e3
 obtain ⟨e4,e6⟩:=and_t e4
 obtain ⟨e4,e7⟩:=and_t e4
 obtain ⟨file,tf,h5⟩:=isSt_t e5
 obtain ⟨fl,tg,h4⟩:=isIn_t e4
 obtain ⟨inF,h7⟩:=isBl_t e7
 obtain ⟨tx,tt,h6⟩:=isIn_t e6
 have h3:=is11_t e3
 refine ⟨⟨o,vs,file,tf,fl,tg,inF,tx,tt,ho,isCd_t e2,hd,h3,?_,h5,h4,h7,h6,?_⟩,?_⟩
 ·rw [Array.getD_eq_getD_getElem?,h3]; rfl
 ·exact of_decide_eq_false ((Bool.not_eq_true' _).mp e0)
 ·rw [ht,tabZ_t e1]
end
section
theorem Ok.startT2 (B:Base) (s:Shared) {T U c0 c1:Addr} {q r:Str} (hb:∀ b o,B.h₀.get? b = some o->s.heap.get? b = some o) (hTU:T ≠ U) (hT0:B.h₀.get? T = none) (hU0:B.h₀.get? U = none) (hT:ObjRep (wd [] [[T,U]] (fun u_=>False) s.heap) 0 T (.tab c0 q)) (hU:ObjRep (wd [] [[T,U]] (fun u_=>False) s.heap) 0 U (.tab c1 r)) (hf:B.frs = []) :
  Ok B [] (fun u_=>False) 1 [[T,U]] { ρ:=[],R:=[[.tab c0 q,.tab c1 r]] } s:=by
 have lk:∀ l i a,look [[T,U]] l i = some a->l = 0 /\ (i = 0 /\ a = T ∨ i = 1 /\ a = U):=fun l i a e=>by
  unfold look at e
  cases l with
  | zero=>
   cases i with
   | zero=>cases e; exact ⟨rfl,.inl ⟨rfl,rfl⟩⟩
   | succ i=>
    cases i with
    | zero=>cases e; exact ⟨rfl,.inr ⟨rfl,rfl⟩⟩
    | succ i=>cases e
  | succ l=>cases e
 have tl:=rep_live hT
 have ul:=rep_live hU
 exact {
  base:=hb
  baseM:=fun b o e h=>by
   rcases h with (⟨l,m,_⟩ | ⟨l,i,w⟩) | h
   ·cases m
   ·rcases (lk l i b w).2 with ⟨_,rfl⟩ | ⟨_,rfl⟩
    ·rw [hT0] at e; cases e
    ·rw [hU0] at e; cases e
   ·exact h
  frs:=fun L m=>by rw [hf] at m; cases m
  len:=rfl
  slots:=fun i l e=>by simp at e
  sep:=fun i j l l' e=>by simp at e
  lenA:=rfl
  dimA:=fun l i=>by
   cases l with
   | zero=>
    cases i with
    | zero=>exact ⟨fun h=>(nomatch h),fun h=>(nomatch h)⟩
    | succ i=>
     cases i with
     | zero=>exact ⟨fun h=>(nomatch h),fun h=>(nomatch h)⟩
     | succ i=>exact ⟨fun u_=>rfl,fun u_=>rfl⟩
   | succ l=>exact ⟨fun u_=>rfl,fun u_=>rfl⟩
  objs:=fun l i o a h1 h2=>by
   obtain ⟨rfl,h⟩:=lk l i a h2
   rcases h with ⟨rfl,rfl⟩ | ⟨rfl,rfl⟩
   ·cases h1; exact hT
   ·cases h1; exact hU
  inj:=fun l i l' i' a h1 h2=>by
   obtain ⟨rfl,h⟩:=lk l i a h1
   obtain ⟨rfl,h'⟩:=lk l' i' a h2
   refine ⟨rfl,?_⟩
   rcases h with ⟨rfl,rfl⟩ | ⟨rfl,rfl⟩
   ·rcases h' with ⟨rfl,_⟩ | ⟨_,w⟩
    ·rfl
    ·exact absurd w hTU
   ·rcases h' with ⟨_,w⟩ | ⟨rfl,_⟩
    ·exact absurd w.symm hTU
    ·rfl
  layA:=fun l m=>by cases m
  disP:=fun b h=>h.elim
  alive:=fun b h=>by
   rcases h with (⟨l,m,_⟩ | ⟨l,i,w⟩) | h
   ·cases m
   ·rcases (lk l i b w).2 with ⟨_,rfl⟩ | ⟨_,rfl⟩
    ·exact tl
    ·exact ul
   ·exact h.elim
  rlen:=rfl
  lvl:=Nat.one_pos }
theorem hd_ne {h:Heap} {c T U:Addr} (hC:CodeHd h c T) (hU:h.get? U = some (tabObj #[])):c ≠ U:=fun w=>by
 obtain ⟨o,_,_,_,_,_,_,_,_,e1,e2,_⟩:=hC
 rw [w,hU] at e1
 cases e1
 cases e2
set_option maxHeartbeats 1000000 in
theorem law_endT2 {l:OpenLaw} (hm:l.most = some 63) {w:World} {cl:Str->Option Addr} {mean:ExcName->Option Value} {s₁:Shared} {args:List WData} {vals:List Value} {B:Base} (hB:B.prog = l.row.prog) (hw:B.w = w) {T U c0 c1:Addr} {qn rn:Str} (hb:∀ b o,B.h₀.get? b = some o->s₁.heap.get? b = some o) (hb':∀ b o,b ≠ T->b ≠ U->s₁.heap.get? b = some o->B.h₀.get? b = some o)
  (hTU:T ≠ U) (hT0:B.h₀.get? T = none) (hU0:B.h₀.get? U = none) (hT:s₁.heap.get? T = some (tabObj #[])) (hU:s₁.heap.get? U = some (tabObj #[])) (hC:CodeHd s₁.heap c0 T) (hD:CodeHd s₁.heap c1 U) (hfr:B.frs = [])
  {P:Pg} {H:Hn} (wl:Wl P B H) {f:Fn} {o:Obj} {fd:FuncData} {body:List Stmt} {params:List Str} (fo:FnOk B H f o fd body params)
  (hrun:∀ is:List Int,is.length <= 63->∃ st,(st.obj 0 0 = some (.tab c0 qn) /\ st.obj 0 1 = some (.tab c1 rn)) /\ Call P f [.lst (is.map .int)] [] { ρ:=[],R:=[[.tab c0 qn,.tab c1 rn]] } (.imm (.bool true)) st)
  (hpre:l.row.claim.pre args = true) (hwl:WellAll w.params s₁.heap vals args) (hgens:s₁.gens = #[]) :
  wpAny (model l.row.prog w) callerA (call (.ref f.addr) vals) (fun v s'=>GoodWG l.row.claim cl mean args s₁ (.ok (.ret v)) s') (fun e s'=>GoodWG l.row.claim cl mean args s₁ (.error e) s') s₁:=by
 obtain ⟨is,a,vs,hlen,rfl,ha,hr⟩:=law_args hm hpre hwl
 obtain ⟨st',⟨hst',hsu'⟩,hk⟩:=hrun is hlen
 have hM:∀ b,Avd [] [[T,U]] (fun u_=>False) b->b = T ∨ b = U:=fun b h=>by
  rcases h with (⟨l,m,_⟩ | ⟨l,i,w⟩) | h
  ·cases m
  ·unfold look at w
   cases l with
   | zero=>
    cases i with
    | zero=>cases w; exact .inl rfl
    | succ i=>
     cases i with
     | zero=>cases w; exact .inr rfl
     | succ i=>cases w
   | succ l=>cases w
  ·exact h.elim
 have hcT:c0 ≠ T:=by obtain ⟨_,_,_,_,_,_,_,_,_,_,_,_,_,_,_,_,_,_,h⟩:=hC; exact h
 have hdU:c1 ≠ U:=by obtain ⟨_,_,_,_,_,_,_,_,_,_,_,_,_,_,_,_,_,_,h⟩:=hD; exact h
 have ok:=Ok.startT2 (c0:=c0) (c1:=c1) (q:=qn) (r:=rn) B s₁ hb hTU hT0 hU0 ⟨#[],hT,trivial,(fun u_ u_ e=>nomatch e),(fun h=>(hM _ h).elim hcT (hd_ne hC hU)),hC⟩ ⟨#[],hU,trivial,(fun u_ u_ e=>nomatch e),(fun h=>(hM _ h).elim (hd_ne hD hT) hdU),hD⟩ hfr
 have hrel:RelL (wd [] [[T,U]] (fun u_=>False) s₁.heap) (1 - 1) [.ref a] [V.lst (is.map .int)]:=.cons (.lst (fun h=>by
   have e:=ha
   rcases hM a h with q | q
   ·rw [q,show s₁.heap.get? T = _ from hT] at e; cases e
   ·rw [q,show s₁.heap.get? U = _ from hU] at e; cases e) ha (hr _ _)) .nil
 have:=hk ⟨B,H,cx0 .none Str.empty,env0,[],fun u_=>False,1,callerA,wl,⟨rfl,rfl,rfl,rfl,fun u_ u_ e=>(nomatch e),fun u_ e=>(nomatch e),rfl,rfl,fun u_ u_ e=>(nomatch e),fun u_ u_ e=>(nomatch e)⟩,ArOk.caller B hfr⟩ o fd body params fo [[T,U]] s₁ (fun e s'=>GoodWG l.row.claim cl mean args s₁ (.error e) s') [] ok (fun u_ m=>nomatch m) (fun u_ m=>nomatch m) [.ref a] [] hrel .nil
 rw [<- hB,<- hw]
 refine wpAny_mono this (fun v s' h=>?_) fun u_ u_ e=>e
 obtain ⟨A',g,ok',hv⟩:=h
 cases hv
 obtain ⟨ps,hps,_⟩:=ok'.objs 0 0 _ T hst' (g.same 0 0 T rfl)
 obtain ⟨us,hus,_⟩:=ok'.objs 0 1 _ U hsu' (g.same 0 1 U rfl)
 have tabK:∀ {X c:Addr} {ps:Array Value} {b:Addr} {o:Obj},CodeHd s₁.heap c X->s₁.heap.get? X = some (tabObj #[])->s'.heap.get? X = some (tabObj ps)->b = X->s₁.heap.get? b = some o->asItWas s₁.heap s'.heap b o:=fun {X c ps b o} hC hX hps q e=>by
  subst q
  rw [hX] at e
  cases e
  obtain ⟨oc,vs,_,_,_,_,_,_,_,e1,e2,e3,e4,_⟩:=hC
  exact .inr (.inl ⟨⟨c,oc,vs,e1,e2,e3,e4⟩,rfl,#[],ps,rfl,by rw [show (#[]:Array Value) ++ ps = ps from Array.empty_append]; exact hps⟩)
 refine law_goodT ⟨fun b o e=>?_,fun b o e=>?_⟩ g.rest.2.2 (g.rest.1.trans hgens)
 ·by_cases hbT:b = T
  ·exact tabK hC hT hps hbT e
  ·by_cases hbU:b = U
   ·exact tabK hD hU hus hbU e
   ·exact .inl (ok'.base b o (hb' b o hbT hbU e))
 ·by_cases hbT:b = T
  ·exact ⟨_,hbT ▸ hps⟩
  ·by_cases hbU:b = U
   ·exact ⟨_,hbU ▸ hus⟩
   ·exact ⟨o,ok'.base b o (hb' b o hbT hbU e)⟩
noncomputable def lawChkT2 (P:Pg) (H:Hn) (G:List (Str × Addr)) (Bt:List (Str × Value)) (PN:List (List Str)) (c t d u:Addr) (h:Heap):Bool:=(lawChk P H G Bt PN (ghostOf h [(c,t),(d,u)]) && !decide (t = u)) && (tabChk h c t && tabChk h d u)
theorem ghost_le2 {h h':Heap} {tabs:List (Addr × Addr)} (k:∀ b o,h.get? b = some o->h'.get? b = some o):∀ b o,(ghostOf h tabs).get? b = some o->(ghostOf h' tabs).get? b = some o:=fun b o e=>
 hideAll_get _ (k b o (of_hideAll _ e)) fun m=>by rw [hideAll_none _ m] at e; cases e
theorem tabs_of2 {h h':Heap} {c t d u:Addr} (e:tabChk h c t = true) (e2:tabChk h d u = true) (k:∀ b o,h.get? b = some o->h'.get? b = some o):TabsAt [(c,t),(d,u)] h':=fun q m=>by
 rcases List.mem_cons.mp m with rfl | m
 ·exact ⟨(tabChk_t e).1.keeps k,k _ _ (tabChk_t e).2⟩
 ·rw [List.mem_singleton.mp m]
  exact ⟨(tabChk_t e2).1.keeps k,k _ _ (tabChk_t e2).2⟩
end
section
noncomputable def Fly {P:Pg} (c:Cf P) (A:List (List Addr)) (s:Shared) (st:St) (x:Value) (s':Shared):Prop:=
 ∃ A2 s2 e t u base l,x = .ref e /\ Go c.lay A A2 s s2 /\ c.Ok A2 st s2 /\ c.Ar.frames = some l /\ Heap.FlyingW base l e (.type "ValueError") (.ref t) s'.heap /\ s'.heap.TupAt t [.str loMsg u] /\ base.get? t = none /\
  (∀ b o,s2.heap.get? b = some o->base.get? b = some o ∨ ∃ es ep,o.data = .dict es ep) /\ (∀ b o,c.B.h₀.get? b = some o->base.get? b = some o) /\ s2.heap.UpToSlots s'.heap /\ ∃ tk,s' = { s2 with heap:=s'.heap,toks:=tk }
noncomputable def CallR (P:Pg) (f:Fn) (args:List V) (st:St):Prop:=∀ (c:Cf P) o fd body params,FnOk c.B c.H f o fd body params->∀ A s,c.Ok A st s->∀ items,RelL (c.wd A s.heap) (c.nl - 1) items args->c.W (call (.ref f.addr) items []) (fun u_ u_=>False) (Fly c A s st) s
section
variable {P:Pg} {st st1:St}
@[elab_as_elim] theorem cmpS_fail {H:Hn} {n d:Nat} {cx:CX} {s:Stmt} {R:Stmt->Prop} (h:cmpS H n d cx s .fail = true)
  (K:∀ x p a q w,glIs cx.gl x (.type "ValueError") = true->cmp H n cx a (.const (.str loMsg)) = true->R (.Raise (some (.Call (.Name x p) [a] [] q)) none w)):R s:=
 cmpS_at h fun u_ tg h=>by
  obtain ⟨h1,h2⟩:=and_t h
  obtain ⟨e,ho,h2⟩:=toList_one h2
  refine sbuilt tg (x:=.Raise (some e) none (sparts s).p) (show Stmt.Raise (sparts s).oe (sparts s).oe2 (sparts s).p = _ by rw [ho,Option.isNone_iff_eq_none.mp h1]) ?_
  refine glCall_t (R:=fun e=>R (.Raise (some e) none _)) h2 fun x p as q hg ha=>?_
  obtain ⟨a,rfl,ha⟩:=one_t ha
  exact K x p a q _ hg ha
theorem hid_base {c:Cf P} {A s} (ok:c.Ok A st s):∀ b o,c.B.h₀.get? b = some o->(hideAll s.heap c.B.frs).get? b = some o:=fun b o e=>hideAll_get _ (ok.base b o e) fun m=>by
 obtain ⟨_,_,_,_,_,q⟩:=ok.frs b m
 rw [e] at q; cases q
theorem hid_keep {c:Cf P} {A s} (ok:c.Ok A st s):∀ b o,s.heap.get? b = some o->(hideAll s.heap c.B.frs).get? b = some o ∨ ∃ es ep,o.data = .dict es ep:=fun b o e=>by
 by_cases m:b ∈ c.B.frs
 ·obtain ⟨o',es,ep,q1,q2,_⟩:=ok.frs b m
  rw [e] at q1; cases q1
  exact .inr ⟨es,ep,q2⟩
 ·exact .inl (hideAll_get _ e m)
theorem callR_first {f:Fn} {args:List V} {vs:List V} {t:ME} {b rest:List MS} (hf:f.body = .ite t [.fail] b :: rest) (hR:st.R.length < 100) (hb:bindF f args [] = some vs) (ht:T P 8 t ⟨emptyFrame f.ns vs,st.R ++ [[]]⟩ true ⟨emptyFrame f.ns vs,st.R ++ [[]]⟩):CallR P f args st:=by
 intro c o fd body params fo A s ok items hr
 obtain ⟨n,d,hcomp⟩:=fo.hcomp
 rw [hf] at hcomp
 obtain ⟨s0,rest',rfl,h0,_⟩:=all2_cons hcomp
 rw [ok.rlen] at hR
 refine call_enter (K:=[]) c.wl.hg fo ok (fun u_ m=>nomatch m) c.ao hR hr .nil hb fun env new h1 tk eo ao' hdf hfrm hnew hk u_ ok1=>?_
 refine wpAny_execs_cons ?_
 refine cmpS_ite h0 fun d t' a' b' p kt ka u_=>wpAny_If ?_
 refine Cf.go (c:=⟨c.B.on (s.heap.objs.size :: c.B.frs),c.H,fnCX c.H fd,env,new,PK c.lay c.Q [],c.nl + 1,c.Ar.deeper env,c.wl.on _,eo,ao'⟩) (ht.at kt) ok1 fun u_ s2 A2 g2 ok2 r2=>if_t r2 ?_
 obtain ⟨s1,_,rfl,h1',hn⟩:=all2_cons ka
 cases all2_nil hn
 refine wpAny_execs_cons ?_
 refine cmpS_fail h1' fun x p a q w hg ha=>?_
 refine Raise_madeB F.excCall_ValueError F.excRaise_ValueError ao'.handled (load_glob (c:=⟨c.B.on (s.heap.objs.size :: c.B.frs),c.H,fnCX c.H fd,env,new,PK c.lay c.Q [],c.nl + 1,c.Ar.deeper env,c.wl.on _,eo,ao'⟩) ok2 hg ⟨rfl,?_⟩) (starEach_of ha _) rfl
 rw [star_one (cmp_tag ha)]
 refine Calls.spliced_cons (Cf.go (c:=⟨c.B.on (s.heap.objs.size :: c.B.frs),c.H,fnCX c.H fd,env,new,PK c.lay c.Q [],c.nl + 1,c.Ar.deeper env,c.wl.on _,eo,ao'⟩) (E_str.at ha) ok2 fun v s3 A3 g3 ok3 r3=>Calls.spliced_nil ⟨by simp [sizeLine_eq],fun h' e made=>?_⟩)
 cases r3 with
 | str=>
  rename_i u
  obtain ⟨l0,hl0,fe0⟩:=c.ao.frames
  obtain ⟨l2,q1,fe2⟩:=ao'.frames
  rw [Around.frames_deeper hl0] at q1
  cases q1
  refine wpAny_leaves_madeW (base:=hideAll s3.heap (s.heap.objs.size :: c.B.frs)) (h:=s3.heap) (outer:=l0) (Around.frames_deeper hl0) hfrm (fun b o q=>of_hideAll _ q) (funFr fe2 fun L m=>⟨hideAll_none _ m,let ⟨o,es,ep,q1,q2,_⟩:=ok3.frs L m; ⟨o,es,ep,q1,q2⟩⟩) made.of fun h2 t fl tu tn up=>?_
  have g13:=g2.trans g3
  have hgo:=leave_go (s':={ s with heap:=h1,toks:=tk }) ok ok3 hnew hk ⟨rfl,rfl,rfl⟩ g13
  have hok:=Ok.leave (s':={ s with heap:=h1,toks:=tk }) (K:=[]) (fun u_ m=>.tail _ m) ok (fun u_ m=>nomatch m) (fun u_ m=>nomatch m) ok3 hnew hk ⟨rfl,rfl,rfl⟩ g13
  rw [List.dropLast_concat] at hok
  exact ⟨_,s3,e,t,_,_,l0,rfl,hgo,hok,hl0,fl,tu,tn,hid_keep ok3,hid_base ok3,(Heap.UpToSlots.of_keeps made.keeps).trans up,s3.toks,rfl⟩
theorem Fly.leave {c c2:Cf P} {A A3:List (List Addr)} {s s1 s3 s':Shared} {st2:St} {x:Value} {L:Addr} {env:Env} {new:List Loc} {E:Value->Shared->Prop} (hB:c2.B = c.B.on (L :: c.B.frs)) (hlay:c2.lay = new) (hQ:c2.Q = PK c.lay c.Q []) (hnl:c2.nl = c.nl + 1) (hAr:c2.Ar = c.Ar.deeper env)
  (hfrm:env.frame = some L) (ok:c.Ok A st s) (hnew:∀ l ∈ new,s.heap.get? l.addr = none) (hk:∀ b o,s.heap.get? b = some o->s1.heap.get? b = some o) (hr:s1.gens = s.gens /\ s1.drawn = s.drawn /\ s1.os = s.os) (g:Go new (A ++ [[]]) A3 s1 s3) (hR:st2.R.dropLast = st.R) (h:Fly c2 A3 s3 st2 x s') :
  wpAny (model c.B.prog c.B.w) (c.Ar.deeper env) (leaving env x) (fun u_ s''=>Fly c A s st x s'') E s':=by
 obtain ⟨A4,s4,e,t,u,base,l,rfl,g4,ok4,hl,fl,tu,tn,hb1,hb2,up,tk,es⟩:=h
 obtain ⟨l0,hl0,fe0⟩:=c.ao.frames
 rw [hAr,Around.frames_deeper hl0] at hl
 cases hl
 rw [hlay] at g4
 have ok4:Mine.Ok (c.B.on (L :: c.B.frs)) new (PK c.lay c.Q []) (c.nl + 1) A4 st2 s4:=hB ▸ hlay ▸ hQ ▸ hnl ▸ ok4
 refine wpAny_leaves_onW (Around.frames_deeper hl0) hfrm fl fun h' fl' up'=>?_
 have hgo:=leave_go (s':=s1) ok ok4 hnew hk hr (g.trans g4)
 have hok:=Ok.leave (s':=s1) (K:=[]) (fun u_ m=>.tail _ m) ok (fun u_ m=>nomatch m) (fun u_ m=>nomatch m) ok4 hnew hk hr (g.trans g4)
 rw [hR] at hok
 exact ⟨_,s4,e,t,u,base,l0,rfl,hgo,hok,hl0,fl',tu.of_slots up',tn,hb1,(by rw [hB] at hb2; exact hb2),up.trans up',tk,by rw [es]⟩
end
end
section
theorem fly_call {P:Pg} {st:St} {g:Fn} {a:Addr} {m:ME} {es:List ME} {args2:List V} {c:Cf P} {n:Nat} {e:PySem.Expr} {A:List (List Addr)} {s:Shared} (hm:E P m st (.imm (.ref a)) st) (he:Es P es st args2 st) (hg:P.fns.find? (fun f=>f.addr == a) = some g) (hc:CallR P g args2 st) (ok:c.Ok A st s) (h:cmp c.H n c.cx e (.call m es []) = true) :
  c.W (eval e c.env) (fun u_ u_=>False) (Fly c A s st) s:=by
 obtain ⟨n',h⟩:=cmp_succ h
 refine cmp_call h fun x p as' ks' q hfx ha hks=>?_
 cases ks' with
 | cons _ _=>exact (Bool.false_ne_true hks).elim
 | nil=>
 refine wpAny_Call_Name_kw (Cf.go (hm.at hfx) ok fun f' s3 A3 g3 ok3 r3=>callWith_any (by rw [plain_backTo q _ _ ha]; rfl) (Cf.args he (Ek_nil (P:=P)) ha hks ok3 fun its kv A4 s4 g4 ok4 r4 rk=>?_))
 cases rk
 obtain ⟨og,fdg,bg,pg,fog⟩:=c.wl.pg g (List.mem_of_find?_eq_some hg)
 have hga:=List.find?_some hg
 obtain rfl:=beq_iff_eq.mp hga
 cases r3
 refine ⟨.inr ⟨_,og,fdg,rfl,ok4.base _ _ fog.ho,fog.hd⟩,wpAny_mono (hc c og fdg bg pg fog A4 s4 ok4 its r4) (fun u_ u_ h=>h.elim) fun x s' h=>?_⟩
 obtain ⟨A5,s5,e,t,u,base,l,rfl,g5,h⟩:=h
 exact ⟨A5,s5,e,t,u,base,l,rfl,g3.trans (g4.trans g5),h⟩
theorem callR_key {P:Pg} {st:St} {g:Fn} {a:Addr} {args2:List V} {t:ME} {es:List ME} {k n d:Nat} {b:List MS} {c:Cf P} {A:List (List Addr)} {s:Shared} {s0:Stmt} {rest':List Stmt} (ht:T P 8 t st true st) (he:Es P es st args2 st) (hg:P.fns.find? (fun f=>f.addr == a) = some g) (hc:CallR P g args2 st) (ok1:c.Ok A st s) (h0:cmpS c.H n d c.cx s0 (.ite t [.assign (.slot k) (.call (.imm (.ref a)) es [])] b) = true) :
  c.W (execs (s0 :: rest') c.env) (fun u_ u_=>False) (Fly c A s st) s:=by
 refine wpAny_execs_cons ?_
 refine cmpS_ite h0 fun d t' a' b' p kt ka u_=>wpAny_If ?_
 refine Cf.go (ht.at kt) ok1 fun u_ s2 A2 g2 ok2 r2=>if_t r2 ?_
 obtain ⟨s1,_,rfl,h1',hn⟩:=all2_cons ka
 cases all2_nil hn
 refine wpAny_execs_cons ?_
 refine cmpS_assign h1' fun t' v' pos u_ u_ hm=>?_
 rw [exec_Assign1]
 refine wpAny_bind (wpAny_standAt ?_)
 obtain ⟨n',hm'⟩:=cmp_succ hm
 rw [swaps_no (fun q=>nomatch ((cm hm').1:_ = 8).symm.trans q) (cmp_tag hm)]
 refine wpAny_bind (wpAny_pure ?_)
 rw [if_neg Bool.false_ne_true]
 refine wpAny_bind (wpAny_mono (fly_call E_imm he hg hc ok2 hm) (fun u_ u_ h=>h.elim) fun x s' h=>?_)
 obtain ⟨A5,s5,e,t,u,base,l,rfl,g5,h⟩:=h
 exact ⟨A5,s5,e,t,u,base,l,rfl,g2.trans g5,h⟩
theorem callR_next {P:Pg} {st:St} {f g:Fn} {a:Addr} {args args2:List V} {vs:List V} {t:ME} {es:List ME} {k:Nat} {b rest:List MS} (hf:f.body = .ite t [.assign (.slot k) (.call (.imm (.ref a)) es [])] b :: rest) (hR:st.R.length < 100) (hb:bindF f args [] = some vs) (ht:T P 8 t ⟨emptyFrame f.ns vs,st.R ++ [[]]⟩ true ⟨emptyFrame f.ns vs,st.R ++ [[]]⟩)
  (he:Es P es ⟨emptyFrame f.ns vs,st.R ++ [[]]⟩ args2 ⟨emptyFrame f.ns vs,st.R ++ [[]]⟩) (hg:P.fns.find? (fun f=>f.addr == a) = some g) (hc:CallR P g args2 ⟨emptyFrame f.ns vs,st.R ++ [[]]⟩):CallR P f args st:=by
 intro c o fd body params fo A s ok items hr
 obtain ⟨n,d,hcomp⟩:=fo.hcomp
 rw [hf] at hcomp
 obtain ⟨s0,rest',rfl,h0,_⟩:=all2_cons hcomp
 rw [ok.rlen] at hR
 refine call_enter (K:=[]) c.wl.hg fo ok (fun u_ m=>nomatch m) c.ao hR hr .nil hb fun env new h1 tk eo ao' hdf hfrm hnew hk u_ ok1=>?_
 refine wpAny_mono (callR_key (c:=⟨c.B.on (s.heap.objs.size :: c.B.frs),c.H,fnCX c.H fd,env,new,PK c.lay c.Q [],c.nl + 1,c.Ar.deeper env,c.wl.on _,eo,ao'⟩) ht he hg hc ok1 h0) (fun u_ u_ h=>h.elim) fun x s' h=>?_
 exact Fly.leave (s1:={ s with heap:=h1,toks:=tk }) (s3:={ s with heap:=h1,toks:=tk }) rfl rfl rfl rfl rfl hfrm ok hnew hk ⟨rfl,rfl,rfl⟩ .refl (List.dropLast_concat ..) h
theorem isExc_VE:isSubtype (.type "ValueError") (.type "BaseException") = pure true:=by rw [isSubtype_type]; kernel_rfl
theorem notTuple_VE:isSubtype (.type ((Manifest.find? "ValueError").elim "type" fun x=>x.metatype)) (.type "tuple") = pure false:=by
 rw [show ((Manifest.find? "ValueError").elim "type" fun x=>x.metatype) = "type" from by kernel_rfl,isSubtype_type]; kernel_rfl
theorem self_VE:isSubtype (.type "ValueError") (.type "ValueError") = pure true:=by rw [isSubtype_type]; kernel_rfl
section
variable {P:Pg} {st:St}
theorem hdAs_t {h:ExceptHandler} {k:PySem.Expr->Str->List Stmt->Bool} (e:hdAs h k = true):∃ t x b p,h = .ExceptHandler (some t) (some x) b p /\ k t x b = true:=by
 obtain ⟨t,n,b,p⟩:=h
 obtain ⟨t,rfl,e⟩:=toList_one e
 obtain ⟨x,rfl,e⟩:=toList_one e
 exact ⟨t,x,b,p,rfl,e⟩
theorem sbuild_1 {s:Stmt} (h:(sparts s).tag = 1):s = .Expr (sparts s).e (sparts s).p:=((congrArg (sbuildT (sparts s)) h).symm.trans (sbuild_parts s)).symm
theorem sbuild_5 {s:Stmt} (h:(sparts s).tag = 5):s = .If (sparts s).e (sparts s).a (sparts s).b (sparts s).p:=((congrArg (sbuildT (sparts s)) h).symm.trans (sbuild_parts s)).symm
@[elab_as_elim] theorem onOr_t {H:Hn} {n:Nat} {cx:CX} {row e:Nat} {t:PySem.Expr} {R:PySem.Expr->Prop} (h:onOr (cmp H n cx) cx row e t = true)
  (K:∀ sc mc p2 c2 p3,glCall cx.gl (.type "str") (parts sc) (fun as=>one as (nmIs cx.res e)) = true->cmp H n cx mc (.const (.str loMsg)) = true->cmp H n cx c2 (.cmp (.slot row) [.NotEq] [.lst [.const (.int 0),.const (.int 2),.const (.int 5)] false]) = true->
   R (.BoolOp .Or [.Compare sc [.NotEq] [mc] p2,c2] p3)):R t:=by
 obtain ⟨h1,h⟩:=and_t h
 obtain ⟨h1,h2⟩:=dec_t h1
 obtain ⟨c1,c2,he,h⟩:=two_t h
 obtain ⟨h3,h⟩:=and_t h
 obtain ⟨h3,h4⟩:=and_t h3
 obtain ⟨h3,h5⟩:=dec_t h3
 obtain ⟨h4,h6⟩:=and_t h4
 obtain ⟨mc,hm,h6⟩:=one_t h6
 refine built (build_5 h1) ?_
 rw [h2,he,<- (build_6 h3).symm.trans (build_parts c1),h5,hm]
 exact K _ mc _ c2 _ h4 h6 h
@[elab_as_elim] theorem cmpS_refuse {H:Hn} {n d:Nat} {cx:CX} {s:Stmt} {R:Stmt->Prop} {g row low e:Nat} (h:cmpS H n d cx s (.refuse g row low e) = true)
  (K:∀ ce p1 ss t x test tb p4 p5 p6,(parts ce).tag ≠ 10->cmp H n cx ce (.call (.slot g) [.slot row,.const (.int 2),.slot low] []) = true->glNm cx.gl (.type "ValueError") t = true->rsIs cx.res x e = true->cx.cel x = false->onOr (cmp H n cx) cx row e test = true->
   R (.Try (.Expr ce p1 :: ss) [.ExceptHandler (some t) (some x) [.If test tb [] p4] p5] [] [] p6)):R s:=
 cmpS_at h fun u_ tg h=>by
  obtain ⟨h1,h⟩:=and_t h
  obtain ⟨h2,h3⟩:=and_t h
  obtain ⟨hd,hh,h3⟩:=one_t h3
  obtain ⟨t,x,b,p5,rfl,h3⟩:=hdAs_t h3
  obtain ⟨h4,h3⟩:=and_t h3
  obtain ⟨h4,h5⟩:=and_t h4
  obtain ⟨h5,h6⟩:=and_t h5
  obtain ⟨s2,rfl,h3⟩:=one_t h3
  obtain ⟨h7,h3⟩:=and_t h3
  obtain ⟨h8,h3⟩:=and_t h3
  cases ha:(sparts s).a with
  | nil=>rw [ha] at h2; exact (Bool.false_ne_true h2).elim
  | cons s1 ss=>
   rw [ha] at h2
   obtain ⟨h9,h2⟩:=and_t h2
   obtain ⟨h9,h10⟩:=dec_t h9
   refine sbuilt tg (x:=.Try (.Expr (sparts s1).e (sparts s1).p :: ss) [.ExceptHandler (some t) (some x) [.If (sparts s2).e (sparts s2).a [] (sparts s2).p] p5] [] [] (sparts s).p) ?_ (K _ _ ss t x _ _ _ p5 _ h10 h2 h4 h5 (by simpa using h6) h3)
   show Stmt.Try (sparts s).a (sparts s).hs (sparts s).b (sparts s).d (sparts s).p = _
   rw [ha,hh,List.isEmpty_iff.mp (and_t h1).1,List.isEmpty_iff.mp (and_t h1).2,<- sbuild_1 h9]
   have e5:=sbuild_5 (dec_t h7)
   rw [List.isEmpty_iff.mp h8] at e5
   rw [<- e5]
end
end
section
section
variable {P:Pg} {st:St}
theorem Cf.useA {c:Cf P} {α β:Type} {Ar:Around} {t:Sem α} {r:β} {st':St} {RR:Wd->Nat->α->β->Prop} {A s s₀ E} (h:wpAny (model c.B.prog c.B.w) Ar t (c.Po A s₀ st' r RR) E s) {Q:α->Shared->Prop}
  (k:∀ v s₁ A₁,Go c.lay A A₁ s₀ s₁->c.Ok A₁ st' s₁->RR (c.wd A₁ s₁.heap) (c.nl - 1) v r->Q v s₁):wpAny (model c.B.prog c.B.w) Ar t Q E s:=
 wpAny_mono h (fun v s₁ ⟨A₁,g,ok₁,hr⟩=>k v s₁ A₁ g ok₁ hr) (fun u_ u_ e=>e)
theorem set_none {ρ:List (Option V)} {e:Nat} (h:ρ[e]? = some none):ρ.set e none = ρ:=by
 refine List.ext_getElem? fun j=>?_
 by_cases q:e = j
 ·subst q
  rw [List.getElem?_set_self (List.getElem?_eq_some_iff.mp h).1]; exact h.symm
 ·rw [List.getElem?_set_ne q]
theorem Ok.landed {c:Cf P} {A:List (List Addr)} {s:Shared} {l k:Nat} {vs:List V} {h':Heap} {tk:Nat} (ok:c.Ok A st s) (hobj:st.obj l k = some (.list vs)) (hb:∀ b o,c.B.h₀.get? b = some o->h'.get? b = some o) (hk:∀ b o,s.heap.get? b = some o->Kp h' b o) :
  c.Ok A st { s with heap:=h',toks:=tk } /\ Go c.lay A A s { s with heap:=h',toks:=tk }:=by
 cases ha:look A l k with
 | none=>rw [(ok.dimA l k).mp ha] at hobj; cases hobj
 | some a=>
  have:=ok.objs l k _ a hobj ha
  obtain ⟨items,n,h1,h2⟩:=this
  have g:Go c.lay A A s { s with heap:=h',toks:=tk }:=⟨fun b o e u_=>hk b o e,fun b o e=>(hk b o e).live,fun u_ u_ u_ e=>e,fun u_ u_ u_ e=>.inl e,rfl,rfl,rfl⟩
  have:=ok.setObjK (tk:=tk) ha hb (fun b o u_ e=>hk b o e) (o':=.list vs) ⟨items,n,(hk _ _ h1).at (fun u_ u_ q=>nomatch q),h2.mono (g.le c.Q _) (Nat.le_refl _)⟩
  rwa [setObj_same hobj] at this
noncomputable def Fin1 (c:Cf P) (A:List (List Addr)) (s:Shared) (st:St) (v:Bool) (s':Shared):Prop:=v = false /\ ∃ A',Go c.lay A A' s s' /\ c.Ok A' st s'
theorem refuse_t1 {c:Cf P} {n:Nat} {A8:List (List Addr)} {s8:Shared} {E:Value->Shared->Prop} {e:Nat} {e0 t0:Addr} {u:Tok} {x:Str} {m8:Str->Option Value} {RA:Option Value} {p2:Pos} {sc mc:PySem.Expr} (ok8:c.Ok A8 st s8) (hn8:s8.heap.Ns c.env.locals m8) (hm8:m8 x = some (.ref e0)) (ex8:s8.heap.ExcAt e0 "ValueError" (.ref t0)) (tu8:s8.heap.TupAt t0 [.str loMsg u])
  (hun:(c.Ar.mark RA).units + 100 < cLine) (hloc:c.env.kindOf x = some .local) (hlay:c.lay[e]? = some (.dict c.env.locals x)) (hsc:glCall c.cx.gl (.type "str") (parts sc) (fun as=>one as (nmIs c.cx.res e)) = true) (hmc:cmp c.H n c.cx mc (.const (.str loMsg)) = true) :
  wpAny (model c.B.prog c.B.w) (c.Ar.mark RA) (do testChain p2 (<- eval sc c.env) [.NotEq] (markedEach [.NotEq] [mc] (evalEach [mc] c.env))) (Fin1 c A8 s8 st) E s8:=by
 rw [markedEach_of_false _ _ _ (cmp_last (ops:=[.NotEq]) (es:=[mc]) (ms:=[.const (.str loMsg)]) (Bool.and_eq_true_iff.mpr ⟨hmc,rfl⟩))]
 refine wpAny_bind ?_
 refine glCall_t hsc fun y py as q hgy ha=>?_
 obtain ⟨nm,rfl,ha⟩:=one_t ha
 obtain ⟨ha1,ha2⟩:=and_t ha
 obtain ⟨n1,hmc⟩:=cmp_succ hmc
 have hxx:(parts nm).x = x:=by
  rcases c.eo.var _ e (dec_t (and_t ha2).2) with ⟨_,w⟩ | ⟨_,_,_,w⟩
  ·rw [hlay] at w; cases w; rfl
  ·rw [hlay] at w; cases w
 refine wpAny_Call_Name_kw (load_globB (c:=c) ok8.base hgy ?_)
 rw [star_one (fun q=>nomatch (dec_t ha1).symm.trans q)]
 refine callWith_any rfl (Calls.evalArgs_plain (Calls.spliced_cons ?_))
 refine built (R:=fun nm=>wpAny _ _ (eval nm c.env) _ _ _) (build_2 (dec_t ha1)) ?_
 refine wpAny_Name (wpAny_loadName_local c.eo.kind (by rw [hxx]; exact hloc) hn8 (by rw [hxx]; exact hm8) (Calls.spliced_nil ⟨.inl (fun a q=>nomatch q),?_⟩)) (bad_no (and_t ha2).1).1
 refine PySem.P.str_of_exc_one F.excStr_ValueError (Nat.lt_of_le_of_lt (by omega) hun) ex8 tu8 ?_
 refine test_last ?_
 refine cmp_const hmc fun u_ u_=>wpAny_Constant_str ?_
 obtain ⟨ok9,g9⟩:=ok8.toks (s8.toks + 1)
 have hne1:cmpV st .NotEq (.str loMsg) (.str loMsg) = some false:=by
  show notO (some (loMsg == loMsg)) = _
  rw [beq_self_eq_true]; rfl
 refine Cf.useA (cmpV_sound ok9 hun (.str (t:=u)) (.str (t:=s8.toks)) hne1) fun u_ s10 A2 g10 ok10 r10=>?_
 cases r10
 refine wpAny_truthy_bool ?_
 exact ⟨rfl,A2,g9.trans g10,ok10⟩
theorem lst025 {H:Hn} {n:Nat} {cx:CX} {e:PySem.Expr} (h:cmp H n cx e (.lst [.const (.int 0),.const (.int 2),.const (.int 5)] false) = true):∃ k1 q1 k2 q2 k3 q3 p8,e = .List [.Constant (.int 0) k1 q1,.Constant (.int 2) k2 q2,.Constant (.int 5) k3 q3] p8:=by
 obtain ⟨n4,hb3⟩:=cmp_succ h
 refine cmp_lst hb3 fun es' p8 u_ hes=>?_
 obtain ⟨i1,_,rfl,hi1,hes⟩:=all2_cons hes
 obtain ⟨i2,_,rfl,hi2,hes⟩:=all2_cons hes
 obtain ⟨i3,_,rfl,hi3,hes⟩:=all2_cons hes
 cases all2_nil hes
 obtain ⟨n5,hi1⟩:=cmp_succ hi1
 obtain ⟨n6,hi2⟩:=cmp_succ hi2
 obtain ⟨n7,hi3⟩:=cmp_succ hi3
 refine cmp_const hi1 fun k1 q1=>?_
 refine cmp_const hi2 fun k2 q2=>?_
 refine cmp_const hi3 fun k3 q3=>?_
 exact ⟨k1,q1,k2,q2,k3,q3,p8,rfl⟩
theorem refuse_t2 {c:Cf P} {n:Nat} {A:List (List Addr)} {s:Shared} {E:Value->Shared->Prop} {row l k:Nat} {RA:Option Value} {p7:Pos} {a':PySem.Expr} {bs':List PySem.Expr} (ok:c.Ok A st s) (hun:(c.Ar.mark RA).units + 100 < cLine) (hrow:st.ρ[row]? = some (some (.ref l k))) (hobj:st.obj l k = some (.list [.int 0,.int 2,.int 5]))
  (hra:cmp c.H n c.cx a' (.slot row) = true) (hrb:all2 (cmp c.H n c.cx) bs' [.lst [.const (.int 0),.const (.int 2),.const (.int 5)] false] = true) :
  wpAny (model c.B.prog c.B.w) (c.Ar.mark RA) (do testChain p7 (<- eval a' c.env) [.NotEq] (markedEach [.NotEq] bs' (evalEach bs' c.env))) (Fin1 c A s st) E s:=by
 rw [markedEach_of_false _ _ _ (cmp_last hrb)]
 obtain ⟨b1,_,rfl,hb3,hn⟩:=all2_cons hrb
 cases all2_nil hn
 obtain ⟨n3,hra⟩:=cmp_succ hra
 obtain ⟨k1,q1,k2,q2,k3,q3,p8,rfl⟩:=lst025 hb3
 refine wpAny_bind ?_
 refine cmp_slot hra fun y2 q2 hy2=>load_slot ok hy2 hrow fun v1 hv1=>?_
 refine test_last ?_
 refine wpAny_List (Calls.spliced_cons (wpAny_Constant_int (k:=k1) (pos:=q1) (Calls.spliced_cons (wpAny_Constant_int (k:=k2) (pos:=q2) (Calls.spliced_cons (wpAny_Constant_int (k:=k3) (pos:=q3) (Calls.spliced_nil ⟨by rw [sizeLine_eq]; simp,?_⟩)))))))
 obtain ⟨ok11,g11⟩:=ok.toks (s.toks + 1 + 1 + 1)
 obtain ⟨A12,g12,ok12,r12⟩:=mkL_post (tk:=s.toks + 1 + 1 + 1) (n:=0) (mu:=false) ok11 (.cons (.int (t:=s.toks)) (.cons (.int (t:=s.toks + 1)) (.cons (.int (t:=s.toks + 1 + 1)) .nil))) (by rfl:_ = some (V.lst [.int 0,.int 2,.int 5],st))
 have hne2:cmpV st .NotEq (.ref l k) (.lst [.int 0,.int 2,.int 5]) = some false:=by
  show notO (opV st (.ref l k) fun x=>opV st (.lst [.int 0,.int 2,.int 5]) fun y=>eqd x y) = _
  have:open1 st (.ref l k) = some (.lst [.int 0,.int 2,.int 5]):=by delta open1; dsimp only; rw [hobj]
  delta opV
  rw [this]
  show notO (eqd (.lst [.int 0,.int 2,.int 5]) (.lst [.int 0,.int 2,.int 5])) = some false
  decide +kernel
 refine Cf.useA (cmpV_sound ok12 hun (Cf.Rel.go (hv1.rel rfl) (g11.trans g12)) r12 hne2) fun u_ s13 A13 g13 ok13 r13=>?_
 cases r13
 refine wpAny_truthy_bool ?_
 exact ⟨rfl,A13,g11.trans (g12.trans g13),ok13⟩
theorem refuse_if {c:Cf P} {n:Nat} {A8:List (List Addr)} {s8:Shared} {E:Value->Shared->Prop} {row e l k:Nat} {e0 t0:Addr} {u:Tok} {x:Str} {test:Expr} {p4:Pos} {m8:Str->Option Value} {RA:Option Value} (ok8:c.Ok A8 st s8) (hn8:s8.heap.Ns c.env.locals m8) (hm8:m8 x = some (.ref e0)) (ex8:s8.heap.ExcAt e0 "ValueError" (.ref t0)) (tu8:s8.heap.TupAt t0 [.str loMsg u])
  (hun:(c.Ar.mark RA).units + 100 < cLine) (hloc:c.env.kindOf x = some .local) (hlay:c.lay[e]? = some (.dict c.env.locals x)) (hrow:st.ρ[row]? = some (some (.ref l k))) (hobj:st.obj l k = some (.list [.int 0,.int 2,.int 5])) (hor:onOr (cmp c.H n c.cx) c.cx row e test = true) :
  wpAny (model c.B.prog c.B.w) (c.Ar.mark RA) (exec (.If test tb [] p4) c.env) (fun fl s'=>fl = .next /\ ∃ A',Go c.lay A8 A' s8 s' /\ c.Ok A' st s') E s8:=by
 refine onOr_t hor fun sc mc p2 c2 p3 hsc hmc hc2=>?_
 obtain ⟨n2,hc2⟩:=cmp_succ hc2
 refine wpAny_If ?_
 refine wpAny_isTrue_BoolOp (wpAny_allTrue_Or_cons (wpAny_mono (refuse_t1 ok8 hn8 hm8 ex8 tu8 hun hloc hlay hsc hmc) (fun v s10 q=>?_) fun u_ u_ q=>q))
 obtain ⟨rfl,A10,g10,ok10⟩:=q
 refine if_f rfl ?_
 refine wpAny_allTrue_Or_cons ?_
 refine cmp_cmp hc2 fun a' bs' p7 hra hrb=>?_
 refine wpAny_mono (refuse_t2 ok10 hun hrow hobj hra hrb) (fun v s13 q=>?_) fun u_ u_ q=>q
 obtain ⟨rfl,A13,g13,ok13⟩:=q
 refine if_f rfl ?_
 refine wpAny_allTrue_Or_nil (if_f rfl (wpAny_execs_nil ?_))
 exact ⟨rfl,_,g10.trans g13,ok13⟩
theorem refuse_up {c:Cf P} {A4:List (List Addr)} {s4:Shared} {base h7:Heap} {tk l k:Nat} {vs:List V} (ok4:c.Ok A4 st s4) (hobj:st.obj l k = some (.list vs)) (hb1:∀ b o,s4.heap.get? b = some o->base.get? b = some o ∨ ∃ es ep,o.data = .dict es ep) (hb2:∀ b o,c.B.h₀.get? b = some o->base.get? b = some o) (f7:base.StaysIn h7) (upp:s4.heap.UpToSlots h7) :
  c.Ok A4 st { s4 with heap:=h7,toks:=tk } /\ Go c.lay A4 A4 s4 { s4 with heap:=h7,toks:=tk }:=
 ok4.landed hobj (fun b o q=>f7 b o (hb2 b o q)) fun b o q=>by
  rcases hb1 b o q with m | ⟨es,ep,m⟩
  ·exact .of (f7 b o m)
  ·obtain ⟨sl,q5⟩:=upp b o q fun vs w=>by rw [m] at w; cases w
   exact ⟨sl,q5,fun nd=>absurd m (nd _ _)⟩
theorem refuse_st {h7 h8:Heap} {L e0 t0:Addr} {u:Tok} {m:Str->Option Value} (hm1:h7.Ns L m) (hs8:Heap.SameBut L h7 h8) (ex:h7.ExcAt e0 "ValueError" (.ref t0)) (tu:h7.TupAt t0 [.str loMsg u]):h8.ExcAt e0 "ValueError" (.ref t0) /\ h8.TupAt t0 [.str loMsg u]:=by
 have nl:∀ b o,h7.get? b = some o->(∀ es ep,o.data ≠ .dict es ep)->h8.get? b = some o:=fun b o q nd=>(hs8.2 b fun w=>by
  subst w
  obtain ⟨o',es,ep,w1,w2,_⟩:=hm1
  rw [q] at w1; cases w1
  exact nd _ _ w2).trans q
 obtain ⟨oe,vse,ho1,ho2,ho3,ho4⟩:=ex
 obtain ⟨o,n,w1,w2,w3⟩:=tu
 exact ⟨⟨oe,vse,nl _ _ ho1 (fun u_ u_ w=>by rw [ho3] at w; cases w),ho2,ho3,ho4⟩,o,n,nl _ _ w1 (fun u_ u_ w=>by rw [w3] at w; cases w),w2,w3⟩
theorem refuse_lay {c:Cf P} {x:Str} {e:Nat} (hx:rsIs c.cx.res x e = true) (hcel:c.cx.cel x = false):c.env.kindOf x = some .local /\ c.lay[e]? = some (.dict c.env.locals x):=by
 have hx':=dec_t (and_t hx).2
 have hloc:=c.eo.celf x e hx' hcel
 refine ⟨hloc,?_⟩
 rcases c.eo.var x e hx' with ⟨_,w⟩ | ⟨w,_⟩
 ·exact w
 ·rw [hloc] at w; rcases w with w | w <;> cases w
theorem refuse_in {c:Cf P} {n:Nat} {A7:List (List Addr)} {s7:Shared} {E1 E2:Value->Shared->Prop} {Q:Flow->Shared->Prop} {row e l k:Nat} {e0 t0:Addr} {u:Tok} {x:Str} {test:Expr} {p4:Pos} (ok7:c.Ok A7 st s7) (ex7:s7.heap.ExcAt e0 "ValueError" (.ref t0)) (tu7:s7.heap.TupAt t0 [.str loMsg u])
  (hx:rsIs c.cx.res x e = true) (hcel:c.cx.cel x = false) (he:st.ρ[e]? = some none) (hrow:st.ρ[row]? = some (some (.ref l k))) (hobj:st.obj l k = some (.list [.int 0,.int 2,.int 5])) (hor:onOr (cmp c.H n c.cx) c.cx row e test = true) (K:∀ s' A',Go c.lay A7 A' s7 s'->c.Ok A' st s'->Q .next s') :
  wpAny (model c.B.prog c.B.w) (c.Ar.mark (some (.ref e0))) (storeName c.env x (.ref e0)) (fun u_ s3=>wpAny (model c.B.prog c.B.w) (c.Ar.mark (some (.ref e0))) (execs [.If test tb [] p4] c.env) Q E1 s3) E2 s7:=by
 obtain ⟨hloc,hlay⟩:=refuse_lay hx hcel
 obtain ⟨m,hm1,_⟩:=ok7.slots e _ hlay
 refine wpAny_storeName_local hloc hm1 (fun h8 hn8 hs8=>?_) (by rw [c.eo.kind]; rfl)
 obtain ⟨ok8,g8⟩:=ok7.setDict (tk:=s7.toks + 1) hlay hm1 hn8 hs8 (z:=none) .none
 rw [set_none he] at ok8
 obtain ⟨ex8,tu8⟩:=refuse_st hm1 hs8 ex7 tu7
 refine wpAny_execs_cons (wpAny_mono (refuse_if ok8 hn8 (if_pos rfl) ex8 tu8 c.ao.cmp hloc hlay hrow hobj hor) (fun fl s13 q=>?_) fun u_ u_ q=>q)
 obtain ⟨rfl,A13,g13,ok13⟩:=q
 exact wpAny_execs_nil (K s13 A13 (g8.trans g13) ok13)
theorem X1_refuse {g row low e l k:Nat} {a:Addr} {f:Fn} {lo:Int} (hf:P.fns.find? (fun f=>f.addr == a) = some f) (hg:st.ρ[g]? = some (some (.imm (.ref a)))) (hrow:st.ρ[row]? = some (some (.ref l k))) (hobj:st.obj l k = some (.list [.int 0,.int 2,.int 5])) (hlow:st.ρ[low]? = some (some (.int lo))) (he:st.ρ[e]? = some none)
  (hc:CallR P f [.ref l k,.int 2,.int lo] st):X1 P (.refuse g row low e) st .next st:=⟨rfl,fun c n d u_ hdf h A s E ok=>cmpS_refuse h fun ce p1 ss t x test tb p4 p5 p6 hn10 hce ht hx hcel hor=>by
 refine wpAny_Try_except (wpAny_execs_cons (wpAny_Expr_any ?_ (quiet c) (swaps_no hn10 (cmp_tag hce) _ _ _)))
 refine wpAny_mono (Q:=fun u_ u_=>False) (E:=Fly c A s st) ?_ (fun u_ u_ h=>h.elim) fun xv s' hfly=>?_
 ·exact fly_call (E_slot hg) (Es_cons (E_slot hrow) (Es_cons E_int (Es_cons (E_slot hlow) Es_nil))) hf hc ok hce
 ·obtain ⟨A4,s4,e0,t0,u,base,fl,rfl,g4,ok4,hl,fly,tu,tn,hb1,hb2,up,tk,es⟩:=hfly
  obtain ⟨h0,rfl⟩ : ∃ h0,s' = { s4 with heap:=h0,toks:=tk }:=⟨_,es⟩
  clear es
  obtain ⟨ll,hll⟩:=hdf
  rw [hll] at hl
  cases hl
  obtain ⟨_,⟨L,_,hfr,_⟩,_⟩:=fly.2.2.1
  refine wpAny_looks_onW hll hfr fly fun h5 held5 u45=>?_
  show wpAny _ _ _ _ _ ({ s4 with heap:=h5,toks:=tk }:Shared)
  refine wpAny_landsW held5 fun h6 fl6 u56=>?_
  show wpAny _ _ _ _ _ ({ s4 with heap:=h6,toks:=tk }:Shared)
  have inb:∀ (h':Heap),base.StaysIn h'->∀ b o,c.B.h₀.get? b = some o->h'.get? b = some o:=fun h' hst b o q=>hst b o (hb2 b o q)
  obtain ⟨ob,hob,hobc⟩:=fl6.there
  refine wpAny_handleBy_builtin_as (X := "ValueError") (T := "ValueError") (b:=true) isExc_VE notTuple_VE self_VE ?_
  refine glNm_load ht (inb h6 fl6.1) ⟨rfl,⟨ob,hob,hobc⟩,?_⟩
  rw [if_pos rfl]
  refine lands_againW fl6 fun h7 fl7 u67=>?_
  show wpAny _ _ _ _ _ ({ s4 with heap:=h7,toks:=tk }:Shared)
  obtain ⟨ok7,g7⟩:=refuse_up (tk:=tk) ok4 hobj hb1 hb2 fl7.1 ((up.trans u45).trans (u56.trans u67))
  refine refuse_in ok7 fl7.first (tu.of_slots (u45.trans (u56.trans u67))) hx hcel he hrow hobj hor fun s13 A13 g13 ok13=>?_
  obtain ⟨hloc,hlay⟩:=refuse_lay hx hcel
  obtain ⟨m9,hm9,_⟩:=ok13.slots e _ hlay
  refine wpAny_nameGoes_keeps hloc hm9 (by rw [c.eo.kind]; rfl) fun h9 v9 hn9 hs9=>?_
  obtain ⟨ok14,g14⟩:=ok13.setDict (tk:=s13.toks + 1) hlay hm9 hn9 hs9 (z:=none) .none
  rw [set_none he] at ok14
  exact ⟨_,g4.trans (g7.trans (g13.trans g14)),ok14,.next⟩⟩
end
end
section
theorem X1_iteT' {P:Pg} {st st2:St} {t a b fl r} (h1:T P 8 t st r st) (hr:r = true) (h2:X P a st fl st2):X1 P (.ite t a b) st fl st2:=X1_iteT (hr ▸ h1) h2
theorem X1_iteF' {P:Pg} {st st2:St} {t a b fl r} (h1:T P 8 t st r st) (hr:r = false) (h2:X P b st fl st2):X1 P (.ite t a b) st fl st2:=X1_iteF (hr ▸ h1) h2
theorem W_on' {P:Pg} {st st2 st3:St} {t b o fl r} (h1:T P 8 t st r st) (hr:r = true) (h2:X P b st .next st2) (h3:X P [.whilGo t b o] st2 fl st3):X P [.whilGo t b o] st fl st3:=W_on (hr ▸ h1) h2 h3
theorem W_end' {P:Pg} {st st2:St} {t b o fl r} (h1:T P 8 t st r st) (hr:r = false) (h2:X P o st fl st2):X P [.whilGo t b o] st fl st2:=W_end (hr ▸ h1) h2
theorem As_slot' {P:Pg} {d i:Nat} {v:V} {ρ ρ':List (Option V)} {R:List (List AObj)} (h:i < ρ.length) (h2:ρ.set i (some v) = ρ'):As P (d + 1) (.slot i) v ⟨ρ,R⟩ ⟨ρ',R⟩:=h2 ▸ As_slot h
theorem bI_mul {a b:Int}:binI .Mult a b = if small 64 a then some (a * b) else none:=rfl
theorem bI_fdiv {a b:Int}:binI .FloorDiv a b = if decide (b ≠ 0) && small 30 b then some (a.fdiv b) else none:=rfl
theorem bI_mod {a b:Int}:binI .Mod a b = if b = 0 then none else some (a.fmod b):=rfl
theorem bI_pow {a b:Int}:binI .Pow a b = if decide (0 <= b) && decide (b <= 4096) && small 16 a then some (a ^ b.toNat) else none:=rfl
theorem bI_shl {a b:Int}:binI .LShift a b = if decide (0 <= b) && decide (b <= 1000000) && small 64 a then some (a * 2 ^ b.toNat) else none:=rfl
theorem bI_shr {a b:Int}:binI .RShift a b = if decide (0 <= b) then some (a.fdiv (2 ^ b.toNat)) else none:=rfl
theorem bI_and {a b:Int}:binI .BitAnd a b = some (Builtin.bitAnd a b):=rfl
theorem bI_or {a b:Int}:binI .BitOr a b = some (Builtin.bitOr a b):=rfl
theorem bI_xor {a b:Int}:binI .BitXor a b = some (Builtin.bitXor a b):=rfl
theorem B_mul {x y:Int} (h:small 64 x = true):binI .Mult x y = some (x * y):=by simp only [bI_mul,bI_fdiv,bI_mod,bI_pow,bI_shl,bI_shr,bI_and,bI_or,bI_xor,h,if_true]
noncomputable def bisP (q:Nat->Bool):Nat->Nat->Nat->Nat
 | 0,lo,_=>lo
 | n + 1,lo,hi=>if lo < hi then (if q ((lo + hi) / 2) then bisP q n lo ((lo + hi) / 2) else bisP q n ((lo + hi) / 2 + 1) hi) else lo
noncomputable def midE:ME:=.bin .FloorDiv (.bin .Add (.slot 2) (.slot 3) false) (.const (.int 2)) false
noncomputable def loE:ME:=.bin .Add (.slot 5) (.const (.int 1)) false
noncomputable def bisCond:ME:=.cmp (.slot 2) [.Lt] [.slot 3]
noncomputable def bisBodyR (t:ME):List MS:=[.assign (.slot 5) midE,.ite t [.assign (.slot 3) (.slot 5)] [.assign (.slot 2) loE]]
noncomputable def bisBodyL (t:ME):List MS:=[.assign (.slot 5) midE,.ite t [.assign (.slot 2) loE] [.assign (.slot 3) (.slot 5)]]
section
variable {P:Pg} {R:List (List AObj)} {a x key:V} {t:ME} {q:Nat->Bool}
theorem mid_eq (lo hi:Nat):Int.fdiv ((lo:Int) + (hi:Int)) 2 = (((lo + hi) / 2:Nat):Int):=by
 rw [Int.fdiv_eq_ediv_of_nonneg _ (by decide)]; lia
theorem mid1 {lo hi:Nat} (h:lo < hi):lo <= (lo + hi) / 2:=by lia
theorem mid2 {lo hi:Nat} (h:lo < hi):(lo + hi) / 2 < hi:=by lia
theorem mid3 {lo hi n:Nat} (h:lo < hi) (k:hi - lo <= n + 1):(lo + hi) / 2 - lo <= n:=by lia
theorem mid4 {lo hi n:Nat} (k:hi - lo <= n + 1):hi - ((lo + hi) / 2 + 1) <= n:=by lia
theorem bisR_loop:∀ (n lo hi:Nat) (m:Option V),hi - lo <= n->
  (∀ (mid l h:Nat),lo <= mid->mid < hi->T P 8 t ⟨[some a,some x,some (.int l),some (.int h),some key,some (.int mid)],R⟩ (q mid) ⟨[some a,some x,some (.int l),some (.int h),some key,some (.int mid)],R⟩)->
  ∃ h' m',X P [.whilGo bisCond (bisBodyR t) []] ⟨[some a,some x,some (.int lo),some (.int hi),some key,m],R⟩ .next ⟨[some a,some x,some (.int (bisP q n lo hi:Nat)),some h',some key,m'],R⟩
 | 0,lo,hi,m,hn,_=>by
  have hlt:¬ lo < hi:=fun h=>Nat.not_succ_le_zero _ (Nat.le_trans (Nat.sub_pos_of_lt h) hn)
  refine ⟨.int hi,m,?_⟩
  refine W_end' (r:=decide ((lo:Int) < (hi:Int))) ?_ (by simpa using hlt) X_nil
  repeat' (first | exact E_int | exact E_none | exact E_bool | exact E_str | exact E_bytes | exact E_imm | exact E_slot rfl | apply E_binI | apply E_cmp | apply E_call | apply E_sub | apply E_tup | apply E_lst | apply E_neg | apply E_slc | apply E_meth | exact Es_nil | apply Es_cons | exact Ek_nil | apply Ek_cons | exact Eo_none | apply Eo_some | apply T_cmp1 | apply X1_assign | apply X1_expr | apply X1_ret | exact As_slot' (by decide) rfl | exact As_slot' (by simp) rfl | rfl)
 | n + 1,lo,hi,m,hn,ht=>by
  by_cases hlt:lo < hi
  ·have e1:lo <= (lo + hi) / 2:=mid1 hlt
   have e2:(lo + hi) / 2 < hi:=mid2 hlt
   have hmid:=ht _ lo hi e1 e2
   have hc:decide ((lo:Int) < (hi:Int)) = true:=by simpa using hlt
   cases hq:q ((lo + hi) / 2) with
   | true=>
    obtain ⟨h',m',ih⟩:=bisR_loop n lo ((lo + hi) / 2) (some (.int (((lo + hi) / 2:Nat):Int))) (mid3 hlt hn) fun mid l h h1 h2=>ht mid l h h1 (Nat.lt_trans h2 e2)
    refine ⟨h',m',?_⟩
    rw [bisP,if_pos hlt,hq,if_pos rfl]
    refine W_on' (st2:=⟨[some a,some x,some (.int lo),some (.int ((lo + hi) / 2:Nat)),some key,some (.int ((lo + hi) / 2:Nat))],R⟩) ?_ hc ?_ ih
    ·repeat' (first | exact E_int | exact E_none | exact E_bool | exact E_str | exact E_bytes | exact E_imm | exact E_slot rfl | apply E_binI | apply E_cmp | apply E_call | apply E_sub | apply E_tup | apply E_lst | apply E_neg | apply E_slc | apply E_meth | exact Es_nil | apply Es_cons | exact Ek_nil | apply Ek_cons | exact Eo_none | apply Eo_some | apply T_cmp1 | apply X1_assign | apply X1_expr | apply X1_ret | exact As_slot' (by decide) rfl | exact As_slot' (by simp) rfl | rfl)
    ·refine X_next (st1:=⟨[some a,some x,some (.int lo),some (.int hi),some key,some (.int ((lo + hi) / 2:Nat))],R⟩) ?_ ?_
     ·rw [<- mid_eq]; repeat' (first | exact E_int | exact E_none | exact E_bool | exact E_str | exact E_bytes | exact E_imm | exact E_slot rfl | apply E_binI | apply E_cmp | apply E_call | apply E_sub | apply E_tup | apply E_lst | apply E_neg | apply E_slc | apply E_meth | exact Es_nil | apply Es_cons | exact Ek_nil | apply Ek_cons | exact Eo_none | apply Eo_some | apply T_cmp1 | apply X1_assign | apply X1_expr | apply X1_ret | exact As_slot' (by decide) rfl | exact As_slot' (by simp) rfl | rfl)
     ·refine X_one (X1_iteT' hmid hq (X_one ?_))
      repeat' (first | exact E_int | exact E_none | exact E_bool | exact E_str | exact E_bytes | exact E_imm | exact E_slot rfl | apply E_binI | apply E_cmp | apply E_call | apply E_sub | apply E_tup | apply E_lst | apply E_neg | apply E_slc | apply E_meth | exact Es_nil | apply Es_cons | exact Ek_nil | apply Ek_cons | exact Eo_none | apply Eo_some | apply T_cmp1 | apply X1_assign | apply X1_expr | apply X1_ret | exact As_slot' (by decide) rfl | exact As_slot' (by simp) rfl | rfl)
   | false=>
    obtain ⟨h',m',ih⟩:=bisR_loop n ((lo + hi) / 2 + 1) hi (some (.int (((lo + hi) / 2:Nat):Int))) (mid4 hn) fun mid l h h1 h2=>ht mid l h (Nat.le_trans e1 (Nat.le_of_succ_le h1)) h2
    refine ⟨h',m',?_⟩
    rw [bisP,if_pos hlt,hq,if_neg Bool.false_ne_true]
    refine W_on' (st2:=⟨[some a,some x,some (.int ((lo + hi) / 2 + 1:Nat)),some (.int hi),some key,some (.int ((lo + hi) / 2:Nat))],R⟩) ?_ hc ?_ ih
    ·repeat' (first | exact E_int | exact E_none | exact E_bool | exact E_str | exact E_bytes | exact E_imm | exact E_slot rfl | apply E_binI | apply E_cmp | apply E_call | apply E_sub | apply E_tup | apply E_lst | apply E_neg | apply E_slc | apply E_meth | exact Es_nil | apply Es_cons | exact Ek_nil | apply Ek_cons | exact Eo_none | apply Eo_some | apply T_cmp1 | apply X1_assign | apply X1_expr | apply X1_ret | exact As_slot' (by decide) rfl | exact As_slot' (by simp) rfl | rfl)
    ·refine X_next (st1:=⟨[some a,some x,some (.int lo),some (.int hi),some key,some (.int ((lo + hi) / 2:Nat))],R⟩) ?_ ?_
     ·rw [<- mid_eq]; repeat' (first | exact E_int | exact E_none | exact E_bool | exact E_str | exact E_bytes | exact E_imm | exact E_slot rfl | apply E_binI | apply E_cmp | apply E_call | apply E_sub | apply E_tup | apply E_lst | apply E_neg | apply E_slc | apply E_meth | exact Es_nil | apply Es_cons | exact Ek_nil | apply Ek_cons | exact Eo_none | apply Eo_some | apply T_cmp1 | apply X1_assign | apply X1_expr | apply X1_ret | exact As_slot' (by decide) rfl | exact As_slot' (by simp) rfl | rfl)
     ·refine X_one (X1_iteF' hmid hq (X_one ?_))
      repeat' (first | exact E_int | exact E_none | exact E_bool | exact E_str | exact E_bytes | exact E_imm | exact E_slot rfl | apply E_binI | apply E_cmp | apply E_call | apply E_sub | apply E_tup | apply E_lst | apply E_neg | apply E_slc | apply E_meth | exact Es_nil | apply Es_cons | exact Ek_nil | apply Ek_cons | exact Eo_none | apply Eo_some | apply T_cmp1 | apply X1_assign | apply X1_expr | apply X1_ret | exact As_slot' (by decide) rfl | exact As_slot' (by simp) rfl | rfl)
  ·refine ⟨.int hi,m,?_⟩
   have e:bisP q (n + 1) lo hi = lo:=by rw [bisP,if_neg hlt]
   rw [e]
   refine W_end' (r:=decide ((lo:Int) < (hi:Int))) ?_ (by simpa using hlt) X_nil
   repeat' (first | exact E_int | exact E_none | exact E_bool | exact E_str | exact E_bytes | exact E_imm | exact E_slot rfl | apply E_binI | apply E_cmp | apply E_call | apply E_sub | apply E_tup | apply E_lst | apply E_neg | apply E_slc | apply E_meth | exact Es_nil | apply Es_cons | exact Ek_nil | apply Ek_cons | exact Eo_none | apply Eo_some | apply T_cmp1 | apply X1_assign | apply X1_expr | apply X1_ret | exact As_slot' (by decide) rfl | exact As_slot' (by simp) rfl | rfl)
end
end
section
theorem bisL_loop {P:Pg} {R:List (List AObj)} {a x key:V} {t:ME} {q:Nat->Bool}:∀ (n lo hi:Nat) (m:Option V),hi - lo <= n->
  (∀ (mid l h:Nat),lo <= mid->mid < hi->T P 8 t ⟨[some a,some x,some (.int l),some (.int h),some key,some (.int mid)],R⟩ (!q mid) ⟨[some a,some x,some (.int l),some (.int h),some key,some (.int mid)],R⟩)->
  ∃ h' m',X P [.whilGo bisCond (bisBodyL t) []] ⟨[some a,some x,some (.int lo),some (.int hi),some key,m],R⟩ .next ⟨[some a,some x,some (.int (bisP q n lo hi:Nat)),some h',some key,m'],R⟩
 | 0,lo,hi,m,hn,_=>by
  have hlt:¬ lo < hi:=fun h=>Nat.not_succ_le_zero _ (Nat.le_trans (Nat.sub_pos_of_lt h) hn)
  refine ⟨.int hi,m,?_⟩
  refine W_end' (r:=decide ((lo:Int) < (hi:Int))) ?_ (by simpa using hlt) X_nil
  repeat' (first | exact E_int | exact E_none | exact E_bool | exact E_str | exact E_bytes | exact E_imm | exact E_slot rfl | apply E_binI | apply E_cmp | apply E_call | apply E_sub | apply E_tup | apply E_lst | apply E_neg | apply E_slc | apply E_meth | exact Es_nil | apply Es_cons | exact Ek_nil | apply Ek_cons | exact Eo_none | apply Eo_some | apply T_cmp1 | apply X1_assign | apply X1_expr | apply X1_ret | exact As_slot' (by decide) rfl | exact As_slot' (by simp) rfl | rfl)
 | n + 1,lo,hi,m,hn,ht=>by
  by_cases hlt:lo < hi
  ·have e1:lo <= (lo + hi) / 2:=mid1 hlt
   have e2:(lo + hi) / 2 < hi:=mid2 hlt
   have hmid:=ht _ lo hi e1 e2
   have hc:decide ((lo:Int) < (hi:Int)) = true:=by simpa using hlt
   cases hq:q ((lo + hi) / 2) with
   | true=>
    obtain ⟨h',m',ih⟩:=bisL_loop n lo ((lo + hi) / 2) (some (.int (((lo + hi) / 2:Nat):Int))) (mid3 hlt hn) fun mid l h h1 h2=>ht mid l h h1 (Nat.lt_trans h2 e2)
    refine ⟨h',m',?_⟩
    rw [bisP,if_pos hlt,hq,if_pos rfl]
    refine W_on' (st2:=⟨[some a,some x,some (.int lo),some (.int ((lo + hi) / 2:Nat)),some key,some (.int ((lo + hi) / 2:Nat))],R⟩) ?_ hc ?_ ih
    ·repeat' (first | exact E_int | exact E_none | exact E_bool | exact E_str | exact E_bytes | exact E_imm | exact E_slot rfl | apply E_binI | apply E_cmp | apply E_call | apply E_sub | apply E_tup | apply E_lst | apply E_neg | apply E_slc | apply E_meth | exact Es_nil | apply Es_cons | exact Ek_nil | apply Ek_cons | exact Eo_none | apply Eo_some | apply T_cmp1 | apply X1_assign | apply X1_expr | apply X1_ret | exact As_slot' (by decide) rfl | exact As_slot' (by simp) rfl | rfl)
    ·refine X_next (st1:=⟨[some a,some x,some (.int lo),some (.int hi),some key,some (.int ((lo + hi) / 2:Nat))],R⟩) ?_ ?_
     ·rw [<- mid_eq]; repeat' (first | exact E_int | exact E_none | exact E_bool | exact E_str | exact E_bytes | exact E_imm | exact E_slot rfl | apply E_binI | apply E_cmp | apply E_call | apply E_sub | apply E_tup | apply E_lst | apply E_neg | apply E_slc | apply E_meth | exact Es_nil | apply Es_cons | exact Ek_nil | apply Ek_cons | exact Eo_none | apply Eo_some | apply T_cmp1 | apply X1_assign | apply X1_expr | apply X1_ret | exact As_slot' (by decide) rfl | exact As_slot' (by simp) rfl | rfl)
     ·refine X_one (X1_iteF' hmid (by rw [hq]; rfl) (X_one ?_))
      repeat' (first | exact E_int | exact E_none | exact E_bool | exact E_str | exact E_bytes | exact E_imm | exact E_slot rfl | apply E_binI | apply E_cmp | apply E_call | apply E_sub | apply E_tup | apply E_lst | apply E_neg | apply E_slc | apply E_meth | exact Es_nil | apply Es_cons | exact Ek_nil | apply Ek_cons | exact Eo_none | apply Eo_some | apply T_cmp1 | apply X1_assign | apply X1_expr | apply X1_ret | exact As_slot' (by decide) rfl | exact As_slot' (by simp) rfl | rfl)
   | false=>
    obtain ⟨h',m',ih⟩:=bisL_loop n ((lo + hi) / 2 + 1) hi (some (.int (((lo + hi) / 2:Nat):Int))) (mid4 hn) fun mid l h h1 h2=>ht mid l h (Nat.le_trans e1 (Nat.le_of_succ_le h1)) h2
    refine ⟨h',m',?_⟩
    rw [bisP,if_pos hlt,hq,if_neg Bool.false_ne_true]
    refine W_on' (st2:=⟨[some a,some x,some (.int ((lo + hi) / 2 + 1:Nat)),some (.int hi),some key,some (.int ((lo + hi) / 2:Nat))],R⟩) ?_ hc ?_ ih
    ·repeat' (first | exact E_int | exact E_none | exact E_bool | exact E_str | exact E_bytes | exact E_imm | exact E_slot rfl | apply E_binI | apply E_cmp | apply E_call | apply E_sub | apply E_tup | apply E_lst | apply E_neg | apply E_slc | apply E_meth | exact Es_nil | apply Es_cons | exact Ek_nil | apply Ek_cons | exact Eo_none | apply Eo_some | apply T_cmp1 | apply X1_assign | apply X1_expr | apply X1_ret | exact As_slot' (by decide) rfl | exact As_slot' (by simp) rfl | rfl)
    ·refine X_next (st1:=⟨[some a,some x,some (.int lo),some (.int hi),some key,some (.int ((lo + hi) / 2:Nat))],R⟩) ?_ ?_
     ·rw [<- mid_eq]; repeat' (first | exact E_int | exact E_none | exact E_bool | exact E_str | exact E_bytes | exact E_imm | exact E_slot rfl | apply E_binI | apply E_cmp | apply E_call | apply E_sub | apply E_tup | apply E_lst | apply E_neg | apply E_slc | apply E_meth | exact Es_nil | apply Es_cons | exact Ek_nil | apply Ek_cons | exact Eo_none | apply Eo_some | apply T_cmp1 | apply X1_assign | apply X1_expr | apply X1_ret | exact As_slot' (by decide) rfl | exact As_slot' (by simp) rfl | rfl)
     ·refine X_one (X1_iteT' hmid (by rw [hq]; rfl) (X_one ?_))
      repeat' (first | exact E_int | exact E_none | exact E_bool | exact E_str | exact E_bytes | exact E_imm | exact E_slot rfl | apply E_binI | apply E_cmp | apply E_call | apply E_sub | apply E_tup | apply E_lst | apply E_neg | apply E_slc | apply E_meth | exact Es_nil | apply Es_cons | exact Ek_nil | apply Ek_cons | exact Eo_none | apply Eo_some | apply T_cmp1 | apply X1_assign | apply X1_expr | apply X1_ret | exact As_slot' (by decide) rfl | exact As_slot' (by simp) rfl | rfl)
  ·refine ⟨.int hi,m,?_⟩
   have e:bisP q (n + 1) lo hi = lo:=by rw [bisP,if_neg hlt]
   rw [e]
   refine W_end' (r:=decide ((lo:Int) < (hi:Int))) ?_ (by simpa using hlt) X_nil
   repeat' (first | exact E_int | exact E_none | exact E_bool | exact E_str | exact E_bytes | exact E_imm | exact E_slot rfl | apply E_binI | apply E_cmp | apply E_call | apply E_sub | apply E_tup | apply E_lst | apply E_neg | apply E_slc | apply E_meth | exact Es_nil | apply Es_cons | exact Ek_nil | apply Ek_cons | exact Eo_none | apply Eo_some | apply T_cmp1 | apply X1_assign | apply X1_expr | apply X1_ret | exact As_slot' (by decide) rfl | exact As_slot' (by simp) rfl | rfl)
noncomputable def tRn:ME:=.cmp (.slot 1) [.Lt] [.sub (.slot 0) (.slot 5)]
noncomputable def tRk:ME:=.cmp (.slot 1) [.Lt] [.call (.slot 4) [.sub (.slot 0) (.slot 5)] []]
noncomputable def tLn:ME:=.cmp (.sub (.slot 0) (.slot 5)) [.Lt] [.slot 1]
noncomputable def tLk:ME:=.cmp (.call (.slot 4) [.sub (.slot 0) (.slot 5)] []) [.Lt] [.slot 1]
noncomputable def bisBody (bn bk:List MS):List MS:=[
 .ite (.cmp (.slot 2) [.Lt] [.const (.int 0)]) [.fail] [],
 .ite (.cmp (.slot 3) [.Is] [.const .none]) [.assign (.slot 3) (.call (.imm (.builtin "len")) [.slot 0] [])] [],
 .ite (.cmp (.slot 4) [.Is] [.const .none]) [.whil bisCond bn []] [.whil bisCond bk []],
 .ret (.slot 2)]
noncomputable def fBisR (a:Addr):Fn:={ addr:=a,np:=4,dfl:=[.int 0,.imm .none],key:=true,ns:=6,body:=bisBody (bisBodyR tRn) (bisBodyR tRk) }
noncomputable def fBisL (a:Addr):Fn:={ addr:=a,np:=4,dfl:=[.int 0,.imm .none],key:=true,ns:=6,body:=bisBody (bisBodyL tLn) (bisBodyL tLk) }
noncomputable def insBody (a:Addr):List MS:=[
 .ite (.cmp (.slot 4) [.Is] [.const .none]) [.assign (.slot 2) (.call (.imm (.ref a)) [.slot 0,.slot 1,.slot 2,.slot 3] [])] [.assign (.slot 2) (.call (.imm (.ref a)) [.slot 0,.call (.slot 4) [.slot 1] [],.slot 2,.slot 3] [("key",.slot 4)])],
 .expr (.meth (.slot 0) "insert" [.slot 2,.slot 1])]
noncomputable def fIns (a b:Addr):Fn:={ addr:=a,np:=4,dfl:=[.int 0,.imm .none],key:=true,ns:=5,body:=insBody b }
noncomputable def HiOk (R:List (List AObj)) (a hv:V) (hi:Nat):Prop:=hv = .int hi ∨ (hv = .imm .none /\ ∀ ρ,biV ⟨ρ,R⟩ "len" [a] = some (.int hi,⟨ρ,R⟩))
theorem bis_body {P:Pg} {R:List (List AObj)} {a x key hv:V} {bn bk:List MS} {lo hi r:Nat} (hh:HiOk R a hv hi) {kn:Bool} (hk:isK key = some kn)
  (hl:∀ m,∃ h' m',X P [.whilGo bisCond (if kn then bn else bk) []] ⟨[some a,some x,some (.int lo),some (.int hi),some key,m],R⟩ .next ⟨[some a,some x,some (.int r),some h',some key,m'],R⟩) :
  ∃ ρ2,X P (bisBody bn bk) ⟨[some a,some x,some (.int lo),some hv,some key,none],R⟩ (.ret (.int r)) ⟨ρ2,R⟩:=by
 obtain ⟨h',m',hX⟩:=hl none
 refine ⟨[some a,some x,some (.int r),some h',some key,m'],?_⟩
 refine X_next (st1:=⟨[some a,some x,some (.int lo),some hv,some key,none],R⟩) (X1_iteF' (r:=decide ((lo:Int) < 0)) ?_ (by simp) X_nil) ?_
 ·repeat' (first | exact E_int | exact E_none | exact E_bool | exact E_str | exact E_bytes | exact E_imm | exact E_slot rfl | apply E_binI | apply E_cmp | apply E_call | apply E_sub | apply E_tup | apply E_lst | apply E_neg | apply E_slc | apply E_meth | exact Es_nil | apply Es_cons | exact Ek_nil | apply Ek_cons | exact Eo_none | apply Eo_some | apply T_cmp1 | apply X1_assign | apply X1_expr | apply X1_ret | exact As_slot' (by decide) rfl | exact As_slot' (by simp) rfl | rfl)
 refine X_next (st1:=⟨[some a,some x,some (.int lo),some (.int hi),some key,none],R⟩) ?_ ?_
 ·rcases hh with rfl | ⟨rfl,hlen⟩
  ·refine X1_iteF' (r:=false) ?_ rfl X_nil
   repeat' (first | exact E_int | exact E_none | exact E_bool | exact E_str | exact E_bytes | exact E_imm | exact E_slot rfl | apply E_binI | apply E_cmp | apply E_call | apply E_sub | apply E_tup | apply E_lst | apply E_neg | apply E_slc | apply E_meth | exact Es_nil | apply Es_cons | exact Ek_nil | apply Ek_cons | exact Eo_none | apply Eo_some | apply T_cmp1 | apply X1_assign | apply X1_expr | apply X1_ret | exact As_slot' (by decide) rfl | exact As_slot' (by simp) rfl | rfl)
  ·refine X1_iteT' (r:=true) ?_ rfl (X_one ?_)
   ·repeat' (first | exact E_int | exact E_none | exact E_bool | exact E_str | exact E_bytes | exact E_imm | exact E_slot rfl | apply E_binI | apply E_cmp | apply E_call | apply E_sub | apply E_tup | apply E_lst | apply E_neg | apply E_slc | apply E_meth | exact Es_nil | apply Es_cons | exact Ek_nil | apply Ek_cons | exact Eo_none | apply Eo_some | apply T_cmp1 | apply X1_assign | apply X1_expr | apply X1_ret | exact As_slot' (by decide) rfl | exact As_slot' (by simp) rfl | rfl)
   ·refine X1_assign (E_call E_imm (Es_cons (E_slot rfl (isClo_of fun u_ u_ q=>by have h:=hlen []; rw [q] at h; exact nomatch h)) Es_nil) Ek_nil (Ap_bi (hlen _))) (As_slot' (by simp) rfl)
 refine X_next (st1:=⟨[some a,some x,some (.int r),some h',some key,m'],R⟩) ?_ (X_ret (X1_ret (E_slot rfl rfl)))
 have ht:T P 8 (.cmp (.slot 4) [.Is] [.const .none]) ⟨[some a,some x,some (.int lo),some (.int hi),some key,none],R⟩ kn ⟨[some a,some x,some (.int lo),some (.int hi),some key,none],R⟩:=T_isS rfl hk
 cases kn with
 | true=>exact X1_iteT' ht rfl (X_one (X1_whil hX))
 | false=>exact X1_iteF' ht rfl (X_one (X1_whil hX))
theorem bind_key {f:Fn} (h1:f.np = 4) (h2:f.dfl = [.int 0,.imm .none]) (h3:f.key = true) (a x lo hi:V):bindF f [a,x,lo,hi] [] = some [a,x,lo,hi,.imm .none]:=by unfold bindF; rw [h1,h2,h3]; rfl
section
variable {P:Pg} {st:St} {ad:Addr} {args:List V} {kw:List (Str × V)} {a x key hv:V} {lo hi:Nat} {q:Nat->Bool} {kn:Bool}
theorem bisR_call (hR:st.R.length < 100) (hb:bindF (fBisR ad) args kw = some [a,x,.int lo,hv,key]) (hh:HiOk (st.R ++ [[]]) a hv hi) (hk:isK key = some kn)
  (ht:∀ (mid l h:Nat),lo <= mid->mid < hi->T P 8 (if kn then tRn else tRk) ⟨[some a,some x,some (.int l),some (.int h),some key,some (.int mid)],st.R ++ [[]]⟩ (q mid) ⟨[some a,some x,some (.int l),some (.int h),some key,some (.int mid)],st.R ++ [[]]⟩) :
  Call P (fBisR ad) args kw st (.int (bisP q (hi - lo) lo hi:Nat)) st:=by
 obtain ⟨ρ2,h⟩:=bis_body (P:=P) (x:=x) (bn:=bisBodyR tRn) (bk:=bisBodyR tRk) (lo:=lo) (r:=bisP q (hi - lo) lo hi) hh hk fun m=>by
  obtain ⟨h',m',h⟩:=bisR_loop (P:=P) (R:=st.R ++ [[]]) (a:=a) (x:=x) (key:=key) (hi - lo) lo hi m (Nat.le_refl _) ht
  refine ⟨h',m',?_⟩
  cases kn <;> exact h
 exact Call_ret (reg:=[]) hR hb h rfl
theorem bisL_call (hR:st.R.length < 100) (hb:bindF (fBisL ad) args kw = some [a,x,.int lo,hv,key]) (hh:HiOk (st.R ++ [[]]) a hv hi) (hk:isK key = some kn)
  (ht:∀ (mid l h:Nat),lo <= mid->mid < hi->T P 8 (if kn then tLn else tLk) ⟨[some a,some x,some (.int l),some (.int h),some key,some (.int mid)],st.R ++ [[]]⟩ (!q mid) ⟨[some a,some x,some (.int l),some (.int h),some key,some (.int mid)],st.R ++ [[]]⟩) :
  Call P (fBisL ad) args kw st (.int (bisP q (hi - lo) lo hi:Nat)) st:=by
 obtain ⟨ρ2,h⟩:=bis_body (P:=P) (x:=x) (bn:=bisBodyL tLn) (bk:=bisBodyL tLk) (lo:=lo) (r:=bisP q (hi - lo) lo hi) hh hk fun m=>by
  obtain ⟨h',m',h⟩:=bisL_loop (P:=P) (R:=st.R ++ [[]]) (a:=a) (x:=x) (key:=key) (hi - lo) lo hi m (Nat.le_refl _) ht
  refine ⟨h',m',?_⟩
  cases kn <;> exact h
 exact Call_ret (reg:=[]) hR hb h rfl
end
theorem ixOf_nat {n k:Nat} (h:k < n) (hn:n <= lim):ixOf n (k:Int) = some k:=by
 unfold ixOf
 rw [if_pos hn]
 unfold seqIndex?
 simp; lia
theorem seq_cases {st:St} {a:V} {vs:List V} (h:seqOf st a = some vs):a = .lst vs ∨ ∃ l i,a = .ref l i /\ st.obj l i = some (.list vs):=by
 unfold seqOf at h
 split at h
 ·cases h; exact .inl rfl
 ·rename_i l i
  split at h
  ·cases h; exact .inr ⟨l,i,rfl,‹_›⟩
  ·cases h
 ·cases h
theorem sub_seq {st:St} {a e:V} {vs:List V} {k:Nat} (h:seqOf st a = some vs) (hl:vs.length <= lim) (he:vs[k]? = some e):subV st a (.int k) = some e:=by
 have hk:=(List.getElem?_eq_some_iff.mp he).1
 rcases seq_cases h with rfl | ⟨l,i,rfl,ho⟩
 ·simp only [subV,subK,getI,getB,intV,seqV,seqOf,ixOf_nat hk hl,he]
 ·simp only [subV,subK,getI,getB,intV,seqV,seqOf,ho,ixOf_nat hk hl,he]
theorem len_seq {st:St} {a:V} {vs:List V} (h:seqOf st a = some vs) (hl:vs.length <= lim):biV st "len" [a] = some (.int vs.length,st):=by
 rcases seq_cases h with rfl | ⟨l,i,rfl,ho⟩
 ·exact (seqV_of (k:=fun vs=>if vs.length <= lim then some (V.int vs.length,st) else none) h).trans (if_pos hl)
 ·exact (seqV_of h).trans (if_pos hl)
theorem obj_ρ (ρ ρ':List (Option V)) (R:List (List AObj)) (l i:Nat):St.obj ⟨ρ,R⟩ l i = St.obj ⟨ρ',R⟩ l i:=rfl
theorem seq_app {st:St} {a:V} {vs:List V} (h:seqOf st a = some vs) (ρ:List (Option V)):seqOf ⟨ρ,st.R ++ [[]]⟩ a = some vs:=by
 rcases seq_cases h with rfl | ⟨l,i,rfl,ho⟩
 ·rfl
 ·have:St.obj ⟨ρ,st.R ++ [[]]⟩ l i = some (.list vs):=by rw [obj_app ρ st.ρ]; exact ho
  simp only [seqOf,this]
end
section
noncomputable def KeyFn (P:Pg) (key e:V) (g:Int):Prop:=∀ s:St,s.R.length < 99->ApO P key [e] s (.int g) s
section
variable {P:Pg} {a key x e:V} {vs:List V} {s:St} {mid:Nat} {xi g:Int}
theorem seqOf_nc (hs:seqOf s a = some vs):a.isClo = false:=isClo_of fun u_ u_ q=>by rw [q] at hs; cases hs
theorem tRn_ok (h0:s.ρ[0]? = some (some a)) (h1:s.ρ[1]? = some (some (.int xi))) (h5:s.ρ[5]? = some (some (.int mid))) (hs:seqOf s a = some vs) (hl:vs.length <= lim) (he:vs[mid]? = some (.int g)):T P 8 tRn s (decide (xi < g)) s:=
 T_cmp1 (E_slot h1) (E_sub (E_slot h0 (seqOf_nc hs)) (E_slot h5) (sub_seq hs hl he)) rfl
theorem tLn_ok (h0:s.ρ[0]? = some (some a)) (h1:s.ρ[1]? = some (some (.int xi))) (h5:s.ρ[5]? = some (some (.int mid))) (hs:seqOf s a = some vs) (hl:vs.length <= lim) (he:vs[mid]? = some (.int g)):T P 8 tLn s (decide (g < xi)) s:=
 T_cmp1 (E_sub (E_slot h0 (seqOf_nc hs)) (E_slot h5) (sub_seq hs hl he)) (E_slot h1) rfl
theorem tRk_ok (h0:s.ρ[0]? = some (some a)) (h1:s.ρ[1]? = some (some (.int xi))) (h4:s.ρ[4]? = some (some key)) (h5:s.ρ[5]? = some (some (.int mid))) (hs:seqOf s a = some vs) (hl:vs.length <= lim) (he:vs[mid]? = some e) (hk:ApO P key [e] s (.int g) s):T P 8 tRk s (decide (xi < g)) s:=
 T_cmp1 (E_slot h1) (E_callS h4 (Es_cons (E_sub (E_slot h0 (seqOf_nc hs)) (E_slot h5) (sub_seq hs hl he)) Es_nil) hk) rfl
theorem tLk_ok (h0:s.ρ[0]? = some (some a)) (h1:s.ρ[1]? = some (some (.int xi))) (h4:s.ρ[4]? = some (some key)) (h5:s.ρ[5]? = some (some (.int mid))) (hs:seqOf s a = some vs) (hl:vs.length <= lim) (he:vs[mid]? = some e) (hk:ApO P key [e] s (.int g) s):T P 8 tLk s (decide (g < xi)) s:=
 T_cmp1 (E_callS h4 (Es_cons (E_sub (E_slot h0 (seqOf_nc hs)) (E_slot h5) (sub_seq hs hl he)) Es_nil) hk) (E_slot h1) rfl
variable {st:St} {ad:Addr} {args:List V} {kw:List (Str × V)} {lo hi:Nat} {hv:V} {gf:Nat->Int}
theorem bisR_ints (hR:st.R.length < 100) (hs:seqOf st a = some vs) (hl:vs.length <= lim) (hg:∀ m,lo <= m->m < hi->vs[m]? = some (.int (gf m))) (hh:hv = .int hi ∨ (hv = .imm .none /\ hi = vs.length)) (hb:bindF (fBisR ad) args kw = some [a,.int xi,.int lo,hv,.imm .none]) :
  Call P (fBisR ad) args kw st (.int (bisP (fun m=>decide (xi < gf m)) (hi - lo) lo hi:Nat)) st:=
 bisR_call (kn:=true) hR hb (hh.imp id fun ⟨h1,h2⟩=>⟨h1,fun ρ=>by rw [h2]; exact len_seq (seq_app hs ρ) hl⟩) rfl fun mid l h h1 h2=>tRn_ok rfl rfl rfl (seq_app hs _) hl (hg mid h1 h2)
theorem bisL_ints (hR:st.R.length < 100) (hs:seqOf st a = some vs) (hl:vs.length <= lim) (hg:∀ m,lo <= m->m < hi->vs[m]? = some (.int (gf m))) (hh:hv = .int hi ∨ (hv = .imm .none /\ hi = vs.length)) (hb:bindF (fBisL ad) args kw = some [a,.int xi,.int lo,hv,.imm .none]) :
  Call P (fBisL ad) args kw st (.int (bisP (fun m=>!decide (gf m < xi)) (hi - lo) lo hi:Nat)) st:=
 bisL_call (kn:=true) hR hb (hh.imp id fun ⟨h1,h2⟩=>⟨h1,fun ρ=>by rw [h2]; exact len_seq (seq_app hs ρ) hl⟩) rfl fun mid l h h1 h2=>by
  have:=tLn_ok (P:=P) (s:=⟨[some a,some (.int xi),some (.int l),some (.int h),some (.imm .none),some (.int mid)],st.R ++ [[]]⟩) (xi:=xi) rfl rfl rfl (seq_app hs _) hl (hg mid h1 h2)
  simpa using this
theorem bisR_key (hR:st.R.length < 98) (hs:seqOf st a = some vs) (hl:vs.length <= lim) (hg:∀ m,lo <= m->m < hi->∃ e,vs[m]? = some e /\ KeyFn P key e (gf m)) (hh:hv = .int hi ∨ (hv = .imm .none /\ hi = vs.length)) (hk:isK key = some false) (hb:bindF (fBisR ad) args kw = some [a,.int xi,.int lo,hv,key]) :
  Call P (fBisR ad) args kw st (.int (bisP (fun m=>decide (xi < gf m)) (hi - lo) lo hi:Nat)) st:=
 bisR_call (kn:=false) (by lia) hb (hh.imp id fun ⟨h1,h2⟩=>⟨h1,fun ρ=>by rw [h2]; exact len_seq (seq_app hs ρ) hl⟩) hk fun mid l h h1 h2=>by
  obtain ⟨e,he,hkf⟩:=hg mid h1 h2
  exact tRk_ok rfl rfl rfl rfl (seq_app hs _) hl he (hkf _ (by simp; lia))
theorem bisL_key (hR:st.R.length < 98) (hs:seqOf st a = some vs) (hl:vs.length <= lim) (hg:∀ m,lo <= m->m < hi->∃ e,vs[m]? = some e /\ KeyFn P key e (gf m)) (hh:hv = .int hi ∨ (hv = .imm .none /\ hi = vs.length)) (hk:isK key = some false) (hb:bindF (fBisL ad) args kw = some [a,.int xi,.int lo,hv,key]) :
  Call P (fBisL ad) args kw st (.int (bisP (fun m=>!decide (gf m < xi)) (hi - lo) lo hi:Nat)) st:=
 bisL_call (kn:=false) (by lia) hb (hh.imp id fun ⟨h1,h2⟩=>⟨h1,fun ρ=>by rw [h2]; exact len_seq (seq_app hs ρ) hl⟩) hk fun mid l h h1 h2=>by
  obtain ⟨e,he,hkf⟩:=hg mid h1 h2
  have:=tLk_ok (P:=P) (s:=⟨[some a,some (.int xi),some (.int l),some (.int h),some key,some (.int mid)],st.R ++ [[]]⟩) (xi:=xi) rfl rfl rfl rfl (seq_app hs _) hl he (hkf _ (by simp; lia))
  simpa using this
end
theorem setObj_app (st:St) (ρ:List (Option V)) (r:List AObj) (l i:Nat) (o:AObj) (h:l < st.R.length):St.setObj ⟨ρ,st.R ++ [r]⟩ l i o = ⟨ρ,(st.setObj l i o).R ++ [r]⟩:=by
 unfold St.setObj
 have:(st.R ++ [r]).modify l (fun x=>x.set i o) = st.R.modify l (fun x=>x.set i o) ++ [r]:=by
  apply List.ext_getElem?
  intro j
  rw [List.getElem?_modify]
  by_cases hj:j < st.R.length
  ·rw [List.getElem?_append_left hj,List.getElem?_append_left (by simpa using hj),List.getElem?_modify]
  ·have:l ≠ j:=by lia
   rw [List.getElem?_append_right (by lia),List.getElem?_append_right (by simpa using by lia),List.length_modify]
   simp [this]
 simp [this]
theorem obj_lt {st:St} {l i:Nat} {o:AObj} (h:st.obj l i = some o):l < st.R.length:=by
 unfold St.obj at h
 split at h
 ·exact (List.getElem?_eq_some_iff.mp ‹_›).1
 ·cases h
section
variable {P:Pg} {st:St} {l i:Nat} {vs:List V} {x key:V} {ad bd:Addr} {f:Fn} {k:Nat}
theorem lvlOk_nc {x:V} {l:Nat} (h:x.lvlOk l = true):x.isClo = false:=isClo_of fun u_ u_ q=>by rw [q] at h; cases h
theorem ins_body {bx:V} {bkw:List (Str × V)} (hob:st.obj l i = some (.list vs)) (hl:vs.length <= lim) (hk:k <= vs.length) (hR:st.R.length < 98) (hlv:x.lvlOk l = true) (hf:P.fns.find? (fun f=>f.addr == bd) = some f)
  (hc:∀ ρ,Call P f [.ref l i,bx,.int 0,.imm .none] bkw ⟨ρ,st.R ++ [[]]⟩ (.int k) ⟨ρ,st.R ++ [[]]⟩)
  (hkey:(key = .imm .none /\ bx = x /\ bkw = []) ∨ (isK key = some false /\ (∀ ρ,ApO P key [x] ⟨ρ,st.R ++ [[]]⟩ bx ⟨ρ,st.R ++ [[]]⟩) /\ bkw = [(("key" : Str),key)])) :
  Call P (fIns ad bd) [.ref l i,x] bkw st (.imm .none) (st.setObj l i (.list (insAt vs k x))):=by
 have hlt:=obj_lt hob
 have hx:=lvlOk_nc hlv
 have hb:bindF (fIns ad bd) [.ref l i,x] bkw = some [.ref l i,x,.int 0,.imm .none,key]:=by
  rcases hkey with ⟨rfl,_,rfl⟩ | ⟨h,_,rfl⟩ <;> rfl
 have e0:(st.R ++ [([]:List AObj)]).length < 100:=by simp; lia
 refine Call_next (st:=st) (ρ2:=[some (.ref l i),some x,some (.int k),some (.imm .none),some key]) (R2:=(st.setObj l i (.list (insAt vs k x))).R) (reg:=[]) (by lia) hb ?_
 show X P (insBody bd) ⟨[some (.ref l i),some x,some (.int 0),some (.imm .none),some key],st.R ++ [[]]⟩ _ _
 refine X_next (st1:=⟨[some (.ref l i),some x,some (.int k),some (.imm .none),some key],st.R ++ [[]]⟩) ?_ (X_one (X1_expr (v:=.imm .none) (E_meth (E_slot rfl) ?_ (Es_cons (E_slot rfl) (Es_cons (E_slot rfl) Es_nil)) ?_)))
 ·rcases hkey with ⟨rfl,rfl,rfl⟩ | ⟨h1,h2,rfl⟩
  ·refine X1_iteT' (r:=true) (T_cmp1 (E_slot rfl) E_none rfl) rfl (X_one (X1_assign (E_call E_imm (Es_cons (E_slot rfl) (Es_cons (E_slot rfl) (Es_cons (E_slot rfl) (Es_cons (E_slot rfl) Es_nil)))) Ek_nil (Ap_fn hf (hc _))) (As_slot' (by simp) rfl)))
  ·refine X1_iteF' (r:=false) (T_isS rfl h1) rfl (X_one (X1_assign (E_call E_imm (Es_cons (E_slot rfl) (Es_cons (E_callS rfl (Es_cons (E_slot rfl) Es_nil) (h2 _)) (Es_cons (E_slot rfl) (Es_cons (E_slot rfl) Es_nil)))) (Ek_slot rfl) (Ap_fn hf (hc _))) (As_slot' (by simp) rfl)))
 ·have ho:∀ ρ,St.obj ⟨ρ,st.R ++ [[]]⟩ l i = some (.list vs):=fun ρ=>by rw [obj_app ρ st.ρ]; exact hob
  simp [methOk,listB,getOk,ho]
 ·have ho:∀ ρ,St.obj ⟨ρ,st.R ++ [[]]⟩ l i = some (.list vs):=fun ρ=>by rw [obj_app ρ st.ρ]; exact hob
  have hs:small 60 (k:Int) = true:=by unfold small; unfold lim at hl; simp; lia
  have hn:("insert" : Str) ≠ ("append" : Str):=by decide +kernel
  simp only [methV,methL,methJ,methG,listV,arg1,arg2,intV,seqV,ho]
  rw [if_neg hn,if_pos trivial]
  simp [hlv,hl,hs,setObj_app st _ _ _ _ _ hlt]
end
end
section
noncomputable def Yields:It->List V->Prop
 | it,[]=>∀ st,it.next st = some none
 | it,v :: vs=>∃ it',(∀ st,it.next st = some (some (v,it'))) /\ Yields it' vs
theorem yields_seq:∀ vs:List V,Yields (.seq vs) vs
 | []=>fun u_=>rfl
 | v :: vs=>⟨.seq vs,fun u_=>rfl,yields_seq vs⟩
theorem yields_en:∀ (vs:List V) (it:It) (k:Nat),Yields it vs->Yields (.en k it) ((vs.zipIdx k).map fun p=>.tup [.int (p.2:Nat),p.1])
 | [],it,k,h=>fun st=>by show (match it.next st with | some (some (v,it'))=>_ | some none=>_ | none=>_) = _; rw [h st]
 | v :: vs,it,k,⟨it',h1,h2⟩=>⟨.en (k + 1) it',fun st=>by show (match it.next st with | some (some (v,it'))=>_ | some none=>_ | none=>_) = _; rw [h1 st],yields_en vs it' (k + 1) h2⟩
noncomputable def YieldsR (R:List (List AObj)):It->List V->Prop
 | it,[]=>∀ ρ,it.next ⟨ρ,R⟩ = some none
 | it,v :: vs=>∃ it',(∀ ρ,it.next ⟨ρ,R⟩ = some (some (v,it'))) /\ YieldsR R it' vs
theorem Yields.R {R:List (List AObj)}:∀ {vs:List V} {it:It},Yields it vs->YieldsR R it vs
 | [],_,h=>fun u_=>h _
 | _ :: _,_,⟨it',h1,h2⟩=>⟨it',fun u_=>h1 _,h2.R⟩
theorem next_of {st:St} {l i p:Nat} {vs:List V} (h:st.obj l i = some (.list vs)):(It.ref l i p).next st = match vs[p]? with | some v=>some (some (v,.ref l i (p + 1))) | none=>some none:=by
 show (match st.obj l i with | some (.list vs)=>(match vs[p]? with | some v=>some (some (v,It.ref l i (p + 1))) | none=>some none) | _=>none) = _
 rw [h]
theorem yieldsR_ref {R:List (List AObj)} {l i:Nat} {vs:List V} (h:∀ ρ,St.obj ⟨ρ,R⟩ l i = some (.list vs)):∀ (us:List V) (p:Nat),us = vs.drop p->YieldsR R (.ref l i p) us
 | [],p,e=>fun ρ=>by
  have:vs[p]? = none:=drop_nil e.symm
  rw [next_of (h ρ),this]
 | u :: us,p,e=>by
  obtain ⟨h1,h2⟩:=drop_head e.symm
  exact ⟨.ref l i (p + 1),fun ρ=>by rw [next_of (h ρ),h1],yieldsR_ref h us (p + 1) h2.symm⟩
theorem yieldsR_en {R:List (List AObj)}:∀ (vs:List V) (it:It) (k:Nat),YieldsR R it vs->YieldsR R (.en k it) ((vs.zipIdx k).map fun p=>.tup [.int (p.2:Nat),p.1])
 | [],it,k,h=>fun ρ=>by show (match it.next ⟨ρ,R⟩ with | some (some (v,it'))=>_ | some none=>_ | none=>_) = _; rw [h ρ]
 | v :: vs,it,k,⟨it',h1,h2⟩=>⟨.en (k + 1) it',fun ρ=>by show (match it.next ⟨ρ,R⟩ with | some (some (v,it'))=>_ | some none=>_ | none=>_) = _; rw [h1 ρ],yieldsR_en vs it' (k + 1) h2⟩
section
variable {P:Pg} {α β:Type}
theorem C_pure {p:MPat} {i:MI} {ifs:List ME} {elt:ME} {ρ0:List (Option V)} {R:List (List AObj)} {k:Nat} {f:α->V} {q:α->Bool} {g:α->V}:∀ (xs:List α) (it:It),YieldsR R it (xs.map f)->
  (∀ x ∈ xs,∀ junk:List (Option V),junk.length = k->∃ junk',junk'.length = k /\ As P 4 p (f x) ⟨ρ0 ++ junk,R⟩ ⟨ρ0 ++ junk',R⟩ /\ Ifs P ifs ⟨ρ0 ++ junk',R⟩ (q x) ⟨ρ0 ++ junk',R⟩ /\ (q x = true->E P elt ⟨ρ0 ++ junk',R⟩ (g x) ⟨ρ0 ++ junk',R⟩))->
  ∀ junk:List (Option V),junk.length = k->∃ junk',junk'.length = k /\ C P [.mk p i ifs] elt it ⟨ρ0 ++ junk,R⟩ ((xs.filter q).map g) ⟨ρ0 ++ junk',R⟩
 | [],it,hy,_,junk,hj=>⟨junk,hj,C_end (hy _)⟩
 | x :: xs,it,⟨it',h1,h2⟩,h,junk,hj=>by
  obtain ⟨j1,hj1,ha,hi,he⟩:=h x (.head _) junk hj
  obtain ⟨j2,hj2,ih⟩:=C_pure (i:=i) xs it' h2 (fun y m=>h y (.tail _ m)) j1 hj1
  refine ⟨j2,hj2,?_⟩
  cases hq:q x with
  | true=>
   rw [hq] at hi
   rw [List.filter_cons_of_pos (by simpa using hq),List.map_cons]
   exact C_on (h1 _) ha hi (he hq) ih
  | false=>
   rw [hq] at hi
   rw [List.filter_cons_of_neg (by simp [hq])]
   exact C_skip (h1 _) ha hi ih
theorem E_compP {p:MPat} {i:MI} {ifs:List ME} {elt:ME} {ρ0:List (Option V)} {R:List (List AObj)} {k base:Nat} {f:α->V} {q:α->Bool} {g:α->V} {xs:List α} {it:It} (hi:I P i ⟨ρ0,R⟩ it ⟨ρ0,R⟩) (hb:ρ0.length = base) (hy:YieldsR R it (xs.map f)) (hl:xs.length <= lim)
  (h:∀ x ∈ xs,∀ junk:List (Option V),junk.length = k->∃ junk',junk'.length = k /\ As P 4 p (f x) ⟨ρ0 ++ junk,R⟩ ⟨ρ0 ++ junk',R⟩ /\ Ifs P ifs ⟨ρ0 ++ junk',R⟩ (q x) ⟨ρ0 ++ junk',R⟩ /\ (q x = true->E P elt ⟨ρ0 ++ junk',R⟩ (g x) ⟨ρ0 ++ junk',R⟩)) :
  E P (.comp false base k [.mk p i ifs] elt) ⟨ρ0,R⟩ (.lst ((xs.filter q).map g)) ⟨ρ0,R⟩:=by
 obtain ⟨j,hj,hc⟩:=C_pure (i:=i) xs it hy h (List.replicate k none) (List.length_replicate ..)
 refine E_comp hi hb hc ?_
 have h1:((xs.filter q).map g).length <= lim:=by rw [List.length_map]; exact Nat.le_trans (List.length_filter_le _ _) hl
 unfold mkL
 rw [if_pos h1]
 subst hb
 simp
theorem E_compA {p:MPat} {i:MI} {elt:ME} {ρ0:List (Option V)} {R:List (List AObj)} {k base:Nat} {f:α->V} {g:α->V} {xs:List α} {it:It} (hi:I P i ⟨ρ0,R⟩ it ⟨ρ0,R⟩) (hb:ρ0.length = base) (hy:YieldsR R it (xs.map f)) (hl:xs.length <= lim)
  (h:∀ x ∈ xs,∀ junk:List (Option V),junk.length = k->∃ junk',junk'.length = k /\ As P 4 p (f x) ⟨ρ0 ++ junk,R⟩ ⟨ρ0 ++ junk',R⟩ /\ E P elt ⟨ρ0 ++ junk',R⟩ (g x) ⟨ρ0 ++ junk',R⟩) :
  E P (.comp false base k [.mk p i []] elt) ⟨ρ0,R⟩ (.lst (xs.map g)) ⟨ρ0,R⟩:=by
 have:=E_compP (q:=fun u_=>true) hi hb hy hl fun x m j hj=>let ⟨j',h1,h2,h3⟩:=h x m j hj; ⟨j',h1,h2,Ifs_nil,fun u_=>h3⟩
 rwa [List.filter_eq_self.mpr (fun u_ u_=>rfl)] at this
theorem F_loop {p:MPat} {body:List MS} {f:α->V} {step:β->α->β} {Rep:β->St->Prop}:∀ (xs:List α) (it:It) (b:β) (st:St),Yields it (xs.map f)->Rep b st->
  (∀ b x st,x ∈ xs->Rep b st->∃ st1 st2,As P 4 p (f x) st st1 /\ X P body st1 .next st2 /\ Rep (step b x) st2)->∃ st',X P [.forGo p it body []] st .next st' /\ Rep (xs.foldl step b) st'
 | [],it,b,st,hy,hr,_=>⟨st,F_end (hy _) X_nil,hr⟩
 | x :: xs,it,b,st,⟨it',h1,h2⟩,hr,h=>by
  obtain ⟨st1,st2,ha,hx,hr2⟩:=h b x st (.head _) hr
  obtain ⟨st',h3,h4⟩:=F_loop xs it' (step b x) st2 h2 hr2 fun b y s m=>h b y s (.tail _ m)
  exact ⟨st',F_on (h1 _) ha hx h3,h4⟩
end
noncomputable def up (R:List (List AObj)) (l i:Nat) (o:AObj):List (List AObj):=R.modify l (·.set i o)
theorem setObj_up (ρ:List (Option V)) (R:List (List AObj)) (l i:Nat) (o:AObj):St.setObj ⟨ρ,R⟩ l i o = ⟨ρ,up R l i o⟩:=rfl
theorem obj_up {ρ ρ':List (Option V)} {R:List (List AObj)} {l i:Nat} {o o':AObj} (h:St.obj ⟨ρ,R⟩ l i = some o):St.obj ⟨ρ',up R l i o'⟩ l i = some o':=by
 have:=obj_set ⟨ρ',R⟩ l i o' l i
 rw [if_pos ⟨rfl,rfl⟩] at this
 rw [<- setObj_up,this,obj_ρ ρ' ρ,h]; rfl
theorem up_up (R:List (List AObj)) (l i:Nat) (o o':AObj):up (up R l i o) l i o' = up R l i o':=by
 unfold up
 apply List.ext_getElem?
 intro j
 rw [List.getElem?_modify,List.getElem?_modify,List.getElem?_modify]
 by_cases h:l = j
 ·subst h; cases R[l]? <;> simp
 ·simp [h]
theorem obj_last (ρ:List (Option V)) (R0:List (List AObj)) (r:List AObj) (i:Nat):St.obj ⟨ρ,R0 ++ [r]⟩ R0.length i = r[i]?:=by unfold St.obj; simp
theorem up_last (R0:List (List AObj)) (r:List AObj) (i:Nat) (o:AObj):up (R0 ++ [r]) R0.length i o = R0 ++ [r.set i o]:=by
 unfold up
 apply List.ext_getElem?
 intro j
 rw [List.getElem?_modify]
 rcases Nat.lt_trichotomy j R0.length with h | h | h
 ·rw [List.getElem?_append_left h,List.getElem?_append_left h]
  have:¬ R0.length = j:=by lia
  simp [this]
 ·subst h; simp
 ·rw [List.getElem?_eq_none (by simp; lia),List.getElem?_eq_none (by simp; lia)]; rfl
theorem up_app (R:List (List AObj)) (r:List AObj) (l i:Nat) (o:AObj) (h:l < R.length):up (R ++ [r]) l i o = up R l i o ++ [r]:=by
 have:=setObj_app ⟨[],R⟩ [] r l i o h
 exact congrArg St.R this
theorem frz_lst {reg:List AObj} {lv d:Nat}:∀ {vs:List V},(∀ v ∈ vs,frz reg lv d v = some v)->frz reg lv (d + 1) (.lst vs) = some (.lst vs):=by
 intro vs h
 have:mapO (frz reg lv d) vs = some vs:=by
  induction vs with
  | nil=>rfl
  | cons v vs ih=>exact mapO_c (h v (.head _)) (ih fun u m=>h u (.tail _ m))
 show (match mapO (frz reg lv d) vs with | some us=>some (V.lst us) | none=>none) = _
 rw [this]
theorem frz_ints (reg:List AObj) (lv d:Nat) (is:List Int):frz reg lv (d + 2) (.lst (is.map .int)) = some (.lst (is.map .int)):=frz_lst fun v m=>by
 obtain ⟨i,_,rfl⟩:=List.mem_map.mp m; rfl
theorem frz_own {reg:List AObj} {lv d i:Nat} {vs us:List V} (h:reg[i]? = some (.list vs)) (h2:mapO (frz reg lv d) vs = some us):frz reg lv (d + 1) (.ref lv i) = some (.lst us):=by
 show (if lv = lv then (match reg[i]? with | some (.list vs)=>(match mapO (frz reg lv d) vs with | some us=>some (V.lst us) | none=>none) | _=>none) else if lv < lv then some (V.ref lv i) else none) = _
 rw [if_pos rfl,h]
 show (match mapO (frz reg lv d) vs with | some us=>some (V.lst us) | none=>none) = _
 rw [h2]
theorem mapO_frz_ints (reg:List AObj) (lv d:Nat) (is:List Int):mapO (frz reg lv (d + 1)) (is.map .int) = some (is.map .int):=by
 induction is with
 | nil=>rfl
 | cons i is ih=>exact mapO_c rfl ih
theorem intsOf_map (is:List Int):intsOf (is.map .int) = some is:=by
 induction is with
 | nil=>rfl
 | cons i is ih=>exact intsOf_cons ih
theorem strsOf_map (is:List Str):strsOf (is.map .str) = some is:=by
 induction is with
 | nil=>rfl
 | cons i is ih=>exact strsOf_cons ih
theorem cut_map {α β:Type} (f:α->β) (xs:List α) (a b:Option Int):cut (xs.map f) a b = (cut xs a b).map f:=by
 unfold cut; simp [List.map_drop,List.map_take]
theorem cut_len {α:Type} (xs:List α) (a b:Option Int):(cut xs a b).length <= xs.length:=by
 unfold cut; simp; lia
theorem mkIt_range (st:St) (n:Nat) (h:n <= 100000):mkIt st (.rng 0 n 1) = some (.seq ((List.range n).map fun i=>.int (i:Nat))):=by
 have hz0:(Builtin.Range.rangeSize 0 n 1) = n:=by
  unfold Builtin.Range.rangeSize
  rw [if_pos (by decide)]
  split
  ·rw [Int.ediv_one]; lia
  ·lia
 have hz:(Builtin.Range.rangeSize 0 n 1).toNat = n:=by rw [hz0]; simp
 have hs:Builtin.Range.small 0 n 1 = true:=by
  unfold Builtin.Range.small Builtin.Range.rangeFitsLong
  rw [hz0]
  simp
  lia
 have hr:(rangeL 0 n 1).map V.int = (List.range n).map fun i=>V.int (i:Nat):=by
  unfold rangeL
  rw [hz,List.map_map]
  apply List.map_congr_left
  intro i _
  simp
 show (if Builtin.Range.small 0 n 1 = true then some (It.seq ((rangeL 0 n 1).map .int)) else none) = _
 rw [if_pos hs,hr]
end
section
theorem seq_up {ρ ρ':List (Option V)} {R:List (List AObj)} {l i:Nat} {o:AObj} {vs:List V} (h:St.obj ⟨ρ,R⟩ l i = some o):seqOf ⟨ρ',up R l i (.list vs)⟩ (.ref l i) = some vs:=by
 simp only [seqOf,obj_up h]
theorem zipIdx_tups (js:List Int) (k:Nat):((js.map V.int).zipIdx k).map (fun p=>V.tup [.int (p.2:Nat),p.1]) = (js.zipIdx k).map (fun p=>V.tup [.int (p.2:Nat),.int p.1]):=by
 induction js generalizing k with
 | nil=>rfl
 | cons j js ih=>simp only [List.map_cons,List.zipIdx_cons,ih]
theorem mod_nat {a n:Nat} (hn:0 < n):binI .Mod (a:Int) (n:Int) = some ((a % n:Nat):Int):=by
 have h:(n:Int) ≠ 0:=by lia
 simp only [bI_mul,bI_fdiv,bI_mod,bI_pow,bI_shl,bI_shr,bI_and,bI_or,bI_xor,h,if_false]
 rw [Int.fmod_eq_emod_of_nonneg _ (by lia)]
 simp
noncomputable def bCells:List MS:=[
 .for_ (.tup [.slot 2,.slot 3]) (.enum (.val (.slc (.slot 0) none (some (.const (.int 60))) none false))) [.augI (.slot 1) (.bin .Mod (.slot 2) (.call (.imm (.builtin "len")) [.slot 1] []) false) .Add (.bin .Mod (.slot 3) (.const (.int 1000000)) false)] [],
 .ret (.slot 1)]
noncomputable def fCells (a:Addr):Fn:={ addr:=a,np:=2,dfl:=[],key:=false,ns:=4,body:=bCells }
noncomputable def cellStep (cs:List Int) (p:Int × Nat):List Int:=cs.set (p.2 % cs.length) (cs.getD (p.2 % cs.length) 0 + p.1.fmod 1000000)
noncomputable def cellsOf (is:List Int) (cs:List Int):List Int:=((cut is none (some 60)).zipIdx 0).foldl cellStep cs
theorem cellStep_len (cs:List Int) (p:Int × Nat):(cellStep cs p).length = cs.length:=by simp [cellStep]
theorem cells_len (l:List (Int × Nat)) (cs:List Int):(l.foldl cellStep cs).length = cs.length:=by
 induction l generalizing cs with
 | nil=>rfl
 | cons p l ih=>rw [List.foldl_cons,ih,cellStep_len]
theorem cells_nonneg (l:List (Int × Nat)) (cs:List Int) (h:∀ c ∈ cs,0 <= c):∀ c ∈ l.foldl cellStep cs,0 <= c:=by
 induction l generalizing cs with
 | nil=>exact h
 | cons p l ih=>
  refine ih _ fun c hc=>?_
  unfold cellStep at hc
  rcases List.mem_or_eq_of_mem_set hc with hc | rfl
  ·exact h c hc
  ·have h1:0 <= cs.getD (p.2 % cs.length) 0:=by
    rw [List.getD_eq_getElem?_getD]
    cases q:cs[p.2 % cs.length]? with
    | none=>simp
    | some c=>exact h c (List.mem_of_getElem? q)
   have h2:0 <= p.1.fmod 1000000:=Int.fmod_nonneg_of_pos _ (by decide)
   lia
theorem cells_call {P:Pg} {ad:Addr} {st:St} {l i:Nat} {is cs:List Int} (hR:st.R.length < 99) (hob:st.obj l i = some (.list (cs.map .int))) (h0:0 < cs.length) (hcs:cs.length <= 100) (his:is.length <= 100000) :
  Call P (fCells ad) [.lst (is.map .int),.ref l i] [] st (.ref l i) (st.setObj l i (.list ((cellsOf is cs).map .int))):=by
 have hlt:=obj_lt hob
 have hobR:St.obj ⟨[],st.R ++ [[]]⟩ l i = some (.list (cs.map .int)):=by rw [obj_app [] st.ρ]; exact hob
 let Rep:List Int->St->Prop:=fun ds s=>ds.length = cs.length /\ ∃ s2 s3,s = ⟨[some (.lst (is.map .int)),some (.ref l i),s2,s3],up (st.R ++ [[]]) l i (.list (ds.map .int))⟩
 have hup0:up (st.R ++ [[]]) l i (.list (cs.map .int)) = st.R ++ [[]]:=by
  unfold up
  apply List.ext_getElem?
  intro j
  rw [List.getElem?_modify]
  by_cases hj:l = j
  ·subst hj
   unfold St.obj at hobR
   dsimp only at hobR
   cases hq:(st.R ++ [[]])[l]? with
   | none=>rfl
   | some r=>
    rw [hq] at hobR
    dsimp only at hobR
    simp only [Option.map_eq_map,Option.map_some,if_true]
    congr 1
    apply List.ext_getElem?
    intro m
    rw [List.getElem?_set]
    split
    ·rename_i h; subst h; rw [hobR]; have:=(List.getElem?_eq_some_iff.mp hobR).1; simp [this]
    ·rfl
  ·simp [hj]
 have hloop:=F_loop (P:=P) (p:=.tup [.slot 2,.slot 3]) (body:=[.augI (.slot 1) (.bin .Mod (.slot 2) (.call (.imm (.builtin "len")) [.slot 1] []) false) .Add (.bin .Mod (.slot 3) (.const (.int 1000000)) false)])
  (f:=fun p:Int × Nat=>V.tup [.int (p.2:Nat),.int p.1]) (step:=cellStep) (Rep:=Rep) ((cut is none (some 60)).zipIdx 0) (.en 0 (.seq ((cut is none (some 60)).map .int))) cs ⟨[some (.lst (is.map .int)),some (.ref l i),none,none],st.R ++ [[]]⟩
  (by rw [<- zipIdx_tups]; exact yields_en _ _ _ (yields_seq _)) ⟨rfl,none,none,by rw [hup0]⟩ (by
   intro ds p s _ hr
   obtain ⟨hdl,s2,s3,rfl⟩:=hr
   have hk:p.2 % cs.length < ds.length:=by rw [hdl]; exact Nat.mod_lt _ h0
   have hl:(ds.map V.int).length <= lim:=by rw [List.length_map,hdl]; unfold lim; lia
   have he:(ds.map V.int)[p.2 % cs.length]? = some (.int (ds.getD (p.2 % cs.length) 0)):=by
    rw [List.getElem?_map,List.getD_eq_getElem?_getD,List.getElem?_eq_getElem hk]; rfl
   have hsq:∀ ρ,seqOf ⟨ρ,up (st.R ++ [[]]) l i (.list (ds.map .int))⟩ (.ref l i) = some (ds.map .int):=fun ρ=>seq_up hobR
   have hob2:∀ ρ,St.obj ⟨ρ,up (st.R ++ [[]]) l i (.list (ds.map .int))⟩ l i = some (.list (ds.map .int)):=fun ρ=>obj_up hobR
   refine ⟨_,⟨[some (.lst (is.map .int)),some (.ref l i),some (.int (p.2:Nat)),some (.int p.1)],up (st.R ++ [[]]) l i (.list ((cellStep ds p).map .int))⟩,As_tup2 (As_slot' (by simp) rfl) (As_slot' (by simp) rfl),X_one (X1_augI (E_slot rfl) (E_binI (E_slot rfl) (E_call E_imm (Es_cons (E_slot rfl) Es_nil) Ek_nil (Ap_bi (len_seq (hsq _) hl))) (by rw [List.length_map,hdl]; exact mod_nat h0)) (sub_seq (hsq _) hl he) (E_binI (E_slot rfl) E_int rfl) rfl ?_),?_⟩
   ·simp only [setItemV,refV,intV,listV,ixV,hob2,ixOf_nat (by rw [List.length_map]; exact hk) hl,lvlOk_int,Bool.true_and]
    rw [if_pos (by simp; lia),setObj_up,up_up,<- List.map_set]
    unfold cellStep
    rw [hdl]; rfl
   ·exact ⟨by rw [cellStep_len,hdl],_,_,rfl⟩)
 obtain ⟨s',hX,hr⟩:=hloop
 obtain ⟨_,s2,s3,rfl⟩:=hr
 refine Call_ret (ρ2:=[some (.lst (is.map .int)),some (.ref l i),s2,s3]) (R2:=up st.R l i (.list ((cellsOf is cs).map .int))) (reg:=[]) (v:=.ref l i) (by lia) rfl ?_ ?_
 ·rw [<- up_app _ _ _ _ _ hlt]
  show X P bCells ⟨[some (.lst (is.map .int)),some (.ref l i),none,none],st.R ++ [[]]⟩ _ _
  refine X_next (X1_for (I_enum (E_slc (E_slot rfl) Eo_none (Eo_some E_int) Eo_none (v:=.lst ((cut is none (some 60)).map .int)) (st':=⟨[some (.lst (is.map .int)),some (.ref l i),none,none],st.R ++ [[]]⟩) ?_) (it:=.en 0 (.seq ((cut is none (some 60)).map .int))) rfl) hX) (X_ret (X1_ret (E_slot rfl)))
  have hl:(is.map V.int).length <= lim:=by rw [List.length_map]; unfold lim; lia
  have hl2:((cut is none (some 60)).map V.int).length <= lim:=by rw [List.length_map]; have:=cut_len is none (some 60); unfold lim; lia
  simp only [slcV,optV,slcO,seqV,Option.isNone_none,if_true,optO,seqOf,hl,cut_map]
  unfold mkL
  rw [if_pos hl2]; rfl
 ·have:l < st.R.length:=hlt
  exact (if_neg (by lia)).trans (if_pos hlt)
end
section
noncomputable def apL:List UInt8:=[65,66,67,68,69,70,71,72,73,74,75,76,77,78,79,80]
noncomputable def bAPloop:List MS:=[.assign (.tup [.slot 0,.slot 3]) (.call (.imm (.builtin "divmod")) [.slot 0,.const (.int 16)] []),.assign (.slot 1) (.bin .Add (.slc (.slot 2) (some (.slot 3)) (some (.bin .Add (.slot 3) (.const (.int 1)) false)) none false) (.slot 1) false)]
noncomputable def bAP:List MS:=[
 .assign (.slot 1) (.const (.bytes [])),
 .assign (.slot 2) (.const (.bytes [65,66,67,68,69,70,71,72,73,74,75,76,77,78,79,80])),
 .assign (.slot 0) (.call (.imm (.type "int")) [.call (.imm (.builtin "abs")) [.slot 0] []] []),
 .whil (.slot 0) bAPloop [],
 .ret (.slot 1)]
noncomputable def fAP (a:Addr):Fn:={ addr:=a,np:=1,dfl:=[],key:=false,ns:=4,body:=bAP }
noncomputable def apD:Nat->Nat->List UInt8
 | 0,_=>[]
 | f + 1,n=>if n = 0 then [] else apD f (n / 16) ++ [(65 + n % 16).toUInt8]
theorem cut_ap:∀ m:Nat,m < 16->cut apL (some (m:Int)) (some ((m:Int) + 1)) = [(65 + m).toUInt8]:=by decide
theorem ap_loop {P:Pg} {R:List (List AObj)}:∀ (f n:Nat) (val:List UInt8) (s3:Option V),n < 16 ^ f->val.length + f <= 1000->
  ∃ s3',X P [.whilGo (.slot 0) bAPloop []] ⟨[some (.int n),some (.bytes val),some (.bytes apL),s3],R⟩ .next ⟨[some (.int 0),some (.bytes (apD f n ++ val)),some (.bytes apL),s3'],R⟩
 | 0,n,val,s3,hn,_=>by
  have:n = 0:=by lia
  subst this
  exact ⟨s3,W_end' (r:=false) (T_val (E_slot rfl) rfl rfl) rfl X_nil⟩
 | f + 1,n,val,s3,hn,hv=>by
  by_cases h0:n = 0
  ·subst h0
   refine ⟨s3,?_⟩
   unfold apD
   rw [if_pos rfl]
   exact W_end' (r:=false) (T_val (E_slot rfl) rfl rfl) rfl X_nil
  ·have hd:n / 16 < 16 ^ f:=by rw [Nat.pow_succ] at hn; lia
   obtain ⟨s3',ih⟩:=ap_loop f (n / 16) ((65 + n % 16).toUInt8 :: val) (some (.int (n % 16:Nat))) hd (by simp; lia)
   refine ⟨s3',?_⟩
   unfold apD
   rw [if_neg h0,List.append_assoc]
   have hm:n % 16 < 16:=Nat.mod_lt _ (by decide)
   refine W_on' (r:=((n:Int) != 0)) (T_val (E_slot rfl) rfl rfl) (by simp; lia) ?_ ih
   have e1:(n:Int).fdiv 16 = ((n / 16:Nat):Int):=by rw [Int.fdiv_eq_ediv_of_nonneg _ (by decide)]; simp
   have e2:(n:Int).fmod 16 = ((n % 16:Nat):Int):=by rw [Int.fmod_eq_emod_of_nonneg _ (by decide)]; simp
   refine X_next (st1:=⟨[some (.int (n / 16:Nat)),some (.bytes val),some (.bytes apL),some (.int (n % 16:Nat))],R⟩) ?_ (X_one ?_)
   ·rw [<- e1,<- e2]
    exact X1_assign (E_call E_imm (Es_cons (E_slot rfl) (Es_cons E_int Es_nil)) Ek_nil (Ap_bi rfl)) (As_tup2 (As_slot' (by simp) rfl) (As_slot' (by simp) rfl))
   ·refine X1_assign (E_bin (z:=.bytes ((65 + n % 16).toUInt8 :: val)) (st3:=⟨[some (.int (n / 16:Nat)),some (.bytes val),some (.bytes apL),some (.int (n % 16:Nat))],R⟩) (E_slc (E_slot rfl) (Eo_some (E_slot rfl)) (Eo_some (E_binI (E_slot rfl) E_int rfl)) Eo_none (v:=.bytes [(65 + n % 16).toUInt8]) (st':=⟨[some (.int (n / 16:Nat)),some (.bytes val),some (.bytes apL),some (.int (n % 16:Nat))],R⟩) ?_) (E_slot rfl) ?_) (As_slot' (by simp) rfl)
    ·simp only [slcV,optV,slcO,seqV,Option.isNone_none,if_true,optO]
     rw [if_pos (by decide),cut_ap _ hm]
    ·have:(1:Nat) + val.length <= lim:=by unfold lim; lia
     simp only [binV,binS,binB,binN,seqV,bytesV,intV,List.length_singleton,this,if_true]
     rfl
theorem AP_call {P:Pg} {ad:Addr} {st:St} {i:Int} {f:Nat} (hR:st.R.length < 100) (hi:i.natAbs < 16 ^ f) (hf:f <= 1000):Call P (fAP ad) [.int i] [] st (.bytes (apD f i.natAbs)) st:=by
 obtain ⟨s3',hl⟩:=ap_loop (P:=P) (R:=st.R ++ [[]]) f i.natAbs [] none hi (by simpa using hf)
 refine Call_ret (ρ2:=[some (.int 0),some (.bytes (apD f i.natAbs ++ [])),some (.bytes apL),s3']) (R2:=st.R) (reg:=[]) (v:=.bytes (apD f i.natAbs)) hR rfl ?_ rfl
 show X P bAP ⟨[some (.int i),none,none,none],st.R ++ [[]]⟩ _ _
 rw [List.append_nil] at hl ⊢
 refine X_next (X1_assign E_bytes (As_slot' (by simp) rfl)) (X_next (X1_assign E_bytes (As_slot' (by simp) rfl)) ?_)
 refine X_next (st1:=⟨[some (.int i.natAbs),some (.bytes []),some (.bytes apL),none],st.R ++ [[]]⟩) ?_ (X_next (X1_whil hl) (X_ret (X1_ret (E_slot rfl))))
 have e:(i.natAbs:Int) = if i < 0 then -i else i:=by split <;> lia
 rw [e]
 exact X1_assign (E_call E_imm (Es_cons (E_call E_imm (Es_cons (E_slot rfl) Es_nil) Ek_nil (Ap_bi rfl)) Es_nil) Ek_nil (Ap_ty rfl)) (As_slot' (by simp) rfl)
end
section
noncomputable def nmL:List Str:=["OPTIMIZED", "NEWLOCALS", "VARARGS", "VARKEYWORDS", "NESTED", "GENERATOR", "NOFREE", "COROUTINE", "ITERABLE_COROUTINE", "ASYNC_GENERATOR"]
noncomputable def kv10:List (Int × Str):=[(1, "OPTIMIZED"),(2, "NEWLOCALS"),(4, "VARARGS"),(8, "VARKEYWORDS"),(16, "NESTED"),(32, "GENERATOR"),(64, "NOFREE"),(128, "COROUTINE"),(256, "ITERABLE_COROUTINE"),(512, "ASYNC_GENERATOR")]
noncomputable abbrev hexT (i:Int):Str:=PySem.baseText "0x" 16 i
noncomputable def nm (k:Nat):Str:=if k < 10 then nmL.getD k "" else hexT (2 ^ k)
theorem kv_get:∀ k,k < 32->kv10.lookup ((2:Int) ^ k) = if k < 10 then some (nmL.getD k "") else none:=by decide +kernel
theorem hex_len {i:Int} (h:i.natAbs < 18446744073709551616):(hexT i).length <= 67:=by
 have e:(2:Nat) ^ 64 = 18446744073709551616:=by decide
 have h64:i.natAbs < 16 ^ 64:=Nat.lt_of_lt_of_le (by rw [e]; exact h) (Nat.pow_le_pow_left (by decide) 64)
 have h1:=toDigits_len_pow (b:=16) (by decide) (by decide:1 <= 64) h64
 unfold hexT PySem.baseText
 rw [Str.length_append,Str.length_append,ofString_ofList_length (Nat.toDigits 16 i.natAbs)]
 have h3:(Str.ofString (if i < 0 then "-" else "")).length <= 1:=by
  split <;> (rw [PyProof.Rows.ofString_len]; decide)
 have h4:(Str.ofString "0x").length = 2:=by decide +kernel
 lia
theorem nm_len:∀ k,k < 32->(nm k).length <= 67:=by
 intro k hk
 unfold nm
 split
 ·rename_i h
  have:∀ k,k < 10->(nmL.getD k "").length <= 67:=by decide +kernel
  exact this k h
 ·refine hex_len ?_
  have h1:((2:Int) ^ k).natAbs = 2 ^ k:=by rw [Int.natAbs_pow]; rfl
  rw [h1]
  exact Nat.lt_of_lt_of_le (Nat.pow_lt_pow_right (by decide) hk) (by decide)
theorem hex_bi {st:St} {i:Int} (h:i.natAbs < 18446744073709551616):biV st "hex" [.int i] = some (.str (hexT i),st):=by
 have:(PySem.baseText "0x" 16 i).length <= lim:=Nat.le_trans (hex_len h) (by decide)
 exact if_pos this
theorem shl1 (k:Nat) (hk:k <= 1000):binI .LShift 1 (k:Int) = some ((2:Int) ^ k):=by
 have h:(decide (0 <= (k:Int)) && decide ((k:Int) <= 1000000) && small 64 1) = true:=by
  simp [small]; lia
 simp only [bI_mul,bI_fdiv,bI_mod,bI_pow,bI_shl,bI_shr,bI_and,bI_or,bI_xor,h,if_true]
 simp
noncomputable def flagW:Nat->Nat->Int->List Str
 | k,0,x=>[hexT (x * 2 ^ k)]
 | k,m + 1,x=>if x % 2 = 1 then nm k :: (if x / 2 = 0 then [] else flagW (k + 1) m (x / 2)) else flagW (k + 1) m (x / 2)
noncomputable def pfBody (ga:Addr):List MS:=[.assign (.slot 3) (.bin .LShift (.const (.int 1)) (.slot 2) false),.ite (.bin .BitAnd (.slot 0) (.slot 3) false) [.expr (.meth (.slot 1) "append" [.meth (.imm (.ref ga)) "get" [.slot 3,.call (.imm (.builtin "hex")) [.slot 3] []]]),.augS 0 .BitXor (.slot 3),.ite (.un .Not (.slot 0)) [.brk] []] []]
noncomputable def pfElse:List MS:=[.expr (.meth (.slot 1) "append" [.call (.imm (.builtin "hex")) [.slot 0] []])]
noncomputable def bPF (ga:Addr):List MS:=[
 .assign (.slot 1) (.lst [] true),
 .for_ (.slot 2) (.val (.call (.imm (.type "range")) [.const (.int 32)] [])) (pfBody ga) pfElse,
 .ret (.meth (.const (.str ", ")) "join" [.slot 1])]
noncomputable def fPF (a ga:Addr):Fn:={ addr:=a,np:=1,dfl:=[],key:=false,ns:=4,body:=bPF ga }
theorem pow_pos2 (k:Nat):(0:Int) < 2 ^ k:=Int.pow_pos (by decide)
theorem and_bit (x:Int) (k:Nat):Builtin.bitAnd (x * 2 ^ k) (2 ^ k) = (x % 2) * 2 ^ k:=by
 rw [kbt_bit,Int.mul_ediv_cancel _ (by have:=pow_pos2 k; lia)]
theorem xor_bit (x:Int) (k:Nat) (h:x % 2 = 1):Builtin.bitXor (x * 2 ^ k) (2 ^ k) = (x / 2) * 2 ^ (k + 1):=by
 rw [bitXor_and,and_bit,h,Int.pow_succ]
 have e:x = 2 * (x / 2) + 1:=by lia
 generalize x / 2 = y at *
 subst e
 rw [Int.add_mul]
 have:2 * y * 2 ^ k = y * (2 ^ k * 2):=by
  rw [Int.mul_comm 2 y,Int.mul_assoc,Int.mul_comm 2]
 lia
theorem half_mul (x:Int) (k:Nat) (h:x % 2 ≠ 1):x * 2 ^ k = (x / 2) * 2 ^ (k + 1):=by
 have e:x = 2 * (x / 2):=by lia
 generalize x / 2 = y at *
 subst e
 rw [Int.pow_succ,Int.mul_comm 2 y,Int.mul_assoc,Int.mul_comm 2]
theorem X1_augS' {P:Pg} {i:Nat} {op:Operator} {e:ME} {ρ ρ':List (Option V)} {R:List (List AObj)} {old v new:V} (h0:ρ[i]? = some (some old)) (h1:E P e ⟨ρ,R⟩ v ⟨ρ,R⟩) (h2:augV ⟨ρ,R⟩ op old v = some (new,⟨ρ,R⟩)) (h3:i < ρ.length)
  (h4:ρ.set i (some new) = ρ'):X1 P (.augS i op e) ⟨ρ,R⟩ .next ⟨ρ',R⟩:=h4 ▸ X1_augS h0 h1 h2 h3
theorem app_last {ρ:List (Option V)} {R0:List (List AObj)} {ws:List V} {w:V} {G:Pg} (hl:ws.length <= lim) (hw:w.lvlOk R0.length = true) :
  methV G ⟨ρ,R0 ++ [[.list ws]]⟩ (.ref R0.length 0) "append" [w] = some (.imm .none,⟨ρ,R0 ++ [[.list (ws ++ [w])]]⟩):=by
 have ho:St.obj ⟨ρ,R0 ++ [[.list ws]]⟩ R0.length 0 = some (.list ws):=by rw [obj_last]; rfl
 simp only [methV,methL,methJ,methG,listV,arg1,arg2,intV,seqV,ho]
 rw [if_pos trivial]
 simp only [hw,hl,decide_true,Bool.and_self,if_true]
 rw [setObj_up,up_last]; rfl
theorem methOk_last {ρ:List (Option V)} {R0:List (List AObj)} {ws:List V} {G:Pg}:methOk G ⟨ρ,R0 ++ [[.list ws]]⟩ (.ref R0.length 0) "append" = true:=by
 have ho:St.obj ⟨ρ,R0 ++ [[.list ws]]⟩ R0.length 0 = some (.list ws):=by rw [obj_last]; rfl
 simp only [methOk,listB,getOk,ho]
 rfl
noncomputable def Bd (k:Nat) (v:Int):Prop:=-9223372036854775808 - 2 ^ k < v /\ v < 9223372036854775808
theorem Bd.abs {k:Nat} {v:Int} (h:Bd k v) (hk:k <= 32):v.natAbs < 18446744073709551616:=by
 unfold Bd at h
 have:(2:Int) ^ k <= 2 ^ 32:=by
  have h:=Nat.pow_le_pow_right (n:=2) (by decide) hk
  exact_mod_cast h
 have h2:(2:Int) ^ 32 = 4294967296:=by decide
 lia
theorem Bd.next {k:Nat} {x:Int} (h:Bd k (x * 2 ^ k)):Bd (k + 1) ((x / 2) * 2 ^ (k + 1)):=by
 have hp:=pow_pos2 k
 have e:(2:Int) ^ (k + 1) = 2 * 2 ^ k:=by rw [Int.pow_succ]; lia
 unfold Bd at *
 by_cases hodd:x % 2 = 1
 ·rw [<- xor_bit x k hodd,bitXor_and,and_bit,hodd]
  lia
 ·rw [<- half_mul x k hodd]
  lia
theorem pf_loop {P:Pg} {ga:Addr} (hG:P.gds.lookup ga = some kv10) {R0:List (List AObj)}:∀ (m k:Nat) (x:Int) (ws:List Str) (s2 s3:Option V),k + m = 32->Bd k (x * 2 ^ k)->ws.length + m <= 1000->
  ∃ ρ2,X P [.forGo (.slot 2) (.seq ((List.range' k m).map fun i=>.int (i:Nat))) (pfBody ga) pfElse] ⟨[some (.int (x * 2 ^ k)),some (.ref R0.length 0),s2,s3],R0 ++ [[.list (ws.map .str)]]⟩ .next ⟨ρ2,R0 ++ [[.list ((ws ++ flagW k m x).map .str)]]⟩ /\ ρ2[1]? = some (some (.ref R0.length 0))
 | 0,k,x,ws,s2,s3,hk,hx,hw=>by
  refine ⟨[some (.int (x * 2 ^ k)),some (.ref R0.length 0),s2,s3],F_end rfl (X_one (X1_expr (v:=.imm .none) (E_meth (E_slot rfl) methOk_last (Es_cons (E_call E_imm (Es_cons (E_slot rfl) Es_nil) Ek_nil (Ap_bi (hex_bi (hx.abs (by lia))))) Es_nil) ?_))),rfl⟩
  rw [List.map_append]
  exact app_last (by rw [List.length_map]; unfold lim; lia) rfl
 | m + 1,k,x,ws,s2,s3,hk,hx,hw=>by
  have hyield:It.next ⟨[some (.int (x * 2 ^ k)),some (.ref R0.length 0),s2,s3],R0 ++ [[.list (ws.map .str)]]⟩ (.seq ((List.range' k (m + 1)).map fun i=>.int (i:Nat))) = some (some (.int (k:Nat),.seq ((List.range' (k + 1) m).map fun i=>.int (i:Nat)))):=rfl
  have hsh:=shl1 k (by lia)
  have hl:(ws.map V.str).length <= lim:=by rw [List.length_map]; unfold lim; lia
  have h2k:((2:Int) ^ k).natAbs < 18446744073709551616:=by
   rw [Int.natAbs_pow]
   exact Nat.lt_of_lt_of_le (Nat.pow_lt_pow_right (by decide) (by lia:k < 64)) (by decide)
  have ha1:X1 P (.assign (.slot 3) (.bin .LShift (.const (.int 1)) (.slot 2) false)) ⟨[some (.int (x * 2 ^ k)),some (.ref R0.length 0),some (.int (k:Nat)),s3],R0 ++ [[.list (ws.map .str)]]⟩ .next ⟨[some (.int (x * 2 ^ k)),some (.ref R0.length 0),some (.int (k:Nat)),some (.int (2 ^ k))],R0 ++ [[.list (ws.map .str)]]⟩:=
   X1_assign (E_binI E_int (E_slot rfl) hsh) (As_slot' (by simp) rfl)
  have ht:T P 8 (.bin .BitAnd (.slot 0) (.slot 3) false) ⟨[some (.int (x * 2 ^ k)),some (.ref R0.length 0),some (.int (k:Nat)),some (.int (2 ^ k))],R0 ++ [[.list (ws.map .str)]]⟩ (((x % 2) * 2 ^ k:Int) != 0) ⟨[some (.int (x * 2 ^ k)),some (.ref R0.length 0),some (.int (k:Nat)),some (.int (2 ^ k))],R0 ++ [[.list (ws.map .str)]]⟩:=by
   refine T_val (E_binI (E_slot rfl) (E_slot rfl) (z:=(x % 2) * 2 ^ k) ?_) rfl rfl
   simp only [bI_mul,bI_fdiv,bI_mod,bI_pow,bI_shl,bI_shr,bI_and,bI_or,bI_xor,and_bit]
  have hp:=pow_pos2 k
  by_cases hodd:x % 2 = 1
  ·have htr:(((x % 2) * 2 ^ k:Int) != 0) = true:=by rw [hodd]; simp; lia
   have happ:X1 P (.expr (.meth (.slot 1) "append" [.meth (.imm (.ref ga)) "get" [.slot 3,.call (.imm (.builtin "hex")) [.slot 3] []]])) ⟨[some (.int (x * 2 ^ k)),some (.ref R0.length 0),some (.int (k:Nat)),some (.int (2 ^ k))],R0 ++ [[.list (ws.map .str)]]⟩ .next ⟨[some (.int (x * 2 ^ k)),some (.ref R0.length 0),some (.int (k:Nat)),some (.int (2 ^ k))],R0 ++ [[.list ((ws ++ [nm k]).map .str)]]⟩:=by
    refine X1_expr (v:=.imm .none) (E_meth (E_slot rfl) methOk_last (Es_cons (E_meth (v:=.str (nm k)) (st':=⟨[some (.int (x * 2 ^ k)),some (.ref R0.length 0),some (.int (k:Nat)),some (.int (2 ^ k))],R0 ++ [[.list (ws.map .str)]]⟩) E_imm ?_ (Es_cons (E_slot rfl) (Es_cons (E_call E_imm (Es_cons (E_slot rfl) Es_nil) Ek_nil (Ap_bi (hex_bi h2k))) Es_nil)) ?_) Es_nil) ?_)
    ·simp only [methOk,listB,getOk,hG]; rfl
    ·have hn:("get" : Str) = ("get" : Str):=rfl
     simp only [methV,methL,methJ,methG,listV,arg1,arg2,intV,seqV,hG]
     rw [if_pos trivial,kv_get k (by lia)]
     unfold nm
     by_cases h10:k < 10
     ·simp only [getK,h10,if_true]
     ·simp only [getK,h10,if_false]
    ·rw [List.map_append]
     exact app_last hl rfl
   have hxor:X1 P (.augS 0 .BitXor (.slot 3)) ⟨[some (.int (x * 2 ^ k)),some (.ref R0.length 0),some (.int (k:Nat)),some (.int (2 ^ k))],R0 ++ [[.list ((ws ++ [nm k]).map .str)]]⟩ .next ⟨[some (.int ((x / 2) * 2 ^ (k + 1))),some (.ref R0.length 0),some (.int (k:Nat)),some (.int (2 ^ k))],R0 ++ [[.list ((ws ++ [nm k]).map .str)]]⟩:=by
    rw [<- xor_bit x k hodd]
    exact X1_augS' rfl (E_slot rfl) rfl (by simp) rfl
   have hp1:=pow_pos2 (k + 1)
   have htn:T P 8 (.un .Not (.slot 0)) ⟨[some (.int ((x / 2) * 2 ^ (k + 1))),some (.ref R0.length 0),some (.int (k:Nat)),some (.int (2 ^ k))],R0 ++ [[.list ((ws ++ [nm k]).map .str)]]⟩ (!(((x / 2) * 2 ^ (k + 1):Int) != 0)) ⟨[some (.int ((x / 2) * 2 ^ (k + 1))),some (.ref R0.length 0),some (.int (k:Nat)),some (.int (2 ^ k))],R0 ++ [[.list ((ws ++ [nm k]).map .str)]]⟩:=
    T_not (T_val (E_slot rfl) rfl rfl)
   by_cases hz:x / 2 = 0
   ·have e:ws ++ flagW k (m + 1) x = ws ++ [nm k]:=by
     unfold flagW
     rw [if_pos hodd,if_pos hz]
    rw [e]
    exact ⟨[some (.int ((x / 2) * 2 ^ (k + 1))),some (.ref R0.length 0),some (.int (k:Nat)),some (.int (2 ^ k))],F_brk hyield (As_slot' (by simp) rfl) (X_next ha1 (X_brk (X1_iteT' ht htr (X_next happ (X_next hxor (X_brk (X1_iteT' htn (by rw [hz]; simp) (X_brk X1_brk)))))))),rfl⟩
   ·have hxb:=hx.next
    obtain ⟨ρ2,ih,hρ⟩:=pf_loop hG m (k + 1) (x / 2) (ws ++ [nm k]) (some (.int (k:Nat))) (some (.int (2 ^ k))) (by lia) hxb (by simp only [List.length_append,List.length_singleton]; lia)
    have hne:¬ (x / 2) * 2 ^ (k + 1) = 0:=fun h=>(Int.mul_eq_zero.mp h).elim hz (by lia)
    refine ⟨ρ2,F_on hyield (As_slot' (by simp) rfl) (X_next ha1 (X_one (X1_iteT' ht htr (X_next happ (X_next hxor (X_one (X1_iteF' htn (by simpa using hne) X_nil))))))) ?_,hρ⟩
    unfold flagW
    rw [if_pos hodd,if_neg hz,show ws ++ nm k :: flagW (k + 1) m (x / 2) = (ws ++ [nm k]) ++ flagW (k + 1) m (x / 2) by simp]
    exact ih
  ·have htr:(((x % 2) * 2 ^ k:Int) != 0) = false:=by
    have:x % 2 = 0:=by lia
    rw [this]; simp
   have hxb:=hx.next
   obtain ⟨ρ2,ih,hρ⟩:=pf_loop hG m (k + 1) (x / 2) ws (some (.int (k:Nat))) (some (.int (2 ^ k))) (by lia) hxb (by lia)
   rw [<- half_mul x k hodd] at ih
   refine ⟨ρ2,F_on hyield (As_slot' (by simp) rfl) (X_next ha1 (X_one (X1_iteF' ht htr X_nil))) ?_,hρ⟩
   unfold flagW
   rw [if_neg hodd]
   exact ih
theorem flagW_len:∀ m k x,(flagW k m x).length <= m + 1
 | 0,k,x=>by simp [flagW]
 | m + 1,k,x=>by
  unfold flagW
  split
  ·split
   ·simp
   ·exact Nat.succ_le_succ (flagW_len m (k + 1) (x / 2))
  ·exact Nat.le_succ_of_le (flagW_len m (k + 1) (x / 2))
theorem flagW_each:∀ m k x,k + m = 32->Bd k (x * 2 ^ k)->∀ w ∈ flagW k m x,w.length <= 67
 | 0,k,x,hk,hx,w,hw=>by
  unfold flagW at hw
  rcases List.mem_singleton.mp hw with rfl
  exact hex_len (hx.abs (by lia))
 | m + 1,k,x,hk,hx,w,hw=>by
  unfold flagW at hw
  split at hw
  ·rcases List.mem_cons.mp hw with rfl | hw
   ·exact nm_len k (by lia)
   ·split at hw
    ·cases hw
    ·exact flagW_each m (k + 1) (x / 2) (by lia) hx.next w hw
  ·exact flagW_each m (k + 1) (x / 2) (by lia) hx.next w hw
theorem joinOk_small {ss:List Str} (hl:ss.length <= 1000) (he:∀ s ∈ ss,s.length <= 1000):JoinOk (", " : Str) ss = true:=by
 unfold JoinOk Builtin.Str.tooLong
 rw [List.foldl_toArray]
 have key:∀ (l:List Str) (a:Nat),(∀ s ∈ l,s.length <= 1000)->l.foldl (fun x y=>x + y.length + (", " : Str).length) a <= a + l.length * 1002:=by
  intro l
  induction l with
  | nil=>intro a _; simp
  | cons s l ih=>
   intro a h
   rw [List.foldl_cons]
   have h1:=h s (.head _)
   have h2:=ih (a + s.length + (", " : Str).length) fun y m=>h y (.tail _ m)
   have h3:(", " : Str).length = 2:=by decide +kernel
   rw [h3] at h2 ⊢
   simp only [List.length_cons]
   lia
 have:=key ss 0 he
 have hs:=sizeLine_eq
 simp
 lia
theorem join_last {ρ:List (Option V)} {R0:List (List AObj)} {ws:List Str} {G:Pg} (hl:ws.length <= 1000) (he:∀ s ∈ ws,s.length <= 1000) :
  methV G ⟨ρ,R0 ++ [[.list (ws.map .str)]]⟩ (.str ", ") "join" [.ref R0.length 0] = some (.str (Txt.join ", " ws),⟨ρ,R0 ++ [[.list (ws.map .str)]]⟩):=by
 have ho:St.obj ⟨ρ,R0 ++ [[.list (ws.map .str)]]⟩ R0.length 0 = some (.list (ws.map .str)):=by rw [obj_last]; rfl
 simp only [methV,methL,methJ,methG,listV,arg1,arg2,intV,seqV,seqOf,ho,strsOf_map]
 rw [if_pos trivial,if_pos (joinOk_small hl he)]
theorem Bd_of {x:Int} (h:x.natAbs < 9223372036854775808):Bd 0 (x * 2 ^ 0):=by
 unfold Bd
 simp only [Int.pow_zero,Int.mul_one]
 omega
theorem PF_call {P:Pg} {ad ga:Addr} (hG:P.gds.lookup ga = some kv10) {st:St} {x:Int} (hR:st.R.length < 100) (hx:x.natAbs < 9223372036854775808):Call P (fPF ad ga) [.int x] [] st (.str (Txt.join ", " (flagW 0 32 x))) st:=by
 obtain ⟨ρ2,hl,hρ⟩:=pf_loop (P:=P) hG (R0:=st.R) 32 0 x [] none none rfl (Bd_of hx) (by simp)
 have hle:=flagW_len 32 0 x
 have hea:=flagW_each 32 0 x rfl (Bd_of hx)
 refine Call_ret (ρ2:=ρ2) (R2:=st.R) (reg:=[.list ((flagW 0 32 x).map .str)]) (v:=.str (Txt.join ", " (flagW 0 32 x))) hR rfl ?_ rfl
 show X P (bPF ga) ⟨[some (.int x),none,none,none],st.R ++ [[]]⟩ _ _
 refine X_next (st1:=⟨[some (.int x),some (.ref st.R.length 0),none,none],st.R ++ [[.list []]]⟩) (X1_assign (E_lst Es_nil (v:=.ref st.R.length 0) (st2:=⟨[some (.int x),none,none,none],st.R ++ [[.list []]]⟩) ?_) (As_slot' (by simp) rfl)) ?_
 ·simp [mkL,St.alloc]
 ·have hr:=mkIt_range ⟨[some (.int x),some (.ref st.R.length 0),none,none],st.R ++ [[.list []]]⟩ 32 (by decide)
  rw [List.range_eq_range'] at hr
  rw [List.nil_append] at hl
  rw [show (x * 2 ^ 0:Int) = x by simp] at hl
  refine X_next (X1_for (I_val (E_call E_imm (Es_cons E_int Es_nil) Ek_nil (Ap_ty rfl)) hr) hl) (X_ret (X1_ret (E_meth E_str rfl (Es_cons (E_slot hρ) Es_nil) (join_last (by lia) fun s m=>Nat.le_trans (hea s m) (by decide)))))
end
section
noncomputable def hasBit (x:Int) (i:Nat):Bool:=(x / 2 ^ i % 2:Int) != 0
noncomputable def wordsOf' (x:Int):List Str:=((List.range 32).filter (hasBit x)).map nm
theorem shr_nat (x:Int) (i:Nat):binI .RShift x (i:Int) = some (x / 2 ^ i):=by
 simp only [bI_mul,bI_fdiv,bI_mod,bI_pow,bI_shl,bI_shr,bI_and,bI_or,bI_xor,Int.ofNat_nonneg,decide_true,if_true,Int.toNat_natCast]
 rw [Int.fdiv_eq_ediv_of_nonneg _ (by have:=pow_pos2 i; lia)]
theorem words_comp {P:Pg} {ρ0:List (Option V)} {R:List (List AObj)} {x:Int} {b:Nat} (h0:ρ0[0]? = some (some (.int x))) (h1:ρ0[1]? = some (some (.lst (nmL.map .str)))) (hb:ρ0.length = b) :
  E P (.comp false b 2 [.mk (.slot (b + 1)) (.val (.call (.imm (.type "range")) [.const (.int 32)] [])) [.bin .BitAnd (.bin .RShift (.slot 0) (.slot (b + 1)) false) (.const (.int 1)) false]] (.ite (.cmp (.slot (b + 1)) [.Lt] [.const (.int 10)]) (.sub (.slot 1) (.slot (b + 1))) (.call (.imm (.builtin "hex")) [.bin .LShift (.const (.int 1)) (.slot (b + 1)) false] [])))
   ⟨ρ0,R⟩ (.lst ((wordsOf' x).map .str)) ⟨ρ0,R⟩:=by
 unfold wordsOf'
 rw [List.map_map]
 have hr:=mkIt_range ⟨ρ0,R⟩ 32 (by decide)
 refine E_compP (f:=fun i:Nat=>V.int (i:Nat)) (xs:=List.range 32) (I_val (E_call E_imm (Es_cons E_int Es_nil) Ek_nil (Ap_ty rfl)) hr) hb (yields_seq _).R (by decide) fun i hi junk hj=>?_
 exact len2_e hj fun j0 j1=>by
  have hi32:i < 32:=List.mem_range.mp hi
  have hb2:2 <= b:=by
   rw [<- hb]
   have:=(List.getElem?_eq_some_iff.mp h1).1
   lia
  have g0:∀ z,(ρ0 ++ [j0,z])[0]? = some (some (.int x)):=fun z=>by rw [List.getElem?_append_left (by lia)]; exact h0
  have g1:∀ z,(ρ0 ++ [j0,z])[1]? = some (some (.lst (nmL.map .str))):=fun z=>by rw [List.getElem?_append_left (by lia)]; exact h1
  have gb:∀ z:Option V,(ρ0 ++ [j0,z])[b + 1]? = some z:=fun z=>by rw [List.getElem?_append_right (by lia),show b + 1 - ρ0.length = 1 by lia]; rfl
  refine ⟨[j0,some (.int (i:Nat))],rfl,As_slot' (by simp; lia) ?_,Ifs_one ?_,fun u_=>?_⟩
  ·rw [List.set_append_right _ _ (by lia),show b + 1 - ρ0.length = 1 by lia]; rfl
  ·refine T_val (E_binI (E_binI (E_slot (g0 _)) (E_slot (gb _)) (shr_nat x i)) E_int (z:=x / 2 ^ i % 2) ?_) rfl rfl
   simp only [bI_mul,bI_fdiv,bI_mod,bI_pow,bI_shl,bI_shr,bI_and,bI_or,bI_xor,bitAnd_m1]
  ·have hlt:T P 8 (.cmp (.slot (b + 1)) [.Lt] [.const (.int 10)]) ⟨ρ0 ++ [j0,some (.int (i:Nat))],R⟩ (decide ((i:Int) < 10)) ⟨ρ0 ++ [j0,some (.int (i:Nat))],R⟩:=T_cmp1 (E_slot (gb _)) E_int rfl
   by_cases h10:i < 10
   ·have hd:decide ((i:Int) < 10) = true:=by simpa using (by lia:(i:Int) < 10)
    rw [hd] at hlt
    refine E_iteT hlt (E_sub (E_slot (g1 _)) (E_slot (gb _)) (sub_seq (vs:=nmL.map .str) rfl (by decide) ?_))
    show _ = some (V.str (nm i))
    have hl:nmL.length = 10:=rfl
    unfold nm
    rw [if_pos h10,List.getElem?_map,List.getD_eq_getElem?_getD,List.getElem?_eq_getElem (by lia)]
    rfl
   ·have hd:decide ((i:Int) < 10) = false:=by simpa using (by lia:¬ (i:Int) < 10)
    rw [hd] at hlt
    refine E_iteF hlt (E_call E_imm (Es_cons (E_binI E_int (E_slot (gb _)) (shl1 i (by lia))) Es_nil) Ek_nil (Ap_bi ?_))
    show _ = some (V.str (nm i),_)
    unfold nm
    rw [if_neg h10]
    refine hex_bi ?_
    rw [Int.natAbs_pow]
    exact Nat.lt_of_lt_of_le (Nat.pow_lt_pow_right (by decide) (by lia:i < 64)) (by decide)
theorem bit_some:∀ (m:Nat) (y:Int),0 < y->y < 2 ^ m->∃ i,i < m /\ hasBit y i = true
 | 0,y,h1,h2=>by simp at h2; lia
 | m + 1,y,h1,h2=>by
  by_cases hodd:y % 2 = 1
  ·exact ⟨0,by lia,by unfold hasBit; simp [hodd]⟩
  ·have e:(2:Int) ^ (m + 1) = 2 * 2 ^ m:=by rw [Int.pow_succ]; lia
   obtain ⟨i,hi,hb⟩:=bit_some m (y / 2) (by lia) (by lia)
   refine ⟨i + 1,by lia,?_⟩
   unfold hasBit at *
   rw [Int.pow_succ',<- Int.ediv_ediv_of_nonneg (by decide)]
   exact hb
theorem flagW_eq:∀ (m k:Nat) (x:Int),flagW k m x = ((List.range m).filter (hasBit x)).map (fun i=>nm (k + i)) ++
  (if x / 2 ^ m ≠ 0 ∨ (List.range m).filter (hasBit x) = [] then [hexT (x / 2 ^ m * 2 ^ (k + m))] else [])
 | 0,k,x=>by simp [flagW]
 | m + 1,k,x=>by
  have ih:=flagW_eq m (k + 1) (x / 2)
  have hsh:∀ i,hasBit x (i + 1) = hasBit (x / 2) i:=fun i=>by
   unfold hasBit
   rw [Int.pow_succ',<- Int.ediv_ediv_of_nonneg (by decide)]
  have hdiv:x / 2 ^ (m + 1) = x / 2 / 2 ^ m:=by rw [Int.pow_succ',<- Int.ediv_ediv_of_nonneg (by decide)]
  have hrange:(List.range (m + 1)).filter (hasBit x) = (if x % 2 = 1 then [0] else []) ++ ((List.range m).filter (hasBit (x / 2))).map (· + 1):=by
   rw [List.range_succ_eq_map,List.filter_cons,List.filter_map]
   have h0:hasBit x 0 = decide (x % 2 = 1):=by
    unfold hasBit
    simp
    by_cases h:x % 2 = 1
    ·simp [h]
    ·have:x % 2 = 0:=by lia
     simp [this]
   rw [h0]
   have hf:(hasBit x ∘ Nat.succ) = hasBit (x / 2):=funext fun i=>hsh i
   rw [hf]
   by_cases h:x % 2 = 1 <;> simp [h]
  have hmap:((List.range m).filter (hasBit (x / 2))).map (fun i=>nm (k + 1 + i)) = (((List.range m).filter (hasBit (x / 2))).map (· + 1)).map (fun i=>nm (k + i)):=by
   rw [List.map_map]
   apply List.map_congr_left
   intro i _
   show nm (k + 1 + i) = nm (k + (i + 1))
   congr 1; lia
  unfold flagW
  rw [hrange,hdiv,show k + (m + 1) = k + 1 + m by lia]
  by_cases hodd:x % 2 = 1
  ·rw [if_pos hodd,if_pos hodd]
   by_cases hz:x / 2 = 0
   ·rw [if_pos hz,hz]
    have:(List.range m).filter (hasBit 0) = []:=by
     rw [List.filter_eq_nil_iff]
     intro i _
     simp [hasBit]
    rw [this]
    simp
   ·rw [if_neg hz,ih,hmap]
    simp only [List.map_append,List.map_cons,List.map_nil,List.cons_append,List.nil_append,Nat.add_zero]
    congr 2
    by_cases hh:x / 2 / 2 ^ m = 0
    ·have hne:(List.range m).filter (hasBit (x / 2)) ≠ []:=by
      have hp:=pow_pos2 m
      have h1:0 <= x / 2 /\ x / 2 < 2 ^ m:=by
       have a1:=Int.emod_nonneg (x / 2) (show (2:Int) ^ m ≠ 0 by lia)
       have a2:=Int.emod_lt_of_pos (x / 2) hp
       have a3:=Int.emod_add_mul_ediv (x / 2) (2 ^ m)
       rw [hh] at a3
       simp at a3
       lia
      obtain ⟨i,hi,hb⟩:=bit_some m (x / 2) (by lia) h1.2
      intro he
      have:=List.mem_filter.mpr ⟨List.mem_range.mpr hi,hb⟩
      rw [he] at this; cases this
     simp [hh,hne]
    ·simp [hh]
  ·rw [if_neg hodd,if_neg hodd,ih,hmap,List.nil_append]
   congr 1
   by_cases hh:x / 2 / 2 ^ m = 0
   ·simp [hh]
   ·simp [hh]
end
section
noncomputable def namesE:ME:=.lst [.const (.str "OPTIMIZED"),.const (.str "NEWLOCALS"),.const (.str "VARARGS"),.const (.str "VARKEYWORDS"),.const (.str "NESTED"),.const (.str "GENERATOR"),.const (.str "NOFREE"),.const (.str "COROUTINE"),.const (.str "ITERABLE_COROUTINE"),.const (.str "ASYNC_GENERATOR")] false
noncomputable def wordsE (b:Nat):ME:=.comp false b 2 [.mk (.slot (b + 1)) (.val (.call (.imm (.type "range")) [.const (.int 32)] [])) [.bin .BitAnd (.bin .RShift (.slot 0) (.slot (b + 1)) false) (.const (.int 1)) false]] (.ite (.cmp (.slot (b + 1)) [.Lt] [.const (.int 10)]) (.sub (.slot 1) (.slot (b + 1))) (.call (.imm (.builtin "hex")) [.bin .LShift (.const (.int 1)) (.slot (b + 1)) false] []))
theorem names_E {P:Pg} {st:St}:E P namesE st (.lst (nmL.map .str)) st:=
 E_lst (Es_cons E_str (Es_cons E_str (Es_cons E_str (Es_cons E_str (Es_cons E_str (Es_cons E_str (Es_cons E_str (Es_cons E_str (Es_cons E_str (Es_cons E_str Es_nil)))))))))) rfl
theorem join_lst {st:St} {ws:List Str} {G:Pg} (hl:ws.length <= 1000) (he:∀ s ∈ ws,s.length <= 1000):methV G st (.str ", ") "join" [.lst (ws.map .str)] = some (.str (Txt.join ", " ws),st):=by
 simp only [methV,methL,methJ,methG,listV,arg1,arg2,intV,seqV,seqOf,strsOf_map]
 rw [if_pos trivial,if_pos (joinOk_small hl he)]
theorem words_len (x:Int):(wordsOf' x).length <= 32:=by
 unfold wordsOf'
 rw [List.length_map]
 exact Nat.le_trans (List.length_filter_le _ _) (by simp)
end
section
noncomputable def oct (m d e:Nat):Int:=(d:Int) + 64 * m + 128 * e
noncomputable def encO:List (Nat × Nat)->List Int
 | []=>[]
 | [(d,e)]=>[oct 0 d e]
 | (d,e) :: c :: r=>oct 1 d e :: encO (c :: r)
noncomputable def more (cs:List (Nat × Nat)):Nat:=if cs.isEmpty then 0 else 1
theorem oct63 {m d e:Nat} (hd:d < 64):Builtin.bitAnd (oct m d e) 63 = (d:Int):=by rw [bitAnd_m6]; unfold oct; lia
theorem oct64 {m d e:Nat} (hd:d < 64) (hm:m <= 1):Builtin.bitAnd (oct m d e) 64 = 64 * (m:Int):=by
 have h:=kbt_bit (oct m d e) 6
 rw [show (2:Int) ^ 6 = 64 by decide] at h
 rw [h]; unfold oct; lia
theorem and_low (v d:Nat) (hd:d < 64):(v * 64) &&& d = 0:=by
 apply Nat.eq_of_testBit_eq
 intro j
 rw [Nat.testBit_and,Nat.zero_testBit,show (64:Nat) = 2 ^ 6 by decide,Nat.mul_comm,Nat.testBit_two_pow_mul]
 by_cases h:6 <= j
 ·have:d.testBit j = false:=Nat.testBit_lt_two_pow (Nat.lt_of_lt_of_le hd (by have:=Nat.pow_le_pow_right (n:=2) (by decide) h; simpa using this))
  simp [this]
 ·simp [h]
theorem or_low (v d:Nat) (hd:d < 64):Builtin.bitOr ((v * 64:Nat):Int) (d:Int) = ((v * 64 + d:Nat):Int):=by
 rw [bitOr_and,bitAnd_pp (by lia) (by lia)]
 simp only [Int.toNat_natCast]
 rw [and_low v d hd]; lia
noncomputable def pvCond:ME:=.bin .BitAnd (.slot 1) (.const (.int 64)) false
noncomputable def pvBody:List MS:=[.augS 2 .LShift (.const (.int 6)),.assign (.slot 1) (.call (.imm (.builtin "next")) [.slot 0] []),.augS 2 .BitOr (.bin .BitAnd (.slot 1) (.const (.int 63)) false)]
noncomputable def bPV:List MS:=[
 .assign (.slot 1) (.call (.imm (.builtin "next")) [.slot 0] []),
 .assign (.slot 2) (.bin .BitAnd (.slot 1) (.const (.int 63)) false),
 .whil pvCond pvBody [],
 .ret (.slot 2)]
noncomputable def fPV (a:Addr):Fn:={ addr:=a,np:=1,dfl:=[],key:=false,ns:=3,body:=bPV }
noncomputable def valO (v:Nat) (cs:List (Nat × Nat)):Nat:=cs.foldl (fun v c=>v * 64 + c.1) v
theorem next_up {ρ:List (Option V)} {R:List (List AObj)} {l i:Nat} {v:V} {vs:List V} {o:AObj} (h:St.obj ⟨[],R⟩ l i = some o):biV ⟨ρ,up R l i (.iter (v :: vs))⟩ "next" [.ref l i] = some (v,⟨ρ,up R l i (.iter vs)⟩):=by
 have ho:St.obj ⟨ρ,up R l i (.iter (v :: vs))⟩ l i = some (.iter (v :: vs)):=obj_up h
 show nextO _ _ _ _ = _
 rw [ho]
 show some (v,St.setObj _ _ _ _) = _
 rw [setObj_up,up_up]
theorem shl6 {v:Nat} (h:v < 2 ^ 60):binI .LShift (v:Int) 6 = some ((v * 64:Nat):Int):=by
 have hs:(decide ((0:Int) <= 6) && decide ((6:Int) <= 1000000) && small 64 (v:Int)) = true:=by
  simp [small]; lia
 simp only [bI_mul,bI_fdiv,bI_mod,bI_pow,bI_shl,bI_shr,bI_and,bI_or,bI_xor,hs,if_true]
 congr 1
theorem pv_loop {P:Pg} {R:List (List AObj)} {l i:Nat} {o:AObj} (h:St.obj ⟨[],R⟩ l i = some o) {rest:List Int}:∀ (cs:List (Nat × Nat)) (v d e:Nat),d < 64->(∀ c ∈ cs,c.1 < 64)->v < 2 ^ (6 * (9 - cs.length))->cs.length <= 8->
  ∃ b,X P [.whilGo pvCond pvBody []] ⟨[some (.ref l i),some (.int (oct (more cs) d e)),some (.int v)],up R l i (.iter ((encO cs ++ rest).map .int))⟩ .next ⟨[some (.ref l i),some b,some (.int (valO v cs:Nat))],up R l i (.iter (rest.map .int))⟩
 | [],v,d,e,hd,_,hv,_=>⟨_,W_end' (r:=false) (T_val (E_binI (E_slot rfl) E_int rfl) (by
   show some _ = some false
   congr 1
   rw [show more [] = 0 from rfl,oct64 hd (by decide)]; rfl) rfl) rfl X_nil⟩
 | (d',e') :: cs,v,d,e,hd,hc,hv,hl=>by
  have hd':d' < 64:=hc (d',e') (.head _)
  simp only [List.length_cons] at hv hl
  have hv60:v < 2 ^ 60:=Nat.lt_of_lt_of_le hv (Nat.pow_le_pow_right (by decide) (by lia))
  have hv':v * 64 + d' < 2 ^ (6 * (9 - cs.length)):=by
   have e1:6 * (9 - cs.length) = 6 * (9 - (cs.length + 1)) + 6:=by lia
   rw [e1,Nat.pow_add]
   have:(2:Nat) ^ 6 = 64:=by decide
   lia
  obtain ⟨b,ih⟩:=pv_loop h cs (v * 64 + d') d' e' hd' (fun c m=>hc c (.tail _ m)) hv' (by lia)
  refine ⟨b,?_⟩
  have henc:encO ((d',e') :: cs) = oct (more cs) d' e' :: encO cs:=by
   cases cs with
   | nil=>rfl
   | cons c r=>rfl
  rw [henc]
  refine W_on' (r:=true) (T_val (E_binI (E_slot rfl) E_int rfl) (by
   show some _ = some true
   congr 1
   rw [show more ((d',e') :: cs) = 1 from rfl,oct64 hd (by decide)]; rfl) rfl) rfl ?_ ih
  refine X_next (st1:=⟨[some (.ref l i),some (.int (oct 1 d e)),some (.int (v * 64:Nat))],up R l i (.iter ((oct (more cs) d' e' :: encO cs ++ rest).map .int))⟩) ?_ (X_next (st1:=⟨[some (.ref l i),some (.int (oct (more cs) d' e')),some (.int (v * 64:Nat))],up R l i (.iter ((encO cs ++ rest).map .int))⟩) ?_ (X_one ?_))
  ·refine X1_augS' rfl E_int (new:=.int (v * 64:Nat)) ?_ (by simp) rfl
   simp only [augV,augL,binN,listV,seqV,intV,shl6 hv60]
  ·exact X1_assign (E_call E_imm (Es_cons (E_slot rfl) Es_nil) Ek_nil (Ap_bi (next_up h))) (As_slot' (by simp) rfl)
  ·refine X1_augS' rfl (E_binI (E_slot rfl) E_int (z:=(d':Int)) ?_) (new:=.int (v * 64 + d':Nat)) ?_ (by simp) rfl
   ·simp only [bI_mul,bI_fdiv,bI_mod,bI_pow,bI_shl,bI_shr,bI_and,bI_or,bI_xor,oct63 hd']
   ·simp only [augV,augL,binN,listV,seqV,intV,bI_mul,bI_fdiv,bI_mod,bI_pow,bI_shl,bI_shr,bI_and,bI_or,bI_xor,or_low v d' hd']
theorem PV_call {P:Pg} {ad:Addr} {st:St} {l i:Nat} {rest:List Int} {cs:List (Nat × Nat)} {d e:Nat} (hR:st.R.length < 100) (ho:st.obj l i = some (.iter ((encO ((d,e) :: cs) ++ rest).map .int))) (hd:d < 64) (hc:∀ c ∈ cs,c.1 < 64) (hl:cs.length <= 8) :
  Call P (fPV ad) [.ref l i] [] st (.int (valO d cs:Nat)) ⟨st.ρ,up st.R l i (.iter (rest.map .int))⟩:=by
 have hlt:=obj_lt ho
 have hoR:St.obj ⟨[],st.R ++ [[]]⟩ l i = some (.iter ((encO ((d,e) :: cs) ++ rest).map .int)):=by rw [obj_app [] st.ρ]; exact ho
 have henc:encO ((d,e) :: cs) = oct (more cs) d e :: encO cs:=by
  cases cs with
  | nil=>rfl
  | cons c r=>rfl
 rw [henc] at hoR
 obtain ⟨b,h⟩:=pv_loop (P:=P) hoR (rest:=rest) cs d d e hd hc (Nat.lt_of_lt_of_le hd (by
  have:=Nat.pow_le_pow_right (n:=2) (by decide) (show 6 <= 6 * (9 - cs.length) by lia)
  simpa using this)) hl
 refine Call_ret (ρ2:=[some (.ref l i),some b,some (.int (valO d cs:Nat))]) (R2:=up st.R l i (.iter (rest.map .int))) (reg:=[]) (v:=.int (valO d cs:Nat)) hR rfl ?_ rfl
 rw [<- up_app _ _ _ _ _ hlt]
 show X P bPV ⟨[some (.ref l i),none,none],st.R ++ [[]]⟩ _ _
 refine X_next (st1:=⟨[some (.ref l i),some (.int (oct (more cs) d e)),none],up (st.R ++ [[]]) l i (.iter ((encO cs ++ rest).map .int))⟩) (X1_assign (E_call E_imm (Es_cons (E_slot rfl) Es_nil) Ek_nil (Ap_bi (v:=.int (oct (more cs) d e)) (st1:=⟨[some (.ref l i),none,none],up (st.R ++ [[]]) l i (.iter ((encO cs ++ rest).map .int))⟩) ?_)) (As_slot' (by simp) rfl)) ?_
 ·have ho2:St.obj ⟨[some (.ref l i),none,none],st.R ++ [[]]⟩ l i = some (.iter ((oct (more cs) d e :: encO cs ++ rest).map .int)):=by rw [obj_ρ _ []]; exact hoR
  show nextO _ _ _ _ = _
  rw [ho2]
  rfl
 ·refine X_next (st1:=⟨[some (.ref l i),some (.int (oct (more cs) d e)),some (.int d)],up (st.R ++ [[]]) l i (.iter ((encO cs ++ rest).map .int))⟩) (X1_assign (E_binI (E_slot rfl) E_int (z:=(d:Int)) ?_) (As_slot' (by simp) rfl)) (X_next (X1_whil h) (X_ret (X1_ret (E_slot rfl))))
  simp only [bI_mul,bI_fdiv,bI_mod,bI_pow,bI_shl,bI_shr,bI_and,bI_or,bI_xor,oct63 hd]
end
section
noncomputable def rdElt:ME:=.bin .BitOr (.bin .BitAnd (.bin .RShift (.slot 2) (.bin .Mult (.const (.int 6)) (.slot 6) false) false) (.const (.int 63)) false) (.const (.int 64)) false
noncomputable def dn:Nat->List Nat
 | 0=>[]
 | k + 1=>(k + 1) :: dn k
theorem dn_len:∀ k,(dn k).length = k
 | 0=>rfl
 | k + 1=>congrArg Nat.succ (dn_len k)
noncomputable def dnE (w:Nat):List ME:=(dn w).map fun p=>.const (.int (p:Nat))
theorem Es_nats {P:Pg} {st:St}:∀ l:List Nat,Es P (l.map fun p=>.const (.int (p:Nat))) st (l.map fun p=>.int (p:Nat)) st
 | []=>Es_nil
 | _ :: l=>Es_cons E_int (Es_nats l)
noncomputable def rdOcts (w:Nat):ME:=.bin .Add (.comp false 5 2 [.mk (.slot 6) (.val (.tup (dnE w))) [.bin .RShift (.slot 2) (.bin .Mult (.const (.int 6)) (.slot 6) false) false]] rdElt) (.lst [.bin .BitAnd (.slot 2) (.const (.int 63)) false] false) false
noncomputable def bRD (pv:Addr) (w:Nat):List MS:=[
 .assign (.slot 1) (.lst [] true),
 .for_ (.slot 2) (.val (.slot 0)) [.augS 1 .Add (rdOcts w)] [],
 .assign (.slot 3) (.call (.imm (.builtin "iter")) [.comp false 5 3 [.mk (.tup [.slot 6,.slot 7]) (.enum (.val (.slot 1))) []] (.bin .Add (.slot 7) (.bin .Mult (.const (.int 128)) (.bin .Mod (.slot 6) (.const (.int 2)) false) false) false)] []),
 .assign (.slot 4) (.comp false 5 2 [.mk (.slot 6) (.val (.slot 0)) []] (.call (.imm (.ref pv)) [.slot 3] [])),
 .readEnd 4 3]
noncomputable def fRD (a pv:Addr) (w:Nat):Fn:={ addr:=a,np:=1,dfl:=[],key:=false,ns:=5,body:=bRD pv w }
noncomputable def hi64 (w n:Nat):List Nat:=((dn w).filter fun p=>((n:Int) / 2 ^ (6 * p):Int) != 0).map fun p=>n / 2 ^ (6 * p) % 64
noncomputable def octsOf (w n:Nat):List Int:=(hi64 w n).map (fun d:Nat=>(d:Int) + 64) ++ [((n % 64:Nat):Int)]
theorem hi_step {n p v:Nat} (hv:v = n / 64 ^ (p + 1)):(if (((n:Int) / 2 ^ (6 * p):Int) != 0) = true then v * 64 + n / 2 ^ (6 * p) % 64 else v) = n / 64 ^ p:=by
 have e:(2:Nat) ^ (6 * p) = 64 ^ p:=by rw [Nat.pow_mul]
 have e2:((n:Int) / 2 ^ (6 * p):Int) = ((n / 64 ^ p:Nat):Int):=by rw [<- e]; simp
 have hd:n / 64 ^ (p + 1) = n / 64 ^ p / 64:=by rw [Nat.pow_succ,Nat.div_div_eq_div_mul]
 rw [e2,e,hv,hd]
 generalize n / 64 ^ p = q
 split
 ·exact Nat.div_add_mod' q 64
 ·rename_i h
  have:q = 0:=by simpa using h
  rw [this]
theorem hi_fold (n:Nat):∀ (w v:Nat),v = n / 64 ^ (w + 1)->(dn w).foldl (fun v p=>if (((n:Int) / 2 ^ (6 * p):Int) != 0) = true then v * 64 + n / 2 ^ (6 * p) % 64 else v) v = n / 64 ^ 1
 | 0,_,h=>h
 | w + 1,_,h=>hi_fold n w _ (hi_step h)
theorem hi64_cases (w n:Nat) (h:n < 64 ^ (w + 1)):valO 0 ((hi64 w n).map fun d=>(d,0)) * 64 + n % 64 = n /\ (hi64 w n).length <= w /\ ∀ d ∈ hi64 w n,d < 64:=by
 refine ⟨?_,?_,?_⟩
 ·have e:valO 0 ((hi64 w n).map fun d=>(d,0)) = n / 64 ^ 1:=by
   unfold hi64 valO
   rw [List.foldl_map,List.foldl_map,List.foldl_filter]
   exact hi_fold n w 0 (Nat.div_eq_of_lt h).symm
  rw [e,Nat.pow_one]
  exact Nat.div_add_mod' n 64
 ·unfold hi64; rw [List.length_map]; exact Nat.le_trans (List.length_filter_le _ _) (Nat.le_of_eq (dn_len w))
 ·intro d hd
  unfold hi64 at hd
  obtain ⟨p,_,rfl⟩:=List.mem_map.mp hd
  exact Nat.mod_lt _ (by decide)
theorem lvl_ints (l:Nat):∀ is:List Int,V.lvlOkL l (is.map .int) = true
 | []=>rfl
 | _ :: is=>lvl_ints l is
theorem rdOcts_E {P:Pg} {w:Nat} (hw:w <= 5) {s0 s1 s3 s4:Option V} {R:List (List AObj)} {n:Nat}:E P (rdOcts w) ⟨[s0,s1,some (.int n),s3,s4],R⟩ (.lst ((octsOf w n).map .int)) ⟨[s0,s1,some (.int n),s3,s4],R⟩:=by
 have hc:E P (.comp false 5 2 [.mk (.slot 6) (.val (.tup (dnE w))) [.bin .RShift (.slot 2) (.bin .Mult (.const (.int 6)) (.slot 6) false) false]] rdElt) ⟨[s0,s1,some (.int n),s3,s4],R⟩ (.lst (((dn w).filter fun p=>((n:Int) / 2 ^ (6 * p):Int) != 0).map fun p=>.int ((n / 2 ^ (6 * p) % 64:Nat) + 64))) ⟨[s0,s1,some (.int n),s3,s4],R⟩:=by
  refine E_compP (f:=fun p:Nat=>V.int (p:Nat)) (xs:=dn w) (I_val (E_tup (Es_nats _)) rfl) rfl (yields_seq _).R (by rw [dn_len]; unfold lim; lia) fun p hp junk hj=>?_
  exact len2_e hj fun j0 j1=>by
   have hs:binI .Mult 6 (p:Int) = some ((6 * p:Nat):Int):=by
    rw [B_mul (by decide)]; simp
   have hsh:E P (.bin .RShift (.slot 2) (.bin .Mult (.const (.int 6)) (.slot 6) false) false) ⟨[s0,s1,some (.int n),s3,s4] ++ [j0,some (.int (p:Nat))],R⟩ (.int ((n:Int) / 2 ^ (6 * p))) ⟨[s0,s1,some (.int n),s3,s4] ++ [j0,some (.int (p:Nat))],R⟩:=
    E_binI (E_slot rfl) (E_binI E_int (E_slot rfl) hs) (shr_nat _ _)
   refine ⟨[j0,some (.int (p:Nat))],rfl,As_slot' (by simp) rfl,Ifs_one (T_val hsh rfl rfl),fun u_=>?_⟩
   refine E_binI (E_binI hsh E_int (z:=((n / 2 ^ (6 * p) % 64:Nat):Int)) ?_) E_int ?_
   ·simp only [bI_mul,bI_fdiv,bI_mod,bI_pow,bI_shl,bI_shr,bI_and,bI_or,bI_xor,bitAnd_m6]; simp
   ·simp only [bI_mul,bI_fdiv,bI_mod,bI_pow,bI_shl,bI_shr,bI_and,bI_or,bI_xor,bitOr_and]
    have hlt:n / 2 ^ (6 * p) % 64 < 64:=Nat.mod_lt _ (by decide)
    have h:=kbt_bit ((n / 2 ^ (6 * p) % 64:Nat):Int) 6
    rw [show (2:Int) ^ 6 = 64 by decide] at h
    rw [h]
    have:((n / 2 ^ (6 * p) % 64:Nat):Int) / 64 = 0:=by lia
    rw [this]; simp
 refine E_bin hc (E_lst (Es_cons (E_binI (E_slot rfl) E_int (z:=((n % 64:Nat):Int)) ?_) Es_nil) rfl) ?_
 ·simp only [bI_mul,bI_fdiv,bI_mod,bI_pow,bI_shl,bI_shr,bI_and,bI_or,bI_xor,bitAnd_m6]; simp
 ·have e:(octsOf w n).map V.int = ((dn w).filter fun p=>((n:Int) / 2 ^ (6 * p):Int) != 0).map (fun p=>V.int ((n / 2 ^ (6 * p) % 64:Nat) + 64)) ++ [V.int ((n % 64:Nat):Int)]:=by
   unfold octsOf hi64
   rw [List.map_append,List.map_map,List.map_map]; rfl
  rw [e]
  simp only [binV,binS,binB,binN,seqV,bytesV,intV,seqOf]
  unfold mkL
  rw [if_pos]
  ·rfl
  ·have:((dn w).filter fun p=>((n:Int) / 2 ^ (6 * p):Int) != 0).length <= w:=Nat.le_trans (List.length_filter_le _ _) (Nat.le_of_eq (dn_len w))
   simp only [List.length_append,List.length_map,List.length_singleton]
   unfold lim; lia
theorem octs_len (w n:Nat):(octsOf w n).length <= w + 1:=by
 unfold octsOf hi64
 have:((dn w).filter fun p=>((n:Int) / 2 ^ (6 * p):Int) != 0).length <= w:=Nat.le_trans (List.length_filter_le _ _) (Nat.le_of_eq (dn_len w))
 simp only [List.length_append,List.length_map,List.length_singleton]; lia
noncomputable def mark (k:Nat) (os:List Int):List Int:=(os.zipIdx k).map fun p=>p.1 + 128 * ((p.2 % 2:Nat):Int)
theorem mark_app (k:Nat) (a b:List Int):mark k (a ++ b) = mark k a ++ mark (k + a.length) b:=by
 unfold mark; rw [List.zipIdx_append,List.map_append]
theorem mark_len (k:Nat) (a:List Int):(mark k a).length = a.length:=by unfold mark; simp
theorem mark_octs (w n k:Nat):∃ e cs,(∃ d,mark k (octsOf w n) = encO ((d,e) :: cs) /\ (∀ v,valO v ((d,e) :: cs) = valO v ((hi64 w n).map fun d=>(d,0)) * 64 + n % 64) /\ d < 64) /\ (∀ c ∈ cs,c.1 < 64) /\ cs.length <= w:=by
 have key:∀ (ds:List Nat) (k:Nat),(∀ d ∈ ds,d < 64)->∃ cs:List (Nat × Nat),cs ≠ [] /\ mark k (ds.map (fun d:Nat=>(d:Int) + 64) ++ [((n % 64:Nat):Int)]) = encO cs /\ (∀ v,valO v cs = valO v (ds.map fun d=>(d,0)) * 64 + n % 64) /\ (∀ c ∈ cs,c.1 < 64) /\ cs.length = ds.length + 1:=by
  intro ds
  induction ds with
  | nil=>
   intro k _
   refine ⟨[(n % 64,k % 2)],by simp,?_,fun v=>rfl,fun c m=>?_,rfl⟩
   ·unfold mark encO oct; simp
   ·rcases List.mem_singleton.mp m with rfl; exact Nat.mod_lt _ (by decide)
  | cons d ds ih=>
   intro k hd
   obtain ⟨cs,h0,h1,h2,h3,h4⟩:=ih (k + 1) fun x m=>hd x (.tail _ m)
   cases cs with
   | nil=>exact absurd rfl h0
   | cons c r=>
    refine ⟨(d,k % 2) :: c :: r,by simp,?_,fun v=>?_,fun x m=>?_,by rw [List.length_cons,h4]; rfl⟩
    ·have:encO ((d,k % 2) :: c :: r) = oct 1 d (k % 2) :: encO (c :: r):=rfl
     rw [this,<- h1]
     unfold mark oct
     simp
    ·show valO (v * 64 + d) (c :: r) = valO (v * 64 + d) (ds.map fun d=>(d,0)) * 64 + n % 64
     exact h2 _
    ·rcases List.mem_cons.mp m with rfl | m
     ·exact hd d (.head _)
     ·exact h3 x m
 have hh:∀ d ∈ hi64 w n,d < 64:=fun d hd=>by
  unfold hi64 at hd
  obtain ⟨p,_,rfl⟩:=List.mem_map.mp hd
  exact Nat.mod_lt _ (by decide)
 have hl:(hi64 w n).length <= w:=by unfold hi64; rw [List.length_map]; exact Nat.le_trans (List.length_filter_le _ _) (Nat.le_of_eq (dn_len w))
 obtain ⟨cs,h0,h1,h2,h3,h4⟩:=key (hi64 w n) k hh
 cases cs with
 | nil=>exact absurd rfl h0
 | cons c r=>
  obtain ⟨d,e⟩:=c
  refine ⟨e,r,⟨d,h1,h2,h3 (d,e) (.head _)⟩,fun c m=>h3 c (.tail _ m),by simp at h4; lia⟩
theorem obj_last1 (ρ:List (Option V)) (R0:List (List AObj)) (a b:AObj):St.obj ⟨ρ,R0 ++ [[a,b]]⟩ R0.length 1 = some b:=by rw [obj_last]; rfl
theorem up_last1 (R0:List (List AObj)) (a b c:AObj):up (R0 ++ [[a,b]]) R0.length 1 c = R0 ++ [[a,c]]:=by rw [up_last]; rfl
theorem told_C {P:Pg} {pv:Addr} {w:Nat} (hw:w <= 5) (hf:P.fns.find? (fun f=>f.addr == pv) = some (fPV pv)) {R0:List (List AObj)} {A:AObj} {s0 s1 s2 s4:Option V} (hR:R0.length < 90):∀ (ns:List Nat) (k:Nat),(∀ n ∈ ns,n < 64 ^ (w + 1))->∀ j0 j1:Option V,
  ∃ j,C P [.mk (.slot 6) (.val (.slot 0)) []] (.call (.imm (.ref pv)) [.slot 3] []) (.seq (ns.map fun n=>.int (n:Nat))) ⟨[s0,s1,s2,some (.ref R0.length 1),s4,j0,j1],R0 ++ [[A,.iter ((mark k (ns.flatMap (octsOf w))).map .int)]]⟩ (ns.map fun n=>.int (n:Nat)) ⟨[s0,s1,s2,some (.ref R0.length 1),s4,j0,j],R0 ++ [[A,.iter []]]⟩
 | [],k,_,j0,j1=>⟨j1,C_end rfl⟩
 | n :: ns,k,hn,j0,j1=>by
  obtain ⟨j,ih⟩:=told_C hw hf hR ns (k + (octsOf w n).length) (fun m h=>hn m (.tail _ h)) j0 (some (.int (n:Nat)))
  refine ⟨j,?_⟩
  obtain ⟨e,cs,⟨d,h1,h2,h3⟩,h4,h5⟩:=mark_octs w n k
  have hval:=(hi64_cases w n (hn n (.head _))).1
  have hm:mark k ((n :: ns).flatMap (octsOf w)) = encO ((d,e) :: cs) ++ mark (k + (octsOf w n).length) (ns.flatMap (octsOf w)):=by
   rw [List.flatMap_cons,mark_app,h1]
  rw [hm]
  have hcall:=PV_call (P:=P) (ad:=pv) (st:=⟨[s0,s1,s2,some (.ref R0.length 1),s4,j0,some (.int (n:Nat))],R0 ++ [[A,.iter ((encO ((d,e) :: cs) ++ mark (k + (octsOf w n).length) (ns.flatMap (octsOf w))).map .int)]]⟩) (l:=R0.length) (i:=1) (by simp; lia) (obj_last1 ..) h3 h4 (by lia)
  rw [up_last1] at hcall
  have hv0:valO d cs = n:=by
   have:=h2 0
   rw [show valO 0 ((d,e) :: cs) = valO d cs by unfold valO; simp] at this
   rw [this]; exact hval
  rw [hv0] at hcall
  exact C_on rfl (As_slot' (by simp) rfl) Ifs_nil (E_call E_imm (Es_cons (E_slot rfl) Es_nil) Ek_nil (Ap_fn hf hcall)) ih
theorem RD_call {P:Pg} {ad pv:Addr} {w:Nat} (hw:w <= 5) (hf:P.fns.find? (fun f=>f.addr == pv) = some (fPV pv)) {st:St} {ns:List Nat} (hR:st.R.length < 80) (hn:∀ n ∈ ns,n < 64 ^ (w + 1)) (hl:ns.length <= 1000):Call P (fRD ad pv w) [.lst (ns.map fun n=>.int (n:Nat))] [] st (.lst (ns.map fun n=>.int (n:Nat))) st:=by
 let Rep:List Int->St->Prop:=fun os s=>∃ s2,s = ⟨[some (.lst (ns.map fun n=>.int (n:Nat))),some (.ref st.R.length 0),s2,none,none],st.R ++ [[.list (os.map .int)]]⟩ /\ os.length <= 6 * 1000 + 6
 have hfold:∀ (l:List Nat) (os:List Int),l.foldl (fun os n=>os ++ octsOf w n) os = os ++ l.flatMap (octsOf w):=by
  intro l
  induction l with
  | nil=>intro os; simp
  | cons n l ih=>intro os; rw [List.foldl_cons,ih,List.flatMap_cons,List.append_assoc]
 have hflen:∀ l:List Nat,(l.flatMap (octsOf w)).length <= 6 * l.length:=by
  intro l
  induction l with
  | nil=>simp
  | cons n l ih=>rw [List.flatMap_cons,List.length_append,List.length_cons]; have:=octs_len w n; lia
 have hloop:∀ (l:List Nat) (os:List Int) (s2:Option V),os.length + 6 * l.length <= 10000->∃ s2',X P [.forGo (.slot 2) (.seq (l.map fun n=>.int (n:Nat))) [.augS 1 .Add (rdOcts w)] []] ⟨[some (.lst (ns.map fun n=>.int (n:Nat))),some (.ref st.R.length 0),s2,none,none],st.R ++ [[.list (os.map .int)]]⟩ .next
   ⟨[some (.lst (ns.map fun n=>.int (n:Nat))),some (.ref st.R.length 0),s2',none,none],st.R ++ [[.list ((os ++ l.flatMap (octsOf w)).map .int)]]⟩:=by
  intro l
  induction l with
  | nil=>intro os s2 _; exact ⟨s2,by rw [List.flatMap_nil,List.append_nil]; exact F_end rfl X_nil⟩
  | cons n l ih=>
   intro os s2 hle
   have ho:=octs_len w n
   simp only [List.length_cons] at hle
   obtain ⟨s2',h⟩:=ih (os ++ octsOf w n) (some (.int (n:Nat))) (by rw [List.length_append]; lia)
   refine ⟨s2',?_⟩
   rw [List.flatMap_cons,<- List.append_assoc]
   have hob:∀ ρ,St.obj ⟨ρ,st.R ++ [[.list (os.map .int)]]⟩ st.R.length 0 = some (.list (os.map .int)):=fun ρ=>by rw [obj_last]; rfl
   have hX1:X1 P (.augS 1 .Add (rdOcts w)) ⟨[some (.lst (ns.map fun n=>.int (n:Nat))),some (.ref st.R.length 0),some (.int (n:Nat)),none,none],st.R ++ [[.list (os.map .int)]]⟩ .next ⟨[some (.lst (ns.map fun n=>.int (n:Nat))),some (.ref st.R.length 0),some (.int (n:Nat)),none,none],st.R ++ [[.list ((os ++ octsOf w n).map .int)]]⟩:=by
    have haug:augV ⟨[some (.lst (ns.map fun n=>.int (n:Nat))),some (.ref st.R.length 0),some (.int (n:Nat)),none,none],st.R ++ [[.list (os.map .int)]]⟩ .Add (.ref st.R.length 0) (.lst ((octsOf w n).map .int)) = some (.ref st.R.length 0,⟨[some (.lst (ns.map fun n=>.int (n:Nat))),some (.ref st.R.length 0),some (.int (n:Nat)),none,none],st.R ++ [[.list ((os ++ octsOf w n).map .int)]]⟩):=by
     simp only [augV,augL,binN,listV,seqV,intV,hob,seqOf,lvl_ints]
     rw [if_pos (by simp; unfold lim; lia)]
     rw [setObj_up,up_last,List.map_append]; rfl
    exact X1_augS (i:=1) (op:=.Add) rfl (rdOcts_E hw) haug (by simp)
   exact F_on rfl (As_slot' (by simp) rfl) (X_one hX1) h
 obtain ⟨s2',hX⟩:=hloop ns [] none (by simp; lia)
 rw [List.nil_append] at hX
 have hfl:=hflen ns
 have hob:∀ ρ,St.obj ⟨ρ,st.R ++ [[.list ((ns.flatMap (octsOf w)).map .int)]]⟩ st.R.length 0 = some (.list ((ns.flatMap (octsOf w)).map .int)):=fun ρ=>by rw [obj_last]; rfl
 have htape:E P (.comp false 5 3 [.mk (.tup [.slot 6,.slot 7]) (.enum (.val (.slot 1))) []] (.bin .Add (.slot 7) (.bin .Mult (.const (.int 128)) (.bin .Mod (.slot 6) (.const (.int 2)) false) false) false)) ⟨[some (.lst (ns.map fun n=>.int (n:Nat))),some (.ref st.R.length 0),s2',none,none],st.R ++ [[.list ((ns.flatMap (octsOf w)).map .int)]]⟩
   (.lst ((mark 0 (ns.flatMap (octsOf w))).map .int)) ⟨[some (.lst (ns.map fun n=>.int (n:Nat))),some (.ref st.R.length 0),s2',none,none],st.R ++ [[.list ((ns.flatMap (octsOf w)).map .int)]]⟩:=by
  unfold mark
  rw [List.map_map]
  refine E_compA (f:=fun p:Int × Nat=>V.tup [.int (p.2:Nat),.int p.1]) (xs:=(ns.flatMap (octsOf w)).zipIdx 0) (it:=.en 0 (.ref st.R.length 0 0)) (I_enum (E_slot rfl) ?_) rfl ?_ (by rw [List.length_zipIdx]; unfold lim; lia) fun p hp junk hj=>?_
  ·simp only [enIt,seqOf,hob,mkIt]
  ·rw [<- zipIdx_tups]
   exact yieldsR_en _ _ _ (yieldsR_ref hob _ 0 (by simp))
  ·exact len3_e hj fun j0 j1 j2=>by
    refine ⟨[j0,some (.int (p.2:Nat)),some (.int p.1)],rfl,As_tup2 (As_slot' (by simp) rfl) (As_slot' (by simp) rfl),?_⟩
    refine E_binI (E_slot rfl) (E_binI E_int (E_binI (E_slot rfl) E_int (mod_nat (n:=2) (by decide))) (B_mul (by decide))) rfl
 have hlen:((mark 0 (ns.flatMap (octsOf w))).map V.int).length <= lim:=by rw [List.length_map,mark_len]; unfold lim; lia
 obtain ⟨j,hC⟩:=told_C (P:=P) hw hf (R0:=st.R) (A:=.list ((ns.flatMap (octsOf w)).map .int)) (s0:=some (.lst (ns.map fun n=>.int (n:Nat)))) (s1:=some (.ref st.R.length 0)) (s2:=s2') (s4:=none) (by lia) ns 0 hn none none
 refine Call_ret (ρ2:=[some (.lst (ns.map fun n=>.int (n:Nat))),some (.ref st.R.length 0),s2',some (.ref st.R.length 1),some (.lst (ns.map fun n=>.int (n:Nat)))]) (R2:=st.R) (reg:=[.list ((ns.flatMap (octsOf w)).map .int),.dead]) (v:=.lst (ns.map fun n=>.int (n:Nat))) (by lia) rfl ?_ ?_
 ·show X P (bRD pv w) ⟨[some (.lst (ns.map fun n=>.int (n:Nat))),none,none,none,none],st.R ++ [[]]⟩ _ _
  refine X_next (st1:=⟨[some (.lst (ns.map fun n=>.int (n:Nat))),some (.ref st.R.length 0),none,none,none],st.R ++ [[.list []]]⟩) (X1_assign (E_lst Es_nil (v:=.ref st.R.length 0) (st2:=⟨[some (.lst (ns.map fun n=>.int (n:Nat))),none,none,none,none],st.R ++ [[.list []]]⟩) ?_) (As_slot' (by simp) rfl)) ?_
  ·simp [mkL,St.alloc]
  refine X_next (X1_for (I_val (E_slot rfl) rfl) hX) ?_
  refine X_next (st1:=⟨[some (.lst (ns.map fun n=>.int (n:Nat))),some (.ref st.R.length 0),s2',some (.ref st.R.length 1),none],st.R ++ [[.list ((ns.flatMap (octsOf w)).map .int),.iter ((mark 0 (ns.flatMap (octsOf w))).map .int)]]⟩) (X1_assign (E_call E_imm (Es_cons htape Es_nil) Ek_nil (Ap_bi (v:=.ref st.R.length 1) (st1:=⟨[some (.lst (ns.map fun n=>.int (n:Nat))),some (.ref st.R.length 0),s2',none,none],st.R ++ [[.list ((ns.flatMap (octsOf w)).map .int),.iter ((mark 0 (ns.flatMap (octsOf w))).map .int)]]⟩) ?_)) (As_slot' (by simp) rfl)) ?_
  ·show St.alloc _ _ = _
   simp [St.alloc]
  refine X_next (st1:=⟨[some (.lst (ns.map fun n=>.int (n:Nat))),some (.ref st.R.length 0),s2',some (.ref st.R.length 1),some (.lst (ns.map fun n=>.int (n:Nat)))],st.R ++ [[.list ((ns.flatMap (octsOf w)).map .int),.iter []]]⟩) (X1_assign (E_comp (I_val (E_slot rfl) rfl) rfl hC (v:=.lst (ns.map fun n=>.int (n:Nat))) (st':=⟨[some (.lst (ns.map fun n=>.int (n:Nat))),some (.ref st.R.length 0),s2',some (.ref st.R.length 1),none],st.R ++ [[.list ((ns.flatMap (octsOf w)).map .int),.iter []]]⟩) ?_) (As_slot' (by simp) rfl)) ?_
  ·unfold mkL
   rw [if_pos (by rw [List.length_map]; unfold lim; lia)]; rfl
  have:=X1_readEnd (P:=P) (st:=⟨[some (.lst (ns.map fun n=>.int (n:Nat))),some (.ref st.R.length 0),s2',some (.ref st.R.length 1),some (.lst (ns.map fun n=>.int (n:Nat)))],st.R ++ [[.list ((ns.flatMap (octsOf w)).map .int),.iter []]]⟩) (told:=4) (tells:=3) (l:=st.R.length) (k:=1) (by simp; lia) rfl (obj_last1 ..) rfl
  rw [setObj_up,up_last1] at this
  exact X_ret this
 ·have:(ns.map fun n=>V.int (n:Nat)) = (ns.map fun n:Nat=>(n:Int)).map V.int:=by rw [List.map_map]; rfl
  rw [this]
  exact frz_ints _ _ 2 _
end
section
noncomputable def G01:List (Str × Addr):=[("insort_right",23),("bisect_right",32),("insort_left",41),("bisect_left",50),("COMPILER_FLAG_NAMES",51),("pretty_flags",58),("_parse_varint",65),("Int2AP",72),("_law_cells",79),("_law_read",84),("_law_words",89),("_law_refused",96),("_law_pass",101),("_law_back",108),("_law_rows",113),("_law_apart",118),("_law_leap",123),("law",128)]
noncomputable def Bt01:List (Str × Value):=[("len",.builtin "len"),("abs",.builtin "abs"),("divmod",.builtin "divmod"),("hex",.builtin "hex"),("iter",.builtin "iter"),("next",.builtin "next"),("sum",.builtin "sum"),("max",.builtin "max"),("min",.builtin "min"),("str",.type "str"),("bytes",.type "bytes"),("list",.type "list"),("int",.type "int"),("range",.type "range"),("enumerate",.type "enumerate"),("StopIteration",.type "StopIteration"),("ValueError",.type "ValueError")]
noncomputable def mu01 (p:Pos):Bool:=match p.line with
 | 57=>true
 | 91=>true
 | 105=>true
 | 114=>(decide (p.col = 29) && decide (p.endCol = 53)) || decide (p.col ≥ 55)
 | 126=>(decide (p.col = 22) && decide (p.endCol = 46)) || decide (p.col ≥ 48)
 | 133=>true
 | 142=>true
 | 145=>decide (p.col ≥ 93)
 | 153=>decide (p.col = 11)
 | 154=>true
 | 162=>true
 | _=>false
noncomputable def H01:Hn:=⟨mu01,glOf G01 Bt01,65⟩
noncomputable def b01_insort_right:List MS:=[
 (.ite (.cmp (.slot 4) [.Is] [(.const .none)]) [(.assign (.slot 2) (.call (.imm (.ref 32)) [(.slot 0),(.slot 1),(.slot 2),(.slot 3)] []))] [(.assign (.slot 2) (.call (.imm (.ref 32)) [(.slot 0),(.call (.slot 4) [(.slot 1)] []),(.slot 2),(.slot 3)] [(("key" : Str),(.slot 4))]))]),
 (.expr (.meth (.slot 0) ("insert" : Str) [(.slot 2),(.slot 1)]))]
noncomputable def f01_insort_right:Fn:={ addr:=23,np:=4,dfl:=[.int 0,.imm .none],key:=true,ns:=5,body:=b01_insort_right }
noncomputable def b01_bisect_right:List MS:=[
 (.ite (.cmp (.slot 2) [.Lt] [(.const (.int 0))]) [.fail] []),
 (.ite (.cmp (.slot 3) [.Is] [(.const .none)]) [(.assign (.slot 3) (.call (.imm (.builtin "len")) [(.slot 0)] []))] []),
 (.ite (.cmp (.slot 4) [.Is] [(.const .none)]) [(.whil (.cmp (.slot 2) [.Lt] [(.slot 3)]) [(.assign (.slot 5) (.bin .FloorDiv (.bin .Add (.slot 2) (.slot 3) false) (.const (.int 2)) false)),(.ite (.cmp (.slot 1) [.Lt] [(.sub (.slot 0) (.slot 5))]) [(.assign (.slot 3) (.slot 5))] [(.assign (.slot 2) (.bin .Add (.slot 5) (.const (.int 1)) false))])] [])] [(.whil (.cmp (.slot 2) [.Lt] [(.slot 3)]) [(.assign (.slot 5) (.bin .FloorDiv (.bin .Add (.slot 2) (.slot 3) false) (.const (.int 2)) false)),(.ite (.cmp (.slot 1) [.Lt] [(.call (.slot 4) [(.sub (.slot 0) (.slot 5))] [])]) [(.assign (.slot 3) (.slot 5))] [(.assign (.slot 2) (.bin .Add (.slot 5) (.const (.int 1)) false))])] [])]),
 (.ret (.slot 2))]
noncomputable def f01_bisect_right:Fn:={ addr:=32,np:=4,dfl:=[.int 0,.imm .none],key:=true,ns:=6,body:=b01_bisect_right }
noncomputable def b01_insort_left:List MS:=[
 (.ite (.cmp (.slot 4) [.Is] [(.const .none)]) [(.assign (.slot 2) (.call (.imm (.ref 50)) [(.slot 0),(.slot 1),(.slot 2),(.slot 3)] []))] [(.assign (.slot 2) (.call (.imm (.ref 50)) [(.slot 0),(.call (.slot 4) [(.slot 1)] []),(.slot 2),(.slot 3)] [(("key" : Str),(.slot 4))]))]),
 (.expr (.meth (.slot 0) ("insert" : Str) [(.slot 2),(.slot 1)]))]
noncomputable def f01_insort_left:Fn:={ addr:=41,np:=4,dfl:=[.int 0,.imm .none],key:=true,ns:=5,body:=b01_insort_left }
noncomputable def b01_bisect_left:List MS:=[
 (.ite (.cmp (.slot 2) [.Lt] [(.const (.int 0))]) [.fail] []),
 (.ite (.cmp (.slot 3) [.Is] [(.const .none)]) [(.assign (.slot 3) (.call (.imm (.builtin "len")) [(.slot 0)] []))] []),
 (.ite (.cmp (.slot 4) [.Is] [(.const .none)]) [(.whil (.cmp (.slot 2) [.Lt] [(.slot 3)]) [(.assign (.slot 5) (.bin .FloorDiv (.bin .Add (.slot 2) (.slot 3) false) (.const (.int 2)) false)),(.ite (.cmp (.sub (.slot 0) (.slot 5)) [.Lt] [(.slot 1)]) [(.assign (.slot 2) (.bin .Add (.slot 5) (.const (.int 1)) false))] [(.assign (.slot 3) (.slot 5))])] [])] [(.whil (.cmp (.slot 2) [.Lt] [(.slot 3)]) [(.assign (.slot 5) (.bin .FloorDiv (.bin .Add (.slot 2) (.slot 3) false) (.const (.int 2)) false)),(.ite (.cmp (.call (.slot 4) [(.sub (.slot 0) (.slot 5))] []) [.Lt] [(.slot 1)]) [(.assign (.slot 2) (.bin .Add (.slot 5) (.const (.int 1)) false))] [(.assign (.slot 3) (.slot 5))])] [])]),
 (.ret (.slot 2))]
noncomputable def f01_bisect_left:Fn:={ addr:=50,np:=4,dfl:=[.int 0,.imm .none],key:=true,ns:=6,body:=b01_bisect_left }
noncomputable def b01_pretty_flags:List MS:=[
 (.assign (.slot 1) (.lst [] true)),
 (.for_ (.slot 2) (.val (.call (.imm (.type "range")) [(.const (.int 32))] [])) [(.assign (.slot 3) (.bin .LShift (.const (.int 1)) (.slot 2) false)),(.ite (.bin .BitAnd (.slot 0) (.slot 3) false) [(.expr (.meth (.slot 1) ("append" : Str) [(.meth (.imm (.ref 51)) ("get" : Str) [(.slot 3),(.call (.imm (.builtin "hex")) [(.slot 3)] [])])])),(.augS 0 .BitXor (.slot 3)),(.ite (.un .Not (.slot 0)) [.brk] [])] [])] [(.expr (.meth (.slot 1) ("append" : Str) [(.call (.imm (.builtin "hex")) [(.slot 0)] [])]))]),
 (.ret (.meth (.const (.str (", " : Str))) ("join" : Str) [(.slot 1)]))]
noncomputable def f01_pretty_flags:Fn:={ addr:=58,np:=1,dfl:=[],key:=false,ns:=4,body:=b01_pretty_flags }
noncomputable def b01__parse_varint:List MS:=[
 (.assign (.slot 1) (.call (.imm (.builtin "next")) [(.slot 0)] [])),
 (.assign (.slot 2) (.bin .BitAnd (.slot 1) (.const (.int 63)) false)),
 (.whil (.bin .BitAnd (.slot 1) (.const (.int 64)) false) [(.augS 2 .LShift (.const (.int 6))),(.assign (.slot 1) (.call (.imm (.builtin "next")) [(.slot 0)] [])),(.augS 2 .BitOr (.bin .BitAnd (.slot 1) (.const (.int 63)) false))] []),
 (.ret (.slot 2))]
noncomputable def f01__parse_varint:Fn:={ addr:=65,np:=1,dfl:=[],key:=false,ns:=3,body:=b01__parse_varint }
noncomputable def b01_Int2AP:List MS:=[
 (.assign (.slot 1) (.const (.bytes []))),
 (.assign (.slot 2) (.const (.bytes [65,66,67,68,69,70,71,72,73,74,75,76,77,78,79,80]))),
 (.assign (.slot 0) (.call (.imm (.type "int")) [(.call (.imm (.builtin "abs")) [(.slot 0)] [])] [])),
 (.whil (.slot 0) [(.assign (.tup [(.slot 0),(.slot 3)]) (.call (.imm (.builtin "divmod")) [(.slot 0),(.const (.int 16))] [])),(.assign (.slot 1) (.bin .Add (.slc (.slot 2) (some (.slot 3)) (some (.bin .Add (.slot 3) (.const (.int 1)) false)) none false) (.slot 1) false))] []),
 (.ret (.slot 1))]
noncomputable def f01_Int2AP:Fn:={ addr:=72,np:=1,dfl:=[],key:=false,ns:=4,body:=b01_Int2AP }
noncomputable def b01__law_cells:List MS:=[
 (.for_ (.tup [(.slot 2),(.slot 3)]) (.enum (.val (.slc (.slot 0) none (some (.const (.int 60))) none false))) [(.augI (.slot 1) (.bin .Mod (.slot 2) (.call (.imm (.builtin "len")) [(.slot 1)] []) false) .Add (.bin .Mod (.slot 3) (.const (.int 1000000)) false))] []),
 (.ret (.slot 1))]
noncomputable def f01__law_cells:Fn:={ addr:=79,np:=2,dfl:=[],key:=false,ns:=4,body:=b01__law_cells }
noncomputable def b01__law_read:List MS:=[
 (.assign (.slot 1) (.lst [] true)),
 (.for_ (.slot 2) (.val (.slot 0)) [(.augS 1 .Add (.bin .Add (.comp false 5 2 [(.mk (.slot 6) (.val (.tup [(.const (.int 3)),(.const (.int 2)),(.const (.int 1))])) [(.bin .RShift (.slot 2) (.bin .Mult (.const (.int 6)) (.slot 6) false) false)])] (.bin .BitOr (.bin .BitAnd (.bin .RShift (.slot 2) (.bin .Mult (.const (.int 6)) (.slot 6) false) false) (.const (.int 63)) false) (.const (.int 64)) false)) (.lst [(.bin .BitAnd (.slot 2) (.const (.int 63)) false)] false) false))] []),
 (.assign (.slot 3) (.call (.imm (.builtin "iter")) [(.comp false 5 3 [(.mk (.tup [(.slot 6),(.slot 7)]) (.enum (.val (.slot 1))) [])] (.bin .Add (.slot 7) (.bin .Mult (.const (.int 128)) (.bin .Mod (.slot 6) (.const (.int 2)) false) false) false))] [])),
 (.assign (.slot 4) (.comp false 5 2 [(.mk (.slot 6) (.val (.slot 0)) [])] (.call (.imm (.ref 65)) [(.slot 3)] []))),
 (.readEnd 4 3)]
noncomputable def f01__law_read:Fn:={ addr:=84,np:=1,dfl:=[],key:=false,ns:=5,body:=b01__law_read }
noncomputable def b01__law_words:List MS:=[
 (.assign (.slot 1) (.lst [(.const (.str ("OPTIMIZED" : Str))),(.const (.str ("NEWLOCALS" : Str))),(.const (.str ("VARARGS" : Str))),(.const (.str ("VARKEYWORDS" : Str))),(.const (.str ("NESTED" : Str))),(.const (.str ("GENERATOR" : Str))),(.const (.str ("NOFREE" : Str))),(.const (.str ("COROUTINE" : Str))),(.const (.str ("ITERABLE_COROUTINE" : Str))),(.const (.str ("ASYNC_GENERATOR" : Str)))] false)),
 (.ret (.lor [(.meth (.const (.str (", " : Str))) ("join" : Str) [(.comp false 2 2 [(.mk (.slot 3) (.val (.call (.imm (.type "range")) [(.const (.int 32))] [])) [(.bin .BitAnd (.bin .RShift (.slot 0) (.slot 3) false) (.const (.int 1)) false)])] (.ite (.cmp (.slot 3) [.Lt] [(.const (.int 10))]) (.sub (.slot 1) (.slot 3)) (.call (.imm (.builtin "hex")) [(.bin .LShift (.const (.int 1)) (.slot 3) false)] [])))]),(.const (.str ("0x0" : Str)))]))]
noncomputable def f01__law_words:Fn:={ addr:=89,np:=1,dfl:=[],key:=false,ns:=2,body:=b01__law_words }
noncomputable def pf0B0:MS:=(.assign (.slot 2) (.lst [(.const (.int 0)),(.const (.int 2)),(.const (.int 5))] true))
noncomputable def pf0B1:MS:=(.refuse 1 2 0 3)
noncomputable def pf0B:List MS:=[pf0B0,pf0B1]
noncomputable def pf0:MS:=(.for_ (.slot 1) (.val (.tup [(.imm (.ref 50)),(.imm (.ref 32)),(.imm (.ref 41)),(.imm (.ref 23))])) pf0B [])
noncomputable def pf1:MS:=(.ret (.const (.bool true)))
noncomputable def b01__law_refused:List MS:=[pf0,pf1]
noncomputable def f01__law_refused:Fn:={ addr:=96,np:=1,dfl:=[],key:=false,ns:=4,body:=b01__law_refused }
noncomputable def pa0:MS:=(.assign (.tup [(.slot 3),(.slot 4),(.slot 5)]) (.tup [(.bin .Add (.bin .Add (.lst [(.const (.int 99))] false) (.bin .Mult (.lst [(.const (.int 0))] false) (.slot 1) false) false) (.lst [(.un .USub (.const (.int 1)))] false) true),(.lst [] true),(.lst [] true)]))
noncomputable def pa1B0:MS:=(.assign (.slot 8) (.bin .Sub (.call (.imm (.ref 50)) [(.slot 3),(.slot 7),(.const (.int 1)),(.bin .Add (.slot 1) (.const (.int 1)) false)] []) (.const (.int 1)) false))
noncomputable def pa1B1:MS:=(.ite (.slot 8) [(.expr (.meth (.slot 5) ("append" : Str) [(.slot 6)]))] [])
noncomputable def pa1B2:MS:=(.expr (.meth (.slot 4) ("append" : Str) [(.meth (.slot 3) ("pop" : Str) [(.ite (.slot 8) (.slot 8) (.slot 1))])]))
noncomputable def pa1B3:MS:=(.expr (.call (.imm (.ref 23)) [(.slot 3),(.slot 7),(.const (.int 1)),(.slot 1)] []))
noncomputable def pa1B:List MS:=[pa1B0,pa1B1,pa1B2,pa1B3]
noncomputable def pa1:MS:=(.for_ (.tup [(.slot 6),(.slot 7)]) (.enum (.val (.bin .Add (.slot 0) (.bin .Mult (.lst [(.const (.int 0))] false) (.slot 1) false) false))) pa1B [])
noncomputable def pa2:MS:=(.assign (.slot 9) (.call (.imm (.builtin "sum")) [(.comp false 10 2 [(.mk (.slot 11) (.val (.slot 5)) [])] (.bin .LShift (.const (.int 1)) (.bin .Add (.slot 11) (.slot 2) false) false))] []))
noncomputable def pa3:MS:=(.ite (.lor [(.cmp (.slot 3) [.NotEq] [(.bin .Add (.bin .Add (.lst [(.const (.int 99))] false) (.bin .Mult (.lst [(.const (.int 0))] false) (.slot 1) false) false) (.lst [(.un .USub (.const (.int 1)))] false) false)]),(.cmp (.call (.imm (.ref 58)) [(.slot 9)] []) [.NotEq] [(.call (.imm (.ref 89)) [(.slot 9)] [])])]) [(.ret (.tup [(.lst [] false),(.un .USub (.const (.int 1)))]))] [])
noncomputable def pa4:MS:=(.ret (.tup [(.slot 4),(.call (.imm (.builtin "len")) [(.slot 5)] [])]))
noncomputable def b01__law_pass:List MS:=[pa0,pa1,pa2,pa3,pa4]
noncomputable def f01__law_pass:Fn:={ addr:=101,np:=3,dfl:=[],key:=false,ns:=10,body:=b01__law_pass }
noncomputable def pb0:MS:=(.assign (.tup [(.slot 2),(.slot 3)]) (.tup [(.bin .Add (.bin .Add (.lst [(.const (.int 99))] false) (.bin .Mult (.lst [(.const (.int 0))] false) (.slot 1) false) false) (.lst [(.un .USub (.const (.int 1)))] false) true),(.lst [] true)]))
noncomputable def pb1B0:MS:=(.assign (.slot 5) (.call (.imm (.ref 32)) [(.slot 2),(.slot 4),(.const (.int 1)),(.bin .Add (.slot 1) (.const (.int 1)) false)] []))
noncomputable def pb1B1:MS:=(.expr (.meth (.slot 3) ("append" : Str) [(.meth (.slot 2) ("pop" : Str) [(.ite (.cmp (.slot 5) [.Eq] [(.bin .Add (.slot 1) (.const (.int 1)) false)]) (.const (.int 1)) (.slot 5))])]))
noncomputable def pb1B2:MS:=(.expr (.call (.imm (.ref 41)) [(.slot 2),(.slot 4),(.const (.int 1)),(.slot 1)] []))
noncomputable def pb1B:List MS:=[pb1B0,pb1B1,pb1B2]
noncomputable def pb1:MS:=(.for_ (.slot 4) (.val (.rvs (.slot 0) false)) pb1B [])
noncomputable def pb2:MS:=(.ret (.ite (.cmp (.slot 2) [.Eq] [(.bin .Add (.bin .Add (.lst [(.const (.int 99))] false) (.bin .Mult (.lst [(.const (.int 0))] false) (.slot 1) false) false) (.lst [(.un .USub (.const (.int 1)))] false) false)]) (.rvs (.slot 3) false) (.lst [] false)))
noncomputable def b01__law_back:List MS:=[pb0,pb1,pb2]
noncomputable def f01__law_back:Fn:={ addr:=108,np:=2,dfl:=[],key:=false,ns:=6,body:=b01__law_back }
noncomputable def pr0:MS:=(.assign (.slot 1) (.lst [] true))
noncomputable def pr1B0B0:MS:=(.assign (.slot 4) (.call (.imm (.ref 32)) [(.slot 3),(.un .USub (.slot 2))] [(("key" : Str),(.lam ⟨("other" : Str),[],(.neg .par)⟩ 112 ("_law_rows.<locals>.<lambda>" : Str) []))]))
noncomputable def pr1B0B1:MS:=(.ite (.cmp (.slot 4) [.Eq] [(.call (.imm (.builtin "len")) [(.slot 3)] [])]) [(.expr (.meth (.slot 3) ("append" : Str) [(.slot 2)])),.brk] [])
noncomputable def pr1B0B2:MS:=(.assign (.tup [(.sub (.slot 3) (.slot 4)),(.slot 2)]) (.tup [(.slot 2),(.sub (.slot 3) (.slot 4))]))
noncomputable def pr1B0B:List MS:=[pr1B0B0,pr1B0B1,pr1B0B2]
noncomputable def pr1B0O0:MS:=(.expr (.meth (.slot 1) ("append" : Str) [(.lst [(.slot 2)] true)]))
noncomputable def pr1B0:MS:=(.for_ (.slot 3) (.val (.slot 1)) pr1B0B [pr1B0O0])
noncomputable def pr1B:List MS:=[pr1B0]
noncomputable def pr1:MS:=(.for_ (.slot 2) (.val (.comp false 5 2 [(.mk (.slot 6) (.val (.slot 0)) [(.slot 6)])] (.slot 6))) pr1B [])
noncomputable def pr2:MS:=(.ret (.slot 1))
noncomputable def b01__law_rows:List MS:=[pr0,pr1,pr2]
noncomputable def f01__law_rows:Fn:={ addr:=113,np:=1,dfl:=[],key:=false,ns:=5,body:=b01__law_rows }
noncomputable def pp0:MS:=(.assign (.tup [(.slot 1),(.slot 2),(.slot 3)]) (.tup [(.comp false 5 3 [(.mk (.tup [(.slot 6),(.slot 7)]) (.enum (.val (.slot 0))) [(.slot 7)])] (.tup [(.slot 7),(.slot 6)])),(.lst [] true),(.lst [] true)]))
noncomputable def pp1:MS:=(.assign (.slot 4) (.bin .Add (.comp false 5 2 [(.mk (.slot 6) (.val (.slot 1)) [])] (.call (.imm (.ref 23)) [(.slot 2),(.slot 6)] [(("key" : Str),(.lam ⟨("pair" : Str),[],(.neg (.sub .par (.int 0)))⟩ 117 ("_law_apart.<locals>.<lambda>" : Str) []))])) (.comp false 5 2 [(.mk (.slot 6) (.val (.rvs (.slot 1) false)) [])] (.call (.imm (.ref 41)) [(.slot 3),(.slot 6)] [(("key" : Str),(.lam ⟨("pair" : Str),[],(.neg (.sub .par (.int 0)))⟩ 117 ("_law_apart.<locals>.<lambda>" : Str) []))])) false))
noncomputable def pp2:MS:=(.ite (.lor [(.cmp (.slot 2) [.NotEq] [(.slot 3)]),(.cmp (.slot 4) [.NotEq] [(.bin .Mult (.lst [(.const .none)] false) (.call (.imm (.builtin "len")) [(.slot 4)] []) false)])]) [(.ret (.lst [(.lst [(.un .USub (.const (.int 1)))] false)] false))] [])
noncomputable def pp3:MS:=(.ret (.comp false 5 2 [(.mk (.slot 6) (.val (.call (.imm (.ref 113)) [(.comp false 5 2 [(.mk (.slot 6) (.val (.slot 1)) [])] (.bin .Sub (.call (.imm (.builtin "len")) [(.slot 1)] []) (.meth (.slot 2) ("index" : Str) [(.slot 6)]) false))] [])) [])] (.comp false 7 2 [(.mk (.slot 8) (.val (.slot 6)) [])] (.sub (.sub (.slot 2) (.un .USub (.slot 8))) (.const (.int 0))))))
noncomputable def b01__law_apart:List MS:=[pp0,pp1,pp2,pp3]
noncomputable def f01__law_apart:Fn:={ addr:=118,np:=1,dfl:=[],key:=false,ns:=5,body:=b01__law_apart }
noncomputable def pl0:MS:=(.assign (.slot 1) (.bin .Add (.slot 0) (.bin .Mult (.lst [(.const (.int 0))] false) (.call (.imm (.builtin "len")) [(.slot 0)] []) false) true))
noncomputable def pl1:MS:=(.assign (.slot 4) (.comp true 6 3 [(.mk (.tup [(.slot 7),(.slot 8)]) (.enum (.val (.slot 1))) [(.cmp (.slot 8) [.Eq] [(.const (.int 0))])])] (.slot 7)))
noncomputable def pl2B0B0:MS:=(.assign (.slot 5) (.meth (.slot 4) ("pop" : Str) [(.call (.imm (.ref 32)) [(.slot 4),(.slot 2)] [])]))
noncomputable def pl2B0B1:MS:=(.expr (.call (.imm (.ref 41)) [(.slot 4),(.slot 2)] []))
noncomputable def pl2B0B2:MS:=(.assign (.tup [(.sub (.slot 1) (.slot 2)),(.sub (.slot 1) (.slot 5))]) (.tup [(.const (.int 0)),(.slot 3)]))
noncomputable def pl2B0B:List MS:=[pl2B0B0,pl2B0B1,pl2B0B2]
noncomputable def pl2B0:MS:=(.for_ (.slot 2) (.val (.comp false 6 3 [(.mk (.tup [(.slot 7),(.slot 8)]) (.enum (.val (.slot 1))) [(.cmp (.slot 8) [.Eq] [(.slot 3)])])] (.slot 7))) pl2B0B [])
noncomputable def pl2B:List MS:=[pl2B0]
noncomputable def pl2:MS:=(.for_ (.slot 3) (.val (.call (.imm (.type "range")) [(.const (.int 15)),(.const (.int 0)),(.un .USub (.const (.int 1)))] [])) pl2B [])
noncomputable def pl3:MS:=(.ret (.slot 1))
noncomputable def b01__law_leap:List MS:=[pl0,pl1,pl2,pl3]
noncomputable def f01__law_leap:Fn:={ addr:=123,np:=1,dfl:=[],key:=false,ns:=6,body:=b01__law_leap }
noncomputable def t0:MS:=(.assign (.slot 1) (.call (.imm (.ref 79)) [(.slot 0),(.lst [(.const (.int 59703)),(.const (.int 265))] true)] []))
noncomputable def t1:MS:=(.assign (.slot 2) (.comp false 22 2 [(.mk (.slot 23) (.val (.call (.imm (.type "range")) [(.const (.int 6))] [])) [])] (.bin .Mult (.bin .Mod (.bin .FloorDiv (.sub (.slot 1) (.const (.int 0))) (.bin .Pow (.const (.int 6)) (.slot 23) false) false) (.const (.int 6)) false) (.bin .Add (.const (.int 1)) (.bin .Mod (.bin .FloorDiv (.sub (.slot 1) (.const (.int 0))) (.const (.int 46656)) false) (.const (.int 3)) false) false) false)))
noncomputable def t2:MS:=(.assign (.slot 3) (.lst [(.call (.imm (.builtin "sum")) [(.comp false 22 3 [(.mk (.tup [(.slot 23),(.slot 24)]) (.enum (.val (.slot 2))) [])] (.bin .Mult (.slot 24) (.bin .Pow (.const (.int 16)) (.slot 23) false) false))] []),(.bin .Mod (.sub (.slot 1) (.const (.int 1))) (.const (.int 360)) false)] false))
noncomputable def t3:MS:=(.assign (.slot 4) (.call (.imm (.ref 84)) [(.slot 3)] []))
noncomputable def t4:MS:=(.ite (.lor [(.cmp (.slot 4) [.NotEq] [(.slot 3)]),(.un .Not (.call (.imm (.ref 96)) [(.bin .Sub (.un .USub (.const (.int 1))) (.sub (.slot 3) (.const (.int 1))) false)] []))]) [(.ret (.const (.bool false)))] [])
noncomputable def t5:MS:=(.assign (.tup [(.slot 5),(.slot 6)]) (.tup [(.bin .Add (.const (.int 1)) (.bin .Mod (.sub (.slot 4) (.const (.int 1))) (.const (.int 4)) false) false),(.bin .Mod (.bin .FloorDiv (.sub (.slot 4) (.const (.int 1))) (.const (.int 12)) false) (.const (.int 15)) false)]))
noncomputable def t6:MS:=(.assign (.slot 7) (.bin .Add (.const (.int 1)) (.bin .Mod (.bin .Add (.slot 5) (.bin .Mod (.bin .FloorDiv (.sub (.slot 4) (.const (.int 1))) (.const (.int 4)) false) (.const (.int 3)) false) false) (.const (.int 4)) false) false))
noncomputable def t7:MS:=(.assign (.slot 8) (.call (.imm (.ref 72)) [(.ite (.bin .FloorDiv (.sub (.slot 4) (.const (.int 1))) (.const (.int 180)) false) (.un .USub (.sub (.slot 4) (.const (.int 0)))) (.sub (.slot 4) (.const (.int 0))))] []))
noncomputable def t8:MS:=(.assign (.slot 9) (.bin .Add (.bin .Mult (.const (.bytes [65])) (.bin .Sub (.const (.int 6)) (.call (.imm (.builtin "len")) [(.slot 8)] []) false) false) (.slot 8) false))
noncomputable def t9:MS:=(.ite (.lor [(.cmp (.slc (.slot 8) none (some (.const (.int 1))) none false) [.Eq] [(.const (.bytes [65]))]),(.cmp (.slot 9) [.NotEq] [(.call (.imm (.type "bytes")) [(.comp false 22 2 [(.mk (.slot 23) (.val (.rvs (.slot 2) false)) [])] (.bin .Add (.const (.int 65)) (.slot 23) false))] [])])]) [(.ret (.const (.bool false)))] [])
noncomputable def t10:MS:=(.assign (.slot 10) (.rvs (.comp false 22 2 [(.mk (.slot 23) (.val (.slot 9)) [])] (.bin .Sub (.slot 23) (.const (.int 65)) false)) false))
noncomputable def t11:MS:=(.assign (.tup [(.slot 11),(.slot 12)]) (.call (.imm (.ref 101)) [(.slot 10),(.slot 5),(.slot 6)] []))
noncomputable def t12:MS:=(.assign (.tup [(.slot 13),(.slot 14)]) (.call (.imm (.ref 101)) [(.slot 10),(.slot 7),(.slot 6)] []))
noncomputable def t13:MS:=(.assign (.tup [(.slot 15),(.slot 16)]) (.call (.imm (.ref 101)) [(.slot 11),(.slot 7),(.slot 6)] []))
noncomputable def t14:MS:=(.assign (.tup [(.slot 17),(.slot 18)]) (.call (.imm (.ref 101)) [(.slot 13),(.slot 5),(.slot 6)] []))
noncomputable def t15:MS:=(.ite (.lor [(.cmp (.slot 12) [.NotEq] [(.slot 18)]),(.cmp (.slot 14) [.NotEq] [(.slot 16)]),(.cmp (.slot 15) [.NotEq] [(.slot 17)])]) [(.ret (.const (.bool false)))] [])
noncomputable def t16:MS:=(.assign (.slot 19) (.call (.imm (.ref 113)) [(.slot 10)] []))
noncomputable def t17:MS:=(.ite (.lor [(.cmp (.call (.imm (.ref 108)) [(.slot 15),(.slot 7)] []) [.NotEq] [(.bin .Add (.slot 11) (.bin .Mult (.lst [(.const (.int 0))] false) (.slot 7) false) false)]),(.cmp (.call (.imm (.ref 108)) [(.slot 11),(.slot 5)] []) [.NotEq] [(.bin .Add (.slot 10) (.bin .Mult (.lst [(.const (.int 0))] false) (.slot 5) false) false)]),(.cmp (.call (.imm (.ref 113)) [(.slot 11)] []) [.NotEq] [(.slot 19)]),(.cmp (.call (.imm (.ref 118)) [(.slot 15)] []) [.NotEq] [(.slot 19)])]) [(.ret (.const (.bool false)))] [])
noncomputable def t18:MS:=(.assign (.tup [(.slot 20),(.slot 21)]) (.call (.imm (.ref 101)) [(.slot 10),(.const (.int 6)),(.slot 6)] []))
noncomputable def t19:MS:=(.ret (.land [(.cmp (.slot 21) [.Eq] [(.call (.imm (.builtin "len")) [(.comp false 22 2 [(.mk (.slot 23) (.val (.slot 2)) [(.slot 23)])] (.slot 23))] [])]),(.cmp (.slot 20) [.Eq] [(.call (.imm (.ref 123)) [(.slot 10)] [])])]))
noncomputable def b01_law:List MS:=[t0,t1,t2,t3,t4,t5,t6,t7,t8,t9,t10,t11,t12,t13,t14,t15,t16,t17,t18,t19]
noncomputable def f01_law:Fn:={ addr:=128,np:=1,dfl:=[],key:=false,ns:=22,body:=b01_law }
noncomputable def D01:List (Int × Str):=[(1, "OPTIMIZED"),(2, "NEWLOCALS"),(4, "VARARGS"),(8, "VARKEYWORDS"),(16, "NESTED"),(32, "GENERATOR"),(64, "NOFREE"),(128, "COROUTINE"),(256, "ITERABLE_COROUTINE"),(512, "ASYNC_GENERATOR")]
noncomputable def P01:Pg:={ fns:=[f01_insort_right,f01_bisect_right,f01_insort_left,f01_bisect_left,f01_pretty_flags,f01__parse_varint,f01_Int2AP,f01__law_cells,f01__law_read,f01__law_words,f01__law_refused,f01__law_pass,f01__law_back,f01__law_rows,f01__law_apart,f01__law_leap,f01_law],gds:=[(51,D01)] }
end
section
noncomputable def nv (l:List Nat):List V:=l.map fun c=>.int (c:Nat)
theorem nv_len (l:List Nat):(nv l).length = l.length:=List.length_map _
theorem nv_get (l:List Nat) {i c:Nat} (h:l[i]? = some c):(nv l)[i]? = some (.int (c:Nat)):=by unfold nv; rw [List.getElem?_map,h]; rfl
theorem nv_getD (l:List Nat) {i:Nat} (h:i < l.length):(nv l)[i]? = some (.int (l.getD i 0:Nat)):=nv_get l (by rw [List.getD_eq_getElem?_getD,List.getElem?_eq_getElem h]; rfl)
theorem nv_app (l m:List Nat):nv (l ++ m) = nv l ++ nv m:=by unfold nv; rw [List.map_append]
theorem nv_ints (l:List Nat):nv l = (l.map fun c=>((c:Nat):Int)).map .int:=by unfold nv; rw [List.map_map]; rfl
theorem nv_intsOf (l:List Nat):intsOf (nv l) = some (l.map fun c=>((c:Nat):Int)):=by rw [nv_ints]; exact intsOf_map _
noncomputable def Hv (n:Nat) (ρ:List (Option V)) (l:List (Nat × V)):Prop:=ρ.length = n /\ ∀ p ∈ l,ρ[p.1]? = some (some p.2)
section
variable {n:Nat} {ρ:List (Option V)} {l:List (Nat × V)}
theorem Hv.set (h:Hv n ρ l) {i:Nat} (v:Option V) (hi:(l.map (·.1)).contains i = false):Hv n (ρ.set i v) l:=⟨by rw [List.length_set]; exact h.1,fun p hp=>by
 rw [List.getElem?_set_ne]
 ·exact h.2 p hp
 ·intro e
  have:(l.map (·.1)).contains i = true:=by simp only [List.contains_iff_mem,List.mem_map]; exact ⟨p,hp,e.symm⟩
  rw [hi] at this; cases this⟩
theorem Hv.put (h:Hv n ρ l) {i:Nat} (v:V) (hi:(l.map (·.1)).contains i = false) (hl:i < n):Hv n (ρ.set i (some v)) ((i,v) :: l):=⟨(h.set (some v) hi).1,fun p hp=>by
 rcases List.mem_cons.mp hp with rfl | hp
 ·rw [List.getElem?_set_self (by rw [h.1]; exact hl)]
 ·exact (h.set (some v) hi).2 p hp⟩
theorem Hv.sub {l':List (Nat × V)} (h:Hv n ρ l) (hs:∀ p ∈ l',p ∈ l):Hv n ρ l':=⟨h.1,fun p hp=>h.2 p (hs p hp)⟩
theorem Hv.get (h:Hv n ρ l) (k:Nat) {i:Nat} {v:V} (e:l[k]? = some (i,v)):ρ[i]? = some (some v):=h.2 (i,v) (List.mem_of_getElem? e)
theorem Hv.nil (h:Hv n ρ l):Hv n ρ []:=⟨h.1,fun u_ m=>nomatch m⟩
theorem Hv.add {i:Nat} {v:V} (h:Hv n ρ l) (g:ρ[i]? = some (some v)):Hv n ρ ((i,v) :: l):=⟨h.1,fun p m=>by
 rcases List.mem_cons.mp m with rfl | m
 ·exact g
 ·exact h.2 p m⟩
theorem Hv.tl {p:Nat × V} (h:Hv n ρ (p :: l)):Hv n ρ l:=⟨h.1,fun q m=>h.2 q (.tail _ m)⟩
theorem Hv.ext (h:Hv n ρ l) (j0:Option V) (v:V):Hv (n + 2) (ρ ++ [j0,some v]) ((n + 1,v) :: l):=⟨by rw [List.length_append,h.1]; rfl,fun p m=>by
 rcases List.mem_cons.mp m with rfl | m
 ·rw [List.getElem?_append_right (by rw [h.1]; exact Nat.le_add_right _ _),h.1,Nat.add_sub_cancel_left]; rfl
 ·have:=h.2 p m
  rw [List.getElem?_append_left (List.getElem?_eq_some_iff.mp this).1]; exact this⟩
theorem Hv.ext2 (h:Hv n ρ l) (j0:Option V) (u v:V):Hv (n + 3) (ρ ++ [j0,some u,some v]) ((n + 1,u) :: (n + 2,v) :: l):=⟨by rw [List.length_append,h.1]; rfl,fun p m=>by
 have key:∀ (i:Nat),(ρ ++ [j0,some u,some v])[n + i]? = [j0,some u,some v][i]?:=fun i=>by
  rw [List.getElem?_append_right (by rw [h.1]; exact Nat.le_add_right _ _),h.1,Nat.add_sub_cancel_left]
 rcases List.mem_cons.mp m with rfl | m
 ·exact key 1
 ·rcases List.mem_cons.mp m with rfl | m
  ·exact key 2
  ·have:=h.2 p m
   rw [List.getElem?_append_left (List.getElem?_eq_some_iff.mp this).1]; exact this⟩
end
theorem As_hv {P:Pg} {n d i:Nat} {v:V} {ρ:List (Option V)} {R:List (List AObj)} {l:List (Nat × V)} (h:Hv n ρ l) (hi:i < n):As P (d + 1) (.slot i) v ⟨ρ,R⟩ ⟨ρ.set i (some v),R⟩:=As_slot' (by rw [h.1]; exact hi) rfl
section
variable {P:Pg} {n:Nat} {ρ:List (Option V)} {l:List (Nat × V)} {R:List (List AObj)} {α:Type}
theorem E_map {f g:α->V} {xs:List α} {i:MI} {it:It} {elt:ME} (h:Hv n ρ l) (hi:I P i ⟨ρ,R⟩ it ⟨ρ,R⟩) (hy:YieldsR R it (xs.map f)) (hl:xs.length <= lim)
  (he:∀ x ∈ xs,∀ ρ',Hv (n + 2) ρ' ((n + 1,f x) :: l)->E P elt ⟨ρ',R⟩ (g x) ⟨ρ',R⟩):E P (.comp false n 2 [.mk (.slot (n + 1)) i []] elt) ⟨ρ,R⟩ (.lst (xs.map g)) ⟨ρ,R⟩:=by
 refine E_compA hi h.1 hy hl fun x hx junk hj=>?_
 exact len2_e hj fun j0 j1=>⟨[j0,some (f x)],rfl,As_slot' (by simp [h.1]) (by rw [List.set_append_right _ _ (by rw [h.1]; exact Nat.le_succ _),h.1,show n + 1 - n = 1 by lia]; rfl),he x hx _ (h.ext j0 (f x))⟩
theorem E_filter {f g:α->V} {q:α->Bool} {xs:List α} {i:MI} {it:It} {elt c:ME} (h:Hv n ρ l) (hi:I P i ⟨ρ,R⟩ it ⟨ρ,R⟩) (hy:YieldsR R it (xs.map f)) (hl:xs.length <= lim)
  (hc:∀ x ∈ xs,∀ ρ',Hv (n + 2) ρ' ((n + 1,f x) :: l)->T P 8 c ⟨ρ',R⟩ (q x) ⟨ρ',R⟩ /\ (q x = true->E P elt ⟨ρ',R⟩ (g x) ⟨ρ',R⟩)):E P (.comp false n 2 [.mk (.slot (n + 1)) i [c]] elt) ⟨ρ,R⟩ (.lst ((xs.filter q).map g)) ⟨ρ,R⟩:=by
 refine E_compP hi h.1 hy hl fun x hx junk hj=>?_
 exact len2_e hj fun j0 j1=>⟨[j0,some (f x)],rfl,As_slot' (by simp [h.1]) (by rw [List.set_append_right _ _ (by rw [h.1]; exact Nat.le_succ _),h.1,show n + 1 - n = 1 by lia]; rfl),Ifs_one (hc x hx _ (h.ext j0 (f x))).1,(hc x hx _ (h.ext j0 (f x))).2⟩
theorem E_map2 {f1 f2 g:α->V} {xs:List α} {i:MI} {it:It} {elt:ME} (h:Hv n ρ l) (hi:I P i ⟨ρ,R⟩ it ⟨ρ,R⟩) (hy:YieldsR R it (xs.map fun x=>.tup [f1 x,f2 x])) (hl:xs.length <= lim)
  (he:∀ x ∈ xs,∀ ρ',Hv (n + 3) ρ' ((n + 1,f1 x) :: (n + 2,f2 x) :: l)->E P elt ⟨ρ',R⟩ (g x) ⟨ρ',R⟩):E P (.comp false n 3 [.mk (.tup [.slot (n + 1),.slot (n + 2)]) i []] elt) ⟨ρ,R⟩ (.lst (xs.map g)) ⟨ρ,R⟩:=by
 refine E_compA hi h.1 hy hl fun x hx junk hj=>?_
 exact len3_e hj fun j0 j1 j2=>⟨[j0,some (f1 x),some (f2 x)],rfl,As_tup2 (st1:=⟨ρ ++ [j0,some (f1 x),j2],R⟩) (As_slot' (by simp [h.1]) (by rw [List.set_append_right _ _ (by rw [h.1]; exact Nat.le_succ _),h.1,show n + 1 - n = 1 by lia]; rfl)) (As_slot' (by simp [h.1]) (by rw [List.set_append_right _ _ (by rw [h.1]; lia),h.1,show n + 2 - n = 2 by lia]; rfl)),he x hx _ (h.ext2 j0 (f1 x) (f2 x))⟩
end
theorem int_nz {st:St} (n:Nat):truthV st (.int (n:Nat)) = some (n != 0):=by
 cases n <;> rfl
theorem eqd_refl {x:V} {d:PyData} (h:toPD x = some d) (hs:SeqAt.shaped d = true):eqd x x = some true:=by
 have hc:d.canLay0 = true:=by
  unfold SeqAt.shaped at hs
  exact (Bool.and_eq_true_iff.mp hs).1
 unfold eqd
 rw [h]
 dsimp only
 rw [hs]
 simp only [Bool.and_self,if_true]
 congr 1
 exact SeqAt.eqv_refl d hc
theorem toPD_ints:∀ is:List Int,toPDL (is.map .int) = some (is.map PyData.int)
 | []=>rfl
 | _ :: is=>toPDL_cons rfl (toPD_ints is)
theorem eqV_ints (st:St) (is:List Int):eqV st (.lst (is.map .int)) (.lst (is.map .int)) = some true:=by
 have h:toPD (.lst (is.map V.int)) = some (.list (is.map PyData.int)):=by rw [toPD_lst,toPD_ints]; rfl
 exact  eqd_refl h (ke_shaped_ints is)
theorem eqV_nv (st:St) (l:List Nat):eqV st (.lst (nv l)) (.lst (nv l)) = some true:=by rw [nv_ints]; exact eqV_ints st _
theorem eqV_ref {st:St} {l i:Nat} {vs:List V} {b:V} (h:st.obj l i = some (.list vs)):eqV st (.ref l i) b = eqV st (.lst vs) b:=by
 show (match (match st.obj l i with | some (.list vs)=>some (V.lst vs) | _=>none) with | some x=>opV st b fun y=>eqd x y | none=>none) = _
 rw [h]; rfl
theorem cmp_ne {st:St} {a b:V} (h:eqV st a b = some true):cmpV st .NotEq a b = some false:=by
 show notO (eqV st a b) = _
 rw [h]; rfl
theorem cmp_eqn (st:St) (x y:Nat):cmpV st .Eq (.int (x:Nat)) (.int (y:Nat)) = some (x == y):=by
 have hp:eqd (.int (x:Nat)) (.int (y:Nat)) = some (x == y):=by
  show (if (SeqAt.shaped (PyData.int (x:Nat)) && SeqAt.shaped (PyData.int (y:Nat))) = true then some (PyData.eqv (.int (x:Nat)) (.int (y:Nat))) else none) = _
  have:(SeqAt.shaped (PyData.int (x:Nat)) && SeqAt.shaped (PyData.int (y:Nat))) = true:=rfl
  rw [if_pos this]
  congr 1
  show decide (((x:Nat):Int) = ((y:Nat):Int)) = decide (x = y)
  exact decide_eq_decide.mpr Int.ofNat_inj
 exact  hp
theorem eqV_str (st:St) (s:Str):eqV st (.str s) (.str s) = some true:=by
 show some (s == s) = some true
 rw [beq_self_eq_true]
theorem add_seq {st:St} {a b:V} {vs us:List V} (h1:seqOf st a = some vs) (h2:seqOf st b = some us) (hl:(vs ++ us).length <= lim):binV st .Add a b false = some (.lst (vs ++ us),st):=by
 have hb:(seqV st b fun us=>mkL false (vs ++ us) st) = some (.lst (vs ++ us),st):=by
  have hm:mkL false (vs ++ us) st = some (.lst (vs ++ us),st):=by unfold mkL; rw [if_pos hl]; rfl
  rcases seq_cases h2 with rfl | ⟨l,i,rfl,ho⟩
  ·simp only [seqV,seqOf]; exact hm
  ·simp only [seqV,seqOf,ho]; exact hm
 rcases seq_cases h1 with rfl | ⟨l,i,rfl,ho⟩
 ·simp only [binV,binS]
  exact hb
 ·show (seqV st (.ref l i) fun vs=>seqV st b fun us=>mkL false (vs ++ us) st) = _
  simp only [seqV,seqOf,ho] at hb ⊢
  exact hb
theorem app_at {G:Pg} {ρ:List (Option V)} {R:List (List AObj)} {l i:Nat} {vs:List V} {w:V} (ho:St.obj ⟨ρ,R⟩ l i = some (.list vs)) (hl:vs.length <= lim) (hw:w.lvlOk l = true) :
  methV G ⟨ρ,R⟩ (.ref l i) "append" [w] = some (.imm .none,⟨ρ,up R l i (.list (vs ++ [w]))⟩) /\ methOk G ⟨ρ,R⟩ (.ref l i) "append" = true:=by
 constructor
 ·show listV ⟨ρ,R⟩ l i (methL ⟨ρ,R⟩ l i "append" [w]) = _
  rw [listV_of ho]
  exact (if_pos rfl).trans (if_pos (by rw [hw,decide_eq_true hl]; rfl))
 ·show listB ⟨ρ,R⟩ l i _ = true
  unfold listB
  rw [ho]; rfl
theorem mkIt_rng {st:St} {a b c:Int} {xs:List Int} (h:Builtin.Range.small a b c = true) (e:rangeL a b c = xs):mkIt st (.rng a b c) = some (.seq (xs.map .int)):=by
 show (if Builtin.Range.small a b c = true then some (It.seq ((rangeL a b c).map .int)) else none) = _
 rw [if_pos h,e]
theorem up_n (st:St) (n:Nat) (h:n <= 100000):mkIt st (.rng 0 n 1) = some (.seq (nv (List.range n))):=mkIt_range st n h
end
section
theorem frz_nv (reg:List AObj) (lv d:Nat) (xs:List Nat):frz reg lv (d + 2) (.lst (nv xs)) = some (.lst (nv xs)):=by rw [nv_ints]; exact frz_ints _ _ _ _
theorem len_nv {P:Pg} {st:St} {i:Nat} {a:V} {xs:List Nat} (h:st.ρ[i]? = some (some a)) (hs:seqOf st a = some (nv xs)) (hl:xs.length <= 1000):E P (.call (.imm (.builtin "len")) [(.slot i)] []) st (.int (xs.length:Nat)) st:=by
 have:=len_seq hs (by rw [nv_len]; unfold lim; lia)
 rw [nv_len] at this
 exact E_call E_imm (Es_cons (E_slot h (seqOf_nc hs)) Es_nil) Ek_nil (Ap_bi this)
theorem sub_nv {P:Pg} {st:St} {a:V} {xs:List Nat} {i k:Nat} {e:ME} (h:st.ρ[i]? = some (some a)) (hs:seqOf st a = some (nv xs)) (hl:xs.length <= 1000) (hk:k < xs.length) (he:E P e st (.int (k:Nat)) st):E P (.sub (.slot i) e) st (.int (xs.getD k 0:Nat)) st:=
 E_sub (E_slot h (seqOf_nc hs)) he (sub_seq hs (by rw [nv_len]; unfold lim; lia) (nv_getD xs hk))
theorem add_nat {P:Pg} {st:St} {a b:ME} {x y:Nat} (h1:E P a st (.int (x:Nat)) st) (h2:E P b st (.int (y:Nat)) st):E P (.bin .Add a b false) st (.int (x + y:Nat)) st:=E_binI h1 h2 (by show some ((x:Int) + y) = _; simp)
theorem sub_nat {P:Pg} {st:St} {a b:ME} {x y:Nat} (h:y <= x) (h1:E P a st (.int (x:Nat)) st) (h2:E P b st (.int (y:Nat)) st):E P (.bin .Sub a b false) st (.int (x - y:Nat)) st:=E_binI h1 h2 (by show some ((x:Int) - y) = _; congr 1; lia)
theorem mul_nat {P:Pg} {st:St} {a b:ME} {x y:Nat} (h:x < 2 ^ 64) (h1:E P a st (.int (x:Nat)) st) (h2:E P b st (.int (y:Nat)) st):E P (.bin .Mult a b false) st (.int (x * y:Nat)) st:=E_binI h1 h2 ((B_mul (decide_eq_true (by rw [Int.natAbs_natCast]; exact h))).trans rfl)
theorem div_nat {P:Pg} {st:St} {a b:ME} {x y:Nat} (h0:0 < y) (h:y < 2 ^ 30) (h1:E P a st (.int (x:Nat)) st) (h2:E P b st (.int (y:Nat)) st):E P (.bin .FloorDiv a b false) st (.int (x / y:Nat)) st:=E_binI h1 h2 (by
 simp only [bI_mul,bI_fdiv,bI_mod,bI_pow,bI_shl,bI_shr,bI_and,bI_or,bI_xor]
 rw [if_pos (by unfold small; simp; lia),Int.fdiv_eq_ediv_of_nonneg _ (by lia)]; rfl)
theorem range_I {P:Pg} {st:St} {e:ME} {n:Nat} (hn:n <= 1000) (he:E P e st (.int (n:Nat)) st):I P (.val (.call (.imm (.type "range")) [e] [])) st (.seq (nv (List.range n))) st:=
 I_val (E_call E_imm (Es_cons he Es_nil) Ek_nil (Ap_ty rfl)) (up_n _ n (by lia))
theorem bisP_eq {q:Nat->Bool} {t:Nat}:∀ (n lo hi:Nat),lo <= t->t <= hi->hi - lo <= n->(∀ m,lo <= m->m < hi->q m = decide (t <= m))->bisP q n lo hi = t
 | 0,lo,hi,h1,h2,h3,_=>by unfold bisP; lia
 | n + 1,lo,hi,h1,h2,h3,h=>by
  unfold bisP
  split
  ·rename_i hlt
   rw [h ((lo + hi) / 2) (mid1 hlt) (mid2 hlt)]
   by_cases ht:t <= (lo + hi) / 2
   ·rw [decide_eq_true ht,if_pos rfl]
    exact bisP_eq n lo ((lo + hi) / 2) h1 ht (mid3 hlt h3) fun m a b=>h m a (Nat.lt_trans b (mid2 hlt))
   ·rw [decide_eq_false ht,if_neg Bool.false_ne_true]
    exact bisP_eq n ((lo + hi) / 2 + 1) hi (Nat.lt_of_not_le ht) h2 (mid4 h3) fun m a b=>h m (Nat.le_trans (mid1 hlt) (Nat.le_of_succ_le a)) b
  ·lia
theorem bis_off {α:Type} {A C:List α} {p:α->Bool} {q:Nat->Bool} (lo:Nat) (hA:∀ a ∈ A,p a = false) (hC:∀ c ∈ C,p c = true) (hq:∀ m e,(A ++ C)[m]? = some e->q (lo + m) = p e):bisP q (lo + (A ++ C).length - lo) lo (lo + (A ++ C).length) = lo + A.length:=
 bisP_eq _ _ _ (by lia) (by rw [List.length_append]; lia) (Nat.le_refl _) fun m h0 hm=>by
  obtain ⟨d,rfl⟩ : ∃ d,m = lo + d:=⟨m - lo,by lia⟩
  have hd:d < (A ++ C).length:=by lia
  have hg:=List.getElem?_eq_getElem hd
  rw [hq d _ hg]
  by_cases h:A.length <= d
  ·rw [decide_eq_true (by lia)]
   rw [List.getElem?_append_right h] at hg
   exact hC _ (List.mem_of_getElem? hg)
  ·rw [decide_eq_false (by lia)]
   rw [List.getElem?_append_left (by lia)] at hg
   exact hA _ (List.mem_of_getElem? hg)
theorem ins_split {α:Type} (A C:List α) (x:α):insAt (A ++ C) ((A.length:Nat):Int) x = A ++ x :: C:=by
 unfold insAt
 rw [if_neg (by lia)]
 rw [show min (Int.toNat (A.length:Nat)) (A ++ C).length = A.length by rw [List.length_append,Int.toNat_natCast]; lia]
 show (A ++ C).take A.length ++ x :: (A ++ C).drop A.length = _
 rw [List.take_left,List.drop_left]
noncomputable def rem (cs:List Int) (i:Nat) (m:Int):Nat:=((cs.getD i 0).fmod m).toNat
theorem rem_eq (cs:List Int) (i:Nat) {m:Int} (hm:0 < m):(cs.getD i 0).fmod m = (rem cs i m:Nat):=by
 have:=Int.fmod_nonneg_of_pos (cs.getD i 0) hm
 unfold rem; omega
theorem rem_lt (cs:List Int) (i:Nat) {m:Int} (hm:0 < m):((rem cs i m:Nat):Int) < m:=by
 rw [<- rem_eq cs i hm]; exact Int.fmod_lt_of_pos _ hm
theorem mod_nat' {P:Pg} {st:St} {a b:ME} {x y:Nat} (h0:0 < y) (h1:E P a st (.int (x:Nat)) st) (h2:E P b st (.int (y:Nat)) st):E P (.bin .Mod a b false) st (.int (x % y:Nat)) st:=E_binI h1 h2 (mod_nat h0)
theorem shl_nat {x k:Nat} (hk:k <= 1000) (hx:x < 2 ^ 60):binI .LShift (x:Nat) (k:Nat) = some ((x * 2 ^ k:Nat):Int):=by
 have hs:(decide ((0:Int) <= (k:Nat)) && decide (((k:Nat):Int) <= 1000000) && small 64 ((x:Nat):Int)) = true:=by
  simp [small]; lia
 simp only [bI_mul,bI_fdiv,bI_mod,bI_pow,bI_shl,bI_shr,bI_and,bI_or,bI_xor,hs,if_true]
 simp
theorem sum_bi {st:St} {is:List Int} (h:(is.all (small 50) && decide (is.length <= 1000)) = true):biV st "sum" [.lst (is.map .int)] = some (.int is.sum,st):=
 (intsV_of (st:=st) (v:=.lst (is.map .int)) (k:=fun is=>if is.all (small 50) && decide (is.length <= 1000) then some (V.int is.sum,st) else none) rfl (intsOf_map _)).trans (if_pos h)
theorem cmp_nen (st:St) (x y:Nat):cmpV st .NotEq (.int (x:Nat)) (.int (y:Nat)) = some (x != y):=by
 show notO (eqV st (.int (x:Nat)) (.int (y:Nat))) = _
 rw [show eqV st (.int (x:Nat)) (.int (y:Nat)) = some (x == y) from cmp_eqn st x y]; rfl
section
variable {P:Pg} {st:St} {a b:ME} {x k:Nat}
theorem E_pow (h:k <= 1000) (h2:E P b st (.int (k:Nat)) st):E P (.bin .LShift (.const (.int 1)) b false) st (.int (2 ^ k:Nat)) st:=E_binI E_int h2 (by have:=shl_nat (x:=1) h (by decide); rwa [Nat.one_mul] at this)
end
theorem sub_iv' {P:Pg} {st:St} {l i:Nat} {is:List Int} {j:Nat} {x e:ME} (hs:seqOf st (.ref l i) = some (is.map .int)) (hx:E P x st (.ref l i) st) (hj:j < is.length) (hl:is.length <= 1000) (he:E P e st (.int (j:Nat)) st):E P (.sub x e) st (.int (is.getD j 0)) st:=
 E_sub hx he (sub_seq hs (by rw [List.length_map]; unfold lim; lia) (by rw [List.getElem?_map,List.getD_eq_getElem?_getD,List.getElem?_eq_getElem hj]; rfl))
end
section
set_option genCtorIdx false in
inductive Fm where
 | v (i:Nat) | nd (a b:Fm) | rr (a b:Fm) | nt (a:Fm)
noncomputable def vt:Nat->Nat->Nat
 | 0,_=>0
 | n + 1,i=>if i = n then (2 ^ 2 ^ n - 1) <<< 2 ^ n else vt n i ||| vt n i <<< 2 ^ n
theorem vt_lt:∀ n i,vt n i < 2 ^ 2 ^ n
 | 0,_=>Nat.two_pow_pos _
 | n + 1,i=>by
  have e:2 ^ (n + 1) = 2 ^ n + 2 ^ n:=by rw [Nat.pow_succ]; omega
  unfold vt
  split
  ·rw [e]
   refine Nat.lt_pow_two_of_testBit _ fun k hk=>?_
   rw [Nat.testBit_shiftLeft,Nat.testBit_two_pow_sub_one]
   have:¬ (k - 2 ^ n < 2 ^ n):=by omega
   simp [this]
  ·rw [e]
   refine Nat.lt_pow_two_of_testBit _ fun k hk=>?_
   have h:=vt_lt n i
   rw [Nat.testBit_or,Nat.testBit_shiftLeft,Nat.testBit_lt_two_pow (Nat.lt_of_lt_of_le h (Nat.pow_le_pow_right (by decide) (by omega))),Nat.testBit_lt_two_pow (Nat.lt_of_lt_of_le h (Nat.pow_le_pow_right (by decide) (by omega)))]
   simp
theorem vt_bit:∀ n i k,i < n->k < 2 ^ n->(vt n i).testBit k = k.testBit i
 | n + 1,i,k,hi,hk=>by
  have e:2 ^ (n + 1) = 2 ^ n + 2 ^ n:=by rw [Nat.pow_succ]; omega
  unfold vt
  by_cases q:i = n
  ·rw [if_pos q,Nat.testBit_shiftLeft,Nat.testBit_two_pow_sub_one,q]
   by_cases h:k < 2 ^ n
   ·rw [Nat.testBit_lt_two_pow h]; simp; omega
   ·have h2:k - 2 ^ n < 2 ^ n:=by omega
    rw [show k = 2 ^ n + (k - 2 ^ n) by omega,Nat.testBit_two_pow_add_eq,Nat.testBit_lt_two_pow h2]
    simp [h2]
  ·rw [if_neg q,Nat.testBit_or,Nat.testBit_shiftLeft]
   by_cases h:k < 2 ^ n
   ·rw [vt_bit n i k (by omega) h]
    have:¬ (2 ^ n <= k):=by omega
    simp [this]
   ·have h2:k - 2 ^ n < 2 ^ n:=by omega
    rw [vt_bit n i (k - 2 ^ n) (by omega) h2,Nat.testBit_lt_two_pow (Nat.lt_of_lt_of_le (vt_lt n i) (Nat.pow_le_pow_right (by decide) (by omega)))]
    have:2 ^ n <= k:=by omega
    simp only [this,decide_true,Bool.true_and,Bool.false_or]
    rw [show k = 2 ^ n + (k - 2 ^ n) by omega]
    rw [Nat.testBit_two_pow_add_gt (by omega)]
    congr 1; omega
noncomputable def ofB (f:Nat->Bool):Nat->Nat
 | 0=>0
 | n + 1=>ofB f n ||| (if f n then 1 <<< n else 0)
theorem ofB_bit (f:Nat->Bool):∀ n i,(ofB f n).testBit i = (decide (i < n) && f i)
 | 0,i=>by simp [ofB]
 | n + 1,i=>by
  rw [ofB,Nat.testBit_or,ofB_bit f n i]
  by_cases q:i = n
  ·subst q
   cases f i <;> simp [Nat.testBit_shiftLeft]
  ·have h1:decide (i < n + 1) = decide (i < n):=decide_eq_decide.mpr (by omega)
   rw [h1]
   cases f n
   ·simp
   ·simp only [if_true,Nat.testBit_shiftLeft]
    have:(Nat.testBit 1 (i - n) && decide (n <= i)) = false:=by
     by_cases h:n <= i
     ·have:i - n ≠ 0:=by omega
      simp [Nat.testBit_one_eq_true_iff_self_eq_zero,this]
     ·simp [h]
    rw [Bool.and_comm] at this
    rw [this,Bool.or_false]
end
section
set_option genInjectivity false in
set_option genSizeOf false in
structure W3 where
 a:Nat
 b:Nat
 c:Nat
noncomputable def W3.o:W3:=⟨0,0,0⟩
noncomputable def ltC (x y:W3):Nat:=
 let p:=(x.c ^^^ y.c) &&& y.c
 let q:=p ^^^ ((x.b ^^^ y.b) &&& (p ^^^ y.b))
 q ^^^ ((x.a ^^^ y.a) &&& (q ^^^ y.a))
noncomputable def mx1 (l x y:Nat):Nat:=y ^^^ (l &&& (x ^^^ y))
noncomputable def mxC (l:Nat) (x y:W3):W3:=⟨mx1 l x.a y.a,mx1 l x.b y.b,mx1 l x.c y.c⟩
noncomputable def nzC (x:W3):Nat:=x.a ||| (x.b ||| x.c)
noncomputable def neC (x y:W3):Nat:=(x.a ^^^ y.a) ||| ((x.b ^^^ y.b) ||| (x.c ^^^ y.c))
noncomputable def outC (x:W3):W3->List W3->W3
 | o,[]=>o
 | o,a :: r=>outC x (mxC (ltC a x) a o) r
noncomputable def lastC:W3->List W3->W3
 | a,[]=>a
 | _,b :: r=>lastC b r
noncomputable def subC (x:W3):W3->List W3->List W3
 | a,[]=>[mxC (ltC a x) x a]
 | a,b :: r=>mxC (ltC b x) a (mxC (ltC a x) x a) :: subC x b r
noncomputable def shC:W3->List W3->List W3
 | _,[]=>[]
 | p,a :: r=>p :: shC a r
noncomputable def mxL (l:Nat):List W3->List W3->List W3
 | x :: xs,y :: ys=>mxC l x y :: mxL l xs ys
 | _,_=>[]
noncomputable def stepC (r:List W3) (x:W3):W3 × List W3 × Nat:=match r with
 | []=>(x,[],0)
 | a :: r=>(outC x (lastC a r) (a :: r),mxL (ltC a x) (subC x a r) (shC x (a :: r)),ltC a x)
noncomputable def passC:List W3->List W3->List W3 × List Nat
 | _,[]=>([],[])
 | r,x :: xs=>match stepC r x with
  | (o,r',k)=>match passC r' xs with
   | (os,ks)=>(o :: os,k :: ks)
noncomputable def outN (x:Nat):Nat->List Nat->Nat
 | o,[]=>o
 | o,a :: r=>outN x (if a < x then a else o) r
noncomputable def lastN:Nat->List Nat->Nat
 | a,[]=>a
 | _,b :: r=>lastN b r
noncomputable def subN (x:Nat):Nat->List Nat->List Nat
 | a,[]=>[if a < x then x else a]
 | a,b :: r=>(if b < x then a else if a < x then x else a) :: subN x b r
noncomputable def shN:Nat->List Nat->List Nat
 | _,[]=>[]
 | p,a :: r=>p :: shN a r
noncomputable def stepN (r:List Nat) (x:Nat):Nat × List Nat × Bool:=match r with
 | []=>(x,[],false)
 | a :: r=>(outN x (lastN a r) (a :: r),(if a < x then subN x a r else shN x (a :: r)),decide (a < x))
noncomputable def passN:List Nat->List Nat->List Nat × List Bool
 | _,[]=>([],[])
 | r,x :: xs=>match stepN r x with
  | (o,r',k)=>match passN r' xs with
   | (os,ks)=>(o :: os,k :: ks)
section
variable (m w:Nat)
noncomputable def vw (x:W3):Nat:=m * (4 * (x.a.testBit w).toNat + 2 * (x.b.testBit w).toNat + (x.c.testBit w).toNat)
theorem lt_b:∀ a b c d e f:Bool,(let p:=(c ^^ f) && f; let q:=p ^^ ((b ^^ e) && (p ^^ e)); q ^^ ((a ^^ d) && (q ^^ d))) = decide (4 * a.toNat + 2 * b.toNat + c.toNat < 4 * d.toNat + 2 * e.toNat + f.toNat):=by decide
theorem mx_b:∀ l x y:Bool,(y ^^ (l && (x ^^ y))) = if l then x else y:=by decide
variable {m w}
theorem lt_ok (hm:0 < m) (x y:W3):(ltC x y).testBit w = decide (vw m w x < vw m w y):=by
 delta ltC vw
 simp only [Nat.testBit_xor,Nat.testBit_and]
 exact (lt_b _ _ _ _ _ _).trans (decide_eq_decide.mpr (Nat.mul_lt_mul_left hm).symm)
theorem mx1_ok (l x y:Nat):(mx1 l x y).testBit w = if l.testBit w then x.testBit w else y.testBit w:=by
 delta mx1
 simp only [Nat.testBit_xor,Nat.testBit_and]
 exact mx_b _ _ _
theorem mx_ok (l:Nat) (x y:W3):vw m w (mxC l x y) = if l.testBit w then vw m w x else vw m w y:=by
 delta vw mxC
 dsimp only
 rw [mx1_ok,mx1_ok,mx1_ok]
 cases l.testBit w <;> rfl
theorem mxlt_ok (hm:0 < m) (a b x y:W3):vw m w (mxC (ltC a b) x y) = if vw m w a < vw m w b then vw m w x else vw m w y:=by
 rw [mx_ok,lt_ok hm]
 by_cases h:vw m w a < vw m w b <;> simp [h]
theorem out_ok (hm:0 < m) (x:W3):∀ (r:List W3) (o:W3),vw m w (outC x o r) = outN (vw m w x) (vw m w o) (r.map (vw m w))
 | [],_=>rfl
 | a :: r,o=>by
  show vw m w (outC x (mxC (ltC a x) a o) r) = _
  rw [out_ok hm x r,mxlt_ok hm]; rfl
theorem last_ok:∀ (r:List W3) (a:W3),vw m w (lastC a r) = lastN (vw m w a) (r.map (vw m w))
 | [],_=>rfl
 | b :: r,_=>last_ok r b
theorem sub_ok (hm:0 < m) (x:W3):∀ (r:List W3) (a:W3),(subC x a r).map (vw m w) = subN (vw m w x) (vw m w a) (r.map (vw m w))
 | [],a=>by
  show [vw m w (mxC (ltC a x) x a)] = _
  rw [mxlt_ok hm]; rfl
 | b :: r,a=>by
  show vw m w (mxC (ltC b x) a (mxC (ltC a x) x a)) :: (subC x b r).map (vw m w) = _
  rw [mxlt_ok hm,mxlt_ok hm,sub_ok hm x r b]; rfl
theorem sh_ok:∀ (r:List W3) (p:W3),(shC p r).map (vw m w) = shN (vw m w p) (r.map (vw m w))
 | [],_=>rfl
 | a :: r,p=>congrArg (vw m w p :: ·) (sh_ok r a)
theorem sub_len (x:W3):∀ (r:List W3) (a:W3),(subC x a r).length = r.length + 1
 | [],_=>rfl
 | b :: r,_=>congrArg (· + 1) (sub_len x r b)
theorem sh_len:∀ (r:List W3) (p:W3),(shC p r).length = r.length
 | [],_=>rfl
 | a :: r,_=>congrArg (· + 1) (sh_len r a)
theorem mxL_ok (l:Nat):∀ (xs ys:List W3),xs.length = ys.length->(mxL l xs ys).map (vw m w) = if l.testBit w then xs.map (vw m w) else ys.map (vw m w)
 | [],[],_=>by cases l.testBit w <;> rfl
 | x :: xs,y :: ys,h=>by
  show vw m w (mxC l x y) :: (mxL l xs ys).map (vw m w) = _
  rw [mx_ok,mxL_ok l xs ys (Nat.succ.inj h)]
  cases l.testBit w <;> rfl
theorem step_ok (hm:0 < m) (x:W3) (r:List W3):vw m w (stepC r x).1 = (stepN (r.map (vw m w)) (vw m w x)).1 /\ (stepC r x).2.1.map (vw m w) = (stepN (r.map (vw m w)) (vw m w x)).2.1 /\ (stepC r x).2.2.testBit w = (stepN (r.map (vw m w)) (vw m w x)).2.2:=by
 cases r with
 | nil=>exact ⟨rfl,rfl,Nat.zero_testBit w⟩
 | cons a r=>
  refine ⟨?_,?_,lt_ok hm a x⟩
  ·show vw m w (outC x (lastC a r) (a :: r)) = _
   rw [out_ok hm,last_ok]; rfl
  ·show (mxL (ltC a x) (subC x a r) (shC x (a :: r))).map (vw m w) = _
   rw [mxL_ok _ _ _ (by rw [sub_len,sh_len]; rfl),sub_ok hm,sh_ok,lt_ok hm]
   show (if decide (vw m w a < vw m w x) = true then _ else _) = if vw m w a < vw m w x then _ else _
   by_cases h:vw m w a < vw m w x <;> simp [h]
theorem pass_ok (hm:0 < m):∀ (xs r:List W3),(passC r xs).1.map (vw m w) = (passN (r.map (vw m w)) (xs.map (vw m w))).1 /\ (passC r xs).2.map (·.testBit w) = (passN (r.map (vw m w)) (xs.map (vw m w))).2
 | [],_=>⟨rfl,rfl⟩
 | x :: xs,r=>by
  obtain ⟨h1,h2,h3⟩:=step_ok (w:=w) hm x r
  obtain ⟨h4,h5⟩:=pass_ok hm xs (stepC r x).2.1
  rw [h2] at h4 h5
  exact ⟨by
   show vw m w (stepC r x).1 :: (passC (stepC r x).2.1 xs).1.map (vw m w) = _
   rw [h1,h4]; rfl,by
   show (stepC r x).2.2.testBit w :: (passC (stepC r x).2.1 xs).2.map (·.testBit w) = _
   rw [h3,h5]; rfl⟩
end
end
section
noncomputable def insC:W3->List W3->List W3 × W3 × Nat
 | b,[]=>([],W3.o,nzC b)
 | b,a :: r=>match insC (mxC (ltC a b) W3.o b) r with
  | (t,q,v)=>(mxC (ltC a b) b a :: t,mxC (ltC a b) a q,v)
noncomputable def putC:W3->List (List W3)->List (List W3) × Nat
 | b,[]=>([],nzC b)
 | b,r :: rs=>match insC b r with
  | (r',q,v)=>match putC q rs with
   | (rs',v')=>(r' :: rs',v ||| v')
noncomputable def rowC:List (List W3)->List W3->List (List W3) × Nat
 | rs,[]=>(rs,0)
 | rs,b :: bs=>match putC b rs with
  | (rs',v)=>match rowC rs' bs with
   | (rf,v')=>(rf,v ||| v')
noncomputable def insN:Nat->List Nat->List Nat × Nat × Bool
 | b,[]=>([],0,b != 0)
 | b,a :: r=>match insN (if a < b then 0 else b) r with
  | (t,q,v)=>((if a < b then b else a) :: t,if a < b then a else q,v)
noncomputable def putN:Nat->List (List Nat)->List (List Nat) × Bool
 | b,[]=>([],b != 0)
 | b,r :: rs=>match insN b r with
  | (r',q,v)=>match putN q rs with
   | (rs',v')=>(r' :: rs',v || v')
noncomputable def rowN:List (List Nat)->List Nat->List (List Nat) × Bool
 | rs,[]=>(rs,false)
 | rs,b :: bs=>match putN b rs with
  | (rs',v)=>match rowN rs' bs with
   | (rf,v')=>(rf,v || v')
noncomputable def fillC (cw:W3):Nat->List W3->List W3 × Nat
 | g,[]=>([],g)
 | g,a :: r=>match fillC cw (g &&& nzC a) r with
  | (t,v)=>(mxC (g ^^^ (g &&& nzC a)) cw a :: t,v)
noncomputable def jumpC (cw:W3) (g:Nat):Nat->List W3->List W3 × Nat
 | _,[]=>([],g)
 | 0,x :: r=>match fillC cw g r with
  | (t,v)=>(mxC g W3.o x :: t,v)
 | p + 1,x :: r=>match jumpC cw g p r with
  | (t,v)=>(x :: t,v)
noncomputable def turnC (cw:W3):List Nat->Nat->List W3->List W3 × Nat
 | [],_,room=>(room,0)
 | g :: gs,p,room=>match jumpC cw g p room with
  | (room',v)=>match turnC cw gs (p + 1) room' with
   | (rf,v')=>(rf,v ||| v')
noncomputable def fillN (c:Nat):Bool->List Nat->List Nat × Bool
 | g,[]=>([],g)
 | g,a :: r=>match fillN c (g && a != 0) r with
  | (t,v)=>((if (g && a == 0) = true then c else a) :: t,v)
noncomputable def jumpN (c:Nat) (g:Bool):Nat->List Nat->List Nat × Bool
 | _,[]=>([],g)
 | 0,x :: r=>match fillN c g r with
  | (t,v)=>((if g = true then 0 else x) :: t,v)
 | p + 1,x :: r=>match jumpN c g p r with
  | (t,v)=>(x :: t,v)
noncomputable def turnN (c:Nat):List Bool->Nat->List Nat->List Nat × Bool
 | [],_,room=>(room,false)
 | g :: gs,p,room=>match jumpN c g p room with
  | (room',v)=>match turnN c gs (p + 1) room' with
   | (rf,v')=>(rf,v || v')
noncomputable def incC (k:Nat):Nat->List Nat->List Nat
 | _,[]=>[]
 | p,c :: r=>(c ||| (p &&& k)) :: incC k c r
noncomputable def cntC:List Nat->List Nat->List Nat
 | c,[]=>c
 | c,k :: ks=>cntC (incC k k c) ks
noncomputable def un:Nat->Nat->List Bool
 | 0,_=>[]
 | l + 1,n=>decide (0 < n) :: un l (n - 1)
section
variable {m w:Nat}
theorem vo_ok:vw m w W3.o = 0:=by
 show m * (4 * ((0:Nat).testBit w).toNat + 2 * ((0:Nat).testBit w).toNat + ((0:Nat).testBit w).toNat) = 0
 rw [Nat.zero_testBit]; rfl
theorem nz_ok (hm:0 < m) (x:W3):(nzC x).testBit w = (vw m w x != 0):=by
 delta nzC vw
 simp only [Nat.testBit_or]
 cases x.a.testBit w <;> cases x.b.testBit w <;> cases x.c.testBit w <;> simp <;> omega
theorem ins_ok (hm:0 < m):∀ (r:List W3) (b:W3),(insC b r).1.map (vw m w) = (insN (vw m w b) (r.map (vw m w))).1 /\ vw m w (insC b r).2.1 = (insN (vw m w b) (r.map (vw m w))).2.1 /\ (insC b r).2.2.testBit w = (insN (vw m w b) (r.map (vw m w))).2.2
 | [],b=>⟨rfl,vo_ok,nz_ok hm b⟩
 | a :: r,b=>by
  obtain ⟨h1,h2,h3⟩:=ins_ok hm r (mxC (ltC a b) W3.o b)
  rw [mxlt_ok hm,vo_ok] at h1 h2 h3
  refine ⟨?_,?_,h3⟩
  ·show vw m w (mxC (ltC a b) b a) :: _ = _
   rw [h1,mxlt_ok hm]; rfl
  ·show vw m w (mxC (ltC a b) a _) = _
   rw [mxlt_ok hm,h2]; rfl
theorem put_ok (hm:0 < m):∀ (rs:List (List W3)) (b:W3),(putC b rs).1.map (·.map (vw m w)) = (putN (vw m w b) (rs.map (·.map (vw m w)))).1 /\ (putC b rs).2.testBit w = (putN (vw m w b) (rs.map (·.map (vw m w)))).2
 | [],b=>⟨rfl,nz_ok hm b⟩
 | r :: rs,b=>by
  obtain ⟨h1,h2,h3⟩:=ins_ok (w:=w) hm r b
  obtain ⟨h4,h5⟩:=put_ok hm rs (insC b r).2.1
  rw [h2] at h4 h5
  exact ⟨by
   show (insC b r).1.map (vw m w) :: (putC (insC b r).2.1 rs).1.map _ = _
   rw [h1,h4]; rfl,by
   show ((insC b r).2.2 ||| (putC (insC b r).2.1 rs).2).testBit w = _
   rw [Nat.testBit_or,h3,h5]; rfl⟩
theorem row_ok (hm:0 < m):∀ (bs:List W3) (rs:List (List W3)),(rowC rs bs).1.map (·.map (vw m w)) = (rowN (rs.map (·.map (vw m w))) (bs.map (vw m w))).1 /\ (rowC rs bs).2.testBit w = (rowN (rs.map (·.map (vw m w))) (bs.map (vw m w))).2
 | [],_=>⟨rfl,Nat.zero_testBit w⟩
 | b :: bs,rs=>by
  obtain ⟨h1,h2⟩:=put_ok (w:=w) hm rs b
  obtain ⟨h4,h5⟩:=row_ok hm bs (putC b rs).1
  rw [h1] at h4 h5
  exact ⟨h4,by
   show ((putC b rs).2 ||| (rowC (putC b rs).1 bs).2).testBit w = _
   rw [Nat.testBit_or,h2,h5]; rfl⟩
theorem fill_ok (hm:0 < m) (cw:W3):∀ (r:List W3) (g:Nat),(fillC cw g r).1.map (vw m w) = (fillN (vw m w cw) (g.testBit w) (r.map (vw m w))).1 /\ (fillC cw g r).2.testBit w = (fillN (vw m w cw) (g.testBit w) (r.map (vw m w))).2
 | [],_=>⟨rfl,rfl⟩
 | a :: r,g=>by
  obtain ⟨h1,h2⟩:=fill_ok hm cw r (g &&& nzC a)
  rw [Nat.testBit_and,nz_ok hm] at h1 h2
  refine ⟨?_,h2⟩
  show vw m w (mxC (g ^^^ (g &&& nzC a)) cw a) :: _ = _
  rw [h1,mx_ok,Nat.testBit_xor,Nat.testBit_and,nz_ok hm]
  show _ = (if (g.testBit w && vw m w a == 0) = true then vw m w cw else vw m w a) :: _
  congr 2
  cases g.testBit w <;> simp [bne]
theorem jump_ok (hm:0 < m) (cw:W3) (g:Nat):∀ (p:Nat) (r:List W3),(jumpC cw g p r).1.map (vw m w) = (jumpN (vw m w cw) (g.testBit w) p (r.map (vw m w))).1 /\ (jumpC cw g p r).2.testBit w = (jumpN (vw m w cw) (g.testBit w) p (r.map (vw m w))).2
 | 0,[]=>⟨rfl,rfl⟩
 | _ + 1,[]=>⟨rfl,rfl⟩
 | 0,x :: r=>by
  obtain ⟨h1,h2⟩:=fill_ok (w:=w) hm cw r g
  refine ⟨?_,h2⟩
  show vw m w (mxC g W3.o x) :: _ = _
  rw [h1,mx_ok,vo_ok]; rfl
 | p + 1,x :: r=>by
  obtain ⟨h1,h2⟩:=jump_ok hm cw g p r
  exact ⟨congrArg (vw m w x :: ·) h1,h2⟩
theorem turn_ok (hm:0 < m) (cw:W3):∀ (gs:List Nat) (p:Nat) (r:List W3),(turnC cw gs p r).1.map (vw m w) = (turnN (vw m w cw) (gs.map (·.testBit w)) p (r.map (vw m w))).1 /\ (turnC cw gs p r).2.testBit w = (turnN (vw m w cw) (gs.map (·.testBit w)) p (r.map (vw m w))).2
 | [],_,_=>⟨rfl,Nat.zero_testBit w⟩
 | g :: gs,p,r=>by
  obtain ⟨h1,h2⟩:=jump_ok (w:=w) hm cw g p r
  obtain ⟨h3,h4⟩:=turn_ok hm cw gs (p + 1) (jumpC cw g p r).1
  rw [h1] at h3 h4
  exact ⟨h3,by
   show ((jumpC cw g p r).2 ||| (turnC cw gs (p + 1) (jumpC cw g p r).1).2).testBit w = _
   rw [Nat.testBit_or,h2,h4]; rfl⟩
theorem inc_t (k:Nat):∀ (l:List Nat) (p t:Nat),p.testBit w = decide (0 < t)->l.map (·.testBit w) = un l.length (t - 1)->(incC k p l).map (·.testBit w) = un l.length (if k.testBit w then t else t - 1)
 | [],_,_,_,_=>rfl
 | c :: r,p,t,hp,h=>by
  injection h with h1 h2
  have h1:c.testBit w = decide (0 < t - 1):=h1
  have:=inc_t k r c (t - 1) h1 h2
  show (c ||| (p &&& k)).testBit w :: (incC k c r).map _ = _
  rw [this,Nat.testBit_or,Nat.testBit_and,hp,h1]
  show _ = decide (0 < if k.testBit w then t else t - 1) :: un r.length ((if k.testBit w then t else t - 1) - 1)
  cases k.testBit w
  ·simp
  ·simp; omega
theorem inc_len (k:Nat):∀ (l:List Nat) (p:Nat),(incC k p l).length = l.length
 | [],_=>rfl
 | c :: r,_=>congrArg (· + 1) (inc_len k r c)
theorem inc_ok (k n:Nat) (l:List Nat) (h:l.map (·.testBit w) = un l.length n):(incC k k l).map (·.testBit w) = un l.length (n + (k.testBit w).toNat):=by
 cases l with
 | nil=>rfl
 | cons c r=>
  injection h with h1 h2
  have h1:c.testBit w = decide (0 < n):=h1
  have:=inc_t k r c n h1 h2
  show (c ||| (k &&& k)).testBit w :: (incC k c r).map _ = _
  rw [this,Nat.testBit_or,Nat.testBit_and,h1]
  show _ = decide (0 < n + (k.testBit w).toNat) :: un r.length (n + (k.testBit w).toNat - 1)
  cases k.testBit w <;> simp
noncomputable def cn (l:List Bool):Nat:=l.countP id
theorem cnt_ok:∀ (ks l:List Nat) (n:Nat),l.map (·.testBit w) = un l.length n->(cntC l ks).map (·.testBit w) = un l.length (n + cn (ks.map (·.testBit w))) /\ (cntC l ks).length = l.length
 | [],_,_,h=>⟨h,rfl⟩
 | k :: ks,l,n,h=>by
  have h1:=inc_ok k n l h
  rw [<- inc_len k l k] at h1
  obtain ⟨h2,h3⟩:=cnt_ok ks (incC k k l) _ h1
  rw [inc_len] at h2 h3
  refine ⟨?_,h3⟩
  show (cntC (incC k k l) ks).map _ = _
  rw [h2]
  congr 1
  unfold cn
  rw [List.map_cons,List.countP_cons]
  cases k.testBit w <;> simp <;> omega
theorem un_inj:∀ (l n n':Nat),n <= l->n' <= l->un l n = un l n'->n = n'
 | 0,_,_,h1,h2,_=>by omega
 | l + 1,n,n',h1,h2,h=>by
  injection h with h3 h4
  have h3:=decide_eq_decide.mp h3
  have:=un_inj l (n - 1) (n' - 1) (by omega) (by omega) h4
  omega
end
end
section
noncomputable def zs (k:Nat):List W3:=List.replicate k W3.o
noncomputable def xs18:List W3:=[⟨vt 18 2,vt 18 1,vt 18 0⟩,⟨vt 18 5,vt 18 4,vt 18 3⟩,⟨vt 18 8,vt 18 7,vt 18 6⟩,⟨vt 18 11,vt 18 10,vt 18 9⟩,⟨vt 18 14,vt 18 13,vt 18 12⟩,⟨vt 18 17,vt 18 16,vt 18 15⟩]
noncomputable def neL:List W3->List W3->Nat
 | x :: xs,y :: ys=>neC x y ||| neL xs ys
 | _,_=>0
noncomputable def neLL:List (List W3)->List (List W3)->Nat
 | x :: xs,y :: ys=>neL x y ||| neLL xs ys
 | _,_=>0
noncomputable def neN:List Nat->List Nat->Nat
 | x :: xs,y :: ys=>(x ^^^ y) ||| neN xs ys
 | _,_=>0
noncomputable def c14:List Nat:=List.replicate 14 0
noncomputable def r14:List (List W3):=[zs 6,zs 3,zs 2,zs 1,zs 1,zs 1]
noncomputable def pC (a:Nat) (X:List W3):List W3 × List Nat:=passC (zs a) (X ++ zs a)
noncomputable def neR (R R':List (List W3) × Nat):Nat:=R.2 ||| (R'.2 ||| neLL R.1 R'.1)
noncomputable def chkP (a b:Nat):Nat:=match pC a xs18,pC b xs18,rowC r14 xs18 with
 | p1,p2,R0=>match pC b p1.1,pC a p2.1 with
  | p3,p4=>neL p3.1 p4.1 ||| (neN (cntC c14 p1.2) (cntC c14 p4.2) ||| (neN (cntC c14 p2.2) (cntC c14 p3.2) ||| (neR R0 (rowC r14 p1.1) ||| neR R0 (rowC r14 p3.1))))
noncomputable def U:Nat:=2 ^ 2 ^ 18 - 1
noncomputable def slC (b:Bool) (t g:Nat):Nat:=bif b then g &&& t else g ^^^ (g &&& t)
noncomputable def eqC (c:Nat) (x:W3):Nat:=slC (c.testBit 2) x.a (slC (c.testBit 1) x.b (slC (c.testBit 0) x.c U))
noncomputable def cwC (c:Nat):W3:=⟨bif c.testBit 2 then U else 0,bif c.testBit 1 then U else 0,bif c.testBit 0 then U else 0⟩
noncomputable def leapC:List Nat->List W3->List W3 × Nat
 | [],room=>(room,0)
 | c :: cs,room=>match turnC (cwC c) (room.map (eqC c)) 0 room with
  | (room',v)=>match leapC cs room' with
   | (rf,v')=>(rf,v ||| v')
noncomputable def chkL:Nat:=match pC 6 xs18,leapC [7,6,5,4,3,2,1] (xs18 ++ zs 6) with
 | p,q=>neL p.1 q.1 ||| (neN (cntC c14 p.2) (cntC c14 (xs18.map nzC)) ||| q.2)
end
section
noncomputable def PN (a:Nat) (X:List Nat):List Nat × List Bool:=passN (List.replicate a 0) (X ++ List.replicate a 0)
noncomputable def rN:List (List Nat):=[[0,0,0,0,0,0],[0,0,0],[0,0],[0],[0],[0]]
noncomputable def leapN:List Nat->List Nat->List Nat × Bool
 | [],room=>(room,false)
 | c :: cs,room=>match turnN c (room.map (· == c)) 0 room with
  | (room',v)=>match leapN cs room' with
   | (rf,v')=>(rf,v || v')
section
variable {m w:Nat}
theorem zs_ok (k:Nat):(zs k).map (vw m w) = List.replicate k 0:=by
 unfold zs
 rw [List.map_replicate,vo_ok]
theorem ne_b:∀ a b c d e f:Bool,((a ^^ d) || ((b ^^ e) || (c ^^ f))) = false->a = d /\ b = e /\ c = f:=by decide
theorem ne_ok {x y:W3} (h:(neC x y).testBit w = false):vw m w x = vw m w y:=by
 delta neC at h
 simp only [Nat.testBit_or,Nat.testBit_xor] at h
 obtain ⟨h1,h2,h3⟩:=ne_b _ _ _ _ _ _ h
 delta vw
 rw [h1,h2,h3]
theorem or_f {a b:Nat} (h:(a ||| b).testBit w = false):a.testBit w = false /\ b.testBit w = false:=by
 rw [Nat.testBit_or] at h
 exact Bool.or_eq_false_iff.mp h
theorem neL_ok:∀ {xs ys:List W3},(neL xs ys).testBit w = false->xs.length = ys.length->xs.map (vw m w) = ys.map (vw m w)
 | [],[],_,_=>rfl
 | x :: xs,y :: ys,h,hl=>by
  obtain ⟨h1,h2⟩:=or_f h
  rw [List.map_cons,List.map_cons,ne_ok h1,neL_ok h2 (Nat.succ.inj hl)]
theorem neLL_ok:∀ {xs ys:List (List W3)},(neLL xs ys).testBit w = false->xs.map List.length = ys.map List.length->xs.map (·.map (vw m w)) = ys.map (·.map (vw m w))
 | [],[],_,_=>rfl
 | [],_ :: _,_,hl=>nomatch hl
 | _ :: _,[],_,hl=>nomatch hl
 | x :: xs,y :: ys,h,hl=>by
  obtain ⟨h1,h2⟩:=or_f h
  injection hl with hl1 hl2
  rw [List.map_cons,List.map_cons,neL_ok h1 hl1,neLL_ok h2 hl2]
theorem neN_ok:∀ {xs ys:List Nat},(neN xs ys).testBit w = false->xs.length = ys.length->xs.map (·.testBit w) = ys.map (·.testBit w)
 | [],[],_,_=>rfl
 | x :: xs,y :: ys,h,hl=>by
  obtain ⟨h1,h2⟩:=or_f h
  rw [Nat.testBit_xor] at h1
  have h1:x.testBit w = y.testBit w:=by revert h1; cases x.testBit w <;> cases y.testBit w <;> decide
  rw [List.map_cons,List.map_cons,neN_ok h2 (Nat.succ.inj hl),h1]
theorem passC_len:∀ (xs r:List W3),(passC r xs).1.length = xs.length /\ (passC r xs).2.length = xs.length
 | [],_=>⟨rfl,rfl⟩
 | x :: xs,r=>⟨congrArg (· + 1) (passC_len xs (stepC r x).2.1).1,congrArg (· + 1) (passC_len xs (stepC r x).2.1).2⟩
theorem passN_len:∀ (xs r:List Nat),(passN r xs).1.length = xs.length /\ (passN r xs).2.length = xs.length
 | [],_=>⟨rfl,rfl⟩
 | x :: xs,r=>⟨congrArg (· + 1) (passN_len xs (stepN r x).2.1).1,congrArg (· + 1) (passN_len xs (stepN r x).2.1).2⟩
theorem pC_len (a:Nat) (X:List W3):(pC a X).1.length = X.length + a /\ (pC a X).2.length = X.length + a:=by
 have:=passC_len (X ++ zs a) (zs a)
 rw [List.length_append,show (zs a).length = a by unfold zs; rw [List.length_replicate]] at this
 exact this
theorem PN_len (a:Nat) (X:List Nat):(PN a X).1.length = X.length + a /\ (PN a X).2.length = X.length + a:=by
 have:=passN_len (X ++ List.replicate a 0) (List.replicate a 0)
 rw [List.length_append,List.length_replicate] at this
 exact this
theorem pC_ok (hm:0 < m) (a:Nat) (X:List W3):(pC a X).1.map (vw m w) = (PN a (X.map (vw m w))).1 /\ (pC a X).2.map (·.testBit w) = (PN a (X.map (vw m w))).2:=by
 have:=pass_ok (w:=w) hm (X ++ zs a) (zs a)
 rw [List.map_append,zs_ok] at this
 exact this
theorem insC_len:∀ (r:List W3) (b:W3),(insC b r).1.length = r.length
 | [],_=>rfl
 | a :: r,b=>congrArg (· + 1) (insC_len r (mxC (ltC a b) W3.o b))
theorem putC_len:∀ (rs:List (List W3)) (b:W3),(putC b rs).1.map List.length = rs.map List.length
 | [],_=>rfl
 | r :: rs,b=>by
  show (insC b r).1.length :: (putC (insC b r).2.1 rs).1.map List.length = _
  rw [insC_len,putC_len rs]; rfl
theorem rowC_len:∀ (bs:List W3) (rs:List (List W3)),(rowC rs bs).1.map List.length = rs.map List.length
 | [],_=>rfl
 | b :: bs,rs=>(rowC_len bs (putC b rs).1).trans (putC_len rs b)
theorem r14_ok:r14.map (·.map (vw m w)) = rN:=by
 show [(zs 6).map (vw m w),(zs 3).map (vw m w),(zs 2).map (vw m w),(zs 1).map (vw m w),(zs 1).map (vw m w),(zs 1).map (vw m w)] = rN
 rw [zs_ok,zs_ok,zs_ok,zs_ok]; rfl
theorem c14_ok:c14.map (·.testBit w) = un c14.length 0:=by
 show (List.replicate 14 0).map (·.testBit w) = _
 rw [List.map_replicate,Nat.zero_testBit]; rfl
theorem neR_ok (hm:0 < m) {X Y:List W3} (h:(neR (rowC r14 X) (rowC r14 Y)).testBit w = false):(rowN rN (X.map (vw m w))).2 = false /\ rowN rN (Y.map (vw m w)) = rowN rN (X.map (vw m w)):=by
 obtain ⟨h1,h⟩:=or_f h
 obtain ⟨h2,h⟩:=or_f h
 obtain ⟨h3,h4⟩:=row_ok (w:=w) hm X r14
 obtain ⟨h5,h6⟩:=row_ok (w:=w) hm Y r14
 rw [r14_ok] at h3 h4 h5 h6
 rw [h1] at h4
 rw [h2] at h6
 refine ⟨h4.symm,Prod.ext ?_ (h6.symm.trans h4)⟩
 rw [<- h3,<- h5]
 exact (neLL_ok h (by rw [rowC_len,rowC_len])).symm
theorem cnt_eq {ks ks':List Nat} (h:(neN (cntC c14 ks) (cntC c14 ks')).testBit w = false) (h1:ks.length <= 14) (h2:ks'.length <= 14):cn (ks.map (·.testBit w)) = cn (ks'.map (·.testBit w)):=by
 obtain ⟨a1,a2⟩:=cnt_ok ks c14 0 (c14_ok (w:=w))
 obtain ⟨b1,b2⟩:=cnt_ok ks' c14 0 (c14_ok (w:=w))
 have:=neN_ok h (a2.trans b2.symm)
 rw [a1,b1,Nat.zero_add,Nat.zero_add] at this
 have le:∀ l:List Nat,l.length <= 14->cn (l.map (·.testBit w)) <= 14:=fun l hl=>Nat.le_trans List.countP_le_length (by rw [List.length_map]; exact hl)
 exact un_inj 14 _ _ (le _ h1) (le _ h2) this
theorem U_ok (hw:w < 2 ^ 18):U.testBit w = true:=by
 unfold U
 rw [Nat.testBit_two_pow_sub_one]
 exact decide_eq_true hw
theorem sl_ok (b:Bool) (t g:Nat):(slC b t g).testBit w = (g.testBit w && (t.testBit w == b)):=by
 cases b
 ·show (g ^^^ (g &&& t)).testBit w = _
  rw [Nat.testBit_xor,Nat.testBit_and]
  cases g.testBit w <;> cases t.testBit w <;> rfl
 ·show (g &&& t).testBit w = _
  rw [Nat.testBit_and]
  cases g.testBit w <;> cases t.testBit w <;> rfl
theorem three (c:Nat) (h:c < 8):4 * (c.testBit 2).toNat + 2 * (c.testBit 1).toNat + (c.testBit 0).toNat = c:=by
 have:∀ c < 8,4 * (c.testBit 2).toNat + 2 * (c.testBit 1).toNat + (c.testBit 0).toNat = c:=by decide
 exact this c h
theorem three_inj:∀ a b c d e f:Bool,(((c == f) && (b == e)) && (a == d)) = decide (4 * a.toNat + 2 * b.toNat + c.toNat = 4 * d.toNat + 2 * e.toNat + f.toNat):=by decide
theorem eq_ok (hm:0 < m) (hw:w < 2 ^ 18) {c:Nat} (hc:c < 8) (x:W3):(eqC c x).testBit w = (vw m w x == m * c):=by
 unfold eqC
 rw [sl_ok,sl_ok,sl_ok,U_ok hw,Bool.true_and,three_inj,three c hc]
 delta vw
 generalize 4 * (x.a.testBit w).toNat + 2 * (x.b.testBit w).toNat + (x.c.testBit w).toNat = n
 by_cases q:n = c
 ·subst q; simp
 ·have:m * n ≠ m * c:=fun e=>q (Nat.eq_of_mul_eq_mul_left hm e)
  simp [q,this]
theorem cw_ok (hw:w < 2 ^ 18) {c:Nat} (hc:c < 8):vw m w (cwC c) = m * c:=by
 have e:∀ b:Bool,(bif b then U else 0).testBit w = b:=fun b=>by
  cases b
  ·exact Nat.zero_testBit w
  ·exact U_ok hw
 delta vw cwC
 dsimp only
 rw [e,e,e,three c hc]
theorem leap_ok (hm:0 < m) (hw:w < 2 ^ 18):∀ (cs:List Nat) (room:List W3),(∀ c ∈ cs,c < 8)->(leapC cs room).1.map (vw m w) = (leapN (cs.map (m * ·)) (room.map (vw m w))).1 /\ (leapC cs room).2.testBit w = (leapN (cs.map (m * ·)) (room.map (vw m w))).2
 | [],_,_=>⟨rfl,Nat.zero_testBit w⟩
 | c :: cs,room,h=>by
  have hc:=h c (.head _)
  have e:(room.map (eqC c)).map (·.testBit w) = (room.map (vw m w)).map (· == m * c):=by
   rw [List.map_map,List.map_map]
   exact List.map_congr_left fun x u_=>eq_ok hm hw hc x
  obtain ⟨h1,h2⟩:=turn_ok (w:=w) hm (cwC c) (room.map (eqC c)) 0 room
  rw [e,cw_ok hw hc] at h1 h2
  obtain ⟨h3,h4⟩:=leap_ok hm hw cs (turnC (cwC c) (room.map (eqC c)) 0 room).1 fun c hc=>h c (.tail _ hc)
  rw [h1] at h3 h4
  exact ⟨h3,by
   show ((turnC (cwC c) (room.map (eqC c)) 0 room).2 ||| (leapC cs _).2).testBit w = _
   rw [Nat.testBit_or,h2,h4]; rfl⟩
end
noncomputable def wOf (d:List Nat):Nat:=ofB (fun k=>(d.getD (k / 3) 0).testBit (k % 3)) 18
theorem wOf_lt (d:List Nat):wOf d < 2 ^ 18:=Nat.lt_pow_two_of_testBit _ fun i hi=>by
 unfold wOf
 rw [ofB_bit]
 have:¬ i < 18:=by lia
 simp [this]
theorem w_bit (d:List Nat) {k:Nat} (hk:k < 18):(vt 18 k).testBit (wOf d) = (d.getD (k / 3) 0).testBit (k % 3):=by
 rw [vt_bit 18 k _ hk (wOf_lt d)]
 unfold wOf
 rw [ofB_bit,decide_eq_true hk]; rfl
theorem xs_ok {m:Nat} {d:List Nat} (hl:d.length = 6) (hd:∀ x ∈ d,x < 8):xs18.map (vw m (wOf d)) = d.map (m * ·):=by
 have one:∀ i a b c,i < 6->a = 3 * i + 2->b = 3 * i + 1->c = 3 * i->vw m (wOf d) ⟨vt 18 a,vt 18 b,vt 18 c⟩ = m * d.getD i 0:=fun i a b c hi ha hb hc=>by
  show m * (4 * ((vt 18 a).testBit (wOf d)).toNat + 2 * ((vt 18 b).testBit (wOf d)).toNat + ((vt 18 c).testBit (wOf d)).toNat) = _
  rw [w_bit d (by lia),w_bit d (by lia),w_bit d (by lia),show a / 3 = i by lia,show b / 3 = i by lia,show c / 3 = i by lia,show a % 3 = 2 by lia,show b % 3 = 1 by lia,show c % 3 = 0 by lia]
  rw [three]
  have:d.getD i 0 ∈ d:=by
   rw [List.getD_eq_getElem?_getD,List.getElem?_eq_getElem (by lia)]
   exact List.getElem_mem _
  exact hd _ this
 have h0:=one 0 2 1 0 (by decide) rfl rfl rfl
 have h1:=one 1 5 4 3 (by decide) rfl rfl rfl
 have h2:=one 2 8 7 6 (by decide) rfl rfl rfl
 have h3:=one 3 11 10 9 (by decide) rfl rfl rfl
 have h4:=one 4 14 13 12 (by decide) rfl rfl rfl
 have h5:=one 5 17 16 15 (by decide) rfl rfl rfl
 unfold xs18
 rw [List.map_cons,List.map_cons,List.map_cons,List.map_cons,List.map_cons,List.map_cons,h0,h1,h2,h3,h4,h5]
 clear h0 h1 h2 h3 h4 h5 one
 match d,hl with
 | [d0,d1,d2,d3,d4,d5],_=>rfl
end
section
theorem p12:chkP 1 2 = 0:=by decide +kernel
theorem p13:chkP 1 3 = 0:=by decide +kernel
theorem p14:chkP 1 4 = 0:=by decide +kernel
theorem p21:chkP 2 1 = 0:=by decide +kernel
theorem p23:chkP 2 3 = 0:=by decide +kernel
theorem p24:chkP 2 4 = 0:=by decide +kernel
theorem p31:chkP 3 1 = 0:=by decide +kernel
theorem p32:chkP 3 2 = 0:=by decide +kernel
theorem p34:chkP 3 4 = 0:=by decide +kernel
theorem p41:chkP 4 1 = 0:=by decide +kernel
theorem p42:chkP 4 2 = 0:=by decide +kernel
theorem p43:chkP 4 3 = 0:=by decide +kernel
theorem l0:chkL = 0:=by decide +kernel
theorem chk_all {a b:Nat} (ha:a < 4) (hb:b < 4) (h:a ≠ b):chkP (a + 1) (b + 1) = 0:=by
 match a,b,ha,hb with
 | 0,0,_,_=>exact absurd rfl h
 | 0,1,_,_=>exact p12
 | 0,2,_,_=>exact p13
 | 0,3,_,_=>exact p14
 | 1,0,_,_=>exact p21
 | 1,1,_,_=>exact absurd rfl h
 | 1,2,_,_=>exact p23
 | 1,3,_,_=>exact p24
 | 2,0,_,_=>exact p31
 | 2,1,_,_=>exact p32
 | 2,2,_,_=>exact absurd rfl h
 | 2,3,_,_=>exact p34
 | 3,0,_,_=>exact p41
 | 3,1,_,_=>exact p42
 | 3,2,_,_=>exact p43
 | 3,3,_,_=>exact absurd rfl h
section
variable {d:List Nat} {m:Nat}
theorem pair_ok (hl:d.length = 6) (hd:∀ x ∈ d,x < 8) (hm:0 < m) {a b:Nat} (ha:a < 4) (hb:b < 4) (hab:a ≠ b) {X:List Nat} (hX:X = d.map (m * ·)) :
  (PN (b + 1) (PN (a + 1) X).1).1 = (PN (a + 1) (PN (b + 1) X).1).1 /\ cn (PN (a + 1) X).2 = cn (PN (a + 1) (PN (b + 1) X).1).2 /\ cn (PN (b + 1) X).2 = cn (PN (b + 1) (PN (a + 1) X).1).2 /\
   (rowN rN X).2 = false /\ rowN rN (PN (a + 1) X).1 = rowN rN X /\ rowN rN (PN (b + 1) (PN (a + 1) X).1).1 = rowN rN X:=by
 have h:(chkP (a + 1) (b + 1)).testBit (wOf d) = false:=by rw [chk_all ha hb hab]; exact Nat.zero_testBit _
 have e:=xs_ok (m:=m) hl hd
 rw [<- hX] at e
 obtain ⟨h1,h⟩:=or_f h
 obtain ⟨h2,h⟩:=or_f h
 obtain ⟨h3,h⟩:=or_f h
 obtain ⟨h4,h5⟩:=or_f h
 have hx:xs18.length = 6:=rfl
 obtain ⟨a1,a2⟩:=pC_ok (w:=wOf d) hm (a + 1) xs18
 obtain ⟨b1,b2⟩:=pC_ok (w:=wOf d) hm (b + 1) xs18
 obtain ⟨c1,c2⟩:=pC_ok (w:=wOf d) hm (b + 1) (pC (a + 1) xs18).1
 obtain ⟨d1,d2⟩:=pC_ok (w:=wOf d) hm (a + 1) (pC (b + 1) xs18).1
 have la:=pC_len (a + 1) xs18
 have lb:=pC_len (b + 1) xs18
 have lc:=pC_len (b + 1) (pC (a + 1) xs18).1
 have ld:=pC_len (a + 1) (pC (b + 1) xs18).1
 rw [hx] at la lb
 rw [la.1] at lc
 rw [lb.1] at ld
 rw [a1,e] at c1 c2
 rw [b1,e] at d1 d2
 rw [e] at a1 a2 b1 b2
 have k1:=neL_ok (m:=m) h1 (by rw [lc.1,ld.1]; lia)
 have k2:=cnt_eq h2 (by lia) (by lia)
 have k3:=cnt_eq h3 (by lia) (by lia)
 have k4:=neR_ok hm h4
 have k5:=neR_ok hm h5
 rw [c1,d1] at k1
 rw [a2,d2] at k2
 rw [b2,c2] at k3
 rw [a1,e] at k4
 rw [c1,e] at k5
 exact ⟨k1,k2,k3,k4.1,k4.2,k5.2⟩
theorem leap_fin (hl:d.length = 6) (hd:∀ x ∈ d,x < 8) (hm:0 < m) {X:List Nat} (hX:X = d.map (m * ·)) :
  leapN ([7,6,5,4,3,2,1].map (m * ·)) (X ++ List.replicate 6 0) = ((PN 6 X).1,false) /\ cn (PN 6 X).2 = cn (X.map (· != 0)):=by
 have h:chkL.testBit (wOf d) = false:=by rw [l0]; exact Nat.zero_testBit _
 have e:=xs_ok (m:=m) hl hd
 rw [<- hX] at e
 obtain ⟨h1,h⟩:=or_f h
 obtain ⟨h2,h3⟩:=or_f h
 have hx:xs18.length = 6:=rfl
 obtain ⟨a1,a2⟩:=pC_ok (w:=wOf d) hm 6 xs18
 have la:=pC_len 6 xs18
 obtain ⟨b1,b2⟩:=leap_ok hm (wOf_lt d) [7,6,5,4,3,2,1] (xs18 ++ zs 6) (by decide)
 rw [List.map_append,zs_ok,e] at b1 b2
 rw [e] at a1 a2
 have lens:∀ (gs:List Nat) (cw:W3) (p:Nat) (r:List W3),(turnC cw gs p r).1.length = r.length:=by
  have fl:∀ (cw:W3) (r:List W3) (g:Nat),(fillC cw g r).1.length = r.length:=fun cw r=>by
   induction r with
   | nil=>exact fun u_=>rfl
   | cons a r ih=>exact fun g=>congrArg (· + 1) (ih (g &&& nzC a))
  have jl:∀ (cw:W3) (g p:Nat) (r:List W3),(jumpC cw g p r).1.length = r.length:=fun cw g p=>by
   induction p with
   | zero=>intro r; cases r with
    | nil=>rfl
    | cons x r=>exact congrArg (· + 1) (fl cw r g)
   | succ p ih=>intro r; cases r with
    | nil=>rfl
    | cons x r=>exact congrArg (· + 1) (ih r)
  intro gs
  induction gs with
  | nil=>exact fun u_ u_ u_=>rfl
  | cons g gs ih=>exact fun cw p r=>(ih cw (p + 1) _).trans (jl cw g p r)
 have ll:∀ (cs:List Nat) (r:List W3),(leapC cs r).1.length = r.length:=fun cs=>by
  induction cs with
  | nil=>exact fun u_=>rfl
  | cons c cs ih=>exact fun r=>(ih _).trans (lens _ _ _ r)
 have k1:=neL_ok (m:=m) h1 (by rw [la.1,ll,List.length_append,hx]; unfold zs; rw [List.length_replicate])
 have k2:=cnt_eq h2 (by lia) (by rw [List.length_map,hx]; decide)
 rw [a1,b1] at k1
 refine ⟨Prod.ext k1.symm (b2.symm.trans h3),?_⟩
 rw [a2,List.map_map] at k2
 rw [k2,<- e,List.map_map]
 exact congrArg cn (List.map_congr_left fun x u_=>nz_ok hm x)
end
end
section
noncomputable abbrev Srt (r:List Nat):Prop:=r.Pairwise (· <= ·)
section
variable {x y o:Nat} {r A C:List Nat}
theorem cutAt {α:Type} (p:α->Bool):∀ {r:List α},r.Pairwise (fun a b=>p a = true->p b = true)->∃ A C,r = A ++ C /\ (∀ a ∈ A,p a = false) /\ ∀ c ∈ C,p c = true
 | [],_=>⟨[],[],rfl,fun u_ h=>(nomatch h),fun u_ h=>nomatch h⟩
 | a :: r,h=>by
  obtain ⟨h1,h2⟩:=List.pairwise_cons.mp h
  cases e:p a with
  | true=>exact ⟨[],a :: r,rfl,fun u_ h=>(nomatch h),List.forall_mem_cons.mpr ⟨e,fun c hc=>h1 c hc e⟩⟩
  | false=>
   obtain ⟨A,C,rfl,hA,hC⟩:=cutAt p h2
   exact ⟨a :: A,C,rfl,List.forall_mem_cons.mpr ⟨e,hA⟩,hC⟩
theorem cut_ge (h:Srt r) (x:Nat):∃ A C,r = A ++ C /\ (∀ a ∈ A,a < x) /\ ∀ c ∈ C,x <= c:=by
 obtain ⟨A,C,e,hA,hC⟩:=cutAt (fun a=>decide (x <= a)) (h.imp fun {a b} hab w=>decide_eq_true (Nat.le_trans (of_decide_eq_true w) hab))
 exact ⟨A,C,e,fun a m=>Nat.lt_of_not_le (of_decide_eq_false (hA a m)),fun c m=>of_decide_eq_true (hC c m)⟩
theorem cut_gt (h:Srt r) (x:Nat):∃ A C,r = A ++ C /\ (∀ a ∈ A,a <= x) /\ ∀ c ∈ C,x < c:=by
 obtain ⟨A,C,e,hA,hC⟩:=cut_ge h (x + 1)
 exact ⟨A,C,e,fun a m=>Nat.le_of_lt_succ (hA a m),hC⟩
theorem out_none:∀ (r:List Nat) (o:Nat),(∀ a ∈ r,¬ a < x)->outN x o r = o
 | [],_,_=>rfl
 | a :: r,o,h=>by
  obtain ⟨h1,h2⟩:=List.forall_mem_cons.mp h
  show outN x (if a < x then a else o) r = o
  rw [if_neg h1]; exact out_none r o h2
theorem out_any:∀ (A:List Nat) (o w:Nat),(∀ a ∈ A,a < x)->o < x->(∀ c ∈ C,¬ c < x)->outN x w (A ++ o :: C) = o
 | [],o,w,_,ho,hC=>by
  show outN x (if o < x then o else w) C = o
  rw [if_pos ho]; exact out_none C o hC
 | a :: A,o,w,hA,ho,hC=>out_any A o _ (fun b m=>hA b (.tail _ m)) ho hC
theorem lastN_of:∀ (i:List Nat) (a o:Nat),lastN a (i ++ [o]) = o
 | [],_,_=>rfl
 | b :: i,_,o=>lastN_of i b o
theorem sub_none:∀ (C:List Nat) (a:Nat),¬ a < x->(∀ c ∈ C,¬ c < x)->subN x a C = a :: C
 | [],a,h,_=>by show [if a < x then x else a] = _; rw [if_neg h]
 | b :: C,a,h,hC=>by
  obtain ⟨h1,h2⟩:=List.forall_mem_cons.mp hC
  show (if b < x then a else if a < x then x else a) :: subN x b C = _
  rw [if_neg h1,if_neg h,sub_none C b h1 h2]
theorem sub_one (h:o < x) (hC:∀ c ∈ C,¬ c < x):subN x o C = x :: C:=by
 cases C with
 | nil=>show [if o < x then x else o] = _; rw [if_pos h]
 | cons b C=>
  obtain ⟨h1,h2⟩:=List.forall_mem_cons.mp hC
  show (if b < x then o else if o < x then x else o) :: subN x b C = _
  rw [if_neg h1,if_pos h,sub_none C b h1 h2]
theorem sub_any:∀ (A:List Nat) (a o:Nat),(∀ b ∈ A,b < x)->o < x->(∀ c ∈ C,¬ c < x)->subN x a (A ++ o :: C) = a :: (A ++ x :: C)
 | [],a,o,_,ho,hC=>by
  show (if o < x then a else if a < x then x else a) :: subN x o C = _
  rw [if_pos ho,sub_one ho hC]; rfl
 | b :: A,a,o,hA,ho,hC=>by
  obtain ⟨h1,h2⟩:=List.forall_mem_cons.mp hA
  show (if b < x then a else if a < x then x else a) :: subN x b (A ++ o :: C) = _
  rw [if_pos h1,sub_any A b o h2 ho hC]; rfl
theorem sh_of:∀ (i:List Nat) (p o:Nat),shN p (i ++ [o]) = p :: i
 | [],_,_=>rfl
 | a :: i,p,o=>congrArg (p :: ·) (sh_of i a o)
theorem step_any (hA:∀ a ∈ A,a < x) (ho:o < x) (hC:∀ c ∈ C,x <= c):stepN (A ++ o :: C) x = (o,A ++ x :: C,true):=by
 have hC:∀ c ∈ C,¬ c < x:=fun c m=>Nat.not_lt.mpr (hC c m)
 cases A with
 | nil=>
  show (outN x _ (o :: C),(if o < x then subN x o C else _),decide (o < x)) = _
  rw [if_pos ho,sub_one ho hC,decide_eq_true ho,show outN x (lastN o C) (o :: C) = o from out_any [] o _ (fun u_ h=>nomatch h) ho hC]; rfl
 | cons a A=>
  obtain ⟨h1,h2⟩:=List.forall_mem_cons.mp hA
  show (outN x _ ((a :: A) ++ o :: C),(if a < x then subN x a (A ++ o :: C) else _),decide (a < x)) = _
  rw [if_pos h1,sub_any A a o h2 ho hC,decide_eq_true h1,out_any (a :: A) o _ hA ho hC]; rfl
theorem step_none (h:∀ c ∈ r ++ [o],x <= c):stepN (r ++ [o]) x = (o,x :: r,false):=by
 have h:∀ c ∈ r ++ [o],¬ c < x:=fun c m=>Nat.not_lt.mpr (h c m)
 cases r with
 | nil=>
  have h1:=h o (.head _)
  show (outN x o [o],(if o < x then _ else [x]),decide (o < x)) = _
  rw [if_neg h1,out_none [o] o h,decide_eq_false h1]
 | cons a r=>
  have h1:=h a (.head _)
  show (outN x (lastN a (r ++ [o])) ((a :: r) ++ [o]),(if a < x then _ else shN x ((a :: r) ++ [o])),decide (a < x)) = _
  rw [if_neg h1,out_none _ _ h,decide_eq_false h1,lastN_of,sh_of]
theorem step_cases (h:Srt r) (h0:r ≠ []) (x:Nat):(∃ A o C,r = A ++ o :: C /\ (∀ a ∈ A,a < x) /\ o < x /\ (∀ c ∈ C,x <= c) /\ stepN r x = (o,A ++ x :: C,true)) ∨ (∃ i o,r = i ++ [o] /\ (∀ c ∈ i ++ [o],x <= c) /\ stepN r x = (o,x :: i,false)):=by
 obtain ⟨A,C,rfl,hA,hC⟩:=cut_ge h x
 rcases List.eq_nil_or_concat A with rfl | ⟨A,o,rfl⟩
 ·right
  rcases List.eq_nil_or_concat C with rfl | ⟨i,o,rfl⟩
  ·exact absurd rfl h0
  ·rw [List.nil_append,List.concat_eq_append] at *
   exact ⟨i,o,rfl,hC,step_none hC⟩
 ·left
  rw [List.concat_eq_append] at *
  have ho:=hA o (by simp)
  have hA':∀ a ∈ A,a < x:=fun a m=>hA a (List.mem_append_left _ m)
  refine ⟨A,o,C,by simp,hA',ho,hC,?_⟩
  rw [List.append_assoc]
  exact step_any hA' ho hC
theorem srt_app:Srt (A ++ C) ↔ Srt A /\ Srt C /\ ∀ a ∈ A,∀ c ∈ C,a <= c:=List.pairwise_append
theorem srt_put (hA:Srt A) (hC:Srt C) (h1:∀ a ∈ A,a <= x) (h2:∀ c ∈ C,x <= c):Srt (A ++ x :: C):=srt_app.mpr ⟨hA,List.pairwise_cons.mpr ⟨h2,hC⟩,fun a ma c mc=>by
 rcases List.mem_cons.mp mc with rfl | mc
 ·exact h1 a ma
 ·exact Nat.le_trans (h1 a ma) (h2 c mc)⟩
theorem step_srt (h:Srt r) (h0:r ≠ []) (x:Nat):Srt (stepN r x).2.1 /\ (stepN r x).2.1.length = r.length:=by
 rcases step_cases h h0 x with ⟨A,o,C,rfl,hA,ho,hC,e⟩ | ⟨i,o,rfl,hC,e⟩
 ·rw [e]
  obtain ⟨h1,h2,_⟩:=srt_app.mp h
  exact ⟨srt_put h1 (List.pairwise_cons.mp h2).2 (fun a m=>Nat.le_of_lt (hA a m)) hC,by simp⟩
 ·rw [e]
  obtain ⟨h1,_,_⟩:=srt_app.mp h
  exact ⟨List.pairwise_cons.mpr ⟨fun c m=>hC c (List.mem_append_left _ m),h1⟩,by simp⟩
noncomputable def finN:List Nat->List Nat->List Nat
 | r,[]=>r
 | r,x :: xs=>finN (stepN r x).2.1 xs
theorem fin_srt:∀ (xs r:List Nat),Srt r->r ≠ []->Srt (finN r xs) /\ (finN r xs).length = r.length
 | [],_,h,_=>⟨h,rfl⟩
 | x :: xs,r,h,h0=>by
  obtain ⟨h1,h2⟩:=step_srt h h0 x
  obtain ⟨h3,h4⟩:=fin_srt xs _ h1 (fun e=>by rw [e] at h2; exact h0 (List.length_eq_zero_iff.mp h2.symm))
  exact ⟨h3,h4.trans h2⟩
theorem fin_app:∀ (xs ys r:List Nat),finN r (xs ++ ys) = finN (finN r xs) ys
 | [],_,_=>rfl
 | x :: xs,ys,r=>fin_app xs ys _
theorem fin_zero:∀ (k:Nat) (r:List Nat),k <= r.length->finN r (List.replicate k 0) = List.replicate k 0 ++ r.take (r.length - k)
 | 0,r,_=>by rw [Nat.sub_zero,List.take_length]; rfl
 | k + 1,r,hk=>by
  rcases List.eq_nil_or_concat r with rfl | ⟨i,o,rfl⟩
  ·exact absurd hk (Nat.not_succ_le_zero _)
  ·rw [List.concat_eq_append] at *
   have e:stepN (i ++ [o]) 0 = (o,0 :: i,false):=step_none fun c u_=>Nat.zero_le c
   rw [List.length_append] at hk
   have hk:k + 1 <= i.length + 1:=hk
   show finN (stepN (i ++ [o]) 0).2.1 (List.replicate k 0) = _
   rw [e,fin_zero k (0 :: i) (by show k <= i.length + 1; lia)]
   have e1:(0 :: i).length - k = (i.length - k) + 1:=by show i.length + 1 - k = _; lia
   have e2:(i ++ [o]).length - (k + 1) = i.length - k:=by rw [List.length_append]; show i.length + 1 - (k + 1) = _; lia
   rw [e1,e2,List.take_succ_cons,List.take_append_of_le_length (Nat.sub_le _ _),List.replicate_succ']
   simp
theorem srt_zeros (k:Nat):Srt (List.replicate k 0):=List.pairwise_replicate.mpr (.inr (Nat.le_refl _))
theorem fin_PN {a:Nat} (ha:0 < a) (X:List Nat):finN (List.replicate a 0) (X ++ List.replicate a 0) = List.replicate a 0:=by
 have h0:List.replicate a 0 ≠ []:=by intro e; have:=congrArg List.length e; simp at this; lia
 obtain ⟨h1,h2⟩:=fin_srt X _ (srt_zeros a) h0
 rw [List.length_replicate] at h2
 rw [fin_app,fin_zero a _ (by lia),h2,Nat.sub_self]; simp
noncomputable def backS (r:List Nat) (y:Nat):Nat × List Nat:=match r.dropWhile (fun a=>decide (a <= y)) with
 | []=>(r.headD 0,r.tail ++ [y])
 | c :: C=>(c,r.takeWhile (fun a=>decide (a <= y)) ++ y :: C)
noncomputable def backN:List Nat->List Nat->List Nat × List Nat
 | r,[]=>([],r)
 | r,y :: ys=>match backS r y with
  | (c,r')=>match backN r' ys with
   | (os,rf)=>(c :: os,rf)
theorem back_any (hA:∀ a ∈ A,a <= y) (hx:y < x):backS (A ++ x :: C) y = (x,A ++ y :: C):=by
 unfold backS
 have e1:(A ++ x :: C).dropWhile (fun a=>decide (a <= y)) = x :: C:=by
  rw [List.dropWhile_append_of_pos (fun a m=>decide_eq_true (hA a m)),List.dropWhile_cons_of_neg (by simpa using hx)]
 have e2:(A ++ x :: C).takeWhile (fun a=>decide (a <= y)) = A:=by
  rw [List.takeWhile_append_of_pos (fun a m=>decide_eq_true (hA a m)),List.takeWhile_cons_of_neg (by simpa using hx),List.append_nil]
 rw [e1,e2]
theorem back_none {f:Nat} {t:List Nat} (h:∀ a ∈ f :: t,a <= y):backS (f :: t) y = (f,t ++ [y]):=by
 unfold backS
 have e1:(f :: t).dropWhile (fun a=>decide (a <= y)) = []:=by
  have:=List.dropWhile_append_of_pos (p:=fun a=>decide (a <= y)) (l₁:=f :: t) (l₂:=[]) (fun a m=>decide_eq_true (h a m))
  rw [List.append_nil] at this
  exact this
 rw [e1]; rfl
theorem back_step (h:Srt r) (h0:r ≠ []) (x:Nat):backS (stepN r x).2.1 (stepN r x).1 = (x,r):=by
 rcases step_cases h h0 x with ⟨A,o,C,rfl,hA,ho,hC,e⟩ | ⟨i,o,rfl,hC,e⟩
 ·rw [e]
  obtain ⟨_,_,h3⟩:=srt_app.mp h
  exact back_any (fun a m=>h3 a m o (.head _)) ho
 ·rw [e]
  obtain ⟨_,_,h3⟩:=srt_app.mp h
  exact back_none (List.forall_mem_cons.mpr ⟨hC o (by simp),fun a m=>h3 a m o (.head _)⟩)
theorem backN_app:∀ (ys zs r:List Nat),backN r (ys ++ zs) = ((backN r ys).1 ++ (backN (backN r ys).2 zs).1,(backN (backN r ys).2 zs).2)
 | [],_,_=>rfl
 | y :: ys,zs,r=>by
  show ((backS r y).1 :: (backN (backS r y).2 (ys ++ zs)).1,(backN (backS r y).2 (ys ++ zs)).2) = _
  rw [backN_app ys zs]; rfl
theorem back_pass:∀ (xs r:List Nat),Srt r->r ≠ []->backN (finN r xs) (passN r xs).1.reverse = (xs.reverse,r)
 | [],_,_,_=>rfl
 | x :: xs,r,h,h0=>by
  obtain ⟨h1,h2⟩:=step_srt h h0 x
  have ih:=back_pass xs _ h1 (fun e=>by rw [e] at h2; exact h0 (List.length_eq_zero_iff.mp h2.symm))
  show backN (finN (stepN r x).2.1 xs) ((stepN r x).1 :: (passN (stepN r x).2.1 xs).1).reverse = _
  rw [List.reverse_cons,backN_app,ih]
  show (xs.reverse ++ (backN (stepN r x).2.1 [(stepN r x).1]).1,(backN (stepN r x).2.1 [(stepN r x).1]).2) = _
  have:=back_step h h0 x
  show (xs.reverse ++ [(backS (stepN r x).2.1 (stepN r x).1).1],(backS (stepN r x).2.1 (stepN r x).1).2) = _
  rw [this,List.reverse_cons]
theorem back_PN {a:Nat} (ha:0 < a) (X:List Nat):backN (List.replicate a 0) (PN a X).1.reverse = ((X ++ List.replicate a 0).reverse,List.replicate a 0):=by
 have:=back_pass (X ++ List.replicate a 0) (List.replicate a 0) (srt_zeros a) (by intro e; have:=congrArg List.length e; simp at this; lia)
 rwa [fin_PN ha] at this
end
end
section
noncomputable def mkP:Nat->List Bool->List Nat
 | _,[]=>[]
 | k,b :: bs=>(if b then [k] else []) ++ mkP (k + 1) bs
section
variable {c:Nat}
theorem mkP_app:∀ (a b:List Bool) (k:Nat),mkP k (a ++ b) = mkP k a ++ mkP (k + a.length) b
 | [],_,_=>rfl
 | x :: a,b,k=>by
  show (if x then [k] else []) ++ mkP (k + 1) (a ++ b) = ((if x then [k] else []) ++ mkP (k + 1) a) ++ _
  rw [mkP_app a b,List.append_assoc,List.length_cons,Nat.add_assoc,Nat.add_comm 1]
theorem mkP_rng:∀ (a:List Bool) (k p:Nat),p ∈ mkP k a->k <= p /\ p < k + a.length
 | [],_,_,h=>nomatch h
 | x :: a,k,p,h=>by
  rw [List.length_cons]
  rcases List.mem_append.mp h with h | h
  ·cases x
   ·cases h
   ·have:=List.mem_singleton.mp h
    lia
  ·have:=mkP_rng a (k + 1) p h
   lia
theorem mkP_none:∀ {a:List Bool} (k:Nat),(∀ b ∈ a,b = false)->mkP k a = []
 | [],_,_=>rfl
 | x :: a,k,h=>by
  obtain ⟨h1,h2⟩:=List.forall_mem_cons.mp h
  show (if x then [k] else []) ++ mkP (k + 1) a = []
  rw [h1,mkP_none (k + 1) h2]; rfl
theorem mkP_filter (q:Nat->Bool):∀ (l:List Nat) (k:Nat),((l.zipIdx k).filter fun p=>q p.1).map (·.2) = mkP k (l.map q)
 | [],_=>rfl
 | a :: l,k=>by
  rw [List.zipIdx_cons,List.filter_cons]
  show _ = (if q a then [k] else []) ++ mkP (k + 1) (l.map q)
  rw [<- mkP_filter q l (k + 1)]
  cases q a <;> rfl
theorem fill_f:∀ r:List Nat,fillN c false r = (r,false)
 | []=>rfl
 | a :: r=>by
  show ((if (false && a == 0) = true then c else a) :: (fillN c false r).1,(fillN c false r).2) = _
  rw [fill_f r]; rfl
theorem jump_f:∀ (p:Nat) (r:List Nat),jumpN c false p r = (r,false)
 | 0,[]=>rfl
 | _ + 1,[]=>rfl
 | 0,x :: r=>by
  show ((if false = true then 0 else x) :: (fillN c false r).1,(fillN c false r).2) = _
  rw [fill_f]; rfl
 | p + 1,x :: r=>by
  show (x :: (jumpN c false p r).1,(jumpN c false p r).2) = _
  rw [jump_f p r]
theorem fill_t:∀ (r:List Nat),(fillN c true r).2 = false->∃ Y Z,r = Y ++ 0 :: Z /\ (∀ y ∈ Y,y ≠ 0) /\ (fillN c true r).1 = Y ++ c :: Z
 | [],h=>nomatch h
 | a :: r,h=>by
  have e:fillN c true (a :: r) = ((if (true && a == 0) = true then c else a) :: (fillN c (true && a != 0) r).1,(fillN c (true && a != 0) r).2):=rfl
  rw [e] at h ⊢
  by_cases q:a = 0
  ·subst q
   exact ⟨[],r,rfl,(fun u_ h=>nomatch h),by show c :: (fillN c false r).1 = _; rw [fill_f]; rfl⟩
  ·have e1:(true && a != 0) = true:=by simpa using q
   have e2:¬ (true && a == 0) = true:=by simpa using q
   rw [e1] at h ⊢
   obtain ⟨Y,Z,rfl,hY,e3⟩:=fill_t r h
   exact ⟨a :: Y,Z,rfl,List.forall_mem_cons.mpr ⟨q,hY⟩,by rw [if_neg e2,e3]; rfl⟩
theorem jump_at:∀ (X:List Nat) (a:Nat) (r:List Nat),jumpN c true X.length (X ++ a :: r) = (X ++ 0 :: (fillN c true r).1,(fillN c true r).2)
 | [],_,_=>rfl
 | x :: X,a,r=>by
  show (x :: (jumpN c true X.length (X ++ a :: r)).1,(jumpN c true X.length (X ++ a :: r)).2) = _
  rw [jump_at X a r]; rfl
noncomputable abbrev Pl (c:Nat) (room:List Nat):List Nat:=mkP 0 (room.map (· == c))
theorem jump_cut {p:Nat} {room:List Nat} (hp:p < room.length) (h:(jumpN c true p room).2 = false):∃ X a Y Z,room = X ++ a :: (Y ++ 0 :: Z) /\ X.length = p /\ (∀ y ∈ Y,y ≠ 0) /\ (jumpN c true p room).1 = X ++ 0 :: (Y ++ c :: Z):=by
 have e:room = room.take p ++ room[p] :: room.drop (p + 1):=by rw [List.getElem_cons_drop,List.take_append_drop]
 have hl:(room.take p).length = p:=by rw [List.length_take]; lia
 generalize room.take p = X at e hl
 generalize room[p] = a at e
 generalize room.drop (p + 1) = r at e
 subst e
 subst hl
 rw [jump_at] at h ⊢
 obtain ⟨Y,Z,rfl,hY,e⟩:=fill_t r h
 exact ⟨X,a,Y,Z,rfl,rfl,hY,by rw [e]⟩
theorem Pl_cut {X Y Z:List Nat} {a:Nat} (ha:a ≠ 0) (hc:c ≠ 0) (hY:∀ y ∈ Y,y ≠ 0):∃ A C,(∀ p ∈ A,p < X.length) /\ (∀ p ∈ C,X.length + 1 + Y.length < p) /\
  Pl 0 (X ++ a :: (Y ++ 0 :: Z)) = A ++ (X.length + 1 + Y.length) :: C /\ Pl 0 (X ++ 0 :: (Y ++ c :: Z)) = A ++ X.length :: C:=by
 have hn:∀ k,mkP k (Y.map (· == 0)) = []:=fun k=>mkP_none k fun b m=>by
  obtain ⟨y,my,rfl⟩:=List.mem_map.mp m
  simpa using hY y my
 have e1:(a == 0) = false:=by simpa using ha
 have e2:(c == 0) = false:=by simpa using hc
 refine ⟨mkP 0 (X.map (· == 0)),mkP (X.length + 1 + Y.length + 1) (Z.map (· == 0)),fun p m=>?_,fun p m=>(mkP_rng _ _ _ m).1,?_,?_⟩
 ·have:=(mkP_rng _ _ _ m).2
  rw [List.length_map] at this; lia
 ·unfold Pl
  rw [List.map_append,mkP_app,List.map_cons,List.map_append,List.length_map]
  show _ ++ ((if (a == 0) = true then [0 + X.length] else []) ++ mkP (0 + X.length + 1) (Y.map (· == 0) ++ (true :: Z.map (· == 0)))) = _
  rw [e1,mkP_app,hn,List.length_map,Nat.zero_add]; rfl
 ·unfold Pl
  rw [List.map_append,mkP_app,List.map_cons,List.map_append,List.length_map]
  show _ ++ ([0 + X.length] ++ mkP (0 + X.length + 1) (Y.map (· == 0) ++ ((c == 0) :: Z.map (· == 0)))) = _
  rw [mkP_app,hn,List.length_map,Nat.zero_add,e2]; rfl
theorem fill_mem {x:Nat}:∀ (r:List Nat) (g:Bool),x ∈ (fillN c g r).1->x ∈ r ∨ x = c
 | [],_,h=>nomatch h
 | a :: r,g,h=>by
  rcases List.mem_cons.mp (show x ∈ (if (g && a == 0) = true then c else a) :: (fillN c (g && a != 0) r).1 from h) with h | h
  ·split at h
   ·exact .inr h
   ·exact .inl (h ▸ .head _)
  ·exact (fill_mem r _ h).imp (.tail _) id
theorem jump_mem {x:Nat} {g:Bool}:∀ (p:Nat) (r:List Nat),x ∈ (jumpN c g p r).1->x ∈ r ∨ x = c ∨ x = 0
 | 0,[],h=>nomatch h
 | _ + 1,[],h=>nomatch h
 | 0,a :: r,h=>by
  rcases List.mem_cons.mp (show x ∈ (if g = true then 0 else a) :: (fillN c g r).1 from h) with h | h
  ·split at h
   ·exact .inr (.inr h)
   ·exact .inl (h ▸ .head _)
  ·exact (fill_mem r _ h).imp (.tail _) .inl
 | p + 1,a :: r,h=>by
  rcases List.mem_cons.mp (show x ∈ a :: (jumpN c g p r).1 from h) with h | h
  ·exact .inl (h ▸ .head _)
  ·exact (jump_mem p r h).imp (.tail _) id
theorem turn_mem {x:Nat}:∀ (gs:List Bool) (p:Nat) (r:List Nat),x ∈ (turnN c gs p r).1->x ∈ r ∨ x = c ∨ x = 0
 | [],_,_,h=>.inl h
 | g :: gs,p,r,h=>(turn_mem gs (p + 1) _ h).elim (jump_mem p r) .inr
theorem turn_f:∀ (gs:List Bool) (p:Nat) (r:List Nat),(∀ g ∈ gs,g = false)->turnN c gs p r = (r,false)
 | [],_,_,_=>rfl
 | g :: gs,p,r,h=>by
  obtain ⟨h1,h2⟩:=List.forall_mem_cons.mp h
  show ((turnN c gs (p + 1) (jumpN c g p r).1).1,(jumpN c g p r).2 || (turnN c gs (p + 1) (jumpN c g p r).1).2) = _
  rw [h1,jump_f,turn_f gs (p + 1) r h2]; rfl
theorem leap_filter (q:Nat->Bool):∀ (cs room:List Nat),(∀ c ∈ cs,c ≠ 0 /\ (q c = false->c ∉ room))->leapN cs room = leapN (cs.filter q) room
 | [],_,_=>rfl
 | c :: cs,room,h=>by
  obtain ⟨⟨h0,h1⟩,h2⟩:=List.forall_mem_cons.mp h
  rw [List.filter_cons]
  have e:leapN (c :: cs) room = ((leapN cs (turnN c (room.map (· == c)) 0 room).1).1,(turnN c (room.map (· == c)) 0 room).2 || (leapN cs (turnN c (room.map (· == c)) 0 room).1).2):=rfl
  cases hq:q c with
  | false=>
   have ht:=turn_f (c:=c) (room.map (· == c)) 0 room fun g m=>by
    obtain ⟨x,mx,rfl⟩:=List.mem_map.mp m
    have:x ≠ c:=fun w=>h1 hq (w ▸ mx)
    simpa using this
   rw [e,ht,if_neg Bool.false_ne_true,<- leap_filter q cs room h2]; rfl
  | true=>
   rw [if_pos rfl]
   have e':leapN (c :: cs.filter q) room = ((leapN (cs.filter q) (turnN c (room.map (· == c)) 0 room).1).1,(turnN c (room.map (· == c)) 0 room).2 || (leapN (cs.filter q) (turnN c (room.map (· == c)) 0 room).1).2):=rfl
   have h3:=leap_filter q cs (turnN c (room.map (· == c)) 0 room).1 fun d m=>⟨(h2 d m).1,fun hd w=>by
    rcases turn_mem _ _ _ w with w | w | w
    ·exact (h2 d m).2 hd w
    ·rw [w,hq] at hd; cases hd
    ·exact (h2 d m).1 w⟩
   rw [h3] at e
   exact e.trans e'.symm
noncomputable def cs15:List Nat:=[15,14,13,12,11,10,9,8,7,6,5,4,3,2,1]
theorem leap_scale {m:Nat} (hm:m = 1 ∨ m = 2 ∨ m = 3) {room:List Nat} (hr:∀ x ∈ room,∃ d,d <= 5 /\ x = m * d):leapN cs15 room = leapN ([7,6,5,4,3,2,1].map (m * ·)) room:=by
 have key:∀ cs:List Nat,(∀ c ∈ cs,c ≠ 0)->leapN cs room = leapN (cs.filter fun c=>c % m == 0 && decide (c <= 5 * m)) room:=fun cs h0=>leap_filter _ _ _ fun c hc=>⟨h0 c hc,fun hq w=>by
  obtain ⟨d,hd,rfl⟩:=hr c w
  rw [Nat.mul_mod_right] at hq
  have:m * d <= 5 * m:=by rw [Nat.mul_comm]; exact Nat.mul_le_mul_right m hd
  rw [decide_eq_true this] at hq
  cases hq⟩
 rw [key cs15 (by decide),key (List.map (m * ·) [7,6,5,4,3,2,1]) (by rcases hm with rfl | rfl | rfl <;> decide)]
 rcases hm with rfl | rfl | rfl <;> rfl
end
end
section
section
variable {P:Pg} {st:St} {ad bd:Addr} {a u x:V} {w:List V} {A C:List Nat} {n y l i:Nat}
noncomputable abbrev midL (u:V) (r:List Nat) (w:List V):List V:=u :: (nv r ++ w)
theorem mid_get (u:V) (w:List V) {r:List Nat} {m:Nat} (h1:1 <= m) (h2:m < r.length + 1):(midL u r w)[m]? = some (.int (r.getD (m - 1) 0:Nat)):=by
 obtain ⟨k,rfl⟩ : ∃ k,m = k + 1:=⟨m - 1,by lia⟩
 show (nv r ++ w)[k]? = _
 rw [List.getElem?_append_left (by rw [nv_len]; lia),nv_getD r (by lia)]; rfl
theorem mid_len (u:V) (r:List Nat) (w:List V):(midL u r w).length = r.length + w.length + 1:=by
 show (nv r ++ w).length + 1 = _
 rw [List.length_append,nv_len]
theorem bisL_mid (hR:st.R.length < 90) (hs:seqOf st a = some (midL u (A ++ C) w)) (hl:(A ++ C).length + w.length <= 100) (hA:∀ e ∈ A,e < y) (hC:∀ e ∈ C,y <= e) (hn:n = (A ++ C).length + 1):Call P (fBisL ad) [a,.int (y:Nat),.int 1,.int (n:Nat)] [] st (.int (A.length + 1:Nat)) st:=by
 have hb:=bind_key (f:=fBisL ad) rfl rfl rfl a (.int (y:Nat)) (.int ((1:Nat):Int)) (.int (n:Nat))
 have:=bisL_ints (P:=P) (ad:=ad) (args:=[a,.int (y:Nat),.int 1,.int (n:Nat)]) (kw:=[]) (by lia) hs (by rw [mid_len]; unfold lim; lia) (lo:=1) (hi:=n) (gf:=fun m=>(((A ++ C).getD (m - 1) 0:Nat):Int)) (fun m h1 h2=>mid_get u w h1 (by lia)) (.inl rfl) hb
 rw [hn,Nat.add_comm (A ++ C).length 1,bis_off (A:=A) (C:=C) (p:=fun e=>!decide (e < y)) 1 (fun e m=>by simpa using hA e m) (fun e m=>by simpa using hC e m) (fun m e he=>by
  rw [Nat.add_sub_cancel_left,List.getD_eq_getElem?_getD,he]
  show (!decide (((e:Nat):Int) < (y:Nat))) = !decide (e < y)
  congr 1
  exact decide_eq_decide.mpr Int.ofNat_lt),Nat.add_comm 1 A.length] at this
 rw [hn,Nat.add_comm (A ++ C).length 1]; exact this
theorem bisR_mid (hR:st.R.length < 90) (hs:seqOf st a = some (midL u (A ++ C) w)) (hl:(A ++ C).length + w.length <= 100) (hA:∀ e ∈ A,e <= y) (hC:∀ e ∈ C,y < e) (hn:n = (A ++ C).length + 1):Call P (fBisR ad) [a,.int (y:Nat),.int 1,.int (n:Nat)] [] st (.int (A.length + 1:Nat)) st:=by
 have hb:=bind_key (f:=fBisR ad) rfl rfl rfl a (.int (y:Nat)) (.int ((1:Nat):Int)) (.int (n:Nat))
 have:=bisR_ints (P:=P) (ad:=ad) (args:=[a,.int (y:Nat),.int 1,.int (n:Nat)]) (kw:=[]) (by lia) hs (by rw [mid_len]; unfold lim; lia) (lo:=1) (hi:=n) (gf:=fun m=>(((A ++ C).getD (m - 1) 0:Nat):Int)) (fun m h1 h2=>mid_get u w h1 (by lia)) (.inl rfl) hb
 rw [hn,Nat.add_comm (A ++ C).length 1,bis_off (A:=A) (C:=C) (p:=fun e=>decide (y < e)) 1 (fun e m=>by simpa using hA e m) (fun e m=>by simpa using hC e m) (fun m e he=>by
  rw [Nat.add_sub_cancel_left,List.getD_eq_getElem?_getD,he]
  exact decide_eq_decide.mpr Int.ofNat_lt),Nat.add_comm 1 A.length] at this
 rw [hn,Nat.add_comm (A ++ C).length 1]; exact this
theorem ins_lh {f:Fn} {vs:List V} {k:Nat} {lo hi:V} (hob:st.obj l i = some (.list vs)) (hl:vs.length <= lim) (hk:k <= vs.length) (hR:st.R.length < 98) (hlv:x.lvlOk l = true) (hlo:lo.isClo = false) (hhi:hi.isClo = false) (hf:P.fns.find? (fun f=>f.addr == bd) = some f)
  (hc:∀ ρ,Call P f [.ref l i,x,lo,hi] [] ⟨ρ,st.R ++ [[]]⟩ (.int k) ⟨ρ,st.R ++ [[]]⟩):Call P (fIns ad bd) [.ref l i,x,lo,hi] [] st (.imm .none) (st.setObj l i (.list (insAt vs k x))):=by
 have hlt:=obj_lt hob
 have hx:=lvlOk_nc hlv
 have ho:∀ ρ,St.obj ⟨ρ,st.R ++ [[]]⟩ l i = some (.list vs):=fun ρ=>by rw [obj_app ρ st.ρ]; exact hob
 refine Call_next (st:=st) (ρ2:=[some (.ref l i),some x,some (.int k),some hi,some (.imm .none)]) (R2:=(st.setObj l i (.list (insAt vs k x))).R) (reg:=[]) (by lia) (bind_key rfl rfl rfl _ _ _ _) ?_
 show X P (insBody bd) ⟨[some (.ref l i),some x,some lo,some hi,some (.imm .none)],st.R ++ [[]]⟩ _ _
 refine X_next (st1:=⟨[some (.ref l i),some x,some (.int k),some hi,some (.imm .none)],st.R ++ [[]]⟩) ?_ (X_one (X1_expr (v:=.imm .none) (E_meth (E_slot rfl) ?_ (Es_cons (E_slot rfl) (Es_cons (E_slot rfl) Es_nil)) ?_)))
 ·exact X1_iteT' (r:=true) (T_cmp1 (E_slot rfl) E_none rfl) rfl (X_one (X1_assign (E_call E_imm (Es_cons (E_slot rfl) (Es_cons (E_slot rfl) (Es_cons (E_slot rfl) (Es_cons (E_slot rfl) Es_nil)))) Ek_nil (Ap_fn hf (hc _))) (As_slot' (by simp) rfl)))
 ·simp [methOk,listB,getOk,ho]
 ·have hs:small 60 (k:Int) = true:=by unfold small; unfold lim at hl; simp; lia
  have hn:("insert" : Str) ≠ ("append" : Str):=by decide +kernel
  simp only [methV,methL,methJ,methG,listV,arg1,arg2,intV,seqV,ho]
  rw [if_neg hn,if_pos trivial]
  simp [hlv,hl,hs,setObj_app st _ _ _ _ _ hlt]
theorem mid_ins (u:V) (w:List V) (A C:List Nat) (y:Nat):insAt (midL u (A ++ C) w) ((A.length + 1:Nat):Int) (.int (y:Nat)) = midL u (A ++ y :: C) w:=by
 have:=ins_split (u :: nv A) (nv C ++ w) (V.int (y:Nat))
 rw [show (u :: nv A).length = A.length + 1 by show (nv A).length + 1 = _; rw [nv_len]] at this
 show insAt (u :: (nv (A ++ C) ++ w)) _ _ = u :: (nv (A ++ y :: C) ++ w)
 rw [nv_app,nv_app,List.append_assoc,List.append_assoc]
 exact this
theorem insR_mid (hf:P.fns.find? (fun f=>f.addr == bd) = some (fBisR bd)) (hR:st.R.length < 80) (hob:st.obj l i = some (.list (midL u (A ++ C) w))) (hl:(A ++ C).length + w.length <= 100) (hA:∀ e ∈ A,e <= y) (hC:∀ e ∈ C,y < e) (hn:n = (A ++ C).length + 1) :
  Call P (fIns ad bd) [.ref l i,.int (y:Nat),.int 1,.int (n:Nat)] [] st (.imm .none) (st.setObj l i (.list (midL u (A ++ y :: C) w))):=by
 have:=ins_lh (P:=P) (ad:=ad) (bd:=bd) (k:=A.length + 1) (x:=.int (y:Nat)) (lo:=.int 1) (hi:=.int (n:Nat)) hob (by rw [mid_len]; unfold lim; lia) (by rw [mid_len,List.length_append]; lia) (by lia) rfl rfl rfl hf fun ρ=>bisR_mid (by show (st.R ++ [[]]).length < 90; rw [List.length_append]; show st.R.length + 1 < 90; lia) (show seqOf ⟨ρ,st.R ++ [[]]⟩ (.ref l i) = _ by show (match St.obj ⟨ρ,st.R ++ [[]]⟩ l i with | some (.list vs)=>some vs | _=>none) = _; rw [obj_app ρ st.ρ,show St.obj ⟨st.ρ,st.R⟩ l i = _ from hob]) hl hA hC hn
 rwa [mid_ins] at this
theorem insL_mid (hf:P.fns.find? (fun f=>f.addr == bd) = some (fBisL bd)) (hR:st.R.length < 80) (hob:st.obj l i = some (.list (midL u (A ++ C) w))) (hl:(A ++ C).length + w.length <= 100) (hA:∀ e ∈ A,e < y) (hC:∀ e ∈ C,y <= e) (hn:n = (A ++ C).length + 1) :
  Call P (fIns ad bd) [.ref l i,.int (y:Nat),.int 1,.int (n:Nat)] [] st (.imm .none) (st.setObj l i (.list (midL u (A ++ y :: C) w))):=by
 have:=ins_lh (P:=P) (ad:=ad) (bd:=bd) (k:=A.length + 1) (x:=.int (y:Nat)) (lo:=.int 1) (hi:=.int (n:Nat)) hob (by rw [mid_len]; unfold lim; lia) (by rw [mid_len,List.length_append]; lia) (by lia) rfl rfl rfl hf fun ρ=>bisL_mid (by show (st.R ++ [[]]).length < 90; rw [List.length_append]; show st.R.length + 1 < 90; lia) (show seqOf ⟨ρ,st.R ++ [[]]⟩ (.ref l i) = _ by show (match St.obj ⟨ρ,st.R ++ [[]]⟩ l i with | some (.list vs)=>some vs | _=>none) = _; rw [obj_app ρ st.ρ,show St.obj ⟨st.ρ,st.R⟩ l i = _ from hob]) hl hA hC hn
 rwa [mid_ins] at this
end
end
section
theorem h01_50:P01.fns.find? (fun f=>f.addr == 50) = some (fBisL 50):=rfl
theorem h01_32:P01.fns.find? (fun f=>f.addr == 32) = some (fBisR 32):=rfl
theorem h01_23:P01.fns.find? (fun f=>f.addr == 23) = some (fIns 23 32):=rfl
theorem h01_41:P01.fns.find? (fun f=>f.addr == 41) = some (fIns 41 50):=rfl
theorem h01_58:P01.fns.find? (fun f=>f.addr == 58) = some (fPF 58 51):=rfl
noncomputable def bW01:List MS:=[.assign (.slot 1) namesE,.ret (.lor [.meth (.const (.str ", ")) "join" [wordsE 2],.const (.str "0x0")])]
noncomputable def fW01 (a:Addr):Fn:={ addr:=a,np:=1,dfl:=[],key:=false,ns:=2,body:=bW01 }
theorem nm_pos:∀ k,k < 32->1 <= (nm k).length:=by decide +kernel
theorem join_sz (l:List Str) (h0:l ≠ []) (h1:∀ s ∈ l,1 <= s.length) (h2:∀ s ∈ l,s.length <= 1000) (hl:l.length <= 32):1 <= (Txt.join ", " l).length /\ (Txt.join ", " l).length <= lim:=by
 have e:(Txt.join ", " l).length = (l.map (·.length)).sum + (l.length - 1) * (", " : Str).length:=size_glued _ l
 have h3:(", " : Str).length = 2:=by decide +kernel
 rw [h3] at e
 have key:∀ l:List Str,(∀ s ∈ l,1 <= s.length)->(∀ s ∈ l,s.length <= 1000)->l.length <= (l.map (·.length)).sum /\ (l.map (·.length)).sum <= 1000 * l.length:=by
  intro l
  induction l with
  | nil=>intro _ _; exact ⟨Nat.le_refl _,Nat.le_refl _⟩
  | cons a l ih=>
   intro h1 h2
   have:=ih (fun s m=>h1 s (.tail _ m)) (fun s m=>h2 s (.tail _ m))
   have:=h1 a (.head _)
   have:=h2 a (.head _)
   simp only [List.map_cons,List.sum_cons,List.length_cons]
   lia
 have:=key l h1 h2
 have:0 < l.length:=List.length_pos_iff.mpr h0
 unfold lim
 lia
theorem W01_call {P:Pg} {ad:Addr} {st:St} {N:Nat} (hR:st.R.length < 100) (hN:N < 2 ^ 32):Call P (fW01 ad) [.int (N:Nat)] [] st (.str (Txt.join ", " (flagW 0 32 (N:Int)))) st:=by
 refine Call_ret (ρ2:=[some (.int (N:Nat)),some (.lst (nmL.map .str))]) (R2:=st.R) (reg:=[]) (v:=.str (Txt.join ", " (flagW 0 32 (N:Int)))) hR rfl ?_ rfl
 show X P bW01 ⟨[some (.int (N:Nat)),none],st.R ++ [[]]⟩ _ _
 refine X_next (X1_assign names_E (As_slot' (by simp) rfl)) (X_one (X1_ret ?_))
 have hwl:=words_len (N:Int)
 have eJ:=E_meth (E_str (P:=P) (st:=⟨[some (.int (N:Nat)),some (.lst (nmL.map .str))],st.R ++ [[]]⟩) (x := ", ")) rfl (Es_cons (words_comp (x:=(N:Int)) (b:=2) rfl rfl rfl) Es_nil) (n := "join") (join_lst (by lia) fun s m=>by
  obtain ⟨c,hc,rfl⟩:=List.mem_map.mp m
  exact Nat.le_trans (nm_len c (List.mem_range.mp (List.mem_filter.mp hc).1)) (by decide))
 by_cases h0:N = 0
 ·subst h0
  have e:wordsOf' ((0:Nat):Int) = []:=by decide +kernel
  rw [e] at eJ
  rw [show Txt.join ", " (flagW 0 32 ((0:Nat):Int)) = "0x0" by decide +kernel]
  exact E_lorF eJ rfl (E_lor1 E_str)
 ·have h2:((N:Nat):Int) / 2 ^ 32 = 0:=Int.ediv_eq_zero_of_lt (Int.natCast_nonneg N) (by lia)
  obtain ⟨i,hi,hb⟩:=bit_some 32 (N:Int) (by lia) (by lia)
  have hf:(List.range 32).filter (hasBit (N:Int)) ≠ []:=fun e=>by
   have:=List.mem_filter.mpr ⟨List.mem_range.mpr hi,hb⟩
   rw [e] at this; cases this
  have e:=flagW_eq 32 0 (N:Int)
  rw [if_neg (fun h=>h.elim (fun h=>h h2) hf),List.append_nil,show (fun i=>nm (0 + i)) = nm from funext fun i=>by rw [Nat.zero_add]] at e
  rw [e]
  obtain ⟨z1,z2⟩:=join_sz (wordsOf' (N:Int)) (fun w=>hf (List.map_eq_nil_iff.mp w)) (fun s m=>by
   obtain ⟨c,hc,rfl⟩:=List.mem_map.mp m
   exact nm_pos c (List.mem_range.mp (List.mem_filter.mp hc).1)) (fun s m=>by
   obtain ⟨c,hc,rfl⟩:=List.mem_map.mp m
   exact Nat.le_trans (nm_len c (List.mem_range.mp (List.mem_filter.mp hc).1)) (by decide)) hwl
  refine E_lorT eJ ?_
  show (if (Txt.join ", " (wordsOf' (N:Int))).length <= lim then some (((Txt.join ", " (wordsOf' (N:Int))).length:Int) != 0) else none) = _
  rw [if_pos z2]
  generalize (Txt.join ", " (wordsOf' (N:Int))).length = z at z1
  rw [bne_iff_ne.mpr (by lia:(z:Int) ≠ 0)]
theorem h01_89:P01.fns.find? (fun f=>f.addr == 89) = some (fW01 89):=rfl
theorem pop_at {G:Pg} {ρ:List (Option V)} {R:List (List AObj)} {l i k:Nat} {vs:List V} {v:V} (ho:St.obj ⟨ρ,R⟩ l i = some (.list vs)) (hl:vs.length <= lim) (hk:vs[k]? = some v) :
  methV G ⟨ρ,R⟩ (.ref l i) "pop" [.int (k:Nat)] = some (v,⟨ρ,up R l i (.list (vs.eraseIdx k))⟩) /\ methOk G ⟨ρ,R⟩ (.ref l i) "pop" = true:=by
 constructor
 ·show listV ⟨ρ,R⟩ l i (methL ⟨ρ,R⟩ l i "pop" [.int (k:Nat)]) = _
  rw [listV_of ho]
  unfold methL
  rw [if_neg (by decide +kernel),if_neg (by decide +kernel),if_neg (by decide +kernel),if_pos rfl]
  show (if decide ((0:Int) <= (k:Nat)) && decide (vs.length <= lim) then (match vs[((k:Nat):Int).toNat]? with | some v=>some (v,St.setObj ⟨ρ,R⟩ l i (.list (vs.eraseIdx ((k:Nat):Int).toNat))) | none=>none) else none) = _
  rw [if_pos (by rw [decide_eq_true hl,decide_eq_true (by lia)]; rfl),Int.toNat_natCast,hk]
  rfl
 ·show listB ⟨ρ,R⟩ l i _ = true
  unfold listB
  rw [ho]; rfl
theorem flat1 {α:Type} (a:α):∀ k,(List.replicate k [a]).flatten = List.replicate k a
 | 0=>rfl
 | k + 1=>by rw [List.replicate_succ,List.flatten_cons,flat1 a k]; rfl
noncomputable abbrev car (r:List Nat):List V:=midL (.int 99) r [.int (-1)]
noncomputable def zlE (i:Nat):ME:=.bin .Mult (.lst [(.const (.int 0))] false) (.slot i) false
noncomputable def carE (i:Nat) (mu:Bool):ME:=.bin .Add (.bin .Add (.lst [(.const (.int 99))] false) (zlE i) false) (.lst [(.un .USub (.const (.int 1)))] false) mu
section
variable {P:Pg} {ρ:List (Option V)} {R0:List (List AObj)} {r:List AObj} {i n:Nat} {st:St}
theorem zl_E (h:st.ρ[i]? = some (some (.int (n:Nat)))) (hn:n <= 100):E P (zlE i) st (.lst (nv (List.replicate n 0))) st:=by
 refine E_bin (E_lst (vs:=[.int 0]) (Es_cons E_int Es_nil) rfl) (E_slot h) ?_
 show (if decide ((-1000:Int) <= (n:Nat)) && decide (((n:Nat):Int) <= 1000) && decide (1 <= 64) then mkL false (List.replicate ((n:Nat):Int).toNat [V.int 0]).flatten st else none) = _
 rw [if_pos (by simp; lia),Int.toNat_natCast,flat1]
 unfold mkL nv
 rw [if_pos (by simp; unfold lim; lia),List.map_replicate]; rfl
theorem car0_E (h:st.ρ[i]? = some (some (.int (n:Nat)))) (hn:n <= 100):E P (.bin .Add (.lst [(.const (.int 99))] false) (zlE i) false) st (.lst (.int 99 :: nv (List.replicate n 0))) st:=
 E_bin (E_lst (vs:=[.int 99]) (Es_cons E_int Es_nil) rfl) (zl_E h hn) (add_seq (vs:=[.int 99]) (us:=nv (List.replicate n 0)) rfl rfl (by rw [List.length_append,nv_len,List.length_replicate]; show 1 + n <= lim; unfold lim; lia))
theorem carF_E (h:st.ρ[i]? = some (some (.int (n:Nat)))) (hn:n <= 100):E P (carE i false) st (.lst (car (List.replicate n 0))) st:=
 E_bin (car0_E h hn) (E_lst (vs:=[.int (-1)]) (Es_cons (E_neg (i:=1) E_int) Es_nil) rfl) (add_seq (vs:=.int 99 :: nv (List.replicate n 0)) (us:=[.int (-1)]) rfl rfl (by rw [List.length_append]; show (nv (List.replicate n 0)).length + 1 + 1 <= lim; rw [nv_len,List.length_replicate]; unfold lim; lia))
theorem carT_E (h:ρ[i]? = some (some (.int (n:Nat)))) (hn:n <= 100):E P (carE i true) ⟨ρ,R0 ++ [r]⟩ (.ref R0.length r.length) ⟨ρ,R0 ++ [r ++ [.list (car (List.replicate n 0))]]⟩:=by
 refine E_bin (car0_E h hn) (E_lst (vs:=[.int (-1)]) (Es_cons (E_neg (i:=1) E_int) Es_nil) rfl) ?_
 show mkL true (V.int 99 :: nv (List.replicate n 0) ++ [.int (-1)]) ⟨ρ,R0 ++ [r]⟩ = _
 unfold mkL
 rw [if_pos (by rw [List.length_append]; show (nv (List.replicate n 0)).length + 1 + 1 <= lim; rw [nv_len,List.length_replicate]; unfold lim; lia)]
 simp [St.alloc]
theorem new_top {r:List AObj}:E P (.lst [] true) ⟨ρ,R0 ++ [r]⟩ (.ref R0.length r.length) ⟨ρ,R0 ++ [r ++ [.list []]]⟩:=by
 refine E_lst Es_nil ?_
 simp [mkL,St.alloc]
theorem car_len (r:List Nat):(car r).length = r.length + 2:=mid_len _ _ _
theorem car_ints (r:List Nat):car r = ((99:Int) :: (r.map (fun c=>((c:Nat):Int)) ++ [-1])).map .int:=by
 show V.int 99 :: (nv r ++ [.int (-1)]) = _
 rw [nv_ints,List.map_cons,List.map_append]; rfl
theorem eqV_car (st:St) (r:List Nat):eqV st (.lst (car r)) (.lst (car r)) = some true:=by rw [car_ints]; exact eqV_ints st _
theorem car_pop (A C:List Nat) (o:Nat):(car (A ++ o :: C))[A.length + 1]? = some (.int (o:Nat)) /\ (car (A ++ o :: C)).eraseIdx (A.length + 1) = car (A ++ C):=by
 have e:car (A ++ o :: C) = (V.int 99 :: nv A) ++ (V.int (o:Nat) :: (nv C ++ [.int (-1)])):=by
  show V.int 99 :: (nv (A ++ o :: C) ++ [.int (-1)]) = _
  rw [nv_app,List.append_assoc]; rfl
 have hl:(V.int 99 :: nv A).length = A.length + 1:=by show (nv A).length + 1 = _; rw [nv_len]
 have e2:car (A ++ C) = (V.int 99 :: nv A) ++ (nv C ++ [.int (-1)]):=by
  show V.int 99 :: (nv (A ++ C) ++ [.int (-1)]) = _
  rw [nv_app,List.append_assoc]; rfl
 rw [e,e2]
 constructor
 ·rw [List.getElem?_append_right (Nat.le_of_eq hl),hl,Nat.sub_self]; rfl
 ·rw [List.eraseIdx_append_of_length_le (Nat.le_of_eq hl),hl,Nat.sub_self]; rfl
end
section
variable {ρ:List (Option V)} {R0:List (List AObj)} {n x k:Nat} {r os ms:List Nat} {L:List (Nat × V)}
noncomputable abbrev Rg (R0:List (List AObj)) (c:List V) (os ms:List Nat):List (List AObj):=R0 ++ [[.list c,.list (nv os),.list (nv ms)]]
theorem rg_0 (ρ:List (Option V)) (c:List V):St.obj ⟨ρ,Rg R0 c os ms⟩ R0.length 0 = some (.list c):=by rw [obj_last]; rfl
theorem rg_1 (ρ:List (Option V)) (c:List V):St.obj ⟨ρ,Rg R0 c os ms⟩ R0.length 1 = some (.list (nv os)):=by rw [obj_last]; rfl
theorem rg_2 (ρ:List (Option V)) (c:List V):St.obj ⟨ρ,Rg R0 c os ms⟩ R0.length 2 = some (.list (nv ms)):=by rw [obj_last]; rfl
theorem rg_len (R0:List (List AObj)) (c:List V) (os ms:List Nat):(Rg R0 c os ms).length = R0.length + 1:=by rw [List.length_append]; rfl
theorem all_same:∀ {D:List Nat} {F:List Nat},(∀ d ∈ D,d = x)->D ++ x :: F = x :: (D ++ F)
 | [],_,_=>rfl
 | d :: D,F,h=>by
  obtain ⟨h1,h2⟩:=List.forall_mem_cons.mp h
  rw [List.cons_append,all_same h2,h1]; rfl
theorem put_R {st:St} {l i:Nat} {A C:List Nat} (hR:st.R.length < 80) (hob:st.obj l i = some (.list (car (A ++ C)))) (hn:n = (A ++ C).length + 1) (hl:n <= 90) (hA:∀ e ∈ A,e <= x) (hC:∀ e ∈ C,x <= e) (hs:Srt C) :
  Call P01 (fIns 23 32) [.ref l i,.int (x:Nat),.int 1,.int (n:Nat)] [] st (.imm .none) (st.setObj l i (.list (car (A ++ x :: C)))):=by
 obtain ⟨D,F,rfl,hD,hF⟩:=cut_gt hs x
 rw [<- List.append_assoc] at hob hn
 have:=insR_mid (P:=P01) (ad:=23) h01_32 hR hob (by show (A ++ D ++ F).length + 1 <= 100; lia) (fun e m=>(List.mem_append.mp m).elim (hA e) (hD e)) hF hn
 rw [List.append_assoc,all_same fun d m=>Nat.le_antisymm (hD d m) (hC d (List.mem_append_left _ m))] at this
 exact this
theorem put_L {st:St} {l i:Nat} {A C:List Nat} (hR:st.R.length < 80) (hob:st.obj l i = some (.list (car (A ++ C)))) (hn:n = (A ++ C).length + 1) (hl:n <= 90) (hA:∀ e ∈ A,e <= x) (hC:∀ e ∈ C,x <= e) (hs:Srt A) :
  Call P01 (fIns 41 50) [.ref l i,.int (x:Nat),.int 1,.int (n:Nat)] [] st (.imm .none) (st.setObj l i (.list (car (A ++ x :: C)))):=by
 obtain ⟨D,F,rfl,hD,hF⟩:=cut_ge hs x
 rw [List.append_assoc] at hob hn
 have:=insL_mid (P:=P01) (ad:=41) h01_50 hR hob (by show (D ++ (F ++ C)).length + 1 <= 100; lia) hD (fun e m=>(List.mem_append.mp m).elim (hF e) (hC e)) hn
 rw [<- all_same (F:=C) (D:=F) fun d m=>Nat.le_antisymm (hA d (List.mem_append_right _ m)) (hF d m),<- List.append_assoc] at this
 exact this
theorem mkP_len:∀ (bs:List Bool) (k:Nat),(mkP k bs).length = cn bs
 | [],_=>rfl
 | b :: bs,k=>by
  show ((if b then [k] else []) ++ mkP (k + 1) bs).length = _
  rw [List.length_append,mkP_len bs]
  unfold cn
  rw [List.countP_cons]
  cases b
  ·show 0 + _ = _ + 0; lia
  ·show 1 + _ = _ + 1; lia
theorem mkP_lt:∀ (bs:List Bool) (k:Nat),∀ p ∈ mkP k bs,p < k + bs.length
 | [],_,_,h=>nomatch h
 | b :: bs,k,p,h=>by
  rcases List.mem_append.mp h with h | h
  ·cases b
   ·cases h
   ·have:=List.mem_singleton.mp h
    rw [this,List.length_cons]; lia
  ·have:=mkP_lt bs (k + 1) p h
   rw [List.length_cons]; lia
theorem pa_step (hR0:R0.length < 60) (hs:Srt r) (hr:r.length = n) (h0:0 < n) (hn:n <= 20) (hos:os.length <= 100) (hms:ms.length <= 100) (h:Hv 10 ρ ((7,.int (x:Nat)) :: (6,.int (k:Nat)) :: (1,.int (n:Nat)) :: (3,.ref R0.length 0) :: (4,.ref R0.length 1) :: (5,.ref R0.length 2) :: L)) (h8:(L.map (·.1)).contains 8 = false) :
  ∃ ρ',Hv 10 ρ' ((1,.int (n:Nat)) :: (3,.ref R0.length 0) :: (4,.ref R0.length 1) :: (5,.ref R0.length 2) :: L) /\ X P01 pa1B ⟨ρ,Rg R0 (car r) os ms⟩ .next ⟨ρ',Rg R0 (car (stepN r x).2.1) (os ++ [(stepN r x).1]) (ms ++ if (stepN r x).2.2 then [k] else [])⟩:=by
 obtain ⟨A,C,rfl,hA,hC⟩:=cut_ge hs x
 rw [List.length_append] at hr
 have hh:=h.put (i:=8) (.int (A.length:Nat)) (by simpa using h8) (by decide)
 have hc:=bisL_mid (P:=P01) (ad:=50) (st:=⟨ρ,Rg R0 (car (A ++ C)) os ms⟩) (a:=.ref R0.length 0) (u:=.int 99) (w:=[.int (-1)]) (n:=n + 1) (by show (Rg R0 (car (A ++ C)) os ms).length < 90; rw [rg_len]; lia) (by show (match St.obj ⟨ρ,Rg R0 (car (A ++ C)) os ms⟩ R0.length 0 with | some (.list vs)=>some vs | _=>none) = _; rw [rg_0]) (by rw [List.length_append]; show A.length + C.length + 1 <= 100; lia) hA hC (by rw [List.length_append,hr])
 have x0:X1 P01 pa1B0 ⟨ρ,Rg R0 (car (A ++ C)) os ms⟩ .next ⟨ρ.set 8 (some (.int (A.length:Nat))),Rg R0 (car (A ++ C)) os ms⟩:=by
  refine X1_assign ?_ (As_hv h (by decide))
  have:=sub_nat (x:=A.length + 1) (y:=1) (Nat.le_add_left _ _) (E_call E_imm (Es_cons (E_slot (h.get 3 rfl)) (Es_cons (E_slot (h.get 0 rfl)) (Es_cons (E_int (i:=1)) (Es_cons (add_nat (y:=1) (E_slot (h.get 2 rfl)) E_int) Es_nil)))) Ek_nil (Ap_fn h01_50 hc)) (E_int (i:=1))
  rw [Nat.add_sub_cancel] at this
  exact this
 have x1:X1 P01 pa1B1 ⟨ρ.set 8 (some (.int (A.length:Nat))),Rg R0 (car (A ++ C)) os ms⟩ .next ⟨ρ.set 8 (some (.int (A.length:Nat))),Rg R0 (car (A ++ C)) os (ms ++ if A.length != 0 then [k] else [])⟩:=by
  have t:=T_val (P:=P01) (d:=8) (E_slot (P:=P01) (st:=⟨ρ.set 8 (some (.int (A.length:Nat))),Rg R0 (car (A ++ C)) os ms⟩) (hh.get 0 rfl)) (int_nz A.length) rfl
  cases e:A.length != 0 with
  | false=>
   rw [e] at t
   rw [if_neg Bool.false_ne_true,List.append_nil]
   exact X1_iteF t X_nil
  | true=>
   rw [e] at t
   rw [if_pos rfl]
   obtain ⟨a1,a2⟩:=app_at (G:=P01) (w:=.int (k:Nat)) (rg_2 (R0:=R0) (os:=os) (ms:=ms) (ρ.set 8 (some (.int (A.length:Nat)))) (car (A ++ C))) (by rw [nv_len]; unfold lim; lia) rfl
   rw [up_last,show nv ms ++ [V.int (k:Nat)] = nv (ms ++ [k]) from (nv_app ms [k]).symm] at a1
   exact X1_iteT t (X_one (X1_expr (E_meth (E_slot (hh.get 6 rfl)) a2 (Es_cons (E_slot (hh.get 2 rfl)) Es_nil) a1)))
 generalize hms2:(ms ++ if A.length != 0 then [k] else []) = ms2 at x1
 have fin:∀ (A' C' A2 C2:List Nat) (o:Nat),A ++ C = A' ++ o :: C'->A' ++ C' = A2 ++ C2->(∀ a ∈ A2,a <= x)->(∀ c ∈ C2,x <= c)->Srt C2->E P01 (.ite (.slot 8) (.slot 8) (.slot 1)) ⟨ρ.set 8 (some (.int (A.length:Nat))),Rg R0 (car (A ++ C)) os ms2⟩ (.int (A'.length + 1:Nat)) ⟨ρ.set 8 (some (.int (A.length:Nat))),Rg R0 (car (A ++ C)) os ms2⟩->
   X P01 [pa1B2,pa1B3] ⟨ρ.set 8 (some (.int (A.length:Nat))),Rg R0 (car (A ++ C)) os ms2⟩ .next ⟨ρ.set 8 (some (.int (A.length:Nat))),Rg R0 (car (A2 ++ x :: C2)) (os ++ [o]) ms2⟩:=fun A' C' A2 C2 o e e2 hA2 hC2 hs2 hE=>by
  have hlen:A'.length + C'.length + 1 = n:=by
   have:=congrArg List.length e
   rw [List.length_append,List.length_append,List.length_cons] at this; lia
  have hlen2:(A2 ++ C2).length + 1 = n:=by rw [<- e2,List.length_append]; exact hlen
  rw [e] at hE ⊢
  obtain ⟨q1,q2⟩:=car_pop A' C' o
  obtain ⟨p1,p2⟩:=pop_at (G:=P01) (k:=A'.length + 1) (v:=.int (o:Nat)) (rg_0 (R0:=R0) (os:=os) (ms:=ms2) (ρ.set 8 (some (.int (A.length:Nat)))) (car (A' ++ o :: C'))) (by rw [car_len,List.length_append]; unfold lim; show A'.length + (C'.length + 1) + 2 <= 1000000; lia) q1
  rw [up_last,q2,e2] at p1
  obtain ⟨a1,a2⟩:=app_at (G:=P01) (w:=.int (o:Nat)) (rg_1 (R0:=R0) (os:=os) (ms:=ms2) (ρ.set 8 (some (.int (A.length:Nat)))) (car (A2 ++ C2))) (by rw [nv_len]; unfold lim; lia) rfl
  rw [up_last,show nv os ++ [V.int (o:Nat)] = nv (os ++ [o]) from (nv_app os [o]).symm] at a1
  have c:=put_R (x:=x) (n:=n) (st:=⟨ρ.set 8 (some (.int (A.length:Nat))),Rg R0 (car (A2 ++ C2)) (os ++ [o]) ms2⟩) (by show (Rg R0 (car (A2 ++ C2)) (os ++ [o]) ms2).length < 80; rw [rg_len]; lia) (rg_0 _ _) hlen2.symm (by lia) hA2 hC2 hs2
  rw [setObj_up,up_last] at c
  refine X_next (st1:=⟨ρ.set 8 (some (.int (A.length:Nat))),Rg R0 (car (A2 ++ C2)) (os ++ [o]) ms2⟩) (X1_expr (E_meth (E_slot (hh.get 5 rfl)) (by show listB ⟨_,_⟩ _ _ _ = true; unfold listB; rw [rg_1]; rfl) (Es_cons (E_meth (E_slot (hh.get 4 rfl)) p2 (Es_cons hE Es_nil) p1) Es_nil) a1)) ?_
  exact X_one (X1_expr (E_call E_imm (Es_cons (E_slot (hh.get 4 rfl)) (Es_cons (E_slot (hh.get 1 rfl)) (Es_cons (E_int (i:=1)) (Es_cons (E_slot (hh.get 3 rfl)) Es_nil)))) Ek_nil (Ap_fn h01_23 c)))
 refine ⟨ρ.set 8 (some (.int (A.length:Nat))),hh.tl.tl.tl,X_next x0 (X_next x1 ?_)⟩
 rcases List.eq_nil_or_concat A with rfl | ⟨A',o,rfl⟩
 ·rcases List.eq_nil_or_concat C with rfl | ⟨i,o,rfl⟩
  ·exact absurd hr (Nat.ne_of_lt h0)
  ·rw [List.concat_eq_append] at *
   have hC0:∀ c ∈ i ++ [o],x <= c:=hC
   have e1:([]:List Nat) ++ (i ++ [o]) = i ++ o :: []:=rfl
   have e2:ms2 = ms ++ if false then [k] else []:=hms2.symm
   have hlen:n = i.length + 1:=by rw [<- hr,List.length_append]; show 0 + (i.length + 1) = _; lia
   have es:=E_slot (P:=P01) (st:=⟨ρ.set 8 (some (.int (([]:List Nat).length:Nat))),Rg R0 (car ([] ++ (i ++ [o]))) os ms2⟩) (v:=.int (i.length + 1:Nat)) ((hh.get 3 rfl).trans (by rw [hlen]))
   have tt:=T_val (P:=P01) (d:=8) (E_slot (P:=P01) (st:=⟨ρ.set 8 (some (.int (([]:List Nat).length:Nat))),Rg R0 (car ([] ++ (i ++ [o]))) os ms2⟩) (hh.get 0 rfl)) (int_nz 0) rfl
   have hsi:Srt i:=(srt_app.mp (show Srt (i ++ [o]) from hs)).1
   have:=fin i [] [] i o e1 (by rw [List.append_nil]; rfl) (fun u_ h=>nomatch h) (fun c m=>hC0 c (List.mem_append_left _ m)) hsi (E_iteF tt es)
   rw [show stepN ([] ++ (i ++ [o])) x = _ from step_none hC0,<- e2]
   exact this
 ·rw [List.concat_eq_append] at *
  have ho:=hA o (List.mem_append_right _ (.head _))
  have hA':∀ a ∈ A',a < x:=fun a m=>hA a (List.mem_append_left _ m)
  have e1:A' ++ [o] ++ C = A' ++ o :: C:=by rw [List.append_assoc]; rfl
  have el:(A' ++ [o]).length = A'.length + 1:=by rw [List.length_append]; rfl
  have e2:ms2 = ms ++ if true then [k] else []:=by rw [<- hms2,el]; rfl
  have es:=E_slot (P:=P01) (st:=⟨ρ.set 8 (some (.int ((A' ++ [o]).length:Nat))),Rg R0 (car (A' ++ [o] ++ C)) os ms2⟩) (v:=.int (A'.length + 1:Nat)) ((hh.get 0 rfl).trans (by rw [el]))
  have tt:=T_val (P:=P01) (d:=8) (E_slot (P:=P01) (st:=⟨ρ.set 8 (some (.int ((A' ++ [o]).length:Nat))),Rg R0 (car (A' ++ [o] ++ C)) os ms2⟩) (hh.get 0 rfl)) (int_nz _) rfl
  rw [show ((A' ++ [o]).length != 0) = true by rw [el]; rfl] at tt
  have hsC:Srt C:=(srt_app.mp hs).2.1
  have:=fin A' C A' C o e1 rfl (fun a m=>Nat.le_of_lt (hA' a m)) hC hsC (E_iteT tt es)
  rw [show stepN (A' ++ [o] ++ C) x = _ from (congrArg (stepN · x) e1).trans (step_any hA' ho hC),<- e2]
  exact this
end
end
section
section
variable {ρ:List (Option V)} {R0:List (List AObj)} {n x k:Nat} {r os ms:List Nat} {L:List (Nat × V)}
theorem pa_loop (hR0:R0.length < 60) (h0:0 < n) (hn:n <= 20) (h6:(L.map (·.1)).contains 6 = false) (h7:(L.map (·.1)).contains 7 = false) (h8:(L.map (·.1)).contains 8 = false):∀ (xs:List Nat) (k:Nat) (r os ms:List Nat) (ρ:List (Option V)),Srt r->r.length = n->os.length + xs.length <= 100->ms.length + xs.length <= 100->
  Hv 10 ρ ((1,.int (n:Nat)) :: (3,.ref R0.length 0) :: (4,.ref R0.length 1) :: (5,.ref R0.length 2) :: L)->
  ∃ ρ',Hv 10 ρ' ((1,.int (n:Nat)) :: (3,.ref R0.length 0) :: (4,.ref R0.length 1) :: (5,.ref R0.length 2) :: L) /\
   X P01 [.forGo (.tup [.slot 6,.slot 7]) (.en k (.seq (nv xs))) pa1B []] ⟨ρ,Rg R0 (car r) os ms⟩ .next ⟨ρ',Rg R0 (car (finN r xs)) (os ++ (passN r xs).1) (ms ++ mkP k (passN r xs).2)⟩
 | [],k,r,os,ms,ρ,_,_,_,_,h=>⟨ρ,h,by
  show X P01 _ _ _ ⟨ρ,Rg R0 (car r) (os ++ []) (ms ++ [])⟩
  rw [List.append_nil,List.append_nil]
  exact F_end rfl X_nil⟩
 | x :: xs,k,r,os,ms,ρ,hs,hr,h1,h2,h=>by
  have h1:os.length + (xs.length + 1) <= 100:=h1
  have h2:ms.length + (xs.length + 1) <= 100:=h2
  have hr0:r ≠ []:=fun e=>by rw [e] at hr; exact absurd hr (Nat.ne_of_lt h0)
  have g6:=h.put (i:=6) (.int (k:Nat)) (by simpa using h6) (by decide)
  have g7:=g6.put (i:=7) (.int (x:Nat)) (by simpa using h7) (by decide)
  obtain ⟨ρ1,k1,x1⟩:=pa_step (k:=k) (os:=os) (ms:=ms) hR0 hs hr h0 hn (by lia) (by lia) g7 h8
  obtain ⟨hs2,hr2⟩:=step_srt hs hr0 x
  have hb:((ms ++ if (stepN r x).2.2 then [k] else [])).length <= ms.length + 1:=by
   rw [List.length_append]
   cases (stepN r x).2.2
   ·exact Nat.le_succ _
   ·exact Nat.le_refl _
  obtain ⟨ρ2,k2,x2⟩:=pa_loop hR0 h0 hn h6 h7 h8 xs (k + 1) _ (os ++ [(stepN r x).1]) (ms ++ if (stepN r x).2.2 then [k] else []) ρ1 hs2 (hr2.trans hr) (by rw [List.length_append]; show os.length + 1 + xs.length <= 100; lia) (by lia) k1
  refine ⟨ρ2,k2,F_on rfl (As_tup2 (As_hv h (by decide)) (As_hv g6 (by decide))) x1 ?_⟩
  rw [List.append_assoc,List.append_assoc] at x2
  exact x2
theorem h01_101:P01.fns.find? (fun f=>f.addr == 101) = some f01__law_pass:=rfl
theorem head3 {n:Nat} {v0 v1 v2:V} (l:List (Option V)) (hl:l.length + 3 = n):Hv n (some v0 :: some v1 :: some v2 :: l) [(0,v0),(1,v1),(2,v2)]:=⟨hl,fun p m=>by
 rcases List.mem_cons.mp m with rfl | m
 ·rfl
 rcases List.mem_cons.mp m with rfl | m
 ·rfl
 ·rw [List.mem_singleton.mp m]; rfl⟩
noncomputable def sumP (f:Nat) (ms:List Nat):Nat:=(ms.map fun p=>2 ^ (p + f)).sum
theorem sumP_lt {f:Nat}:∀ {ms:List Nat},(∀ p ∈ ms,p + f <= 27)->sumP f ms <= ms.length * 2 ^ 27
 | [],_=>Nat.zero_le _
 | p :: ms,h=>by
  obtain ⟨h1,h2⟩:=List.forall_mem_cons.mp h
  have:=sumP_lt h2
  have h3:2 ^ (p + f) <= 2 ^ 27:=Nat.pow_le_pow_right (by decide) h1
  show 2 ^ (p + f) + sumP f ms <= (ms.length + 1) * 2 ^ 27
  rw [Nat.succ_mul,Nat.add_comm]
  exact Nat.add_le_add this h3
theorem sumP_bi {st:St} {f:Nat} {ms:List Nat} (h:∀ p ∈ ms,p + f <= 27) (hl:ms.length <= 100):biV st "sum" [.lst (ms.map fun p=>.int (2 ^ (p + f):Nat))] = some (.int (sumP f ms:Nat),st):=by
 have e:(ms.map fun p=>V.int (2 ^ (p + f):Nat)) = (ms.map fun p=>((2 ^ (p + f):Nat):Int)).map .int:=by rw [List.map_map]; rfl
 have hs:∀ l:List Nat,(l.map fun p=>((2 ^ (p + f):Nat):Int)).sum = (sumP f l:Nat):=fun l=>by
  induction l with
  | nil=>rfl
  | cons p l ih=>rw [List.map_cons,List.sum_cons,ih]; rfl
 rw [e,sum_bi,hs]
 rw [Bool.and_eq_true,List.all_eq_true,decide_eq_true_eq,List.length_map]
 refine ⟨fun i hi=>?_,by lia⟩
 obtain ⟨p,hp,rfl⟩:=List.mem_map.mp hi
 have h2:2 ^ (p + f) <= 2 ^ 27:=Nat.pow_le_pow_right (by decide) (h p hp)
 exact decide_eq_true (by rw [Int.natAbs_natCast]; lia)
theorem pass_call {st:St} {B:List Nat} {n f:Nat} (hR:st.R.length < 60) (h0:0 < n) (hl:B.length + n <= 14) (hf:f <= 14):Call P01 f01__law_pass [.lst (nv B),.int (n:Nat),.int (f:Nat)] [] st (.tup [.lst (nv (PN n B).1),.int (cn (PN n B).2:Nat)]) st:=by
 have hz:=fin_PN h0 B
 obtain ⟨l1,l2⟩:=PN_len n B
 generalize hms:mkP 0 (PN n B).2 = ms
 have hml:ms.length = cn (PN n B).2:=by rw [<- hms,mkP_len]
 have hml2:ms.length <= 14:=by rw [hml]; exact Nat.le_trans List.countP_le_length (by rw [l2]; exact hl)
 have hmp:∀ p ∈ ms,p + f <= 27:=fun p m=>by
  rw [<- hms] at m
  have:=mkP_lt _ _ p m
  rw [l2] at this; lia
 have hN:=sumP_lt hmp
 generalize hNN:sumP f ms = N at hN
 have hN2:N < 2 ^ 32:=Nat.lt_of_le_of_lt (Nat.le_trans hN (Nat.mul_le_mul_right _ hml2)) (by decide)
 have k0:Hv 10 (emptyFrame 10 [.lst (nv B),.int (n:Nat),.int (f:Nat)]) [(0,.lst (nv B)),(1,.int (n:Nat)),(2,.int (f:Nat))]:=head3 (List.replicate 7 none) rfl
 have k1:=k0.put (i:=3) (.ref st.R.length 0) rfl (by decide)
 have k2:=k1.put (i:=4) (.ref st.R.length 1) rfl (by decide)
 have k3:=k2.put (i:=5) (.ref st.R.length 2) rfl (by decide)
 have x0:X1 P01 pa0 ⟨emptyFrame 10 [.lst (nv B),.int (n:Nat),.int (f:Nat)],st.R ++ [[]]⟩ .next ⟨_,Rg st.R (car (List.replicate n 0)) [] []⟩:=
  X1_assign (E_tup (Es_cons (carT_E (R0:=st.R) (r:=[]) (k0.get 1 rfl) (by lia)) (Es_cons (new_top (R0:=st.R) (r:=[.list (car (List.replicate n 0))])) (Es_cons (new_top (R0:=st.R) (r:=[.list (car (List.replicate n 0)),.list []])) Es_nil)))) (As_tup (AsL_cons (As_hv k0 (by decide)) (AsL_cons (As_hv k1 (by decide)) (AsL_cons (As_hv k2 (by decide)) AsL_nil))))
 have kk:Hv 10 ((((emptyFrame 10 [.lst (nv B),.int (n:Nat),.int (f:Nat)]).set 3 (some (.ref st.R.length 0))).set 4 (some (.ref st.R.length 1))).set 5 (some (.ref st.R.length 2))) ((1,.int (n:Nat)) :: (3,.ref st.R.length 0) :: (4,.ref st.R.length 1) :: (5,.ref st.R.length 2) :: [(2,.int (f:Nat))]):=
  ((((k0.sub (l':=[(2,.int (f:Nat))]) (fun p m=>by rw [List.mem_singleton.mp m]; exact .tail _ (.tail _ (.head _)))).set (i:=3) _ rfl).set (i:=4) _ rfl).set (i:=5) _ rfl |>.add (k3.get 0 rfl)).add (k3.get 1 rfl) |>.add (k3.get 2 rfl) |>.add (k3.get 4 rfl)
 obtain ⟨ρ1,g1,x1⟩:=pa_loop (L:=[(2,.int (f:Nat))]) (R0:=st.R) hR h0 (by lia) rfl rfl rfl (B ++ List.replicate n 0) 0 (List.replicate n 0) [] [] _ (srt_zeros n) (List.length_replicate ..) (by rw [List.length_append,List.length_replicate]; show 0 + _ <= 100; lia) (by rw [List.length_append,List.length_replicate]; show 0 + _ <= 100; lia) kk
 rw [hz,List.nil_append,List.nil_append] at x1
 have x1:X P01 [.forGo (.tup [.slot 6,.slot 7]) (.en 0 (.seq (nv (B ++ List.replicate n 0)))) pa1B []] _ .next ⟨ρ1,Rg st.R (car (List.replicate n 0)) (PN n B).1 (mkP 0 (PN n B).2)⟩:=x1
 rw [hms] at x1
 have xf:X1 P01 pa1 _ .next ⟨ρ1,Rg st.R (car (List.replicate n 0)) (PN n B).1 ms⟩:=X1_for (I_enum (v:=.lst (nv (B ++ List.replicate n 0))) (E_bin (E_slot (v:=.lst (nv B)) (k3.get 3 rfl)) (zl_E (n:=n) (k3.get 4 rfl) (by lia)) (by rw [nv_app]; exact add_seq (vs:=nv B) (us:=nv (List.replicate n 0)) rfl rfl (by rw [List.length_append,nv_len,nv_len,List.length_replicate]; unfold lim; lia))) rfl) x1
 have o2:∀ ρ,St.obj ⟨ρ,Rg st.R (car (List.replicate n 0)) (PN n B).1 ms⟩ st.R.length 2 = some (.list (nv ms)):=fun ρ=>rg_2 ρ _
 have x2:X1 P01 pa2 ⟨ρ1,Rg st.R (car (List.replicate n 0)) (PN n B).1 ms⟩ .next ⟨ρ1.set 9 (some (.int (N:Nat))),Rg st.R (car (List.replicate n 0)) (PN n B).1 ms⟩:=by
  have hb:=sumP_bi (st:=⟨ρ1,Rg st.R (car (List.replicate n 0)) (PN n B).1 ms⟩) hmp (by lia)
  rw [hNN] at hb
  refine X1_assign (E_call E_imm (Es_cons (E_map (f:=fun p:Nat=>V.int (p:Nat)) (xs:=ms) g1 (I_val (E_slot (g1.get 3 rfl)) (by show (match St.obj _ st.R.length 2 with | some (.list _)=>some (It.ref st.R.length 2 0) | _=>none) = _; rw [o2])) (yieldsR_ref o2 (nv ms) 0 rfl) (by unfold lim; lia) fun p hp ρ' h'=>?_) Es_nil) Ek_nil (Ap_bi hb)) (As_hv g1 (by decide))
  exact E_pow (by have:=hmp p hp; lia) (add_nat (E_slot (h'.get 0 rfl)) (E_slot (h'.get 5 rfl)))
 have g2:=g1.put (i:=9) (.int (N:Nat)) rfl (by decide)
 have x3:X1 P01 pa3 ⟨ρ1.set 9 (some (.int (N:Nat))),Rg st.R (car (List.replicate n 0)) (PN n B).1 ms⟩ .next ⟨ρ1.set 9 (some (.int (N:Nat))),Rg st.R (car (List.replicate n 0)) (PN n B).1 ms⟩:=by
  have c1:=PF_call (P:=P01) (ad:=58) (ga:=51) rfl (st:=⟨ρ1.set 9 (some (.int (N:Nat))),Rg st.R (car (List.replicate n 0)) (PN n B).1 ms⟩) (x:=(N:Int)) (by show (Rg st.R (car (List.replicate n 0)) (PN n B).1 ms).length < 100; rw [rg_len]; lia) (by lia)
  have c2:=W01_call (P:=P01) (ad:=89) (st:=⟨ρ1.set 9 (some (.int (N:Nat))),Rg st.R (car (List.replicate n 0)) (PN n B).1 ms⟩) (by show (Rg st.R (car (List.replicate n 0)) (PN n B).1 ms).length < 100; rw [rg_len]; lia) hN2
  exact X1_iteF (T_lorF (T_cmp1 (E_slot (g2.get 2 rfl)) (carF_E (g2.get 1 rfl) (by lia)) (cmp_ne ((eqV_ref (rg_0 _ _)).trans (eqV_car _ _)))) (T_lor1 (T_cmp1 (E_call E_imm (Es_cons (E_slot (g2.get 0 rfl)) Es_nil) Ek_nil (Ap_fn h01_58 c1)) (E_call E_imm (Es_cons (E_slot (g2.get 0 rfl)) Es_nil) Ek_nil (Ap_fn h01_89 c2)) (cmp_ne (eqV_str _ _))))) X_nil
 have x4:X1 P01 pa4 ⟨ρ1.set 9 (some (.int (N:Nat))),Rg st.R (car (List.replicate n 0)) (PN n B).1 ms⟩ (.ret (.tup [.ref st.R.length 1,.int (ms.length:Nat)])) ⟨ρ1.set 9 (some (.int (N:Nat))),Rg st.R (car (List.replicate n 0)) (PN n B).1 ms⟩:=
  X1_ret (E_tup (Es_cons (E_slot (g2.get 3 rfl)) (Es_cons (len_nv (g2.get 4 rfl) (by show (match St.obj _ st.R.length 2 with | some (.list vs)=>some vs | _=>none) = _; rw [o2]) (by lia)) Es_nil)))
 refine Call_ret (st:=st) (R2:=st.R) (reg:=[.list (car (List.replicate n 0)),.list (nv (PN n B).1),.list (nv ms)]) (v:=.tup [.ref st.R.length 1,.int (ms.length:Nat)]) (by lia) rfl (X_next x0 (X_next xf (X_next x2 (X_next x3 (X_one x4))))) ?_
 rw [hml]
 have hf:=frz_own (reg:=[.list (car (List.replicate n 0)),.list (nv (PN n B).1),.list (nv ms)]) (lv:=st.R.length) (d:=2) (i:=1) rfl (by rw [nv_ints]; exact mapO_frz_ints _ _ _ _)
 show (match mapO (frz _ st.R.length 3) [V.ref st.R.length 1,.int (cn (PN n B).2:Nat)] with | some us=>some (V.tup us) | none=>none) = _
 unfold mapO
 rw [hf,nv_ints]; rfl
end
end
section
section
variable {ρ:List (Option V)} {R0:List (List AObj)} {n y:Nat} {r os:List Nat} {L:List (Nat × V)}
noncomputable abbrev Rb (R0:List (List AObj)) (c:List V) (os:List Nat):List (List AObj):=R0 ++ [[.list c,.list (nv os)]]
theorem rb_0 (ρ:List (Option V)) (c:List V):St.obj ⟨ρ,Rb R0 c os⟩ R0.length 0 = some (.list c):=by rw [obj_last]; rfl
theorem rb_1 (ρ:List (Option V)) (c:List V):St.obj ⟨ρ,Rb R0 c os⟩ R0.length 1 = some (.list (nv os)):=by rw [obj_last]; rfl
theorem rb_len (R0:List (List AObj)) (c:List V) (os:List Nat):(Rb R0 c os).length = R0.length + 1:=by rw [List.length_append]; rfl
theorem pb_step (hR0:R0.length < 60) (hs:Srt r) (hr:r.length = n) (h0:0 < n) (hn:n <= 20) (hos:os.length <= 100) (h:Hv 6 ρ ((4,.int (y:Nat)) :: (1,.int (n:Nat)) :: (2,.ref R0.length 0) :: (3,.ref R0.length 1) :: L)) (h5:(L.map (·.1)).contains 5 = false) :
  (Srt (backS r y).2 /\ (backS r y).2.length = n) /\ ∃ ρ',Hv 6 ρ' ((1,.int (n:Nat)) :: (2,.ref R0.length 0) :: (3,.ref R0.length 1) :: L) /\ X P01 pb1B ⟨ρ,Rb R0 (car r) os⟩ .next ⟨ρ',Rb R0 (car (backS r y).2) (os ++ [(backS r y).1])⟩:=by
 obtain ⟨A,C,rfl,hA,hC⟩:=cut_gt hs y
 rw [List.length_append] at hr
 obtain ⟨sA,sC,sAC⟩:=srt_app.mp hs
 have hh:=h.put (i:=5) (.int (A.length + 1:Nat)) (by simpa using h5) (by decide)
 have hc:=bisR_mid (P:=P01) (ad:=32) (st:=⟨ρ,Rb R0 (car (A ++ C)) os⟩) (a:=.ref R0.length 0) (u:=.int 99) (w:=[.int (-1)]) (n:=n + 1) (by show (Rb R0 (car (A ++ C)) os).length < 90; rw [rb_len]; lia) (by show (match St.obj ⟨ρ,Rb R0 (car (A ++ C)) os⟩ R0.length 0 with | some (.list vs)=>some vs | _=>none) = _; rw [rb_0]) (by rw [List.length_append]; show A.length + C.length + 1 <= 100; lia) hA hC (by rw [List.length_append,hr])
 have x0:X1 P01 pb1B0 ⟨ρ,Rb R0 (car (A ++ C)) os⟩ .next ⟨ρ.set 5 (some (.int (A.length + 1:Nat))),Rb R0 (car (A ++ C)) os⟩:=
  X1_assign (E_call E_imm (Es_cons (E_slot (h.get 2 rfl)) (Es_cons (E_slot (h.get 0 rfl)) (Es_cons (E_int (i:=1)) (Es_cons (add_nat (y:=1) (E_slot (h.get 1 rfl)) E_int) Es_nil)))) Ek_nil (Ap_fn h01_32 hc)) (As_hv h (by decide))
 have tt:=T_cmp1 (P:=P01) (d:=7) (E_slot (P:=P01) (st:=⟨ρ.set 5 (some (.int (A.length + 1:Nat))),Rb R0 (car (A ++ C)) os⟩) (hh.get 0 rfl)) (add_nat (x:=n) (y:=1) (E_slot (hh.get 2 rfl)) E_int) (cmp_eqn _ (A.length + 1) (n + 1))
 have fin:∀ (A' C' A2 C2:List Nat) (o:Nat),A ++ C = A' ++ o :: C'->A' ++ C' = A2 ++ C2->(∀ a ∈ A2,a <= y)->(∀ c ∈ C2,y <= c)->Srt A2->E P01 (.ite (.cmp (.slot 5) [.Eq] [(.bin .Add (.slot 1) (.const (.int 1)) false)]) (.const (.int 1)) (.slot 5)) ⟨ρ.set 5 (some (.int (A.length + 1:Nat))),Rb R0 (car (A ++ C)) os⟩ (.int (A'.length + 1:Nat)) ⟨ρ.set 5 (some (.int (A.length + 1:Nat))),Rb R0 (car (A ++ C)) os⟩->
   X P01 [pb1B1,pb1B2] ⟨ρ.set 5 (some (.int (A.length + 1:Nat))),Rb R0 (car (A ++ C)) os⟩ .next ⟨ρ.set 5 (some (.int (A.length + 1:Nat))),Rb R0 (car (A2 ++ y :: C2)) (os ++ [o])⟩:=fun A' C' A2 C2 o e e2 hA2 hC2 hs2 hE=>by
  have hlen:A'.length + C'.length + 1 = n:=by
   have:=congrArg List.length e
   rw [List.length_append,List.length_append,List.length_cons] at this; lia
  have hlen2:(A2 ++ C2).length + 1 = n:=by rw [<- e2,List.length_append]; exact hlen
  rw [e] at hE ⊢
  obtain ⟨q1,q2⟩:=car_pop A' C' o
  obtain ⟨p1,p2⟩:=pop_at (G:=P01) (k:=A'.length + 1) (v:=.int (o:Nat)) (rb_0 (R0:=R0) (os:=os) (ρ.set 5 (some (.int (A.length + 1:Nat)))) (car (A' ++ o :: C'))) (by rw [car_len,List.length_append]; unfold lim; show A'.length + (C'.length + 1) + 2 <= 1000000; lia) q1
  rw [up_last,q2,e2] at p1
  obtain ⟨a1,a2⟩:=app_at (G:=P01) (w:=.int (o:Nat)) (rb_1 (R0:=R0) (os:=os) (ρ.set 5 (some (.int (A.length + 1:Nat)))) (car (A2 ++ C2))) (by rw [nv_len]; unfold lim; lia) rfl
  rw [up_last,show nv os ++ [V.int (o:Nat)] = nv (os ++ [o]) from (nv_app os [o]).symm] at a1
  have c:=put_L (x:=y) (n:=n) (st:=⟨ρ.set 5 (some (.int (A.length + 1:Nat))),Rb R0 (car (A2 ++ C2)) (os ++ [o])⟩) (by show (Rb R0 (car (A2 ++ C2)) (os ++ [o])).length < 80; rw [rb_len]; lia) (rb_0 _ _) hlen2.symm (by lia) hA2 hC2 hs2
  rw [setObj_up,up_last] at c
  refine X_next (st1:=⟨ρ.set 5 (some (.int (A.length + 1:Nat))),Rb R0 (car (A2 ++ C2)) (os ++ [o])⟩) (X1_expr (E_meth (E_slot (hh.get 4 rfl)) (by show listB ⟨_,_⟩ _ _ _ = true; unfold listB; rw [rb_1]; rfl) (Es_cons (E_meth (E_slot (hh.get 3 rfl)) p2 (Es_cons hE Es_nil) p1) Es_nil) a1)) ?_
  exact X_one (X1_expr (E_call E_imm (Es_cons (E_slot (hh.get 3 rfl)) (Es_cons (E_slot (hh.get 1 rfl)) (Es_cons (E_int (i:=1)) (Es_cons (E_slot (hh.get 2 rfl)) Es_nil)))) Ek_nil (Ap_fn h01_41 c)))
 cases C with
 | nil=>
  cases A with
  | nil=>exact absurd hr (Nat.ne_of_lt h0)
  | cons f t=>
   have e1:(f :: t) ++ ([]:List Nat) = [] ++ f :: t:=List.append_nil _
   have hr1:t.length + 1 = n:=hr
   have hb:backS ((f :: t) ++ []) y = (f,t ++ [y]):=by rw [List.append_nil]; exact back_none hA
   rw [show ((f :: t).length + 1 == n + 1) = true by rw [List.length_cons,hr1]; exact beq_self_eq_true _] at tt
   have st:Srt t:=(List.pairwise_cons.mp sA).2
   have:=fin [] t t [] f e1 (List.append_nil _).symm (fun a m=>hA a (.tail _ m)) (fun u_ h=>nomatch h) st (E_iteT tt (E_int (i:=1)))
   rw [hb]
   exact ⟨⟨srt_put st .nil (fun a m=>hA a (.tail _ m)) (fun u_ h=>nomatch h),by rw [List.length_append]; exact hr1⟩,_,hh.tl.tl,X_next x0 this⟩
 | cons c C=>
  have hb:backS (A ++ c :: C) y = (c,A ++ y :: C):=back_any hA (hC c (.head _))
  have hC':∀ d ∈ C,y <= d:=fun d m=>Nat.le_of_lt (hC d (.tail _ m))
  have hr1:A.length + (C.length + 1) = n:=hr
  rw [show (A.length + 1 == n + 1) = false by rw [beq_eq_false_iff_ne]; lia] at tt
  have:=fin A C A C c rfl rfl hA hC' sA (E_iteF tt (E_slot (hh.get 0 rfl)))
  rw [hb]
  exact ⟨⟨srt_put sA (List.pairwise_cons.mp sC).2 hA hC',by rw [List.length_append]; exact hr1⟩,_,hh.tl.tl,X_next x0 this⟩
theorem pb_loop (hR0:R0.length < 60) (h0:0 < n) (hn:n <= 20) (h4:(L.map (·.1)).contains 4 = false) (h5:(L.map (·.1)).contains 5 = false):∀ (ys:List Nat) (r os:List Nat) (ρ:List (Option V)),Srt r->r.length = n->os.length + ys.length <= 100->
  Hv 6 ρ ((1,.int (n:Nat)) :: (2,.ref R0.length 0) :: (3,.ref R0.length 1) :: L)->
  ∃ ρ',Hv 6 ρ' ((1,.int (n:Nat)) :: (2,.ref R0.length 0) :: (3,.ref R0.length 1) :: L) /\
   X P01 [.forGo (.slot 4) (.seq (nv ys)) pb1B []] ⟨ρ,Rb R0 (car r) os⟩ .next ⟨ρ',Rb R0 (car (backN r ys).2) (os ++ (backN r ys).1)⟩
 | [],r,os,ρ,_,_,_,h=>⟨ρ,h,by
  show X P01 _ _ _ ⟨ρ,Rb R0 (car r) (os ++ [])⟩
  rw [List.append_nil]
  exact F_end rfl X_nil⟩
 | y :: ys,r,os,ρ,hs,hr,h1,h=>by
  have h1:os.length + (ys.length + 1) <= 100:=h1
  have g4:=h.put (i:=4) (.int (y:Nat)) (by simpa using h4) (by decide)
  obtain ⟨⟨hs2,hr2⟩,ρ1,k1,x1⟩:=pb_step (os:=os) hR0 hs hr h0 hn (by lia) g4 h5
  obtain ⟨ρ2,k2,x2⟩:=pb_loop hR0 h0 hn h4 h5 ys _ (os ++ [(backS r y).1]) ρ1 hs2 hr2 (by rw [List.length_append]; show os.length + 1 + ys.length <= 100; lia) k1
  refine ⟨ρ2,k2,F_on rfl (As_hv h (by decide)) x1 ?_⟩
  rw [List.append_assoc] at x2
  exact x2
theorem h01_108:P01.fns.find? (fun f=>f.addr == 108) = some f01__law_back:=rfl
theorem head2 {n:Nat} {v0 v1:V} (l:List (Option V)) (hl:l.length + 2 = n):Hv n (some v0 :: some v1 :: l) [(0,v0),(1,v1)]:=⟨hl,fun p m=>by
 rcases List.mem_cons.mp m with rfl | m
 ·rfl
 ·rw [List.mem_singleton.mp m]; rfl⟩
theorem rvs_nv {st:St} {a:V} {xs:List Nat} (hs:seqOf st a = some (nv xs)) (hl:xs.length <= 1000):rvsV st a false = some (.lst (nv xs.reverse),st):=by
 have hm:mkL false (nv xs).reverse st = some (.lst (nv xs.reverse),st):=by
  unfold mkL
  rw [if_pos (by rw [List.length_reverse,nv_len]; unfold lim; lia)]
  unfold nv
  rw [List.map_reverse]; rfl
 unfold rvsV seqV
 rw [hs]
 show (if (nv xs).length <= lim then mkL false (nv xs).reverse st else none) = _
 rw [if_pos (by rw [nv_len]; unfold lim; lia),hm]
theorem back_call {st:St} {B X:List Nat} {n:Nat} (hR:st.R.length < 60) (h0:0 < n) (hn:n <= 20) (hl:B.length <= 90) (hb:backN (List.replicate n 0) B.reverse = (X,List.replicate n 0)):Call P01 f01__law_back [.lst (nv B),.int (n:Nat)] [] st (.lst (nv X.reverse)) st:=by
 have k0:Hv 6 (emptyFrame 6 [.lst (nv B),.int (n:Nat)]) [(0,.lst (nv B)),(1,.int (n:Nat))]:=head2 (List.replicate 4 none) rfl
 have k1:=k0.put (i:=2) (.ref st.R.length 0) rfl (by decide)
 have k2:=k1.put (i:=3) (.ref st.R.length 1) rfl (by decide)
 have x0:X1 P01 pb0 ⟨emptyFrame 6 [.lst (nv B),.int (n:Nat)],st.R ++ [[]]⟩ .next ⟨_,Rb st.R (car (List.replicate n 0)) []⟩:=
  X1_assign (E_tup (Es_cons (carT_E (R0:=st.R) (r:=[]) (k0.get 1 rfl) (by lia)) (Es_cons (new_top (R0:=st.R) (r:=[.list (car (List.replicate n 0))])) Es_nil))) (As_tup2 (As_hv k0 (by decide)) (As_hv k1 (by decide)))
 have kk:Hv 6 (((emptyFrame 6 [.lst (nv B),.int (n:Nat)]).set 2 (some (.ref st.R.length 0))).set 3 (some (.ref st.R.length 1))) ((1,.int (n:Nat)) :: (2,.ref st.R.length 0) :: (3,.ref st.R.length 1) :: []):=
  ((k2.nil.add (k2.get 0 rfl)).add (k2.get 1 rfl)).add (k2.get 3 rfl)
 obtain ⟨ρ1,g1,x1⟩:=pb_loop (L:=[]) (R0:=st.R) hR h0 hn rfl rfl B.reverse (List.replicate n 0) [] _ (srt_zeros n) (List.length_replicate ..) (by rw [List.length_reverse]; show 0 + _ <= 100; lia) kk
 rw [hb,List.nil_append] at x1
 have hX:X.length = B.length:=by
  have:∀ (ys r:List Nat),(backN r ys).1.length = ys.length:=fun ys=>by
   induction ys with
   | nil=>exact fun u_=>rfl
   | cons y ys ih=>exact fun r=>congrArg (· + 1) (ih _)
  have:=this B.reverse (List.replicate n 0)
  rw [hb,List.length_reverse] at this
  exact this
 have xf:X1 P01 pb1 _ .next ⟨ρ1,Rb st.R (car (List.replicate n 0)) X⟩:=X1_for (I_val (v:=.lst (nv B.reverse)) (E_rvs (E_slot (k2.get 2 rfl)) (rvs_nv rfl (by lia))) rfl) x1
 have o1:∀ ρ,St.obj ⟨ρ,Rb st.R (car (List.replicate n 0)) X⟩ st.R.length 1 = some (.list (nv X)):=fun ρ=>rb_1 ρ _
 have te:cmpV ⟨ρ1,Rb st.R (car (List.replicate n 0)) X⟩ .Eq (.ref st.R.length 0) (.lst (car (List.replicate n 0))) = some true:=(eqV_ref (rb_0 _ _)).trans (eqV_car _ _)
 have x2:X1 P01 pb2 ⟨ρ1,Rb st.R (car (List.replicate n 0)) X⟩ (.ret (.lst (nv X.reverse))) ⟨ρ1,Rb st.R (car (List.replicate n 0)) X⟩:=
  X1_ret (E_iteT (T_cmp1 (E_slot (g1.get 1 rfl)) (carF_E (g1.get 0 rfl) (by lia)) te) (E_rvs (E_slot (g1.get 2 rfl)) (rvs_nv (by show (match St.obj _ st.R.length 1 with | some (.list vs)=>some vs | _=>none) = _; rw [o1]) (by lia))))
 exact Call_ret (st:=st) (R2:=st.R) (reg:=[.list (car (List.replicate n 0)),.list (nv X)]) (v:=.lst (nv X.reverse)) (by lia) rfl (X_next x0 (X_next xf (X_one x2))) (frz_nv _ _ _ _)
end
end
section
section
variable {st:St} {l k:Nat} {lo:Int} {ad bd:Addr} {g:Fn}
theorem lo_neg {st:St} (h:lo < 0) (h2:st.ρ[2]? = some (some (.int lo))):T P01 8 (.cmp (.slot 2) [.Lt] [(.const (.int 0))]) st true st:=
 T_cmp1 (E_slot h2) (E_int (i:=0)) (by show some (decide (lo < 0)) = _; rw [decide_eq_true h])
theorem ref_bis {f:Fn} {bn bk:List MS} (hf:f = { addr:=ad,np:=4,dfl:=[.int 0,.imm .none],key:=true,ns:=6,body:=bisBody bn bk }) (hR:st.R.length < 90) (h:lo < 0) (u v:V):CallR P01 f [u,v,.int lo] st /\ CallR P01 f [u,v,.int lo,.imm .none] st:=by
 subst hf
 exact ⟨callR_first (vs:=[u,v,.int lo,.imm .none,.imm .none]) rfl (by lia) rfl (lo_neg h rfl),callR_first (vs:=[u,v,.int lo,.imm .none,.imm .none]) rfl (by lia) (bind_key rfl rfl rfl _ _ _ _) (lo_neg h rfl)⟩
theorem ref_ins (hR:st.R.length < 80) (hg:P01.fns.find? (fun f=>f.addr == bd) = some g) (hc:∀ st:St,st.R.length < 90->CallR P01 g [.ref l k,.int 2,.int lo,.imm .none] st):CallR P01 (fIns ad bd) [.ref l k,.int 2,.int lo] st:=
 callR_next (vs:=[.ref l k,.int 2,.int lo,.imm .none,.imm .none]) rfl (by lia) rfl (T_cmp1 (E_slot rfl) E_none rfl) (Es_cons (E_slot rfl) (Es_cons (E_slot rfl) (Es_cons (E_slot rfl) (Es_cons (E_slot rfl) Es_nil)))) hg (hc _ (by show (st.R ++ [[]]).length < 90; rw [List.length_append]; show st.R.length + 1 < 90; lia))
theorem ref_turn {f:Fn} {a:Addr} {s2:Option V} {R0:List (List AObj)} {r:List AObj} (hf:P01.fns.find? (fun f=>f.addr == a) = some f) (hR:R0.length < 60) (hc:∀ st:St,st.R.length < 80->CallR P01 f [.ref R0.length r.length,.int 2,.int lo] st) :
  X P01 pf0B ⟨[some (.int lo),some (.imm (.ref a)),s2,none],R0 ++ [r]⟩ .next ⟨[some (.int lo),some (.imm (.ref a)),some (.ref R0.length r.length),none],R0 ++ [r ++ [.list [.int 0,.int 2,.int 5]]]⟩:=by
 have x0:X1 P01 pf0B0 ⟨[some (.int lo),some (.imm (.ref a)),s2,none],R0 ++ [r]⟩ .next ⟨[some (.int lo),some (.imm (.ref a)),some (.ref R0.length r.length),none],R0 ++ [r ++ [.list [.int 0,.int 2,.int 5]]]⟩:=
  X1_assign (v:=.ref R0.length r.length) (st1:=⟨[some (.int lo),some (.imm (.ref a)),s2,none],R0 ++ [r ++ [.list [.int 0,.int 2,.int 5]]]⟩) (E_lst (vs:=[.int 0,.int 2,.int 5]) (Es_cons E_int (Es_cons E_int (Es_cons E_int Es_nil))) (by simp [mkL,St.alloc,lim])) (As_slot' (by show 2 < 4; decide) rfl)
 have x1:X1 P01 (.refuse 1 2 0 3) ⟨[some (.int lo),some (.imm (.ref a)),some (.ref R0.length r.length),none],R0 ++ [r ++ [.list [.int 0,.int 2,.int 5]]]⟩ .next ⟨[some (.int lo),some (.imm (.ref a)),some (.ref R0.length r.length),none],R0 ++ [r ++ [.list [.int 0,.int 2,.int 5]]]⟩:=
  X1_refuse (l:=R0.length) (k:=r.length) (lo:=lo) hf rfl rfl (by rw [obj_last,List.getElem?_append_right (Nat.le_refl _),Nat.sub_self]; rfl) rfl rfl (hc _ (by show (R0 ++ [r ++ [AObj.list [.int 0,.int 2,.int 5]]]).length < 80; rw [List.length_append]; show R0.length + 1 < 80; lia))
 exact X_next x0 (X_one x1)
theorem h01_96:P01.fns.find? (fun f=>f.addr == 96) = some f01__law_refused:=rfl
theorem refused_call (hR:st.R.length < 60) (h:lo < 0):Call P01 f01__law_refused [.int lo] [] st (.imm (.bool true)) st:=by
 have b:=fun (ad:Addr) (bn bk:List MS) (l k:Nat) (st:St) (hR:st.R.length < 90)=>ref_bis (ad:=ad) (bn:=bn) (bk:=bk) (st:=st) rfl hR h (.ref l k) (.int 2)
 have a1:=fun (s2:Option V) (r:List AObj)=>ref_turn (lo:=lo) (s2:=s2) (r:=r) h01_50 hR fun st hs=>(b _ _ _ _ _ st (by lia)).1
 have a2:=fun (s2:Option V) (r:List AObj)=>ref_turn (lo:=lo) (s2:=s2) (r:=r) h01_32 hR fun st hs=>(b _ _ _ _ _ st (by lia)).1
 have a3:=fun (s2:Option V) (r:List AObj)=>ref_turn (lo:=lo) (s2:=s2) (r:=r) h01_41 hR fun st hs=>ref_ins hs h01_50 fun st hs=>(b _ _ _ _ _ st hs).2
 have a4:=fun (s2:Option V) (r:List AObj)=>ref_turn (lo:=lo) (s2:=s2) (r:=r) h01_23 hR fun st hs=>ref_ins hs h01_32 fun st hs=>(b _ _ _ _ _ st hs).2
 have x:X P01 [.forGo (.slot 1) (.seq [.imm (.ref 50),.imm (.ref 32),.imm (.ref 41),.imm (.ref 23)]) pf0B []] ⟨[some (.int lo),none,none,none],st.R ++ [[]]⟩ .next _:=
  F_on rfl (As_slot' (by show 1 < 4; decide) rfl) (a1 _ []) (F_on rfl (As_slot' (by show 1 < 4; decide) rfl) (a2 _ _) (F_on rfl (As_slot' (by show 1 < 4; decide) rfl) (a3 _ _) (F_on rfl (As_slot' (by show 1 < 4; decide) rfl) (a4 _ _) (F_end rfl X_nil))))
 have y:X P01 f01__law_refused.body ⟨emptyFrame 4 [.int lo],st.R ++ [[]]⟩ (.ret (.imm (.bool true))) _:=X_next (X1_for (I_val (E_tup (Es_cons E_imm (Es_cons E_imm (Es_cons E_imm (Es_cons E_imm Es_nil))))) rfl) x) (X_one (X1_ret E_bool))
 exact Call_ret (st:=st) (R2:=st.R) (by lia) rfl y rfl
end
end
section
noncomputable def inr (b:Nat):List Nat->List Nat × Nat
 | []=>([b],0)
 | a :: r=>if a < b then (b :: r,a) else (a :: (inr b r).1,(inr b r).2)
noncomputable def insR:List (List Nat)->Nat->List (List Nat)
 | [],b=>[[b]]
 | R :: Rs,b=>(inr b R).1 :: (if (inr b R).2 = 0 then Rs else insR Rs (inr b R).2)
noncomputable def rowsR (Rs:List (List Nat)) (bs:List Nat):List (List Nat):=bs.foldl (fun Rs b=>if b = 0 then Rs else insR Rs b) Rs
noncomputable abbrev Pos' (R:List Nat):Prop:=∀ a ∈ R,0 < a
section
variable {b:Nat}
theorem inr_cons (a:Nat) (R:List Nat):inr b (a :: R) = if a < b then (b :: R,a) else (a :: (inr b R).1,(inr b R).2):=rfl
theorem inr_cut:∀ {A C:List Nat},(∀ a ∈ A,¬ a < b)->(∀ c ∈ C,c < b)->inr b (A ++ C) = match C with | []=>(A ++ [b],0) | c :: C'=>(A ++ b :: C',c)
 | [],[],_,_=>rfl
 | [],c :: C,_,hC=>by
  show (if c < b then (b :: C,c) else _) = _
  rw [if_pos (hC c (.head _))]; rfl
 | a :: A,C,hA,hC=>by
  obtain ⟨h1,h2⟩:=List.forall_mem_cons.mp hA
  show (if a < b then _ else (a :: (inr b (A ++ C)).1,(inr b (A ++ C)).2)) = _
  rw [if_neg h1,inr_cut h2 hC]
  cases C <;> rfl
theorem inr_pos (hb:0 < b):∀ {R:List Nat},Pos' R->Pos' (inr b R).1 /\ (inr b R).1 ≠ []
 | [],_=>⟨List.forall_mem_cons.mpr ⟨hb,fun u_ h=>nomatch h⟩,fun h=>nomatch h⟩
 | a :: R,h=>by
  obtain ⟨h1,h2⟩:=List.forall_mem_cons.mp h
  rw [inr_cons]
  split
  ·exact ⟨List.forall_mem_cons.mpr ⟨hb,h2⟩,fun h=>nomatch h⟩
  ·exact ⟨List.forall_mem_cons.mpr ⟨h1,(inr_pos hb h2).1⟩,fun h=>nomatch h⟩
theorem insN_zero:∀ P:List Nat,insN 0 P = (P,0,false)
 | []=>rfl
 | a :: P=>by
  show ((if a < 0 then 0 else a) :: (insN (if a < 0 then 0 else 0) P).1,if a < 0 then a else (insN (if a < 0 then 0 else 0) P).2.1,(insN (if a < 0 then 0 else 0) P).2.2) = _
  simp only [Nat.not_lt_zero,if_false,insN_zero P]
theorem insN_cons (a:Nat) (P:List Nat):insN b (a :: P) = ((if a < b then b else a) :: (insN (if a < b then 0 else b) P).1,if a < b then a else (insN (if a < b then 0 else b) P).2.1,(insN (if a < b then 0 else b) P).2.2):=rfl
theorem insN_pad (hb:0 < b):∀ {R:List Nat} {k:Nat},Pos' R->(insN b (R ++ List.replicate k 0)).2.2 = false->∃ k',(insN b (R ++ List.replicate k 0)).1 = (inr b R).1 ++ List.replicate k' 0 /\ (insN b (R ++ List.replicate k 0)).2.1 = (inr b R).2
 | [],0,_,hv=>by
  have:(b != 0) = false:=hv
  rw [bne_eq_false_iff_eq] at this; lia
 | [],k + 1,_,_=>by
  refine ⟨k,?_,?_⟩
  ·show (insN b (0 :: List.replicate k 0)).1 = _
   rw [insN_cons,if_pos hb,if_pos hb,insN_zero]; rfl
  ·show (if 0 < b then 0 else (insN (if 0 < b then 0 else b) (List.replicate k 0)).2.1) = 0
   rw [if_pos hb]
 | a :: R,k,h,hv=>by
  obtain ⟨_,h2⟩:=List.forall_mem_cons.mp h
  have e:(a :: R) ++ List.replicate k 0 = a :: (R ++ List.replicate k 0):=rfl
  have hv:(insN (if a < b then 0 else b) (R ++ List.replicate k 0)).2.2 = false:=hv
  rw [e,insN_cons,inr_cons]
  by_cases q:a < b
  ·simp only [q,if_true,insN_zero]
   exact ⟨k,rfl,trivial⟩
  ·rw [if_neg q] at hv
   obtain ⟨k',e1,e2⟩:=insN_pad hb h2 hv
   simp only [q,if_false]
   exact ⟨k',congrArg (a :: ·) e1,e2⟩
theorem putN_zero:∀ Ps:List (List Nat),putN 0 Ps = (Ps,false)
 | []=>rfl
 | P :: Ps=>by
  show ((insN 0 P).1 :: (putN (insN 0 P).2.1 Ps).1,(insN 0 P).2.2 || (putN (insN 0 P).2.1 Ps).2) = _
  rw [insN_zero,putN_zero Ps]; rfl
noncomputable def PadR:List (List Nat)->List (List Nat)->Prop
 | [],Ps=>∀ P ∈ Ps,∃ k,P = List.replicate k 0
 | _ :: _,[]=>False
 | R :: Rs,P :: Ps=>(∃ k,P = R ++ List.replicate k 0) /\ (Pos' R /\ R ≠ []) /\ PadR Rs Ps
theorem putN_pad:∀ {Ps Rs:List (List Nat)} {b:Nat},0 < b->PadR Rs Ps->(putN b Ps).2 = false->PadR (insR Rs b) (putN b Ps).1
 | [],[],b,hb,_,hv=>by
  have:(b != 0) = false:=hv
  rw [bne_eq_false_iff_eq] at this; lia
 | [],_ :: _,_,_,h,_=>h.elim
 | P :: Ps,[],b,hb,h,hv=>by
  obtain ⟨h1,h2⟩:=List.forall_mem_cons.mp h
  obtain ⟨k,rfl⟩:=h1
  obtain ⟨hv1,hv2⟩:=Bool.or_eq_false_iff.mp (show ((insN b (List.replicate k 0)).2.2 || (putN (insN b (List.replicate k 0)).2.1 Ps).2) = false from hv)
  obtain ⟨k',e1,e2⟩:=insN_pad (R:=[]) hb (fun u_ h=>nomatch h) hv1
  have e1:(insN b (List.replicate k 0)).1 = [b] ++ List.replicate k' 0:=e1
  have e2:(insN b (List.replicate k 0)).2.1 = 0:=e2
  show PadR [[b]] ((insN b (List.replicate k 0)).1 :: (putN (insN b (List.replicate k 0)).2.1 Ps).1)
  rw [e1,e2,putN_zero]
  exact ⟨⟨k',rfl⟩,⟨List.forall_mem_cons.mpr ⟨hb,fun u_ h=>nomatch h⟩,fun h=>nomatch h⟩,h2⟩
 | P :: Ps,R :: Rs,b,hb,h,hv=>by
  obtain ⟨⟨k,rfl⟩,⟨hp,hne⟩,h3⟩:=h
  obtain ⟨hv1,hv2⟩:=Bool.or_eq_false_iff.mp (show ((insN b (R ++ List.replicate k 0)).2.2 || (putN (insN b (R ++ List.replicate k 0)).2.1 Ps).2) = false from hv)
  obtain ⟨k',e1,e2⟩:=insN_pad hb hp hv1
  show PadR ((inr b R).1 :: (if (inr b R).2 = 0 then Rs else insR Rs (inr b R).2)) ((insN b (R ++ List.replicate k 0)).1 :: (putN (insN b (R ++ List.replicate k 0)).2.1 Ps).1)
  rw [e2] at hv2
  rw [e1,e2]
  refine ⟨⟨k',rfl⟩,inr_pos hb hp,?_⟩
  split
  ·rename_i q
   rw [q,putN_zero]; exact h3
  ·rename_i q
   exact putN_pad (Nat.pos_of_ne_zero q) h3 hv2
theorem rowN_pad:∀ {bs:List Nat} {Ps Rs:List (List Nat)},PadR Rs Ps->(rowN Ps bs).2 = false->PadR (rowsR Rs bs) (rowN Ps bs).1
 | [],_,_,h,_=>h
 | b :: bs,Ps,Rs,h,hv=>by
  obtain ⟨hv1,hv2⟩:=Bool.or_eq_false_iff.mp (show ((putN b Ps).2 || (rowN (putN b Ps).1 bs).2) = false from hv)
  show PadR (rowsR (if b = 0 then Rs else insR Rs b) bs) (rowN (putN b Ps).1 bs).1
  refine rowN_pad ?_ hv2
  split
  ·rename_i q
   rw [q,putN_zero]; exact h
  ·rename_i q
   exact putN_pad (Nat.pos_of_ne_zero q) h hv1
theorem pad_un {R R':List Nat} {k k':Nat} (h:R ++ List.replicate k 0 = R' ++ List.replicate k' 0) (hp:Pos' R) (hp':Pos' R'):R = R':=by
 have key:∀ (R:List Nat) (k:Nat),Pos' R->(R ++ List.replicate k 0).filter (fun a=>decide (0 < a)) = R:=fun R k hp=>by
  rw [List.filter_append,List.filter_eq_self.mpr (fun a m=>decide_eq_true (hp a m)),List.filter_eq_nil_iff.mpr (fun a m=>by rw [List.eq_of_mem_replicate m]; decide),List.append_nil]
 rw [<- key R k hp,h,key R' k' hp']
theorem PadR_un:∀ {Ps Rs Rs':List (List Nat)},PadR Rs Ps->PadR Rs' Ps->Rs = Rs'
 | _,[],[],_,_=>rfl
 | [],[],_ :: _,_,h=>h.elim
 | [],_ :: _,_,h,_=>h.elim
 | P :: Ps,[],R :: Rs,h,h'=>by
  obtain ⟨k,e⟩:=h P (.head _)
  obtain ⟨⟨k',e'⟩,⟨hp,hne⟩,_⟩:=h'
  exact absurd (pad_un (R:=[]) (k:=k) (show [] ++ List.replicate k 0 = R ++ List.replicate k' 0 from e.symm.trans e') (fun u_ h=>nomatch h) hp).symm hne
 | P :: Ps,R :: Rs,[],h,h'=>by
  obtain ⟨k,e⟩:=h' P (.head _)
  obtain ⟨⟨k',e'⟩,⟨hp,hne⟩,_⟩:=h
  exact absurd (pad_un (R:=[]) (k:=k) (show [] ++ List.replicate k 0 = R ++ List.replicate k' 0 from e.symm.trans e') (fun u_ h=>nomatch h) hp).symm hne
 | P :: Ps,R :: Rs,R' :: Rs',h,h'=>by
  obtain ⟨⟨k,e⟩,⟨hp,_⟩,h3⟩:=h
  obtain ⟨⟨k',e'⟩,⟨hp',_⟩,h3'⟩:=h'
  rw [pad_un (e.symm.trans e') hp hp',PadR_un h3 h3']
theorem rows_same {X Y:List Nat} (h:(rowN rN X).2 = false) (e:rowN rN Y = rowN rN X):rowsR [] Y = rowsR [] X:=by
 have h0:PadR [] rN:=by
  intro P m
  have:∀ P ∈ rN,P = List.replicate P.length 0:=by decide
  exact ⟨_,this P m⟩
 have h1:=rowN_pad h0 h
 have h2:=rowN_pad h0 (bs:=Y) (by rw [e]; exact h)
 rw [e] at h2
 exact PadR_un h2 h1
noncomputable abbrev Dsc (R:List Nat):Prop:=R.Pairwise (· ≥ ·)
theorem dsc_cut {R:List Nat} (h:Dsc R) (b:Nat):∃ A C,R = A ++ C /\ (∀ a ∈ A,¬ a < b) /\ ∀ c ∈ C,c < b:=by
 obtain ⟨A,C,e,hA,hC⟩:=cutAt (fun a=>decide (a < b)) (h.imp fun {a c} hac w=>decide_eq_true (Nat.lt_of_le_of_lt hac (of_decide_eq_true w)))
 exact ⟨A,C,e,fun a m=>of_decide_eq_false (hA a m),fun c m=>of_decide_eq_true (hC c m)⟩
theorem inr_dsc {R:List Nat} (h:Dsc R):Dsc (inr b R).1:=by
 obtain ⟨A,C,rfl,hA,hC⟩:=dsc_cut h b
 rw [inr_cut hA hC]
 obtain ⟨h1,h2,h3⟩:=List.pairwise_append.mp h
 cases C with
 | nil=>exact List.pairwise_append.mpr ⟨h1,List.pairwise_singleton _ _,fun a ma c mc=>by rw [List.mem_singleton.mp mc]; exact Nat.le_of_not_lt (hA a ma)⟩
 | cons c C=>
  refine List.pairwise_append.mpr ⟨h1,List.pairwise_cons.mpr ⟨fun d md=>Nat.le_of_lt (hC d (.tail _ md)),(List.pairwise_cons.mp h2).2⟩,fun a ma d md=>?_⟩
  rcases List.mem_cons.mp md with rfl | md
  ·exact Nat.le_of_not_lt (hA a ma)
  ·exact h3 a ma d (.tail _ md)
theorem inr_len:∀ R:List Nat,(inr b R).1.length <= R.length + 1
 | []=>Nat.le_refl _
 | a :: R=>by
  rw [inr_cons]
  split
  ·exact Nat.le_succ _
  ·exact Nat.succ_le_succ (inr_len R)
theorem inr_mem {x:Nat}:∀ R:List Nat,(x ∈ (inr b R).1->x = b ∨ x ∈ R) /\ ((inr b R).2 ≠ 0->(inr b R).2 ∈ R)
 | []=>⟨fun h=>.inl (List.mem_singleton.mp h),fun h=>absurd rfl h⟩
 | a :: R=>by
  obtain ⟨h1,h2⟩:=inr_mem (x:=x) R
  rw [inr_cons]
  split
  ·exact ⟨fun h=>(List.mem_cons.mp h).imp id (.tail _),fun u_=>.head _⟩
  ·refine ⟨fun h=>?_,fun h=>.tail _ (h2 h)⟩
   rcases List.mem_cons.mp h with h | h
   ·exact .inr (h ▸ .head _)
   ·exact (h1 h).imp id (.tail _)
theorem insR_mem {x:Nat}:∀ (Rs:List (List Nat)) (b:Nat),(∃ R ∈ insR Rs b,x ∈ R)->x = b ∨ ∃ R ∈ Rs,x ∈ R
 | [],b,⟨R,m,h⟩=>by
  rw [List.mem_singleton.mp m] at h
  exact .inl (List.mem_singleton.mp h)
 | Q :: Rs,b,⟨R,m,h⟩=>by
  obtain ⟨h1,h2⟩:=inr_mem (b:=b) (x:=x) Q
  rcases List.mem_cons.mp (show R ∈ (inr b Q).1 :: (if (inr b Q).2 = 0 then Rs else insR Rs (inr b Q).2) from m) with rfl | m
  ·exact (h1 h).imp id fun h=>⟨Q,.head _,h⟩
  ·split at m
   ·exact .inr ⟨R,.tail _ m,h⟩
   ·rename_i q
    rcases insR_mem Rs _ ⟨R,m,h⟩ with w | ⟨R',m',h'⟩
    ·exact .inr ⟨Q,.head _,w ▸ h2 q⟩
    ·exact .inr ⟨R',.tail _ m',h'⟩
theorem rows_mem {x:Nat}:∀ (bs:List Nat) (Rs:List (List Nat)),(∃ R ∈ rowsR Rs bs,x ∈ R)->x ∈ bs ∨ ∃ R ∈ Rs,x ∈ R
 | [],_,h=>.inr h
 | b :: bs,Rs,h=>by
  rcases rows_mem bs (if b = 0 then Rs else insR Rs b) h with h | h
  ·exact .inl (.tail _ h)
  ·split at h
   ·exact .inr h
   ·exact (insR_mem Rs b h).imp (fun w=>by rw [w]; exact .head _) id
noncomputable def RowsOk (K:Nat) (Rs:List (List Nat)):Prop:=Rs.length <= K /\ ∀ R ∈ Rs,Dsc R /\ Pos' R /\ R.length <= K
theorem ins_ok' {K:Nat}:∀ {Rs:List (List Nat)} {b:Nat},0 < b->(∀ R ∈ Rs,Dsc R /\ Pos' R /\ R.length <= K)->(insR Rs b).length <= Rs.length + 1 /\ ∀ R ∈ insR Rs b,Dsc R /\ Pos' R /\ R.length <= K + 1
 | [],b,hb,_=>⟨Nat.le_refl _,fun R m=>by
  obtain rfl:=List.mem_singleton.mp m
  exact ⟨List.pairwise_singleton _ _,List.forall_mem_cons.mpr ⟨hb,fun u_ h=>nomatch h⟩,Nat.le_add_left _ _⟩⟩
 | R :: Rs,b,hb,h=>by
  obtain ⟨⟨h1,h2,h3⟩,h4⟩:=List.forall_mem_cons.mp h
  have hd:Dsc (inr b R).1 /\ Pos' (inr b R).1 /\ (inr b R).1.length <= K + 1:=⟨inr_dsc h1,(inr_pos hb h2).1,Nat.le_trans (inr_len R) (Nat.succ_le_succ h3)⟩
  have up:∀ R ∈ Rs,Dsc R /\ Pos' R /\ R.length <= K + 1:=fun R m=>⟨(h4 R m).1,(h4 R m).2.1,Nat.le_succ_of_le (h4 R m).2.2⟩
  unfold insR
  split
  ·exact ⟨Nat.le_succ _,List.forall_mem_cons.mpr ⟨hd,up⟩⟩
  ·rename_i q
   obtain ⟨k1,k2⟩:=ins_ok' (Nat.pos_of_ne_zero q) h4
   exact ⟨Nat.succ_le_succ k1,List.forall_mem_cons.mpr ⟨hd,k2⟩⟩
theorem RowsOk.ins {K:Nat} {Rs:List (List Nat)} (h:RowsOk K Rs) (hb:0 < b):RowsOk (K + 1) (insR Rs b):=by
 obtain ⟨h1,h2⟩:=ins_ok' hb h.2
 exact ⟨Nat.le_trans h1 (Nat.succ_le_succ h.1),h2⟩
end
end
section
noncomputable def lamR:Lam:=⟨("other" : Str),[],(.neg .par)⟩
noncomputable abbrev qnR:Str := "_law_rows.<locals>.<lambda>"
theorem hp_other:HPlain [("other" : Str)]:=hplain1 fun u_ u_ u_ u_ u_ u_ u_ u_ u_ u_ u_ u_ u_ u_ u_ u_ u_ u_=>rfl
theorem key_other {P:Pg} {x:Nat}:KeyFn P (.clo lamR []) (.int (x:Nat)) (-(x:Int)):=fun s u_=>ApO_clo hp_other (by
 show (match evL s [] (.int (x:Nat)) .par with | some u=>intV u fun i=>some (V.int (-i)) | none=>none) = _
 rfl)
theorem set_at {ρ:List (Option V)} {R:List (List AObj)} {l i k:Nat} {vs:List V} {v:V} (ho:St.obj ⟨ρ,R⟩ l i = some (.list vs)) (hl:vs.length <= lim) (hk:k < vs.length) (hv:v.lvlOk l = true):setItemV ⟨ρ,R⟩ (.ref l i) (.int (k:Nat)) v = some ⟨ρ,up R l i (.list (vs.set k v))⟩:=by
 show (listV ⟨ρ,R⟩ l i fun vs=>ixV vs.length ((k:Nat):Int) fun n=>if v.lvlOk l && decide ((0:Int) <= (k:Nat)) then some (St.setObj ⟨ρ,R⟩ l i (.list (vs.set n v))) else none) = _
 rw [listV_of ho]
 show (match ixOf vs.length ((k:Nat):Int) with | some j=>(if v.lvlOk l && decide ((0:Int) <= (k:Nat)) then some (St.setObj ⟨ρ,R⟩ l i (.list (vs.set j v))) else none) | none=>none) = _
 rw [ixOf_nat hk hl]
 show (if v.lvlOk l && decide ((0:Int) <= (k:Nat)) then some (St.setObj ⟨ρ,R⟩ l i (.list (vs.set k v))) else none) = _
 rw [if_pos (by rw [hv,decide_eq_true (Int.natCast_nonneg k)]; rfl)]; rfl
noncomputable def refsL (l n:Nat):List V:=(List.range' 1 n).map (V.ref l)
noncomputable def Rr (l:Nat) (Rs:List (List Nat)):List AObj:=.list (refsL l Rs.length) :: Rs.map fun R=>.list (nv R)
section
variable {ρ:List (Option V)} {R0:List (List AObj)} {Rs:List (List Nat)} {R:List Nat}
theorem rr_0 (ρ:List (Option V)) (Rs:List (List Nat)):St.obj ⟨ρ,R0 ++ [Rr R0.length Rs]⟩ R0.length 0 = some (.list (refsL R0.length Rs.length)):=by rw [obj_last]; rfl
theorem rr_at (ρ:List (Option V)) (D:List (List Nat)) (R:List Nat) (T:List (List Nat)):St.obj ⟨ρ,R0 ++ [Rr R0.length (D ++ R :: T)]⟩ R0.length (D.length + 1) = some (.list (nv R)):=by
 rw [obj_last]
 show ((D ++ R :: T).map fun R=>AObj.list (nv R))[D.length]? = _
 rw [List.map_append,List.getElem?_append_right (by rw [List.length_map]; exact Nat.le_refl _),List.length_map,Nat.sub_self]; rfl
theorem rr_set (D:List (List Nat)) (R R':List Nat) (T:List (List Nat)):up (R0 ++ [Rr R0.length (D ++ R :: T)]) R0.length (D.length + 1) (.list (nv R')) = R0 ++ [Rr R0.length (D ++ R' :: T)]:=by
 rw [up_last]
 congr 2
 show AObj.list _ :: ((D ++ R :: T).map fun R=>AObj.list (nv R)).set D.length (.list (nv R')) = AObj.list _ :: _
 rw [show (D ++ R :: T).length = (D ++ R' :: T).length by rw [List.length_append,List.length_append]; rfl]
 congr 1
 rw [List.map_append,List.map_append,List.set_append_right _ _ (by rw [List.length_map]; exact Nat.le_refl _),List.length_map,Nat.sub_self]; rfl
theorem refs_get {l n k:Nat} (h:k < n):(refsL l n)[k]? = some (.ref l (k + 1)):=by
 unfold refsL
 rw [List.getElem?_map,List.getElem?_range' h]
 show some (V.ref l (1 + 1 * k)) = _
 rw [Nat.one_mul,Nat.add_comm]
theorem refs_len (l n:Nat):(refsL l n).length = n:=by unfold refsL; rw [List.length_map,List.length_range']
theorem refs_succ (l n:Nat):refsL l (n + 1) = refsL l n ++ [.ref l (n + 1)]:=by
 unfold refsL
 rw [List.range'_1_concat,List.map_append,Nat.add_comm 1 n]; rfl
theorem bis_row {D T:List (List Nat)} {A C:List Nat} {b:Nat} (hR:R0.length < 60) (hA:∀ a ∈ A,¬ a < b) (hC:∀ c ∈ C,c < b) (hl:(A ++ C).length <= 200):Call P01 (fBisR 32) [.ref R0.length (D.length + 1),.int (-(b:Int))] [(("key" : Str),.clo lamR [])] ⟨ρ,R0 ++ [Rr R0.length (D ++ (A ++ C) :: T)]⟩ (.int (A.length:Nat)) ⟨ρ,R0 ++ [Rr R0.length (D ++ (A ++ C) :: T)]⟩:=by
 have:=bisR_key (P:=P01) (ad:=32) (st:=⟨ρ,R0 ++ [Rr R0.length (D ++ (A ++ C) :: T)]⟩) (a:=.ref R0.length (D.length + 1)) (vs:=nv (A ++ C)) (xi:=-(b:Int)) (lo:=0) (hi:=(A ++ C).length) (hv:=.imm .none) (gf:=fun m=>-(((A ++ C).getD m 0:Nat):Int)) (args:=[.ref R0.length (D.length + 1),.int (-(b:Int))]) (kw:=[(("key" : Str),.clo lamR [])]) (key:=.clo lamR [])
  (by show (R0 ++ [Rr R0.length (D ++ (A ++ C) :: T)]).length < 98; rw [List.length_append]; show R0.length + 1 < 98; lia) (by show (match St.obj _ R0.length (D.length + 1) with | some (.list vs)=>some vs | _=>none) = _; rw [rr_at]) (by rw [nv_len]; unfold lim; lia)
  (fun m u_ h2=>⟨_,nv_getD _ h2,key_other⟩) (.inr ⟨rfl,by rw [nv_len]⟩) rfl rfl
 have e:=bis_off (A:=A) (C:=C) (p:=fun e=>decide (e < b)) (q:=fun m=>decide (-(b:Int) < -(((A ++ C).getD m 0:Nat):Int))) 0 (fun a m=>decide_eq_false (hA a m)) (fun c m=>decide_eq_true (hC c m)) (fun m e he=>by
  rw [Nat.zero_add,List.getD_eq_getElem?_getD,he]
  exact decide_eq_decide.mpr (by show -(b:Int) < -((e:Nat):Int) ↔ _; lia))
 rw [Nat.zero_add,Nat.zero_add] at e
 rw [e] at this
 exact this
theorem pr_inner (hR:R0.length < 60) (ht:∀ ρ,St.obj ⟨ρ,R0⟩ 0 0 = some (.tab 112 qnR)):∀ (T D:List (List Nat)) (b:Nat) (ρ:List (Option V)),0 < b->(∀ R ∈ T,Dsc R /\ Pos' R /\ R.length <= 100)->(D ++ T).length <= 100->Hv 5 ρ [(2,.int (b:Nat)),(1,.ref R0.length 0)]->
  ∃ ρ',Hv 5 ρ' [(1,.ref R0.length 0)] /\ X P01 [.forGo (.slot 3) (.ref R0.length 0 D.length) pr1B0B [pr1B0O0]] ⟨ρ,R0 ++ [Rr R0.length (D ++ T)]⟩ .next ⟨ρ',R0 ++ [Rr R0.length (D ++ insR T b)]⟩
 | [],D,b,ρ,hb,_,hl,h=>by
  rw [List.append_nil] at hl ⊢
  refine ⟨ρ,h.tl,F_end (by rw [next_of (rr_0 _ _),List.getElem?_eq_none (by rw [refs_len]; exact Nat.le_refl _)]) (X_one (X1_expr (v:=.imm .none) (E_meth (E_slot (h.get 1 rfl)) (by show listB ⟨_,_⟩ _ _ _ = true; unfold listB; rw [rr_0]; rfl) (Es_cons (v:=.ref R0.length (D.length + 1)) (st1:=⟨ρ,R0 ++ [Rr R0.length D ++ [.list [.int (b:Nat)]]]⟩) (E_lst (Es_cons (E_slot (h.get 0 rfl)) Es_nil) (by simp [mkL,St.alloc,lim,Rr])) Es_nil) ?_)))⟩
  have ho:St.obj ⟨ρ,R0 ++ [Rr R0.length D ++ [.list [.int (b:Nat)]]]⟩ R0.length 0 = some (.list (refsL R0.length D.length)):=by rw [obj_last]; rfl
  obtain ⟨a1,_⟩:=app_at (G:=P01) (w:=.ref R0.length (D.length + 1)) ho (by rw [refs_len]; unfold lim; lia) (decide_eq_true (Nat.le_refl _))
  rw [up_last,<- refs_succ] at a1
  rw [a1]
  show some (V.imm .none,(⟨ρ,R0 ++ [AObj.list (refsL R0.length (D.length + 1)) :: ((D.map fun R=>AObj.list (nv R)) ++ [.list (nv [b])])]⟩ : St)) = some (V.imm .none,⟨ρ,R0 ++ [Rr R0.length (D ++ [[b]])]⟩)
  unfold Rr
  rw [List.map_append,List.length_append]; rfl
 | R :: T,D,b,ρ,hb,hT,hl,h=>by
  obtain ⟨⟨h1,hp,h2⟩,h3⟩:=List.forall_mem_cons.mp hT
  obtain ⟨A,C,rfl,hA,hC⟩:=dsc_cut h1 b
  have hlen:(D ++ (A ++ C) :: T).length = D.length + T.length + 1:=by rw [List.length_append]; rfl
  have k3:=h.put (i:=3) (.ref R0.length (D.length + 1)) rfl (by decide)
  have k4:=k3.put (i:=4) (.int (A.length:Nat)) rfl (by decide)
  have hc:=bis_row (ρ:=ρ.set 3 (some (.ref R0.length (D.length + 1)))) (D:=D) (T:=T) hR hA hC (by lia)
  have hn:(It.ref R0.length 0 D.length).next ⟨ρ,R0 ++ [Rr R0.length (D ++ (A ++ C) :: T)]⟩ = some (some (.ref R0.length (D.length + 1),.ref R0.length 0 (D.length + 1))):=by
   rw [next_of (rr_0 _ _),refs_get (by rw [hlen]; lia)]
  have x0:X1 P01 pr1B0B0 ⟨ρ.set 3 (some (.ref R0.length (D.length + 1))),R0 ++ [Rr R0.length (D ++ (A ++ C) :: T)]⟩ .next ⟨_,R0 ++ [Rr R0.length (D ++ (A ++ C) :: T)]⟩:=
   X1_assign (E_callLamG 0 0 (m:=lamR) (c0:=112) (q:=qnR) (k:=("key" : Str)) (is:=[]) (ws:=[]) (Es_cons (E_slot (k3.get 0 rfl)) (Es_cons (E_neg (E_slot (k3.get 1 rfl))) Es_nil)) (by
    have:=ht ρ
    have hlt:=obj_lt this
    show (match (R0 ++ [Rr R0.length (D ++ (A ++ C) :: T)])[0]? with | some r=>r[0]? | none=>none) = _
    rw [List.getElem?_append_left hlt]; exact this) (fun j i e=>nomatch e) (CallV_fn h01_32 hc)) (As_hv k3 (by decide))
  have os:=fun ρ'=>rr_at (R0:=R0) ρ' D (A ++ C) T
  have hs:=fun ρ'=>(show seqOf ⟨ρ',R0 ++ [Rr R0.length (D ++ (A ++ C) :: T)]⟩ (.ref R0.length (D.length + 1)) = some (nv (A ++ C)) by show (match St.obj _ R0.length (D.length + 1) with | some (.list vs)=>some vs | _=>none) = _; rw [os])
  have tt:=T_cmp1 (P:=P01) (d:=7) (E_slot (P:=P01) (st:=⟨(ρ.set 3 (some (.ref R0.length (D.length + 1)))).set 4 (some (.int (A.length:Nat))),R0 ++ [Rr R0.length (D ++ (A ++ C) :: T)]⟩) (k4.get 0 rfl)) (len_nv (k4.get 1 rfl) (hs _) (by lia)) (cmp_eqn _ A.length (A ++ C).length)
  have ei:insR ((A ++ C) :: T) b = (inr b (A ++ C)).1 :: (if (inr b (A ++ C)).2 = 0 then T else insR T (inr b (A ++ C)).2):=rfl
  rw [inr_cut hA hC] at ei
  cases C with
  | nil=>
   rw [show (A.length == (A ++ ([]:List Nat)).length) = true by rw [List.append_nil]; exact beq_self_eq_true _] at tt
   obtain ⟨a1,a2⟩:=app_at (G:=P01) (w:=.int (b:Nat)) (os ((ρ.set 3 (some (.ref R0.length (D.length + 1)))).set 4 (some (.int (A.length:Nat))))) (by rw [nv_len]; unfold lim; lia) rfl
   rw [show nv (A ++ []) ++ [V.int (b:Nat)] = nv (A ++ [b]) by rw [List.append_nil]; exact (nv_app A [b]).symm,rr_set] at a1
   rw [ei]
   exact ⟨_,k4.tl.tl.tl,F_brk hn (As_hv h (by decide)) (X_next x0 (X_brk (X1_iteT tt (X_next (X1_expr (E_meth (E_slot (k4.get 1 rfl)) a2 (Es_cons (E_slot (k4.get 2 rfl)) Es_nil) a1)) (X_one X1_brk)))))⟩
  | cons c C=>
   rw [show (A.length == (A ++ c :: C).length) = false by rw [beq_eq_false_iff_ne,List.length_append,List.length_cons]; lia] at tt
   have hcpos:0 < c:=hp c (List.mem_append_right _ (.head _))
   have hlA:A.length < (nv (A ++ c :: C)).length:=by rw [nv_len,List.length_append,List.length_cons]; lia
   have hset:=set_at (v:=.int (b:Nat)) (os ((ρ.set 3 (some (.ref R0.length (D.length + 1)))).set 4 (some (.int (A.length:Nat))))) (by rw [nv_len]; unfold lim; lia) hlA rfl
   rw [show (nv (A ++ c :: C)).set A.length (V.int (b:Nat)) = nv (A ++ b :: C) by rw [nv_app,nv_app,List.set_append_right _ _ (by rw [nv_len]; exact Nat.le_refl _),nv_len,Nat.sub_self]; rfl,rr_set] at hset
   have hg:(nv (A ++ c :: C))[A.length]? = some (.int (c:Nat)):=by
    rw [nv_app,List.getElem?_append_right (by rw [nv_len]; exact Nat.le_refl _),nv_len,Nat.sub_self]; rfl
   have esub:=E_sub (P:=P01) (E_slot (k4.get 1 rfl)) (E_slot (k4.get 0 rfl)) (sub_seq (hs _) (by rw [nv_len]; unfold lim; lia) hg)
   have k2:Hv 5 (((ρ.set 3 (some (.ref R0.length (D.length + 1)))).set 4 (some (.int (A.length:Nat)))).set 2 (some (.int (c:Nat)))) [(2,.int (c:Nat)),(1,.ref R0.length 0)]:=k4.tl.tl.tl.put (i:=2) (.int (c:Nat)) rfl (by decide)
   have x2:X1 P01 pr1B0B2 ⟨(ρ.set 3 (some (.ref R0.length (D.length + 1)))).set 4 (some (.int (A.length:Nat))),R0 ++ [Rr R0.length (D ++ (A ++ c :: C) :: T)]⟩ .next ⟨_,R0 ++ [Rr R0.length (D ++ (A ++ b :: C) :: T)]⟩:=
    X1_assign (E_tup (Es_cons (E_slot (k4.get 2 rfl)) (Es_cons esub Es_nil))) (As_tup2 (As_sub (E_slot (k4.get 1 rfl)) (E_slot (k4.get 0 rfl)) hset) (As_hv k4.tl.tl.tl (by decide)))
   have ih:=pr_inner hR ht T (D ++ [A ++ b :: C]) c _ hcpos h3 (by rw [List.append_assoc]; show (D ++ ((A ++ b :: C) :: T)).length <= 100; rw [List.length_append] at hl ⊢; exact hl) k2
   obtain ⟨ρ',g,x3⟩:=ih
   rw [List.append_assoc,List.append_assoc,List.length_append] at x3
   rw [ei]
   dsimp only
   rw [if_neg (Nat.ne_of_gt hcpos)]
   exact ⟨ρ',g,F_on hn (As_hv h (by decide)) (X_next x0 (X_next (X1_iteF tt X_nil) (X_one x2))) x3⟩
theorem pr_loop (hR:R0.length < 60) (ht:∀ ρ,St.obj ⟨ρ,R0⟩ 0 0 = some (.tab 112 qnR)):∀ (xs:List Nat) (Rs:List (List Nat)) (K:Nat) (ρ:List (Option V)),(∀ x ∈ xs,0 < x)->RowsOk K Rs->K + xs.length <= 100->Hv 5 ρ [(1,.ref R0.length 0)]->
  ∃ ρ',Hv 5 ρ' [(1,.ref R0.length 0)] /\ X P01 [.forGo (.slot 2) (.seq (nv xs)) pr1B []] ⟨ρ,R0 ++ [Rr R0.length Rs]⟩ .next ⟨ρ',R0 ++ [Rr R0.length (xs.foldl insR Rs)]⟩
 | [],Rs,K,ρ,_,_,_,h=>⟨ρ,h,F_end rfl X_nil⟩
 | x :: xs,Rs,K,ρ,hp,hk,hl,h=>by
  obtain ⟨h1,h2⟩:=List.forall_mem_cons.mp hp
  have hl:K + (xs.length + 1) <= 100:=hl
  have k2:=h.put (i:=2) (.int (x:Nat)) rfl (by decide)
  obtain ⟨ρ1,g1,x1⟩:=pr_inner hR ht Rs [] x _ h1 (fun R m=>⟨(hk.2 R m).1,(hk.2 R m).2.1,by have:=(hk.2 R m).2.2; lia⟩) (by have:=hk.1; show Rs.length <= 100; lia) k2
  obtain ⟨ρ2,g2,x2⟩:=pr_loop hR ht xs (insR Rs x) (K + 1) ρ1 h2 (hk.ins h1) (by lia) g1
  exact ⟨ρ2,g2,F_on rfl (As_hv h (by decide)) (X_one (X1_for (I_val (E_slot (k2.get 1 rfl)) (by show (match St.obj _ R0.length 0 with | some (.list _)=>some (It.ref R0.length 0 0) | _=>none) = _; rw [rr_0]; rfl)) x1)) x2⟩
theorem mapO_refs {f:V->Option V} {g:Nat->V} {hh:List Nat->V}:∀ (Rs:List (List Nat)) (k:Nat),(∀ i R,Rs[i]? = some R->f (g (k + i)) = some (hh R))->mapO f ((List.range' k Rs.length).map g) = some (Rs.map hh)
 | [],_,_=>rfl
 | R :: Rs,k,h=>by
  have h0:=h 0 R rfl
  have ih:=mapO_refs (f:=f) (g:=g) (hh:=hh) Rs (k + 1) fun i R e=>by
   have:=h (i + 1) R e
   rw [show k + 1 + i = k + (i + 1) by lia]; exact this
  rw [List.length_cons,List.range'_succ,List.map_cons]
  unfold mapO
  rw [show f (g k) = some (hh R) from h0,ih]; rfl
theorem h01_113:P01.fns.find? (fun f=>f.addr == 113) = some f01__law_rows:=rfl
theorem head1 {n:Nat} {v0:V} (l:List (Option V)) (hl:l.length + 1 = n):Hv n (some v0 :: l) [(0,v0)]:=⟨hl,fun p m=>by rw [List.mem_singleton.mp m]; rfl⟩
theorem rowsR_filter (B:List Nat) (Rs:List (List Nat)):rowsR Rs B = (B.filter (· != 0)).foldl insR Rs:=by
 rw [List.foldl_filter]
 unfold rowsR
 congr 1
 funext Rs b
 by_cases q:b = 0
 ·simp [q]
 ·simp [q]
theorem rows_call {st:St} {B:List Nat} (hR:st.R.length < 60) (ht:st.obj 0 0 = some (.tab 112 qnR)) (hl:B.length <= 90):Call P01 f01__law_rows [.lst (nv B)] [] st (.lst ((rowsR [] B).map fun R=>.lst (nv R))) st:=by
 have k0:Hv 5 (emptyFrame 5 [.lst (nv B)]) [(0,.lst (nv B))]:=head1 (List.replicate 4 none) rfl
 have k1:=k0.put (i:=1) (.ref st.R.length 0) rfl (by decide)
 have x0:X1 P01 pr0 ⟨emptyFrame 5 [.lst (nv B)],st.R ++ [[]]⟩ .next ⟨_,st.R ++ [Rr st.R.length []]⟩:=X1_assign (new_top (R0:=st.R) (r:=[])) (As_hv k0 (by decide))
 have hf:=List.length_filter_le (· != 0) B
 obtain ⟨ρ1,g1,x1⟩:=pr_loop (R0:=st.R) hR (fun u_=>ht) (B.filter (· != 0)) [] 0 _ (fun x m=>Nat.pos_of_ne_zero (by simpa using (List.mem_filter.mp m).2)) ⟨Nat.le_refl _,fun u_ h=>nomatch h⟩ (by lia) (k1.nil.add (k1.get 0 rfl))
 rw [<- rowsR_filter] at x1
 have xf:X1 P01 pr1 _ .next ⟨ρ1,st.R ++ [Rr st.R.length (rowsR [] B)]⟩:=X1_for (I_val (E_filter (f:=fun c:Nat=>V.int (c:Nat)) (g:=fun c:Nat=>V.int (c:Nat)) (q:=fun c:Nat=>c != 0) k1 (I_val (E_slot (k1.get 1 rfl)) rfl) (yields_seq _).R (by unfold lim; lia) fun x u_ ρ' h'=>⟨T_val (E_slot (h'.get 0 rfl)) (int_nz x) rfl,fun u_=>E_slot (h'.get 0 rfl)⟩) rfl) x1
 have x2:X1 P01 pr2 ⟨ρ1,st.R ++ [Rr st.R.length (rowsR [] B)]⟩ (.ret (.ref st.R.length 0)) ⟨ρ1,st.R ++ [Rr st.R.length (rowsR [] B)]⟩:=X1_ret (E_slot (g1.get 0 rfl))
 refine Call_ret (st:=st) (R2:=st.R) (reg:=Rr st.R.length (rowsR [] B)) (v:=.ref st.R.length 0) (by lia) rfl (X_next x0 (X_next xf (X_one x2))) ?_
 refine frz_own (vs:=refsL st.R.length (rowsR [] B).length) rfl (mapO_refs _ 1 fun i R e=>?_)
 refine frz_own (vs:=nv R) (by rw [Nat.add_comm]; show ((rowsR [] B).map fun R=>AObj.list (nv R))[i]? = _; rw [List.getElem?_map,e]; rfl) ?_
 rw [nv_ints]
 exact mapO_frz_ints _ _ _ _
end
end
section
section
variable {P:Pg} {st:St} {ad bd:Addr} {a:V} {A C:List Nat} {y l i:Nat}
theorem bisR0 (hR:st.R.length < 90) (hs:seqOf st a = some (nv (A ++ C))) (hl:(A ++ C).length <= 1000) (hA:∀ e ∈ A,e <= y) (hC:∀ e ∈ C,y < e):Call P (fBisR ad) [a,.int (y:Nat)] [] st (.int (A.length:Nat)) st:=by
 have:=bisR_ints (P:=P) (ad:=ad) (args:=[a,.int (y:Nat)]) (kw:=[]) (by lia) hs (by rw [nv_len]; unfold lim; lia) (lo:=0) (hi:=(A ++ C).length) (hv:=.imm .none) (gf:=fun m=>(((A ++ C).getD m 0:Nat):Int)) (fun m u_ h2=>nv_getD _ h2) (.inr ⟨rfl,by rw [nv_len]⟩) rfl
 have e:=bis_off (A:=A) (C:=C) (p:=fun e=>decide (y < e)) (q:=fun m=>decide (((y:Nat):Int) < (((A ++ C).getD m 0:Nat):Int))) 0 (fun e m=>by simpa using hA e m) (fun e m=>by simpa using hC e m) (fun m e he=>by
  rw [Nat.zero_add,List.getD_eq_getElem?_getD,he]
  exact decide_eq_decide.mpr Int.ofNat_lt)
 rw [Nat.zero_add,Nat.zero_add] at e
 rw [e] at this
 exact this
theorem bisL0 (hR:st.R.length < 90) (hs:seqOf st a = some (nv (A ++ C))) (hl:(A ++ C).length <= 1000) (hA:∀ e ∈ A,e < y) (hC:∀ e ∈ C,y <= e):Call P (fBisL ad) [a,.int (y:Nat),.int 0,.imm .none] [] st (.int (A.length:Nat)) st:=by
 have:=bisL_ints (P:=P) (ad:=ad) (args:=[a,.int (y:Nat),.int 0,.imm .none]) (kw:=[]) (by lia) hs (by rw [nv_len]; unfold lim; lia) (lo:=0) (hi:=(A ++ C).length) (hv:=.imm .none) (gf:=fun m=>(((A ++ C).getD m 0:Nat):Int)) (fun m u_ h2=>nv_getD _ h2) (.inr ⟨rfl,by rw [nv_len]⟩) (bind_key rfl rfl rfl _ _ _ _)
 have e:=bis_off (A:=A) (C:=C) (p:=fun e=>!decide (e < y)) (q:=fun m=>!decide ((((A ++ C).getD m 0:Nat):Int) < ((y:Nat):Int))) 0 (fun e m=>by simpa using hA e m) (fun e m=>by simpa using hC e m) (fun m e he=>by
  rw [Nat.zero_add,List.getD_eq_getElem?_getD,he]
  show (!decide (((e:Nat):Int) < ((y:Nat):Int))) = !decide (e < y)
  congr 1
  exact decide_eq_decide.mpr Int.ofNat_lt)
 rw [Nat.zero_add,Nat.zero_add] at e
 rw [e] at this
 exact this
theorem insL0 (hf:P.fns.find? (fun f=>f.addr == bd) = some (fBisL bd)) (hR:st.R.length < 80) (hob:st.obj l i = some (.list (nv (A ++ C)))) (hl:(A ++ C).length <= 1000) (hA:∀ e ∈ A,e < y) (hC:∀ e ∈ C,y <= e) :
  Call P (fIns ad bd) [.ref l i,.int (y:Nat)] [] st (.imm .none) (st.setObj l i (.list (nv (A ++ y :: C)))):=by
 have:=ins_body (P:=P) (ad:=ad) (key:=.imm .none) (bkw:=[]) (k:=A.length) (x:=.int (y:Nat)) (bx:=.int (y:Nat)) hob (by rw [nv_len]; unfold lim; lia) (by rw [nv_len,List.length_append]; lia) (by lia) rfl hf (fun ρ=>bisL0 (by show (st.R ++ [[]]).length < 90; rw [List.length_append]; show st.R.length + 1 < 90; lia) (show seqOf ⟨ρ,st.R ++ [[]]⟩ (.ref l i) = _ by show (match St.obj ⟨ρ,st.R ++ [[]]⟩ l i with | some (.list vs)=>some vs | _=>none) = _; rw [obj_app ρ st.ρ,show St.obj ⟨st.ρ,st.R⟩ l i = _ from hob]) hl hA hC) (.inl ⟨rfl,rfl,rfl⟩)
 have e:=ins_split (nv A) (nv C) (V.int (y:Nat))
 rw [nv_len] at e
 rw [nv_app,e] at this
 rw [nv_app]; exact this
end
section
variable {P:Pg} {n:Nat} {ρ:List (Option V)} {l:List (Nat × V)} {R:List (List AObj)} {α:Type}
theorem C_pairs {f1 f2 g:α->V} {q:α->Bool} {xs:List α} {i:MI} {it:It} {elt c:ME} (h:Hv n ρ l) (hy:YieldsR R it (xs.map fun x=>.tup [f1 x,f2 x]))
  (hc:∀ x ∈ xs,∀ ρ',Hv (n + 3) ρ' ((n + 1,f1 x) :: (n + 2,f2 x) :: l)->T P 8 c ⟨ρ',R⟩ (q x) ⟨ρ',R⟩ /\ (q x = true->E P elt ⟨ρ',R⟩ (g x) ⟨ρ',R⟩)) :
  ∃ j:List (Option V),j.length = 3 /\ C P [.mk (.tup [.slot (n + 1),.slot (n + 2)]) i [c]] elt it ⟨ρ ++ List.replicate 3 none,R⟩ ((xs.filter q).map g) ⟨ρ ++ j,R⟩:=
 C_pure (i:=i) xs it hy (fun x hx junk hj=>len3_e hj fun j0 j1 j2=>⟨[j0,some (f1 x),some (f2 x)],rfl,As_tup2 (st1:=⟨ρ ++ [j0,some (f1 x),j2],R⟩) (As_slot' (by simp [h.1]) (by rw [List.set_append_right _ _ (by rw [h.1]; exact Nat.le_succ _),h.1,show n + 1 - n = 1 by lia]; rfl)) (As_slot' (by simp [h.1]) (by rw [List.set_append_right _ _ (by rw [h.1]; lia),h.1,show n + 2 - n = 2 by lia]; rfl)),Ifs_one (hc x hx _ (h.ext2 j0 (f1 x) (f2 x))).1,(hc x hx _ (h.ext2 j0 (f1 x) (f2 x))).2⟩) (List.replicate 3 none) (List.length_replicate ..)
theorem E_filter2 {f1 f2 g:α->V} {q:α->Bool} {xs:List α} {i:MI} {it:It} {elt c:ME} {mu:Bool} {v:V} {R':List (List AObj)} (h:Hv n ρ l) (hi:I P i ⟨ρ,R⟩ it ⟨ρ,R⟩) (hy:YieldsR R it (xs.map fun x=>.tup [f1 x,f2 x]))
  (hc:∀ x ∈ xs,∀ ρ',Hv (n + 3) ρ' ((n + 1,f1 x) :: (n + 2,f2 x) :: l)->T P 8 c ⟨ρ',R⟩ (q x) ⟨ρ',R⟩ /\ (q x = true->E P elt ⟨ρ',R⟩ (g x) ⟨ρ',R⟩)) (hm:mkL mu ((xs.filter q).map g) ⟨ρ,R⟩ = some (v,⟨ρ,R'⟩)):E P (.comp mu n 3 [.mk (.tup [.slot (n + 1),.slot (n + 2)]) i [c]] elt) ⟨ρ,R⟩ v ⟨ρ,R'⟩:=by
 obtain ⟨j,_,hcc⟩:=C_pairs (i:=i) h hy hc
 refine E_comp hi h.1 hcc ?_
 show mkL mu ((xs.filter q).map g) ⟨(ρ ++ j).take n,R⟩ = _
 rw [<- h.1,List.take_left]; exact hm
end
theorem mkIt_nv {st:St} {a:V} {xs:List Nat} (hs:seqOf st a = some (nv xs)):∃ it,mkIt st a = some it /\ enIt st a = some (.en 0 it) /\ ∀ R,R = st.R->YieldsR R (.en 0 it) ((xs.zipIdx 0).map fun p=>.tup [.int (p.2:Nat),.int (p.1:Nat)]):=by
 have ez:((nv xs).zipIdx 0).map (fun p=>V.tup [.int (p.2:Nat),p.1]) = (xs.zipIdx 0).map fun p=>V.tup [.int (p.2:Nat),.int (p.1:Nat)]:=by
  unfold nv
  rw [List.zipIdx_map,List.map_map]; rfl
 rcases seq_cases hs with rfl | ⟨l,i,rfl,ho⟩
 ·exact ⟨_,rfl,rfl,fun R u_=>ez ▸ (yields_en (nv xs) (.seq (nv xs)) 0 (yields_seq _)).R⟩
 ·have hm:mkIt st (.ref l i) = some (.ref l i 0):=by
   show (match st.obj l i with | some (.list _)=>some (It.ref l i 0) | _=>none) = _
   rw [ho]
  refine ⟨.ref l i 0,hm,?_,fun R e=>ez ▸ yieldsR_en (nv xs) (.ref l i 0) 0 (yieldsR_ref (fun ρ=>by rw [e]; exact ho) (nv xs) 0 rfl)⟩
  show (match seqOf st (.ref l i),mkIt st (.ref l i) with | some _,some it=>some (It.en 0 it) | _,_=>none) = _
  rw [hs,hm]
section
variable {ρ:List (Option V)} {R0:List (List AObj)} {c:Nat} {room free:List Nat} {L:List (Nat × V)}
theorem jump_len {g:Bool}:∀ (p:Nat) (r:List Nat),(jumpN c g p r).1.length = r.length:=by
 have fl:∀ (r:List Nat) (g:Bool),(fillN c g r).1.length = r.length:=fun r=>by
  induction r with
  | nil=>exact fun u_=>rfl
  | cons a r ih=>exact fun g=>congrArg (· + 1) (ih _)
 intro p
 induction p with
 | zero=>intro r; cases r with
  | nil=>rfl
  | cons x r=>exact congrArg (· + 1) (fl r g)
 | succ p ih=>intro r; cases r with
  | nil=>rfl
  | cons x r=>exact congrArg (· + 1) (ih r)
theorem turn_len:∀ (gs:List Bool) (p:Nat) (r:List Nat),(turnN c gs p r).1.length = r.length
 | [],_,_=>rfl
 | g :: gs,p,r=>(turn_len gs (p + 1) _).trans (jump_len p r)
theorem places (room:List Nat) (c:Nat):((room.zipIdx 0).filter fun p=>p.1 == c).map (fun p=>V.int (p.2:Nat)) = nv (Pl c room):=by
 unfold nv Pl
 rw [<- mkP_filter (· == c) room 0,List.map_map]; rfl
theorem leap_step {p:Nat} (hR:R0.length < 60) (hl:room.length <= 100) (hp:p < room.length) (hc:c ≠ 0) (h0:room.getD p 0 ≠ 0) (hv:(jumpN c true p room).2 = false) (h:Hv 6 ρ ((2,.int (p:Nat)) :: (3,.int (c:Nat)) :: (1,.ref R0.length 0) :: (4,.ref R0.length 1) :: L)) (h5:(L.map (·.1)).contains 5 = false) :
  ∃ ρ',Hv 6 ρ' ((3,.int (c:Nat)) :: (1,.ref R0.length 0) :: (4,.ref R0.length 1) :: L) /\ X P01 pl2B0B ⟨ρ,Rb R0 (nv room) (Pl 0 room)⟩ .next ⟨ρ',Rb R0 (nv (jumpN c true p room).1) (Pl 0 (jumpN c true p room).1)⟩:=by
 obtain ⟨X,a,Y,Z,rfl,rfl,hY,e⟩:=jump_cut hp hv
 have ha:a ≠ 0:=by
  rw [List.getD_eq_getElem?_getD,List.getElem?_append_right (Nat.le_refl _),Nat.sub_self] at h0; exact h0
 obtain ⟨A,C,hA,hC,e1,e2⟩:=Pl_cut (X:=X) (Z:=Z) ha hc hY
 rw [e,e1,e2]
 generalize hg:X.length + 1 + Y.length = g at *
 have hlf:(A ++ g :: C).length <= 100:=by
  rw [<- e1]
  have:∀ (b:List Bool) (k:Nat),(mkP k b).length <= b.length:=fun b=>by
   induction b with
   | nil=>exact fun u_=>Nat.le_refl _
   | cons x b ih=>
    intro k
    show ((if x then [k] else []) ++ mkP (k + 1) b).length <= b.length + 1
    rw [List.length_append]
    have:=ih (k + 1)
    cases x
    ·show 0 + _ <= _; lia
    ·show 1 + _ <= _; lia
  have:=this ((X ++ a :: (Y ++ 0 :: Z)).map (· == 0)) 0
  rw [List.length_map] at this
  exact Nat.le_trans this hl
 have hlf':A.length + C.length + 1 <= 100:=by rw [List.length_append,List.length_cons] at hlf; lia
 have hlr:(X ++ a :: (Y ++ 0 :: Z)).length = X.length + Y.length + Z.length + 2:=by simp only [List.length_append,List.length_cons]; lia
 have k5:=h.put (i:=5) (.int (g:Nat)) (by simpa using h5) (by decide)
 have o1:∀ ρ (r f:List Nat),St.obj ⟨ρ,Rb R0 (nv r) f⟩ R0.length 1 = some (.list (nv f)):=fun ρ r f=>rb_1 ρ _
 have o0:∀ ρ (r f:List Nat),St.obj ⟨ρ,Rb R0 (nv r) f⟩ R0.length 0 = some (.list (nv r)):=fun ρ r f=>rb_0 ρ _
 have cb:=bisR0 (P:=P01) (ad:=32) (st:=⟨ρ,Rb R0 (nv (X ++ a :: (Y ++ 0 :: Z))) (A ++ g :: C)⟩) (a:=.ref R0.length 1) (A:=A) (C:=g :: C) (y:=X.length) (by show (Rb R0 _ _).length < 90; rw [rb_len]; lia) (by show (match St.obj _ R0.length 1 with | some (.list vs)=>some vs | _=>none) = _; rw [o1]) (by lia) (fun e m=>Nat.le_of_lt (hA e m)) (fun e m=>by
  rcases List.mem_cons.mp m with rfl | m
  ·lia
  ·have:=hC e m; lia)
 obtain ⟨p1,p2⟩:=pop_at (G:=P01) (k:=A.length) (v:=.int (g:Nat)) (o1 ρ (X ++ a :: (Y ++ 0 :: Z)) (A ++ g :: C)) (by rw [nv_len]; unfold lim; lia) (by rw [nv_app,List.getElem?_append_right (by rw [nv_len]; exact Nat.le_refl _),nv_len,Nat.sub_self]; rfl)
 rw [up_last,show (nv (A ++ g :: C)).eraseIdx A.length = nv (A ++ C) by rw [nv_app,nv_app,List.eraseIdx_append_of_length_le (by rw [nv_len]; exact Nat.le_refl _),nv_len,Nat.sub_self]; rfl] at p1
 have x0:X1 P01 pl2B0B0 ⟨ρ,Rb R0 (nv (X ++ a :: (Y ++ 0 :: Z))) (A ++ g :: C)⟩ .next ⟨ρ.set 5 (some (.int (g:Nat))),Rb R0 (nv (X ++ a :: (Y ++ 0 :: Z))) (A ++ C)⟩:=
  X1_assign (E_meth (E_slot (h.get 3 rfl)) p2 (Es_cons (E_call E_imm (Es_cons (E_slot (h.get 3 rfl)) (Es_cons (E_slot (h.get 0 rfl)) Es_nil)) Ek_nil (Ap_fn h01_32 cb)) Es_nil) p1) (As_hv h (by decide))
 have ci:=insL0 (P:=P01) (ad:=41) (st:=⟨ρ.set 5 (some (.int (g:Nat))),Rb R0 (nv (X ++ a :: (Y ++ 0 :: Z))) (A ++ C)⟩) (l:=R0.length) (i:=1) (A:=A) (C:=C) (y:=X.length) h01_50 (by show (Rb R0 _ _).length < 80; rw [rb_len]; lia) (o1 _ _ _) (by rw [List.length_append]; lia) hA (fun e m=>by have:=hC e m; lia)
 rw [setObj_up,up_last] at ci
 have x1:X1 P01 pl2B0B1 ⟨ρ.set 5 (some (.int (g:Nat))),Rb R0 (nv (X ++ a :: (Y ++ 0 :: Z))) (A ++ C)⟩ .next ⟨ρ.set 5 (some (.int (g:Nat))),Rb R0 (nv (X ++ a :: (Y ++ 0 :: Z))) (A ++ X.length :: C)⟩:=
  X1_expr (E_call E_imm (Es_cons (E_slot (k5.get 4 rfl)) (Es_cons (E_slot (k5.get 1 rfl)) Es_nil)) Ek_nil (Ap_fn h01_41 ci))
 have s1:=set_at (v:=.int 0) (k:=X.length) (o0 (ρ.set 5 (some (.int (g:Nat)))) (X ++ a :: (Y ++ 0 :: Z)) (A ++ X.length :: C)) (by rw [nv_len,hlr]; unfold lim; lia) (by rw [nv_len,hlr]; lia) rfl
 rw [up_last,show (nv (X ++ a :: (Y ++ 0 :: Z))).set X.length (V.int 0) = nv (X ++ 0 :: (Y ++ 0 :: Z)) by rw [nv_app,nv_app,List.set_append_right _ _ (by rw [nv_len]; exact Nat.le_refl _),nv_len,Nat.sub_self]; rfl] at s1
 have s2:=set_at (v:=.int (c:Nat)) (k:=g) (o0 (ρ.set 5 (some (.int (g:Nat)))) (X ++ 0 :: (Y ++ 0 :: Z)) (A ++ X.length :: C)) (by rw [nv_len]; simp only [List.length_append,List.length_cons] at hl ⊢; unfold lim; lia) (by rw [nv_len]; simp only [List.length_append,List.length_cons]; lia) rfl
 have eset:(nv (X ++ 0 :: (Y ++ 0 :: Z))).set g (V.int (c:Nat)) = nv (X ++ 0 :: (Y ++ c :: Z)):=by
  have e3:∀ w:Nat,X ++ 0 :: (Y ++ w :: Z) = (X ++ 0 :: Y) ++ w :: Z:=fun w=>by rw [List.append_assoc]; rfl
  have hl2:(nv (X ++ 0 :: Y)).length = g:=by rw [nv_len,List.length_append,List.length_cons]; lia
  rw [e3,e3,nv_app,nv_app _ (c :: Z),List.set_append_right _ _ (Nat.le_of_eq hl2),hl2,Nat.sub_self]; rfl
 rw [up_last,eset] at s2
 have x2:X1 P01 pl2B0B2 ⟨ρ.set 5 (some (.int (g:Nat))),Rb R0 (nv (X ++ a :: (Y ++ 0 :: Z))) (A ++ X.length :: C)⟩ .next ⟨ρ.set 5 (some (.int (g:Nat))),Rb R0 (nv (X ++ 0 :: (Y ++ c :: Z))) (A ++ X.length :: C)⟩:=
  X1_assign (E_tup (Es_cons (E_int (i:=0)) (Es_cons (E_slot (k5.get 2 rfl)) Es_nil))) (As_tup2 (As_sub (E_slot (k5.get 3 rfl)) (E_slot (k5.get 1 rfl)) s1) (As_sub (E_slot (k5.get 3 rfl)) (E_slot (k5.get 0 rfl)) s2))
 exact ⟨_,k5.tl.tl,X_next x0 (X_next x1 (X_one x2))⟩
theorem leap_turn (hR:R0.length < 60) (hc:c ≠ 0) (h2:(L.map (·.1)).contains 2 = false) (h5:(L.map (·.1)).contains 5 = false):∀ (gs:List Bool) (k:Nat) (room:List Nat) (ρ:List (Option V)),room.length <= 100->k + gs.length = room.length->(∀ i,gs[i]? = some true->room.getD (k + i) 0 ≠ 0)->(turnN c gs k room).2 = false->
  Hv 6 ρ ((3,.int (c:Nat)) :: (1,.ref R0.length 0) :: (4,.ref R0.length 1) :: L)->∃ ρ',Hv 6 ρ' ((3,.int (c:Nat)) :: (1,.ref R0.length 0) :: (4,.ref R0.length 1) :: L) /\
   X P01 [.forGo (.slot 2) (.seq (nv (mkP k gs))) pl2B0B []] ⟨ρ,Rb R0 (nv room) (Pl 0 room)⟩ .next ⟨ρ',Rb R0 (nv (turnN c gs k room).1) (Pl 0 (turnN c gs k room).1)⟩
 | [],k,room,ρ,_,_,_,_,h=>⟨ρ,h,F_end rfl X_nil⟩
 | g :: gs,k,room,ρ,hl,hk,hg,hv,h=>by
  obtain ⟨hv1,hv2⟩:=Bool.or_eq_false_iff.mp (show ((jumpN c g k room).2 || (turnN c gs (k + 1) (jumpN c g k room).1).2) = false from hv)
  have hk:k + (gs.length + 1) = room.length:=hk
  have e:(turnN c (g :: gs) k room).1 = (turnN c gs (k + 1) (jumpN c g k room).1).1:=rfl
  rw [e]
  cases g with
  | false=>
   rw [jump_f] at hv2 ⊢
   exact leap_turn hR hc h2 h5 gs (k + 1) room ρ hl (by lia) (fun i hi=>by have:=hg (i + 1) hi; rw [show k + 1 + i = k + (i + 1) by lia]; exact this) hv2 h
  | true=>
   have hk2:=h.put (i:=2) (.int (k:Nat)) (by simpa using h2) (by decide)
   obtain ⟨ρ1,g1,x1⟩:=leap_step hR hl (by lia) hc (hg 0 rfl) hv1 hk2 h5
   have hi:∀ i,gs[i]? = some true->(jumpN c true k room).1.getD (k + 1 + i) 0 ≠ 0:=fun i hi=>by
    have h0:=hg (i + 1) hi
    rw [show k + (i + 1) = k + 1 + i by lia] at h0
    obtain ⟨X,a,Y,Z,e1,e2,hY,e3⟩:=jump_cut (by lia) hv1
    rw [e3]
    rw [e1] at h0
    have w:∀ (b:Nat) (U:List Nat),(X ++ b :: U).getD (k + 1 + i) 0 = U.getD i 0:=fun b U=>by
     rw [List.getD_eq_getElem?_getD,List.getElem?_append_right (by lia),show k + 1 + i - X.length = i + 1 by lia,List.getElem?_cons_succ,<- List.getD_eq_getElem?_getD]
    rw [w] at h0 ⊢
    rw [List.getD_eq_getElem?_getD] at h0 ⊢
    by_cases q:i < Y.length
    ·rw [List.getElem?_append_left q] at h0 ⊢; exact h0
    ·rw [List.getElem?_append_right (Nat.le_of_not_lt q)] at h0 ⊢
     cases hj:i - Y.length with
     | zero=>exact hc
     | succ j=>rw [hj] at h0; exact h0
   obtain ⟨ρ2,g2,x2⟩:=leap_turn hR hc h2 h5 gs (k + 1) _ ρ1 (by rw [jump_len]; exact hl) (by rw [jump_len]; lia) hi hv2 g1
   exact ⟨ρ2,g2,F_on rfl (As_hv h (by decide)) x1 x2⟩
theorem T_eqn {P:Pg} {st:St} {a b:ME} {x y:Nat} (h1:E P a st (.int (x:Nat)) st) (h2:E P b st (.int (y:Nat)) st):T P 8 (.cmp a [.Eq] [b]) st (x == y) st:=T_cmp1 h1 h2 (cmp_eqn _ x y)
theorem leap_loop (hR:R0.length < 60) (h2:(L.map (·.1)).contains 2 = false) (h3:(L.map (·.1)).contains 3 = false) (h5:(L.map (·.1)).contains 5 = false):∀ (cs room:List Nat) (ρ:List (Option V)),room.length <= 100->(∀ c ∈ cs,c ≠ 0)->(leapN cs room).2 = false->
  Hv 6 ρ ((1,.ref R0.length 0) :: (4,.ref R0.length 1) :: L)->∃ ρ',Hv 6 ρ' ((1,.ref R0.length 0) :: (4,.ref R0.length 1) :: L) /\
   X P01 [.forGo (.slot 3) (.seq (nv cs)) pl2B []] ⟨ρ,Rb R0 (nv room) (Pl 0 room)⟩ .next ⟨ρ',Rb R0 (nv (leapN cs room).1) (Pl 0 (leapN cs room).1)⟩
 | [],room,ρ,_,_,_,h=>⟨ρ,h,F_end rfl X_nil⟩
 | c :: cs,room,ρ,hl,hcs,hv,h=>by
  obtain ⟨hc,hcs⟩:=List.forall_mem_cons.mp hcs
  obtain ⟨hv1,hv2⟩:=Bool.or_eq_false_iff.mp (show ((turnN c (room.map (· == c)) 0 room).2 || (leapN cs (turnN c (room.map (· == c)) 0 room).1).2) = false from hv)
  have k3:=h.put (i:=3) (.int (c:Nat)) (by simpa using h3) (by decide)
  obtain ⟨ρ1,g1,x1⟩:=leap_turn hR hc h2 h5 (room.map (· == c)) 0 room _ hl (by rw [List.length_map,Nat.zero_add]) (fun i hi=>by
   rw [List.getElem?_map] at hi
   rw [Nat.zero_add,List.getD_eq_getElem?_getD]
   cases e:room[i]? with
   | none=>rw [e] at hi; cases hi
   | some x=>
    rw [e] at hi
    have:x = c:=by simpa using hi
    rw [this]; exact hc) hv1 k3
  obtain ⟨ρ2,g2,x2⟩:=leap_loop hR h2 h3 h5 cs _ ρ1 (by rw [turn_len]; exact hl) hcs hv2 g1.tl
  obtain ⟨it,m1,m2,m3⟩:=mkIt_nv (st:=⟨ρ.set 3 (some (.int (c:Nat))),Rb R0 (nv room) (Pl 0 room)⟩) (a:=.ref R0.length 0) (xs:=room) (by show (match St.obj _ R0.length 0 with | some (.list vs)=>some vs | _=>none) = _; rw [rb_0])
  refine ⟨ρ2,g2,F_on rfl (As_hv h (by decide)) (X_one (X1_for (I_val (v:=.lst (nv (Pl c room))) (E_filter2 (f1:=fun p:Nat × Nat=>V.int (p.2:Nat)) (f2:=fun p:Nat × Nat=>V.int (p.1:Nat)) (g:=fun p:Nat × Nat=>V.int (p.2:Nat)) (q:=fun p:Nat × Nat=>p.1 == c) (xs:=room.zipIdx 0) k3 (I_enum (E_slot (k3.get 1 rfl)) m2) (m3 _ rfl) (fun x u_ ρ' h'=>⟨T_eqn (E_slot (h'.get 1 rfl)) (E_slot (h'.get 2 rfl)),fun u_=>E_slot (h'.get 0 rfl)⟩) ?_) rfl) x1)) x2⟩
  rw [places]
  unfold mkL
  rw [if_pos (by
   rw [<- places,List.length_map]
   refine Nat.le_trans (List.length_filter_le _ _) ?_
   rw [List.length_zipIdx]; unfold lim; lia)]; rfl
theorem h01_123:P01.fns.find? (fun f=>f.addr == 123) = some f01__law_leap:=rfl
theorem leap_call {st:St} {B:List Nat} (hR:st.R.length < 60) (hl:B.length <= 40) (hv:(leapN cs15 (B ++ List.replicate B.length 0)).2 = false):Call P01 f01__law_leap [.lst (nv B)] [] st (.lst (nv (leapN cs15 (B ++ List.replicate B.length 0)).1)) st:=by
 generalize hroom:B ++ List.replicate B.length 0 = room at hv ⊢
 have hrl:room.length <= 100:=by rw [<- hroom,List.length_append,List.length_replicate]; lia
 have k0:Hv 6 (emptyFrame 6 [.lst (nv B)]) [(0,.lst (nv B))]:=head1 (List.replicate 5 none) rfl
 have k1:=k0.put (i:=1) (.ref st.R.length 0) rfl (by decide)
 have k4:=k1.put (i:=4) (.ref st.R.length 1) rfl (by decide)
 have e1:E P01 (.bin .Mult (.lst [(.const (.int 0))] false) (.call (.imm (.builtin "len")) [(.slot 0)] []) false) ⟨emptyFrame 6 [.lst (nv B)],st.R ++ [[]]⟩ (.lst (nv (List.replicate B.length 0))) ⟨emptyFrame 6 [.lst (nv B)],st.R ++ [[]]⟩:=by
  refine E_bin (E_lst (vs:=[.int 0]) (Es_cons E_int Es_nil) rfl) (len_nv (xs:=B) (k0.get 0 rfl) rfl (by lia)) ?_
  show (if decide ((-1000:Int) <= (B.length:Nat)) && decide (((B.length:Nat):Int) <= 1000) && decide (1 <= 64) then mkL false (List.replicate ((B.length:Nat):Int).toNat [V.int 0]).flatten _ else none) = _
  rw [if_pos (by simp; lia),Int.toNat_natCast,flat1]
  unfold mkL nv
  rw [if_pos (by simp; unfold lim; lia),List.map_replicate]; rfl
 have x0:X1 P01 pl0 ⟨emptyFrame 6 [.lst (nv B)],st.R ++ [[]]⟩ .next ⟨(emptyFrame 6 [.lst (nv B)]).set 1 (some (.ref st.R.length 0)),st.R ++ [[.list (nv room)]]⟩:=by
  refine X1_assign (v:=.ref st.R.length 0) (st1:=⟨emptyFrame 6 [.lst (nv B)],st.R ++ [[.list (nv room)]]⟩) (E_bin (E_slot (v:=.lst (nv B)) (k0.get 0 rfl)) e1 ?_) (As_hv k0 (by decide))
  show mkL true (nv B ++ nv (List.replicate B.length 0)) ⟨emptyFrame 6 [.lst (nv B)],st.R ++ [[]]⟩ = _
  rw [<- nv_app,hroom]
  unfold mkL
  rw [if_pos (by rw [nv_len]; unfold lim; lia)]
  simp [St.alloc]
 have o0:∀ ρ,St.obj ⟨ρ,st.R ++ [[.list (nv room)]]⟩ st.R.length 0 = some (.list (nv room)):=fun ρ=>by rw [obj_last]; rfl
 obtain ⟨it,m1,m2,m3⟩:=mkIt_nv (st:=⟨(emptyFrame 6 [.lst (nv B)]).set 1 (some (.ref st.R.length 0)),st.R ++ [[.list (nv room)]]⟩) (a:=.ref st.R.length 0) (xs:=room) (by show (match St.obj _ st.R.length 0 with | some (.list vs)=>some vs | _=>none) = _; rw [o0])
 have x1:X1 P01 pl1 ⟨(emptyFrame 6 [.lst (nv B)]).set 1 (some (.ref st.R.length 0)),st.R ++ [[.list (nv room)]]⟩ .next ⟨((emptyFrame 6 [.lst (nv B)]).set 1 (some (.ref st.R.length 0))).set 4 (some (.ref st.R.length 1)),Rb st.R (nv room) (Pl 0 room)⟩:=by
  refine X1_assign (v:=.ref st.R.length 1) (st1:=⟨(emptyFrame 6 [.lst (nv B)]).set 1 (some (.ref st.R.length 0)),Rb st.R (nv room) (Pl 0 room)⟩) (E_filter2 (f1:=fun p:Nat × Nat=>V.int (p.2:Nat)) (f2:=fun p:Nat × Nat=>V.int (p.1:Nat)) (g:=fun p:Nat × Nat=>V.int (p.2:Nat)) (q:=fun p:Nat × Nat=>p.1 == 0) (xs:=room.zipIdx 0) k1 (I_enum (E_slot (k1.get 0 rfl)) m2) (m3 _ rfl) (fun x u_ ρ' h'=>⟨T_eqn (y:=0) (E_slot (h'.get 1 rfl)) E_int,fun u_=>E_slot (h'.get 0 rfl)⟩) ?_) (As_hv k1 (by decide))
  rw [places]
  unfold mkL
  rw [if_pos (by
   rw [<- places,List.length_map]
   refine Nat.le_trans (List.length_filter_le _ _) ?_
   rw [List.length_zipIdx]; unfold lim; lia)]
  simp [St.alloc]
 obtain ⟨ρ1,g1,x2⟩:=leap_loop (R0:=st.R) (L:=[]) hR rfl rfl rfl cs15 room (((emptyFrame 6 [.lst (nv B)]).set 1 (some (.ref st.R.length 0))).set 4 (some (.ref st.R.length 1))) hrl (by decide) hv ((k4.nil.add (k4.get 0 rfl)).add (k4.get 1 rfl))
 have xf:X1 P01 pl2 ⟨((emptyFrame 6 [.lst (nv B)]).set 1 (some (.ref st.R.length 0))).set 4 (some (.ref st.R.length 1)),Rb st.R (nv room) (Pl 0 room)⟩ .next ⟨ρ1,Rb st.R (nv (leapN cs15 room).1) (Pl 0 (leapN cs15 room).1)⟩:=X1_for (I_val (E_call E_imm (Es_cons E_int (Es_cons E_int (Es_cons (E_neg (i:=1) E_int) Es_nil))) Ek_nil (Ap_ty rfl)) (mkIt_rng (xs:=[15,14,13,12,11,10,9,8,7,6,5,4,3,2,1]) (by decide) (by decide))) x2
 have x3:X1 P01 pl3 ⟨ρ1,Rb st.R (nv (leapN cs15 room).1) (Pl 0 (leapN cs15 room).1)⟩ (.ret (.ref st.R.length 0)) ⟨ρ1,Rb st.R (nv (leapN cs15 room).1) (Pl 0 (leapN cs15 room).1)⟩:=X1_ret (E_slot (g1.get 0 rfl))
 refine Call_ret (st:=st) (R2:=st.R) (reg:=[.list (nv (leapN cs15 room).1),.list (nv (Pl 0 (leapN cs15 room).1))]) (v:=.ref st.R.length 0) (by lia) rfl (X_next x0 (X_next x1 (X_next xf (X_one x3)))) ?_
 refine frz_own (vs:=nv (leapN cs15 room).1) rfl ?_
 rw [nv_ints]
 exact mapO_frz_ints _ _ _ _
end
end
section
section
variable {col:Nat->Nat}
noncomputable def Cmp (col:Nat->Nat) (b:Nat) (Rs:List (List Nat)):Prop:=∀ R ∈ Rs,∀ e ∈ R,e ≠ b /\ (col e = col b->b < e)
noncomputable def Inv (col:Nat->Nat):List (List Nat)->Prop
 | []=>True
 | R :: Rs=>(R.Pairwise (· > ·) /\ Pos' R) /\ (∀ e ∈ R,Cmp col e Rs) /\ Inv col Rs
theorem col_lt (hm:∀ a b,a < b->col a <= col b) {e b:Nat} (h1:e ≠ b) (h2:col e = col b->b < e):col e < col b ↔ e < b:=by
 constructor
 ·intro h
  rcases Nat.lt_or_gt_of_ne h1 with q | q
  ·exact q
  ·exact absurd (hm _ _ q) (Nat.not_le.mpr h)
 ·intro h
  rcases Nat.lt_or_eq_of_le (hm _ _ h) with q | q
  ·exact q
  ·exact absurd (h2 q) (Nat.lt_asymm h)
theorem inv_ins (hm:∀ a b,a < b->col a <= col b) (hp:∀ a,0 < a->0 < col a):∀ (Rs:List (List Nat)) (b:Nat),0 < b->Inv col Rs->Cmp col b Rs->
  insR (Rs.map (·.map col)) (col b) = (insR Rs b).map (·.map col) /\ Inv col (insR Rs b) /\ ∀ R ∈ insR Rs b,∀ e ∈ R,e = b ∨ ∃ R' ∈ Rs,e ∈ R'
 | [],b,hb,_,_=>⟨rfl,⟨⟨List.pairwise_singleton _ _,List.forall_mem_cons.mpr ⟨hb,(fun u_ h=>nomatch h)⟩⟩,(fun u_ u_ u_ h=>nomatch h),trivial⟩,fun R m e me=>.inl (by
  rw [List.mem_singleton.mp m] at me
  exact List.mem_singleton.mp me)⟩
 | R :: Rs,b,hb,⟨⟨h1,h2⟩,h3,h4⟩,hc=>by
  obtain ⟨A,C,rfl,hA,hC⟩:=dsc_cut (h1.imp fun {a c} h=>Nat.le_of_lt h) b
  obtain ⟨hcR,hcs⟩:=List.forall_mem_cons.mp hc
  have iA:∀ a ∈ A.map col,¬ a < col b:=fun a m=>by
   obtain ⟨x,mx,rfl⟩:=List.mem_map.mp m
   obtain ⟨k1,k2⟩:=hcR x (List.mem_append_left _ mx)
   rw [col_lt hm k1 k2]; exact hA x mx
  have iC:∀ c ∈ C.map col,c < col b:=fun a m=>by
   obtain ⟨x,mx,rfl⟩:=List.mem_map.mp m
   obtain ⟨k1,k2⟩:=hcR x (List.mem_append_right _ mx)
   rw [col_lt hm k1 k2]; exact hC x mx
  have hAb:∀ a ∈ A,b < a:=fun a m=>Nat.lt_of_le_of_ne (Nat.le_of_not_lt (hA a m)) (hcR a (List.mem_append_left _ m)).1.symm
  obtain ⟨pA,pC,pAC⟩:=List.pairwise_append.mp h1
  have e1:insR ((A ++ C) :: Rs) b = (inr b (A ++ C)).1 :: (if (inr b (A ++ C)).2 = 0 then Rs else insR Rs (inr b (A ++ C)).2):=rfl
  have e2:insR (((A ++ C) :: Rs).map (·.map col)) (col b) = (inr (col b) (A.map col ++ C.map col)).1 :: (if (inr (col b) (A.map col ++ C.map col)).2 = 0 then Rs.map (·.map col) else insR (Rs.map (·.map col)) (inr (col b) (A.map col ++ C.map col)).2):=by
   rw [<- List.map_append]; rfl
  rw [e1,e2,inr_cut hA hC,inr_cut iA iC]
  cases C with
  | nil=>
   refine ⟨?_,⟨⟨List.pairwise_append.mpr ⟨pA,List.pairwise_singleton _ _,fun a ma c mc=>by rw [List.mem_singleton.mp mc]; exact hAb a ma⟩,fun a m=>?_⟩,fun e me=>?_,h4⟩,fun R m e me=>?_⟩
   ·show (A.map col ++ [col b]) :: Rs.map (·.map col) = ((A ++ [b]) :: Rs).map (·.map col)
    rw [List.map_cons,List.map_append]; rfl
   ·rcases List.mem_append.mp m with m | m
    ·exact h2 a (List.mem_append_left _ m)
    ·rw [List.mem_singleton.mp m]; exact hb
   ·rcases List.mem_append.mp me with me | me
    ·exact h3 e (List.mem_append_left _ me)
    ·rw [List.mem_singleton.mp me]; exact hcs
   ·rcases List.mem_cons.mp m with rfl | m
    ·rcases List.mem_append.mp me with me | me
     ·exact .inr ⟨_,.head _,List.mem_append_left _ me⟩
     ·exact .inl (List.mem_singleton.mp me)
    ·exact .inr ⟨R,.tail _ m,me⟩
  | cons c C=>
   have mc:c ∈ A ++ c :: C:=List.mem_append_right _ (.head _)
   have c0:0 < c:=h2 c mc
   have cb:c < b:=hC c (.head _)
   have ccb:col c < col b:=(col_lt hm (hcR c mc).1 (hcR c mc).2).mpr cb
   obtain ⟨i1,i2,i3⟩:=inv_ins hm hp Rs c c0 h4 (h3 c mc)
   have pcC:=(List.pairwise_cons.mp pC)
   have hx:∀ e ∈ A ++ b :: C,c ≠ e /\ (col c = col e->e < c):=fun e me=>by
    rcases List.mem_append.mp me with me | me
    ·have:=hm _ _ (hAb e me)
     have:=hAb e me
     exact ⟨by lia,fun w=>by lia⟩
    ·rcases List.mem_cons.mp me with rfl | me
     ·exact ⟨by lia,fun w=>by lia⟩
     ·have:=pcC.1 e me
      exact ⟨by lia,fun u_=>this⟩
   show ((A.map col ++ col b :: C.map col) :: (if col c = 0 then Rs.map (·.map col) else insR (Rs.map (·.map col)) (col c))) = (((A ++ b :: C) :: (if c = 0 then Rs else insR Rs c)).map (·.map col)) /\ Inv col ((A ++ b :: C) :: (if c = 0 then Rs else insR Rs c)) /\ ∀ R ∈ ((A ++ b :: C) :: (if c = 0 then Rs else insR Rs c)),∀ e ∈ R,e = b ∨ ∃ R' ∈ (A ++ c :: C) :: Rs,e ∈ R'
   rw [if_neg (Nat.ne_of_gt c0),if_neg (Nat.ne_of_gt (hp c c0))]
   refine ⟨?_,⟨⟨List.pairwise_append.mpr ⟨pA,List.pairwise_cons.mpr ⟨fun d md=>hC d (.tail _ md),pcC.2⟩,fun a ma d md=>?_⟩,fun a m=>?_⟩,fun e me R mR x mx=>?_,i2⟩,fun R m e me=>?_⟩
   ·rw [i1,List.map_cons,List.map_append]; rfl
   ·rcases List.mem_cons.mp md with rfl | md
    ·exact hAb a ma
    ·exact pAC a ma d (.tail _ md)
   ·rcases List.mem_append.mp m with m | m
    ·exact h2 a (List.mem_append_left _ m)
    ·rcases List.mem_cons.mp m with rfl | m
     ·exact hb
     ·exact h2 a (List.mem_append_right _ (.tail _ m))
   ·rcases i3 R mR x mx with rfl | ⟨R',mR',mx'⟩
    ·exact hx e me
    ·rcases List.mem_append.mp me with me | me
     ·exact h3 e (List.mem_append_left _ me) R' mR' x mx'
     ·rcases List.mem_cons.mp me with rfl | me
      ·exact hcs R' mR' x mx'
      ·exact h3 e (List.mem_append_right _ (.tail _ me)) R' mR' x mx'
   ·rcases List.mem_cons.mp m with rfl | m
    ·rcases List.mem_append.mp me with me | me
     ·exact .inr ⟨_,.head _,List.mem_append_left _ me⟩
     ·rcases List.mem_cons.mp me with rfl | me
      ·exact .inl rfl
      ·exact .inr ⟨_,.head _,List.mem_append_right _ (.tail _ me)⟩
    ·rcases i3 R m e me with rfl | ⟨R',mR',me'⟩
     ·exact .inr ⟨_,.head _,mc⟩
     ·exact .inr ⟨R',.tail _ mR',me'⟩
theorem inv_fold (hm:∀ a b,a < b->col a <= col b) (hp:∀ a,0 < a->0 < col a):∀ (ns:List Nat) (Rs:List (List Nat)),Inv col Rs->(∀ b ∈ ns,0 < b /\ Cmp col b Rs)->ns.Pairwise (fun a b=>a ≠ b /\ (col a = col b->b < a))->
  (ns.foldl insR Rs).map (·.map col) = (ns.map col).foldl insR (Rs.map (·.map col))
 | [],_,_,_,_=>rfl
 | b :: ns,Rs,hi,hb,hw=>by
  obtain ⟨⟨hb0,hbc⟩,hbs⟩:=List.forall_mem_cons.mp hb
  obtain ⟨hw1,hw2⟩:=List.pairwise_cons.mp hw
  obtain ⟨i1,i2,i3⟩:=inv_ins hm hp Rs b hb0 hi hbc
  rw [List.foldl_cons,List.map_cons,List.foldl_cons,i1]
  refine inv_fold hm hp ns _ i2 (fun d md=>⟨(hbs d md).1,fun R mR e me=>?_⟩) hw2
  rcases i3 R mR e me with rfl | ⟨R',mR',me'⟩
  ·exact hw1 d md
  ·exact (hbs d md).2 R' mR' e me'
end
noncomputable def Pre (p q:Nat × Nat):Prop:=q.1 < p.1 ∨ (p.1 = q.1 /\ p.2 < q.2)
theorem Pre.asym {p q:Nat × Nat} (h:Pre p q) (k:Pre q p):False:=by
 unfold Pre at h k; lia
noncomputable abbrev SP (l:List (Nat × Nat)):Prop:=l.Pairwise Pre
theorem SP_eq:∀ {l m:List (Nat × Nat)},SP l->SP m->(∀ x,x ∈ l ↔ x ∈ m)->l = m
 | [],[],_,_,_=>rfl
 | [],y :: m,_,_,h=>absurd ((h y).mpr (.head _)) (fun h=>nomatch h)
 | x :: l,[],_,_,h=>absurd ((h x).mp (.head _)) (fun h=>nomatch h)
 | x :: l,y :: m,h1,h2,h=>by
  obtain ⟨a1,a2⟩:=List.pairwise_cons.mp h1
  obtain ⟨b1,b2⟩:=List.pairwise_cons.mp h2
  have e:x = y:=by
   rcases List.mem_cons.mp ((h x).mp (.head _)) with e | mx
   ·exact e
   ·rcases List.mem_cons.mp ((h y).mpr (.head _)) with e | my
    ·exact e.symm
    ·exact ((a1 y my).asym (b1 x mx)).elim
  subst e
  congr 1
  refine SP_eq a2 b2 fun z=>⟨fun mz=>?_,fun mz=>?_⟩
  ·rcases List.mem_cons.mp ((h z).mp (.tail _ mz)) with e | mz'
   ·subst e; exact ((a1 z mz).asym (a1 z mz)).elim
   ·exact mz'
  ·rcases List.mem_cons.mp ((h z).mpr (.tail _ mz)) with e | mz'
   ·subst e; exact ((b1 z mz).asym (b1 z mz)).elim
   ·exact mz'
theorem SP_idx {l:List (Nat × Nat)} (h:SP l) {p q:Nat × Nat} (hp:p ∈ l) (hq:q ∈ l) (k:Pre p q):l.idxOf p < l.idxOf q:=by
 have i1:=List.idxOf_lt_length_of_mem hp
 have i2:=List.idxOf_lt_length_of_mem hq
 rcases Nat.lt_trichotomy (l.idxOf p) (l.idxOf q) with w | w | w
 ·exact w
 ·have:p = q:=by rw [<- List.getElem_idxOf i1,<- List.getElem_idxOf i2]; exact getElem_congr_idx w
  subst this; exact (k.asym k).elim
 ·have:=List.pairwise_iff_getElem.mp h _ _ i2 i1 w
  rw [List.getElem_idxOf,List.getElem_idxOf] at this
  exact (k.asym this).elim
noncomputable def numOf (F:List (Nat × Nat)) (p:Nat × Nat):Nat:=F.length - F.idxOf p
noncomputable def colOf (F:List (Nat × Nat)) (k:Nat):Nat:=(F.getD (F.length - k) (0,0)).1
theorem col_num {F:List (Nat × Nat)} {p:Nat × Nat} (hp:p ∈ F):colOf F (numOf F p) = p.1 /\ 0 < numOf F p /\ numOf F p <= F.length:=by
 have i1:=List.idxOf_lt_length_of_mem hp
 refine ⟨?_,by unfold numOf; lia,by unfold numOf; lia⟩
 unfold colOf numOf
 rw [show F.length - (F.length - F.idxOf p) = F.idxOf p by lia,List.getD_eq_getElem?_getD,List.getElem?_eq_getElem i1,List.getElem_idxOf]; rfl
theorem apart_rows {balls F:List (Nat × Nat)} (hF:SP F) (hm:∀ x,x ∈ F ↔ x ∈ balls) (hb:balls.Pairwise fun p q=>p.2 < q.2) (hc:∀ p ∈ balls,0 < p.1) :
  (rowsR [] (balls.map (numOf F))).map (·.map (colOf F)) = rowsR [] (balls.map (·.1)):=by
 cases hn:balls with
 | nil=>rfl
 | cons p0 b0=>
 rw [<- hn]
 have hpos:0 < F.length:=List.length_pos_iff.mpr fun e=>by
  have:=(hm p0).mpr (by rw [hn]; exact .head _)
  rw [e] at this; cases this
 have hget:∀ i,i < F.length->F.getD i (0,0) ∈ F:=fun i hi=>by
  rw [List.getD_eq_getElem?_getD,List.getElem?_eq_getElem hi]; exact List.getElem_mem _
 have mono:∀ a b,a < b->colOf F a <= colOf F b:=fun a b hab=>by
  unfold colOf
  by_cases h0:a = 0
  ·subst h0
   rw [Nat.sub_zero,List.getD_eq_getElem?_getD,List.getElem?_eq_none (Nat.le_refl _)]
   exact Nat.zero_le _
  ·rcases Nat.lt_or_eq_of_le (show F.length - b <= F.length - a by lia) with w | w
   ·have h1:F.length - b < F.length:=by lia
    have h2:F.length - a < F.length:=by lia
    have:=List.pairwise_iff_getElem.mp hF _ _ h1 h2 w
    rw [List.getD_eq_getElem?_getD,List.getD_eq_getElem?_getD,List.getElem?_eq_getElem h1,List.getElem?_eq_getElem h2]
    show (F[F.length - a]).1 <= (F[F.length - b]).1
    rcases this with k | k
    ·exact Nat.le_of_lt k
    ·exact Nat.le_of_eq k.1.symm
   ·rw [w]; exact Nat.le_refl _
 have pos:∀ a,0 < a->0 < colOf F a:=fun a ha=>hc _ ((hm _).mp (hget _ (by lia)))
 have nz:∀ {l:List Nat},(∀ x ∈ l,0 < x)->∀ Rs,rowsR Rs l = l.foldl insR Rs:=by
  intro l
  induction l with
  | nil=>exact fun u_ u_=>rfl
  | cons x l ih=>
   intro h Rs
   obtain ⟨h1,h2⟩:=List.forall_mem_cons.mp h
   show rowsR (if x = 0 then Rs else insR Rs x) l = _
   rw [if_neg (Nat.ne_of_gt h1),ih h2]; rfl
 have p1:∀ x ∈ balls.map (numOf F),0 < x:=fun x m=>by
  obtain ⟨p,mp,rfl⟩:=List.mem_map.mp m
  exact (col_num ((hm p).mpr mp)).2.1
 have p2:∀ x ∈ balls.map (·.1),0 < x:=fun x m=>by
  obtain ⟨p,mp,rfl⟩:=List.mem_map.mp m
  exact hc p mp
 rw [nz p1,nz p2]
 have e:=inv_fold mono pos (balls.map (numOf F)) [] trivial (fun b m=>⟨p1 b m,fun u_ h=>nomatch h⟩) (by
  rw [List.pairwise_map]
  refine hb.imp_of_mem fun {p q} mp mq hpq=>?_
  have np:=col_num ((hm p).mpr mp)
  have nq:=col_num ((hm q).mpr mq)
  rw [np.1,nq.1]
  have i1:=List.idxOf_lt_length_of_mem ((hm p).mpr mp)
  have i2:=List.idxOf_lt_length_of_mem ((hm q).mpr mq)
  refine ⟨fun w=>?_,fun w=>?_⟩
  ·have:F.idxOf p = F.idxOf q:=by unfold numOf at w; lia
   have:p = q:=by rw [<- List.getElem_idxOf i1,<- List.getElem_idxOf i2]; exact getElem_congr_idx this
   rw [this] at hpq; exact Nat.lt_irrefl _ hpq
  ·have:=SP_idx hF ((hm p).mpr mp) ((hm q).mpr mq) (.inr ⟨w,hpq⟩)
   unfold numOf; lia)
 have e3:(balls.map (numOf F)).map (colOf F) = balls.map (·.1):=by
  rw [List.map_map]
  exact List.map_congr_left fun p mp=>(col_num ((hm p).mpr mp)).1
 rw [e3] at e
 exact e
end
section
noncomputable def toT (p:Nat × Nat):V:=.tup [.int (p.1:Nat),.int (p.2:Nat)]
theorem toPD_pairs:∀ row:List (Nat × Nat),toPDL (row.map toT) = some (row.map fun p=>PyData.tuple [.int (p.1:Nat),.int (p.2:Nat)])
 | []=>rfl
 | p :: r=>by
  exact toPDL_cons rfl (toPD_pairs r)
theorem lay_pairs:∀ row:List (Nat × Nat),PyData.canLayAll0 (row.map fun p=>PyData.tuple [.int (p.1:Nat),.int (p.2:Nat)]) = true /\ PyData.depthAll (row.map fun p=>PyData.tuple [.int (p.1:Nat),.int (p.2:Nat)]) <= 1
 | []=>⟨rfl,Nat.zero_le _⟩
 | p :: r=>by
  obtain ⟨h1,h2⟩:=lay_pairs r
  simp only [List.map_cons,PyData.canLayAll0,PyData.canLay0,PyData.depthAll,PyData.depth,h1,Bool.and_true,Bool.true_and]
  exact ⟨trivial,by lia⟩
theorem eqV_pairs (st:St) (row:List (Nat × Nat)):eqV st (.lst (row.map toT)) (.lst (row.map toT)) = some true:=by
 have h:toPD (.lst (row.map toT)) = some (.list (row.map fun p=>PyData.tuple [.int (p.1:Nat),.int (p.2:Nat)])):=by rw [toPD_lst,toPD_pairs]; rfl
 obtain ⟨h1,h2⟩:=lay_pairs row
 exact  eqd_refl h (by
  unfold SeqAt.shaped
  rw [Bool.and_eq_true]
  exact ⟨by simp only [PyData.canLay0]; exact h1,decide_eq_true (by simp only [PyData.depth]; lia)⟩)
theorem eqV_ref2 {st:St} {l i:Nat} {vs us:List V} (h:st.obj l i = some (.list us)):eqV st (.lst vs) (.ref l i) = eqV st (.lst vs) (.lst us):=by
 show (match (match st.obj l i with | some (.list vs)=>some (V.lst vs) | _=>none) with | some y=>eqd (.lst vs) y | none=>none) = _
 rw [h]; rfl
theorem nones_pd:∀ n:Nat,toPDL (List.replicate n (.imm .none)) = some (List.replicate n .none) /\ PyData.canLayAll0 (List.replicate n .none) = true /\ PyData.depthAll (List.replicate n .none) = 0
 | 0=>⟨rfl,rfl,rfl⟩
 | n + 1=>by
  obtain ⟨h1,h2,h3⟩:=nones_pd n
  refine ⟨toPDL_cons rfl h1,?_,?_⟩
  ·simp only [List.replicate_succ,PyData.canLayAll0,PyData.canLay0,h2,Bool.and_true]
  ·simp only [List.replicate_succ,PyData.depthAll,PyData.depth,h3]; rfl
theorem eqV_nones (st:St) (n:Nat):eqV st (.lst (List.replicate n (.imm .none))) (.lst (List.replicate n (.imm .none))) = some true:=by
 obtain ⟨h1,h2,h3⟩:=nones_pd n
 have h:toPD (.lst (List.replicate n (.imm .none))) = some (.list (List.replicate n .none)):=by rw [toPD_lst,h1]; rfl
 exact  eqd_refl h (by
  unfold SeqAt.shaped
  rw [Bool.and_eq_true]
  exact ⟨by simp only [PyData.canLay0]; exact h2,decide_eq_true (by simp only [PyData.depth,h3]; decide)⟩)
noncomputable def lamA:Lam:=⟨("pair" : Str),[],(.neg (.sub .par (.int 0)))⟩
noncomputable abbrev qnA:Str := "_law_apart.<locals>.<lambda>"
theorem hp_pair:HPlain [("pair" : Str)]:=hplain1 fun u_ u_ u_ u_ u_ u_ u_ u_ u_ u_ u_ u_ u_ u_ u_ u_ u_ u_=>rfl
theorem key_app {P:Pg} {p:Nat × Nat} {s:St}:ApO P (.clo lamA []) [toT p] s (.int (-(p.1:Int))) s:=ApO_clo hp_pair (by
 show (match evL s [] (toT p) (.sub .par (.int 0)) with | some u=>intV u fun i=>some (V.int (-i)) | none=>none) = _
 rfl)
theorem key_pair {P:Pg} {p:Nat × Nat}:KeyFn P (.clo lamA []) (toT p) (-(p.1:Int)):=fun u_ u_=>key_app
section
variable {st:St} {l i:Nat} {p:Nat × Nat} {A C:List (Nat × Nat)}
theorem getD_pair {F:List (Nat × Nat)} {m:Nat} (h:m < F.length):(F.map toT)[m]? = some (toT (F.getD m (0,0))):=by
 rw [List.getElem?_map,List.getD_eq_getElem?_getD,List.getElem?_eq_getElem h]; rfl
theorem bisR_pair {a:V} (hR:st.R.length < 90) (hs:seqOf st a = some ((A ++ C).map toT)) (hl:(A ++ C).length <= 1000) (hA:∀ e ∈ A,p.1 <= e.1) (hC:∀ e ∈ C,e.1 < p.1):Call P01 (fBisR 32) [a,.int (-(p.1:Int)),.int 0,.imm .none] [(("key" : Str),.clo lamA [])] st (.int (A.length:Nat)) st:=by
 have:=bisR_key (P:=P01) (ad:=32) (args:=[a,.int (-(p.1:Int)),.int 0,.imm .none]) (kw:=[(("key" : Str),.clo lamA [])]) (by lia) hs (by rw [List.length_map]; unfold lim; lia) (lo:=0) (hi:=(A ++ C).length) (hv:=.imm .none) (gf:=fun m=>-(((A ++ C).getD m (0,0)).1:Int)) (key:=.clo lamA []) (fun m u_ h2=>⟨_,getD_pair h2,key_pair⟩) (.inr ⟨rfl,by rw [List.length_map]⟩) rfl rfl
 have e:=bis_off (A:=A) (C:=C) (p:=fun e=>decide (e.1 < p.1)) (q:=fun m=>decide (-(p.1:Int) < -(((A ++ C).getD m (0,0)).1:Int))) 0 (fun e m=>by simpa using hA e m) (fun e m=>by simpa using hC e m) (fun m e he=>by
  rw [Nat.zero_add,List.getD_eq_getElem?_getD,he]
  exact decide_eq_decide.mpr (by show -(p.1:Int) < -((e.1:Nat):Int) ↔ _; lia))
 rw [Nat.zero_add,Nat.zero_add] at e
 rw [e] at this
 exact this
theorem bisL_pair {a:V} (hR:st.R.length < 90) (hs:seqOf st a = some ((A ++ C).map toT)) (hl:(A ++ C).length <= 1000) (hA:∀ e ∈ A,p.1 < e.1) (hC:∀ e ∈ C,e.1 <= p.1):Call P01 (fBisL 50) [a,.int (-(p.1:Int)),.int 0,.imm .none] [(("key" : Str),.clo lamA [])] st (.int (A.length:Nat)) st:=by
 have:=bisL_key (P:=P01) (ad:=50) (args:=[a,.int (-(p.1:Int)),.int 0,.imm .none]) (kw:=[(("key" : Str),.clo lamA [])]) (by lia) hs (by rw [List.length_map]; unfold lim; lia) (lo:=0) (hi:=(A ++ C).length) (hv:=.imm .none) (gf:=fun m=>-(((A ++ C).getD m (0,0)).1:Int)) (key:=.clo lamA []) (fun m u_ h2=>⟨_,getD_pair h2,key_pair⟩) (.inr ⟨rfl,by rw [List.length_map]⟩) rfl rfl
 have e:=bis_off (A:=A) (C:=C) (p:=fun e=>!decide (p.1 < e.1)) (q:=fun m=>!decide (-(((A ++ C).getD m (0,0)).1:Int) < -(p.1:Int))) 0 (fun e m=>by simpa using hA e m) (fun e m=>by simpa using hC e m) (fun m e he=>by
  rw [Nat.zero_add,List.getD_eq_getElem?_getD,he]
  show (!decide (-((e.1:Nat):Int) < -(p.1:Int))) = !decide (p.1 < e.1)
  congr 1
  exact decide_eq_decide.mpr (by lia))
 rw [Nat.zero_add,Nat.zero_add] at e
 rw [e] at this
 exact this
theorem ins_pair {ad bd:Addr} {f:Fn} (hf:P01.fns.find? (fun f=>f.addr == bd) = some f) (hR:st.R.length < 80) (hob:st.obj l i = some (.list ((A ++ C).map toT))) (hl:(A ++ C).length <= 1000)
  (hc:∀ ρ,Call P01 f [.ref l i,.int (-(p.1:Int)),.int 0,.imm .none] [(("key" : Str),.clo lamA [])] ⟨ρ,st.R ++ [[]]⟩ (.int (A.length:Nat)) ⟨ρ,st.R ++ [[]]⟩) :
  Call P01 (fIns ad bd) [.ref l i,toT p] [(("key" : Str),.clo lamA [])] st (.imm .none) (st.setObj l i (.list ((A ++ p :: C).map toT))):=by
 have:=ins_body (P:=P01) (ad:=ad) (key:=.clo lamA []) (k:=A.length) (x:=toT p) (bx:=.int (-(p.1:Int))) hob (by rw [List.length_map]; unfold lim; lia) (by rw [List.length_map,List.length_append]; lia) (by lia) rfl hf hc (.inr ⟨rfl,fun u_=>key_app,rfl⟩)
 have e:=ins_split (A.map toT) (C.map toT) (toT p)
 rw [List.length_map] at e
 rw [List.map_append,e] at this
 rw [List.map_append]; exact this
end
section
variable {ρ:List (Option V)} {R0:List (List AObj)} {F G:List (Nat × Nat)} {L:List (Nat × V)}
noncomputable abbrev Ra (R0:List (List AObj)) (F G:List (Nat × Nat)):List (List AObj):=R0 ++ [[.list (F.map toT),.list (G.map toT)]]
theorem ra_0 (ρ:List (Option V)) (F G:List (Nat × Nat)):St.obj ⟨ρ,Ra R0 F G⟩ R0.length 0 = some (.list (F.map toT)):=by rw [obj_last]; rfl
theorem ra_1 (ρ:List (Option V)) (F G:List (Nat × Nat)):St.obj ⟨ρ,Ra R0 F G⟩ R0.length 1 = some (.list (G.map toT)):=by rw [obj_last]; rfl
theorem ra_len (R0:List (List AObj)) (F G:List (Nat × Nat)):(Ra R0 F G).length = R0.length + 1:=by rw [List.length_append]; rfl
noncomputable def frE:ME:=.call (.imm (.ref 23)) [(.slot 2),(.slot 6)] [(("key" : Str),(.lam lamA 117 qnA []))]
noncomputable def bkE:ME:=.call (.imm (.ref 41)) [(.slot 3),(.slot 6)] [(("key" : Str),(.lam lamA 117 qnA []))]
theorem cut_pair {F:List (Nat × Nat)} (h:SP F) (q:Nat->Bool) (hq:∀ a b,b <= a->q a = true->q b = true):∃ A C,F = A ++ C /\ (∀ e ∈ A,q e.1 = false) /\ ∀ e ∈ C,q e.1 = true:=
 cutAt (fun e:Nat × Nat=>q e.1) (h.imp fun {a b} hab=>hq _ _ (hab.elim Nat.le_of_lt fun w=>Nat.le_of_eq w.1.symm))
theorem fr_loop (hR:R0.length < 60) (ht:∀ ρ,St.obj ⟨ρ,R0⟩ 0 1 = some (.tab 117 qnA)) (h:Hv 5 ρ ((2,.ref R0.length 0) :: L)) {i:MI}:∀ (bs F:List (Nat × Nat)) (j:List (Option V)),j.length = 2->SP F->(∀ x ∈ F,∀ y ∈ bs,x.2 < y.2)->bs.Pairwise (fun p q=>p.2 < q.2)->F.length + bs.length <= 100->
  ∃ F' j',j'.length = 2 /\ SP F' /\ (∀ x,x ∈ F' ↔ x ∈ F ∨ x ∈ bs) /\ F'.length = F.length + bs.length /\ C P01 [.mk (.slot 6) i []] frE (.seq (bs.map toT)) ⟨ρ ++ j,Ra R0 F G⟩ (List.replicate bs.length (.imm .none)) ⟨ρ ++ j',Ra R0 F' G⟩
 | [],F,j,hj,hs,_,_,_=>⟨F,j,hj,hs,fun x=>⟨.inl,fun w=>w.elim id fun w=>nomatch w⟩,rfl,C_end rfl⟩
 | p :: bs,F,j,hj,hs,hb,hw,hl=>by
  obtain ⟨hw1,hw2⟩:=List.pairwise_cons.mp hw
  have hl:F.length + (bs.length + 1) <= 100:=hl
  obtain ⟨A,C,rfl,hA,hC⟩:=cut_pair hs (fun c=>decide (c < p.1)) fun a b hab w=>decide_eq_true (Nat.lt_of_le_of_lt hab (of_decide_eq_true w))
  have hA:∀ e ∈ A,p.1 <= e.1:=fun e m=>Nat.le_of_not_lt (of_decide_eq_false (hA e m))
  have hC:∀ e ∈ C,e.1 < p.1:=fun e m=>of_decide_eq_true (hC e m)
  obtain ⟨s1,s2,s3⟩:=List.pairwise_append.mp hs
  have hs':SP (A ++ p :: C):=List.pairwise_append.mpr ⟨s1,List.pairwise_cons.mpr ⟨fun e m=>.inl (hC e m),s2⟩,fun a ma e me=>by
   rcases List.mem_cons.mp me with rfl | me
   ·rcases Nat.lt_or_eq_of_le (hA a ma) with w | w
    ·exact .inl w
    ·exact .inr ⟨w.symm,hb a (List.mem_append_left _ ma) _ (.head _)⟩
   ·exact s3 a ma e me⟩
  have hb':∀ x ∈ A ++ p :: C,∀ y ∈ bs,x.2 < y.2:=fun x mx y my=>by
   rcases List.mem_append.mp mx with mx | mx
   ·exact hb x (List.mem_append_left _ mx) y (.tail _ my)
   ·rcases List.mem_cons.mp mx with rfl | mx
    ·exact hw1 y my
    ·exact hb x (List.mem_append_right _ mx) y (.tail _ my)
  have hlen:(A ++ p :: C).length = (A ++ C).length + 1:=by rw [List.length_append,List.length_append]; rfl
  refine len2_e hj fun j0 j1=>?_
  have hx:=h.ext j0 (toT p)
  obtain ⟨F',j',e1,e2,e3,e4,e5⟩:=fr_loop hR ht h (i:=i) bs (A ++ p :: C) [j0,some (toT p)] rfl hs' hb' hw2 (by rw [hlen]; lia)
  have c:=ins_pair (p:=p) (A:=A) (C:=C) (ad:=23) (l:=R0.length) (i:=0) (st:=⟨ρ ++ [j0,some (toT p)],Ra R0 (A ++ C) G⟩) h01_32 (by show (Ra R0 (A ++ C) G).length < 80; rw [ra_len]; lia) (ra_0 _ _ _) (by lia) fun ρ'=>bisR_pair (by show (Ra R0 (A ++ C) G ++ [[]]).length < 90; rw [List.length_append,ra_len]; show R0.length + 1 + 1 < 90; lia) (show seqOf ⟨ρ',Ra R0 (A ++ C) G ++ [[]]⟩ (.ref R0.length 0) = _ by show (match St.obj ⟨ρ',Ra R0 (A ++ C) G ++ [[]]⟩ R0.length 0 with | some (.list vs)=>some vs | _=>none) = _; rw [obj_app ρ' []]; rw [ra_0]) (by lia) hA hC
  rw [setObj_up,up_last] at c
  have ee:E P01 frE ⟨ρ ++ [j0,some (toT p)],Ra R0 (A ++ C) G⟩ (.imm .none) ⟨ρ ++ [j0,some (toT p)],Ra R0 (A ++ p :: C) G⟩:=
   E_callLamG 0 1 (m:=lamA) (c0:=117) (q:=qnA) (k:=("key" : Str)) (is:=[]) (ws:=[]) (Es_cons (E_slot (hx.get 1 rfl)) (Es_cons (E_slot (v:=toT p) (hx.get 0 rfl)) Es_nil)) (by
    have:=ht ρ
    have hlt:=obj_lt this
    show (match (Ra R0 (A ++ C) G)[0]? with | some r=>r[1]? | none=>none) = _
    rw [List.getElem?_append_left hlt]; exact this) (fun j i e=>nomatch e) (CallV_fn h01_23 c)
  refine ⟨F',j',e1,e2,fun x=>?_,by rw [e4,hlen,List.length_cons]; lia,C_on rfl (As_slot' (by rw [List.length_append,h.1]; show 6 < 5 + 2; lia) (by rw [List.set_append_right _ _ (by rw [h.1]; lia),h.1]; rfl)) Ifs_nil ee e5⟩
  rw [e3 x]
  simp only [List.mem_append,List.mem_cons]
  constructor
  ·rintro ((w | w | w) | w)
   ·exact .inl (.inl w)
   ·exact .inr (.inl w)
   ·exact .inl (.inr w)
   ·exact .inr (.inr w)
  ·rintro ((w | w) | w | w)
   ·exact .inl (.inl w)
   ·exact .inl (.inr (.inr w))
   ·exact .inl (.inr (.inl w))
   ·exact .inr w
theorem bk_loop (hR:R0.length < 60) (ht:∀ ρ,St.obj ⟨ρ,R0⟩ 0 1 = some (.tab 117 qnA)) (h:Hv 5 ρ ((3,.ref R0.length 1) :: L)) {i:MI}:∀ (bs G:List (Nat × Nat)) (j:List (Option V)),j.length = 2->SP G->(∀ x ∈ G,∀ y ∈ bs,y.2 < x.2)->bs.Pairwise (fun p q=>q.2 < p.2)->G.length + bs.length <= 100->
  ∃ G' j',j'.length = 2 /\ SP G' /\ (∀ x,x ∈ G' ↔ x ∈ G ∨ x ∈ bs) /\ C P01 [.mk (.slot 6) i []] bkE (.seq (bs.map toT)) ⟨ρ ++ j,Ra R0 F G⟩ (List.replicate bs.length (.imm .none)) ⟨ρ ++ j',Ra R0 F G'⟩
 | [],G,j,hj,hs,_,_,_=>⟨G,j,hj,hs,fun x=>⟨.inl,fun w=>w.elim id fun w=>nomatch w⟩,C_end rfl⟩
 | p :: bs,G,j,hj,hs,hb,hw,hl=>by
  obtain ⟨hw1,hw2⟩:=List.pairwise_cons.mp hw
  have hl:G.length + (bs.length + 1) <= 100:=hl
  obtain ⟨A,C,rfl,hA,hC⟩:=cut_pair hs (fun c=>decide (c <= p.1)) fun a b hab w=>decide_eq_true (Nat.le_trans hab (of_decide_eq_true w))
  have hA:∀ e ∈ A,p.1 < e.1:=fun e m=>Nat.lt_of_not_le (of_decide_eq_false (hA e m))
  have hC:∀ e ∈ C,e.1 <= p.1:=fun e m=>of_decide_eq_true (hC e m)
  obtain ⟨s1,s2,s3⟩:=List.pairwise_append.mp hs
  have hs':SP (A ++ p :: C):=List.pairwise_append.mpr ⟨s1,List.pairwise_cons.mpr ⟨fun e m=>by
   rcases Nat.lt_or_eq_of_le (hC e m) with w | w
   ·exact .inl w
   ·exact .inr ⟨w.symm,hb e (List.mem_append_right _ m) _ (.head _)⟩,s2⟩,fun a ma e me=>by
   rcases List.mem_cons.mp me with rfl | me
   ·exact .inl (hA a ma)
   ·exact s3 a ma e me⟩
  have hb':∀ x ∈ A ++ p :: C,∀ y ∈ bs,y.2 < x.2:=fun x mx y my=>by
   rcases List.mem_append.mp mx with mx | mx
   ·exact hb x (List.mem_append_left _ mx) y (.tail _ my)
   ·rcases List.mem_cons.mp mx with rfl | mx
    ·exact hw1 y my
    ·exact hb x (List.mem_append_right _ mx) y (.tail _ my)
  have hlen:(A ++ p :: C).length = (A ++ C).length + 1:=by rw [List.length_append,List.length_append]; rfl
  refine len2_e hj fun j0 j1=>?_
  have hx:=h.ext j0 (toT p)
  obtain ⟨G',j',e1,e2,e3,e5⟩:=bk_loop hR ht h (i:=i) bs (A ++ p :: C) [j0,some (toT p)] rfl hs' hb' hw2 (by rw [hlen]; lia)
  have c:=ins_pair (p:=p) (A:=A) (C:=C) (ad:=41) (l:=R0.length) (i:=1) (st:=⟨ρ ++ [j0,some (toT p)],Ra R0 F (A ++ C)⟩) h01_50 (by show (Ra R0 F (A ++ C)).length < 80; rw [ra_len]; lia) (ra_1 _ _ _) (by lia) fun ρ'=>bisL_pair (by show (Ra R0 F (A ++ C) ++ [[]]).length < 90; rw [List.length_append,ra_len]; show R0.length + 1 + 1 < 90; lia) (show seqOf ⟨ρ',Ra R0 F (A ++ C) ++ [[]]⟩ (.ref R0.length 1) = _ by show (match St.obj ⟨ρ',Ra R0 F (A ++ C) ++ [[]]⟩ R0.length 1 with | some (.list vs)=>some vs | _=>none) = _; rw [obj_app ρ' []]; rw [ra_1]) (by lia) hA hC
  rw [setObj_up,up_last] at c
  have ee:E P01 bkE ⟨ρ ++ [j0,some (toT p)],Ra R0 F (A ++ C)⟩ (.imm .none) ⟨ρ ++ [j0,some (toT p)],Ra R0 F (A ++ p :: C)⟩:=
   E_callLamG 0 1 (m:=lamA) (c0:=117) (q:=qnA) (k:=("key" : Str)) (is:=[]) (ws:=[]) (Es_cons (E_slot (hx.get 1 rfl)) (Es_cons (E_slot (v:=toT p) (hx.get 0 rfl)) Es_nil)) (by
    have:=ht ρ
    have hlt:=obj_lt this
    show (match (Ra R0 F (A ++ C))[0]? with | some r=>r[1]? | none=>none) = _
    rw [List.getElem?_append_left hlt]; exact this) (fun j i e=>nomatch e) (CallV_fn h01_41 c)
  refine ⟨G',j',e1,e2,fun x=>?_,C_on rfl (As_slot' (by rw [List.length_append,h.1]; show 6 < 5 + 2; lia) (by rw [List.set_append_right _ _ (by rw [h.1]; lia),h.1]; rfl)) Ifs_nil ee e5⟩
  rw [e3 x]
  simp only [List.mem_append,List.mem_cons]
  constructor
  ·rintro ((w | w | w) | w)
   ·exact .inl (.inl w)
   ·exact .inr (.inl w)
   ·exact .inl (.inr w)
   ·exact .inr (.inr w)
  ·rintro ((w | w) | w | w)
   ·exact .inl (.inl w)
   ·exact .inl (.inr (.inr w))
   ·exact .inl (.inr (.inl w))
   ·exact .inr w
end
end
section
theorem sub_neg {st:St} {a e:V} {vs:List V} {k:Nat} (h:seqOf st a = some vs) (hl:vs.length <= lim) (h0:0 < k) (hk:k <= vs.length) (he:vs[vs.length - k]? = some e):subV st a (.int (-(k:Int))) = some e:=by
 have hg:getI vs (-(k:Int)) = some e:=by
  unfold getI ixOf
  rw [if_pos hl]
  have:seqIndex? (-(k:Int)) vs.length = some (vs.length - k):=by
   unfold seqIndex?
   simp; lia
  rw [this]
  exact he
 rcases seq_cases h with rfl | ⟨l,i,rfl,ho⟩
 ·show (seqV st (.lst vs) fun vs=>getI vs (-(k:Int))) = _
  simp only [seqV,seqOf]; exact hg
 ·show (seqV st (.ref l i) fun vs=>getI vs (-(k:Int))) = _
  simp only [seqV,seqOf,ho]; exact hg
theorem idx_pair {G:Pg} {st:St} {l i:Nat} {F:List (Nat × Nat)} {p:Nat × Nat} (ho:st.obj l i = some (.list (F.map toT))) (hl:F.length <= 1000) (hp:p ∈ F):methV G st (.ref l i) "index" [toT p] = some (.int (F.idxOf p:Nat),st) /\ methOk G st (.ref l i) "index" = true:=by
 constructor
 ·show listV st l i (methL st l i "index" [toT p]) = _
  rw [listV_of ho]
  unfold methL
  rw [if_neg (by decide +kernel),if_neg (by decide +kernel),if_pos rfl]
  show (if (F.map toT).length <= lim then (match idxT (F.map toT) (pairV (toT p)) with | some j=>some (V.int j,st) | none=>none) else none) = _
  rw [if_pos (by rw [List.length_map]; unfold lim; lia)]
  have e1:pairV (toT p) = some ((p.1:Int),(p.2:Int)):=rfl
  have e2:∀ F:List (Nat × Nat),pairsV (F.map toT) = some (F.map fun p=>((p.1:Int),(p.2:Int))):=fun F=>by
   induction F with
   | nil=>rfl
   | cons q F ih=>
    show (match pairV (toT q) with | some p=>(match pairsV (F.map toT) with | some l=>some (p :: l) | none=>none) | none=>none) = _
    rw [ih]; rfl
  have e3:(F.map fun p=>((p.1:Int),(p.2:Int))).findIdx? (· == ((p.1:Int),(p.2:Int))) = some (F.idxOf p):=by
   rw [List.findIdx?_map]
   have hlt:=List.idxOf_lt_length_of_mem hp
   refine List.findIdx?_eq_some_iff_getElem.mpr ⟨hlt,?_,fun j hj=>?_⟩
   ·show ((((F[F.idxOf p]).1:Int),((F[F.idxOf p]).2:Int)) == ((p.1:Int),(p.2:Int))) = true
    rw [List.getElem_idxOf]; exact beq_self_eq_true _
   ·show ¬ (((((F[j]).1:Int),((F[j]).2:Int)) == ((p.1:Int),(p.2:Int))) = true)
    rw [beq_iff_eq]
    intro w
    injection w with w1 w2
    have w:F[j] = p:=Prod.ext (Int.ofNat_inj.mp w1) (Int.ofNat_inj.mp w2)
    have hn:=List.not_of_lt_findIdx (p:=(· == p)) (xs:=F) hj
    simp [w] at hn
  rw [e1]
  unfold idxT
  rw [e2]
  show (match (F.map fun p=>((p.1:Int),(p.2:Int))).findIdx? (· == ((p.1:Int),(p.2:Int))) with | some j=>some (V.int j,st) | none=>none) = _
  rw [e3]
 ·show listB st l i _ = true
  unfold listB
  rw [ho]; rfl
noncomputable def ballsOf (B:List Nat):List (Nat × Nat):=(B.zipIdx 0).filter fun p=>p.1 != 0
theorem zip_pw:∀ (B:List Nat) (k:Nat),(B.zipIdx k).Pairwise (fun p q=>p.2 < q.2) /\ ∀ p ∈ B.zipIdx k,k <= p.2
 | [],_=>⟨.nil,fun u_ h=>nomatch h⟩
 | a :: B,k=>by
  obtain ⟨h1,h2⟩:=zip_pw B (k + 1)
  rw [List.zipIdx_cons]
  exact ⟨List.pairwise_cons.mpr ⟨fun p m=>h2 p m,h1⟩,List.forall_mem_cons.mpr ⟨Nat.le_refl _,fun p m=>Nat.le_of_succ_le (h2 p m)⟩⟩
theorem zip_fst:∀ (B:List Nat) (k:Nat),((B.zipIdx k).filter fun p=>p.1 != 0).map (·.1) = B.filter (· != 0)
 | [],_=>rfl
 | a :: B,k=>by
  have ih:=zip_fst B (k + 1)
  rw [List.zipIdx_cons,List.filter_cons,List.filter_cons,<- ih]
  show ((if (a != 0) = true then (a,k) :: _ else _).map _) = _
  split <;> rfl
theorem h01_118:P01.fns.find? (fun f=>f.addr == 118) = some f01__law_apart:=rfl
theorem apart_call {st:St} {B:List Nat} (hR:st.R.length < 50) (ht:st.obj 0 0 = some (.tab 112 qnR)) (ht2:st.obj 0 1 = some (.tab 117 qnA)) (hl:B.length <= 20):Call P01 f01__law_apart [.lst (nv B)] [] st (.lst ((rowsR [] B).map fun R=>.lst (nv R))) st:=by
 have hpw:(ballsOf B).Pairwise fun p q=>p.2 < q.2:=(zip_pw B 0).1.sublist List.filter_sublist
 have hcol:∀ p ∈ ballsOf B,0 < p.1:=fun p m=>Nat.pos_of_ne_zero (by simpa using (List.mem_filter.mp m).2)
 have hfst:(ballsOf B).map (·.1) = B.filter (· != 0):=zip_fst B 0
 have hlen:(ballsOf B).length <= 20:=Nat.le_trans (List.length_filter_le _ _) (by rw [List.length_zipIdx]; exact hl)
 generalize hb:ballsOf B = bs at *
 have k0:Hv 5 (emptyFrame 5 [.lst (nv B)]) [(0,.lst (nv B))]:=head1 (List.replicate 4 none) rfl
 have k1:=k0.put (i:=1) (.lst (bs.map toT)) rfl (by decide)
 have k2:=k1.put (i:=2) (.ref st.R.length 0) rfl (by decide)
 have k3:=k2.put (i:=3) (.ref st.R.length 1) rfl (by decide)
 generalize hρ1:(((emptyFrame 5 [.lst (nv B)]).set 1 (some (.lst (bs.map toT)))).set 2 (some (.ref st.R.length 0))).set 3 (some (.ref st.R.length 1)) = ρ1 at k3
 obtain ⟨it,m1,m2,m3⟩:=mkIt_nv (st:=⟨emptyFrame 5 [.lst (nv B)],st.R ++ [[]]⟩) (a:=.lst (nv B)) (xs:=B) rfl
 have x0:X1 P01 pp0 ⟨emptyFrame 5 [.lst (nv B)],st.R ++ [[]]⟩ .next ⟨ρ1,Ra st.R [] []⟩:=by
  rw [<- hρ1]
  refine X1_assign (v:=.tup [.lst (bs.map toT),.ref st.R.length 0,.ref st.R.length 1]) (st1:=⟨emptyFrame 5 [.lst (nv B)],Ra st.R [] []⟩) (E_tup (Es_cons (E_filter2 (f1:=fun p:Nat × Nat=>V.int (p.2:Nat)) (f2:=fun p:Nat × Nat=>V.int (p.1:Nat)) (g:=toT) (q:=fun p:Nat × Nat=>p.1 != 0) (xs:=B.zipIdx 0) k0 (I_enum (E_slot (k0.get 0 rfl)) m2) (m3 _ rfl) (fun x u_ ρ' h'=>⟨T_val (E_slot (h'.get 1 rfl)) (int_nz x.1) rfl,fun u_=>E_tup (Es_cons (E_slot (h'.get 1 rfl)) (Es_cons (E_slot (h'.get 0 rfl)) Es_nil))⟩) ?_) (Es_cons (new_top (R0:=st.R) (r:=[])) (Es_cons (new_top (R0:=st.R) (r:=[.list []])) Es_nil)))) (As_tup (AsL_cons (As_hv k0 (by decide)) (AsL_cons (As_hv k1 (by decide)) (AsL_cons (As_hv k2 (by decide)) AsL_nil))))
  show mkL false ((ballsOf B).map toT) ⟨emptyFrame 5 [.lst (nv B)],st.R ++ [[]]⟩ = _
  rw [hb]
  unfold mkL
  rw [if_pos (by rw [List.length_map]; unfold lim; lia)]; rfl
 have hR':st.R.length < 60:=by lia
 obtain ⟨F,j1,f1,f2,f3,f4,f5⟩:=fr_loop (R0:=st.R) (G:=[]) hR' (fun u_=>ht2) (show Hv 5 ρ1 ((2,.ref st.R.length 0) :: [(1,.lst (bs.map toT)),(0,.lst (nv B))]) from k3.tl) (i:=.val (.slot 1)) bs [] (List.replicate 2 none) rfl .nil (fun u_ h=>nomatch h) hpw (by show 0 + _ <= 100; lia)
 have f3:∀ x,x ∈ F ↔ x ∈ bs:=fun x=>(f3 x).trans ⟨fun w=>w.elim (fun w=>nomatch w) id,.inr⟩
 have f4:F.length = bs.length:=by rw [f4]; exact Nat.zero_add _
 have none_l:∀ (ρ:List (Option V)) (R:List (List AObj)),mkL false (List.replicate bs.length (.imm .none)) ⟨ρ,R⟩ = some (.lst (List.replicate bs.length (.imm .none)),⟨ρ,R⟩):=fun ρ R=>by
  unfold mkL
  rw [if_pos (by rw [List.length_replicate]; unfold lim; lia)]; rfl
 have e1:E P01 (.comp false 5 2 [.mk (.slot 6) (.val (.slot 1)) []] frE) ⟨ρ1,Ra st.R [] []⟩ (.lst (List.replicate bs.length (.imm .none))) ⟨ρ1,Ra st.R F []⟩:=by
  refine E_comp (I_val (E_slot (k3.get 2 rfl)) rfl) k3.1 f5 ?_
  show mkL false _ ⟨(ρ1 ++ j1).take 5,Ra st.R F []⟩ = _
  rw [<- k3.1,List.take_left]; exact none_l _ _
 obtain ⟨G,j2,g1,g2,g3,g5⟩:=bk_loop (R0:=st.R) (F:=F) hR' (fun u_=>ht2) (show Hv 5 ρ1 ((3,.ref st.R.length 1) :: [(2,.ref st.R.length 0),(1,.lst (bs.map toT)),(0,.lst (nv B))]) from k3) (i:=.val (.rvs (.slot 1) false)) bs.reverse [] (List.replicate 2 none) rfl .nil (fun u_ h=>nomatch h) (List.pairwise_reverse.mpr hpw) (by rw [List.length_reverse]; show 0 + _ <= 100; lia)
 have hFG:G = F:=SP_eq g2 f2 fun x=>by
  rw [f3,g3]
  exact ⟨fun w=>w.elim (fun w=>nomatch w) List.mem_reverse.mp,fun w=>.inr (List.mem_reverse.mpr w)⟩
 rw [hFG,List.length_reverse] at g5
 have hrv:rvsV ⟨ρ1,Ra st.R F []⟩ (.lst (bs.map toT)) false = some (.lst (bs.reverse.map toT),⟨ρ1,Ra st.R F []⟩):=by
  show (if (bs.map toT).length <= lim then mkL false (bs.map toT).reverse ⟨ρ1,Ra st.R F []⟩ else none) = _
  rw [if_pos (by rw [List.length_map]; unfold lim; lia),<- List.map_reverse]
  unfold mkL
  rw [if_pos (by rw [List.length_map,List.length_reverse]; unfold lim; lia)]; rfl
 have e2:E P01 (.comp false 5 2 [.mk (.slot 6) (.val (.rvs (.slot 1) false)) []] bkE) ⟨ρ1,Ra st.R F []⟩ (.lst (List.replicate bs.length (.imm .none))) ⟨ρ1,Ra st.R F F⟩:=by
  refine E_comp (I_val (v:=.lst (bs.reverse.map toT)) (E_rvs (E_slot (k3.get 2 rfl)) hrv) rfl) k3.1 g5 ?_
  show mkL false _ ⟨(ρ1 ++ j2).take 5,Ra st.R F F⟩ = _
  rw [<- k3.1,List.take_left]; exact none_l _ _
 have k4:=k3.put (i:=4) (.lst (List.replicate (bs.length + bs.length) (.imm .none))) rfl (by decide)
 have x1:X1 P01 pp1 ⟨ρ1,Ra st.R [] []⟩ .next ⟨ρ1.set 4 (some (.lst (List.replicate (bs.length + bs.length) (.imm .none)))),Ra st.R F F⟩:=by
  refine X1_assign (E_bin e1 e2 ?_) (As_hv k3 (by decide))
  have:=add_seq (st:=⟨ρ1,Ra st.R F F⟩) (a:=.lst (List.replicate bs.length (.imm .none))) (b:=.lst (List.replicate bs.length (.imm .none))) rfl rfl (by rw [List.length_append,List.length_replicate]; unfold lim; lia)
  rw [<- List.replicate_append_replicate]; exact this
 generalize hρ2:ρ1.set 4 (some (.lst (List.replicate (bs.length + bs.length) (.imm .none)))) = ρ2 at k4
 rw [hρ2] at x1
 have ls:∀ {vs:List V} {i:Nat},ρ2[i]? = some (some (.lst vs))->vs.length <= 1000->E P01 (.call (.imm (.builtin "len")) [(.slot i)] []) ⟨ρ2,Ra st.R F F⟩ (.int (vs.length:Nat)) ⟨ρ2,Ra st.R F F⟩:=fun h hl=>E_call E_imm (Es_cons (E_slot h) Es_nil) Ek_nil (Ap_bi (len_seq rfl (by unfold lim; lia)))
 have x2:X1 P01 pp2 ⟨ρ2,Ra st.R F F⟩ .next ⟨ρ2,Ra st.R F F⟩:=by
  have es:=ls (k4.get 0 rfl) (by rw [List.length_replicate]; lia)
  rw [List.length_replicate] at es
  refine X1_iteF (T_lorF (T_cmp1 (E_slot (k4.get 2 rfl)) (E_slot (k4.get 1 rfl)) (cmp_ne ((eqV_ref (ra_0 _ _ _)).trans ((eqV_ref2 (ra_1 _ _ _)).trans (eqV_pairs _ _))))) (T_lor1 (T_cmp1 (E_slot (k4.get 0 rfl)) (y:=.lst (List.replicate (bs.length + bs.length) (.imm .none))) (E_bin (E_lst (vs:=[.imm .none]) (Es_cons E_none Es_nil) rfl) es ?_) (cmp_ne (eqV_nones _ _))))) X_nil
  show (if decide ((-1000:Int) <= (bs.length + bs.length:Nat)) && decide (((bs.length + bs.length:Nat):Int) <= 1000) && decide (1 <= 64) then mkL false (List.replicate ((bs.length + bs.length:Nat):Int).toNat [V.imm .none]).flatten _ else none) = _
  rw [if_pos (by simp; lia),Int.toNat_natCast,flat1]
  unfold mkL
  rw [if_pos (by rw [List.length_replicate]; unfold lim; lia)]; rfl
 have hnum:∀ p ∈ bs,colOf F (numOf F p) = p.1 /\ 0 < numOf F p /\ numOf F p <= F.length:=fun p m=>col_num ((f3 p).mpr m)
 have hmem:∀ R ∈ rowsR [] (bs.map (numOf F)),∀ k ∈ R,0 < k /\ k <= F.length:=fun R mR k mk=>by
  rcases rows_mem _ [] ⟨R,mR,mk⟩ with w | ⟨_,w,_⟩
  ·obtain ⟨p,mp,rfl⟩:=List.mem_map.mp w
   exact (hnum p mp).2
  ·cases w
 have hrl:∀ (bs:List Nat) (Rs:List (List Nat)) (K:Nat),(∀ b ∈ bs,0 < b)->RowsOk K Rs->RowsOk (K + bs.length) (rowsR Rs bs):=fun bs=>by
  induction bs with
  | nil=>exact fun u_ u_ u_ h=>h
  | cons b bs ih=>
   intro Rs K hp h
   obtain ⟨h1,h2⟩:=List.forall_mem_cons.mp hp
   show RowsOk _ (rowsR (if b = 0 then Rs else insR Rs b) bs)
   rw [if_neg (Nat.ne_of_gt h1)]
   have:=ih _ _ h2 (h.ins h1)
   rw [List.length_cons,show K + (bs.length + 1) = K + 1 + bs.length by lia]; exact this
 have hok:=hrl (bs.map (numOf F)) [] 0 (fun b m=>by
  obtain ⟨p,mp,rfl⟩:=List.mem_map.mp m
  exact (hnum p mp).2.1) ⟨Nat.le_refl _,fun u_ h=>nomatch h⟩
 rw [List.length_map,Nat.zero_add] at hok
 have crow:=rows_call (st:=⟨ρ2,Ra st.R F F⟩) (B:=bs.map (numOf F)) (by show (Ra st.R F F).length < 60; rw [ra_len]; lia) (by
  have hlt:=obj_lt ht
  show (match (Ra st.R F F)[0]? with | some r=>r[0]? | none=>none) = _
  rw [List.getElem?_append_left hlt]; exact ht) (by rw [List.length_map]; lia)
 have en:E P01 (.comp false 5 2 [(.mk (.slot 6) (.val (.slot 1)) [])] (.bin .Sub (.call (.imm (.builtin "len")) [(.slot 1)] []) (.meth (.slot 2) ("index" : Str) [(.slot 6)]) false)) ⟨ρ2,Ra st.R F F⟩ (.lst (nv (bs.map (numOf F)))) ⟨ρ2,Ra st.R F F⟩:=by
  unfold nv
  rw [List.map_map]
  refine E_map (f:=toT) k4 (I_val (E_slot (k4.get 3 rfl)) rfl) (yields_seq _).R (by unfold lim; lia) fun p mp ρ' h'=>?_
  have eb:E P01 (.call (.imm (.builtin "len")) [(.slot 1)] []) ⟨ρ',Ra st.R F F⟩ (.int ((bs.map toT).length:Nat)) ⟨ρ',Ra st.R F F⟩:=E_call E_imm (Es_cons (E_slot (h'.get 4 rfl)) Es_nil) Ek_nil (Ap_bi (len_seq rfl (by rw [List.length_map]; unfold lim; lia)))
  rw [List.length_map,<- f4] at eb
  obtain ⟨i1,i2⟩:=idx_pair (G:=P01) (ra_0 (R0:=st.R) ρ' F F) (by lia) ((f3 p).mpr mp)
  exact sub_nat (Nat.le_of_lt (List.idxOf_lt_length_of_mem ((f3 p).mpr mp))) eb (E_meth (E_slot (h'.get 3 rfl)) i2 (Es_cons (E_slot (v:=toT p) (h'.get 0 rfl)) Es_nil) i1)
 have x3:X1 P01 pp3 ⟨ρ2,Ra st.R F F⟩ (.ret (.lst ((rowsR [] (bs.map (numOf F))).map fun R=>.lst (nv (R.map (colOf F)))))) ⟨ρ2,Ra st.R F F⟩:=by
  refine X1_ret (E_map (f:=fun R:List Nat=>V.lst (nv R)) k4 (I_val (E_call E_imm (Es_cons en Es_nil) Ek_nil (Ap_fn h01_113 crow)) rfl) (yields_seq _).R (by have:=hok.1; unfold lim; lia) fun R mR ρ' h'=>?_)
  unfold nv
  rw [List.map_map]
  refine E_map (n:=7) (f:=fun k:Nat=>V.int (k:Nat)) h' (I_val (E_slot (h'.get 0 rfl)) rfl) (yields_seq _).R (by have:=(hok.2 R mR).2.2; unfold lim; lia) fun k mk ρ3 h3=>?_
  obtain ⟨z1,z2⟩:=hmem R mR k mk
  exact E_sub (ov:=toT (F.getD (F.length - k) (0,0))) (E_sub (E_slot (h3.get 4 rfl)) (E_neg (E_slot (h3.get 0 rfl))) (sub_neg (vs:=F.map toT) (by show (match St.obj _ st.R.length 0 with | some (.list vs)=>some vs | _=>none) = _; rw [ra_0]) (by rw [List.length_map]; unfold lim; lia) z1 (by rw [List.length_map]; exact z2) (by rw [List.length_map]; exact getD_pair (by lia)))) (E_int (i:=0)) rfl
 have hfin:=apart_rows f2 f3 hpw hcol
 have hrf:rowsR [] (bs.map (·.1)) = rowsR [] B:=by
  rw [hfst,rowsR_filter,rowsR_filter,List.filter_filter]
  congr 1
  exact List.filter_congr fun x u_=>Bool.and_self _
 have hres:(rowsR [] (bs.map (numOf F))).map (fun R=>V.lst (nv (R.map (colOf F)))) = (rowsR [] B).map fun R=>V.lst (nv R):=by
  rw [<- hrf,<- hfin,List.map_map]; rfl
 rw [hres] at x3
 refine Call_ret (st:=st) (R2:=st.R) (reg:=[.list (F.map toT),.list (F.map toT)]) (v:=.lst ((rowsR [] B).map fun R=>.lst (nv R))) (by lia) rfl (X_next x0 (X_next x1 (X_next x2 (X_one x3)))) ?_
 refine frz_lst fun v mv=>?_
 obtain ⟨R,_,rfl⟩:=List.mem_map.mp mv
 exact frz_nv _ _ _ _
end
section
noncomputable def dgs (n:Nat):Nat->List Nat
 | 0=>[]
 | q + 1=>(65 + n / 16 ^ q % 16) :: dgs n q
theorem dgs_s (n q:Nat):dgs n (q + 1) = (65 + n / 16 ^ q % 16) :: dgs n q:=rfl
theorem dgs_snoc (n:Nat):∀ q,dgs n (q + 1) = dgs (n / 16) q ++ [65 + n % 16]
 | 0=>by rw [dgs_s,Nat.pow_zero,Nat.div_one]; rfl
 | q + 1=>by
  rw [dgs_s,dgs_snoc n q,dgs_s,List.cons_append,Nat.div_div_eq_div_mul,Nat.pow_succ,Nat.mul_comm 16]
theorem dgs_len (n:Nat):∀ q,(dgs n q).length = q
 | 0=>rfl
 | q + 1=>congrArg Nat.succ (dgs_len n q)
theorem ap_dgs:∀ f n,n < 16 ^ f->∃ L,(apD f n).map (fun c=>c.toNat) = dgs n L /\ n < 16 ^ L /\ L <= f
 | 0,n,h=>⟨0,rfl,h,Nat.le_refl _⟩
 | f + 1,n,h=>by
  unfold apD
  split
  ·rename_i h0; exact ⟨0,rfl,by lia,Nat.zero_le _⟩
  ·obtain ⟨L,e,h1,h2⟩:=ap_dgs f (n / 16) (by rw [Nat.pow_succ] at h; lia)
   refine ⟨L + 1,?_,by rw [Nat.pow_succ]; lia,by lia⟩
   rw [List.map_append,e,dgs_snoc]
   congr 1
   have:(65 + n % 16).toUInt8.toNat = 65 + n % 16:=by
    show (65 + n % 16) % 256 = _
    lia
   rw [List.map_singleton,this]
theorem dgs_pad {n L:Nat} (h:n < 16 ^ L):∀ d,dgs n (L + d) = List.replicate d 65 ++ dgs n L
 | 0=>rfl
 | d + 1=>by
  have:n / 16 ^ (L + d) = 0:=Nat.div_eq_of_lt (Nat.lt_of_lt_of_le h (Nat.pow_le_pow_right (by decide) (Nat.le_add_right _ _)))
  rw [<- Nat.add_assoc,dgs_s,dgs_pad h d,this,List.replicate_succ]; rfl
theorem dgs_bd (n:Nat):∀ q,∀ c ∈ dgs n q,c < 81
 | 0,_,m=>nomatch m
 | q + 1,c,m=>by
  rcases List.mem_cons.mp m with rfl | m
  ·lia
  ·exact dgs_bd n q c m
theorem ap_head:∀ f n,n < 16 ^ f->(apD f n).take 1 ≠ [65]
 | 0,n,_=>by simp [apD]
 | f + 1,n,h=>by
  unfold apD
  by_cases h0:n = 0
  ·rw [if_pos h0]; simp
  ·rw [if_neg h0]
   have ih:=ap_head f (n / 16) (by rw [Nat.pow_succ] at h; lia)
   by_cases hq:n / 16 = 0
   ·have:apD f (n / 16) = []:=by rw [hq]; cases f <;> simp [apD]
    rw [this,List.nil_append]
    have hn:n % 16 = n:=by lia
    have h1:∀ m,m < 16->m ≠ 0->(([(65 + m).toUInt8]:List UInt8)).take 1 ≠ [65]:=by decide
    exact h1 (n % 16) (by lia) (by lia)
   ·have hne:apD f (n / 16) ≠ []:=by
     cases f with
     | zero=>simp at h; lia
     | succ f=>unfold apD; rw [if_neg hq]; simp
    cases hh:apD f (n / 16) with
    | nil=>exact absurd hh hne
    | cons a as=>rw [hh] at ih; simpa using ih
theorem word_eq {N:Nat} (h:N < 16 ^ 6):(apD 6 N).length <= 6 /\ (apD 6 N).map (fun c=>c.toNat) = dgs N (apD 6 N).length /\ List.replicate (6 - (apD 6 N).length) 65 ++ dgs N (apD 6 N).length = dgs N 6 /\ List.replicate (6 - (apD 6 N).length) 65 ++ apD 6 N = (dgs N 6).map Nat.toUInt8:=by
 obtain ⟨L,e,h1,h2⟩:=ap_dgs 6 N h
 have hl:(apD 6 N).length = L:=by rw [<- List.length_map (f:=fun c:UInt8=>c.toNat),e,dgs_len]
 have e2:List.replicate (6 - L) 65 ++ dgs N L = dgs N 6:=by
  have:=dgs_pad h1 (6 - L)
  rw [show L + (6 - L) = 6 by lia] at this
  exact this.symm
 rw [hl]
 refine ⟨h2,e,e2,?_⟩
 have e3:apD 6 N = (dgs N L).map Nat.toUInt8:=by
  rw [<- e,List.map_map]
  conv=>lhs; rw [<- List.map_id (apD 6 N)]
  exact List.map_congr_left fun c u_=>by show c = c.toNat.toUInt8; simp
 rw [<- e2,List.map_append,List.map_replicate,<- e3]; rfl
theorem bytes_nv {st:St} {ls:List Nat} (hb:∀ c ∈ ls,c < 256) (hl:ls.length <= 1000):tyV st "bytes" [.lst (nv ls)] = some (.bytes (ls.map Nat.toUInt8),st):=by
 refine (intsV_of (st:=st) (v:=.lst (nv ls)) (k:=fun is=>if is.all (fun i=>decide (0 <= i) && decide (i < 256)) && decide (is.length <= lim) then some (V.bytes (is.map fun i=>i.toNat.toUInt8),st) else none) rfl (nv_intsOf _)).trans ?_
 rw [if_pos,List.map_map]
 ·rfl
 ·rw [Bool.and_eq_true]
  refine ⟨List.all_eq_true.mpr fun i hi=>?_,decide_eq_true (by rw [List.length_map]; unfold lim; lia)⟩
  obtain ⟨c,hc,rfl⟩:=List.mem_map.mp hi
  have:=hb c hc
  simp; lia
theorem bytes_eq (st:St) (a b:List UInt8):eqV st (.bytes a) (.bytes b) = some (a == b):=by
 simp only [eqV,bytesV]
theorem len_w {P:Pg} {i:Nat} {w:List UInt8} {st:St} (h:st.ρ[i]? = some (some (.bytes w))) (hl:w.length <= 100):E P (.call (.imm (.builtin "len")) [(.slot i)] []) st (.int (w.length:Nat)) st:=
 E_call E_imm (Es_cons (E_slot h) Es_nil) Ek_nil (Ap_bi (by
  show (if w.length <= lim then some (V.int (w.length:Nat),st) else none) = _
  rw [if_pos (by unfold lim; lia)]))
noncomputable def hn:List Nat->Nat
 | []=>0
 | x :: xs=>x + 16 * hn xs
theorem hn_lt:∀ {X:List Nat},(∀ x ∈ X,x < 16)->hn X < 16 ^ X.length
 | [],_=>Nat.one_pos
 | x :: X,h=>by
  obtain ⟨h1,h2⟩:=List.forall_mem_cons.mp h
  have:=hn_lt h2
  show x + 16 * hn X < 16 ^ (X.length + 1)
  rw [Nat.pow_succ]; lia
theorem hn_dgs:∀ {X:List Nat},(∀ x ∈ X,x < 16)->dgs (hn X) X.length = X.reverse.map (65 + ·)
 | [],_=>rfl
 | x :: X,h=>by
  obtain ⟨h1,h2⟩:=List.forall_mem_cons.mp h
  show dgs (x + 16 * hn X) (X.length + 1) = _
  rw [dgs_snoc,show (x + 16 * hn X) / 16 = hn X by lia,show (x + 16 * hn X) % 16 = x by lia,hn_dgs h2,List.reverse_cons,List.map_append]; rfl
theorem hn_sum:∀ (X:List Nat) (k:Nat),((X.zipIdx k).map fun p=>p.1 * 16 ^ p.2).sum = 16 ^ k * hn X
 | [],k=>rfl
 | x :: X,k=>by
  rw [List.zipIdx_cons,List.map_cons,List.sum_cons,hn_sum X (k + 1),Nat.pow_succ]
  show x * 16 ^ k + 16 ^ k * 16 * hn X = 16 ^ k * (x + 16 * hn X)
  rw [Nat.mul_add,Nat.mul_comm x,Nat.mul_assoc]
end
section
noncomputable abbrev tb1:List AObj:=[.tab 112 qnR,.tab 117 qnA]
noncomputable abbrev R1 (cs:List Int):List (List AObj):=[tb1,[.list (cs.map .int)]]
noncomputable def cells1:List Int:=[59703,265]
theorem h01_79:P01.fns.find? (fun f=>f.addr == 79) = some (fCells 79):=rfl
theorem h01_84:P01.fns.find? (fun f=>f.addr == 84) = some (fRD 84 65 3):=rfl
theorem h01_65:P01.fns.find? (fun f=>f.addr == 65) = some (fPV 65):=rfl
theorem h01_72:P01.fns.find? (fun f=>f.addr == 72) = some (fAP 72):=rfl
section
variable {cs:List Int} {ρ:List (Option V)} {n0 t N:Nat} {R:List (List AObj)} {X:List Nat}
theorem s0 {is:List Int} (h:Hv 22 ρ [(0,.lst (is.map .int))]) (hl:is.length <= 63):X1 P01 t0 ⟨ρ,[tb1,[]]⟩ .next ⟨ρ.set 1 (some (.ref 1 0)),R1 (cellsOf is cells1)⟩:=by
 have c:=cells_call (P:=P01) (ad:=79) (st:=⟨ρ,[tb1,[.list (cells1.map .int)]]⟩) (l:=1) (i:=0) (is:=is) (cs:=cells1) (by show 2 < 99; decide) rfl (by decide) (by decide) (by lia)
 exact X1_assign (E_call E_imm (Es_cons (E_slot (h.get 0 rfl)) (Es_cons (v:=.ref 1 0) (st1:=⟨ρ,[tb1,[.list (cells1.map .int)]]⟩) (E_lst (Es_cons E_int (Es_cons E_int Es_nil)) rfl) Es_nil)) Ek_nil (Ap_fn h01_79 c)) (As_hv h (by decide))
theorem cells_ok (is:List Int):(cellsOf is cells1).length = 2 /\ ∃ n0:Nat,(cellsOf is cells1).getD 0 0 = (n0:Int):=by
 have h2:(cellsOf is cells1).length = 2:=by unfold cellsOf; rw [cells_len]; rfl
 refine ⟨h2,((cellsOf is cells1).getD 0 0).toNat,(Int.toNat_of_nonneg ?_).symm⟩
 refine cells_nonneg ((cut is none (some 60)).zipIdx 0) cells1 (by decide) _ ?_
 show (cellsOf is cells1).getD 0 0 ∈ cellsOf is cells1
 rw [List.getD_eq_getElem?_getD,List.getElem?_eq_getElem (by lia)]
 exact List.getElem_mem _
theorem E_c0 (h:ρ[1]? = some (some (.ref 1 0))) (hl:cs.length = 2) (hn:cs.getD 0 0 = (n0:Int)):E P01 (.sub (.slot 1) (.const (.int 0))) ⟨ρ,R1 cs⟩ (.int (n0:Nat)) ⟨ρ,R1 cs⟩:=by
 have:=sub_iv' (P:=P01) (st:=⟨ρ,R1 cs⟩) (l:=1) (i:=0) (j:=0) rfl (E_slot h) (by lia) (by lia) (E_int (i:=0))
 rwa [hn] at this
theorem pow_nat {P:Pg} {st:St} {a b:ME} {x k:Nat} (hx:x < 2 ^ 16) (hk:k <= 1000) (h1:E P a st (.int (x:Nat)) st) (h2:E P b st (.int (k:Nat)) st):E P (.bin .Pow a b false) st (.int (x ^ k:Nat)) st:=E_binI h1 h2 (by
 simp only [bI_mul,bI_fdiv,bI_mod,bI_pow,bI_shl,bI_shr,bI_and,bI_or,bI_xor]
 rw [if_pos (by simp [small]; lia),Int.toNat_natCast]
 simp)
noncomputable def dOf (n:Nat):List Nat:=(List.range 6).map fun p=>n / 6 ^ p % 6
noncomputable def mOf (n:Nat):Nat:=1 + n / 46656 % 3
noncomputable def xOf (n:Nat):List Nat:=(dOf n).map (mOf n * ·)
theorem d_ok (n:Nat):(dOf n).length = 6 /\ ∀ x ∈ dOf n,x <= 5:=⟨by unfold dOf; rw [List.length_map,List.length_range],fun x m=>by
 obtain ⟨p,_,rfl⟩:=List.mem_map.mp m
 have:=Nat.mod_lt (n / 6 ^ p) (show 0 < 6 by decide)
 show n / 6 ^ p % 6 <= 5
 lia⟩
theorem m_ok (n:Nat):0 < mOf n /\ (mOf n = 1 ∨ mOf n = 2 ∨ mOf n = 3):=by unfold mOf; lia
theorem x_ok (n:Nat):(xOf n).length = 6 /\ ∀ x ∈ xOf n,x <= 15:=⟨by unfold xOf; rw [List.length_map]; exact (d_ok n).1,fun x m=>by
 obtain ⟨d,md,rfl⟩:=List.mem_map.mp m
 have h1:=(d_ok n).2 d md
 have h2:=(m_ok n).2
 rcases h2 with e | e | e <;> rw [e] <;> lia⟩
theorem s1 (h:Hv 22 ρ [(1,.ref 1 0)]) (hl:cs.length = 2) (hn:cs.getD 0 0 = (n0:Int)):X1 P01 t1 ⟨ρ,R1 cs⟩ .next ⟨ρ.set 2 (some (.lst (nv (xOf n0)))),R1 cs⟩:=by
 refine X1_assign ?_ (As_hv h (by decide))
 unfold xOf dOf nv
 rw [List.map_map,List.map_map]
 refine E_map (f:=fun p:Nat=>V.int (p:Nat)) h (range_I (n:=6) (by decide) E_int) (yields_seq _).R (by rw [List.length_range]; decide) fun p hp ρ' h'=>?_
 have hp:=List.mem_range.mp hp
 have e0:=E_c0 (n0:=n0) (h'.get 1 rfl) hl hn
 have hpw:6 ^ p < 2 ^ 30:=Nat.lt_of_le_of_lt (Nat.pow_le_pow_right (by decide) (show p <= 5 by lia)) (by decide)
 have:=mul_nat (by have:=Nat.mod_lt (n0 / 6 ^ p) (show 0 < 6 by decide); lia) (mod_nat' (y:=6) (by decide) (div_nat (y:=6 ^ p) (Nat.pow_pos (by decide)) hpw e0 (pow_nat (x:=6) (by decide) (by lia) E_int (E_slot (h'.get 0 rfl)))) E_int) (add_nat (x:=1) E_int (mod_nat' (y:=3) (by decide) (div_nat (y:=46656) (by decide) (by decide) e0 E_int) E_int))
 rw [Nat.mul_comm] at this
 exact this
theorem sum_hn {st:St} (hX:∀ x ∈ X,x <= 15) (hl:X.length = 6):biV st "sum" [.lst ((X.zipIdx 0).map fun p=>.int (p.1 * 16 ^ p.2:Nat))] = some (.int (hn X:Nat),st):=by
 have e:((X.zipIdx 0).map fun p=>V.int (p.1 * 16 ^ p.2:Nat)) = ((X.zipIdx 0).map fun p=>((p.1 * 16 ^ p.2:Nat):Int)).map .int:=by rw [List.map_map]; rfl
 have hs:∀ l:List (Nat × Nat),(l.map fun p=>((p.1 * 16 ^ p.2:Nat):Int)).sum = ((l.map fun p=>p.1 * 16 ^ p.2).sum:Nat):=fun l=>by
  induction l with
  | nil=>rfl
  | cons p l ih=>rw [List.map_cons,List.sum_cons,ih]; rfl
 rw [e,sum_bi,hs,hn_sum,Nat.pow_zero,Nat.one_mul]
 rw [Bool.and_eq_true,List.all_eq_true,decide_eq_true_eq,List.length_map,List.length_zipIdx]
 refine ⟨fun i hi=>?_,by lia⟩
 obtain ⟨p,hp,rfl⟩:=List.mem_map.mp hi
 obtain ⟨_,p2,p3⟩:=List.mem_zipIdx hp
 have h1:p.1 <= 15:=hX _ (by rw [p3]; exact List.getElem_mem _)
 have h2:16 ^ p.2 <= 16 ^ 6:=Nat.pow_le_pow_right (by decide) (by lia)
 have h3:p.1 * 16 ^ p.2 <= 15 * 16 ^ 6:=Nat.mul_le_mul h1 h2
 exact decide_eq_true (by rw [Int.natAbs_natCast]; exact Nat.lt_of_le_of_lt h3 (by decide))
theorem s2 (h:Hv 22 ρ [(2,.lst (nv X)),(1,.ref 1 0)]) (hl:cs.length = 2) (hX:∀ x ∈ X,x <= 15) (hx:X.length = 6):X1 P01 t2 ⟨ρ,R1 cs⟩ .next ⟨ρ.set 3 (some (.lst (nv [hn X,rem cs 1 360]))),R1 cs⟩:=by
 obtain ⟨it,m1,m2,m3⟩:=mkIt_nv (st:=⟨ρ,R1 cs⟩) (a:=.lst (nv X)) (xs:=X) rfl
 refine X1_assign (E_lst (v:=.lst (nv [hn X,rem cs 1 360])) (Es_cons (E_call E_imm (Es_cons (E_map2 (f1:=fun p:Nat × Nat=>V.int (p.2:Nat)) (f2:=fun p:Nat × Nat=>V.int (p.1:Nat)) (g:=fun p:Nat × Nat=>V.int (p.1 * 16 ^ p.2:Nat)) (xs:=X.zipIdx 0) h (I_enum (E_slot (h.get 0 rfl)) m2) (m3 _ rfl) (by rw [List.length_zipIdx,hx]; decide) fun p hp ρ' h'=>?_) Es_nil) Ek_nil (Ap_bi (sum_hn hX hx))) (Es_cons ?_ Es_nil)) rfl) (As_hv h (by decide))
 ·obtain ⟨_,p2,p3⟩:=List.mem_zipIdx hp
  have h1:p.1 <= 15:=hX _ (by rw [p3]; exact List.getElem_mem _)
  exact mul_nat (by lia) (E_slot (h'.get 1 rfl)) (pow_nat (x:=16) (by decide) (by lia) E_int (E_slot (h'.get 0 rfl)))
 ·refine E_binI (sub_iv' rfl (E_slot (h.get 1 rfl)) (show 1 < cs.length by lia) (by lia) E_int) E_int ?_
  simp only [bI_mul,bI_fdiv,bI_mod,bI_pow,bI_shl,bI_shr,bI_and,bI_or,bI_xor]
  rw [if_neg (by lia),rem_eq cs 1 (show (0:Int) < 360 by decide)]
theorem s3 (h:Hv 22 ρ [(3,.lst (nv [N,t]))]) (hN:N < 16 ^ 6) (ht:t < 360) (hR:R.length < 80):X1 P01 t3 ⟨ρ,R⟩ .next ⟨ρ.set 4 (some (.lst (nv [N,t]))),R⟩:=by
 have c:=RD_call (P:=P01) (ad:=84) (w:=3) (by decide) h01_65 (st:=⟨ρ,R⟩) (ns:=[N,t]) hR (fun n m=>by
  simp at m
  rcases m with rfl | rfl <;> lia) (by show 2 <= 1000; decide)
 exact X1_assign (E_call E_imm (Es_cons (E_slot (h.get 0 rfl)) Es_nil) Ek_nil (Ap_fn h01_84 c)) (As_hv h (by decide))
theorem E_at (j i:Nat) {v:Nat} (h:ρ[i]? = some (some (.lst (nv [N,t])))) (hj:j < 2) (hv : [N,t].getD j 0 = v):E P01 (.sub (.slot i) (.const (.int (j:Nat)))) ⟨ρ,R⟩ (.int (v:Nat)) ⟨ρ,R⟩:=hv ▸ sub_nv (k:=j) (xs:=[N,t]) h rfl (by show 2 <= 1000; decide) hj E_int
theorem s4 (h:Hv 22 ρ [(4,.lst (nv [N,t])),(3,.lst (nv [N,t]))]) (hR:R.length < 60):X1 P01 t4 ⟨ρ,R⟩ .next ⟨ρ,R⟩:=by
 have c:=refused_call (st:=⟨ρ,R⟩) (lo:=-1 - (t:Int)) hR (by lia)
 have e:E P01 (.bin .Sub (.un .USub (.const (.int 1))) (.sub (.slot 3) (.const (.int 1))) false) ⟨ρ,R⟩ (.int (-1 - (t:Int))) ⟨ρ,R⟩:=E_binI (E_neg (i:=1) E_int) (E_at 1 3 (h.get 1 rfl) (by decide) rfl) rfl
 exact X1_iteF (T_lorF (T_cmp1 (E_slot (h.get 0 rfl)) (E_slot (h.get 1 rfl)) (cmp_ne (eqV_nv _ _))) (T_lor1 (T_not (b:=true) (T_val (v:=.imm (.bool true)) (E_call E_imm (Es_cons e Es_nil) Ek_nil (Ap_fn h01_96 c)) rfl rfl)))) X_nil
theorem s5 (h:Hv 22 ρ [(4,.lst (nv [N,t]))]):X1 P01 t5 ⟨ρ,R⟩ .next ⟨(ρ.set 5 (some (.int (1 + t % 4:Nat)))).set 6 (some (.int (t / 12 % 15:Nat))),R⟩:=by
 have e:=E_at (R:=R) 1 4 (h.get 0 rfl) (by decide) rfl
 exact X1_assign (E_tup (Es_cons (add_nat (x:=1) E_int (mod_nat' (y:=4) (by decide) e E_int)) (Es_cons (mod_nat' (y:=15) (by decide) (div_nat (y:=12) (by decide) (by decide) e E_int) E_int) Es_nil))) (As_tup2 (As_hv h (by decide)) (As_hv (h.set (i:=5) _ rfl) (by decide)))
theorem s6 {a:Nat} (h:Hv 22 ρ [(4,.lst (nv [N,t])),(5,.int (a:Nat))]):X1 P01 t6 ⟨ρ,R⟩ .next ⟨ρ.set 7 (some (.int (1 + (a + t / 4 % 3) % 4:Nat))),R⟩:=
 X1_assign (add_nat (x:=1) E_int (mod_nat' (y:=4) (by decide) (add_nat (E_slot (h.get 1 rfl)) (mod_nat' (y:=3) (by decide) (div_nat (y:=4) (by decide) (by decide) (E_at 1 4 (h.get 0 rfl) (by decide) rfl) E_int) E_int)) E_int)) (As_hv h (by decide))
theorem s7 (h:Hv 22 ρ [(4,.lst (nv [N,t]))]) (hN:N < 16 ^ 6) (hR:R.length < 80):X1 P01 t7 ⟨ρ,R⟩ .next ⟨ρ.set 8 (some (.bytes (apD 6 N))),R⟩:=by
 have e0:=E_at (R:=R) (v:=N) 0 4 (h.get 0 rfl) (by decide) rfl
 have e1:=E_at (R:=R) (v:=t) 1 4 (h.get 0 rfl) (by decide) rfl
 have t1:=T_val (P:=P01) (d:=8) (div_nat (y:=180) (by decide) (by decide) e1 E_int) (int_nz _) rfl
 have key:∀ v:Int,v.natAbs = N->E P01 (.ite (.bin .FloorDiv (.sub (.slot 4) (.const (.int 1))) (.const (.int 180)) false) (.un .USub (.sub (.slot 4) (.const (.int 0)))) (.sub (.slot 4) (.const (.int 0)))) ⟨ρ,R⟩ (.int v) ⟨ρ,R⟩->X1 P01 t7 ⟨ρ,R⟩ .next ⟨ρ.set 8 (some (.bytes (apD 6 N))),R⟩:=fun v hv hE=>by
  have c:=AP_call (P:=P01) (ad:=72) (st:=⟨ρ,R⟩) (i:=v) (f:=6) (by show R.length < 100; lia) (by rw [hv]; exact hN) (by decide)
  rw [hv] at c
  exact X1_assign (E_call E_imm (Es_cons hE Es_nil) Ek_nil (Ap_fn h01_72 c)) (As_hv h (by decide))
 cases hq:(t / 180 != 0) with
 | true=>
  rw [hq] at t1
  exact key (-(N:Int)) (by lia) (E_iteT t1 (E_neg e0))
 | false=>
  rw [hq] at t1
  exact key (N:Int) (Int.natAbs_natCast N) (E_iteF t1 e0)
theorem s8 (h:Hv 22 ρ [(8,.bytes (apD 6 N))]) (hN:N < 16 ^ 6):X1 P01 t8 ⟨ρ,R⟩ .next ⟨ρ.set 9 (some (.bytes ((dgs N 6).map Nat.toUInt8))),R⟩:=by
 obtain ⟨w1,w2,w3,w4⟩:=word_eq hN
 have el:=len_w (P:=P01) (st:=⟨ρ,R⟩) (h.get 0 rfl) (by lia)
 have e1:E P01 (.bin .Mult (.const (.bytes [65])) (.bin .Sub (.const (.int 6)) (.call (.imm (.builtin "len")) [(.slot 8)] []) false) false) ⟨ρ,R⟩ (.bytes (List.replicate (6 - (apD 6 N).length) 65)) ⟨ρ,R⟩:=by
  refine E_bin E_bytes (sub_nat (x:=6) (by lia) E_int el) ?_
  show (if decide (([65]:List UInt8) ≠ []) && decide (([65]:List UInt8).length <= 16) && decide ((-1000:Int) <= (6 - (apD 6 N).length:Nat)) && decide (((6 - (apD 6 N).length:Nat):Int) <= 1000) then some (V.bytes (List.replicate ((6 - (apD 6 N).length:Nat):Int).toNat [65]).flatten,(⟨ρ,R⟩ : St)) else none) = _
  rw [if_pos (by simp; lia),Int.toNat_natCast,flat1]
 refine X1_assign (E_bin e1 (E_slot (h.get 0 rfl)) ?_) (As_hv h (by decide))
 show (if (List.replicate (6 - (apD 6 N).length) (65:UInt8)).length + (apD 6 N).length <= lim then some (V.bytes (List.replicate (6 - (apD 6 N).length) 65 ++ apD 6 N),(⟨ρ,R⟩ : St)) else none) = _
 rw [if_pos (by rw [List.length_replicate]; unfold lim; lia),w4]
theorem s9 (h:Hv 22 ρ [(9,.bytes ((dgs (hn X) 6).map Nat.toUInt8)),(8,.bytes (apD 6 (hn X))),(2,.lst (nv X))]) (hX:∀ x ∈ X,x <= 15) (hx:X.length = 6) (hN:hn X < 16 ^ 6):X1 P01 t9 ⟨ρ,R⟩ .next ⟨ρ,R⟩:=by
 have hl:=(word_eq hN).1
 have hd:dgs (hn X) 6 = X.reverse.map (65 + ·):=by rw [<- hx]; exact hn_dgs fun x m=>by have:=hX x m; lia
 have t2:T P01 7 (.cmp (.slc (.slot 8) none (some (.const (.int 1))) none false) [.Eq] [(.const (.bytes [65]))]) ⟨ρ,R⟩ false ⟨ρ,R⟩:=by
  refine T_cmp1 (E_slc (E_slot (h.get 1 rfl)) Eo_none (Eo_some E_int) Eo_none (v:=.bytes (cut (apD 6 (hn X)) none (some 1))) ?_) E_bytes ((bytes_eq ⟨ρ,R⟩ _ _).trans ?_)
  ·simp only [slcV,optV,slcO,Option.isNone_none,if_true,optO]
   rw [if_pos (by unfold lim; lia)]
  ·have e:cut (apD 6 (hn X)) none (some 1) = (apD 6 (hn X)).take 1:=by
    unfold cut clipAt
    cases apD 6 (hn X) with
    | nil=>simp
    | cons a as=>
     have:(max 0 (min 1 ((as.length:Int) + 1))).toNat = 1:=by lia
     simp [this]
   rw [e]
   exact congrArg some (beq_eq_false_iff_ne.mpr (ap_head 6 (hn X) hN))
 have e3:E P01 (.comp false 22 2 [(.mk (.slot 23) (.val (.rvs (.slot 2) false)) [])] (.bin .Add (.const (.int 65)) (.slot 23) false)) ⟨ρ,R⟩ (.lst (nv (dgs (hn X) 6))) ⟨ρ,R⟩:=by
  rw [hd]
  unfold nv
  rw [List.map_map]
  exact E_map (f:=fun c:Nat=>V.int (c:Nat)) h (I_val (v:=.lst (nv X.reverse)) (E_rvs (E_slot (h.get 2 rfl)) (rvs_nv rfl (by lia))) rfl) (yields_seq _).R (by rw [List.length_reverse,hx]; decide) fun c u_ ρ' h'=>add_nat (x:=65) E_int (E_slot (h'.get 0 rfl))
 have e4:E P01 (.call (.imm (.type "bytes")) [(.comp false 22 2 [(.mk (.slot 23) (.val (.rvs (.slot 2) false)) [])] (.bin .Add (.const (.int 65)) (.slot 23) false))] []) ⟨ρ,R⟩ (.bytes ((dgs (hn X) 6).map Nat.toUInt8)) ⟨ρ,R⟩:=
  E_call E_imm (Es_cons e3 Es_nil) Ek_nil (Ap_ty (bytes_nv (fun c m=>by have:=dgs_bd (hn X) 6 c m; lia) (by rw [dgs_len]; decide)))
 exact X1_iteF (T_lorF t2 (T_lor1 (T_cmp1 (E_slot (h.get 0 rfl)) e4 (cmp_ne ((bytes_eq _ _ _).trans (by rw [beq_self_eq_true])))))) X_nil
theorem s10 (h:Hv 22 ρ [(9,.bytes ((dgs (hn X) 6).map Nat.toUInt8))]) (hX:∀ x ∈ X,x <= 15) (hx:X.length = 6):X1 P01 t10 ⟨ρ,R⟩ .next ⟨ρ.set 10 (some (.lst (nv X))),R⟩:=by
 have hd:dgs (hn X) 6 = X.reverse.map (65 + ·):=by rw [<- hx]; exact hn_dgs fun x m=>by have:=hX x m; lia
 have hb:(((dgs (hn X) 6).map Nat.toUInt8).map fun c=>V.int (c.toNat:Int)) = X.reverse.map fun c:Nat=>V.int ((65 + c:Nat):Int):=by
  rw [hd,List.map_map,List.map_map]
  refine List.map_congr_left fun c mc=>?_
  have:=hX c (List.mem_reverse.mp mc)
  show V.int (((65 + c).toUInt8.toNat:Nat):Int) = _
  rw [show (65 + c).toUInt8.toNat = 65 + c by show (65 + c) % 256 = _; lia]
 have e:E P01 (.comp false 22 2 [(.mk (.slot 23) (.val (.slot 9)) [])] (.bin .Sub (.slot 23) (.const (.int 65)) false)) ⟨ρ,R⟩ (.lst (nv X.reverse)) ⟨ρ,R⟩:=by
  refine E_map (f:=fun c:Nat=>V.int ((65 + c:Nat):Int)) h (I_val (it:=.seq (X.reverse.map fun c:Nat=>V.int ((65 + c:Nat):Int))) (E_slot (h.get 0 rfl)) ?_) (yields_seq _).R (by rw [List.length_reverse,hx]; decide) fun c u_ ρ' h'=>?_
  ·rw [<- hb]; rfl
  ·have:=sub_nat (x:=65 + c) (y:=65) (Nat.le_add_right _ _) (E_slot (P:=P01) (st:=⟨ρ',R⟩) (h'.get 0 rfl)) E_int
   rwa [Nat.add_sub_cancel_left] at this
 have r:=rvs_nv (st:=⟨ρ,R⟩) (a:=.lst (nv X.reverse)) (xs:=X.reverse) rfl (by rw [List.length_reverse]; lia)
 rw [List.reverse_reverse] at r
 exact X1_assign (E_rvs e r) (As_hv h (by decide))
theorem s_pass (a i j:Nat) {b:ME} {B:List Nat} {n f:Nat} (ha:ρ[a]? = some (some (.lst (nv B)))) (hb:E P01 b ⟨ρ,R⟩ (.int (n:Nat)) ⟨ρ,R⟩) (hf:ρ[6]? = some (some (.int (f:Nat)))) (hρ:ρ.length = 22) (hi:i < 22) (hj:j < 22) (hR:R.length < 60) (h0:0 < n) (hl:B.length + n <= 14) (hf14:f <= 14) :
  X1 P01 (.assign (.tup [.slot i,.slot j]) (.call (.imm (.ref 101)) [.slot a,b,.slot 6] [])) ⟨ρ,R⟩ .next ⟨(ρ.set i (some (.lst (nv (PN n B).1)))).set j (some (.int (cn (PN n B).2:Nat))),R⟩:=
 X1_assign (E_call E_imm (Es_cons (E_slot ha) (Es_cons hb (Es_cons (E_slot hf) Es_nil))) Ek_nil (Ap_fn h01_101 (pass_call hR h0 hl hf14))) (As_tup2 (As_slot' (by rw [hρ]; exact hi) rfl) (As_slot' (by rw [List.length_set,hρ]; exact hj) rfl))
theorem ne_same (st:St) (x:Nat):cmpV st .NotEq (.int (x:Nat)) (.int (x:Nat)) = some false:=by rw [cmp_nen]; simp
theorem eqV_rows (st:St) (Rs:List (List Nat)):eqV st (.lst (Rs.map fun R=>.lst (nv R))) (.lst (Rs.map fun R=>.lst (nv R))) = some true:=by
 have hp:∀ R:List Nat,toPD (.lst (nv R)) = some (.list (R.map fun c=>PyData.int ((c:Nat):Int))):=fun R=>by rw [nv_ints,toPD_lst,toPD_ints,List.map_map]; rfl
 have h1:∀ Rs:List (List Nat),toPDL (Rs.map fun R=>V.lst (nv R)) = some (Rs.map fun R=>PyData.list (R.map fun c=>PyData.int ((c:Nat):Int))):=fun Rs=>by
  induction Rs with
  | nil=>rfl
  | cons R Rs ih=>exact toPDL_cons (hp R) ih
 have h2:∀ R:List Nat,PyData.canLayAll0 (R.map fun c=>PyData.int ((c:Nat):Int)) = true /\ PyData.depthAll (R.map fun c=>PyData.int ((c:Nat):Int)) = 0:=fun R=>by
  induction R with
  | nil=>exact ⟨rfl,rfl⟩
  | cons c R ih=>
   simp only [List.map_cons,PyData.canLayAll0,PyData.canLay0,PyData.depthAll,PyData.depth,ih.1,ih.2,Bool.and_true]
   exact ⟨trivial,rfl⟩
 have h3:∀ Rs:List (List Nat),PyData.canLayAll0 (Rs.map fun R=>PyData.list (R.map fun c=>PyData.int ((c:Nat):Int))) = true /\ PyData.depthAll (Rs.map fun R=>PyData.list (R.map fun c=>PyData.int ((c:Nat):Int))) <= 1:=fun Rs=>by
  induction Rs with
  | nil=>exact ⟨rfl,Nat.zero_le _⟩
  | cons R Rs ih=>
   simp only [List.map_cons,PyData.canLayAll0,PyData.canLay0,PyData.depthAll,PyData.depth,ih.1,(h2 R).1,(h2 R).2,Bool.and_true]
   exact ⟨trivial,by have:=ih.2; lia⟩
 have h:toPD (.lst (Rs.map fun R=>V.lst (nv R))) = some (.list (Rs.map fun R=>PyData.list (R.map fun c=>PyData.int ((c:Nat):Int)))):=by rw [toPD_lst,h1]; rfl
 exact  eqd_refl h (by
  unfold SeqAt.shaped
  rw [Bool.and_eq_true]
  exact ⟨by simp only [PyData.canLay0]; exact (h3 Rs).1,decide_eq_true (by simp only [PyData.depth]; have:=(h3 Rs).2; lia)⟩)
theorem s15 {x y:Nat} {o:List Nat} (h:Hv 22 ρ [(12,.int (x:Nat)),(18,.int (x:Nat)),(14,.int (y:Nat)),(16,.int (y:Nat)),(15,.lst (nv o)),(17,.lst (nv o))]):X1 P01 t15 ⟨ρ,R⟩ .next ⟨ρ,R⟩:=
 X1_iteF (T_lorF (T_cmp1 (E_slot (h.get 0 rfl)) (E_slot (h.get 1 rfl)) (ne_same _ x)) (T_lorF (T_cmp1 (E_slot (h.get 2 rfl)) (E_slot (h.get 3 rfl)) (ne_same _ y)) (T_lor1 (T_cmp1 (E_slot (h.get 4 rfl)) (E_slot (h.get 5 rfl)) (cmp_ne (eqV_nv _ _)))))) X_nil
theorem s16 (h:Hv 22 ρ [(10,.lst (nv X))]) (hx:X.length = 6) (hR:R.length < 60) (ht:St.obj ⟨ρ,R⟩ 0 0 = some (.tab 112 qnR)):X1 P01 t16 ⟨ρ,R⟩ .next ⟨ρ.set 19 (some (.lst ((rowsR [] X).map fun R=>.lst (nv R)))),R⟩:=
 X1_assign (E_call E_imm (Es_cons (E_slot (h.get 0 rfl)) Es_nil) Ek_nil (Ap_fn h01_113 (rows_call hR ht (by lia)))) (As_hv h (by decide))
theorem add_zl {B:List Nat} {i k n:Nat} (h1:ρ[i]? = some (some (.lst (nv B)))) (h2:ρ[k]? = some (some (.int (n:Nat)))) (hl:B.length <= 90) (hn:n <= 10):E P01 (.bin .Add (.slot i) (.bin .Mult (.lst [(.const (.int 0))] false) (.slot k) false) false) ⟨ρ,R⟩ (.lst (nv (B ++ List.replicate n 0))) ⟨ρ,R⟩:=
 E_bin (E_slot (v:=.lst (nv B)) h1) (zl_E (n:=n) h2 (by lia)) (by rw [nv_app]; exact add_seq (vs:=nv B) (us:=nv (List.replicate n 0)) rfl rfl (by rw [List.length_append,nv_len,nv_len,List.length_replicate]; unfold lim; lia))
theorem s17 {a b:Nat} {one both:List Nat} (h:Hv 22 ρ [(15,.lst (nv both)),(7,.int (b:Nat)),(11,.lst (nv one)),(5,.int (a:Nat)),(10,.lst (nv X)),(19,.lst ((rowsR [] X).map fun R=>.lst (nv R)))]) (hx:X.length = 6) (ha0:0 < a) (ha:a <= 4) (hb0:0 < b) (hb:b <= 4) (e1:one = (PN a X).1) (e2:both = (PN b one).1) (er1:rowsR [] one = rowsR [] X) (er2:rowsR [] both = rowsR [] X)
  (hR:R.length < 50) (ht:St.obj ⟨ρ,R⟩ 0 0 = some (.tab 112 qnR)) (ht2:St.obj ⟨ρ,R⟩ 0 1 = some (.tab 117 qnA)):X1 P01 t17 ⟨ρ,R⟩ .next ⟨ρ,R⟩:=by
 have l1:one.length = 6 + a:=by rw [e1,(PN_len a X).1,hx]
 have l2:both.length = 6 + a + b:=by rw [e2,(PN_len b one).1,l1]
 have b1:=back_PN hb0 one
 rw [<- e2] at b1
 have b2:=back_PN ha0 X
 rw [<- e1] at b2
 have c1:=back_call (st:=⟨ρ,R⟩) (B:=both) (show R.length < 60 by lia) hb0 (by lia) (by lia) b1
 have c2:=back_call (st:=⟨ρ,R⟩) (B:=one) (show R.length < 60 by lia) ha0 (by lia) (by lia) b2
 rw [List.reverse_reverse] at c1 c2
 have c3:=rows_call (st:=⟨ρ,R⟩) (B:=one) (show R.length < 60 by lia) ht (by lia)
 have c4:=apart_call (st:=⟨ρ,R⟩) (B:=both) hR ht ht2 (by lia)
 rw [er1] at c3
 rw [er2] at c4
 exact X1_iteF (T_lorF (T_cmp1 (E_call E_imm (Es_cons (E_slot (h.get 0 rfl)) (Es_cons (E_slot (h.get 1 rfl)) Es_nil)) Ek_nil (Ap_fn h01_108 c1)) (add_zl (h.get 2 rfl) (h.get 1 rfl) (by lia) (by lia)) (cmp_ne (eqV_nv _ _)))
  (T_lorF (T_cmp1 (E_call E_imm (Es_cons (E_slot (h.get 2 rfl)) (Es_cons (E_slot (h.get 3 rfl)) Es_nil)) Ek_nil (Ap_fn h01_108 c2)) (add_zl (h.get 4 rfl) (h.get 3 rfl) (by lia) (by lia)) (cmp_ne (eqV_nv _ _)))
  (T_lorF (T_cmp1 (E_call E_imm (Es_cons (E_slot (h.get 2 rfl)) Es_nil) Ek_nil (Ap_fn h01_113 c3)) (E_slot (h.get 5 rfl)) (cmp_ne (eqV_rows _ _)))
  (T_lor1 (T_cmp1 (E_call E_imm (Es_cons (E_slot (h.get 0 rfl)) Es_nil) Ek_nil (Ap_fn h01_118 c4)) (E_slot (h.get 5 rfl)) (cmp_ne (eqV_rows _ _))))))) X_nil
theorem s19 {o:List Nat} {k:Nat} (h:Hv 22 ρ [(21,.int (k:Nat)),(2,.lst (nv X)),(20,.lst (nv o)),(10,.lst (nv X))]) (hx:X.length = 6) (hk:k = cn (X.map (· != 0))) (hv:leapN cs15 (X ++ List.replicate X.length 0) = (o,false)) (hR:R.length < 60):X1 P01 t19 ⟨ρ,R⟩ (.ret (.imm (.bool true))) ⟨ρ,R⟩:=by
 have c:=leap_call (st:=⟨ρ,R⟩) (B:=X) hR (by lia) (by rw [hv])
 rw [hv] at c
 have hk2:k = (X.filter (· != 0)).length:=by
  rw [hk]
  unfold cn
  rw [List.countP_map,List.countP_eq_length_filter]; rfl
 have e1:E P01 (.comp false 22 2 [(.mk (.slot 23) (.val (.slot 2)) [(.slot 23)])] (.slot 23)) ⟨ρ,R⟩ (.lst (nv (X.filter (· != 0)))) ⟨ρ,R⟩:=
  E_filter (f:=fun c:Nat=>V.int (c:Nat)) (g:=fun c:Nat=>V.int (c:Nat)) (q:=fun c:Nat=>c != 0) h (I_val (E_slot (h.get 1 rfl)) rfl) (yields_seq _).R (by rw [hx]; decide) fun x u_ ρ' h'=>⟨T_val (E_slot (h'.get 0 rfl)) (int_nz x) rfl,fun u_=>E_slot (h'.get 0 rfl)⟩
 have e2:E P01 (.call (.imm (.builtin "len")) [(.comp false 22 2 [(.mk (.slot 23) (.val (.slot 2)) [(.slot 23)])] (.slot 23))] []) ⟨ρ,R⟩ (.int (k:Nat)) ⟨ρ,R⟩:=by
  have:=len_seq (st:=⟨ρ,R⟩) (a:=.lst (nv (X.filter (· != 0)))) rfl (by rw [nv_len]; have:=List.length_filter_le (· != 0) X; unfold lim; lia)
  rw [nv_len,<- hk2] at this
  exact E_call E_imm (Es_cons e1 Es_nil) Ek_nil (Ap_bi this)
 have q1:cmpV ⟨ρ,R⟩ .Eq (.int (k:Nat)) (.int (k:Nat)) = some true:=(cmp_eqn _ k k).trans (by rw [beq_self_eq_true])
 have q2:cmpV ⟨ρ,R⟩ .Eq (.lst (nv o)) (.lst (nv o)) = some true:=eqV_nv ⟨ρ,R⟩ o
 exact X1_ret (E_landT (E_cmp (E_slot (h.get 0 rfl)) e2 q1) rfl (E_land1 (E_cmp (E_slot (h.get 2 rfl)) (E_call E_imm (Es_cons (E_slot (h.get 3 rfl)) Es_nil) Ek_nil (Ap_fn h01_123 c)) q2)))
end
end
section
theorem run01:∀ is:List Int,is.length <= 63->∃ st:St,(st.obj 0 0 = some (.tab 112 qnR) /\ st.obj 0 1 = some (.tab 117 qnA)) /\ Call P01 f01_law [.lst (is.map .int)] [] { ρ:=[],R:=[tb1] } (.imm (.bool true)) st:=fun is hl=>by
 have k0:Hv 22 (some (V.lst (is.map .int)) :: List.replicate 21 none) [(0,.lst (is.map .int))]:=head1 _ rfl
 have x0:=s0 k0 hl
 have k1:=k0.nil.put (i:=1) (.ref 1 0) rfl (by decide)
 obtain ⟨hcl,n0,hn0⟩:=cells_ok is
 generalize cellsOf is cells1 = cs at *
 generalize (some (V.lst (is.map .int)) :: List.replicate 21 none).set 1 (some (.ref 1 0)) = ρ1 at k1 x0
 have x1:=s1 k1 hcl hn0
 obtain ⟨hx6,hx15⟩:=x_ok n0
 obtain ⟨hd6,hd5⟩:=d_ok n0
 obtain ⟨hm0,hm3⟩:=m_ok n0
 have hX:xOf n0 = (dOf n0).map (mOf n0 * ·):=rfl
 generalize xOf n0 = X at *
 generalize dOf n0 = d at *
 generalize mOf n0 = m at *
 have k2:=k1.put (i:=2) (.lst (nv X)) rfl (by decide)
 generalize ρ1.set 2 (some (.lst (nv X))) = ρ2 at k2 x1
 have x2:=s2 k2 hcl hx15 hx6
 have hN:hn X < 16 ^ 6:=by
  have:=hn_lt (X:=X) fun x mx=>by have:=hx15 x mx; lia
  rwa [hx6] at this
 have ht:rem cs 1 360 < 360:=by have:=rem_lt cs 1 (show (0:Int) < 360 by decide); lia
 generalize rem cs 1 360 = t at *
 have k3:=k2.nil.add (k2.get 0 rfl) |>.put (i:=3) (.lst (nv [hn X,t])) rfl (by decide)
 generalize ρ2.set 3 (some (.lst (nv [hn X,t]))) = ρ3 at k3 x2
 have x3:=s3 (R:=R1 cs) (k3.nil.add (k3.get 0 rfl)) hN ht (by show 2 < 80; decide)
 have k4:=k3.put (i:=4) (.lst (nv [hn X,t])) rfl (by decide)
 generalize ρ3.set 4 (some (.lst (nv [hn X,t]))) = ρ4 at k4 x3
 have x4:=s4 (R:=R1 cs) ((k4.nil.add (k4.get 1 rfl)).add (k4.get 0 rfl)) (by show 2 < 60; decide)
 have k4':=(k4.nil.add (k4.get 2 rfl)).add (k4.get 0 rfl)
 have x5:=s5 (R:=R1 cs) (k4'.nil.add (k4'.get 0 rfl))
 rw [Nat.add_comm 1 (t % 4)] at x5
 have ha:t % 4 < 4:=Nat.mod_lt _ (by decide)
 have hf:t / 12 % 15 <= 14:=by lia
 have hb:(t % 4 + 1 + t / 4 % 3) % 4 < 4:=Nat.mod_lt _ (by decide)
 have hab:t % 4 ≠ (t % 4 + 1 + t / 4 % 3) % 4:=by lia
 have k5:=k4'.put (i:=5) (.int (t % 4 + 1:Nat)) rfl (by decide)
 have k6:=k5.put (i:=6) (.int (t / 12 % 15:Nat)) rfl (by decide)
 generalize (ρ4.set 5 (some (.int (t % 4 + 1:Nat)))).set 6 (some (.int (t / 12 % 15:Nat))) = ρ6 at k6 x5
 have x6:=s6 (R:=R1 cs) ((k6.nil.add (k6.get 1 rfl)).add (k6.get 2 rfl))
 rw [Nat.add_comm 1 ((t % 4 + 1 + t / 4 % 3) % 4)] at x6
 have k7:=k6.put (i:=7) (.int ((t % 4 + 1 + t / 4 % 3) % 4 + 1:Nat)) rfl (by decide)
 generalize ρ6.set 7 (some (.int ((t % 4 + 1 + t / 4 % 3) % 4 + 1:Nat))) = ρ7 at k7 x6
 have x7:=s7 (R:=R1 cs) (k7.nil.add (k7.get 3 rfl)) hN (by show 2 < 80; decide)
 generalize (t % 4 + 1 + t / 4 % 3) % 4 = b at *
 generalize t % 4 = a at *
 generalize t / 12 % 15 = f at *
 have k8:=((((k7.nil.add (k7.get 4 rfl)).add (k7.get 0 rfl)).add (k7.get 1 rfl)).add (k7.get 2 rfl)).put (i:=8) (.bytes (apD 6 (hn X))) rfl (by decide)
 generalize ρ7.set 8 (some (.bytes (apD 6 (hn X)))) = ρ8 at k8 x7
 have x8:=s8 (R:=R1 cs) (k8.nil.add (k8.get 0 rfl)) hN
 have k9:=k8.put (i:=9) (.bytes ((dgs (hn X) 6).map Nat.toUInt8)) rfl (by decide)
 generalize ρ8.set 9 (some (.bytes ((dgs (hn X) 6).map Nat.toUInt8))) = ρ9 at k9 x8
 have x9:=s9 (R:=R1 cs) (((k9.nil.add (k9.get 5 rfl)).add (k9.get 1 rfl)).add (k9.get 0 rfl)) hx15 hx6 hN
 have x10:=s10 (R:=R1 cs) (k9.nil.add (k9.get 0 rfl)) hx15 hx6
 have k10:=k9.tl.tl.put (i:=10) (.lst (nv X)) rfl (by decide)
 generalize ρ9.set 10 (some (.lst (nv X))) = ρ10 at k10 x10
 have hd8:∀ x ∈ d,x < 8:=fun x mx=>by have:=hd5 x mx; lia
 obtain ⟨q1,q2,q3,q4,q5,q6⟩:=pair_ok hd6 hd8 hm0 ha hb hab hX
 have la:=(PN_len (a + 1) X).1
 have lb:=(PN_len (b + 1) X).1
 rw [hx6] at la lb
 have hR2:(R1 cs).length < 60:=by show 2 < 60; decide
 have x11:=s_pass (R:=R1 cs) 10 11 12 (b:=.slot 5) (n:=a + 1) (B:=X) (k10.get 0 rfl) (E_slot (k10.get 1 rfl)) (k10.get 2 rfl) k10.1 (by decide) (by decide) hR2 (Nat.succ_pos a) (by lia) hf
 have k12:=(k10.put (i:=11) (.lst (nv (PN (a + 1) X).1)) rfl (by decide)).put (i:=12) (.int (cn (PN (a + 1) X).2:Nat)) rfl (by decide)
 generalize (ρ10.set 11 (some (.lst (nv (PN (a + 1) X).1)))).set 12 (some (.int (cn (PN (a + 1) X).2:Nat))) = ρ12 at k12 x11
 have x12:=s_pass (R:=R1 cs) 10 13 14 (b:=.slot 7) (n:=b + 1) (B:=X) (k12.get 2 rfl) (E_slot (k12.get 5 rfl)) (k12.get 4 rfl) k12.1 (by decide) (by decide) hR2 (Nat.succ_pos b) (by lia) hf
 have k14:=(k12.put (i:=13) (.lst (nv (PN (b + 1) X).1)) rfl (by decide)).put (i:=14) (.int (cn (PN (b + 1) X).2:Nat)) rfl (by decide)
 generalize (ρ12.set 13 (some (.lst (nv (PN (b + 1) X).1)))).set 14 (some (.int (cn (PN (b + 1) X).2:Nat))) = ρ14 at k14 x12
 have x13:=s_pass (R:=R1 cs) 11 15 16 (b:=.slot 7) (n:=b + 1) (B:=(PN (a + 1) X).1) (k14.get 3 rfl) (E_slot (k14.get 7 rfl)) (k14.get 6 rfl) k14.1 (by decide) (by decide) hR2 (Nat.succ_pos b) (by lia) hf
 rw [<- q3] at x13
 have k16:=(k14.put (i:=15) (.lst (nv (PN (b + 1) (PN (a + 1) X).1).1)) rfl (by decide)).put (i:=16) (.int (cn (PN (b + 1) X).2:Nat)) rfl (by decide)
 generalize (ρ14.set 15 (some (.lst (nv (PN (b + 1) (PN (a + 1) X).1).1)))).set 16 (some (.int (cn (PN (b + 1) X).2:Nat))) = ρ16 at k16 x13
 have x14:=s_pass (R:=R1 cs) 13 17 18 (b:=.slot 5) (n:=a + 1) (B:=(PN (b + 1) X).1) (k16.get 3 rfl) (E_slot (k16.get 7 rfl)) (k16.get 8 rfl) k16.1 (by decide) (by decide) hR2 (Nat.succ_pos a) (by lia) hf
 rw [<- q1,<- q2] at x14
 have k18:=(k16.put (i:=17) (.lst (nv (PN (b + 1) (PN (a + 1) X).1).1)) rfl (by decide)).put (i:=18) (.int (cn (PN (a + 1) X).2:Nat)) rfl (by decide)
 generalize (ρ16.set 17 (some (.lst (nv (PN (b + 1) (PN (a + 1) X).1).1)))).set 18 (some (.int (cn (PN (a + 1) X).2:Nat))) = ρ18 at k18 x14
 have x15:=s15 (R:=R1 cs) ((((((k18.nil.add (k18.get 1 rfl)).add (k18.get 3 rfl)).add (k18.get 2 rfl)).add (k18.get 4 rfl)).add (k18.get 0 rfl)).add (k18.get 6 rfl))
 have k19':=((((((k18.nil.add (k18.get 12 rfl)).add (k18.get 10 rfl)).add (k18.get 8 rfl)).add (k18.get 9 rfl)).add (k18.get 7 rfl)).add (k18.get 11 rfl)).add (k18.get 3 rfl)
 have tb0:∀ ρ,St.obj ⟨ρ,R1 cs⟩ 0 0 = some (.tab 112 qnR):=fun u_=>rfl
 have tb01:∀ ρ,St.obj ⟨ρ,R1 cs⟩ 0 1 = some (.tab 117 qnA):=fun u_=>rfl
 have x16:=s16 (R:=R1 cs) (k18.nil.add (k18.get 8 rfl)) hx6 hR2 (tb0 _)
 have k19:=k19'.put (i:=19) (.lst ((rowsR [] X).map fun R=>.lst (nv R))) rfl (by decide)
 generalize ρ18.set 19 (some (.lst ((rowsR [] X).map fun R=>.lst (nv R)))) = ρ19 at k19 x16
 have er1:=rows_same q4 q5
 have er2:=rows_same q4 q6
 have x17:=s17 (R:=R1 cs) (a:=a + 1) (b:=b + 1) ((((((k19.nil.add (k19.get 0 rfl)).add (k19.get 5 rfl)).add (k19.get 4 rfl)).add (k19.get 3 rfl)).add (k19.get 2 rfl)).add (k19.get 1 rfl)) hx6 (Nat.succ_pos a) (by lia) (Nat.succ_pos b) (by lia) rfl rfl er1 er2 (by show 2 < 50; decide) (tb0 _) (tb01 _)
 have x18:=s_pass (R:=R1 cs) 10 20 21 (b:=.const (.int 6)) (n:=6) (B:=X) (k19.get 5 rfl) (E_int (i:=6)) (k19.get 6 rfl) k19.1 (by decide) (by decide) hR2 (by decide) (by lia) hf
 have k21:=(k19.put (i:=20) (.lst (nv (PN 6 X).1)) rfl (by decide)).put (i:=21) (.int (cn (PN 6 X).2:Nat)) rfl (by decide)
 generalize (ρ19.set 20 (some (.lst (nv (PN 6 X).1)))).set 21 (some (.int (cn (PN 6 X).2:Nat))) = ρ21 at k21 x18
 obtain ⟨l1,l2⟩:=leap_fin hd6 hd8 hm0 hX
 have hroom:∀ x ∈ X ++ List.replicate 6 0,∃ e,e <= 5 /\ x = m * e:=fun x mx=>by
  rcases List.mem_append.mp mx with mx | mx
  ·rw [hX] at mx
   obtain ⟨e,me,rfl⟩:=List.mem_map.mp mx
   exact ⟨e,hd5 e me,rfl⟩
  ·exact ⟨0,Nat.zero_le _,List.eq_of_mem_replicate mx⟩
 have l3:=(leap_scale hm3 hroom).trans l1
 have x19:=s19 (R:=R1 cs) (o:=(PN 6 X).1) ((((k21.nil.add (k21.get 7 rfl)).add (k21.get 1 rfl)).add (k21.get 9 rfl)).add (k21.get 0 rfl)) hx6 l2 (by rw [hx6]; exact l3) hR2
 refine ⟨⟨[],[tb1]⟩,⟨rfl,rfl⟩,Call_ret (ρ2:=ρ21) (reg:=[.list (cs.map .int)]) (R2:=[tb1]) (v:=.imm (.bool true)) (by show 1 < 100; decide) rfl ?_ rfl⟩
 show Mine.X P01 b01_law ⟨some (V.lst (is.map .int)) :: List.replicate 21 none,[tb1,[]]⟩ _ _
 exact X_next x0 (X_next x1 (X_next x2 (X_next x3 (X_next x4 (X_next x5 (X_next x6 (X_next x7 (X_next x8 (X_next x9 (X_next x10 (X_next x11 (X_next x12 (X_next x13 (X_next x14 (X_next x15 (X_next x16 (X_next x17 (X_next x18 (X_one x19)))))))))))))))))))
end
end Mine
end
open PySem PySem.W PyProof.Rows
set_option Elab.async false
set_option autoImplicit true
open Mine


namespace Mine
noncomputable def PN01 : List (List Str) := [["flags"], ["iterator"], ["num"], ["script", "cells"], ["numbers"], ["number"], ["low"], ["boxes", "size", "flag"], ["boxes", "size"], ["boxes"], ["script"]]
theorem PN01_ok : ∀ l ∈ PN01, HPlain l := by
 refine List.forall_mem_cons.mpr ⟨hplain1 fun u_ u_ u_ u_ u_ u_ u_ u_ u_ u_ u_ u_ u_ u_ u_ u_ u_ u_ => rfl, ?_⟩
 refine List.forall_mem_cons.mpr ⟨hplain1 fun u_ u_ u_ u_ u_ u_ u_ u_ u_ u_ u_ u_ u_ u_ u_ u_ u_ u_ => rfl, ?_⟩
 refine List.forall_mem_cons.mpr ⟨hplain1 fun u_ u_ u_ u_ u_ u_ u_ u_ u_ u_ u_ u_ u_ u_ u_ u_ u_ u_ => rfl, ?_⟩
 refine List.forall_mem_cons.mpr ⟨hplain2 fun u_ u_ u_ u_ u_ u_ u_ u_ u_ u_ u_ u_ u_ u_ u_ u_ u_ u_ u_ u_ u_ => rfl, ?_⟩
 refine List.forall_mem_cons.mpr ⟨hplain1 fun u_ u_ u_ u_ u_ u_ u_ u_ u_ u_ u_ u_ u_ u_ u_ u_ u_ u_ => rfl, ?_⟩
 refine List.forall_mem_cons.mpr ⟨hplain1 fun u_ u_ u_ u_ u_ u_ u_ u_ u_ u_ u_ u_ u_ u_ u_ u_ u_ u_ => rfl, ?_⟩
 refine List.forall_mem_cons.mpr ⟨hplain1 fun u_ u_ u_ u_ u_ u_ u_ u_ u_ u_ u_ u_ u_ u_ u_ u_ u_ u_ => rfl, ?_⟩
 refine List.forall_mem_cons.mpr ⟨hplain3 fun u_ u_ u_ u_ u_ u_ u_ u_ u_ u_ u_ u_ u_ u_ u_ u_ u_ u_ u_ u_ u_ u_ u_ u_ => rfl, ?_⟩
 refine List.forall_mem_cons.mpr ⟨hplain2 fun u_ u_ u_ u_ u_ u_ u_ u_ u_ u_ u_ u_ u_ u_ u_ u_ u_ u_ u_ u_ u_ => rfl, ?_⟩
 refine List.forall_mem_cons.mpr ⟨hplain1 fun u_ u_ u_ u_ u_ u_ u_ u_ u_ u_ u_ u_ u_ u_ u_ u_ u_ u_ => rfl, ?_⟩
 refine List.forall_mem_cons.mpr ⟨hplain1 fun u_ u_ u_ u_ u_ u_ u_ u_ u_ u_ u_ u_ u_ u_ u_ u_ u_ u_ => rfl, ?_⟩
 exact fun u_ h => nomatch h
theorem Bt01_ok : ∀ p ∈ Bt01, p.1 ≠ "__name__" /\ bootBuiltins p.1 = some p.2 := by
 refine List.forall_mem_cons.mpr ⟨⟨by decide +kernel, PyProof.Rows.Boot.«len»⟩, ?_⟩
 refine List.forall_mem_cons.mpr ⟨⟨by decide +kernel, PyProof.Rows.Boot.«abs»⟩, ?_⟩
 refine List.forall_mem_cons.mpr ⟨⟨by decide +kernel, PyProof.Rows.Boot.«divmod»⟩, ?_⟩
 refine List.forall_mem_cons.mpr ⟨⟨by decide +kernel, PyProof.Rows.Boot.«hex»⟩, ?_⟩
 refine List.forall_mem_cons.mpr ⟨⟨by decide +kernel, PyProof.Rows.Boot.«iter»⟩, ?_⟩
 refine List.forall_mem_cons.mpr ⟨⟨by decide +kernel, PyProof.Rows.Boot.«next»⟩, ?_⟩
 refine List.forall_mem_cons.mpr ⟨⟨by decide +kernel, PyProof.Rows.Boot.«sum»⟩, ?_⟩
 refine List.forall_mem_cons.mpr ⟨⟨by decide +kernel, PyProof.Rows.Boot.«max»⟩, ?_⟩
 refine List.forall_mem_cons.mpr ⟨⟨by decide +kernel, PyProof.Rows.Boot.«min»⟩, ?_⟩
 refine List.forall_mem_cons.mpr ⟨⟨by decide +kernel, PyProof.Rows.Boot.«str»⟩, ?_⟩
 refine List.forall_mem_cons.mpr ⟨⟨by decide +kernel, PyProof.Rows.Boot.«bytes»⟩, ?_⟩
 refine List.forall_mem_cons.mpr ⟨⟨by decide +kernel, PyProof.Rows.Boot.«list»⟩, ?_⟩
 refine List.forall_mem_cons.mpr ⟨⟨by decide +kernel, PyProof.Rows.Boot.«int»⟩, ?_⟩
 refine List.forall_mem_cons.mpr ⟨⟨by decide +kernel, PyProof.Rows.Boot.«range»⟩, ?_⟩
 refine List.forall_mem_cons.mpr ⟨⟨by decide +kernel, PyProof.Rows.Boot.«enumerate»⟩, ?_⟩
 refine List.forall_mem_cons.mpr ⟨⟨by decide +kernel, PyProof.Rows.Boot.«StopIteration»⟩, ?_⟩
 refine List.forall_mem_cons.mpr ⟨⟨by decide +kernel, PyProof.Rows.Boot.«ValueError»⟩, ?_⟩
 exact fun u_ h => nomatch h
noncomputable def pr01 : Program := PySem.Challenge.rw_wb0042_01.prog
noncomputable def vw01 : Program := { pr01 with main := { pr01.main with body := pr01.main.body.drop 21 } }
noncomputable def lo01 : List Str := (G01.map (·.1)).take 17
noncomputable def dr01 : DefRec := ((recsOf vw01).find? (fun e => e.name == ("law" : Str))).getD ⟨"", ⟨[], [], none, [], [], none, []⟩, [], ⟨.function, [], false, false, []⟩, ⟨0, 0, 0, 0⟩⟩
noncomputable def hk01 : Hook := hookOf (lawChkT2 P01 H01 G01 Bt01 PN01 112 110 117 115)
set_option maxRecDepth 100000 in
set_option maxHeartbeats 8000000 in
theorem said01 : OpenLaw.wellSaid PySem.Challenge.rw_wb0042_01 = true := by decide +kernel
set_option maxRecDepth 100000 in
set_option maxHeartbeats 8000000 in
theorem left01 : LeftO PySem.Challenge.rw_wb0042_01.row.prog vw01 lo01 (fun s => xlAt vw01 [] s && recOk (RowW.records PySem.Challenge.rw_wb0042_01.row.toRowW) s) hk01.obs hk01.val 1500 :=
 LeftO.of_split "special-get-raises" (fun w => by kernel_rfl)
end Mine
set_option maxRecDepth 100000 in
set_option maxHeartbeats 8000000 in
theorem PySem.Challenge.cw_wb0042_01_holds : PySem.Challenge.rw_wb0042_01.Holds := by
 refine holds_law said01 fun said => ?_
 refine holds_open (q := vw01) (loose := lo01) (d := dr01) (kwd := []) (XP := XL vw01 []) (YP := hk01.says) left01 hk01.of hk01.keeps (fun s e => xl_of s (Bool.and_eq_true_iff.mp e).1) XL.keeps (by kernel_rfl) (by kernel_rfl) (by kernel_rfl) (fun s e => recFacts_of (Bool.and_eq_true_iff.mp e).2) rfl said (by decide +kernel) ⟨rfl, rfl, rfl, rfl, rfl, by decide +kernel⟩ ?hw ?hc
 case hw => w_witness2
 intro w s₀ s₁ mg mb G Y fa o pm cd doc dV kV ho hd hcd hD hmg hg args vals as hpre hlay hrd hwl hlo
 obtain ⟨h0, e, k⟩ := Y
 obtain ⟨e, et⟩ := and_t e
 obtain ⟨e, en⟩ := and_t e
 obtain ⟨et, eu⟩ := and_t et
 have tb := tabs_of2 et eu k
 have k := ghost_le2 (tabs := [(112, 110), (117, 115)]) k
 have T := ghost_top tb G.T
 have e' := Bool.and_eq_true_iff.mp (Bool.and_eq_true_iff.mp e).1
 have hl := (gl_mg k e'.1 T.g).1 ("law", f01_law.addr) (List.mem_iff_getElem.mpr ⟨17, by decide, rfl⟩)
 rw [show dr01.name = ("law" : Str) by kernel_rfl, hl] at hmg
 cases hmg
 have wl := Wl_of (P := P01) (B := ⟨PySem.Challenge.rw_wb0042_01.row.prog, w, P01, [], ghostOf s₁.heap [(112, 110), (117, 115)], mg, mb, T.g, T.b, T.nolimit⟩) rfl k e T.builtins (let ⟨bm, ob, a, b, c, d, e, f⟩ := T.bmain; ⟨bm, ob, a, c, b, d, e, f⟩) Bt01_ok PN01_ok (fpv := f01__parse_varint) (List.mem_iff_getElem.mpr ⟨5, by decide, rfl⟩) rfl fun u_ => rfl
 obtain ⟨o', fd, body, params, fo⟩ := wl.pg f01_law (List.mem_iff_getElem.mpr ⟨16, by decide, rfl⟩)
 exact law_endT2 rfl rfl rfl (fun b o e => of_hideAll _ e) (fun b o h h2 e => hideAll_get _ e fun m => (List.mem_cons.mp m).elim h fun m => h2 (List.mem_singleton.mp m)) (by decide) (hideAll_none _ (.head _)) (hideAll_none _ (.tail _ (.head _))) (tb _ (.head _)).2 (tb _ (.tail _ (.head _))).2 (tb _ (.head _)).1 (tb _ (.tail _ (.head _))).1 rfl wl fo run01 hpre hwl hg

