import PyProof.Rows.All
import Wide.All
import OpenK.AllK
import Wide.FinOn
import KE.KLam
import KE.KBoundM
import Flt.RightSqrt
import Lean
import PySem.Challenge.RW_rs0107_01
set_option Elab.async false
set_option genSizeOf false
set_option genInjectivity false
set_option genCtorIdx false
set_option linter.unusedVariables false
set_option linter.unusedSimpArgs false
namespace Mine
section
open PySem PyProof.Rows
theorem via {P:Prop} (k:∀ R:Prop,(P->R)->R):P:=k P id
theorem szl {n:Nat} (h:Nat.ble n 1000000=true):n<=sizeLine:=by rw [sizeLine_eq];exact Nat.le_trans (Nat.le_of_ble_eq_true h) (by simp)
theorem lt0 {P:Nat->Prop} (j:Nat) (h:j<0):P j:=absurd h (Nat.not_lt_zero j)
theorem ltS {P:Nat->Prop} {n:Nat} (h0:P 0) (h:∀ j,j<n->P (j+1)) (j:Nat) (hj:j<n+1):P j:=by
 cases j with
 | zero=>exact h0
 | succ j=>exact h j (Nat.lt_of_succ_lt_succ hj)
theorem at3 {P:Nat->Prop} (h0:P 0) (h1:P 1) (h2:P 2):∀ j,j<3->P j:=ltS h0 (ltS (P:=fun j=>P (j+1)) h1 (ltS (P:=fun j=>P (j+1+1)) h2 lt0))
theorem at4 {P:Nat->Prop} (h0:P 0) (h1:P 1) (h2:P 2) (h3:P 3):∀ j,j<4->P j:=ltS h0 (at3 (P:=fun j=>P (j+1)) h1 h2 h3)
theorem at5 {P:Nat->Prop} (h0:P 0) (h1:P 1) (h2:P 2) (h3:P 3) (h4:P 4):∀ j,j<5->P j:=ltS h0 (at4 (P:=fun j=>P (j+1)) h1 h2 h3 h4)
theorem at6 {P:Nat->Prop} (h0:P 0) (h1:P 1) (h2:P 2) (h3:P 3) (h4:P 4) (h5:P 5):∀ j,j<6->P j:=ltS h0 (at5 (P:=fun j=>P (j+1)) h1 h2 h3 h4 h5)
theorem at7 {P:Nat->Prop} (h0:P 0) (h1:P 1) (h2:P 2) (h3:P 3) (h4:P 4) (h5:P 5) (h6:P 6):∀ j,j<7->P j:=ltS h0 (at6 (P:=fun j=>P (j+1)) h1 h2 h3 h4 h5 h6)
theorem Cr {P:Nat->Prop} (h0:P 0) (h1:P 1) (h2:P 2) (h3:P 3) (h4:P 4) (h5:P 5) (h6:P 6) (h7:P 7) (h8:P 8) (h9:P 9):∀ j,j<10->P j:=ltS h0 (ltS (P:=fun j=>P (j+1)) h1 (ltS (P:=fun j=>P (j+1+1)) h2 (at7 (P:=fun j=>P (j+1+1+1)) h3 h4 h5 h6 h7 h8 h9)))
theorem eo {n j:Nat} (h:j<n):n - j=n - (j+1)+1:=(Nat.succ_pred_eq_of_pos (Nat.sub_pos_of_lt h)).symm
theorem qY {α:Type} {n:Nat} {l:List α} (h:l.length=n+1):∃ a r,l=a::r/\r.length=n:=by
 cases l with
 | nil=>cases h
 | cons a r=>exact ⟨a,r,rfl,Nat.succ.inj h⟩
theorem CG {α:Type} {l:List α} (h:l.length=2):∃ a b,l=[a,b]:=by
 obtain ⟨a,r,rfl,h1⟩:=qY h
 obtain ⟨b,r,rfl,h2⟩:=qY h1
 rw [List.eq_nil_of_length_eq_zero h2]
 exact ⟨a,b,rfl⟩
theorem CW {α:Type} {l:List α} (h:l.length=3):∃ a b c,l=[a,b,c]:=by
 obtain ⟨a,r,rfl,h1⟩:=qY h
 obtain ⟨b,c,rfl⟩:=CG h1
 exact ⟨a,b,c,rfl⟩
noncomputable abbrev Nm:=List Nat
noncomputable def eqn:Nm->Nm->Bool
 | [],[]=>true
 | a::l,b::m=>Nat.beq a b&&eqn l m
 | _,_=>false
theorem eqn_iff {x:Nm}:∀ {y:Nm},eqn x y=true↔x=y:=by
 induction x with
 | nil =>
   intro y
   cases y with
   | nil=>exact ⟨fun _=>rfl,fun _=>rfl⟩
   | cons b m=>exact ⟨fun h=>(nomatch h),fun h=>(nomatch h)⟩
 | cons a l ih =>
   intro y
   cases y with
   | nil=>exact ⟨fun h=>(nomatch h),fun h=>(nomatch h)⟩
   | cons b m =>
     refine ⟨fun h=>?_,fun h=>?_⟩
     ·obtain ⟨h1,h2⟩:=Bool.and_eq_true_iff.mp h
      rw [Nat.eq_of_beq_eq_true h1,ih.mp h2]
     ·obtain ⟨h1,h2⟩:=List.cons.inj h
      exact Bool.and_eq_true_iff.mpr ⟨by rw [h1];exact Nat.beq_refl _,ih.mpr h2⟩
theorem iQ (x:Nm):eqn x x=true:=eqn_iff.mpr rfl
theorem hJ {x y:Nm} (h:x≠y):eqn x y=false:=by
 cases e:eqn x y with
 | false=>rfl
 | true=>exact absurd (eqn_iff.mp e) h
noncomputable abbrev ao (x:List Nat):Str:=⟨x.toArray⟩
noncomputable def nm (x:Str):Nm:=x.cps.toList
theorem aK (x:Str):ao (nm x)=x:=by cases x;simp [ao,nm]
theorem fz (x:Nm):nm (ao x)=x:=by dsimp [ao,nm]
theorem oj {x y:Nm} (h:ao x=ao y):x=y:=by rw [<-fz x,h,fz]
theorem gq {x y:Str} (h:nm x=nm y):x=y:=by exact str_of_list h
set_option genCtorIdx true in
inductive Bf where
 | sum | len | max | min | range | int | chr | ord | hex | list | iter | next | sorted
noncomputable def Bf.val:Bf->Value
 | .sum=>.builtin "sum" | .len=>.builtin "len" | .max=>.builtin "max" | .min=>.builtin "min"
 | .range=>.type "range" | .int=>.type "int" | .chr=>.builtin "chr" | .ord=>.builtin "ord" | .hex=>.builtin "hex"
 | .list=>.type "list" | .iter=>.builtin "iter" | .next=>.builtin "next" | .sorted=>.builtin "sorted"
inductive V where
 | none | bool (b:Bool) | int (i:Int) | flt (x:UInt64) | str (s:List Nat)
 | tup (vs:List V) | list (vs:List V) | dict (ks:List Int) (vs:List V)
 | rng (lo hi:Int) | loc (l:Nat) | fn (k:Nat) | bf (b:Bf)
noncomputable def V.ctorIdx (e:V):Nat:=V.casesOn (motive_1:=fun _=>Nat) e 0 (fun _=>1) (fun _=>2) (fun _=>3) (fun _=>4) (fun _=>5) (fun _=>6) (fun _ _=>7) (fun _ _=>8) (fun _=>9) (fun _=>10) (fun _=>11)
inductive O where
 | list (vs:List V)
 | liter (vs:List V)
 | lexer (lf:Nat) (line:Int) (pb:Nat)
 | citer (lx:Nat) (live:Bool)
structure Sto where
 next:Nat
 get:Nat->Option O
noncomputable def Sto.set (σ:Sto) (l:Nat) (o:O):Sto:=⟨σ.next,fun k=>if k=l then some o else σ.get k⟩
noncomputable def Sto.del (σ:Sto) (l:Nat):Sto:=⟨σ.next,fun k=>if k=l then none else σ.get k⟩
noncomputable def Sto.new (σ:Sto) (o:O):Sto:=⟨σ.next+1,fun k=>if k=σ.next then some o else σ.get k⟩
noncomputable abbrev Loc:=List (Nm × V)
noncomputable def get:Loc->Nm->Option V
 | [],_=>none
 | (y,u)::r,x=>bif eqn y x then some u else get r x
noncomputable def put:Loc->Nm->V->Loc
 | [],x,v=>[(x,v)]
 | (y,u)::r,x,v=>bif eqn y x then (y,v)::r else (y,u)::put r x v
noncomputable def del:Loc->Nm->Loc
 | [],_=>[]
 | (y,u)::r,x=>bif eqn y x then del r x else (y,u)::del r x
theorem hC (x y:Nm) (u:V) (r:Loc):get ((x,u)::r) y=if y=x then some u else get r y:=by
 by_cases h:y=x
 ·subst h
  rw [if_pos rfl]
  exact congrArg (fun b=>bif b then some u else get r y) (iQ y)
 ·rw [if_neg h]
  exact congrArg (fun b=>bif b then some u else get r y) (hJ (Ne.symm h))
theorem bN (ρ:Loc) (x:Nm) (v:V) (y:Nm):get (put ρ x v) y=if y=x then some v else get ρ y:=by
 induction ρ with
 | nil=>exact hC x y v []
 | cons p r ih =>
   obtain ⟨z,u⟩:=p
   have e:put ((z,u)::r) x v=bif eqn z x then (z,v)::r else (z,u)::put r x v:=rfl
   rw [e,hC z y u r]
   by_cases hx:z=x
   ·subst hx
    rw [iQ,cond_true,hC]
    by_cases h:y=z
    ·rw [if_pos h,if_pos h]
    ·rw [if_neg h,if_neg h,if_neg h]
   ·rw [hJ hx,cond_false,hC,ih]
    by_cases h:y=z
    ·rw [if_pos h,if_pos h,if_neg (fun q=>hx (h.symm.trans q))]
    ·rw [if_neg h,if_neg h]
theorem uw (ρ:Loc) (x y:Nm):get (del ρ x) y=if y=x then none else get ρ y:=by
 induction ρ with
 | nil=>exact (ite_self _).symm
 | cons p r ih =>
   obtain ⟨z,u⟩:=p
   have e:del ((z,u)::r) x=bif eqn z x then del r x else (z,u)::del r x:=rfl
   rw [e,hC z y u r]
   by_cases hx:z=x
   ·subst hx
    rw [iQ,cond_true,ih]
    by_cases h:y=z
    ·rw [if_pos h,if_pos h]
    ·rw [if_neg h,if_neg h,if_neg h]
   ·rw [hJ hx,cond_false,hC,ih]
    by_cases h:y=z
    ·rw [if_pos h,if_pos h,if_neg (fun q=>hx (h.symm.trans q))]
    ·rw [if_neg h,if_neg h]
inductive Ex where
 | cNone | cBool (b:Bool) | cInt (i:Int) | cFlt (x:UInt64) | cStr (s:List Nat)
 | var (x:Nm) | glob (x:Nm)
 | bin (op:Operator) (a b:Ex)
 | neg (a:Ex) | not (a:Ex)
 | boolop (op:BoolOp) (l:List Ex)
 | cmp (a:Ex) (ops:List CmpOp) (l:List Ex)
 | ite (t a b:Ex)
 | list (l:List Ex) | tup (l:List Ex)
 | sub (a i:Ex)
 | slice (a:Ex) (l:List (Option Ex))
 | call (f:Ex) (l:List Ex)
 | meth (o:Ex) (m:Nm) (l:List Ex)
 | attr (o:Ex) (m:Nm)
 | comp (elt:Ex) (ts:List (List Nm)) (its:List Ex) (ifs:List (List Ex)) (own:List Nm)
 | dcomp (k v:Ex) (t:Nm) (it:Ex)
 | lam (x:Nm) (a:Ex)
 | lam0 (a:Ex)
noncomputable def Ex.ctorIdx (e:Ex):Nat:=Ex.casesOn (motive_1:=fun _=>Nat) e 0 (fun _=>1) (fun _=>2) (fun _=>3) (fun _=>4) (fun _=>5) (fun _=>6) (fun _ _ _=>7) (fun _=>8) (fun _=>9) (fun _ _=>10) (fun _ _ _=>11) (fun _ _ _=>12) (fun _=>13) (fun _=>14) (fun _ _=>15) (fun _ _=>16) (fun _ _=>17) (fun _ _ _=>18) (fun _ _=>19) (fun _ _ _ _ _=>20) (fun _ _ _ _=>21) (fun _ _=>22) (fun _=>23)
inductive St where
 | assign (xs:List Nm) (tup:Bool) (e:Ex)
 | setattr (o:Ex) (m:Nm) (e:Ex)
 | aug (x:Nm) (op:Operator) (e:Ex)
 | augattr (o:Ex) (m:Nm) (op:Operator) (e:Ex)
 | ifs (t:Ex) (a b:List St)
 | for_ (xs:List Nm) (it:Ex) (a b:List St)
 | while_ (t:Ex) (a:List St)
 | ret (e:Ex) | brk | cont | expr (e:Ex)
inductive Fl where
 | next | brk | cont | ret (v:V)
noncomputable def Fl.ctorIdx (e:Fl):Nat:=Fl.casesOn (motive:=fun _=>Nat) e 0 1 2 (fun _=>3)
end
section
open PySem PyProof.Rows
noncomputable def mapO {α β:Type} (f:α->Option β):List α->Option (List β)
 | []=>some []
 | a::l=>(f a).bind fun b=>(mapO f l).bind fun m=>some (b::m)
theorem bF {α:Type} {a:α} {P:Prop} (h:none=some a):P:=nomatch h
noncomputable def qx (e:Expr):Option (Str × Pos):=if h:e.ctorIdx=23 then PySem.Expr.Name.elim (motive_1:=fun _=>Option (Str × Pos)) e h fun x p=>some (x,p) else none
noncomputable def CD (e:Expr):Option (List Expr × Nat × Pos):=if h:e.ctorIdx=25 then PySem.Expr.Tuple.elim (motive_1:=fun _=>Option (List Expr × Nat × Pos)) e h fun l k p=>some (l,k,p) else none
noncomputable def lQ (e:Expr):Option (Expr × Str × Pos):=if h:e.ctorIdx=20 then PySem.Expr.Attribute.elim (motive_1:=fun _=>Option (Expr × Str × Pos)) e h fun o m p=>some (o,m,p) else none
noncomputable def qs (e:Expr):Option (Option Expr × Option Expr × Option Expr × Pos):=if h:e.ctorIdx=26 then PySem.Expr.Slice.elim (motive_1:=fun _=>Option (Option Expr × Option Expr × Option Expr × Pos)) e h fun a b c p=>some (a,b,c,p) else none
theorem oy {e:Expr} {x:Str} {p:Pos} (h:qx e=some (x,p)):e=.Name x p:=by
 by_cases hi:e.ctorIdx=23
 ·have h:=(dif_pos hi).symm.trans h
  revert h
  exact PySem.Expr.Name.elim (motive_1:=fun e=>∀ hi,PySem.Expr.Name.elim (motive_1:=fun _=>Option (Str × Pos)) e hi (fun x p=>some (x,p))=some (x,p)->e=.Name x p) e hi (fun _ _ _ h=>congrArg (fun q:Str × Pos=>Expr.Name q.1 q.2) (Option.some.inj h)) hi
 ·exact bF ((dif_neg hi).symm.trans h)
theorem xf {e:Expr} {l:List Expr} {k:Nat} {p:Pos} (h:CD e=some (l,k,p)):e=.Tuple l k p:=by
 by_cases hi:e.ctorIdx=25
 ·have h:=(dif_pos hi).symm.trans h
  revert h
  exact PySem.Expr.Tuple.elim (motive_1:=fun e=>∀ hi,PySem.Expr.Tuple.elim (motive_1:=fun _=>Option (List Expr × Nat × Pos)) e hi (fun l k p=>some (l,k,p))=some (l,k,p)->e=.Tuple l k p) e hi (fun _ _ _ _ h=>congrArg (fun q:List Expr × Nat × Pos=>Expr.Tuple q.1 q.2.1 q.2.2) (Option.some.inj h)) hi
 ·exact bF ((dif_neg hi).symm.trans h)
theorem kZ {e o:Expr} {m:Str} {p:Pos} (h:lQ e=some (o,m,p)):e=.Attribute o m p:=by
 by_cases hi:e.ctorIdx=20
 ·have h:=(dif_pos hi).symm.trans h
  revert h
  exact PySem.Expr.Attribute.elim (motive_1:=fun e=>∀ hi,PySem.Expr.Attribute.elim (motive_1:=fun _=>Option (Expr × Str × Pos)) e hi (fun o m p=>some (o,m,p))=some (o,m,p)->e=.Attribute o m p) e hi (fun _ _ _ _ h=>congrArg (fun q:Expr × Str × Pos=>Expr.Attribute q.1 q.2.1 q.2.2) (Option.some.inj h)) hi
 ·exact bF ((dif_neg hi).symm.trans h)
theorem sD {e:Expr} {a b c:Option Expr} {p:Pos} (h:qs e=some (a,b,c,p)):e=.Slice a b c p:=by
 by_cases hi:e.ctorIdx=26
 ·have h:=(dif_pos hi).symm.trans h
  revert h
  exact PySem.Expr.Slice.elim (motive_1:=fun e=>∀ hi,PySem.Expr.Slice.elim (motive_1:=fun _=>Option (Option Expr × Option Expr × Option Expr × Pos)) e hi (fun a b c p=>some (a,b,c,p))=some (a,b,c,p)->e=.Slice a b c p) e hi (fun _ _ _ _ _ h=>congrArg (fun q:Option Expr × Option Expr × Option Expr × Pos=>Expr.Slice q.1 q.2.1 q.2.2.1 q.2.2.2) (Option.some.inj h)) hi
 ·exact bF ((dif_neg hi).symm.trans h)
noncomputable def zv:Const->Option Ex
 | .none=>some .cNone
 | .bool b=>some (.cBool b)
 | .int i=>some (.cInt i)
 | .float x=>some (.cFlt x)
 | .str s=>some (.cStr (nm s))
 | _=>none
noncomputable def kindIn (sc:Scope) (x:Str):Option NameKind:=sc.names.lookup x
noncomputable def qV:Option NameKind->Bool
 | some .local | some .cell | some .free=>true
 | _=>false
noncomputable def iG:Option NameKind->Bool
 | some .local | some .cell=>true
 | _=>false
noncomputable def dg (x:Str):Bool:=x==("__debug__" : Str)||x==("__classdict__" : Str)
noncomputable def nD (sc:Scope) (x:Str):Option Ex :=
 if dg x then none else
 if qV (kindIn sc x) then some (.var (nm x)) else
 if kindIn sc x=some .globalImplicit then some (.glob (nm x)) else none
noncomputable def fK (sc:Scope) (e:Expr):Option Nm:=(qx e).bind fun q=>if dg q.1 then none else if iG (kindIn sc q.1) then some (nm q.1) else none
noncomputable def wH (sc:Scope) (e:Expr):Option (Str × Pos)->Option (List Nm)
 | some _=>(fK sc e).map fun y=>[y]
 | none=>(CD e).bind fun q=>(mapO (fK sc) q.1).bind fun ys=>if 2<=ys.length then some ys else none
noncomputable def cn (sc:Scope) (e:Expr):Option (List Nm):=wH sc e (qx e)
noncomputable def eQ (e:Expr):Bool:=if h:e.ctorIdx=16 then PySem.Expr.Call.elim (motive_1:=fun _=>Bool) e h fun f as ks _=>(qx f).isSome&&as.isEmpty&&ks.isEmpty else false
noncomputable def f5 (sc sc':Scope):Bool :=
 sc'.kind==.function&&!sc'.isGenerator&&!sc'.isCoroutine&&decide ((sc'.names.map (·.1)).Nodup) &&
 sc'.names.all (fun p=>p.2 != .free||((kindIn sc p.1==some .cell||kindIn sc p.1==some .free)&&!dg p.1))
noncomputable def ig (sc:Scope):List Nm:=sc.names.filterMap fun p=>if iG (some p.2) then some (nm p.1) else none
noncomputable def gI (e:Expr):Bool:=e.ctorIdx != 7
noncomputable def sX (er:Expr->Option Ex):Option Expr->Option (Option Ex)
 | none=>some none
 | some e=>(er e).bind fun x=>some (some x)
set_option linter.unusedVariables false
noncomputable def Ew (er:Expr->Option Ex) (x:Expr):UnaryOp->Option Ex
 | .USub=>(er x).bind fun a=>some (.neg a)
 | .Not=>(er x).bind fun a=>some (.not a)
 | _=>none
noncomputable def xV (er:Expr->Option Ex) (v i:Expr):Option (Option Expr × Option Expr × Option Expr × Pos)->Option Ex
 | some q=>(er v).bind fun a=>(mapO (sX er) [q.1,q.2.1,q.2.2.1]).bind fun l=>some (.slice a l)
 | none=>(er v).bind fun a=>(er i).bind fun b=>some (.sub a b)
noncomputable def sW (er:Expr->Option Ex) (as:List Expr) (p:Pos) (f:Expr):Option (Expr × Str × Pos)->Option Ex
 | some q=>if eQ q.1||!(q.2.2.endLine==p.line&&decide (as.length<29)) then none else (er q.1).bind fun a=>(mapO er as).bind fun l=>some (.meth a (nm q.2.1) l)
 | none=>(er f).bind fun a=>(mapO er as).bind fun l=>some (.call a l)
noncomputable def BQ (er er':Expr->Option Ex) (sc sc':Scope) (elt:Expr):List Comprehension->Option Ex
 | []=>none
 | g::gs=>(er g.iter).bind fun it=>(mapO (fun g:Comprehension=>er' g.iter) gs).bind fun its =>
   (mapO (fun g:Comprehension=>cn sc' g.target) (g::gs)).bind fun ts =>
   (mapO (fun g:Comprehension=>mapO er' g.ifs) (g::gs)).bind fun ifs =>
   (er' elt).bind fun a=>some (.comp a ts (it::its) ifs (ig sc'))
noncomputable def BU (er er':Expr->Option Ex) (sc sc':Scope) (k v:Expr):List Comprehension->Option Ex
 | [g]=>if g.ifs.isEmpty&&g.is_async==0&&gI g.iter then (fK sc' g.target).bind fun y=>(er g.iter).bind fun it=>(er' k).bind fun k=>(er' v).bind fun v=>some (.dcomp k v y it) else none
 | _=>none
noncomputable def aE:Nat->Scope->Expr->Option Ex
 | 0,_,_=>none
 | n+1,sc,e=>match e with
   | .Constant c _ _=>zv c
   | .Name x _=>nD sc x
   | .BinOp l op r _=>(aE n sc l).bind fun a=>(aE n sc r).bind fun b=>some (.bin op a b)
   | .UnaryOp op x _=>Ew (aE n sc) x op
   | .BoolOp op vs _=>(mapO (aE n sc) vs).bind fun l=>some (.boolop op l)
   | .Compare l ops cs _=>(aE n sc l).bind fun a=>(mapO (aE n sc) cs).bind fun m=>some (.cmp a ops m)
   | .IfExp t a b _=>(aE n sc t).bind fun t'=>(aE n sc a).bind fun a'=>(aE n sc b).bind fun b'=>some (.ite t' a' b')
   | .List es _=>(mapO (aE n sc) es).bind fun l=>some (.list l)
   | .Tuple es _ _=>(mapO (aE n sc) es).bind fun l=>some (.tup l)
   | .Subscript v i _=>xV (aE n sc) v i (qs i)
   | .Call f as ks p=>if ks.isEmpty then sW (aE n sc) as p f (lQ f) else none
   | .Attribute o m _=>if eQ o then none else (aE n sc o).bind fun a=>some (.attr a (nm m))
   | .ListComp elt gens sc' _=>if f5 sc sc'&&gens.all (fun g=>g.is_async==0&&gI g.iter) then BQ (aE n sc) (aE n sc') sc sc' elt gens else none
   | .DictComp k v gens sc' _=>if f5 sc sc' then BU (aE n sc) (aE n sc') sc sc' k v gens else none
   | _=>none
noncomputable def xc (sc:Scope) (n:Nat) (e:Expr):Option (Expr × Str × Pos)->Option (Ex->St)
 | some q=>if eQ q.1 then none else (aE n sc q.1).map fun a e=>.setattr a (nm q.2.1) e
 | none=>(cn sc e).map fun xs e=>.assign xs (decide (xs.length≠1)) e
noncomputable def q9 (sc:Scope) (n:Nat) (e:Expr):Option (Ex->St):=xc sc n e (lQ e)
noncomputable def Ec:Option (List Expr × Nat × Pos)->Bool
 | some q=>q.1.all (constantsAlone 8)
 | none=>false
noncomputable def jW (e:Expr):Bool:=Ec (CD e)
noncomputable def C4 (er:Expr->Option Ex) (sc:Scope) (op:Operator) (v e:Expr):Option (Expr × Str × Pos)->Option St
 | some q=>(er q.1).bind fun a=>(er v).bind fun e=>some (.augattr a (nm q.2.1) op e)
 | none=>(fK sc e).bind fun y=>(er v).bind fun e=>some (.aug y op e)
noncomputable def BD (er:Expr->Option Ex) (sc:Scope) (op:Operator) (v e:Expr):Option St:=C4 er sc op v e (lQ e)
noncomputable def lj (e:Ex):Bool:=e.ctorIdx==20||e.ctorIdx==21
noncomputable def noComp (e:Expr):Bool:=(PySem.swapsWith.match_1 (fun _=>Option Scope) e (fun _ _ s _=>some s) (fun _ _ s _=>some s) (fun _ _ _ s _=>some s) fun _=>none).isNone
noncomputable def DB (sc:Scope) (n:Nat) (v:Expr):List Expr->Option St
 | [t]=>if jW v then none else (q9 sc n t).bind fun k=>(aE n sc v).bind fun e=>if lj e||noComp v then some (k e) else none
 | _=>none
noncomputable def cm:Nat->Scope->Stmt->Option St
 | 0,_,_=>none
 | n+1,sc,s=>match s with
   | .Assign ts v _=>DB sc n v ts
   | .AugAssign t op v _=>BD (aE n sc) sc op v t
   | .If t a b _=>(aE n sc t).bind fun t=>(mapO (cm n sc) a).bind fun a=>(mapO (cm n sc) b).bind fun b=>some (.ifs t a b)
   | .For t it a b _=>if gI it then (cn sc t).bind fun xs=>(aE n sc it).bind fun it=>(mapO (cm n sc) a).bind fun a=>(mapO (cm n sc) b).bind fun b=>some (.for_ xs it a b) else none
   | .While t a b _=>if b.isEmpty then (aE n sc t).bind fun t=>(mapO (cm n sc) a).bind fun a=>some (.while_ t a) else none
   | .Return o _=>o.bind fun e=>(aE n sc e).bind fun e=>some (.ret e)
   | .Break _=>some .brk
   | .Continue _=>some .cont
   | .Expr e _=>if noComp e then (aE n sc e).bind fun e=>some (.expr e) else none
   | _=>none
end
section
open PySem PyProof.Rows
structure Cx where
 prog:Program
 w:World
 mg:Str->Option Value
 mb:Str->Option Value
 base:Heap
 os:OsState
 gens:Array GenState
 tab:Addr
 cod:Addr
 glob:Nm->Option V
 K:PySem.W.Frag
 cls:Addr
 rc:Addr
 lamP:Arguments
 lamB:Expr
 lamS:Scope
 lamN:Str
 lamQ:Str
structure Wld where
 φ:Nat->Addr
 ψ:Nat->Addr
 χ:Nat->Addr
 Z:Addr->Prop
noncomputable abbrev dD (items:Array Value) (k:Nat):Obj:={ cls:=.type "list",data:=.seq items k }
noncomputable abbrev yF (items:Array Value) (k:Nat):Obj:={ cls:=.type "tuple",data:=.seq items k }
noncomputable def vA (ks:List Int) (as:List Value) (k:Int):Option Value:=(ks.zip as).lookup k
mutual
noncomputable def VRel (C:Cx) (X:Wld) (n:Nat) (h:Heap):V->Value->Prop
 | .none,a=>a=.none
 | .bool b,a=>a=.bool b
 | .int i,a=>∃ t,a=.int i t
 | .flt x,a=>∃ t,a=.float x t
 | .str s,a=>∃ t,a=.str (ao s) t
 | .tup vs,a=>∃ p items k,a=.ref p/\X.Z p/\h.get? p=some (yF items k)/\VsRel C X n h vs items.toList
 | .list vs,a=>∃ p items k,a=.ref p/\X.Z p/\h.get? p=some (dD items k)/\VsRel C X n h vs items.toList
 | .dict ks vs,a=>∃ p as,a=.ref p/\X.Z p/\p≠sysModules/\h.MapOf (intKind C.prog C.w) p (vA ks as)/\VsRel C X n h vs as
 | .rng lo hi,a=>∃ p t u v,a=.ref p/\X.Z p/\IsRange h p lo hi 1 t u v
 | .loc l,a=>l<n/\a=.ref (X.φ l)
 | .fn k,a=>a=.ref k
 | .bf b,a=>a=b.val
noncomputable def VsRel (C:Cx) (X:Wld) (n:Nat) (h:Heap):List V->List Value->Prop
 | [],as=>as=[]
 | v::vs,as=>∃ a r,as=a::r/\VRel C X n h v a/\VsRel C X n h vs r
end
theorem VsRel.mono {C:Cx} {X X':Wld} {n n':Nat} {h h':Heap} (hk:∀ b o,X.Z b->h.get? b=some o->h'.get? b=some o) (hz:∀ b,X.Z b->X'.Z b) (hn:n<=n') (hf:∀ l,l<n->X'.φ l=X.φ l) {vs:List V}:∀ {as:List Value},VsRel C X n h vs as->VsRel C X' n' h' vs as:=fun {as} =>
 V.rec_1 (motive_1:=fun v=>∀ a,VRel C X n h v a->VRel C X' n' h' v a) (motive_2:=fun vs=>∀ as,VsRel C X n h vs as->VsRel C X' n' h' vs as)
  (fun _ r=>r) (fun _ _ r=>r) (fun _ _ r=>r) (fun _ _ r=>r) (fun _ _ r=>r)
  (fun _ ih _ r=>r.imp fun _ r=>r.imp fun _ r=>r.imp fun _ r=>⟨r.1,hz _ r.2.1,hk _ _ r.2.1 r.2.2.1,ih _ r.2.2.2⟩)
  (fun _ ih _ r=>r.imp fun _ r=>r.imp fun _ r=>r.imp fun _ r=>⟨r.1,hz _ r.2.1,hk _ _ r.2.1 r.2.2.1,ih _ r.2.2.2⟩)
  (fun _ _ ih _ r=>r.imp fun _ r=>r.imp fun _ r=>⟨r.1,hz _ r.2.1,r.2.2.1,r.2.2.2.1.imp fun _ g=>g.imp fun _ g=>g.imp fun _ g=>⟨hk _ _ r.2.1 g.1,g.2⟩,ih _ r.2.2.2.2⟩)
  (fun _ _ _ r=>r.imp fun _ r=>r.imp fun _ r=>r.imp fun _ r=>r.imp fun _ r=>⟨r.1,hz _ r.2.1,hk _ _ r.2.1 r.2.2⟩)
  (fun _ _ r=>⟨Nat.lt_of_lt_of_le r.1 hn,r.2.trans (congrArg Value.ref (hf _ r.1).symm)⟩)
  (fun _ _ r=>r) (fun _ _ r=>r) (fun _ r=>r)
  (fun _ _ i1 i2 _ r=>r.imp fun _ r=>r.imp fun _ r=>⟨r.1,i1 _ r.2.1,i2 _ r.2.2⟩) vs as
theorem VRel.mono {C:Cx} {X X':Wld} {n n':Nat} {h h':Heap} (hk:∀ b o,X.Z b->h.get? b=some o->h'.get? b=some o) (hz:∀ b,X.Z b->X'.Z b) (hn:n<=n') (hf:∀ l,l<n->X'.φ l=X.φ l) {v:V} {a:Value} (r:VRel C X n h v a):VRel C X' n' h' v a:=by
 have q:VsRel C X n h [v] [a]:=⟨a,[],rfl,r,rfl⟩
 obtain ⟨_,_,e,r,_⟩:=VsRel.mono hk hz hn hf q
 obtain ⟨rfl,_⟩:=List.cons.inj e
 exact r
theorem VsRel.nil {C X n h}:VsRel C X n h [] []:=by rfl
theorem VsRel.cons {C X n h v vs a as} (r1:VRel C X n h v a) (r2:VsRel C X n h vs as):VsRel C X n h (v::vs) (a::as):=by
 exact ⟨a,as,rfl,r1,r2⟩
theorem VsRel.inv_cons {C X n h v vs as} (r:VsRel C X n h (v::vs) as):∃ a q,as=a::q/\VRel C X n h v a/\VsRel C X n h vs q:=by
 exact r
theorem VsRel.inv_nil {C X n h as} (r:VsRel C X n h [] as):as=[]:=r
theorem VsRel.length {C X n h} {vs:List V}:∀ {as:List Value},VsRel C X n h vs as->as.length=vs.length:=by
 induction vs with
 | nil=>intro as r;rw [r.inv_nil];rfl
 | cons v vs ih=>intro as r;obtain ⟨a,q,rfl,_,r2⟩:=r;exact congrArg (·+1) (ih r2)
theorem VsRel.app {C X n h} {vs us:List V} {as bs:List Value} (r:VsRel C X n h vs as) (r':VsRel C X n h us bs):VsRel C X n h (vs++us) (as++bs):=by
 induction vs generalizing as with
 | nil=>rw [r.inv_nil];exact r'
 | cons v vs ih=>obtain ⟨a,q,rfl,r1,r2⟩:=r;exact .cons r1 (ih r2)
theorem VsRel.get {C X n h} {vs:List V}:∀ {as:List Value} (i:Nat) {v:V},VsRel C X n h vs as->vs[i]?=some v->∃ a,as[i]?=some a/\VRel C X n h v a:=by
 induction vs with
 | nil=>intro _ _ _ _ e;exact bF e
 | cons u us ih =>
   intro as i v r e
   obtain ⟨a,q,rfl,r1,r2⟩:=r
   cases i with
   | zero=>exact ⟨a,rfl,Option.some.inj e▸r1⟩
   | succ j=>exact ih j r2 e
theorem VsRel.getA {C X n h} {vs:List V}:∀ {as:List Value} (i:Nat) {a:Value},VsRel C X n h vs as->as[i]?=some a->∃ v,vs[i]?=some v/\VRel C X n h v a:=by
 induction vs with
 | nil=>intro as i a r e;rw [r.inv_nil] at e;exact bF e
 | cons u us ih =>
   intro as i a r e
   obtain ⟨a',q,rfl,r1,r2⟩:=r
   cases i with
   | zero=>exact ⟨u,rfl,Option.some.inj e▸r1⟩
   | succ j=>exact ih j r2 e
noncomputable def foot (X:Wld) (l:Nat):O->List Addr
 | .list _=>[X.φ l]
 | .liter _=>[X.φ l]
 | .lexer ..=>[X.ψ l]
 | .citer ..=>[X.φ l]
noncomputable def Wr (C:Cx) (σ:Sto) (X:Wld) (b:Addr):Prop:=b=C.tab\/∃ l o,σ.get l=some o/\b∈foot X l o
end
section
open PySem PyProof.Rows
noncomputable abbrev aR:Str := "lineno"
noncomputable abbrev aM:Str := "instream"
noncomputable abbrev cj:Str := "whitespace"
noncomputable abbrev d5:Str := "pushback"
noncomputable abbrev ca:Str := "read"
noncomputable abbrev bJ:Str := "left"
noncomputable abbrev white:Str := "\n\t\r "
inductive StreamAt (C:Cx) (X:Wld) (h:Heap) (f:Addr) (left:Addr):Prop
 | mk (o:Obj) (fd:FuncData) (df g cell c:Addr) (hs:Int) (tk:Tok) (k:Nat) (pm ctv:Value) (z1:X.Z f) (g1:h.get? f=some o) (e1:o.cls=.type "function") (e2:o.dict=some df) (e3:o.data=.func fd)
   (z2:X.Z df) (g2:h.get? df=some (PySem.W.dictOf [⟨hs,.str ca tk,.ref g⟩] k)) (z3:X.Z g) (g3:h.get? g=some (PySem.W.kla_obj C.lamN C.lamQ C.lamP C.lamB C.lamS [(bJ,cell)] pm c ctv))
   (z4:X.Z cell) (g4:h.IsCell cell (some (.ref left))) (z5:X.Z c) (g5:h.CodeRec (.ref c) C.lamQ)
set_option genInjectivity false in
set_option genSizeOf false in
structure LD where
 h1:Int
 h2:Int
 h3:Int
 h4:Int
 t1:Tok
 t2:Tok
 t3:Tok
 t4:Tok
 t5:Tok
 t6:Tok
 k:Nat
noncomputable abbrev kS (d:LD) (line:Int) (f pb:Addr):Obj :=
 PySem.W.dictOf [⟨d.h1,.str aR d.t1,.int line d.t5⟩,⟨d.h2,.str aM d.t2,.ref f⟩,⟨d.h3,.str cj d.t3,.str white d.t6⟩,⟨d.h4,.str d5 d.t4,.ref pb⟩] d.k
structure LexAt (C:Cx) (X:Wld) (n:Nat) (h:Heap) (l:Nat) (lf:Nat) (line:Int) (pb:Nat):Prop where
 hlf:lf<n
 hpb:pb<n
 zi:X.Z (X.φ l)
 inst:h.get? (X.φ l)=some (PySem.W.instObj C.cls (X.ψ l))
 dict:∃ d f,h.get? (X.ψ l)=some (kS d line f (X.φ pb))/\StreamAt C X h f (X.φ lf)
noncomputable abbrev ki (bm:Addr) (t:Tok):Obj:={ cls:=.type "callable_iterator",data:=.fields #[.ref bm,.str Str.empty t,.bool false] }
noncomputable abbrev rf:Obj:={ cls:=.type "callable_iterator",data:=.fields #[.none,.none,.bool true] }
noncomputable def ORel (C:Cx) (X:Wld) (n:Nat) (h:Heap) (l:Nat):O->Prop
 | .list vs=>∃ items k,h.get? (X.φ l)=some (dD items k)/\VsRel C X n h vs items.toList
 | .liter vs=>∃ p i items k,h.IsListIter (X.φ l) p i/\X.Z p/\h.get? p=some (dD items k)/\VsRel C X n h vs (items.toList.drop i)/\i<=items.size
 | .lexer lf line pb=>LexAt C X n h l lf line pb
 | .citer lx true=>lx<n/\∃ bm t,h.get? (X.φ l)=some (ki bm t)/\X.Z bm/\h.get? bm=some (PySem.W.methodObj (.ref C.rc) (.ref (X.φ lx)))
 | .citer lx false=>lx<n/\h.get? (X.φ l)=some rf
noncomputable def TabOk (C:Cx) (X:Wld) (h:Heap) (ps:Array Value):Prop:=TriplesOk ps.toList/\∀ pos cv,codeAmong pos ps.toList=some cv->∃ c,cv=.ref c/\X.Z c/\h.CodeRec (.ref c) C.lamQ
theorem lk {h h':Heap} {c:Addr} {q:Str} (r:h.CodeRec (.ref c) q) (k:∀ o,h.get? c=some o->h'.get? c=some o):h'.CodeRec (.ref c) q:=by
 obtain ⟨a,o,vs,t,e,g,q⟩:=r
 cases e
 exact ⟨c,o,vs,t,rfl,k _ g,q⟩
theorem TabOk.mono {C X X' h h' ps} (r:TabOk C X h ps) (hk:∀ b o,X.Z b->h.get? b=some o->h'.get? b=some o) (hz:∀ b,X.Z b->X'.Z b):TabOk C X' h' ps :=
 ⟨r.1,fun pos cv e=>let ⟨c,e1,z,g⟩:=r.2 pos cv e;⟨c,e1,hz _ z,lk g fun _=>hk _ _ z⟩⟩
theorem StreamAt.mono {C X X' h h' f left} (r:StreamAt C X h f left) (hk:∀ b o,X.Z b->h.get? b=some o->h'.get? b=some o) (hz:∀ b,X.Z b->X'.Z b):StreamAt C X' h' f left:=by
 cases r with
 | mk o fd df g cell c hs tk k pm ctv z1 g1 e1 e2 e3 z2 g2 z3 g3 z4 g4 z5 g5 =>
   exact .mk o fd df g cell c hs tk k pm ctv (hz _ z1) (hk _ _ z1 g1) e1 e2 e3 (hz _ z2) (hk _ _ z2 g2) (hz _ z3) (hk _ _ z3 g3) (hz _ z4) (g4.imp fun _ q=>⟨hk _ _ z4 q.1,q.2⟩) (hz _ z5) (lk g5 fun _=>hk _ _ z5)
structure SRel (C:Cx) (σ:Sto) (X:Wld) (s:Shared):Prop where
 base:∀ b o,C.base.get? b=some o->b≠C.tab->s.heap.get? b=some o
 tab:∃ ps,s.heap.get? C.tab=some (PySem.W.tabObj ps)/\TabOk C X s.heap ps
 zb:∀ b o,C.base.get? b=some o->b≠C.tab->X.Z b
 zl:∀ b,X.Z b->∃ o,s.heap.get? b=some o
 os:s.os=C.os
 gens:s.gens=C.gens
 lt:∀ l o,σ.get l=some o->l<σ.next
 obj:∀ l o,σ.get l=some o->ORel C X σ.next s.heap l o
 apart:∀ l l' o o' b,σ.get l=some o->σ.get l'=some o'->b∈foot X l o->b∈foot X l' o'->l=l'
 zw:∀ b,Wr C σ X b->¬ X.Z b
 wl:∀ b,Wr C σ X b->∃ o,s.heap.get? b=some o
structure Evo (C:Cx) (P:Addr->Prop) (σ:Sto) (X:Wld) (s:Shared) (σ':Sto) (X':Wld) (s':Shared):Prop where
 size:s.heap.objs.size<=s'.heap.objs.size
 keep:∀ b o,s.heap.get? b=some o->¬ Wr C σ X b->¬ P b->s'.heap.get? b=some o
 zm:∀ b,X.Z b->X'.Z b
 zn:∀ b,X'.Z b->X.Z b\/s.heap.objs.size<=b\/Wr C σ X b
 wn:∀ b,Wr C σ' X' b->Wr C σ X b\/s.heap.objs.size<=b
 nx:σ.next<=σ'.next
 ph:∀ l,l<σ.next->X'.φ l=X.φ l/\X'.ψ l=X.ψ l/\X'.χ l=X.χ l
theorem Evo.refl {C P σ X s}:Evo C P σ X s σ X s:=⟨Nat.le_refl _,fun _ _ e _ _=>e,fun _ z=>z,fun _ z=>.inl z,fun _ w=>.inl w,Nat.le_refl _,fun _ _=>⟨rfl,rfl,rfl⟩⟩
theorem Evo.comp {C P P1 P2 σ X s σ1 X1 s1 σ2 X2 s2} (e1:Evo C P1 σ X s σ1 X1 s1) (e2:Evo C P2 σ1 X1 s1 σ2 X2 s2) (p1:∀ b,P1 b->P b) (p2:∀ b,b<s.heap.objs.size->P2 b->P b):Evo C P σ X s σ2 X2 s2 where
 size:=Nat.le_trans e1.size e2.size
 keep:=fun b o e nw np=>e2.keep b o (e1.keep b o e nw fun h=>np (p1 b h)) (fun w=>(e1.wn b w).elim nw fun h=>Nat.lt_irrefl _ (Nat.lt_of_lt_of_le (Heap.lt_size e) h)) fun h=>np (p2 b (Heap.lt_size e) h)
 zm:=fun b z=>e2.zm b (e1.zm b z)
 zn:=fun b z=>by
  rcases e2.zn b z with z | h | w
  ·exact e1.zn b z
  ·exact .inr (.inl (Nat.le_trans e1.size h))
  ·exact (e1.wn b w).elim (fun w=>.inr (.inr w)) fun h=>.inr (.inl h)
 wn:=fun b w=>by
  rcases e2.wn b w with w | h
  ·exact e1.wn b w
  ·exact .inr (Nat.le_trans e1.size h)
 nx:=Nat.le_trans e1.nx e2.nx
 ph:=fun l hl=>by
  obtain ⟨a1,a2,a3⟩:=e1.ph l hl
  obtain ⟨b1,b2,b3⟩:=e2.ph l (Nat.lt_of_lt_of_le hl e1.nx)
  exact ⟨b1.trans a1,b2.trans a2,b3.trans a3⟩
theorem Evo.trans {C P σ X s σ1 X1 s1 σ2 X2 s2} (e1:Evo C P σ X s σ1 X1 s1) (e2:Evo C P σ1 X1 s1 σ2 X2 s2):Evo C P σ X s σ2 X2 s2:=e1.comp e2 (fun _ h=>h) fun _ _ h=>h
theorem Evo.weak {C P P' σ X s σ1 X1 s1} (e1:Evo C P σ X s σ1 X1 s1) (h:∀ b,P b->P' b):Evo C P' σ X s σ1 X1 s1:=e1.comp (P2:=P') .refl h fun _ _ h=>h
noncomputable abbrev NoP:Addr->Prop:=fun _=>False
theorem Evo.of0 {C P σ X s σ1 X1 s1} (e1:Evo C NoP σ X s σ1 X1 s1):Evo C P σ X s σ1 X1 s1:=e1.weak fun _ h=>h.elim
theorem Evo.zkeep {C P σ X s σ' X' s'} (e:Evo C P σ X s σ' X' s') (S:SRel C σ X s) (hP:∀ b,P b->¬ X.Z b):∀ b o,X.Z b->s.heap.get? b=some o->s'.heap.get? b=some o :=
 fun b o z g=>e.keep b o g (fun w=>S.zw b w z) fun p=>hP b p z
theorem Evo.rel {C P σ X s σ' X' s' v a} (e:Evo C P σ X s σ' X' s') (S:SRel C σ X s) (hP:∀ b,P b->¬ X.Z b) (r:VRel C X σ.next s.heap v a):VRel C X' σ'.next s'.heap v a :=
 r.mono (e.zkeep S hP) e.zm e.nx fun l hl=>(e.ph l hl).1
theorem Evo.rels {C P σ X s σ' X' s' v a} (e:Evo C P σ X s σ' X' s') (S:SRel C σ X s) (hP:∀ b,P b->¬ X.Z b) (r:VsRel C X σ.next s.heap v a):VsRel C X' σ'.next s'.heap v a :=
 r.mono (e.zkeep S hP) e.zm e.nx fun l hl=>(e.ph l hl).1
theorem ORel.mono {C X X' n n' h h' l o} (r:ORel C X n h l o) (hk:∀ b o,X.Z b->h.get? b=some o->h'.get? b=some o) (hw:∀ b o',b∈foot X l o->h.get? b=some o'->h'.get? b=some o')
 (hz:∀ b,X.Z b->X'.Z b) (hn:n<=n') (hf:∀ l,l<n->X'.φ l=X.φ l/\X'.ψ l=X.ψ l/\X'.χ l=X.χ l) (hl:l<n):ORel C X' n' h' l o:=by
 have hf1:∀ l,l<n->X'.φ l=X.φ l:=fun l hl=>(hf l hl).1
 have a1:=(hf l hl).1
 have a2:=(hf l hl).2.1
 have one:∀ b:Addr,b∈[b]:=fun _=>.head _
 cases o with
 | list vs=>exact r.imp fun _ r=>r.imp fun _ r=>⟨by rw [a1];exact hw _ _ (one _) r.1,r.2.mono hk hz hn hf1⟩
 | liter vs=>exact r.imp fun _ r=>r.imp fun _ r=>r.imp fun _ r=>r.imp fun _ r=>⟨by rw [a1];exact r.1.at fun o e=>hw _ o (one _) e,hz _ r.2.1,hk _ _ r.2.1 r.2.2.1,r.2.2.2.1.mono hk hz hn hf1,r.2.2.2.2⟩
 | lexer lf line pb =>
   exact ⟨Nat.lt_of_lt_of_le r.hlf hn,Nat.lt_of_lt_of_le r.hpb hn,by rw [a1];exact hz _ r.zi,by rw [a1,a2];exact hk _ _ r.zi r.inst,r.dict.imp fun _ r'=>r'.imp fun _ r'=>⟨by rw [a2,hf1 _ r.hpb];exact hw _ _ (one _) r'.1,by rw [hf1 _ r.hlf];exact r'.2.mono hk hz⟩⟩
 | citer lx live =>
   cases live with
   | true=>exact ⟨Nat.lt_of_lt_of_le r.1 hn,r.2.imp fun _ q=>q.imp fun _ q=>⟨by rw [a1];exact hw _ _ (one _) q.1,hz _ q.2.1,by rw [hf1 _ r.1];exact hk _ _ q.2.1 q.2.2⟩⟩
   | false=>exact ⟨Nat.lt_of_lt_of_le r.1 hn,by rw [a1];exact hw _ _ (one _) r.2⟩
structure Grow (s s':Shared):Prop where
 keep:∀ b o,s.heap.get? b=some o->s'.heap.get? b=some o
 size:s.heap.objs.size<=s'.heap.objs.size
 os:s'.os=s.os
 gens:s'.gens=s.gens
theorem Grow.toks {s:Shared} (t:Nat):Grow s { s with toks:=t }:=⟨fun _ _ e=>e,Nat.le_refl _,rfl,rfl⟩
theorem Grow.push {s:Shared} (o:Obj):Grow s { s with heap:=s.heap.push o }:=⟨fun _ _ e=>Heap.get?_push_of_some _ e,by rw [Heap.size_push];lia -abstractProof,rfl,rfl⟩
theorem Grow.pusht {s:Shared} (o:Obj) (t:Nat):Grow s { s with heap:=s.heap.push o,toks:=t }:=⟨fun _ _ e=>Heap.get?_push_of_some _ e,by show _<=(s.heap.push o).objs.size;rw [Heap.size_push];lia -abstractProof,rfl,rfl⟩
noncomputable def Wld.more (X:Wld) (N:Addr->Prop):Wld:={ X with Z:=fun b=>X.Z b\/N b }
theorem SRel.grow {C σ X s s'} (S:SRel C σ X s) (G:Grow s s') (N:Addr->Prop) (hN:∀ b,N b->s.heap.objs.size<=b/\∃ o,s'.heap.get? b=some o) :
 SRel C σ (X.more N) s'/\Evo C NoP σ X s σ (X.more N) s':=by
 refine ⟨⟨fun b o e n=>G.keep _ _ (S.base b o e n),S.tab.imp fun ps t=>⟨G.keep _ _ t.1,t.2.mono (fun b o _ e=>G.keep b o e) fun b z=>.inl z⟩,fun b o e n=>.inl (S.zb b o e n),fun b z=>?_,G.os.trans S.os,G.gens.trans S.gens,S.lt,fun l o e=>?_,fun l l' o o' b e e' m m'=>?_,fun b w z=>?_,fun b w=>?_⟩,
  ⟨G.size,fun b o e _ _=>G.keep b o e,fun b z=>.inl z,fun b z=>z.imp id fun n=>.inl (hN b n).1,fun b w=>.inl w,Nat.le_refl _,fun l _=>⟨rfl,rfl,rfl⟩⟩⟩
 ·exact z.elim (fun z=>(S.zl b z).imp fun o e=>G.keep _ _ e) fun n=>(hN b n).2
 ·exact (S.obj l o e).mono (fun b o _ e=>G.keep b o e) (fun b o _ e=>G.keep b o e) (fun b z=>.inl z) (Nat.le_refl _) (fun _ _=>⟨rfl,rfl,rfl⟩) (S.lt l o e)
 ·exact S.apart l l' o o' b e e' m m'
 ·rcases z with z | n
  ·exact S.zw b w z
  ·obtain ⟨o,e⟩:=S.wl b w
   exact Nat.lt_irrefl _ (Nat.lt_of_lt_of_le (Heap.lt_size e) (hN b n).1)
 ·obtain ⟨o,e⟩:=S.wl b w;exact ⟨o,G.keep _ _ e⟩
theorem SRel.grow0 {C σ X s s'} (S:SRel C σ X s) (G:Grow s s'):SRel C σ X s'/\Evo C NoP σ X s σ X s':=by
 obtain ⟨a,b⟩:=S.grow G (fun _=>False) (fun _ h=>h.elim)
 have e:X.more (fun _=>False)=X:=by
  obtain ⟨f1,f2,f3,f4⟩:=X
  simp [Wld.more]
 rw [e] at a b
 exact ⟨a,b⟩
noncomputable def Pl (env:Env) (b:Addr):Prop:=b=env.locals\/∃ x,env.cells.lookup x=some b
structure Frm (C:Cx) (env:Env) (sc:Scope) (ρ:Loc) (X:Wld) (n:Nat) (h:Heap):Prop where
 kind:env.scope.kind=.function
 kl:∀ x,kindIn sc x=some .local->env.kindOf x=some .local
 kc:∀ x,kindIn sc x=some .cell->env.kindOf x=some .cell
 kf:∀ x,kindIn sc x=some .free->env.kindOf x=some .free\/env.kindOf x=some .cell
 kg:∀ x,kindIn sc x=some .globalImplicit->env.kindOf x=some .globalImplicit
 gl:env.globals=mainGlobals
 bt:env.builtins=builtinsNs
 ns:∃ m,h.Ns env.locals m/\∀ x v,get ρ x=some v->kindIn sc (ao x)=some .local->∃ a,m (ao x)=some a/\VRel C X n h v a
 cl:∀ x,(kindIn sc x=some .cell\/kindIn sc x=some .free)->∃ c,env.cells.lookup x=some c
 cv:∀ x v,get ρ x=some v->(kindIn sc (ao x)=some .cell\/kindIn sc (ao x)=some .free)->∃ c a,env.cells.lookup (ao x)=some c/\h.IsCell c (some a)/\VRel C X n h v a
 live:∀ x c,env.cells.lookup x=some c->∃ v,h.IsCell c v
 apart:∀ x y c,env.cells.lookup x=some c->env.cells.lookup y=some c->x=y
 ne:∀ x c,env.cells.lookup x=some c->c≠env.locals
structure Rel (C:Cx) (env:Env) (sc:Scope) (ρ:Loc) (σ:Sto) (X:Wld) (s:Shared):Prop where
 S:SRel C σ X s
 F:Frm C env sc ρ X σ.next s.heap
 pz:∀ b,Pl env b->¬ X.Z b
 pw:∀ b,Pl env b->¬ Wr C σ X b
theorem Frm.pl {C env sc ρ X n h} (F:Frm C env sc ρ X n h) {b:Addr} (p:Pl env b):∃ o,h.get? b=some o:=by
 rcases p with rfl | ⟨x,e⟩
 ·obtain ⟨m,⟨o,_,_,ho,_⟩,_⟩:=F.ns;exact ⟨o,ho⟩
 ·obtain ⟨v,o,ho,_⟩:=F.live x b e;exact ⟨o,ho⟩
theorem Frm.mono {C env sc ρ ρ' X X' n n' h h'} (F:Frm C env sc ρ X n h) (hp:∀ b o,Pl env b->h.get? b=some o->h'.get? b=some o) (hk:∀ b o,X.Z b->h.get? b=some o->h'.get? b=some o)
 (hz:∀ b,X.Z b->X'.Z b) (hn:n<=n') (hf:∀ l,l<n->X'.φ l=X.φ l) (hr:∀ x v,get ρ' x=some v->get ρ x=some v):Frm C env sc ρ' X' n' h' where
 kind:=F.kind
 kl:=F.kl
 kc:=F.kc
 kf:=F.kf
 kg:=F.kg
 gl:=F.gl
 bt:=F.bt
 ns:=by
  obtain ⟨m,hm,q⟩:=F.ns
  refine ⟨m,hm.at' fun o e=>hp _ o (.inl rfl) e,fun x v e k=>?_⟩
  obtain ⟨a,e1,r⟩:=q x v (hr x v e) k
  exact ⟨a,e1,r.mono hk hz hn hf⟩
 cl:=F.cl
 cv:=fun x v e k=>by
  obtain ⟨c,a,e1,⟨o,g,d⟩,r⟩:=F.cv x v (hr x v e) k
  exact ⟨c,a,e1,⟨o,hp _ _ (.inr ⟨_,e1⟩) g,d⟩,r.mono hk hz hn hf⟩
 live:=fun x c e=>by
  obtain ⟨v,o,g,d⟩:=F.live x c e
  exact ⟨v,o,hp _ _ (.inr ⟨_,e⟩) g,d⟩
 apart:=F.apart
 ne:=F.ne
theorem Rel.evo {C env sc ρ σ X s σ' X' s' P} (R:Rel C env sc ρ σ X s) (S':SRel C σ' X' s') (e:Evo C P σ X s σ' X' s') (hP:∀ b,Pl env b->¬ P b) (hPz:∀ b,P b->¬ X.Z b):Rel C env sc ρ σ' X' s' where
 S:=S'
 F:=R.F.mono (fun b o p g=>e.keep b o g (R.pw b p) (hP b p)) (e.zkeep R.S hPz) e.zm e.nx (fun l hl=>(e.ph l hl).1) fun _ _ h=>h
 pz:=fun b p z=>by
  obtain ⟨o,g⟩:=R.F.pl p
  rcases e.zn b z with z | h | w
  ·exact R.pz b p z
  ·exact Nat.lt_irrefl _ (Nat.lt_of_lt_of_le (Heap.lt_size g) h)
  ·exact R.pw b p w
 pw:=fun b p w=>by
  obtain ⟨o,g⟩:=R.F.pl p
  rcases e.wn b w with w | h
  ·exact R.pw b p w
  ·exact Nat.lt_irrefl _ (Nat.lt_of_lt_of_le (Heap.lt_size g) h)
theorem Rel.evo0 {C env sc ρ σ X s σ' X' s'} (R:Rel C env sc ρ σ X s) (S':SRel C σ' X' s') (e:Evo C NoP σ X s σ' X' s'):Rel C env sc ρ σ' X' s':=R.evo S' e (fun _ _ h=>h) fun _ h=>h.elim
theorem Rel.less {C env sc ρ ρ' σ X s} (R:Rel C env sc ρ σ X s) (hr:∀ x v,get ρ' x=some v->get ρ x=some v):Rel C env sc ρ' σ X s :=
 ⟨R.S,R.F.mono (fun _ _ _ e=>e) (fun _ _ _ e=>e) (fun _ z=>z) (Nat.le_refl _) (fun _ _=>rfl) hr,R.pz,R.pw⟩
structure Room (k:Nat) (A:Around):Prop where
 depth:A.depth+k<=900
 units:A.units+20*k<=9000
 handled:A.handled=none
theorem Room.mono {k k' A} (r:Room k A) (h:k'<=k):Room k' A:=⟨Nat.le_trans (Nat.add_le_add_left h _) r.depth,Nat.le_trans (Nat.add_le_add_left (Nat.mul_le_mul_left _ h) _) r.units,r.handled⟩
noncomputable def EvE (C:Cx) (k:Nat) (e':Ex) (ρ:Loc) (σ:Sto) (v:V) (σ':Sto):Prop :=
 ∀ (n:Nat) (sc:Scope) (e:Expr),aE n sc e=some e'->∀ (A:Around) (env:Env) (X:Wld) (s:Shared),Room k A->Rel C env sc ρ σ X s ->
   ∀ (Q:Value->Shared->Prop) (E:Value->Shared->Prop),(∀ a X' s',Rel C env sc ρ σ' X' s'->Evo C (Pl env) σ X s σ' X' s'->VRel C X' σ'.next s'.heap v a->Q a s') ->
     wpAny (model C.prog C.w) A (eval e env) Q E s
noncomputable def EvT (C:Cx) (k:Nat) (e':Ex) (ρ:Loc) (σ:Sto) (b:Bool) (σ':Sto):Prop :=
 ∀ (n:Nat) (sc:Scope) (e:Expr),aE n sc e=some e'->∀ (A:Around) (env:Env) (X:Wld) (s:Shared),Room k A->Rel C env sc ρ σ X s ->
   ∀ (Q:Bool->Shared->Prop) (E:Value->Shared->Prop),(∀ X' s',Rel C env sc ρ σ' X' s'->Evo C (Pl env) σ X s σ' X' s'->Q b s') ->
     wpAny (model C.prog C.w) A (isTrue e env (eval e env)) Q E s
noncomputable def EvL (C:Cx) (k:Nat) (es':List Ex) (ρ:Loc) (σ:Sto) (vs:List V) (σ':Sto):Prop :=
 ∀ (n:Nat) (sc:Scope) (es:List Expr),mapO (aE n sc) es=some es'->∀ (A:Around) (env:Env) (X:Wld) (s:Shared) (pos:Pos),Room k A->Rel C env sc ρ σ X s ->
   ∀ (Q:List Value->Shared->Prop) (E:Value->Shared->Prop),(∀ as X' s',Rel C env sc ρ σ' X' s'->Evo C (Pl env) σ X s σ' X' s'->VsRel C X' σ'.next s'.heap vs as->Q as s') ->
     wpAny (model C.prog C.w) A (spliced (backTo pos (starEach es env))) Q E s
noncomputable def FnOk (C:Cx) (k:Nat) (f:Value) (vs:List V) (σ:Sto) (v:V) (σ':Sto):Prop :=
 ∀ (A:Around) (X:Wld) (s:Shared) (as:List Value),Room k A->SRel C σ X s->VsRel C X σ.next s.heap vs as ->
   ∀ (Q:Value->Shared->Prop) (E:Value->Shared->Prop),(∀ a X' s',SRel C σ' X' s'->Evo C NoP σ X s σ' X' s'->VRel C X' σ'.next s'.heap v a->Q a s') ->
     wpAny (model C.prog C.w) A (call f as) Q E s
noncomputable def nB (C:Cx) (X:Wld) (n:Nat) (h:Heap):Fl->Flow->Prop
 | .next,.next=>True
 | .brk,.brk=>True
 | .cont,.cont=>True
 | .ret v,.ret a=>VRel C X n h v a
 | _,_=>False
noncomputable def ExS (C:Cx) (k:Nat) (t':St) (ρ:Loc) (σ:Sto) (f:Fl) (ρ':Loc) (σ':Sto):Prop :=
 ∀ (n:Nat) (sc:Scope) (t:Stmt),cm n sc t=some t'->∀ (A:Around) (env:Env) (X:Wld) (s:Shared),Room k A->Rel C env sc ρ σ X s ->
   ∀ (Q:Flow->Shared->Prop) (E:Value->Shared->Prop),(∀ g X' s',Rel C env sc ρ' σ' X' s'->Evo C (Pl env) σ X s σ' X' s' ->
     nB C X' σ'.next s'.heap f g->Q g s') ->
     wpAny (model C.prog C.w) A (exec t env) Q E s
noncomputable def ExL (C:Cx) (k:Nat) (ts':List St) (ρ:Loc) (σ:Sto) (f:Fl) (ρ':Loc) (σ':Sto):Prop :=
 ∀ (n:Nat) (sc:Scope) (ts:List Stmt),mapO (cm n sc) ts=some ts'->∀ (A:Around) (env:Env) (X:Wld) (s:Shared),Room k A->Rel C env sc ρ σ X s ->
   ∀ (Q:Flow->Shared->Prop) (E:Value->Shared->Prop),(∀ g X' s',Rel C env sc ρ' σ' X' s'->Evo C (Pl env) σ X s σ' X' s' ->
     nB C X' σ'.next s'.heap f g->Q g s') ->
     wpAny (model C.prog C.w) A (execs ts env) Q E s
end
section
open PySem PyProof.Rows
theorem b2 {α β γ:Type} {x:Option α} {y:Option β} {f:α->β->γ} {c:γ} (h:(x.bind fun a=>y.bind fun b=>some (f a b))=some c):∃ a b,x=some a/\y=some b/\f a b=c:=by
 cases x with
 | none=>cases h
 | some a=>cases y with
   | none=>cases h
   | some b=>exact ⟨a,b,rfl,rfl,Option.some.inj h⟩
theorem b1 {α γ:Type} {x:Option α} {f:α->γ} {c:γ} (h:(x.bind fun a=>some (f a))=some c):∃ a,x=some a/\f a=c:=by
 cases x with
 | none=>cases h
 | some a=>exact ⟨a,rfl,Option.some.inj h⟩
theorem cQ {α β:Type} {f:α->Option β} {l:List α} (h:mapO f l=some []):l=[]:=by
 cases l with
 | nil=>rfl
 | cons a l=>obtain ⟨b,m,_,_,h⟩:=b2 h;cases h
theorem aY {α β:Type} {f:α->Option β} {l:List α} {b:β} {m:List β} (h:mapO f l=some (b::m)):∃ a r,l=a::r/\f a=some b/\mapO f r=some m:=by
 cases l with
 | nil=>cases h
 | cons a l=>obtain ⟨b',m',e1,e2,h⟩:=b2 h;cases h;exact ⟨a,l,rfl,e1,e2⟩
noncomputable abbrev BH (n:Nat) (sc:Scope):Option Expr->Option (Option Ex):=sX (aE n sc)
inductive BM (sc:Scope):Expr->Prop | mk (k p):BM sc (.Constant .none k p)
inductive BB (sc:Scope) (b:Bool):Expr->Prop | mk (k p):BB sc b (.Constant (.bool b) k p)
inductive D4 (sc:Scope) (i:Int):Expr->Prop | mk (k p):D4 sc i (.Constant (.int i) k p)
inductive Eb (sc:Scope) (x:UInt64):Expr->Prop | mk (k p):Eb sc x (.Constant (.float x) k p)
inductive Di (sc:Scope) (s:List Nat):Expr->Prop | mk (x k p) (hn:nm x=s):Di sc s (.Constant (.str x) k p)
inductive DU (sc:Scope) (y:Nm):Expr->Prop | mk (x p) (hb:dg x=false) (hv:qV (kindIn sc x)=true) (hn:nm x=y):DU sc y (.Name x p)
inductive Bl (sc:Scope) (y:Nm):Expr->Prop | mk (x p) (hb:dg x=false) (hv:kindIn sc x=some .globalImplicit) (hn:nm x=y):Bl sc y (.Name x p)
inductive Ds (sc:Scope) (op:Operator) (a b:Ex):Expr->Prop | mk (n l r p) (h1:aE n sc l=some a) (h2:aE n sc r=some b):Ds sc op a b (.BinOp l op r p)
inductive IUn (sc:Scope) (op:UnaryOp) (a:Ex):Expr->Prop | mk (n x p) (h:aE n sc x=some a):IUn sc op a (.UnaryOp op x p)
inductive uZ (sc:Scope) (op:BoolOp) (l:List Ex):Expr->Prop | mk (n vs p) (h:mapO (aE n sc) vs=some l):uZ sc op l (.BoolOp op vs p)
inductive Dx (sc:Scope) (a:Ex) (ops:List CmpOp) (m:List Ex):Expr->Prop | mk (n l cs p) (h1:aE n sc l=some a) (h2:mapO (aE n sc) cs=some m):Dx sc a ops m (.Compare l ops cs p)
inductive DG (sc:Scope) (t' a' b':Ex):Expr->Prop | mk (n t a b p) (h1:aE n sc t=some t') (h2:aE n sc a=some a') (h3:aE n sc b=some b'):DG sc t' a' b' (.IfExp t a b p)
inductive BC (sc:Scope) (l:List Ex):Expr->Prop | mk (n es p) (h:mapO (aE n sc) es=some l):BC sc l (.List es p)
inductive Du (sc:Scope) (l:List Ex):Expr->Prop | mk (n es k p) (h:mapO (aE n sc) es=some l):Du sc l (.Tuple es k p)
inductive xo (sc:Scope) (a:Ex) (l:List (Option Ex)):Expr->Prop | mk (n v lo hi st p p') (h1:aE n sc v=some a) (h2:mapO (BH n sc) [lo,hi,st]=some l):xo sc a l (.Subscript v (.Slice lo hi st p') p)
inductive DV (sc:Scope) (a b:Ex):Expr->Prop | mk (n v i p) (hs:qs i=none) (h1:aE n sc v=some a) (h2:aE n sc i=some b):DV sc a b (.Subscript v i p)
inductive Bh (sc:Scope) (a:Ex) (y:Nm) (l:List Ex):Expr->Prop
 | mk (n o m p' as p) (hs:eQ o=false) (hp:(p'.endLine==p.line)=true) (hl:as.length<29) (h1:aE n sc o=some a) (h2:mapO (aE n sc) as=some l) (hn:nm m=y):Bh sc a y l (.Call (.Attribute o m p') as [] p)
inductive Be (sc:Scope) (a:Ex) (l:List Ex):Expr->Prop | mk (n f as p) (hf:lQ f=none) (h1:aE n sc f=some a) (h2:mapO (aE n sc) as=some l):Be sc a l (.Call f as [] p)
inductive BL (sc:Scope) (a:Ex) (y:Nm):Expr->Prop | mk (n o m p) (hs:eQ o=false) (h1:aE n sc o=some a) (hn:nm m=y):BL sc a y (.Attribute o m p)
inductive Bg (sc:Scope) (a:Ex) (ts:List (List Nm)) (its:List Ex) (ifs:List (List Ex)) (own:List Nm):Expr->Prop
 | mk (n elt g gs sc' p it its') (hs:f5 sc sc'=true) (hg:((g::gs).all fun g=>g.is_async==0&&gI g.iter)=true) (h1:aE n sc g.iter=some it)
    (h2:mapO (fun g:Comprehension=>aE n sc' g.iter) gs=some its') (h3:mapO (fun g:Comprehension=>cn sc' g.target) (g::gs)=some ts)
    (h4:mapO (fun g:Comprehension=>mapO (aE n sc') g.ifs) (g::gs)=some ifs) (h5:aE n sc' elt=some a) (he:its=it::its') (ho:own=ig sc'):Bg sc a ts its ifs own (.ListComp elt (g::gs) sc' p)
inductive xw (sc:Scope) (k' v':Ex) (y:Nm) (it':Ex):Expr->Prop
 | mk (n k v g sc' p) (hs:f5 sc sc'=true) (hi:g.ifs=[]) (ha:g.is_async=0) (hn:gI g.iter=true) (h0:fK sc' g.target=some y) (h1:aE n sc g.iter=some it') (h2:aE n sc' k=some k')
    (h3:aE n sc' v=some v'):xw sc k' v' y it' (.DictComp k v [g] sc' p)
noncomputable def Dw (sc:Scope) (e:Expr):Ex->Prop
 | .cNone=>BM sc e | .cBool b=>BB sc b e | .cInt i=>D4 sc i e | .cFlt x=>Eb sc x e | .cStr s=>Di sc s e
 | .var y=>DU sc y e | .glob y=>Bl sc y e | .bin op a b=>Ds sc op a b e | .neg a=>IUn sc .USub a e | .not a=>IUn sc .Not a e
 | .boolop op l=>uZ sc op l e | .cmp a ops m=>Dx sc a ops m e | .ite t a b=>DG sc t a b e | .list l=>BC sc l e | .tup l=>Du sc l e
 | .slice a l=>xo sc a l e | .sub a b=>DV sc a b e | .meth a y l=>Bh sc a y l e | .call a l=>Be sc a l e | .attr a y=>BL sc a y e
 | .comp a ts its ifs own=>Bg sc a ts its ifs own e | .dcomp k v y it=>xw sc k v y it e | _=>False
theorem k0 {c:Bool} {α:Type} {x:Option α} {y:α} (h:(if c=true then none else x)=some y):c=false/\x=some y:=by
 cases c with
 | true=>cases h
 | false=>exact ⟨rfl,h⟩
theorem jL {c:Bool} {α:Type} {x:Option α} {y:α} (h:(if c=true then x else none)=some y):c=true/\x=some y:=by
 cases c with
 | false=>cases h
 | true=>exact ⟨rfl,h⟩
theorem uG {c:Bool} (h:(!c)=false):c=true:=by
 cases c with
 | true=>rfl
 | false=>cases h
theorem erI {n sc e e'} (h:aE n sc e=some e'):Dw sc e e':=by
 cases n with
 | zero=>exact bF h
 | succ n =>
   cases e with
   | Constant c k p =>
     cases c with
     | none=>cases h;exact .mk k p
     | bool b=>cases h;exact .mk k p
     | int i=>cases h;exact .mk k p
     | float x=>cases h;exact .mk k p
     | str s=>cases h;exact .mk s k p rfl
     | _=>exact bF h
   | Name x p =>
     obtain ⟨hb,h⟩:=k0 (c:=dg x) h
     cases hv:qV (kindIn sc x) with
     | true =>
       rw [hv] at h
       cases h;exact .mk x p hb hv rfl
     | false =>
       rw [hv] at h
       by_cases hk:kindIn sc x=some .globalImplicit
       ·have h2:some (Ex.glob (nm x))=some e':=(if_pos hk).symm.trans h
        cases h2;exact .mk x p hb hk rfl
       ·have h2:none=some e':=(if_neg hk).symm.trans h
        cases h2
   | BinOp l op r p=>obtain ⟨a,b,h1,h2,rfl⟩:=b2 h;exact .mk n l r p h1 h2
   | UnaryOp op x p =>
     cases op with
     | USub=>obtain ⟨a,h1,rfl⟩:=b1 h;exact IUn.mk n x p h1
     | Not=>obtain ⟨a,h1,rfl⟩:=b1 h;exact IUn.mk n x p h1
     | _=>exact bF h
   | BoolOp op vs p=>obtain ⟨a,h1,rfl⟩:=b1 h;exact .mk n vs p h1
   | Compare l ops cs p=>obtain ⟨a,b,h1,h2,rfl⟩:=b2 h;exact .mk n l cs p h1 h2
   | IfExp t a b p =>
     obtain ⟨t',h1,h⟩:=Option.bind_eq_some_iff.mp h
     obtain ⟨a',b',h2,h3,rfl⟩:=b2 h
     exact .mk n t a b p h1 h2 h3
   | List es p=>obtain ⟨a,h1,rfl⟩:=b1 h;exact .mk n es p h1
   | Tuple es k p=>obtain ⟨a,h1,rfl⟩:=b1 h;exact .mk n es k p h1
   | Subscript v i p =>
     cases hsl:qs i with
     | some q =>
       obtain ⟨a,b,h1,h2,rfl⟩:=b2 ((congrArg (xV (aE n sc) v i) hsl).symm.trans h)
       rw [sD hsl];exact .mk n v _ _ _ p _ h1 h2
     | none =>
       obtain ⟨a,b,h1,h2,rfl⟩:=b2 ((congrArg (xV (aE n sc) v i) hsl).symm.trans h)
       exact .mk n v _ p hsl h1 h2
   | Call f as ks p =>
     cases ks with
     | cons _ _=>exact bF h
     | nil =>
       cases hi:lQ f with
       | some q =>
         obtain ⟨hs,h⟩:=k0 (c:=eQ q.1||!(q.2.2.endLine==p.line&&decide (as.length<29))) ((congrArg (sW (aE n sc) as p f) hi).symm.trans h)
         obtain ⟨a,b,h1,h2,rfl⟩:=b2 h
         obtain ⟨s1,s2⟩:=Bool.or_eq_false_iff.mp hs
         obtain ⟨s3,s4⟩:=Bool.and_eq_true_iff.mp (uG s2)
         rw [kZ hi]
         exact .mk n q.1 q.2.1 q.2.2 as p s1 s3 (of_decide_eq_true s4) h1 h2 rfl
       | none =>
         obtain ⟨a,b,h1,h2,rfl⟩:=b2 ((congrArg (sW (aE n sc) as p f) hi).symm.trans h)
         exact .mk n _ as p hi h1 h2
   | Attribute o m p =>
     obtain ⟨hs,h⟩:=k0 (c:=eQ o) h
     obtain ⟨a,h1,rfl⟩:=b1 h
     exact .mk n o m p hs h1 rfl
   | ListComp elt gens sc' p =>
     obtain ⟨hc,h⟩:=jL (c:=f5 sc sc'&&gens.all (fun g=>g.is_async==0&&gI g.iter)) h
     obtain ⟨hc1,hc2⟩:=Bool.and_eq_true_iff.mp hc
     cases gens with
     | nil=>exact bF h
     | cons g gs =>
       obtain ⟨it,h1,h⟩:=Option.bind_eq_some_iff.mp h
       obtain ⟨its,h2,h⟩:=Option.bind_eq_some_iff.mp h
       obtain ⟨ts,h3,h⟩:=Option.bind_eq_some_iff.mp h
       obtain ⟨ifs,a,h4,h5,rfl⟩:=b2 h
       exact .mk n elt g gs sc' p it its hc1 hc2 h1 h2 h3 h4 h5 rfl rfl
   | DictComp k v gens sc' p =>
     obtain ⟨hc,h⟩:=jL (c:=f5 sc sc') h
     match gens with
     | []=>exact bF h
     | _::_::_=>exact bF h
     | [g] =>
       obtain ⟨hd,h⟩:=jL (c:=g.ifs.isEmpty&&g.is_async==0&&gI g.iter) h
       obtain ⟨hd,d3⟩:=Bool.and_eq_true_iff.mp hd
       obtain ⟨d1,d2⟩:=Bool.and_eq_true_iff.mp hd
       obtain ⟨y,h0,h⟩:=Option.bind_eq_some_iff.mp h
       obtain ⟨it,h1,h⟩:=Option.bind_eq_some_iff.mp h
       obtain ⟨k',v',h2,h3,rfl⟩:=b2 h
       exact .mk n k v g sc' p hc (List.isEmpty_iff.mp d1) (beq_iff_eq.mp d2) d3 h0 h1 h2 h3
   | _=>exact bF h
end
section
open PySem PyProof.Rows
structure COk (C:Cx):Prop where
 g:C.base.Ns mainGlobals C.mg
 b:C.base.Ns builtinsNs C.mb
 ng:mainGlobals≠C.tab
 nb:builtinsNs≠C.tab
 ns:cStatics≠C.tab
 nolimit:C.base.NoLimit
 glob:∀ x v,C.glob x=some v->∃ a,(C.mg (ao x)=some a\/(C.mg (ao x)=none/\C.mb (ao x)=some a)) /\
  ∀ X n h,(∀ b o,C.base.get? b=some o->b≠C.tab->X.Z b/\h.get? b=some o)->VRel C X n h v a
theorem SRel.ns {C σ X s a m} (S:SRel C σ X s) (h:C.base.Ns a m) (ha:a≠C.tab):s.heap.Ns a m :=
 let ⟨o,es,ep,g,r⟩:=h;⟨o,es,ep,S.base _ _ g ha,r⟩
theorem SRel.nolimit {C σ X s} (H:COk C) (S:SRel C σ X s):s.heap.NoLimit:=let ⟨mc,h,r⟩:=H.nolimit;⟨mc,S.ns h H.ns,r⟩
theorem Rel.grown {C env sc ρ σ X s s'} (R:Rel C env sc ρ σ X s) (G:Grow s s'):Rel C env sc ρ σ X s'/\Evo C (Pl env) σ X s σ X s':=by
 obtain ⟨S',e⟩:=R.S.grow0 G
 exact ⟨R.evo0 S' e,e.of0⟩
section
variable {C:Cx} {k:Nat} {ρ:Loc} {σ:Sto}
theorem aB {i:Int}:EvE C k (.cInt i) ρ σ (.int i) σ:=by
 intro n sc e h A env X s rm R Q E hQ
 cases erI h
 obtain ⟨R',ev⟩:=R.grown (Grow.toks (s.toks+1))
 exact wpAny_Constant_int (hQ _ X _ R' ev ⟨_,rfl⟩)
theorem cK {x:UInt64}:EvE C k (.cFlt x) ρ σ (.flt x) σ:=by
 intro n sc e h A env X s rm R Q E hQ
 cases erI h
 obtain ⟨R',ev⟩:=R.grown (Grow.toks (s.toks+1))
 have:wpAny (model C.prog C.w) A (mkFloat x) Q E s:=wpAny_mkFloat (hQ _ X _ R' ev ⟨_,rfl⟩)
 exact this
theorem bE {x:List Nat}:EvE C k (.cStr x) ρ σ (.str x) σ:=by
 intro n sc e h A env X s rm R Q E hQ
 cases erI h
 rename_i y kk p hn
 subst hn
 obtain ⟨R',ev⟩:=R.grown (Grow.toks (s.toks+1))
 exact wpAny_Constant_str (hQ _ X _ R' ev ⟨_,congrArg (Value.str · _) (aK _).symm⟩)
theorem oE {x:Str} (h:dg x=false):(x==("__debug__" : Str))=false:=(Bool.or_eq_false_iff.mp h).1
theorem CT {x:Str} (h:dg x=false):(x==("__classdict__" : Str))=false:=(Bool.or_eq_false_iff.mp h).2
theorem uT {A:Around} {env:Env} {sc:Scope} {X:Wld} {s:Shared} {x:Str} {v:V} {Q:Value->Shared->Prop} {E:Value->Shared->Prop} (F:Frm C env sc ρ X σ.next s.heap) (hb:dg x=false) (hv:qV (kindIn sc x)=true)
 (hg:get ρ (nm x)=some v) (hQ:∀ a,VRel C X σ.next s.heap v a->Q a s):wpAny (model C.prog C.w) A (loadName env x) Q E s:=by
 have hx:ao (nm x)=x:=aK x
 cases hk:kindIn sc x with
 | none=>rw [hk] at hv;cases hv
 | some kd =>
   cases kd with
   | «local» =>
     obtain ⟨m,hm,q⟩:=F.ns
     obtain ⟨a,e,r⟩:=q _ _ hg (by rw [hx];exact hk)
     rw [hx] at e
     exact wpAny_loadName_local F.kind (F.kl x hk) hm e (hQ a r)
   | cell =>
     obtain ⟨c,a,e,hc,r⟩:=F.cv _ _ hg (by rw [hx];exact .inl hk)
     rw [hx] at e
     exact wpAny_loadName_cell F.kind (F.kc x hk) e hc (hQ a r)
   | free =>
     obtain ⟨c,a,e,hc,r⟩:=F.cv _ _ hg (by rw [hx];exact .inr hk)
     rw [hx] at e
     rcases F.kf x hk with q | q
     ·exact wpAny_loadName_free F.kind q e hc (hQ a r) (CT hb)
     ·exact wpAny_loadName_cell F.kind q e hc (hQ a r)
   | globalExplicit=>rw [hk] at hv;cases hv
   | globalImplicit=>rw [hk] at hv;cases hv
theorem aa {x:Nm} {v:V} (hg:get ρ x=some v):EvE C k (.var x) ρ σ v σ:=by
 intro n sc e h A env X s rm R Q E hQ
 cases erI h
 rename_i y p hb hv hn
 subst hn
 exact wpAny_Name (uT R.F hb hv hg fun a r=>hQ a X s R .refl r) (oE hb)
theorem eS (H:COk C) {x:Nm} {v:V} (hg:C.glob x=some v):EvE C k (.glob x) ρ σ v σ:=by
 intro n sc e h A env X s rm R Q E hQ
 cases erI h
 rename_i y p hb hk hn
 subst hn
 refine wpAny_Name ?_ (oE hb)
 obtain ⟨a,ha,hr⟩:=H.glob _ _ hg
 rw [aK] at ha
 have hr':VRel C X σ.next s.heap v a:=hr _ _ _ fun b o e nt=>⟨R.S.zb b o e nt,R.S.base b o e nt⟩
 have hkind:=R.F.kg y hk
 have hl:loadName env y=loadGlobal env y:=by
  unfold loadName
  simp only [Env.blockKind,R.F.kind,hkind,ScopeKind.isAnnotationScope,Bool.false_and,Bool.false_eq_true,if_false]
 rw [hl]
 unfold loadGlobal
 rw [R.F.gl,R.F.bt]
 refine wpAny_bind (wpAny_nsGet (R.S.ns H.g H.ng) ?_)
 rcases ha with e1 | ⟨e1,e2⟩
 ·rw [e1];exact wpAny_pure (hQ a X s R .refl hr')
 ·rw [e1]
  refine wpAny_bind (wpAny_nsGet (R.S.ns H.b H.nb) ?_)
  rw [e2];exact wpAny_pure (hQ a X s R .refl hr')
end
noncomputable def Op2 (C:Cx) (k:Nat) (t:Value->Value->Sem Value) (va vb:V) (σ:Sto) (v:V) (σ':Sto):Prop :=
 ∀ (A:Around) (X:Wld) (s:Shared) (a b:Value),Room k A->SRel C σ X s->VRel C X σ.next s.heap va a->VRel C X σ.next s.heap vb b ->
   ∀ (Q:Value->Shared->Prop) (E:Value->Shared->Prop),(∀ r X' s',SRel C σ' X' s'->Evo C NoP σ X s σ' X' s'->VRel C X' σ'.next s'.heap v r->Q r s')->wpAny (model C.prog C.w) A (t a b) Q E s
noncomputable def Op1 (C:Cx) (k:Nat) (t:Value->Sem Value) (va:V) (σ:Sto) (v:V) (σ':Sto):Prop :=
 ∀ (A:Around) (X:Wld) (s:Shared) (a:Value),Room k A->SRel C σ X s->VRel C X σ.next s.heap va a ->
   ∀ (Q:Value->Shared->Prop) (E:Value->Shared->Prop),(∀ r X' s',SRel C σ' X' s'->Evo C NoP σ X s σ' X' s'->VRel C X' σ'.next s'.heap v r->Q r s')->wpAny (model C.prog C.w) A (t a) Q E s
noncomputable def Tru (C:Cx) (v:V) (σ:Sto) (b:Bool):Prop :=
 ∀ (A:Around) (X:Wld) (s:Shared) (a:Value),SRel C σ X s->VRel C X σ.next s.heap v a->∀ (Q:Bool->Shared->Prop) (E:Value->Shared->Prop),(∀ t,Q b { s with toks:=t })->wpAny (model C.prog C.w) A (truthy a) Q E s
section
variable {C:Cx} {k:Nat} {ρ:Loc} {σ σ1 σ2 σ3:Sto}
theorem ap {op:Operator} {a b:Ex} {va vb v:V} (h1:EvE C k a ρ σ va σ1) (h2:EvE C k b ρ σ1 vb σ2) (h3:Op2 C k (binaryOp op) va vb σ2 v σ3):EvE C k (.bin op a b) ρ σ v σ3:=by
 intro n sc e h A env X s rm R Q E hQ
 cases erI h
 rename_i n l r p e1 e2
 refine wpAny_BinOp (h1 _ _ _ e1 A env X s rm R _ _ fun x X1 s1 R1 v1 r1=>h2 _ _ _ e2 A env X1 s1 rm R1 _ _ fun y X2 s2 R2 v2 r2=>?_)
 exact h3 A X2 s2 x y rm R2.S (v2.rel R1.S R1.pz r1) r2 _ _ fun z X3 s3 S3 v3 r3=>hQ z X3 s3 (R2.evo0 S3 v3) ((v1.trans v2).trans v3.of0) r3
theorem x9 {a:Ex} {va v:V} (h1:EvE C k a ρ σ va σ1) (h3:Op1 C k (unaryOp .USub) va σ1 v σ2):EvE C k (.neg a) ρ σ v σ2:=by
 intro n sc e h A env X s rm R Q E hQ
 cases erI h
 rename_i n x p e1
 refine wpAny_UnaryOp (h1 _ _ _ e1 A env X s rm R _ _ fun x X1 s1 R1 v1 r1=>?_)
 exact h3 A X1 s1 x rm R1.S r1 _ _ fun z X3 s3 S3 v3 r3=>hQ z X3 s3 (R1.evo0 S3 v3) (v1.trans v3.of0) r3
theorem li {op:CmpOp} {n:Nat} {sc:Scope} {e:Expr} {e':Ex} (h:aE n sc e=some e'):behindInMarks op e=false:=by
 cases n with
 | zero=>cases h
 | succ n=>cases e<;>first | rfl | (cases h;done)
theorem pG {op:CmpOp} {a b:Ex} {va vb v:V} (h1:EvE C k a ρ σ va σ1) (h2:EvE C k b ρ σ1 vb σ2) (h3:Op2 C k (compareOp op) va vb σ2 v σ3):EvE C k (.cmp a [op] [b]) ρ σ v σ3:=by
 intro n sc e h A env X s rm R Q E hQ
 cases erI h
 rename_i n l cs p e1 e2
 obtain ⟨c,r,rfl,e4,e3⟩:=aY e2
 obtain rfl:=cQ e3
 have hm:behindInMarks op c=false:=li e4
 refine wpAny_Compare1 (h1 _ _ _ e1 A env X s rm R _ _ fun x X1 s1 R1 v1 r1=>h2 _ _ _ e4 A env X1 s1 rm R1 _ _ fun y X2 s2 R2 v2 r2=>?_) hm
 exact h3 A X2 s2 x y rm R2.S (v2.rel R1.S R1.pz r1) r2 _ _ fun z X3 s3 S3 v3 r3=>hQ z X3 s3 (R2.evo0 S3 v3) ((v1.trans v2).trans v3.of0) r3
theorem ed {t a b:Ex} {c:Bool} {v:V} (h1:EvT C k t ρ σ c σ1) (h2:c=true->EvE C k a ρ σ1 v σ2) (h3:c=false->EvE C k b ρ σ1 v σ2):EvE C k (.ite t a b) ρ σ v σ2:=by
 intro n sc e h A env X s rm R Q E hQ
 cases erI h
 rename_i n t a b p e1 e2 e3
 refine wpAny_IfExp (h1 _ _ _ e1 A env X s rm R _ _ fun X1 s1 R1 v1=>?_)
 cases c with
 | true=>exact h2 rfl _ _ _ e2 A env X1 s1 rm R1 _ _ fun y X2 s2 R2 v2 r2=>hQ y X2 s2 R2 (v1.trans v2) r2
 | false=>exact h3 rfl _ _ _ e3 A env X1 s1 rm R1 _ _ fun y X2 s2 R2 v2 r2=>hQ y X2 s2 R2 (v1.trans v2) r2
theorem aj:EvL C k [] ρ σ [] σ:=by
 intro n sc es h A env X s pos rm R Q E hQ
 obtain rfl:=cQ h
 exact wpAny_items_nil (hQ [] X s R .refl .nil)
theorem dN {n sc e e'} (h:aE n sc e=some e') (rest:List Expr) (env:Env):starEach (e::rest) env=(false,eval e env)::starEach rest env:=by
 cases n with
 | zero=>cases h
 | succ n=>cases e<;>first | rfl | (cases h;done)
theorem ah {a:Ex} {l:List Ex} {v:V} {vs:List V} (h1:EvE C k a ρ σ v σ1) (h2:EvL C k l ρ σ1 vs σ2):EvL C k (a::l) ρ σ (v::vs) σ2:=by
 intro n sc es h A env X s pos rm R Q E hQ
 obtain ⟨e,r,rfl,e1,e2⟩:=aY h
 refine wpAny_items_cons (h1 _ _ _ e1 A env X s rm R _ _ fun x X1 s1 R1 v1 r1=>h2 _ _ _ e2 A env X1 s1 pos rm R1 _ _ fun ys X2 s2 R2 v2 r2=>?_) (dN e1 r env)
 exact hQ _ X2 s2 R2 (v1.trans v2) (.cons (v2.rel R1.S R1.pz r1) r2)
theorem SRel.newList {A:Around} {X:Wld} {s:Shared} {as:List Value} {vs:List V} {Q:Value->Shared->Prop} {E:Value->Shared->Prop} (S:SRel C σ X s) (r:VsRel C X σ.next s.heap vs as) (hl:vs.length<=sizeLine)
 (hQ:∀ a X' s',SRel C σ X' s'->Evo C NoP σ X s σ X' s'->VRel C X' σ.next s'.heap (.list vs) a->Q a s'):wpAny (model C.prog C.w) A (newList as) Q E s:=by
 have hlen:as.toArray.size<=sizeLine:=by rw [List.size_toArray,r.length];exact hl
 obtain ⟨S',e⟩:=S.grow (Grow.push (dD as.toArray 0)) (fun b=>b=s.heap.objs.size) (by rintro b rfl;exact ⟨Nat.le_refl _,_,Heap.get?_push_size _ rfl⟩)
 refine wpAny_newObj_type (hQ _ _ _ S' e ?_) hlen
 exact ⟨_,_,_,rfl,.inr rfl,Heap.get?_push_size _ rfl,by exact e.rels S (fun _ h=>h.elim) r⟩
theorem SRel.newTuple {A:Around} {X:Wld} {s:Shared} {as:List Value} {vs:List V} {Q:Value->Shared->Prop} {E:Value->Shared->Prop} (S:SRel C σ X s) (r:VsRel C X σ.next s.heap vs as) (hl:vs.length<=sizeLine)
 (hQ:∀ a X' s',SRel C σ X' s'->Evo C NoP σ X s σ X' s'->VRel C X' σ.next s'.heap (.tup vs) a->Q a s'):wpAny (model C.prog C.w) A (newTuple as) Q E s:=by
 have hlen:as.toArray.size<=sizeLine:=by rw [List.size_toArray,r.length];exact hl
 obtain ⟨S',e⟩:=S.grow (Grow.push (yF as.toArray 0)) (fun b=>b=s.heap.objs.size) (by rintro b rfl;exact ⟨Nat.le_refl _,_,Heap.get?_push_size _ rfl⟩)
 refine wpAny_newObj_type (hQ _ _ _ S' e ?_) hlen
 exact ⟨_,_,_,rfl,.inr rfl,Heap.get?_push_size _ rfl,by exact e.rels S (fun _ h=>h.elim) r⟩
theorem dA {l:List Ex} {vs:List V} (h1:EvL C k l ρ σ vs σ1) (hl:vs.length<=sizeLine):EvE C k (.list l) ρ σ (.list vs) σ1:=by
 intro n sc e h A env X s rm R Q E hQ
 cases erI h
 rename_i n es p e1
 refine List_ (h1 _ _ _ e1 A env X s _ rm R _ _ fun as X1 s1 R1 v1 r1=>?_)
 exact R1.S.newList r1 hl fun a X2 s2 S2 v2 r2=>hQ a X2 s2 (R1.evo0 S2 v2) (v1.trans v2.of0) r2
theorem gT {l:List Ex} {vs:List V} (h1:EvL C k l ρ σ vs σ1) (hl:vs.length<=sizeLine):EvE C k (.tup l) ρ σ (.tup vs) σ1:=by
 intro n sc e h A env X s rm R Q E hQ
 cases erI h
 rename_i n es kk p e1
 refine Tuple_ (h1 _ _ _ e1 A env X s _ rm R _ _ fun as X1 s1 R1 v1 r1=>?_)
 exact R1.S.newTuple r1 hl fun a X2 s2 S2 v2 r2=>hQ a X2 s2 (R1.evo0 S2 v2) (v1.trans v2.of0) r2
end
end
section
open PySem PyProof.Rows
noncomputable def pB (e:Ex):Bool:=!(e.ctorIdx==9||e.ctorIdx==10||e.ctorIdx==11||e.ctorIdx==12)
section
variable {C:Cx} {k:Nat} {ρ:Loc} {σ σ1 σ2 σ3 σ4:Sto}
theorem rH {n:Nat} {sc:Scope} {e:Expr} {e':Ex} {env:Env} (hp:pB e'=true) (h:aE n sc e=some e'):isTrue e env (eval e env)=(do let v <-eval e env;standAt e.pos;holding [v] (truthy v)):=by
 cases n with
 | zero=>exact bF h
 | succ n =>
   cases e with
   | UnaryOp op x p=>cases op<;>first | rfl | exact bF h | (obtain ⟨a,h1,rfl⟩:=b1 h;cases hp)
   | BoolOp op vs p=>obtain ⟨a,h1,rfl⟩:=b1 h;cases hp
   | Compare l ops cs p=>obtain ⟨a,b,h1,h2,rfl⟩:=b2 h;cases hp
   | IfExp t a b p =>
     obtain ⟨t',h1,h⟩:=Option.bind_eq_some_iff.mp h
     obtain ⟨a',b',h2,h3,rfl⟩:=b2 h
     cases hp
   | _=>first | rfl | exact bF h
theorem gK {e':Ex} {v:V} {b:Bool} (hp:pB e'=true) (h1:EvE C k e' ρ σ v σ1) (h2:Tru C v σ1 b):EvT C k e' ρ σ b σ1:=by
 intro n sc e h A env X s rm R Q E hQ
 have he:isTrue e env (eval e env)=(do let v <-eval e env;standAt e.pos;holding [v] (truthy v)):=rH hp h
 refine wpAny_isTrue_value (h1 _ _ _ h A env X s rm R _ _ fun a X1 s1 R1 v1 r1=>?_) he
 exact h2 A X1 s1 a R1.S r1 _ _ fun t=>let ⟨R2,v2⟩:=R1.grown (Grow.toks t);hQ X1 _ R2 (v1.trans v2)
theorem uY {a:Ex} {b:Bool} (h1:EvT C k a ρ σ b σ1):EvT C k (.not a) ρ σ (!b) σ1:=by
 intro n sc e h A env X s rm R Q E hQ
 cases erI h
 rename_i n x p e1
 exact wpAny_isTrue_Not (h1 _ _ _ e1 A env X s rm R _ _ hQ)
theorem aJ {op:CmpOp} {a b:Ex} {va vb v:V} {c:Bool} (h1:EvE C k a ρ σ va σ1) (h2:EvE C k b ρ σ1 vb σ2) (h3:Op2 C k (compareOp op) va vb σ2 v σ3) (h4:Tru C v σ3 c):EvT C k (.cmp a [op] [b]) ρ σ c σ3:=by
 intro n sc e h A env X s rm R Q E hQ
 cases erI h
 rename_i n l cs p e1 e2
 obtain ⟨c,r,rfl,e4,e3⟩:=aY e2
 obtain rfl:=cQ e3
 have hm:behindInMarks op c=false:=li e4
 refine wpAny_isTrue_Compare1 (h1 _ _ _ e1 A env X s rm R _ _ fun x X1 s1 R1 v1 r1=>h2 _ _ _ e4 A env X1 s1 rm R1 _ _ fun y X2 s2 R2 v2 r2=>?_) hm
 exact h3 A X2 s2 x y rm R2.S (v2.rel R1.S R1.pz r1) r2 _ _ fun z X3 s3 S3 v3 r3=>h4 A X3 s3 z S3 r3 _ _ fun t=>let ⟨R4,v4⟩:=(R2.evo0 S3 v3).grown (Grow.toks t);hQ X3 _ R4 (((v1.trans v2).trans v3.of0).trans v4)
theorem yx {x y:Ex} {c b:Bool} (h1:EvT C k x ρ σ c σ1) (h2:c=true->EvT C k y ρ σ1 b σ2) (h3:c=false->b=false/\σ2=σ1):EvT C k (.boolop .And [x,y]) ρ σ b σ2:=by
 intro n sc e h A env X s rm R Q E hQ
 cases erI h
 rename_i n vs p e1
 obtain ⟨x,r,rfl,e2,e3⟩:=aY e1
 obtain ⟨y,r,rfl,e4,e5⟩:=aY e3
 obtain rfl:=cQ e5
 refine wpAny_isTrue_BoolOp (wpAny_allTrue_And_cons (h1 _ _ _ e2 A env X s rm R _ _ fun X1 s1 R1 v1=>?_))
 cases c with
 | true =>
   refine wpAny_allTrue_And_cons (h2 rfl _ _ _ e4 A env X1 s1 rm R1 _ _ fun X2 s2 R2 v2=>?_)
   cases b with
   | true=>exact wpAny_allTrue_And_nil (hQ X2 s2 R2 (v1.trans v2))
   | false=>exact hQ X2 s2 R2 (v1.trans v2)
 | false=>obtain ⟨rfl,rfl⟩:=h3 rfl;exact hQ X1 s1 R1 v1
theorem y8 {x y:Ex} {c b:Bool} (h1:EvT C k x ρ σ c σ1) (h2:c=false->EvT C k y ρ σ1 b σ2) (h3:c=true->b=true/\σ2=σ1):EvT C k (.boolop .Or [x,y]) ρ σ b σ2:=by
 intro n sc e h A env X s rm R Q E hQ
 cases erI h
 rename_i n vs p e1
 obtain ⟨x,r,rfl,e2,e3⟩:=aY e1
 obtain ⟨y,r,rfl,e4,e5⟩:=aY e3
 obtain rfl:=cQ e5
 refine wpAny_isTrue_BoolOp (wpAny_allTrue_Or_cons (h1 _ _ _ e2 A env X s rm R _ _ fun X1 s1 R1 v1=>?_))
 cases c with
 | false =>
   refine wpAny_allTrue_Or_cons (h2 rfl _ _ _ e4 A env X1 s1 rm R1 _ _ fun X2 s2 R2 v2=>?_)
   cases b with
   | false=>exact wpAny_allTrue_Or_nil (hQ X2 s2 R2 (v1.trans v2))
   | true=>exact hQ X2 s2 R2 (v1.trans v2)
 | true=>obtain ⟨rfl,rfl⟩:=h3 rfl;exact hQ X1 s1 R1 v1
theorem AX {x y:Ex} {c:Bool} {va v:V} (h1:EvE C k x ρ σ va σ1) (ht:Tru C va σ1 c) (h2:c=true->EvE C k y ρ σ1 v σ2) (h3:c=false->v=va/\σ2=σ1):EvE C k (.boolop .And [x,y]) ρ σ v σ2:=by
 intro n sc e h A env X s rm R Q E hQ
 cases erI h
 rename_i n vs p e1
 obtain ⟨x,r,rfl,e2,e3⟩:=aY e1
 obtain ⟨y,r,rfl,e4,e5⟩:=aY e3
 obtain rfl:=cQ e5
 refine wpAny_And2 (h1 _ _ _ e2 A env X s rm R _ _ fun a X1 s1 R1 v1 r1=>ht A X1 s1 a R1.S r1 _ _ fun t=>?_)
 obtain ⟨R1',v1'⟩:=R1.grown (Grow.toks t)
 have v1:=v1.trans v1'
 cases c with
 | true=>exact h2 rfl _ _ _ e4 A env X1 _ rm R1' _ _ fun b X2 s2 R2 v2 r2=>hQ b X2 s2 R2 (v1.trans v2) r2
 | false=>obtain ⟨rfl,rfl⟩:=h3 rfl;exact hQ a X1 _ R1' v1 r1
theorem B8 {x y:Ex} {c:Bool} {va v:V} (h1:EvE C k x ρ σ va σ1) (ht:Tru C va σ1 c) (h2:c=false->EvE C k y ρ σ1 v σ2) (h3:c=true->v=va/\σ2=σ1):EvE C k (.boolop .Or [x,y]) ρ σ v σ2:=by
 intro n sc e h A env X s rm R Q E hQ
 cases erI h
 rename_i n vs p e1
 obtain ⟨x,r,rfl,e2,e3⟩:=aY e1
 obtain ⟨y,r,rfl,e4,e5⟩:=aY e3
 obtain rfl:=cQ e5
 refine wpAny_Or2 (h1 _ _ _ e2 A env X s rm R _ _ fun a X1 s1 R1 v1 r1=>ht A X1 s1 a R1.S r1 _ _ fun t=>?_)
 obtain ⟨R1',v1'⟩:=R1.grown (Grow.toks t)
 have v1:=v1.trans v1'
 cases c with
 | false=>exact h2 rfl _ _ _ e4 A env X1 _ rm R1' _ _ fun b X2 s2 R2 v2 r2=>hQ b X2 s2 R2 (v1.trans v2) r2
 | true=>obtain ⟨rfl,rfl⟩:=h3 rfl;exact hQ a X1 _ R1' v1 r1
theorem yG {M:Model} {A:Around} {E:Value->Shared->Prop} {s:Shared} {vs keep:List Value} {Q:Unit->Shared->Prop} (h:Q () s):wpAny M A (release vs keep) Q E s:=fun Γ p _=>by
 rw [Sem.wp_release];exact h
theorem wQ {op1 op2:CmpOp} {x y z:Ex} {vx vy vz:V} {c b:Bool} (h1:EvE C k x ρ σ vx σ1) (h2:EvE C k y ρ σ1 vy σ2) (h3:Op2 C k (compareOp op1) vx vy σ2 (.bool c) σ2)
 (h4:c=true->EvE C k z ρ σ2 vz σ2) (h5:c=true->Op2 C k (compareOp op2) vy vz σ2 (.bool b) σ2) (h6:c=false->b=false):EvT C k (.cmp x [op1,op2] [y,z]) ρ σ b σ2:=by
 intro n sc e h A env X s rm R Q E hQ
 cases erI h
 rename_i n l cs p e1 e2
 obtain ⟨ye,r,rfl,e4,e3⟩:=aY e2
 obtain ⟨ze,r,rfl,e6,e5⟩:=aY e3
 obtain rfl:=cQ e5
 have hm:markedEach [op1,op2] [ye,ze] (evalEach [ye,ze] env)=[eval ye env,eval ze env]:=by
  show eval ye env::[markedBehindIn op2 ze (eval ze env)]=_
  rw [markedBehindIn_of_false (li e6)]
 rw [arm_isTrue_Compare,hm]
 refine wpAny_bind (h1 _ _ _ e1 A env X s rm R _ _ fun a X1 s1 R1 v1 r1=>?_)
 refine wpAny_bind (wpAny_holding (h2 _ _ _ e4 A env X1 s1 rm R1 _ _ fun a2 X2 s2 R2 v2 r2=>wpAny_bind (wpAny_standAt (wpAny_bind (wpAny_holding ?_)))))
 refine h3 A X2 s2 a a2 rm R2.S (v2.rel R1.S R1.pz r1) r2 _ _ fun q X3 s3 S3 v3 r3=>?_
 obtain rfl:q=.bool c:=r3
 have R3:=R2.evo0 S3 v3
 refine wpAny_bind (yG (wpAny_bind (wpAny_holding (wpAny_truthy_bool ?_))))
 cases c with
 | false =>
   obtain rfl:=h6 rfl
   exact wpAny_pure (hQ X3 s3 R3 ((v1.trans v2).trans v3.of0))
 | true =>
   refine wpAny_bind (wpAny_holding (h4 rfl _ _ _ e6 A env X3 s3 rm R3 _ _ fun a4 X4 s4 R4 v4 r4=>wpAny_bind (wpAny_standAt (wpAny_bind (wpAny_operating ?_)))))
   refine h5 rfl A X4 s4 a2 a4 rm R4.S (v4.rel R3.S R3.pz (v3.rel R2.S (fun _ h=>h.elim) r2)) r4 _ _ fun q X5 s5 S5 v5 r5=>?_
   obtain rfl:q=.bool b:=r5
   exact wpAny_holding (wpAny_truthy_bool (hQ X5 s5 (R4.evo0 S5 v5) ((((v1.trans v2).trans v3.of0).trans v4).trans v5.of0)))
end
end
section
open PySem PyProof.Rows
noncomputable def oG (C:Cx) (v:V) (σ:Sto) (T:String):Prop:=∀ (X:Wld) (s:Shared) (a:Value),SRel C σ X s->VRel C X σ.next s.heap v a->s.TypeIs a T
noncomputable def ij (C:Cx) (k:Nat) (va:V) (lo hi st:Option Int) (σ:Sto) (v:V):Prop :=
 ∀ (A:Around) (X:Wld) (s:Shared) (a:Value) (sl:Addr) (vl vu vs:Value),Room k A->SRel C σ X s->VRel C X σ.next s.heap va a->s.heap.IsSliceOf sl vl vu vs->IsPart vl lo->IsPart vu hi->IsPart vs st ->
   ∀ (Q:Value->Shared->Prop) (E:Value->Shared->Prop),(∀ r X' s',SRel C σ X' s'->Evo C NoP σ X s σ X' s'->VRel C X' σ.next s'.heap v r->Q r s')->wpAny (model C.prog C.w) A (getItem a (.ref sl)) Q E s
noncomputable def EvO (C:Cx) (k:Nat) (ρ:Loc) (σ:Sto):Option Ex->Option Int->Prop
 | none,none=>True
 | some e,some i=>EvE C k e ρ σ (.int i) σ
 | _,_=>False
inductive Fn (C:Cx):Value->Prop
 | bi (id):Fn C (.builtin id)
 | ty (T):Fn C (.type T)
 | fn (a o fd) (ho:C.base.get? a=some o) (ha:a≠C.tab) (hd:o.data=.func fd):Fn C (.ref a)
noncomputable def vq (C:Cx) (vo:V) (σ:Sto) (name:Nm) (f:Value):Prop :=
 ∀ (A:Around) (X:Wld) (s:Shared) (a:Value) (pl:Sem Bool),SRel C σ X s->VRel C X σ.next s.heap vo a->∀ (Q:Value × List Value->Shared->Prop) (E:Value->Shared->Prop),Q (f,[a]) s ->
   wpAny (model C.prog C.w) A (getMethod a (ao name) pl) Q E s
section
variable {C:Cx} {k:Nat} {ρ:Loc} {σ σ1 σ2 σ3 σ4:Sto}
theorem sK {n:Nat} {sc:Scope} {e:Expr} {e':Ex} {x y:Value} (h:aE n sc e=some e'):subscripted e false x y=operate [x,y] (getItem x y):=by
 cases n with
 | zero=>cases h
 | succ n=>cases e<;>first | rfl | (cases h;done)
theorem mD {a i:Ex} {va vi v:V} {T id:String} (h1:EvE C k a ρ σ va σ1) (h2:EvE C k i ρ σ1 vi σ2) (hT:oG C va σ2 T) (hl:typeLookup (.type T) "__getitem__"=pure (some (.builtin id)))
 (h3:Op2 C k getItem va vi σ2 v σ3):EvE C k (.sub a i) ρ σ v σ3:=by
 intro n sc e h A env X s rm R Q E hQ
 cases erI h
 rename_i n ve ie p hs e1 e2
 refine Subscript_ (h1 _ _ _ e1 A env X s rm R _ _ fun x X1 s1 R1 v1 r1=>h2 _ _ _ e2 A env X1 s1 rm R1 _ _ fun y X2 s2 R2 v2 r2=>?_)
 have r1':=v2.rel R1.S R1.pz r1
 refine tail_any (hT X2 s2 x R2.S r1') hl (h3 A X2 s2 x y rm R2.S r1' r2 _ _ fun z X3 s3 S3 v3 r3=>hQ z X3 s3 (R2.evo0 S3 v3) ((v1.trans v2).trans v3.of0) r3) (ops:=[x,y]) ?_
 exact sK e2
theorem mU {A:Around} {n:Nat} {sc:Scope} {env:Env} {X:Wld} {s:Shared} {o:Option Expr} {o':Option Ex} {i:Option Int} {Q:Value->Shared->Prop} {E:Value->Shared->Prop} (he:BH n sc o=some o') (h:EvO C k ρ σ o' i) (rm:Room k A) (R:Rel C env sc ρ σ X s)
 (hQ:∀ a X' s',Rel C env sc ρ σ X' s'->Evo C (Pl env) σ X s σ X' s'->IsPart a i->Q a s'):wpAny (model C.prog C.w) A (evalPart o env) Q E s:=by
 cases o with
 | none =>
   cases he
   cases i with
   | none=>simp only [evalPart_none];exact wpAny_pure (hQ _ X s R .refl .none)
   | some i=>exact h.elim
 | some e =>
   simp only [sX,Option.bind_eq_some_iff,Option.some.injEq] at he
   obtain ⟨e',he,rfl⟩:=he
   cases i with
   | none=>exact h.elim
   | some i =>
     simp only [evalPart_some]
     refine (h:EvE C k e' ρ σ (.int i) σ) _ _ _ he A env X s rm R _ _ fun a X1 s1 R1 v1 r1=>?_
     obtain ⟨t,rfl⟩:∃ t,a=.int i t:=r1
     exact hQ _ X1 s1 R1 v1 (.int i t)
theorem iP {a:Ex} {lo hi st:Option Ex} {il ih is:Option Int} {va v:V} {T id:String} (h1:EvE C k a ρ σ va σ1) (hlo:EvO C k ρ σ1 lo il) (hhi:EvO C k ρ σ1 hi ih) (hst:EvO C k ρ σ1 st is)
 (hT:oG C va σ1 T) (hl:typeLookup (.type T) "__getitem__"=pure (some (.builtin id))) (h3:ij C k va il ih is σ1 v):EvE C k (.slice a [lo,hi,st]) ρ σ v σ1:=by
 intro n sc e h A env X s rm R Q E hQ
 cases erI h
 rename_i n ve le he se p p' e1 e2
 obtain ⟨_,_,q,e3,e2⟩:=aY e2;cases q
 obtain ⟨_,_,q,e4,e2⟩:=aY e2;cases q
 obtain ⟨_,_,q,e5,e2⟩:=aY e2;cases q
 refine Subscript_ (h1 _ _ _ e1 A env X s rm R _ _ fun x X1 s1 R1 v1 r1=>wpAny_Slice (mU e3 hlo rm R1 fun a1 X2 s2 R2 v2 p1=>mU e4 hhi rm R2 fun a2 X3 s3 R3 v3 p2=>mU e5 hst rm R3 fun a3 X4 s4 R4 v4 p3=>?_))
 have r4:=v4.rel R3.S R3.pz (v3.rel R2.S R2.pz (v2.rel R1.S R1.pz r1))
 obtain ⟨S5,v5⟩:=R4.S.grow0 (Grow.push { cls:=.type "slice",data:=.fields #[a1,a2,a3] })
 have R5:=R4.evo0 S5 v5
 have r5:=v5.rel R4.S (fun _ h=>h.elim) r4
 refine tail_any (hT X4 _ x S5 r5) hl (h3 A X4 _ x _ _ _ _ rm S5 r5 (Heap.IsSliceOf.new _ _ _ _) p1 p2 p3 _ _ fun z X6 s6 S6 v6 r6=>hQ z X6 s6 (R5.evo0 S6 v6) (((((v1.trans v2).trans v3).trans v4).trans v5.of0).trans v6.of0) r6) (ops:=match se with | none=>[.ref s4.heap.objs.size,x] | some _=>[x,.ref s4.heap.objs.size]) ?_
 cases se<;>rfl
theorem pf {n sc} {env:Env} {pos:Pos}:∀ {es:List Expr} {es':List Ex},mapO (aE n sc) es=some es'->(backTo pos (starEach es env)).any (·.1)=false
 | [],_,_=>rfl
 | e::es,es',h=>by
   obtain ⟨e',es'',h1,h2,_⟩:=b2 h
   rw [dN h1]
   show (false||(backTo pos (starEach es env)).any (·.1))=false
   rw [pf h2];rfl
theorem ml {A:Around} {n sc} {env:Env} {pos:Pos} {f:Value} {es:List Expr} {es':List Ex} {s:Shared} {Q:Args->Shared->Prop} {E:Value->Shared->Prop} (h:mapO (aE n sc) es=some es')
 (hq:wpAny (model C.prog C.w) A (spliced (backTo pos (starEach es env))) (fun vs s'=>Q ⟨vs,[]⟩ s') E s):wpAny (model C.prog C.w) A (evalArgs f true (backTo pos (starEach es env)) []) Q E s:=by
 cases es with
 | nil =>
   show wpAny _ A (evalArgs f true [] []) Q E s
   unfold evalArgs
   show wpAny _ A (spliced [] >>= _) Q E s
   refine wpAny_bind (wpAny_mono hq (fun vs s' h'=>?_) fun _ _ x=>x)
   refine wpAny_holding ?_
   exact wpAny_bind (wpAny_pure (wpAny_bind (wpAny_pure (wpAny_pure h'))))
 | cons e es =>
   obtain ⟨e',es'',h1,h2,_⟩:=b2 h
   rw [dN h1] at hq ⊢
   exact Calls.evalArgs_plain hq
theorem x7 {A:Around} {n sc} {env:Env} {pos:Pos} {f:Value} {first:List Value} {es:List Expr} {es':List Ex} {s:Shared} {Q:Value->Shared->Prop} {E:Value->Shared->Prop} (hf:Fn C f) (h:mapO (aE n sc) es=some es')
 (hq:wpAny (model C.prog C.w) A (spliced (backTo pos (starEach es env))) (fun vs s'=>(∃ σ X,SRel C σ X s')/\wpAny (model C.prog C.w) A (call f (first++vs)) Q E s') E s) :
 wpAny (model C.prog C.w) A (callWith pos f first (backTo pos (starEach es env)) []) Q E s:=by
 cases hf with
 | bi id=>exact Calls.callWith_builtin (pf h) (ml h (wpAny_mono hq (fun _ _ x=>x.2) fun _ _ x=>x))
 | ty T=>exact PySem.callWith_type (pf h) (ml h (wpAny_mono hq (fun _ _ x=>x.2) fun _ _ x=>x))
 | fn a o fd ho ha hd =>
   refine Calls.callWith_function (o:=o) (fd:=fd) (ml h (wpAny_mono hq (fun vs s' x=>?_) fun _ _ x=>x))
   obtain ⟨⟨σ,X,S⟩,x⟩:=x
   exact ⟨⟨S.base _ _ ho ha,hd⟩,x⟩
theorem pH {f:Ex} {l:List Ex} {vf v:V} {fv:Value} {vs:List V} (h1:EvE C k f ρ σ vf σ1) (hv:∀ X n h a,VRel C X n h vf a->a=fv) (hf:Fn C fv) (h2:EvL C k l ρ σ1 vs σ2) (h3:FnOk C k fv vs σ2 v σ3) :
 EvE C k (.call f l) ρ σ v σ3:=by
 intro n sc e h A env X s rm R Q E hQ
 cases erI h
 rename_i n fe as p hne e1 e2
 have he:eval (.Call fe as [] p) env=(do callWith p (<-eval fe env) [] (backTo p (starEach as env)) (backToKw p (keywordEach [] env))):=by
  cases fe<;>first | rfl | exact bF hne.symm
 rw [he]
 refine wpAny_bind (h1 _ _ _ e1 A env X s rm R _ _ fun x X1 s1 R1 v1 r1=>?_)
 obtain rfl:=hv _ _ _ _ r1
 refine x7 hf e2 (h2 _ _ _ e2 A env X1 s1 p rm R1 _ _ fun as X2 s2 R2 v2 r2=>⟨⟨_,_,R2.S⟩,?_⟩)
 exact h3 A X2 s2 as rm R2.S r2 _ _ fun z X3 s3 S3 v3 r3=>hQ z X3 s3 (R2.evo0 S3 v3) ((v1.trans v2).trans v3.of0) r3
theorem ia {o:Expr} {name:Str} {env:Env} {t:Sem Value} (h:eQ o=false):attributeBase o name env t=t:=by
 cases o with
 | Call f a k p =>
   cases f with
   | Name x q =>
     cases a with
     | nil =>
       cases k with
       | nil=>cases h
       | cons _ _=>exact Eq.refl t
     | cons _ _=>exact Eq.refl t
   | _=>exact Eq.refl t
 | _=>exact Eq.refl t
theorem cL {o:Ex} {m:Nm} {l:List Ex} {vo v:V} {fv:Value} {vs:List V} (h1:EvE C k o ρ σ vo σ1) (hm:vq C vo σ1 m fv) (hf:Fn C fv) (h2:EvL C k l ρ σ1 vs σ2) (h3:FnOk C k fv (vo::vs) σ2 v σ3) :
 EvE C k (.meth o m l) ρ σ v σ3:=by
 intro n sc e h A env X s rm R Q E hQ
 cases erI h
 rename_i n oe m p' as p hs hp hlen e1 e2 hn
 subst hn
 have hform:methodCallForm (as.length+([]:List Keyword).length) (backTo p (starEach as env)) (backToKw p (keywordEach [] env))=true:=by
  have h0:(backTo p (starEach as env)).all (fun x=>!x.1)=true:=by
   rw [List.all_eq_true]
   intro x hx
   have:=pf (pos:=p) (env:=env) e2
   rw [List.any_eq_false] at this
   exact Iff.mpr bi_not (this x hx)
  unfold methodCallForm
  rw [h0]
  rw [show backToKw p (keywordEach [] env)=[] from rfl]
  simp
  exact Nat.lt_succ_of_lt hlen
 have hpos:methodCallPos true oe env p' p=pure p:=by unfold methodCallPos;exact if_pos hp
 rw [arm_eval_Call,ia hs]
 refine wpAny_bind (h1 _ _ _ e1 A env X s rm R _ _ fun x X1 s1 R1 v1 r1=>wpAny_bind (wpAny_standAt ?_))
 unfold methodCall
 rw [hform]
 refine wpAny_bind (wpAny_holding ?_)
 show wpAny _ A (getMethod x m _) _ _ s1
 have hm':=hm A X1 s1 x (do return (<-importBound oe env).getD true) R1.S r1
 rw [aK] at hm'
 refine hm' _ _ (wpAny_bind (wpAny_of_eq hpos ?_))
 refine x7 hf e2 (h2 _ _ _ e2 A env X1 s1 p rm R1 _ _ fun as X2 s2 R2 v2 r2=>⟨⟨_,_,R2.S⟩,?_⟩)
 exact h3 A X2 s2 (x::as) rm R2.S (.cons (v2.rel R1.S R1.pz r1) r2) _ _ fun z X3 s3 S3 v3 r3=>hQ z X3 s3 (R2.evo0 S3 v3) ((v1.trans v2).trans v3.of0) r3
end
end
section
open PySem PyProof.Rows
theorem qX (h:Heap) (a:Addr) (f:Obj->Obj):(h.update a f).objs.size=h.objs.size:=(Heap.SameBut.update h a f).1
theorem lB {M:Model} {Γ:Ctx} {p:Pos} {t:Sem Fin} {fs:List Frame} {s s':Shared} {e:End} (h:Runs M Γ p t fs s e s'):s.heap.objs.size<=s'.heap.objs.size:=by
 induction h<;>(try simp only [Shared.setGen,Heap.size_push,qX] at *)<;>lia -abstractProof
theorem qd {M:Model} {Γ:Ctx} {p:Pos} {s s':Shared} {r:Result} (h:Returns M Γ p s r s'):s.heap.objs.size<=s'.heap.objs.size:=lB h
theorem ti {M:Model} {Γ:Ctx} {p:Pos} {g:Nat} {r:Resume} {s s':Shared} {res:GenResult} (h:Wakes M Γ p g r s res s'):s.heap.objs.size<=s'.heap.objs.size:=by
 unfold Wakes at h
 split at h
 ·exact h.elim
 ·split at h
  ·obtain ⟨e₁,s₁,hr,_,_,rfl⟩:=h;exact (lB hr:(s.setGen g .running).heap.objs.size<=s₁.heap.objs.size)
  ·rw [h.2];exact Nat.le_refl _
  ·rw [h.2];exact Nat.le_refl _
 ·obtain ⟨e₁,s₁,hr,_,_,rfl⟩:=h;exact (lB hr:(s.setGen g .running).heap.objs.size<=s₁.heap.objs.size)
 ·rw [h.2];exact Nat.le_refl _
 ·rw [h.2];exact Nat.le_refl _
theorem zV {α:Type} (M:Model) (Γ:Ctx) (n:Nat) (t:Sem α):∀ (Q:α->Pos->Shared->Prop) (E:Value->Pos->Shared->Prop) (p:Pos) (s:Shared),n<=s.heap.objs.size->Sem.wp M Γ t Q E p s ->
 Sem.wp M Γ t (fun a p' s'=>n<=s'.heap.objs.size/\Q a p' s') (fun e p' s'=>n<=s'.heap.objs.size/\E e p' s') p s:=by
 induction t with
 | pure a=>intro Q E p s hn h;exact ⟨hn,h⟩
 | raise e=>intro Q E p s hn h;exact ⟨hn,h⟩
 | unsupported _=>intro Q E p s _ h;exact h
 | finish _=>intro Q E p s _ h;exact h
 | rule _ k ih=>intro Q E p s hn h;exact ih () Q E p s hn h
 | «at» p' k ih=>intro Q E p s hn h;exact ih () Q E p' s hn h
 | load a _ k ih=>intro Q E p s hn h;obtain ⟨o,ho,h⟩:=h;exact ⟨o,ho,ih o Q E p s hn h⟩
 | update a _ f k ih=>intro Q E p s hn h;exact ⟨h.1,ih () Q E p _ (by show n<=(s.heap.update a f).objs.size;rw [qX];exact hn) h.2⟩
 | loadIfAlive a k ih=>intro Q E p s hn h;exact ih _ Q E p s hn h
 | point _ k ih=>intro Q E p s hn h;exact ih () Q E p s hn h
 | register _ _=>intro Q E p s _ h;exact h
 | alloc o k ih=>intro Q E p s hn h;exact ih _ Q E p _ (by show n<=(s.heap.push o).objs.size;rw [Heap.size_push];exact Nat.le_add_right_of_le hn) h
 | fresh k ih=>intro Q E p s hn h;exact ih _ Q E p _ hn h
 | ask k ih=>intro Q E p s hn h;exact ih _ Q E p s hn h
 | choose src m k ih=>intro Q E p s hn h;exact ⟨h.1,ih _ Q E p _ hn h.2⟩
 | os q _ k ih=>intro Q E p s hn h;exact ih _ Q E p _ hn h
 | call c hd _ _ k ih=>intro Q E p s hn h;obtain ⟨r,s',hr,h⟩:=h;exact ⟨r,s',hr,ih r Q E p s' (Nat.le_trans hn (qd hr)) h⟩
 | handled own k ih=>intro Q E p s hn h;exact ih _ Q E p s hn h
 | genState g k ih=>intro Q E p s hn h;obtain ⟨st,hs,h⟩:=h;exact ⟨st,hs,ih _ Q E p s hn h⟩
 | newGen c k ih=>intro Q E p s hn h;exact ih _ Q E p _ hn h
 | resume g r _ k ih=>intro Q E p s hn h;obtain ⟨res,s',hw,h⟩:=h;exact ⟨res,s',hw,ih res Q E p s' (Nat.le_trans hn (ti hw)) h⟩
 | yield _ _ _ _=>intro Q E p s _ h;exact h
 | stack k ih=>intro Q E p s hn h;exact ih _ Q E p s hn h
 | fork _ _=>intro Q E p s _ h;exact h
 | thread k ih=>intro Q E p s hn h;exact ih _ Q E p s hn h
 | await _ _ _ _ _=>intro Q E p s _ h;exact h
theorem cA {α:Type} {M:Model} {A:Around} {s:Shared} {t:Sem α} {Q:α->Shared->Prop} {E:Value->Shared->Prop}
 (h:wpAny M A t (fun a s'=>s.heap.objs.size<=s'.heap.objs.size->Q a s') E s):wpAny M A t Q E s :=
 fun Γ p hΓ=>Sem.wp_mono M Γ t (fun _ _ _ x=>x.2 x.1) (fun _ _ _ x=>x.2) p s (zV M Γ s.heap.objs.size t _ _ p s (Nat.le_refl _) (h Γ p hΓ))
end
section
open PySem PyProof.Rows
theorem SRel.priv {C σ X s s'} (S:SRel C σ X s) (P:Addr->Prop) (hz:∀ b,P b->¬ X.Z b) (hw:∀ b,P b->¬ Wr C σ X b) (keep:∀ b o,¬ P b->s.heap.get? b=some o->s'.heap.get? b=some o)
 (size:s.heap.objs.size<=s'.heap.objs.size) (os:s'.os=s.os) (gens:s'.gens=s.gens):SRel C σ X s'/\Evo C P σ X s σ X s':=by
 have kz:∀ b o,X.Z b->s.heap.get? b=some o->s'.heap.get? b=some o:=fun b o z e=>keep b o (fun p=>hz b p z) e
 have kw:∀ b o,Wr C σ X b->s.heap.get? b=some o->s'.heap.get? b=some o:=fun b o w e=>keep b o (fun p=>hw b p w) e
 refine ⟨⟨fun b o e n=>kz _ _ (S.zb b o e n) (S.base b o e n),S.tab.imp fun ps t=>⟨kw _ _ (.inl rfl) t.1,t.2.mono kz fun _ z=>z⟩,S.zb,fun b z=>(S.zl b z).imp fun o e=>kz _ _ z e,os.trans S.os,gens.trans S.gens,S.lt,fun l o e=>?_,S.apart,S.zw,
  fun b w=>(S.wl b w).imp fun o e=>kw _ _ w e⟩,⟨size,fun b o e _ np=>keep b o np e,fun _ z=>z,fun _ z=>.inl z,fun _ w=>.inl w,Nat.le_refl _,fun _ _=>⟨rfl,rfl,rfl⟩⟩⟩
 exact (S.obj l o e).mono kz (fun b o' m g=>kw b o' (.inr ⟨l,o,e,m⟩) g) (fun _ z=>z) (Nat.le_refl _) (fun _ _=>⟨rfl,rfl,rfl⟩) (S.lt l o e)
section
variable {C:Cx} {k:Nat} {ρ:Loc} {σ:Sto}
theorem pX {kd:Option NameKind} (h:iG kd=true):kd=some .local\/kd=some .cell:=by
 cases kd with
 | none=>cases h
 | some x=>cases x<;>first | exact .inl rfl | exact .inr rfl | cases h
theorem gR {A:Around} {env:Env} {sc:Scope} {X:Wld} {s:Shared} {x:Str} {v:V} {a:Value} {Q:Unit->Shared->Prop} {E:Value->Shared->Prop} (R:Rel C env sc ρ σ X s) (hk:iG (kindIn sc x)=true)
 (r:VRel C X σ.next s.heap v a) (hQ:∀ X' s',Rel C env sc (put ρ (nm x) v) σ X' s'->Evo C (Pl env) σ X s σ X' s'->Q () s'):wpAny (model C.prog C.w) A (storeName env x a) Q E s:=by
 have hx:ao (nm x)=x:=aK x
 have hname:∀ y:Nm,ao y=x↔y=nm x:=fun y=>⟨fun e=>by exact oj e,fun e=>by rw [e,hx]⟩
 rcases pX hk with hk | hk
 ·obtain ⟨m,hm,q⟩:=R.F.ns
  refine wpAny_storeName_local (R.F.kl x hk) hm (fun h' hn hs=>?_) (by rw [R.F.kind];rfl)
  obtain ⟨S',e⟩:=R.S.priv (s':={ s with heap:=h',toks:=s.toks+1 }) (fun b=>b=env.locals) (fun b h=>by subst h;exact R.pz _ (.inl rfl)) (fun b h=>by subst h;exact R.pw _ (.inl rfl))
   (fun b o nb g=>(hs.2 b nb).trans g) (Nat.le_of_eq hs.1.symm) rfl rfl
  have ev:Evo C (Pl env) σ X s σ X { s with heap:=h',toks:=s.toks+1 }:=e.weak fun b h=>.inl h
  have vr:∀ {v a},VRel C X σ.next s.heap v a->VRel C X σ.next h' v a:=fun r=>e.rel R.S (fun b h=>by subst h;exact R.pz _ (.inl rfl)) r
  have cell:∀ {c w},c≠env.locals->s.heap.IsCell c w->h'.IsCell c w:=fun hc ⟨o,g,d⟩=>⟨o,(hs.2 _ hc).trans g,d⟩
  refine hQ X _ ⟨S',⟨R.F.kind,R.F.kl,R.F.kc,R.F.kf,R.F.kg,R.F.gl,R.F.bt,⟨_,hn,fun y u e1 ky=>?_⟩,R.F.cl,fun y u e1 ky=>?_,fun y c e1=>?_,R.F.apart,R.F.ne⟩,R.pz,R.pw⟩ ev
  ·rw [bN] at e1
   by_cases hy:y=nm x
   ·subst hy
    rw [if_pos rfl] at e1
    cases e1
    exact ⟨a,by exact if_pos hx,vr r⟩
   ·rw [if_neg hy] at e1
    obtain ⟨a',e2,r2⟩:=q y u e1 ky
    exact ⟨a',by rw [if_neg (fun h=>hy ((hname y).mp h))];exact e2,vr r2⟩
  ·rw [bN] at e1
   by_cases hy:y=nm x
   ·subst hy
    rw [hx,hk] at ky
    rcases ky with h | h<;>cases h
   ·rw [if_neg hy] at e1
    obtain ⟨c,a',e2,hc,r2⟩:=R.F.cv y u e1 ky
    exact ⟨c,a',e2,cell (R.F.ne _ _ e2) hc,vr r2⟩
  ·obtain ⟨w,hc⟩:=R.F.live y c e1
   exact ⟨w,cell (R.F.ne _ _ e1) hc⟩
 ·obtain ⟨c,hc⟩:=R.F.cl x (.inl hk)
  obtain ⟨w0,hw0⟩:=R.F.live x c hc
  refine wpAny_storeName_cell R.F.kind (R.F.kc x hk) hc hw0 fun h' hc' hs=>?_
  have pc:Pl env c:=.inr ⟨x,hc⟩
  obtain ⟨S',e⟩:=R.S.priv (s':={ s with heap:=h' }) (fun b=>b=c) (fun b h=>by subst h;exact R.pz _ pc) (fun b h=>by subst h;exact R.pw _ pc)
   (fun b o nb g=>(hs.2 b nb).trans g) (Nat.le_of_eq hs.1.symm) rfl rfl
  have ev:Evo C (Pl env) σ X s σ X { s with heap:=h' }:=e.weak fun b h=>by subst h;exact pc
  have vr:∀ {v a},VRel C X σ.next s.heap v a->VRel C X σ.next h' v a:=fun r=>e.rel R.S (fun b h=>by subst h;exact R.pz _ pc) r
  refine hQ X _ ⟨S',⟨R.F.kind,R.F.kl,R.F.kc,R.F.kf,R.F.kg,R.F.gl,R.F.bt,?_,R.F.cl,fun y u e1 ky=>?_,fun y c' e1=>?_,R.F.apart,R.F.ne⟩,R.pz,R.pw⟩ ev
  ·obtain ⟨m,hm,q⟩:=R.F.ns
   refine ⟨m,hm.sameBut hs (Ne.symm (R.F.ne _ _ hc)),fun y u e1 ky=>?_⟩
   rw [bN] at e1
   by_cases hy:y=nm x
   ·subst hy;rw [hx,hk] at ky;cases ky
   ·rw [if_neg hy] at e1
    obtain ⟨a',e2,r2⟩:=q y u e1 ky
    exact ⟨a',e2,vr r2⟩
  ·rw [bN] at e1
   by_cases hy:y=nm x
   ·subst hy
    rw [if_pos rfl] at e1
    cases e1
    exact ⟨c,a,by rw [hx];exact hc,hc',vr r⟩
   ·rw [if_neg hy] at e1
    obtain ⟨c2,a',e2,hc2,r2⟩:=R.F.cv y u e1 ky
    refine ⟨c2,a',e2,?_,vr r2⟩
    obtain ⟨o,g,d⟩:=hc2
    exact ⟨o,(hs.2 _ fun q=>hy ((hname y).mp (R.F.apart _ _ c (q▸e2) hc))).trans g,d⟩
  ·by_cases hcc:c'=c
   ·subst hcc;exact ⟨_,hc'⟩
   ·obtain ⟨w,o,g,d⟩:=R.F.live y c' e1
    exact ⟨w,o,(hs.2 _ hcc).trans g,d⟩
noncomputable def bD:Loc->List Nm->List V->Loc
 | ρ,x::xs,v::vs=>bD (put ρ x v) xs vs
 | ρ,_,_=>ρ
noncomputable def jj:V->Option (List V)
 | .tup vs=>some vs
 | .list vs=>some vs
 | _=>none
noncomputable def bI (ρ:Loc) (xs:List Nm) (v:V):Option Loc :=
 match xs with
 | [x]=>some (put ρ x v)
 | xs=>(jj v).bind fun vs=>bif Nat.beq vs.length xs.length then some (bD ρ xs vs) else none
theorem mF {ρ ρ':Loc} {xs:List Nm} {v:V} (h:((jj v).bind fun vs=>bif Nat.beq vs.length xs.length then some (bD ρ xs vs) else none)=some ρ'):∃ vs,jj v=some vs/\vs.length=xs.length/\ρ'=bD ρ xs vs:=by
 obtain ⟨vs,hi,hc⟩:=Option.bind_eq_some_iff.mp h
 cases hl:Nat.beq vs.length xs.length with
 | false=>rw [hl] at hc;cases hc
 | true=>rw [hl] at hc;exact ⟨vs,hi,Nat.eq_of_beq_eq_true hl,(Option.some.inj hc).symm⟩
theorem oM {ρ ρ':Loc} {xs:List Nm} {v:V} (h:2<=xs.length) (hb:bI ρ xs v=some ρ'):∃ vs,jj v=some vs/\vs.length=xs.length/\ρ'=bD ρ xs vs:=by
 cases xs with
 | nil=>cases h
 | cons x xs =>
   cases xs with
   | nil=>exact absurd h (Nat.not_succ_le_self 1)
   | cons y ys=>exact mF hb
theorem eH {sc:Scope} {e:Expr} {y:Nm} (h:fK sc e=some y):∃ x p,e=.Name x p/\dg x=false/\iG (kindIn sc x)=true/\y=nm x:=by
 obtain ⟨⟨x,p⟩,h1,h⟩:=Option.bind_eq_some_iff.mp h
 obtain ⟨hb,h⟩:=k0 h
 obtain ⟨ho,h⟩:=jL h
 exact ⟨x,p,oy h1,hb,ho,(Option.some.inj h).symm⟩
theorem iy {sc:Scope} {e:Expr} {xs:List Nm} (h:cn sc e=some xs):(∃ x p y,e=.Name x p/\fK sc e=some y/\xs=[y])\/∃ l k p,e=.Tuple l k p/\mapO (fK sc) l=some xs/\2<=xs.length:=by
 cases hq:qx e with
 | some q =>
   obtain ⟨y,h1,h2⟩:=Option.map_eq_some_iff.mp ((congrArg (wH sc e) hq).symm.trans h)
   exact .inl ⟨q.1,q.2,y,oy hq,h1,h2.symm⟩
 | none =>
   obtain ⟨q,h1,h2⟩:=Option.bind_eq_some_iff.mp ((congrArg (wH sc e) hq).symm.trans h)
   obtain ⟨ys,h2,h3⟩:=Option.bind_eq_some_iff.mp h2
   by_cases hl:2<=ys.length
   ·rw [if_pos hl] at h3;cases h3;exact .inr ⟨q.1,q.2.1,q.2.2,xf h1,h2,hl⟩
   ·rw [if_neg hl] at h3;cases h3
theorem yV {A:Around} {env:Env} {sc:Scope} {E:Value->Shared->Prop} (elts:List Expr):∀ {ys:List Nm} {vs:List V} {as:List Value} {ρ:Loc} {X:Wld} {s:Shared} {Q:Unit->Shared->Prop},mapO (fK sc) elts=some ys->Rel C env sc ρ σ X s ->
 VsRel C X σ.next s.heap vs as->vs.length=ys.length->(∀ X' s',Rel C env sc (bD ρ ys vs) σ X' s'->Evo C (Pl env) σ X s σ X' s'->Q () s')->wpAny (model C.prog C.w) A (assignInOrder ((assignEach elts env).map (·.2)) as) Q E s:=by
 induction elts with
 | nil =>
   intro ys vs as ρ X s Q h R r hl hQ
   obtain rfl:=Option.some.inj h
   obtain rfl:=List.eq_nil_of_length_eq_zero hl
   exact wpAny_pure (hQ X s R .refl)
 | cons e elts ih =>
   intro ys vs as ρ X s Q h R r hl hQ
   obtain ⟨y,ys',h1,h2,rfl⟩:=b2 h
   obtain ⟨v,vs,rfl,hl⟩:=qY hl
   obtain ⟨x,p,rfl,hb,ho,rfl⟩:=eH h1
   obtain ⟨a,as',rfl,r1,r2⟩:=r
   refine wpAny_bind (wpAny_holding (wpAny_assign_Name (gR R ho r1 fun X1 s1 R1 v1=>?_)))
   exact ih h2 R1 (v1.rels R.S R.pz r2) (by assumption) fun X2 s2 R2 v2=>hQ X2 s2 R2 (v1.trans v2)
theorem yd {n:Nat} {sc:Scope} {env:Env} {elts:List Expr}:∀ {ys:List Nm},mapO (fK sc) elts=some ys->(assignEach elts env).length=ys.length/\(assignEach elts env).findIdx? (·.1)=none:=by
 induction elts with
 | nil=>intro ys h;obtain rfl:=Option.some.inj h;exact ⟨rfl,rfl⟩
 | cons e elts ih =>
   intro ys h
   obtain ⟨y,ys',h1,h2,rfl⟩:=b2 h
   obtain ⟨x,p,rfl,hb,ho,rfl⟩:=eH h1
   obtain ⟨a,b⟩:=ih h2
   refine ⟨congrArg (·+1) a,?_⟩
   show ((false,assign (.Name x p) env)::assignEach elts env).findIdx? (·.1)=none
   rw [List.findIdx?_cons]
   simp only [b]
   rfl
theorem nJ {A:Around} {X:Wld} {s:Shared} {v:V} {a:Value} {vs:List V} {Q:List Value->Shared->Prop} {E:Value->Shared->Prop} (hh:A.handled=none) (S:SRel C σ X s) (r:VRel C X σ.next s.heap v a) (hi:jj v=some vs)
 (hQ:∀ as s',Grow s s'->VsRel C X σ.next s'.heap vs as->Q as s'):wpAny (model C.prog C.w) A (unpackItems a vs.length none) Q E s:=by
 have fin:∀ (items:Array Value) (h':Heap),VsRel C X σ.next s.heap vs items.toList->Heap.ExtBut s.heap.objs.size s.heap h'->s.heap.objs.size<=h'.objs.size->Q items.toList { s with heap:=h' }:=fun items h' r he hs=>by
  have G:Grow s { s with heap:=h' }:=⟨fun b o e=>he b o (Nat.ne_of_lt (Heap.lt_size e)) e,hs,rfl,rfl⟩
  exact hQ _ _ G (r.mono (fun b o _ e=>G.keep b o e) (fun _ z=>z) (Nat.le_refl _) fun _ _=>rfl)
 cases v with
 | tup us =>
   cases hi
   obtain ⟨p,items,kk,rfl,z,g,q⟩:=r
   have e:vs.length=items.size:=by rw [<-q.length];dsimp
   rw [e]
   exact cA (wpAny_unpackItems_tuple hh ⟨_,g,rfl,_,rfl⟩ fun h' he hs=>fin _ _ q he hs)
 | list us =>
   cases hi
   obtain ⟨p,items,kk,rfl,z,g,q⟩:=r
   have e:vs.length=items.size:=by rw [<-q.length];dsimp
   rw [e]
   exact cA (PySem.W.kun_itemsOf hh ⟨_,g,rfl,_,rfl⟩ fun h' he hs=>fin _ _ q he hs)
 | _=>cases hi
theorem asg {A:Around} {env:Env} {sc:Scope} {X:Wld} {s:Shared} {t:Expr} {xs:List Nm} {v:V} {a:Value} {ρ':Loc} {Q:Unit->Shared->Prop} {E:Value->Shared->Prop} (hh:A.handled=none) (ht:cn sc t=some xs) (hb:bI ρ xs v=some ρ') (R:Rel C env sc ρ σ X s)
 (r:VRel C X σ.next s.heap v a) (hQ:∀ X' s',Rel C env sc ρ' σ X' s'->Evo C (Pl env) σ X s σ X' s'->Q () s'):wpAny (model C.prog C.w) A (assign t env a) Q E s:=by
 rcases iy ht with ⟨x,p,y,rfl,h1,rfl⟩ | ⟨l,kk,p,rfl,h1,h2⟩
 ·obtain ⟨x',p',e,hbn,ho,rfl⟩:=eH h1
  cases e
  cases hb
  exact wpAny_assign_Name (gR R ho r hQ)
 ·obtain ⟨e1,e2⟩:=yd (n:=0) (env:=env) h1
  obtain ⟨vs,hi,hl,rfl⟩:=oM h2 hb
  simp only [arm_assign_Tuple]
  refine wpAny_bind (wpAny_standAt ?_)
  unfold unpack
  rw [e1,e2,<-hl]
  refine wpAny_bind (wpAny_holding (nJ hh R.S r hi fun as s1 G r1=>?_))
  obtain ⟨R1,v1⟩:=R.grown G
  exact yV l h1 R1 r1 hl fun X2 s2 R2 v2=>hQ X2 s2 R2 (v1.trans v2)
end
end
section
open PySem PyProof.Rows
noncomputable def fresh (ρ:Loc):List Nm->Bool
 | []=>true
 | x::xs=>(get ρ x).isNone&&fresh ρ xs
theorem wg {ρ:Loc} {y:Nm} {xs:List Nm} (h:fresh ρ xs=true) (hy:y∈xs):get ρ y=none:=by
 induction xs with
 | nil=>cases hy
 | cons x xs ih =>
   obtain ⟨h1,h2⟩:=Bool.and_eq_true_iff.mp h
   rcases List.mem_cons.mp hy with rfl | hy
   ·exact Option.isNone_iff_eq_none.mp h1
   ·exact ih h2 hy
theorem qh {y:Nm} {xs:List Nm} (h:y∉xs):∀ (vs:List V) (ρ:Loc),get (bD ρ xs vs) y=get ρ y:=by
 induction xs with
 | nil=>intro vs ρ;cases vs<;>rfl
 | cons x xs ih =>
   intro vs ρ
   cases vs with
   | nil=>rfl
   | cons v vs=>exact (ih (fun q=>h (.tail _ q)) vs (put ρ x v)).trans ((bN ρ x v y).trans (if_neg fun q=>h (by rw [q];exact .head _)))
theorem ib {ρ ρ1:Loc} {xs:List Nm} {v:V} (hb:bI ρ xs v=some ρ1) (hf:fresh ρ xs=true):∀ x u,get ρ x=some u->get ρ1 x=some u:=by
 intro x u e
 have hx:x∉xs:=fun q=>bF ((wg hf q).symm.trans e)
 have tl:(∃ vs,jj v=some vs/\vs.length=xs.length/\ρ1=bD ρ xs vs)->get ρ1 x=some u:=fun ⟨vs,_,_,q⟩=>by rw [q,qh hx];exact e
 cases xs with
 | nil=>exact tl (mF hb)
 | cons y ys =>
   cases ys with
   | nil=>rw [<-Option.some.inj hb,bN,if_neg (fun q=>hx (by rw [q];exact .head _))];exact e
   | cons z zs=>exact tl (mF hb)
noncomputable def aZ (lo:Int):Nat->List V
 | 0=>[]
 | n+1=>.int lo::aZ (lo+1) n
noncomputable def dk:V->Option (List V)
 | .list vs=>some vs
 | .tup vs=>some vs
 | .rng lo hi=>some (aZ lo (hi - lo).toNat)
 | .str s=>some (s.map fun c=>.str [c])
 | _=>none
theorem lT (lo:Int) (n:Nat):(aZ lo n).length=n:=by
 induction n generalizing lo with
 | zero=>rfl
 | succ n ih=>exact congrArg (·+1) (ih (lo+1))
theorem ql (n:Nat):∀ (lo:Int) (j:Nat),j<n->(aZ lo n)[j]?=some (.int (lo+j)):=by
 induction n with
 | zero=>intro lo j h;cases h
 | succ n ih =>
   intro lo j h
   cases j with
   | zero=>exact congrArg (fun i=>some (V.int i)) (Int.add_zero lo).symm
   | succ j=>exact (ih (lo+1) j (Nat.lt_of_succ_lt_succ h)).trans (congrArg (fun i=>some (V.int i)) (by lia -abstractProof))
noncomputable def fJ:V->Bool
 | .rng lo hi=>Builtin.Range.small lo hi 1
 | _=>true
structure Itr (C:Cx) (X:Wld) (n0:Nat) (A:Around) (vs:List V) (s:Shared) (I:Addr) (fp:List Addr) (n:Nat) (P:Nat->Value->Prop) (St:Nat->Heap->Prop):Prop where
 W:Walks C.prog C.w A I fp [I] n P St
 st:St 0 s.heap
 len:vs.length=n
 val:∀ j a,j<n->P j a->∃ u,vs[j]?=some u/\VRel C X n0 s.heap u a
 own:∀ j t v s' (Q:Unit->Shared->Prop) (E:Value->Shared->Prop),St j s'.heap->Q () s'->wpAny (model C.prog C.w) A (letOwnedTupleGo t (.ref I) v) Q E s'
 mem:I∈fp
 zs:∀ b∈fp,b=I\/X.Z b
theorem lot {P:Sem Unit->Prop} {t:Expr} {it v:Value} {p:Pos} (h1:P (letOwnedTupleGo (.List [] p) it v)) (h2:P (pure ())):P (letOwnedTupleGo t it v):=by
 cases t<;>first | exact h2 | exact h1
theorem gD {M:Model} {A:Around} {E:Value->Shared->Prop} {s:Shared} {t:Expr} {I:Addr} {v:Value} {o:Obj} {T:String} {fs:Array Value} {Q:Unit->Shared->Prop} (ho:s.heap.get? I=some o) (hc:o.cls=.type T) (hd:o.data=.fields fs)
 (hT:["enumerate", "zip", "dict_itemiterator", "dict_reverseitemiterator", "odict_iterator", "itertools.zip_longest", "itertools.pairwise"].contains T=false) (h:Q () s):wpAny M A (letOwnedTupleGo t (.ref I) v) Q E s:=by
 refine lot (P:=fun t=>wpAny M A t Q E s) (p:=default) ?_ (wpAny_pure h)
 unfold letOwnedTupleGo
 cases v<;>first
  | exact wpAny_pure h
  | (refine wpAny_bind (wpAny_load ho ?_)
     rw [hc,hd]
     simp only [hT,Bool.false_and,Bool.false_eq_true,if_false]
     exact wpAny_pure h)
section
variable {C:Cx} {k:Nat} {ρ:Loc} {σ:Sto}
theorem mP {A:Around} {X:Wld} {s:Shared} {src:V} {a:Value} {vs:List V} {Q:Value->Shared->Prop} {E:Value->Shared->Prop} (hA:A.handled=none) (S:SRel C σ X s) (r:VRel C X σ.next s.heap src a) (hi:dk src=some vs) (hsm:fJ src=true)
 (hQ:∀ I fp n P St s',Grow s s'->s.heap.objs.size<=I->(∃ o,s'.heap.get? I=some o)->Itr C X σ.next A vs s' I fp n P St->Q (.ref I) s'):wpAny (model C.prog C.w) A (pyIter a) Q E s:=by
 cases src with
 | list us =>
   cases hi
   obtain ⟨p,items,kk,rfl,z,g,q⟩:=r
   have hl:s.heap.IsList p items:=⟨_,g,rfl,_,rfl⟩
   have hne:p≠s.heap.objs.size:=Nat.ne_of_lt (Heap.lt_size g)
   refine wpAny_pyIter_list hl (hQ _ [s.heap.objs.size,p] items.size _ _ _ (Grow.push _) (Nat.le_refl _) ⟨_,Heap.get?_push_size _ rfl⟩
    ⟨Walks.list hA _ p hne items,⟨⟨_,Heap.get?_push_size _ rfl,rfl,rfl⟩,hl.push _⟩,by rw [<-q.length];dsimp,fun j a hj hP=>?_,fun j t v s' Q E st hq=>?_,by exact List.mem_cons_self,fun b hb=>?_⟩)
   ·have hP':items.toList[j]?=some a:=by simpa using hP
    obtain ⟨u,e,r⟩:=q.getA j hP'
    exact ⟨u,e,r.mono (fun b o _ e=>Heap.get?_push_of_some _ e) (fun _ z=>z) (Nat.le_refl _) fun _ _=>rfl⟩
   ·obtain ⟨o,ho,hc,hd⟩:=st.1
    exact gD ho hc hd (by rfl) hq
   ·simp only [List.mem_cons,List.not_mem_nil,or_false] at hb
    rcases hb with rfl | rfl
    ·exact .inl rfl
    ·exact .inr z
 | tup us =>
   cases hi
   obtain ⟨p,items,kk,rfl,z,g,q⟩:=r
   have hl:s.heap.IsTuple p items:=⟨_,g,rfl,_,rfl⟩
   have hne:p≠s.heap.objs.size:=Nat.ne_of_lt (Heap.lt_size g)
   refine wpAny_pyIter_tuple hl (hQ _ [s.heap.objs.size,p] items.size _ _ _ (Grow.push _) (Nat.le_refl _) ⟨_,Heap.get?_push_size _ rfl⟩
    ⟨Walks.tuple hA _ p hne items,⟨⟨_,Heap.get?_push_size _ rfl,rfl,rfl⟩,hl.push _⟩,by rw [<-q.length];dsimp,fun j a hj hP=>?_,fun j t v s' Q E st hq=>?_,by exact List.mem_cons_self,fun b hb=>?_⟩)
   ·have hP':items.toList[j]?=some a:=by simpa using hP
    obtain ⟨u,e,r⟩:=q.getA j hP'
    exact ⟨u,e,r.mono (fun b o _ e=>Heap.get?_push_of_some _ e) (fun _ z=>z) (Nat.le_refl _) fun _ _=>rfl⟩
   ·obtain ⟨o,ho,hc,hd⟩:=st.1
    exact gD ho hc hd (by rfl) hq
   ·simp only [List.mem_cons,List.not_mem_nil,or_false] at hb
    rcases hb with rfl | rfl
    ·exact .inl rfl
    ·exact .inr z
 | rng lo hi' =>
   cases hi
   obtain ⟨p,t,u,v,rfl,z,g⟩:=r
   refine wpAny_pyIter_range g hsm (hQ _ [s.heap.objs.size] (hi' - lo).toNat _ _ _ (Grow.push _) (Nat.le_refl _) ⟨_,Heap.get?_push_size _ rfl⟩
    ⟨Walks.range hA _ lo 1 _,?_,lT _ _,fun j a hj hP=>?_,fun j t v s' Q E st hq=>?_,by simp,fun b hb=>?_⟩)
   ·show IsRangeIter _ _ _ _ _
    have e:Builtin.Range.rangeSize lo hi' 1=((hi' - lo).toNat:Int):=by
     unfold Builtin.Range.rangeSize
     simp
     grind -abstractProof
    rw [e]
    simpa using Heap.get?_push_size _ rfl
   ·obtain ⟨t,rfl⟩:=hP
    exact ⟨_,ql _ _ _ hj,⟨_,by rw [Int.mul_one]⟩⟩
   ·exact gD st rfl rfl (by rfl) hq
   ·simp only [List.mem_cons,List.not_mem_nil,or_false] at hb
    exact .inl hb
 | str cs =>
   cases hi
   obtain ⟨t,rfl⟩:∃ t,a=.str (ao cs) t:=r
   have val:∀ j a,j<(ao cs).cps.size->SignAt (ao cs) j a->∃ u,(cs.map fun c=>V.str [c])[j]?=some u/\∀ h,VRel C X σ.next h u a:=fun j a hj ⟨c,u,e,h⟩=>by
    subst h
    have e':cs[j]?=some c:=by simpa using e
    exact ⟨.str [c],by simp [e'],fun h=>⟨_,rfl⟩⟩
   cases ha:(ao cs).cps.all (·<128)
   ·refine wpAny_pyIter_wide ha (hQ _ [s.heap.objs.size] (ao cs).cps.size _ _ _ (Grow.push _) (Nat.le_refl _) ⟨_,Heap.get?_push_size _ rfl⟩
     ⟨Walks.strWide hA _ _ t,⟨_,Heap.get?_push_size _ rfl,rfl,rfl⟩,by simp,fun j a hj hP=>let ⟨u,e,r⟩:=val j a hj hP;⟨u,e,r _⟩,fun j t v s' Q E st hq=>?_,by simp,fun b hb=>?_⟩)
    ·obtain ⟨o,ho,hc,hd⟩:=st
     exact gD ho hc hd (by rfl) hq
    ·simp only [List.mem_cons,List.not_mem_nil,or_false] at hb
     exact .inl hb
   ·refine wpAny_pyIter_ascii ha (hQ _ [s.heap.objs.size] (ao cs).cps.size _ _ _ (Grow.push _) (Nat.le_refl _) ⟨_,Heap.get?_push_size _ rfl⟩
     ⟨Walks.strAscii hA _ _ t,⟨_,Heap.get?_push_size _ rfl,rfl,rfl⟩,by simp,fun j a hj hP=>let ⟨u,e,r⟩:=val j a hj hP;⟨u,e,r _⟩,fun j t v s' Q E st hq=>?_,by simp,fun b hb=>?_⟩)
    ·obtain ⟨o,ho,hc,hd⟩:=st
     exact gD ho hc hd (by rfl) hq
    ·simp only [List.mem_cons,List.not_mem_nil,or_false] at hb
     exact .inl hb
 | _=>cases hi
end
end
section
open PySem PyProof.Rows
noncomputable def yj (C:Cx) (k:Nat):List Ex->Loc->Sto->Bool->Sto->Prop
 | [],_,σ,b,σ'=>b=true/\σ'=σ
 | [c],ρ,σ,b,σ'=>EvT C k c ρ σ b σ'
 | _,_,_,_,_=>False
inductive CompR (C:Cx) (k:Nat) (elt:Ex):List (List Nm)->List Ex->List (List Ex)->Loc->Sto->List V->List V->Sto->Prop
 | nil {t ts its cs ifs ρ σ}:CompR C k elt (t::ts) its (cs::ifs) ρ σ [] [] σ
 | skip {t ts its cs ifs ρ ρ1 σ σ1 σ2 v vs out} (hb:bI ρ t v=some ρ1) (hf:fresh ρ t=true) (ht:yj C k cs ρ1 σ false σ1) (hr:CompR C k elt (t::ts) its (cs::ifs) ρ σ1 vs out σ2) :
    CompR C k elt (t::ts) its (cs::ifs) ρ σ (v::vs) out σ2
 | emit {t cs ρ ρ1 σ σ1 σ2 σ3 v vs u out} (hb:bI ρ t v=some ρ1) (hf:fresh ρ t=true) (ht:yj C k cs ρ1 σ true σ1) (he:EvE C k elt ρ1 σ1 u σ2) (hr:CompR C k elt [t] [] [cs] ρ σ2 vs out σ3) :
    CompR C k elt [t] [] [cs] ρ σ (v::vs) (u::out) σ3
 | inner {t t2 ts it its cs cs2 ifs ρ ρ1 σ σ1 σ2 σ3 σ4 v vs src vs2 out2 out} (hb:bI ρ t v=some ρ1) (hf:fresh ρ t=true) (ht:yj C k cs ρ1 σ true σ1) (hi:EvE C k it ρ1 σ1 src σ2)
    (hs:dk src=some vs2) (hsm:fJ src=true) (h2:CompR C k elt (t2::ts) its (cs2::ifs) ρ1 σ2 vs2 out2 σ3) (hr:CompR C k elt (t::t2::ts) (it::its) (cs::cs2::ifs) ρ σ3 vs out σ4) :
    CompR C k elt (t::t2::ts) (it::its) (cs::cs2::ifs) ρ σ (v::vs) (out2++out) σ4
theorem kR {e:Expr} {env:Env} (h:gI e=true) (x:Value):foldedSetIterable e env x=pure x:=by
 cases e<;>first | exact Eq.refl (pure x) | cases h
noncomputable def kW (elt:Expr) (gens:List Comprehension) (scope:Scope) (pos:Pos) (d:Nat) (it acc:Value) (env:Env) (ok:Bool):Sem Fin:=do
 if ok then
  match gens[d+1]? with
  | some g'=>do
    let x <-eval g'.iter env
    standAt g'.iter.pos
    let x <-if g'.is_async != 0 then foldedIterable g'.iter x else foldedSetIterable g'.iter env x
    let _ <-runOwn (.compStart (.ListComp elt gens scope pos) (d+1) (<-holding [x] (if g'.is_async != 0 then asyncIter x else pyIter x)) acc env) env
  | none=>(do let _ <-call (.builtin "list.append") [acc,<-eval elt env])
 again (.compLoop (.ListComp elt gens scope pos) d it acc env)
theorem lJ (elt:Expr) (gens:List Comprehension) (scope:Scope) (pos:Pos) (d:Nat) (it acc:Value) (env:Env) (g:Comprehension) (hg:gens[d]?=some g) (ha:g.is_async=0) :
 compTurn (.ListComp elt gens scope pos) d it acc env=(do
  standAt g.iter.pos
  match <-pyNext it with
  | none=>pure (.done .next)
  | some v =>
    letOwnedTupleGo g.target it v
    assign g.target env v
    let ok <-forIn g.ifs true fun c r=>if r=true then do let ok <-isTrue c env (eval c env);pure (ForInStep.yield ok) else pure (ForInStep.yield r)
    kW elt gens scope pos d it acc env ok):=by
 unfold compTurn
 simp only [hg,ha]
 rfl
end
section
open PySem PyProof.Rows
section
variable {C:Cx} {k:Nat}
theorem nv {A:Around} {R:Result->Shared->Prop} {s:Shared} {elt:Expr} {gens:List Comprehension} {scope:Scope} {pos:Pos} {d:Nat} {it acc:Value} {env:Env} {g:Comprehension} (hg:gens[d]?=some g) (ha:g.is_async=0)
 (h0:codeAny (model C.prog C.w) A (.compLoop (.ListComp elt gens scope pos) d it acc env) R s)
 (h:wpAny (model C.prog C.w) A (pyIter it) (fun it' s'=>codeAny (model C.prog C.w) A (.compLoop (.ListComp elt gens scope pos) d it' acc env) R s') (notedBy (model C.prog C.w) A env fun x s'=>R (.error x) s') s) :
 codeAny (model C.prog C.w) A (.compStart (.ListComp elt gens scope pos) d it acc env) R s:=by
 refine codeAny_of_tree ?_
 show wpAny _ A ((compStart (.ListComp elt gens scope pos) d it acc env).onRaise (fun x=>do noteFrame x env;standAt theWindowsPlace)) _ _ s
 refine wpAny_notedAt ?_
 unfold compStart
 rw [show clausesOf (.ListComp elt gens scope pos)=gens from rfl]
 simp only [hg,ha,Option.elim]
 show wpAny _ A (ask >>= _) _ _ s
 refine wpAny_bind (wpAny_askSetting (wpAny_ite ?_))
 split
 ·first
   | exact wpAny_bind (wpAny_pure (wpAny_pure (And.intro rfl h0)))
   | exact wpAny_pure (And.intro rfl h0)
 ·exact wpAny_bind (wpAny_rule (wpAny_bind (wpAny_standAt (wpAny_bind (wpAny_mono h (fun it' s' h'=>wpAny_pure (And.intro rfl h')) fun _ _ x=>x)))))
theorem yB {A:Around} {n:Nat} {sc:Scope} {env:Env} {X:Wld} {s:Shared} {ρ:Loc} {σ σ':Sto} {cs:List Expr} {cs':List Ex} {b:Bool} {Q:Bool->Shared->Prop} {E:Value->Shared->Prop} (he:mapO (aE n sc) cs=some cs') (h:yj C k cs' ρ σ b σ') (rm:Room k A) (R:Rel C env sc ρ σ X s)
 (hQ:∀ X' s',Rel C env sc ρ σ' X' s'->Evo C (Pl env) σ X s σ' X' s'->Q b s') :
 wpAny (model C.prog C.w) A (forIn cs true fun c r=>if r=true then do let ok <-isTrue c env (eval c env);pure (ForInStep.yield ok) else pure (ForInStep.yield r)) Q E s:=by
 cases cs' with
 | nil =>
   obtain rfl:=cQ he
   obtain ⟨rfl,rfl⟩:=h
   exact wpAny_tests_nil (hQ X s R .refl)
 | cons c' r' =>
   cases r' with
   | nil =>
     obtain ⟨c,r,rfl,e1,e2⟩:=aY he
     obtain rfl:=cQ e2
     exact wpAny_tests_one ((h:EvT C k c' ρ σ b σ') _ _ _ e1 A env X s rm R _ _ hQ)
   | cons _ _=>exact h.elim
structure Priv (C:Cx) (env:Env) (σ:Sto) (X:Wld) (s:Shared) (b:Addr):Prop where
 w:¬ Wr C σ X b
 p:¬ Pl env b
 z:¬ X.Z b
 live:b<s.heap.objs.size
theorem Priv.evo {env:Env} {P:Addr->Prop} {σ:Sto} {X:Wld} {s:Shared} {σ':Sto} {X':Wld} {s':Shared} {b:Addr} (h:Priv C env σ X s b) (e:Evo C P σ X s σ' X' s'):Priv C env σ' X' s' b:=by
 have nlt:¬ s.heap.objs.size<=b:=Nat.not_le.mpr h.live
 refine ⟨fun w=>(e.wn b w).elim h.w nlt,h.p,fun z=>?_,Nat.lt_of_lt_of_le h.live e.size⟩
 rcases e.zn b z with q | q | q
 ·exact h.z q
 ·exact nlt q
 ·exact h.w q
theorem pV {A:Around} {E:Value->Shared->Prop} {s:Shared} {D:Addr} {ys:Array Value} {y:Value} {Q:Value->Shared->Prop} (hl:s.heap.PlainList D ys) (hQ:∀ h',h'.PlainList D (ys.push y)->Heap.SameBut D s.heap h'->Q .none { s with heap:=h' }) (hsz:ys.size<=sizeLine) :
 wpAny (model C.prog C.w) A (call (.builtin "list.append") [.ref D,y]) Q E s:=wpAny_list_append_plain (hsz:=hsz) hl hQ
structure WI (C:Cx) (A:Around) (env:Env) (sc:Scope) (ρ:Loc) (I:Addr) (N:Addr->Prop) (fp:List Addr) (n:Nat) (P:Nat->Value->Prop) (St:Nat->Heap->Prop) (σ:Sto) (X:Wld) (s:Shared) (i:Nat) (vs:List V):Prop where
 R:Rel C env sc ρ σ X s
 W:Walks C.prog C.w A I fp [I] n P St
 st:St i s.heap
 len:i+vs.length=n
 val:∀ j a,i+j<n->P (i+j) a->∃ u,vs[j]?=some u/\VRel C X σ.next s.heap u a
 own:∀ j t v s' (Q:Unit->Shared->Prop) (E:Value->Shared->Prop),St j s'.heap->Q () s'->wpAny (model C.prog C.w) A (letOwnedTupleGo t (.ref I) v) Q E s'
 fps:∀ b∈fp,¬ Wr C σ X b/\¬ Pl env b/\¬ N b/\b<s.heap.objs.size
 mem:I∈fp
 z:¬ X.Z I
section
variable {A:Around} {env:Env} {sc:Scope} {ρ ρ':Loc} {I:Addr} {N:Addr->Prop} {fp:List Addr} {n:Nat} {P:Nat->Value->Prop} {St:Nat->Heap->Prop} {σ σ':Sto} {X X':Wld} {s s':Shared} {i:Nat} {v:V} {vs:List V}
theorem WI.move {Q:Addr->Prop} (h:WI C A env sc ρ I N fp n P St σ X s i vs) (e:Evo C Q σ X s σ' X' s') (q:∀ b∈fp,¬ Q b) (qz:∀ b,Q b->¬ X.Z b) (R':Rel C env sc ρ' σ' X' s'):WI C A env sc ρ' I N fp n P St σ' X' s' i vs where
 R:=R'
 W:=h.W
 st:=h.W.frame _ _ _ h.st fun b hb o g=>e.keep b o g (h.fps b hb).1 (q b hb)
 len:=h.len
 val:=fun j a hj hp=>(h.val j a hj hp).imp fun _ u=>⟨u.1,e.rel h.R.S qz u.2⟩
 own:=h.own
 fps:=fun b hb=>⟨fun w=>(e.wn b w).elim (h.fps b hb).1 (Nat.not_le.mpr (h.fps b hb).2.2.2),(h.fps b hb).2.1,(h.fps b hb).2.2.1,Nat.lt_of_lt_of_le (h.fps b hb).2.2.2 e.size⟩
 mem:=h.mem
 z:=(Priv.evo ⟨(h.fps I h.mem).1,(h.fps I h.mem).2.1,h.z,(h.fps I h.mem).2.2.2⟩ e).z
theorem Itr.wi {s0:Shared} (R0:Rel C env sc ρ σ X s0) (R:Rel C env sc ρ' σ X s) (hI:s0.heap.objs.size<=I) (hIl:∃ o,s.heap.get? I=some o) (t:Itr C X σ.next A vs s I fp n P St) (hz:∀ b,N b->¬ X.Z b) (hn:¬ N I):WI C A env sc ρ' I N fp n P St σ X s 0 vs:=by
 have new:∀ {o},¬ s0.heap.get? I=some o:=fun g=>Nat.lt_irrefl _ (Nat.lt_of_lt_of_le (Heap.lt_size g) hI)
 refine ⟨R,t.W,t.st,(Nat.zero_add _).trans t.len,fun j a=>by rw [Nat.zero_add];exact t.val j a,t.own,fun b hb=>?_,t.mem,fun z=>(R0.S.zl _ z).elim fun _=>new⟩
 rcases t.zs b hb with rfl | z
 ·exact ⟨fun w=>(R0.S.wl _ w).elim fun _=>new,fun p=>(R0.F.pl p).elim fun _=>new,hn,hIl.elim fun _=>Heap.lt_size⟩
 ·exact ⟨fun w=>R.S.zw b w z,fun p=>R.pz b p z,fun q=>hz b q z,(R.S.zl b z).elim fun _=>Heap.lt_size⟩
theorem WI.pl (h:WI C A env sc ρ I N fp n P St σ X s i vs) (e:Evo C (Pl env) σ X s σ' X' s') (R':Rel C env sc ρ' σ' X' s'):WI C A env sc ρ' I N fp n P St σ' X' s' i vs:=h.move e (fun b hb=>(h.fps b hb).2.1) h.R.pz R'
theorem WI.turn {h':Heap} {tk:Nat} (h:WI C A env sc ρ I N fp n P St σ X s i vs) (hk:∀ b o,b∉[I]->s.heap.get? b=some o->h'.get? b=some o) (hs:s.heap.objs.size<=h'.objs.size) :
 Rel C env sc ρ σ X { s with heap:=h',toks:=tk }/\Evo C (fun b=>b=I) σ X s σ X { s with heap:=h',toks:=tk }:=by
 have fI:=h.fps I h.mem
 have iz:∀ b,b=I->¬ X.Z b:=fun b q=>by rw [q];exact h.z
 obtain ⟨S1,e1⟩:=h.R.S.priv (s':={ s with heap:=h',toks:=tk }) (fun b=>b=I) iz (fun b q=>by rw [q];exact fI.1) (fun b o nb g=>hk b o (notIn_one nb) g) hs rfl rfl
 exact ⟨h.R.evo S1 e1 (fun b p q=>fI.2.1 (by rw [<-q];exact p)) iz,e1⟩
theorem WI.iz (h:WI C A env sc ρ I N fp n P St σ X s i vs):∀ b,b=I->¬ X.Z b:=fun b q=>by rw [q];exact h.z
theorem WI.next {h':Heap} {tk:Nat} (h:WI C A env sc ρ I N fp n P St σ X s i (v::vs)) (st':St (i+1) h') (hk:∀ b o,b∉[I]->s.heap.get? b=some o->h'.get? b=some o) (hs:s.heap.objs.size<=h'.objs.size) :
 WI C A env sc ρ I N fp n P St σ X { s with heap:=h',toks:=tk } (i+1) vs/\Evo C (fun b=>b=I) σ X s σ X { s with heap:=h',toks:=tk }:=by
 obtain ⟨R1,e1⟩:=h.turn (tk:=tk) hk hs
 refine ⟨⟨R1,h.W,st',(Nat.succ_add_eq_add_succ i vs.length).trans h.len,fun j a hj hp=>?_,h.own,fun b hb=>?_,h.mem,h.z⟩,e1⟩
 ·rw [Nat.succ_add_eq_add_succ] at hj hp
  exact (h.val (j+1) a hj hp).imp fun _ u=>⟨u.1,e1.rel h.R.S h.iz u.2⟩
 ·exact ⟨(h.fps b hb).1,(h.fps b hb).2.1,(h.fps b hb).2.2.1,Nat.lt_of_lt_of_le (h.fps b hb).2.2.2 hs⟩
theorem WI.take {target:Expr} {xs:List Nm} {ρ1:Loc} {Q:Option Value->Shared->Prop} {E:Value->Shared->Prop} (h:WI C A env sc ρ I N fp n P St σ X s i (v::vs)) (hh:A.handled=none) (ht:cn sc target=some xs) (hb:bI ρ xs v=some ρ1)
 (hQ:∀ a X1 s1,Evo C (fun b=>b=I) σ X s σ X1 s1->WI C A env sc ρ I N fp n P St σ X1 s1 (i+1) vs ->
   (∀ (Q':Unit->Shared->Prop) (E':Value->Shared->Prop),(∀ X2 s2,Rel C env sc ρ1 σ X2 s2->Evo C (Pl env) σ X1 s1 σ X2 s2->Q' () s2)->wpAny (model C.prog C.w) A (do letOwnedTupleGo target (.ref I) a;assign target env a) Q' E' s1)->Q (some a) s1) :
 wpAny (model C.prog C.w) A (pyNext (.ref I)) Q E s:=by
 have hin:i<n:=by rw [<-h.len];exact Nat.lt_add_of_pos_right (Nat.succ_pos _)
 refine cA (h.W.item i s _ _ hin h.st fun a h' tk hP st' hk hs=>?_)
 obtain ⟨u,hu,ru⟩:=h.val 0 a hin hP
 obtain rfl:v=u:=Option.some.inj hu
 obtain ⟨L1,e1⟩:=h.next (tk:=tk) st' hk hs
 exact hQ a X _ e1 L1 fun Q' E' hq=>wpAny_bind (h.own _ _ _ _ _ _ st' (asg hh ht hb L1.R (e1.rel h.R.S h.iz ru) hq))
end
structure LI (C:Cx) (A:Around) (cenv:Env) (sc:Scope) (ρ:Loc) (I D:Addr) (fp:List Addr) (n:Nat) (P:Nat->Value->Prop) (St:Nat->Heap->Prop) (σ:Sto) (X:Wld) (s:Shared) (i:Nat) (vs:List V) (ys:Array Value) (outs:List V):Prop where
 w:WI C A cenv sc ρ I (fun b=>b=D) fp n P St σ X s i vs
 pd:Priv C cenv σ X s D
 l:s.heap.PlainList D ys
 os:VsRel C X σ.next s.heap outs ys.toList
noncomputable abbrev LP (cenv:Env) (I D:Addr):Addr->Prop:=fun b=>Pl cenv b\/b=D\/b=I
section
variable {A:Around} {cenv:Env} {sc:Scope} {ρ:Loc} {I D:Addr} {fp:List Addr} {n:Nat} {P:Nat->Value->Prop} {St:Nat->Heap->Prop} {σ σ':Sto} {X X':Wld} {s s':Shared} {i:Nat} {v:V} {vs outs:List V} {ys:Array Value}
theorem LI.pl (h:LI C A cenv sc ρ I D fp n P St σ X s i vs ys outs) (e:Evo C (Pl cenv) σ X s σ' X' s') (R':Rel C cenv sc ρ σ' X' s'):LI C A cenv sc ρ I D fp n P St σ' X' s' i vs ys outs :=
 ⟨h.w.pl e R',h.pd.evo e,h.l.imp fun _ g=>e.keep _ _ g h.pd.w h.pd.p,e.rels h.w.R.S h.w.R.pz h.os⟩
theorem LI.app {h5:Heap} {u:V} {y:Value} (h:LI C A cenv sc ρ I D fp n P St σ X s i vs ys outs) (l:h5.PlainList D (ys.push y)) (hs:Heap.SameBut D s.heap h5) (r:VRel C X σ.next s.heap u y) :
 LI C A cenv sc ρ I D fp n P St σ X { s with heap:=h5 } i vs (ys.push y) (outs++[u])/\Evo C (fun b=>b=D) σ X s σ X { s with heap:=h5 }:=by
 have dz:∀ b,b=D->¬ X.Z b:=fun b q=>by rw [q];exact h.pd.z
 obtain ⟨S5,e5⟩:=h.w.R.S.priv (s':={ s with heap:=h5 }) (fun b=>b=D) dz (fun b q=>by rw [q];exact h.pd.w) (fun b o nb g=>(hs.2 b nb).trans g) (Nat.le_of_eq hs.1.symm) rfl rfl
 refine ⟨⟨h.w.move e5 (fun b hb=>(h.w.fps b hb).2.2.1) dz (h.w.R.evo S5 e5 (fun b p q=>by rw [q] at p;exact h.pd.p p) dz),h.pd.evo e5,l,?_⟩,e5⟩
 rw [Array.toList_push]
 exact (e5.rels h.w.R.S dz h.os).app (.cons (e5.rel h.w.R.S dz r) .nil)
theorem LI.zP (h:LI C A cenv sc ρ I D fp n P St σ X s i vs ys outs):∀ b,LP cenv I D b->¬ X.Z b:=fun b q=>by
 rcases q with q | q | q
 ·exact h.w.R.pz b q
 ·rw [q];exact h.pd.z
 ·rw [q];exact h.w.z
theorem LI.turn (h:LI C A cenv sc ρ I D fp n P St σ X s i vs ys outs) (e:Evo C (fun b=>b=I) σ X s σ X' s'):Priv C cenv σ X' s' D/\s'.heap.PlainList D ys/\VsRel C X' σ.next s'.heap outs ys.toList :=
 ⟨h.pd.evo e,h.l.imp fun _ g=>e.keep _ _ g h.pd.w (Ne.symm (h.w.fps I h.w.mem).2.2.1),e.rels h.w.R.S h.w.iz h.os⟩
end
theorem DE {A:Around} {m:Sem Unit} {m':Sem Unit} {β:Type} {f:Sem β} {Q:β->Shared->Prop} {E:Value->Shared->Prop} {s:Shared} (h:wpAny (model C.prog C.w) A (do m;m') (fun _ s'=>wpAny (model C.prog C.w) A f Q E s') E s):wpAny (model C.prog C.w) A (do m;m';f) Q E s:=by
 have e:(do m;m';f:Sem β)=((do m;m':Sem Unit) >>= fun _=>f):=(bind_assoc _ _ _).symm
 rw [e];exact wpAny_bind h
theorem nH {α β:Type} {f:Comprehension->Option α} {g:Comprehension->Option β} {gens:List Comprehension} {d:Nat} {t:α} {ts:List α} {c:β} {cs:List β} (h1:mapO f (gens.drop d)=some (t::ts)) (h3:mapO g (gens.drop d)=some (c::cs)) :
 ∃ g0,gens[d]?=some g0/\f g0=some t/\g g0=some c/\mapO f (gens.drop (d+1))=some ts/\mapO g (gens.drop (d+1))=some cs:=by
 obtain ⟨g0,gs,e,a1,a2⟩:=aY h1
 obtain ⟨g1,gs',e',b1,b2⟩:=aY h3
 obtain ⟨rfl,rfl⟩:=List.cons.inj (e.symm.trans e')
 have e2:gens.drop (d+1)=gs:=by rw [<-List.tail_drop,e];rfl
 refine ⟨g0,?_,a1,b1,by rw [e2];exact a2,by rw [e2];exact b2⟩
 rw [<-List.head?_drop,e];rfl
theorem jy {A:Around} {cenv:Env} {n0:Nat} {sc:Scope} {eltE:Expr} {gens:List Comprehension} {scp:Scope} {pos:Pos} {d:Nat} {g:Comprehension} {t:List Nm} {cs:List Ex} {ρ ρ1:Loc} {I D:Addr} {fp:List Addr} {n:Nat} {P:Nat->Value->Prop} {St:Nat->Heap->Prop} {σ σ1:Sto} {X:Wld} {s:Shared} {i:Nat}
 {v:V} {vs outs:List V} {ys:Array Value} {b:Bool} {R:Result->Shared->Prop} (hg:gens[d]?=some g) (hga:g.is_async=0) (htg:cn sc g.target=some t) (hifs:mapO (aE n0 sc) g.ifs=some cs) (hb:bI ρ t v=some ρ1) (hf:fresh ρ t=true) (ht:yj C k cs ρ1 σ b σ1) (rm:Room k A)
 (h:LI C A cenv sc ρ I D fp n P St σ X s i (v::vs) ys outs)
 (hQ:∀ X3 s3,Rel C cenv sc ρ1 σ1 X3 s3->Evo C (LP cenv I D) σ X s σ1 X3 s3->LI C A cenv sc ρ I D fp n P St σ1 X3 s3 (i+1) vs ys outs ->
   wpAny (model C.prog C.w) A (kW eltE gens scp pos d (.ref I) (.ref D) cenv b) (fun fin s'=>match fin with | .done f=>R (.ok f) s' | .again c'=>c'.quiet=true/\codeAny (model C.prog C.w) A c' R s') (notedBy (model C.prog C.w) A cenv fun e s'=>R (.error e) s') s3) :
 codeAny (model C.prog C.w) A (.compLoop (.ListComp eltE gens scp pos) d (.ref I) (.ref D) cenv) R s:=by
 refine codeAny_of_tree ?_
 show wpAny _ A ((compTurn (.ListComp eltE gens scp pos) d (.ref I) (.ref D) cenv).onRaise (fun x=>do noteFrame x cenv;theTreesLotGoes x)) _ _ s
 refine wpAny_noted ?_
 rw [lJ _ _ _ _ _ _ _ _ g hg hga]
 refine wpAny_bind (wpAny_standAt (wpAny_bind (h.w.take rm.handled htg hb fun a X1 s1 e1 w1 asn=>?_)))
 show wpAny _ A (do letOwnedTupleGo g.target (.ref I) a;assign g.target cenv a;_) _ _ s1
 obtain ⟨p1,p2,p3⟩:=h.turn e1
 refine DE (asn _ _ fun X2 s2 R2 e2=>wpAny_bind (yB hifs ht rm R2 fun X3 s3 R3 e3=>?_))
 exact hQ X3 s3 R3 (e1.comp (e2.trans e3) (fun b q=>.inr (.inr q)) fun b _ q=>.inl q) (LI.pl ⟨w1,p1,p2,p3⟩ (e2.trans e3) (R3.less (ib hb hf)))
theorem wz {elt:Ex} {ts its ifs ρ σ vs out σ'} (h:CompR C k elt ts its ifs ρ σ vs out σ'):∀ (n0:Nat) (sc:Scope) (eltE:Expr) (gens:List Comprehension) (scp:Scope) (pos:Pos) (d:Nat),aE n0 sc eltE=some elt ->
 mapO (fun g:Comprehension=>cn sc g.target) (gens.drop d)=some ts->mapO (fun g:Comprehension=>aE n0 sc g.iter) (gens.drop (d+1))=some its->mapO (fun g:Comprehension=>mapO (aE n0 sc) g.ifs) (gens.drop d)=some ifs ->
 (∀ g∈gens,g.is_async=0/\gI g.iter=true) ->
 ∀ (A:Around) (cenv:Env) (X:Wld) (s:Shared) (I D:Addr) (fp:List Addr) (n i:Nat) (P:Nat->Value->Prop) (St:Nat->Heap->Prop) (ys:Array Value) (outs:List V) (R:Result->Shared->Prop),
 Room k A->LI C A cenv sc ρ I D fp n P St σ X s i vs ys outs->outs.length+out.length<=sizeLine ->
 (∀ X' s' ys',Rel C cenv sc ρ σ' X' s'->Evo C (LP cenv I D) σ X s σ' X' s'->s'.heap.PlainList D ys'->VsRel C X' σ'.next s'.heap (outs++out) ys'.toList->R (.ok .next) s') ->
 codeAny (model C.prog C.w) A (.compLoop (.ListComp eltE gens scp pos) d (.ref I) (.ref D) cenv) R s:=by
 induction h with
 | @nil t ts its cs ifs ρ σ =>
   intro n0 sc eltE gens scp pos d h0 h1 h2 h3 hasy A cenv X s I D fp n i P St ys outs R rm L hsz hR
   obtain ⟨g,hg,_⟩:=nH h1 h3
   refine codeAny_of_tree ?_
   show wpAny _ A ((compTurn (.ListComp eltE gens scp pos) d (.ref I) (.ref D) cenv).onRaise (fun x=>do noteFrame x cenv;theTreesLotGoes x)) _ _ s
   refine wpAny_noted ?_
   rw [lJ _ _ _ _ _ _ _ _ g hg (hasy g (List.mem_of_getElem? hg)).1]
   obtain rfl:=L.w.len
   refine wpAny_bind (wpAny_standAt (wpAny_bind (cA (L.w.W.done s _ _ L.w.st fun h' tk hk hs=>?_))))
   obtain ⟨R1,e⟩:=L.w.turn (tk:=tk) hk hs
   refine wpAny_pure (hR X _ ys R1 (e.weak fun b q=>.inr (.inr q)) (L.turn e).2.1 ?_)
   rw [List.append_nil]
   exact (L.turn e).2.2
 | @skip t ts its cs ifs ρ ρ1 σ σ1 σ2 v vs out hb hf ht hr ih =>
   intro n0 sc eltE gens scp pos d h0 h1 h2 h3 hasy A cenv X s I D fp n i P St ys outs R rm L hsz hR
   obtain ⟨g,hg,htg,hifs,_⟩:=nH h1 h3
   refine jy hg (hasy g (List.mem_of_getElem? hg)).1 htg hifs hb hf ht rm L fun X3 s3 R3 e3 L3=>wpAny_pure ⟨rfl,?_⟩
   exact ih n0 sc eltE gens scp pos d h0 h1 h2 h3 hasy A cenv X3 s3 I D fp n (i+1) P St ys outs R rm L3 hsz fun X4 s4 ys4 R4 e4=>hR X4 s4 ys4 R4 (e3.trans e4)
 | @emit t cs ρ ρ1 σ σ1 σ2 σ3 v vs u0 out hb hf ht he hr ih =>
   intro n0 sc eltE gens scp pos d h0 h1 h2 h3 hasy A cenv X s I D fp n i P St ys outs R rm L hsz hR
   obtain ⟨g,hg,htg,hifs,_⟩:=nH h1 h3
   refine jy hg (hasy g (List.mem_of_getElem? hg)).1 htg hifs hb hf ht rm L fun X3 s3 R3 e3 L3=>?_
   have hnone:gens[d+1]?=none:=by rw [<-List.head?_drop,cQ h2];rfl
   unfold kW
   rw [if_pos rfl,hnone]
   refine wpAny_bind (wpAny_bind (he _ _ _ h0 A cenv X3 s3 rm R3 _ _ fun y X4 s4 R4 e4 r4=>?_))
   have L4:=L3.pl e4 (R4.less (ib hb hf))
   have hys:ys.size<=sizeLine:=by
    have e1:=L.os.length
    rw [Array.length_toList] at e1
    rw [e1]
    exact Nat.le_trans (Nat.le_add_right _ _) hsz
   refine wpAny_bind (pV L4.l (fun h5 l5 hs5=>?_) hys)
   obtain ⟨L5,e5⟩:=L4.app l5 hs5 r4
   refine wpAny_pure (wpAny_pure ⟨rfl,?_⟩)
   refine ih n0 sc eltE gens scp pos d h0 h1 h2 h3 hasy A cenv X4 _ I D fp n (i+1) P St _ (outs++[u0]) R rm L5 ?_ fun X6 s6 ys6 R6 e6 l6 r6=>hR X6 s6 ys6 R6 ((e3.comp (e4.comp e5 (P:=LP cenv I D) (fun _ q=>.inl q) fun b _ q=>.inr (.inl q)) (fun _ q=>q) fun _ _ q=>q).trans e6) l6 ?_
   ·rw [List.length_append,Nat.add_assoc,Nat.add_comm [u0].length];exact hsz
   ·rw [List.append_assoc] at r6;exact r6
 | @inner t t2 ts it its cs cs2 ifs ρ ρ1 σ σ1 σ2 σ3 σ4 v vs src vs2 out2 out hb hf ht hi hs2 hsm h2' hr ih2 ih =>
   intro n0 sc eltE gens scp pos d h0 h1 h2 h3 hasy A cenv X s I D fp n i P St ys outs R rm L hsz hR
   obtain ⟨g,hg,htg,hifs,h1',h3'⟩:=nH h1 h3
   obtain ⟨g2,hg2,_,hit2,_,h2r⟩:=nH h1' h2
   obtain ⟨hga2,hns2⟩:=hasy g2 (List.mem_of_getElem? hg2)
   refine jy hg (hasy g (List.mem_of_getElem? hg)).1 htg hifs hb hf ht rm L fun X3 s3 R3 e3 L3=>?_
   unfold kW
   rw [if_pos rfl,hg2]
   simp only [hga2,kR hns2]
   refine wpAny_bind (hi _ _ _ hit2 A cenv X3 s3 rm R3 _ _ fun y X4 s4 R4 e4 r4=>wpAny_bind (wpAny_standAt ?_))
   refine wpAny_bind (wpAny_pure (wpAny_bind (wpAny_holding ?_)))
   refine mP rm.handled R4.S r4 hs2 hsm fun I2 fp2 n2 P2 St2 s5 G5 hI2 hI2l itr=>?_
   obtain ⟨R5,e5⟩:=R4.grown G5
   have L5:=(L3.pl e4 (R4.less (ib hb hf))).pl e5 (R5.less (ib hb hf))
   have e15:Evo C (LP cenv I D) σ X s σ2 X4 s5:=e3.comp (e4.trans e5) (fun _ q=>q) fun b _ q=>.inl q
   have Dlt:D<s4.heap.objs.size:=Nat.lt_of_lt_of_le L3.pd.live e4.size
   have L2:LI C A cenv sc ρ1 I2 D fp2 n2 P2 St2 σ2 X4 s5 0 vs2 ys outs:=⟨itr.wi R4 R5 hI2 hI2l (fun b q=>by rw [q];exact L5.pd.z) fun q=>Nat.lt_irrefl _ (Nat.lt_of_lt_of_le Dlt (q▸hI2)),L5.pd,L5.l,L5.os⟩
   refine wpAny_bind (wpAny_runOwn ?_)
   have loop:codeAny (model C.prog C.w) A (.compLoop (.ListComp eltE gens scp pos) (d+1) (.ref I2) (.ref D) cenv) (fun r s'=>match r with
    | .ok _=>wpAny (model C.prog C.w) A (again (.compLoop (.ListComp eltE gens scp pos) d (.ref I) (.ref D) cenv)) (fun fin s'=>match fin with | .done f=>R (.ok f) s' | .again c'=>c'.quiet=true/\codeAny (model C.prog C.w) A c' R s') (notedBy (model C.prog C.w) A cenv fun e s'=>R (.error e) s') s'
    | .error e=>cameBackBy (model C.prog C.w) A cenv (notedBy (model C.prog C.w) A cenv fun e s'=>R (.error e) s') e s') s5:=by
    rw [List.length_append] at hsz
    refine ih2 n0 sc eltE gens scp pos (d+1) h0 h1' h2r h3' hasy A cenv X4 s5 I2 D fp2 n2 0 P2 St2 ys outs _ rm L2 (Nat.le_trans (Nat.add_le_add_left (Nat.le_add_right _ _) _) hsz) fun X6 s6 ys6 R6 e6 l6 r6=>wpAny_pure ⟨rfl,?_⟩
    have L6:LI C A cenv sc ρ I D fp n P St σ3 X6 s6 (i+1) vs ys6 (outs++out2):=⟨L5.w.move e6 (fun b hbf q=>by
     rcases q with q | q | q
     ·exact (L5.w.fps b hbf).2.1 q
     ·exact (L5.w.fps b hbf).2.2.1 q
     ·exact Nat.lt_irrefl _ (Nat.lt_of_lt_of_le (Nat.lt_of_lt_of_le (L3.w.fps b hbf).2.2.2 e4.size) (q▸hI2))) L2.zP (R6.less (ib hb hf)),L5.pd.evo e6,l6,r6⟩
    refine ih n0 sc eltE gens scp pos d h0 h1 h2 h3 hasy A cenv X6 s6 I D fp n (i+1) P St ys6 (outs++out2) R rm L6 (by rw [List.length_append,Nat.add_assoc];exact hsz) fun X7 s7 ys7 R7 e7 l7 r7=>hR X7 s7 ys7 R7 ((e15.comp e6 (fun _ q=>q) fun b hb q=>?_).trans e7) l7 (by rw [List.append_assoc] at r7;exact r7)
    rcases q with q | q | q
    ·exact .inl q
    ·exact .inr (.inl q)
    ·exact absurd hb (Nat.not_lt.mpr (Nat.le_trans e3.size (Nat.le_trans e4.size (q▸hI2))))
   exact nv hg2 hga2 loop (itr.W.self 0 _ _ _ itr.st loop)
end
end
section
open PySem PyProof.Rows
noncomputable def fi (env:Env):List (Str × NameKind)->List (Str × Addr)->List (Str × Addr)
 | [],acc=>acc
 | (x,kd)::r,acc=>if kd==.free then (match env.cells.lookup x with | some c=>fi env r ((x,c)::acc) | none=>fi env r acc) else fi env r acc
theorem tm {env:Env} {sc':Scope} (h:∀ p∈sc'.names,p.2=.free->∃ c,env.cells.lookup p.1=some c):closureFor sc' env=pure (fi env sc'.names []):=by
 unfold closureFor
 have key:∀ (names:List (Str × NameKind)) (acc:List (Str × Addr)),(∀ p∈names,p.2=.free->∃ c,env.cells.lookup p.1=some c) ->
  (forIn names acc fun (x:Str × NameKind) (r:List (Str × Addr))=>(match x with
    | (name,kind)=>if (kind==.free)=true then do let a <-cellOf env name;pure (ForInStep.yield ((name,a)::r)) else pure (ForInStep.yield r):Sem (ForInStep (List (Str × Addr)))))=(pure (fi env names acc):Sem (List (Str × Addr))):=by
  intro names
  induction names with
  | nil=>intro acc _;rfl
  | cons p r ih =>
    intro acc hp
    obtain ⟨x,kd⟩:=p
    rw [List.forIn_cons]
    have ih':=fun acc=>ih acc fun q hq=>hp q (.tail _ hq)
    by_cases hk:kd=.free
    ·subst hk
     obtain ⟨c,hc⟩:=hp (x,.free) (.head _) rfl
     have hcl:cellOf env x=pure c:=by unfold cellOf;rw [hc]
     simp only [hcl]
     show (forIn r ((x,c)::acc) _:Sem _)=_
     simp only [ih']
     simp [fi,hc]
    ·have hb:(kd==NameKind.free)=false:=by simpa using hk
     simp only [hb]
     show (forIn r acc _:Sem _)=_
     simp only [ih']
     simp [fi,hb]
 have:=key sc'.names [] h
 simp only [bind_pure_comp] at this ⊢
 first
  | (rw [this];rfl)
  | (simp only [this];rfl)
  | exact this
theorem ta {env:Env} {x:Str}:∀ (names:List (Str × NameKind)) (acc:List (Str × Addr)),(names.map (·.1)).Nodup->(fi env names acc).lookup x=if names.lookup x=some .free/\(env.cells.lookup x).isSome then env.cells.lookup x else acc.lookup x:=by
 intro names
 induction names with
 | nil =>
   intro acc _
   dsimp [fi]
 | cons hd0 r ih =>
   intro acc hnd
   obtain ⟨y,kd⟩:=hd0
   rw [List.map_cons,List.nodup_cons] at hnd
   have hy:∀ z,(z==y)=true->r.lookup z=none:=fun z hz=>by
    have:z=y:=by simpa using hz
    subst this
    cases h:r.lookup z with
    | none=>rfl
    | some k=>exact absurd (List.mem_map_of_mem (f:=(·.1)) (mem_of_lookup h)) hnd.1
   dsimp only [fi]
   by_cases hk:kd=.free
   ·subst hk
    simp only [beq_self_eq_true,if_true]
    cases hc:env.cells.lookup y with
    | none =>
      simp only
      rw [ih acc hnd.2,List.lookup_cons]
      cases hx:x==y with
      | false=>rfl
      | true =>
        have:x=y:=by simpa using hx
        subst this
        simp [hc]
    | some c =>
      simp only
      rw [ih _ hnd.2]
      cases hx:x==y with
      | false=>simp only [List.lookup_cons,hx]
      | true =>
        have:x=y:=by simpa using hx
        subst this
        rw [hy x hx]
        simp [List.lookup_cons,hc]
   ·have hb:(kd==NameKind.free)=false:=by simpa using hk
    simp only [hb,Bool.false_eq_true,if_false]
    rw [ih acc hnd.2,List.lookup_cons]
    cases hx:x==y with
    | false=>rfl
    | true =>
      rw [hy x hx]
      simp [hk]
structure vY (names:List (Str × NameKind)) (h:Heap) (acc:List (Str × Addr)):Prop where
 old:∀ x,names.lookup x≠some .cell->(cellsFrom h.objs.size names acc).lookup x=acc.lookup x
 new:∀ x,names.lookup x=some .cell->∃ c,(cellsFrom h.objs.size names acc).lookup x=some c/\h.objs.size<=c/\(pushCells h names).IsCell c none
 inj:(∀ x c,acc.lookup x=some c->c<h.objs.size)->(∀ x y c,acc.lookup x=some c->acc.lookup y=some c->x=y)->∀ x y c,(cellsFrom h.objs.size names acc).lookup x=some c->(cellsFrom h.objs.size names acc).lookup y=some c->x=y
 size:h.objs.size<=(pushCells h names).objs.size
theorem mQ:∀ (names:List (Str × NameKind)) (h:Heap) (acc:List (Str × Addr)),(names.map (·.1)).Nodup->vY names h acc:=by
 intro names
 induction names with
 | nil =>
   intro h acc _
   exact ⟨fun _ _=>rfl,fun x e=>by contradiction,fun _ i=>i,Nat.le_refl _⟩
 | cons hd0 r ih =>
   intro h acc hnd
   obtain ⟨y,kd⟩:=hd0
   rw [List.map_cons,List.nodup_cons] at hnd
   have hy:r.lookup y=none:=by
    cases h:r.lookup y with
    | none=>rfl
    | some k=>exact absurd (List.mem_map_of_mem (f:=(·.1)) (mem_of_lookup h)) hnd.1
   by_cases hk:kd=.cell
   ·subst hk
    have ih:=ih (h.push { cls:=.type "cell",data:=.cell none }) ((y,h.objs.size)::acc) hnd.2
    have e1:cellsFrom h.objs.size ((y,.cell)::r) acc=cellsFrom (h.push { cls:=.type "cell",data:=.cell none }).objs.size r ((y,h.objs.size)::acc):=by
     rw [Heap.size_push];rfl
    have e2:pushCells h ((y,.cell)::r)=pushCells (h.push { cls:=.type "cell",data:=.cell none }) r:=rfl
    refine ⟨fun x hx=>?_,fun x hx=>?_,fun hlt hinj=>?_,?_⟩
    ·rw [e1]
     rw [List.lookup_cons] at hx
     cases hxy:x==y with
     | true=>rw [hxy] at hx;exact absurd rfl hx
     | false =>
       rw [hxy] at hx
       simp only [ih.old x hx,List.lookup_cons,hxy]
    ·rw [e1,e2]
     rw [List.lookup_cons] at hx
     cases hxy:x==y with
     | true =>
       have:x=y:=by simpa using hxy
       subst this
       refine ⟨h.objs.size,?_,Nat.le_refl _,⟨_,pushCells_keeps r _ _ _ (Heap.get?_push_size _ rfl),rfl⟩⟩
       rw [ih.old x (by rw [hy];decide),List.lookup_cons,hxy]
     | false =>
       rw [hxy] at hx
       obtain ⟨c,a1,a2,a3⟩:=ih.new x hx
       exact ⟨c,a1,Nat.le_trans (by rw [Heap.size_push];simp) a2,a3⟩
    ·rw [e1]
     refine ih.inj (fun x c e=>?_) fun x z c ex ez=>?_
     ·rw [Heap.size_push]
      rw [List.lookup_cons] at e
      cases hxy:x==y with
      | true=>rw [hxy] at e;cases e;exact Nat.lt_succ_self _
      | false=>rw [hxy] at e;exact Nat.lt_succ_of_lt (hlt x c e)
     ·rw [List.lookup_cons] at ex ez
      cases hxy:x==y with
      | true =>
        rw [hxy] at ex
        cases ex
        cases hzy:z==y with
        | true=>rw [beq_iff_eq.mp hxy,beq_iff_eq.mp hzy]
        | false=>rw [hzy] at ez;exact absurd (hlt z _ ez) (Nat.lt_irrefl _)
      | false =>
        rw [hxy] at ex
        cases hzy:z==y with
        | true=>rw [hzy] at ez;cases ez;exact absurd (hlt x _ ex) (Nat.lt_irrefl _)
        | false=>rw [hzy] at ez;exact hinj x z c ex ez
    ·rw [e2];exact Nat.le_trans (by rw [Heap.size_push];simp) ih.size
   ·have ih:=ih h acc hnd.2
    have hb:(kd==NameKind.cell)=false:=by simpa using hk
    have e1:cellsFrom h.objs.size ((y,kd)::r) acc=cellsFrom h.objs.size r acc:=by rw [cellsFrom,hb];rfl
    have e2:pushCells h ((y,kd)::r)=pushCells h r:=by rw [pushCells,hb];rfl
    refine ⟨fun x hx=>?_,fun x hx=>?_,?_,?_⟩
    ·rw [e1]
     refine ih.old x ?_
     rw [List.lookup_cons] at hx
     cases hxy:x==y with
     | true=>have:x=y:=by simpa using hxy
             subst this;rw [hy];decide
     | false=>rw [hxy] at hx;exact hx
    ·rw [e1,e2]
     rw [List.lookup_cons] at hx
     cases hxy:x==y with
     | true=>rw [hxy] at hx;exact absurd (Option.some.inj hx) hk
     | false=>rw [hxy] at hx;exact ih.new x hx
    ·rw [e1];exact ih.inj
    ·rw [e2];exact ih.size
theorem wV {C:Cx} {A:Around} {E:Value->Shared->Prop} {s:Shared} {scope:Scope} {globals:Addr} {closure:List (Str × Addr)} {qual:Str} {env:Env} {Q:Env->Shared->Prop}
 (hQ:Q (newEnv scope s.heap.objs.size globals (cellsFrom (s.heap.objs.size+1) scope.names closure) qual none .none (some env) builtinsNs) { s with heap:=pushCells (s.heap.push { cls:=.type "dict",data:=.dict #[] }) scope.names }) :
 wpAny (model C.prog C.w) A (newFunctionEnv scope globals closure [] qual none .none (some env)) Q E s:=by
 simp only [newFunctionEnv,Option.isSome_some,if_true]
 refine wpAny_bind (wpAny_alloc ?_)
 refine wpAny_bind (wpAny_layCells _ (fun name kind cells=>by cases hkc:kind==NameKind.cell<;>dsimp [hkc]) _ _ _ _ ?_)
 rw [show ({ s with heap:=s.heap.push { cls:=.type "dict",data:=.dict #[] } }:Shared).heap.objs.size=s.heap.objs.size+1 from Heap.size_push ..]
 exact wpAny_bind (wpAny_pure (wpAny_pure hQ))
end
section
open PySem PyProof.Rows
noncomputable def dQ (ρ:Loc):List Nm->Loc
 | []=>ρ
 | x::xs=>dQ (del ρ x) xs
theorem nM:∀ (xs:List Nm) (ρ:Loc) (y:Nm) (v:V),get (dQ ρ xs) y=some v->get ρ y=some v/\y∉xs:=by
 intro xs
 induction xs with
 | nil =>
   intro _ _ _ h
   exact ⟨h,by simp⟩
 | cons x xs ih =>
   intro ρ y v h
   obtain ⟨h1,h2⟩:=ih _ y v h
   rw [uw] at h1
   by_cases hy:y=x
   ·rw [if_pos hy] at h1;cases h1
   ·rw [if_neg hy] at h1
    exact ⟨h1,fun q=>(List.mem_cons.mp q).elim hy h2⟩
theorem yZ:∀ (xs:List Nm) (ρ:Loc) (y:Nm) (v:V),get ρ y=some v->y∉xs->get (dQ ρ xs) y=some v:=by
 intro xs
 induction xs with
 | nil =>
   intro _ _ _ h _
   exact h
 | cons x xs ih =>
   intro ρ y v h hn
   exact ih _ y v (by rw [uw,if_neg (fun q=>hn (by rw [q];exact .head _))];exact h) fun q=>hn (.tail _ q)
theorem rC {sc sc':Scope} (h:f5 sc sc'=true):sc'.kind=.function/\(sc'.names.map (·.1)).Nodup/\∀ x,kindIn sc' x=some .free->(kindIn sc x=some .cell\/kindIn sc x=some .free):=by
 unfold f5 at h
 simp only [Bool.and_eq_true,decide_eq_true_eq,beq_iff_eq,List.all_eq_true] at h
 obtain ⟨⟨⟨⟨h1,_⟩,_⟩,h4⟩,h5⟩:=h
 refine ⟨h1,h4,fun x hx=>?_⟩
 have:=h5 (x,.free) (mem_of_lookup hx)
 simp at this
 exact this.1
theorem fT {y:Str} {kd:NameKind}:∀ {l:List (Str × NameKind)},(l.map (·.1)).Nodup->(y,kd)∈l->l.lookup y=some kd
 | (z,kz)::l,hn,h=>by
   rw [List.map_cons,List.nodup_cons] at hn
   rw [List.lookup_cons]
   rcases List.mem_cons.mp h with q | q
   ·cases q;simp
   ·have hyz:(y==z)=false:=by
     rw [beq_eq_false_iff_ne]
     rintro rfl
     exact hn.1 (List.mem_map_of_mem (f:=(·.1)) q)
    rw [hyz]
    exact fT hn.2 q
theorem t9 {sc':Scope} {x:Str} (h:iG (kindIn sc' x)=true):nm x∈ig sc':=by
 unfold kindIn at h
 cases hk:sc'.names.lookup x with
 | none=>rw [hk] at h;cases h
 | some kd =>
   rw [hk] at h
   exact List.mem_filterMap.mpr ⟨(x,kd),mem_of_lookup hk,by exact if_pos h⟩
theorem nA {P:Str->NameKind->Bool}:∀ (names:List (Str × NameKind)) (x:Str),(names.map fun (n,kd)=>if P n kd=true then (n,NameKind.cell) else (n,kd)).lookup x=(names.lookup x).map fun kd=>if P x kd=true then .cell else kd:=by
 intro names
 induction names with
 | nil =>
   intro _
   exact rfl
 | cons hd0 r ih =>
   intro x
   obtain ⟨n,kd⟩:=hd0
   have ih:=ih x
   show List.lookup x ((if P n kd=true then (n,NameKind.cell) else (n,kd))::_)=_
   cases hx:x==n with
   | true =>
     have:x=n:=by simpa using hx
     subst this
     by_cases hp:P x kd=true
     ·simp [hp]
     ·simp [hp]
   | false =>
     by_cases hp:P n kd=true
     ·rw [if_pos hp];simp only [List.lookup_cons,hx];exact ih
     ·rw [if_neg hp];simp only [List.lookup_cons,hx];exact ih
section
variable {C:Cx} {k:Nat} {ρ:Loc}
theorem xQ {env cenv:Env} {sc sc':Scope} {ρ0:Loc} {σ σ':Sto} {X X':Wld} {s s':Shared} {P:Addr->Prop} (R:Rel C env sc ρ σ X s) (R':Rel C cenv sc' ρ0 σ' X' s') (e:Evo C P σ X s σ' X' s')
 (hP:∀ b,b<s.heap.objs.size->P b->∃ x,kindIn sc' x=some .free/\cenv.cells.lookup x=some b/\env.cells.lookup x=some b) (hρ:∀ x v,kindIn sc' x=some .free->get ρ (nm x)=some v->get ρ0 (nm x)=some v):Rel C env sc ρ σ' X' s':=by
 have zlt:∀ b,X.Z b->b<s.heap.objs.size:=fun b z=>(R.S.zl b z).elim fun _ g=>Heap.lt_size g
 have hPz:∀ b,P b->¬ X.Z b:=fun b p z=>by
  obtain ⟨x,_,_,q⟩:=hP b (zlt b z) p
  exact R.pz b (.inr ⟨x,q⟩) z
 have zk:=e.zkeep R.S hPz
 have vr:∀ {v a},VRel C X σ.next s.heap v a->VRel C X' σ'.next s'.heap v a:=fun r=>e.rel R.S hPz r
 have keepP:∀ b o,Pl env b->¬ P b->s.heap.get? b=some o->s'.heap.get? b=some o:=fun b o p np g=>e.keep b o g (R.pw b p) np
 have hL:¬ P env.locals:=fun p=>by
  obtain ⟨o,g⟩:=R.F.pl (.inl rfl)
  obtain ⟨x,_,_,q⟩:=hP _ (Heap.lt_size g) p
  exact R.F.ne x _ q rfl
 refine ⟨R'.S,⟨R.F.kind,R.F.kl,R.F.kc,R.F.kf,R.F.kg,R.F.gl,R.F.bt,?_,R.F.cl,fun x v e1 ky=>?_,fun x c e1=>?_,R.F.apart,R.F.ne⟩,fun b p z=>?_,fun b p w=>?_⟩
 ·obtain ⟨m,hm,q⟩:=R.F.ns
  refine ⟨m,hm.at' fun o g=>keepP _ _ (.inl rfl) hL g,fun x v e1 ky=>?_⟩
  obtain ⟨a,e2,r⟩:=q x v e1 ky
  exact ⟨a,e2,vr r⟩
 ·obtain ⟨c,a,e2,⟨o,g,d⟩,r⟩:=R.F.cv x v e1 ky
  by_cases hp:P c
  ·obtain ⟨y,k1,k2,k3⟩:=hP c (Heap.lt_size g) hp
   have hxy:=R.F.apart _ _ _ e2 k3
   have e1':get ρ (nm y)=some v:=by rw [<-hxy,fz];exact e1
   obtain ⟨c',a',q1,q2,q3⟩:=R'.F.cv (nm y) v (hρ y v k1 e1') (by rw [aK];exact .inr k1)
   rw [aK,k2] at q1
   cases q1
   exact ⟨c,a',e2,q2,q3⟩
  ·exact ⟨c,a,e2,⟨o,keepP _ _ (.inr ⟨_,e2⟩) hp g,d⟩,vr r⟩
 ·obtain ⟨w,o,g,d⟩:=R.F.live x c e1
  by_cases hp:P c
  ·obtain ⟨y,k1,k2,k3⟩:=hP c (Heap.lt_size g) hp
   exact R'.F.live y c k2
  ·exact ⟨w,o,keepP _ _ (.inr ⟨_,e1⟩) hp g,d⟩
 ·obtain ⟨o,g⟩:=R.F.pl p
  rcases e.zn b z with z | h | w
  ·exact R.pz b p z
  ·exact Nat.lt_irrefl _ (Nat.lt_of_lt_of_le (Heap.lt_size g) h)
  ·exact R.pw b p w
 ·obtain ⟨o,g⟩:=R.F.pl p
  rcases e.wn b w with w | h
  ·exact R.pw b p w
  ·exact Nat.lt_irrefl _ (Nat.lt_of_lt_of_le (Heap.lt_size g) h)
theorem SRel.freeze {σ:Sto} {X:Wld} {s:Shared} (S:SRel C σ X s) {D:Addr} (hw:¬ Wr C σ X D) (hl:∃ o,s.heap.get? D=some o):SRel C σ (X.more (·=D)) s:=by
 exact ⟨S.base,(S.tab.imp fun ps t=>⟨t.1,t.2.mono (fun _ _ _ e=>e) fun _ z=>.inl z⟩),fun b o e n=>.inl (S.zb b o e n),fun b z=>z.elim (S.zl b) fun q=>by subst q;exact hl,S.os,S.gens,S.lt,
  fun l o e=>(S.obj l o e).mono (fun _ _ _ e=>e) (fun _ _ _ e=>e) (fun _ z=>.inl z) (Nat.le_refl _) (fun _ _=>⟨rfl,rfl,rfl⟩) (S.lt l o e),
  fun l l' o o' b e e' m m'=>S.apart l l' o o' b e e' m m',fun b w z=>z.elim (S.zw b w) fun q=>by subst q;exact hw w,fun b w=>S.wl b w⟩
theorem Evo.freeze {P:Addr->Prop} {σ σ':Sto} {X X':Wld} {s s':Shared} (e:Evo C P σ X s σ' X' s') {D:Addr} (hD:s.heap.objs.size<=D):Evo C P σ X s σ' (X'.more (·=D)) s':=by
 exact ⟨e.size,e.keep,fun b z=>.inl (e.zm b z),fun b z=>z.elim (e.zn b) fun q=>by subst q;exact .inr (.inl hD),fun b w=>e.wn b w,e.nx,e.ph⟩
theorem Wr_more {σ:Sto} {X:Wld} {N:Addr->Prop} {b:Addr}:Wr C σ (X.more N) b↔Wr C σ X b:=Iff.rfl
theorem n7 {σ σ1 σ2:Sto} {A:Around} {n:Nat} {sc sc':Scope} {env:Env} {X:Wld} {s:Shared} {eltE:Expr} {g:Comprehension} {gs:List Comprehension} {pos p:Pos} {elt it:Ex} {its:List Ex} {ts:List (List Nm)} {ifs:List (List Ex)} {src:V} {vs out:List V}
 {use:Option (Value->Sem Unit)} {Q:Value->Shared->Prop} {E:Value->Shared->Prop}
 (hs:f5 sc sc'=true) (hg:((g::gs).all fun g=>g.is_async==0&&gI g.iter)=true) (e1:aE n sc g.iter=some it)
 (e2:mapO (fun g:Comprehension=>aE n sc' g.iter) gs=some its) (e3:mapO (fun g:Comprehension=>cn sc' g.target) (g::gs)=some ts)
 (e4:mapO (fun g:Comprehension=>mapO (aE n sc') g.ifs) (g::gs)=some ifs) (e5:aE n sc' eltE=some elt)
 (h1:EvE C k it ρ σ src σ1) (hsi:dk src=some vs) (hsm:fJ src=true) (hc:CompR C k elt ts its ifs (dQ ρ (ig sc')) σ1 vs out σ2) (hlen:out.length<=sizeLine) (rm:Room k A) (R:Rel C env sc ρ σ X s)
 (hQ:∀ (D Cn:Addr) X' s',Rel C env sc ρ σ2 X' s'->Evo C (Pl env) σ X s σ2 X' s'->VRel C X' σ2.next s'.heap (.list out) (.ref D)->Priv C env σ2 X' s' Cn->(∃ m,s'.heap.Ns Cn m)->s.heap.objs.size<=Cn ->
   compPost (model C.prog C.w) A E use Q (.ref D) Cn (.ok .next) s') :
 wpAny (model C.prog C.w) A (comprehension (.ListComp eltE (g::gs) sc' p) sc' env pos (newList []) false (eval g.iter env) use) Q E s:=by
 obtain ⟨hkind,hnd,hfree⟩:=rC hs
 have hasy:∀ g'∈g::gs,g'.is_async=0/\gI g'.iter=true:=fun g' hm=>by
  obtain ⟨a,b⟩:=Bool.and_eq_true_iff.mp (List.all_eq_true.mp hg g' hm)
  exact ⟨beq_iff_eq.mp a,b⟩
 have hset:∀ x,foldedSetIterable g.iter env x=pure x:=kR (hasy g (.head _)).2
 have hnames:∀ x∈sc'.names,x.2=.local->sc'.names.lookup x.1=some .local:=fun x hx hl=>by
  obtain ⟨y,kd⟩:=x
  cases hl
  exact fT hnd hx
 have hclo:closureFor sc' env=pure (fi env sc'.names []):=tm fun q hq hf=>by
  obtain ⟨y,kd⟩:=q
  cases hf
  exact R.F.cl y (hfree y (fT hnd hq))
 refine wpAny_comprehension_free (g:=g) (gs:=gs) rfl hset hclo hkind hnames (h1 _ _ _ e1 A env X s rm R _ _ fun x X1 s1 R1 v1 r1=>?_)
 refine mP rm.handled R1.S r1 hsi hsm fun I fp m P St s2 G2 hI hIl itr=>?_
 obtain ⟨R2,v2⟩:=R1.grown G2
 refine wpAny_newObj_type (wV (C:=C) ?_) (by show ([]:List Value).toArray.size<=sizeLine;decide)
 have hDz:s2.heap.objs.size=s2.heap.objs.size:=rfl
 generalize hD:s2.heap.objs.size=D at hDz ⊢
 let H3:Heap:=s2.heap.push { cls:=.type "list",dict:=none,data:=.seq ([]:List Value).toArray }
 have hH3:H3=s2.heap.push { cls:=.type "list",dict:=none,data:=.seq ([]:List Value).toArray }:=rfl
 have hL:H3.objs.size=D+1:=by rw [hH3,Heap.size_push,hD]
 let H4:Heap:=H3.push { cls:=.type "dict",data:=.dict #[] }
 have hH4:H4=H3.push { cls:=.type "dict",data:=.dict #[] }:=rfl
 have hH4s:H4.objs.size=D+2:=by rw [hH4,Heap.size_push,hL]
 let H5:Heap:=pushCells H4 sc'.names
 have CS:=mQ sc'.names H4 (fi env sc'.names []) hnd
 have hclk:∀ y,(fi env sc'.names []).lookup y=if kindIn sc' y=some .free/\(env.cells.lookup y).isSome then env.cells.lookup y else none:=fun y=>ta _ _ hnd
 have hcl1:∀ y c,(fi env sc'.names []).lookup y=some c->kindIn sc' y=some .free/\env.cells.lookup y=some c:=fun y c h=>by
  rw [hclk] at h
  split at h
  ·rename_i q;exact ⟨q.1,h⟩
  ·cases h
 have hcl2:∀ y c,kindIn sc' y=some .free->env.cells.lookup y=some c->(fi env sc'.names []).lookup y=some c:=fun y c h1 h2=>by
  rw [hclk,if_pos ⟨h1,by rw [h2];rfl⟩];exact h2
 have envlt:∀ b:Nat,Pl env b->b<s2.heap.objs.size:=fun b p=>(R2.F.pl p).elim fun _ g=>Heap.lt_size g
 have G5:Grow s2 { s2 with heap:=H5 }:=⟨fun b o e=>pushCells_keeps _ _ _ _ (Heap.get?_push_of_some _ (Heap.get?_push_of_some _ e)),by
  show s2.heap.objs.size<=H5.objs.size
  exact Nat.le_trans (by rw [hH4s,hD];simp) CS.size,rfl,rfl⟩
 obtain ⟨R5,v5⟩:=R2.grown G5
 have lD:H5.PlainList D #[]:=⟨0,pushCells_keeps _ _ _ _ (Heap.get?_push_of_some _ (by rw [<-hD];exact Heap.get?_push_size _ rfl))⟩
 have nsL:H5.Ns (D+1) fun _=>none:=by
  have:=Heap.Ns.new H3 (.type "dict")
  rw [hL] at this
  exact this.keeps (pushCells_keeps _ _)
 let cells:=cellsFrom (D+2) sc'.names (fi env sc'.names [])
 have hcells:cells=cellsFrom H4.objs.size sc'.names (fi env sc'.names []):=by rw [hH4s]
 let cenv:Env:={ newEnv sc' (D+1) env.globals cells env.qual none .none (some env) builtinsNs with scope:=relabel sc' env }
 have hkO:∀ y,cenv.kindOf y=(sc'.names.lookup y).map fun kd=>if (kd==.free&&env.scope.kind==.function&&env.kindOf y==some .cell)=true then .cell else kd:=fun y=>nA (P:=fun n kd=>kd==.free&&env.scope.kind==.function&&env.kindOf n==some .cell) sc'.names y
 have zlt:∀ b:Nat,X1.Z b->b<s2.heap.objs.size:=fun b z=>(R2.S.zl b z).elim fun _ g=>Heap.lt_size g
 have wlt:∀ b:Nat,Wr C σ1 X1 b->b<s2.heap.objs.size:=fun b w=>(R2.S.wl b w).elim fun _ g=>Heap.lt_size g
 have cellsCase:∀ (y:Str) (c:Nat),cells.lookup y=some c->(kindIn sc' y=some .free/\env.cells.lookup y=some c)\/(kindIn sc' y=some .cell/\D+2<=c/\H5.IsCell c none):=fun y c h=>by
  by_cases hk:sc'.names.lookup y=some .cell
  ·obtain ⟨c',a1,a2,a3⟩:=CS.new y hk
   rw [hcells,a1] at h
   cases h
   exact .inr ⟨hk,by rw [<-hH4s];exact a2,a3⟩
  ·rw [hcells,CS.old y hk] at h
   exact .inl (hcl1 y c h)
 have Fc:Frm C cenv sc' (dQ ρ (ig sc')) X1 σ1.next H5:=by
  refine ⟨hkind,fun y hy=>?_,fun y hy=>?_,fun y hy=>?_,fun y hy=>?_,R.F.gl,R.F.bt,⟨_,nsL,fun y v e ky=>?_⟩,fun y hy=>?_,fun y v e ky=>?_,fun y c e=>?_,fun y z c e e'=>?_,fun y c e=>?_⟩
  ·rw [hkO,show sc'.names.lookup y=some .local from hy];rfl
  ·rw [hkO,show sc'.names.lookup y=some .cell from hy];rfl
  ·rw [hkO,show sc'.names.lookup y=some .free from hy]
   simp only [Option.map_some]
   split
   ·exact .inr rfl
   ·exact .inl rfl
  ·rw [hkO,show sc'.names.lookup y=some .globalImplicit from hy];rfl
  ·exact absurd (t9 (x:=ao y) (by rw [ky];rfl)) (by rw [fz];exact (nM _ _ _ _ e).2)
  ·rcases hy with hy | hy
   ·obtain ⟨c,a1,_⟩:=CS.new y hy
    exact ⟨c,by show cells.lookup y=_;rw [hcells];exact a1⟩
   ·obtain ⟨c,hc⟩:=R.F.cl y (hfree y hy)
    refine ⟨c,?_⟩
    show cells.lookup y=_
    rw [hcells,CS.old y (by rw [show sc'.names.lookup y=some .free from hy];decide)]
    exact hcl2 y c hy hc
  ·rcases ky with ky | ky
   ·exact absurd (t9 (x:=ao y) (by rw [ky];rfl)) (by rw [fz];exact (nM _ _ _ _ e).2)
   ·obtain ⟨c,a,q1,q2,q3⟩:=R5.F.cv y v (nM _ _ _ _ e).1 (hfree _ ky)
    refine ⟨c,a,?_,q2,q3⟩
    show cells.lookup (ao y)=_
    rw [hcells,CS.old _ (by rw [show sc'.names.lookup (ao y)=some .free from ky];decide)]
    exact hcl2 _ c ky q1
  ·rcases cellsCase y c e with ⟨_,h⟩ | ⟨_,_,h⟩
   ·exact R5.F.live y c h
   ·exact ⟨_,h⟩
  ·have:=CS.inj (fun x c h=>by
    have:=envlt c (.inr ⟨x,(hcl1 x c h).2⟩)
    rw [hH4s];exact Nat.lt_of_lt_of_le this (by exact Nat.le.intro (congrFun (congrArg HAdd.hAdd hD) 2))) (fun x y c h h'=>R.F.apart x y c (hcl1 x c h).2 (hcl1 y c h').2)
   rw [<-hcells] at this
   exact this y z c e e'
  ·rcases cellsCase y c e with ⟨_,h⟩ | ⟨_,h,_⟩
   ·have:=envlt c (.inr ⟨y,h⟩)
    exact Nat.ne_of_lt (Nat.lt_of_lt_of_le this (by show s2.heap.objs.size<=D+1;exact Nat.le.intro (congrFun (congrArg HAdd.hAdd hD) 1)))
   ·exact Nat.ne_of_gt (Nat.lt_of_lt_of_le (Nat.lt_succ_self (D+1)) h)
 have plC:∀ b:Nat,Pl cenv b->D+1<=b\/(∃ y,kindIn sc' y=some .free/\cells.lookup y=some b/\env.cells.lookup y=some b):=fun b p=>by
  rcases p with p | ⟨y,e⟩
  ·exact .inl (Nat.le_of_eq p.symm)
  ·rcases cellsCase y b e with ⟨h1,h2⟩ | ⟨_,h,_⟩
   ·exact .inr ⟨y,h1,e,h2⟩
   ·exact .inl (by exact Nat.le_of_succ_le h)
 have Rc:Rel C cenv sc' (dQ ρ (ig sc')) σ1 X1 { s2 with heap:=H5 }:=by
  refine ⟨R5.S,Fc,fun b p z=>?_,fun b p w=>?_⟩
  ·rcases plC b p with h | ⟨y,_,_,h⟩
   ·have:=zlt b z;lia -abstractProof
   ·exact R5.pz b (.inr ⟨y,h⟩) z
  ·rcases plC b p with h | ⟨y,_,_,h⟩
   ·have:=wlt b w;lia -abstractProof
   ·exact R5.pw b (.inr ⟨y,h⟩) w
 have nPl:∀ b:Nat,b<=D->s2.heap.objs.size<=b\/¬ Pl env b->¬ Pl cenv b:=fun b hb hn p=>by
  rcases plC b p with h | ⟨y,_,_,h⟩
  ·lia -abstractProof
  ·rcases hn with hn | hn
   ·have:=envlt b (.inr ⟨y,h⟩);lia -abstractProof
   ·exact hn (.inr ⟨y,h⟩)
 have w:=itr.wi (N:=fun _=>False) R1 R2 hI hIl (fun _ h=>h.elim) id
 have s5le:s2.heap.objs.size<=H5.objs.size:=G5.size
 have Dlt:D<H5.objs.size:=(lD).elim fun _ g=>Heap.lt_size g
 have hfp:∀ b∈fp,¬ Wr C σ1 X1 b/\¬ Pl cenv b/\b≠D/\b<H5.objs.size:=fun b hb=>by
  have f:=w.fps b hb
  have l:=f.2.2.2
  rw [hD] at l
  exact ⟨f.1,nPl b (Nat.le_of_lt l) (.inr f.2.1),Nat.ne_of_lt l,Nat.lt_of_lt_of_le f.2.2.2 s5le⟩
 have hDp:Priv C cenv σ1 X1 { s2 with heap:=H5 } D:=⟨fun w=>by have:=wlt D w;lia -abstractProof,nPl D (Nat.le_refl _) (.inl (Nat.le_of_eq hD)),fun z=>by have:=zlt D z;lia -abstractProof,Dlt⟩
 have st5:St 0 H5:=itr.W.frame _ _ _ itr.st fun b _ o g=>G5.keep b o g
 have loop:codeAny (model C.prog C.w) A (.compLoop (.ListComp eltE (g::gs) sc' p) 0 (.ref I) (.ref D) cenv) (compPost (model C.prog C.w) A E use Q (.ref D) (D+1)) { s2 with heap:=H5 }:=by
  refine wz hc n sc' eltE (g::gs) sc' p 0 e5 e3 e2 e4 hasy A cenv X1 _ I D fp m 0 P St #[] [] _ rm ⟨⟨Rc,itr.W,st5,(Nat.zero_add _).trans itr.len,fun j a hj hp=>?_,itr.own,hfp,itr.mem,w.z⟩,hDp,lD,.nil⟩ (by simp only [List.length_nil,Nat.zero_add];exact hlen) fun X6 s6 ys6 R6 v6 l6 r6=>?_
  ·exact (w.val j a hj hp).imp fun u q=>⟨q.1,q.2.mono (fun b o _ g=>G5.keep b o g) (fun _ z=>z) (Nat.le_refl _) fun _ _=>rfl⟩
  ·have s1le:s1.heap.objs.size<=s2.heap.objs.size:=G2.size
   have s0le:s.heap.objs.size<=s1.heap.objs.size:=v1.size
   have g2:=(R1.S.grow0 G2).2
   have g5:=(R2.S.grow0 G5).2
   have v16:Evo C (fun b=>Pl cenv b\/b=D\/b=I) σ1 X1 s1 σ2 X6 s6:=((g2.trans g5).of0).trans v6
   have hP:∀ b:Nat,b<s1.heap.objs.size->(Pl cenv b\/b=D\/b=I)->∃ x,kindIn sc' x=some .free/\cenv.cells.lookup x=some b/\env.cells.lookup x=some b:=fun b hb q=>by
    rcases q with q | q | q
    ·rcases plC b q with h | h
     ·grind -abstractProof
     ·exact h
    ·grind -abstractProof
    ·subst q;exact absurd hb (Nat.not_lt.mpr hI)
   have R7:Rel C env sc ρ σ2 X6 s6:=xQ R1 R6 v16 hP fun x v hx e=>yZ _ _ _ _ e fun q=>by
    obtain ⟨⟨y,kd⟩,hy,h⟩:=List.mem_filterMap.mp q
    split at h
    ·rename_i ho
     have hyx:y=x:=gq (Option.some.inj h)
     subst hyx
     have:=fT hnd hy
     rw [show sc'.names.lookup y=some .free from hx] at this
     cases this
     cases ho
    ·cases h
   have v17:Evo C (Pl env) σ X s σ2 X6 s6:=v1.comp v16 (fun _ q=>q) fun b hb q=>by
    obtain ⟨x,_,_,h⟩:=hP b (Nat.lt_of_lt_of_le hb s0le) q
    exact .inr ⟨x,h⟩
   have hD6:=hDp.evo v6
   have lD6:∃ o,s6.heap.get? D=some o:=l6.elim fun _ g=>⟨_,g⟩
   have S8:=R7.S.freeze hD6.w lD6
   have v18:=v17.freeze (D:=D) (by rw [<-hD];exact Nat.le_trans s0le s1le)
   have R8:Rel C env sc ρ σ2 (X6.more (·=D)) s6:=by
    refine ⟨S8,R7.F.mono (fun _ _ _ e=>e) (fun _ _ _ e=>e) (fun _ z=>.inl z) (Nat.le_refl _) (fun _ _=>rfl) (fun _ _ h=>h),fun b p z=>?_,fun b p w=>R7.pw b p w⟩
    rcases z with z | z
    ·exact R7.pz b p z
    ·have:=envlt b p
     subst z
     exact absurd hD (Nat.ne_of_gt this)
   refine hQ D (D+1) _ s6 R8 v18 ?_ ⟨fun w=>R6.pw (D+1) (.inl rfl) w,fun p=>by have:=envlt _ p;lia -abstractProof,fun z=>?_,?_⟩ ?_ ?_
   ·obtain ⟨kk,g⟩:=l6
    exact ⟨D,ys6,kk,rfl,.inr rfl,g,VsRel.mono (X:=X6) (X':=X6.more (·=D)) (fun _ _ _ e=>e) (fun _ z=>Or.inl z) (Nat.le_refl _) (fun _ _=>rfl) (by simpa using r6)⟩
   ·rcases z with z | z
    ·exact R6.pz (D+1) (.inl rfl) z
    ·exact absurd z (Nat.succ_ne_self D)
   ·obtain ⟨o,g⟩:=R6.F.pl (.inl rfl)
    exact Heap.lt_size g
   ·obtain ⟨m,h,_⟩:=R6.F.ns;exact ⟨m,h⟩
   ·show s.heap.objs.size<=D+1
    lia -abstractProof
 have fin:∀ z,z=D+1->codeAny (model C.prog C.w) A (.compStart (.ListComp eltE (g::gs) sc' p) 0 (.ref I) (.ref D) { newEnv sc' z env.globals (cellsFrom (z+1) sc'.names (fi env sc'.names [])) env.qual none .none (some env) builtinsNs with scope:=relabel sc' env })
  (compPost (model C.prog C.w) A E use Q (.ref D) z) { s2 with heap:=H5 }:=by
  rintro z rfl
  exact nv rfl (hasy g (.head _)).1 loop (itr.W.self 0 _ _ _ st5 loop)
 exact fin _ hL
end
end
section
open PySem PyProof.Rows
section
variable {C:Cx} {k:Nat} {ρ:Loc} {σ σ1 σ2:Sto}
theorem Rel.last {env:Env} {sc:Scope} {X:Wld} {s:Shared} {b:Addr} {h':Heap} (R:Rel C env sc ρ σ X s) (p:Priv C env σ X s b) (hs:Heap.SameBut b s.heap h'):Rel C env sc ρ σ X { s with heap:=h' }/\Evo C (fun c=>c=b) σ X s σ X { s with heap:=h' }:=by
 obtain ⟨S',e⟩:=R.S.priv (s':={ s with heap:=h' }) (fun c=>c=b) (fun c q=>by subst q;exact p.z) (fun c q=>by subst q;exact p.w) (fun c o nb g=>(hs.2 c nb).trans g) (Nat.le_of_eq hs.1.symm) rfl rfl
 exact ⟨R.evo S' e (fun c q h=>by subst h;exact p.p q) fun c q=>by subst q;exact p.z,e⟩
inductive CompOk (C:Cx) (k:Nat):Ex->Loc->Sto->V->Sto->Prop
 | mk (elt ts it its ifs own src vs out ρ σ σ1 σ') (h1:EvE C k it ρ σ src σ1) (h2:dk src=some vs) (h3:fJ src=true) (h4:CompR C k elt ts its ifs (dQ ρ own) σ1 vs out σ') (h5:out.length<=sizeLine):CompOk C k (.comp elt ts (it::its) ifs own) ρ σ (.list out) σ'
theorem lG {g:Comprehension} {gs:List Comprehension} (h:((g::gs).all fun g=>g.is_async==0&&gI g.iter)=true):firstAsync (g::gs)=false:=by
 cases g
 exact congrArg (fun b=>!b) (Bool.and_eq_true_iff.mp (Bool.and_eq_true_iff.mp h).1).1
theorem mR {g:Comprehension} {gs:List Comprehension} {env:Env}:firstIter (g::gs) env=eval g.iter env:=by cases g;rfl
theorem dU {elt it:Ex} {its:List Ex} {ts:List (List Nm)} {ifs:List (List Ex)} {own:List Nm} {src:V} {vs out:List V} (h1:EvE C k it ρ σ src σ1) (hsi:dk src=some vs) (hsm:fJ src=true) (hc:CompR C k elt ts its ifs (dQ ρ own) σ1 vs out σ2)
 (hlen:out.length<=sizeLine):CompOk C k (.comp elt ts (it::its) ifs own) ρ σ (.list out) σ2:=⟨_,_,_,_,_,_,_,_,_,_,_,_,_,h1,hsi,hsm,hc,hlen⟩
theorem CompOk.ev {e':Ex} {v:V} (h:CompOk C k e' ρ σ v σ2):EvE C k e' ρ σ v σ2:=by
 obtain ⟨elt,ts,it,its,ifs,own,src,vs,out,ρ,σ,σ1,σ2,h1,hsi,hsm,hc,hlen⟩:=h
 intro n sc e h A env X s rm R Q E hQ
 cases erI h
 rename_i n eltE g gs sc' p it' its' hs hg e1 e2 e3 e4 e5 he ho
 cases he
 subst ho
 rw [eval_ListComp,lG hg,mR]
 refine n7 (n:=n) hs hg e1 e2 e3 e4 e5 h1 hsi hsm hc hlen rm R fun D Cn X' s' R' v' r' pr ns hn=>?_
 obtain ⟨m,hm⟩:=ns
 refine ⟨m,hm,fun h' hsb=>?_⟩
 obtain ⟨R2,v2⟩:=R'.last pr hsb
 have hpz:∀ b,b=Cn->¬ X'.Z b:=fun b q=>by subst q;exact pr.z
 refine hQ _ X' _ R2 (v'.comp v2 (fun _ q=>q) fun b hb q=>?_) (v2.rel R'.S hpz r')
 subst q
 exact absurd hb (Nat.not_lt.mpr hn)
inductive JAssign (sc:Scope) (xs:List Nm) (tp:Bool) (e:Ex):Stmt->Prop | mk (n t v p) (hsw:jW v=false) (hsc:(lj e||noComp v)=true) (ht:cn sc t=some xs) (hk:tp=decide (xs.length≠1)) (h:aE n sc v=some e):JAssign sc xs tp e (.Assign [t] v p)
inductive JSet (sc:Scope) (a:Ex) (y:Nm) (e:Ex):Stmt->Prop | mk (n o m p' v p) (hs:eQ o=false) (h1:aE n sc o=some a) (h:aE n sc v=some e) (hn:nm m=y):JSet sc a y e (.Assign [.Attribute o m p'] v p)
inductive JAug (sc:Scope) (y:Nm) (op:Operator) (e:Ex):Stmt->Prop | mk (n x p' v p) (hb:dg x=false) (ho:iG (kindIn sc x)=true) (h:aE n sc v=some e) (hn:nm x=y):JAug sc y op e (.AugAssign (.Name x p') op v p)
inductive JAugattr (sc:Scope) (a:Ex) (y:Nm) (op:Operator) (e:Ex):Stmt->Prop | mk (n o m p' v p) (h1:aE n sc o=some a) (h:aE n sc v=some e) (hn:nm m=y):JAugattr sc a y op e (.AugAssign (.Attribute o m p') op v p)
inductive JIf (sc:Scope) (t':Ex) (a' b':List St):Stmt->Prop | mk (n t a b p) (h1:aE n sc t=some t') (h2:mapO (cm n sc) a=some a') (h3:mapO (cm n sc) b=some b'):JIf sc t' a' b' (.If t a b p)
inductive JFor (sc:Scope) (xs:List Nm) (it':Ex) (a' b':List St):Stmt->Prop
 | mk (n t it a b p) (hs:gI it=true) (h0:cn sc t=some xs) (h1:aE n sc it=some it') (h2:mapO (cm n sc) a=some a') (h3:mapO (cm n sc) b=some b'):JFor sc xs it' a' b' (.For t it a b p)
inductive JWhile (sc:Scope) (t':Ex) (a':List St):Stmt->Prop | mk (n t a p) (h1:aE n sc t=some t') (h2:mapO (cm n sc) a=some a'):JWhile sc t' a' (.While t a [] p)
inductive JRet (sc:Scope) (e':Ex):Stmt->Prop | mk (n e p) (h1:aE n sc e=some e'):JRet sc e' (.Return (some e) p)
inductive JBrk (sc:Scope):Stmt->Prop | mk (p):JBrk sc (.Break p)
inductive JCont (sc:Scope):Stmt->Prop | mk (p):JCont sc (.Continue p)
inductive JExpr (sc:Scope) (e':Ex):Stmt->Prop | mk (n e p) (hsc:noComp e=true) (h1:aE n sc e=some e'):JExpr sc e' (.Expr e p)
noncomputable def Ea (sc:Scope) (t:Stmt):St->Prop
 | .assign xs tp e=>JAssign sc xs tp e t | .setattr a y e=>JSet sc a y e t | .aug y op e=>JAug sc y op e t | .augattr a y op e=>JAugattr sc a y op e t
 | .ifs t' a b=>JIf sc t' a b t | .for_ xs it a b=>JFor sc xs it a b t | .while_ t' a=>JWhile sc t' a t | .ret e=>JRet sc e t | .brk=>JBrk sc t | .cont=>JCont sc t | .expr e=>JExpr sc e t
theorem At {n:Nat} {sc:Scope} {t:Expr} {kf:Ex->St} (h:q9 sc n t=some kf):(∃ xs,cn sc t=some xs/\∀ e,kf e=.assign xs (decide (xs.length≠1)) e)\/∃ o m p' a,t=.Attribute o m p'/\eQ o=false/\aE n sc o=some a/\∀ e,kf e=.setattr a (nm m) e:=by
 cases hq:lQ t with
 | some q =>
   obtain ⟨hs,h1⟩:=k0 (c:=eQ q.1) ((congrArg (xc sc n t) hq).symm.trans h)
   obtain ⟨a,h3,rfl⟩:=Option.map_eq_some_iff.mp h1
   exact .inr ⟨q.1,q.2.1,q.2.2,a,kZ hq,hs,h3,fun _=>rfl⟩
 | none =>
   obtain ⟨xs,h3,rfl⟩:=Option.map_eq_some_iff.mp ((congrArg (xc sc n t) hq).symm.trans h)
   exact .inl ⟨xs,h3,fun _=>rfl⟩
theorem AL {n:Nat} {sc:Scope} {op:Operator} {v t:Expr} {t':St} (h:BD (aE n sc) sc op v t=some t'):(∃ y e,fK sc t=some y/\aE n sc v=some e/\t'=.aug y op e)\/∃ o m p' a e,t=.Attribute o m p'/\aE n sc o=some a/\aE n sc v=some e/\t'=.augattr a (nm m) op e:=by
 cases hq:lQ t with
 | some q =>
   obtain ⟨a,e,h1,h2,rfl⟩:=b2 ((congrArg (C4 (aE n sc) sc op v t) hq).symm.trans h)
   exact .inr ⟨q.1,q.2.1,q.2.2,a,e,kZ hq,h1,h2,rfl⟩
 | none =>
   obtain ⟨y,e,h1,h2,rfl⟩:=b2 ((congrArg (C4 (aE n sc) sc op v t) hq).symm.trans h)
   exact .inl ⟨y,e,h1,h2,rfl⟩
theorem stI {n:Nat} {sc:Scope} {t:Stmt} {t':St} (h:cm n sc t=some t'):Ea sc t t':=by
 cases n with
 | zero=>exact bF h
 | succ n =>
   cases t with
   | Assign ts v p =>
     match ts with
     | []=>exact bF h
     | _::_::_=>exact bF h
     | [tg] =>
       obtain ⟨hsw,h⟩:=k0 (c:=jW v) h
       obtain ⟨kf,h1,h⟩:=Option.bind_eq_some_iff.mp h
       obtain ⟨e,h2,h⟩:=Option.bind_eq_some_iff.mp h
       obtain ⟨hsc,h⟩:=jL h
       cases h
       rcases At h1 with ⟨xs,q1,q2⟩ | ⟨o,m,p',a,rfl,q1,q2,q3⟩
       ·rw [q2];exact JAssign.mk n _ v p hsw hsc q1 rfl h2
       ·rw [q3];exact JSet.mk n o m p' v p q1 q2 h2 rfl
   | AugAssign tg op v p =>
     rcases AL h with ⟨y,e,h1,h2,rfl⟩ | ⟨o,m,p',a,e,rfl,h1,h2,rfl⟩
     ·obtain ⟨x,p,q,hb,ho,rfl⟩:=eH h1
      subst q
      exact JAug.mk n _ _ v _ hb ho h2 rfl
     ·exact JAugattr.mk n o m p' v p h1 h2 rfl
   | If c a b p =>
     obtain ⟨y,h1,h⟩:=Option.bind_eq_some_iff.mp h
     obtain ⟨e,f,h2,h3,rfl⟩:=b2 h
     exact JIf.mk n c a b p h1 h2 h3
   | For tg it a b p =>
     obtain ⟨hs,h⟩:=jL (c:=gI it) h
     obtain ⟨xs,h0,h⟩:=Option.bind_eq_some_iff.mp h
     obtain ⟨y,h1,h⟩:=Option.bind_eq_some_iff.mp h
     obtain ⟨e,f,h2,h3,rfl⟩:=b2 h
     exact JFor.mk n tg it a b p hs h0 h1 h2 h3
   | While c a b p =>
     cases b with
     | cons _ _=>exact bF h
     | nil =>
       obtain ⟨y,e,h1,h2,rfl⟩:=b2 h
       exact JWhile.mk n c a p h1 h2
   | Return o p =>
     cases o with
     | none=>exact bF h
     | some e =>
       obtain ⟨y,h1,rfl⟩:=b1 h
       exact JRet.mk n e p h1
   | Break p=>cases h;exact JBrk.mk p
   | Continue p=>cases h;exact JCont.mk p
   | Expr e p =>
     obtain ⟨hsc,h⟩:=jL h
     obtain ⟨y,h1,rfl⟩:=b1 h
     exact JExpr.mk n e p hsc h1
   | _=>exact bF h
end
end
section
open PySem PyProof.Rows
section
variable {C:Cx} {k:Nat} {ρ ρ' ρ1 ρ2:Loc} {σ σ1 σ2 σ3:Sto}
theorem r9 {e:Expr} (h:noComp e=true) (t:Option Expr) (line:Nat) (env:Env):swapsWith e t line env=pure false:=by
 unfold swapsWith
 unfold noComp at h
 generalize PySem.swapsWith.match_1 _ e _ _ _ _=o at h ⊢
 cases o with
 | none=>rfl
 | some _=>cases h
theorem wh (e:Expr) (x:Str) (px:Pos) (line:Nat) (env:Env):swapsWith e (some (.Name x px)) line env=pure false\/swapsWith e (some (.Name x px)) line env=pure true:=by
 unfold swapsWith
 generalize PySem.swapsWith.match_1 _ e _ _ _ _=o
 cases o with
 | none=>exact .inl rfl
 | some s =>
   dsimp only
   generalize (_&&_:Bool)=b
   cases b
   ·exact .inl rfl
   ·exact .inr rfl
theorem wu (e:Expr) (elts:List Expr) (kk:Nat) (p:Pos) (line:Nat) (env:Env):swapsWith e (some (.Tuple elts kk p)) line env=pure false:=by
 unfold swapsWith
 generalize PySem.swapsWith.match_1 _ e _ _ _ _=o
 cases o<;>rfl
theorem eD2 {a b:Str} (h:[a,b].eraseDups.length=2):a≠b:=by
 rintro rfl
 simp [List.eraseDups_cons] at h
theorem eD3 {a b c:Str} (h:[a,b,c].eraseDups.length=3):a≠b/\a≠c/\b≠c:=by
 refine ⟨?_,?_,?_⟩
 ·rintro rfl
  by_cases hc:c=a<;>simp [List.eraseDups_cons,hc] at h
 ·rintro rfl
  by_cases hc:b=a<;>simp [List.eraseDups_cons,hc] at h
 ·rintro rfl
  by_cases hc:b=a<;>simp [List.eraseDups_cons,hc] at h
theorem wk {sc:Scope} {env:Env} {line:Nat} {f:Expr->Option Str} (hf:∀ x p,f (.Name x p)=if env.kindOf x==some .local&&p.line==line then some x else none):∀ {elts:List Expr} {ys:List Nm},mapO (fK sc) elts=some ys->(elts.filterMap f).length=elts.length ->
 ys=(elts.filterMap f).map nm/\∀ x∈elts.filterMap f,env.kindOf x=some .local:=by
 intro elts
 induction elts with
 | nil =>
   intro ys h _
   cases h;exact ⟨rfl,fun x hx=>by cases hx⟩
 | cons e elts ih =>
   intro ys h hl
   obtain ⟨y,ys',h1,h2,h⟩:=b2 h
   cases h
   obtain ⟨x,p,rfl,hb,ho,rfl⟩:=eH h1
   have hle:=List.length_filterMap_le f elts
   rw [List.filterMap_cons,hf] at hl
   by_cases hc:(env.kindOf x==some .local&&p.line==line)=true
   ·rw [if_pos hc] at hl
    simp only [List.length_cons] at hl
    obtain ⟨a,b⟩:=ih h2 (by lia -abstractProof)
    rw [List.filterMap_cons,hf,if_pos hc]
    refine ⟨by simp [a],fun z hz=>?_⟩
    rcases List.mem_cons.mp hz with rfl | hz
    ·simpa using (Bool.and_eq_true_iff.mp hc).1
    ·exact b z hz
   ·rw [if_neg hc] at hl
    simp only [List.length_cons] at hl
    lia -abstractProof
theorem AS {elts:List Expr} {kk:Nat} {p:Pos} {v:Expr} {env:Env} (h:v.ctorIdx≠25):swappedStores [.Tuple elts kk p] v env=pure none:=by
 cases v<;>first | exact Eq.refl (pure none) | exact absurd rfl h
theorem pq {α:Type} {c:Bool} {x y:α} {P:α->Prop} (h1:P x) (h2:c=false->P y):P (if c=true then x else y):=by
 cases c with
 | true=>exact h1
 | false=>exact h2 rfl
theorem qD {elts:List Expr} {kk:Nat} {p:Pos} {v:Expr} {env:Env} {sc:Scope} {ys:List Nm} {Q:Sem (Option (List Str))->Prop} (he:mapO (fK sc) elts=some ys) (hb:jW v=false) (h0:Q (pure none))
 (h1:∀ names:List Str,ys=names.map nm->(names.length=2\/names.length=3)->names.eraseDups.length=names.length->(∀ x∈names,env.kindOf x=some .local)->Q (pure (some names))):Q (swappedStores [.Tuple elts kk p] v env):=by
 by_cases hi:v.ctorIdx=25
 ·revert hb
  refine PySem.Expr.Tuple.elim (motive_1:=fun v=>jW v=false->Q (swappedStores [.Tuple elts kk p] v env)) v hi fun vs k2 p2 hb=>?_
  refine pq h0 fun a1=>pq h0 fun _=>pq h0 fun a3=>pq h0 fun _=>?_
  rw [show vs.all (constantsAlone 8)=false from hb]
  obtain ⟨a3,a4⟩:=Bool.or_eq_false_iff.mp a3
  have b3:=beq_iff_eq.mp (uG a3)
  obtain ⟨q1,q2⟩:=wk (by exact fun x p=>rfl) he b3
  refine h1 _ q1 ?_ (beq_iff_eq.mp (uG a4)) q2
  rw [b3]
  obtain ⟨a1,_⟩:=Bool.or_eq_false_iff.mp a1
  obtain ⟨a1,_⟩:=Bool.or_eq_false_iff.mp a1
  exact (Bool.or_eq_true_iff.mp (uG a1)).imp beq_iff_eq.mp beq_iff_eq.mp
 ·rw [AS hi];exact h0
end
end
section
open PySem PyProof.Rows
section
variable {C:Cx} {k:Nat} {ρ ρ' ρ1 ρ2:Loc} {σ σ1 σ2 σ3:Sto}
theorem C9 {A:Around} {env:Env} {sc:Scope} {E:Value->Shared->Prop} (names:List Str):∀ {vs:List V} {as:List Value} {ρ:Loc} {X:Wld} {s:Shared} {Q:Unit->Shared->Prop},(∀ x∈names,iG (kindIn sc x)=true)->Rel C env sc ρ σ X s ->
 VsRel C X σ.next s.heap vs as->vs.length=names.length->(∀ X' s',Rel C env sc (bD ρ (names.map nm) vs) σ X' s'->Evo C (Pl env) σ X s σ X' s'->Q () s')->wpAny (model C.prog C.w) A (assignInOrder (names.map fun n=>bindName env n) as) Q E s:=by
 induction names with
 | nil =>
   intro vs as ρ X s Q h R r hl hQ
   obtain rfl:=List.eq_nil_of_length_eq_zero hl
   exact wpAny_pure (hQ X s R .refl)
 | cons x names ih =>
   intro vs as ρ X s Q h R r hl hQ
   obtain ⟨v,vs,rfl,hl⟩:=qY hl
   obtain ⟨a,as',rfl,r1,r2⟩:=r
   refine wpAny_bind (wpAny_holding (wpAny_bindName (gR R (h x (.head _)) r1 fun X1 s1 R1 v1=>?_)))
   exact ih (fun y hy=>h y (.tail _ hy)) R1 (v1.rels R.S R.pz r2) (by assumption) fun X2 s2 R2 v2=>hQ X2 s2 R2 (v1.trans v2)
theorem VsRel.reverse {X:Wld} {n:Nat} {h:Heap} {vs:List V}:∀ {as:List Value},VsRel C X n h vs as->VsRel C X n h vs.reverse as.reverse:=by
 induction vs with
 | nil=>intro _ r;rw [r.inv_nil];exact .nil
 | cons v vs ih =>
   intro as r
   obtain ⟨a,q,rfl,r1,r2⟩:=r
   rw [List.reverse_cons,List.reverse_cons]
   exact (ih r2).app (.cons r1 .nil)
theorem wG {names:List Str} {vs:List V} (hl:vs.length=names.length) (h23:names.length=2\/names.length=3) (hd:names.eraseDups.length=names.length) (ρ:Loc) (y:Nm) (v:V)
 (h:get (bD ρ (names.map nm) vs) y=some v):get (bD ρ (names.reverse.map nm) vs.reverse) y=some v:=by
 rcases h23 with q | q
 ·obtain ⟨a,b,rfl⟩:=CG q
  obtain ⟨u,w,rfl⟩:=CG (hl.trans q)
  have hne:=eD2 hd
  have hn:nm a≠nm b:=fun q=>hne (gq q)
  replace h:get (put (put ρ (nm a) u) (nm b) w) y=some v:=h
  show get (put (put ρ (nm b) w) (nm a) u) y=some v
  simp only [bN] at h ⊢
  by_cases h1:y=nm a<;>by_cases h2:y=nm b<;>simp_all
 ·obtain ⟨a,b,c,rfl⟩:=CW q
  obtain ⟨u,w,x,rfl⟩:=CW (hl.trans q)
  clear q
  obtain ⟨n1,n2,n3⟩:=eD3 hd
  have m1:nm a≠nm b:=fun q=>n1 (gq q)
  have m2:nm a≠nm c:=fun q=>n2 (gq q)
  have m3:nm b≠nm c:=fun q=>n3 (gq q)
  replace h:get (put (put (put ρ (nm a) u) (nm b) w) (nm c) x) y=some v:=h
  show get (put (put (put ρ (nm c) x) (nm b) w) (nm a) u) y=some v
  simp only [bN] at h ⊢
  by_cases h1:y=nm a<;>by_cases h2:y=nm b<;>by_cases h3:y=nm c<;>simp_all
theorem oT (t v:Expr) (p:Pos) (env:Env) (h:swapsWith v (some t) p.line env=pure false):exec (.Assign [t] v p) env=(do
 standAt p
 let x <-eval v env
 assignStores env x (<-swappedStores [t] v env) ((assignEach [t] env).map (·.2))):=by
 have e:exec (.Assign [t] v p) env=(do
  standAt p
  if <-swapsWith v (some t) p.line env then do
   evalThenUse v env fun v=>assignAll v ((assignEach [t] env).map (·.2))
   pure .next
  else do
   let x <-eval v env
   assignStores env x (<-swappedStores [t] v env) ((assignEach [t] env).map (·.2))):=rfl
 rw [e,h];rfl
theorem B2 {sc:Scope} {x:Str} {elts:List Expr}:∀ {ys:List Nm},mapO (fK sc) elts=some ys->nm x∈ys->iG (kindIn sc x)=true:=by
 induction elts with
 | nil=>intro ys h hm;cases h;cases hm
 | cons e elts ih =>
   intro ys h hm
   obtain ⟨y,ys',q1,q2,q⟩:=b2 h
   cases q
   obtain ⟨z,pz,rfl,_,ho,rfl⟩:=eH q1
   rcases List.mem_cons.mp hm with q | q
   ·rw [gq q];exact ho
   ·exact ih q2 q
theorem ak {xs:List Nm} {tp:Bool} {e:Ex} {v:V} (h1:EvE C k e ρ σ v σ1) (hb:bI ρ xs v=some ρ') (hc:tp=false->lj e=false):ExS C k (.assign xs tp e) ρ σ .next ρ' σ1:=by
 intro n sc t h A env X s rm R Q E hQ
 cases stI h
 rename_i n t ve p hsw hnc ht hk e1
 rcases iy ht with ⟨x,px,y,rfl,h2,rfl⟩ | ⟨elts,kk,pt,rfl,h2,hl2⟩
 ·obtain ⟨x',p',q,hbn,ho,rfl⟩:=eH h2
  cases q
  have hc':lj e=false:=hc (by rw [hk];rfl)
  refine wpAny_Assign_Name (h1 _ _ _ e1 A env X s rm R _ _ fun a X1 s1 R1 v1 r1=>?_) (r9 (by rw [hc'] at hnc;exact hnc) _ _ _)
  cases hb
  exact gR R1 ho r1 fun X2 s2 R2 v2=>hQ _ X2 s2 R2 (v1.trans v2) trivial
 ·rw [oT _ _ _ _ (wu _ _ _ _ _ _)]
  refine wpAny_bind (wpAny_standAt (wpAny_bind (h1 _ _ _ e1 A env X s rm R _ _ fun a X1 s1 R1 v1 r1=>?_)))
  refine wpAny_bind (qD (Q:=fun t=>wpAny _ A t _ _ _) h2 hsw ?_ fun names hys h23 hd hloc=>?_)
  ·refine wpAny_pure ?_
   show wpAny _ A (do assignAll a [assign (.Tuple elts kk pt) env];pure .next) Q E s1
   refine wpAny_bind ?_
   show wpAny _ A (assign (.Tuple elts kk pt) env a) _ _ s1
   exact asg rm.handled ht hb R1 r1 fun X2 s2 R2 v2=>wpAny_pure (hQ _ X2 s2 R2 (v1.trans v2) trivial)
  ·refine wpAny_pure ?_
   obtain ⟨vs,hi,hl',rfl⟩:=oM hl2 hb
   have hlen:vs.length=names.length:=by rw [hl',hys,List.length_map]
   show wpAny _ A (do
    rule "assign.swapped-stores"
    let items <-unpackItems a names.length none
    assignInOrder (names.reverse.map fun n=>bindName env n) items.reverse
    pure .next) Q E s1
   refine wpAny_bind (wpAny_rule (wpAny_bind ?_))
   rw [<-hlen]
   refine nJ rm.handled R1.S r1 hi fun as s2 G r2=>?_
   obtain ⟨R2,v2⟩:=R1.grown G
   refine wpAny_bind (C9 names.reverse (fun x hx=>B2 h2 (by rw [hys];exact List.mem_map_of_mem (List.mem_reverse.mp hx))) R2 r2.reverse (by simpa using hlen) fun X3 s3 R3 v3=>wpAny_pure (hQ _ X3 s3 (R3.less fun y u hy=>?_) ((v1.trans v2).trans v3) trivial))
   rw [hys] at hy
   exact wG hlen h23 hd ρ y u hy
theorem bQ {x:Nm} {e:Ex} {v:V} (h1:CompOk C k e ρ σ v σ1):ExS C k (.assign [x] false e) ρ σ .next (put ρ x v) σ1:=by
 intro n sc t h A env X s rm R Q E hQ
 cases stI h
 rename_i n t ve p hsw hnc ht hk e1
 rcases iy ht with ⟨xx,px,y,rfl,h2,q⟩ | ⟨elts,kk,pt,_,_,h2⟩
 ·cases q
  obtain ⟨x',p',q,hbn,ho,rfl⟩:=eH h2
  cases q
  rcases wh ve xx px p.line env with hs | hs
  ·refine wpAny_Assign_Name (h1.ev _ _ _ e1 A env X s rm R _ _ fun a X1 s1 R1 v1 r1=>?_) hs
   exact gR R1 ho r1 fun X2 s2 R2 v2=>hQ _ X2 s2 R2 (v1.trans v2) trivial
  ·rw [exec_Assign_Name_used _ _ _ _ hs]
   obtain ⟨elt,ts,it,its,ifs,own,src,vs,out,ρ,σ,σ0,σ1,q1,hsi,hsm,hcr,hlen⟩:=h1
   cases erI e1
   rename_i n eltE g gs sc' pp it' its' hsc hg e2 e3 e4 e6 e5 he ho
   cases he
   subst ho
   refine wpAny_bind (wpAny_standAt (wpAny_bind ?_))
   show wpAny _ A (do let _ <-comprehension (.ListComp eltE (g::gs) sc' pp) sc' env (firstIterPos (g::gs) pp) (newList []) (firstAsync (g::gs)) (firstIter (g::gs) env) (some (assign (.Name xx px) env))) _ _ s
   rw [lG hg,mR]
   refine wpAny_bind (n7 (n:=n) (use:=some (assign (.Name xx px) env)) hsc hg e2 e3 e4 e6 e5 q1 hsi hsm hcr hlen rm R fun D Cn X' s' R' v' r' pr ns hn=>?_)
   obtain ⟨m,hm⟩:=ns
   show wpAny _ A (assign (.Name xx px) env (.ref D)) _ _ s'
   refine wpAny_assign_Name (gR R' ho r' fun X2 s2 R2 v2=>?_)
   have pr2:=pr.evo v2
   refine ⟨m,hm.at' fun o g=>v2.keep _ _ g pr.w pr.p,fun h' hsb=>wpAny_pure (wpAny_pure ?_)⟩
   obtain ⟨R3,v3⟩:=R2.last pr2 hsb
   refine hQ _ X2 _ R3 ((v'.trans v2).comp v3 (fun _ q=>q) fun b hb q=>?_) trivial
   subst q
   exact absurd hb (Nat.not_lt.mpr hn)
 ·exact absurd h2 (Nat.not_succ_le_self 1)
end
end
section
open PySem PyProof.Rows
noncomputable def Fl.after (P:Prop) (f:Fl) (ρ':Loc) (σ':Sto) (ρ2:Loc) (σ2:Sto):Fl->Prop
 | .next=>P
 | .cont=>P
 | .brk=>f=.next/\ρ'=ρ2/\σ'=σ2
 | .ret u=>f=.ret u/\ρ'=ρ2/\σ'=σ2
noncomputable def ForR (C:Cx) (k:Nat) (xs:List Nm) (body orelse:List St) (ρ:Loc) (σ:Sto) (vs:List V) (f:Fl) (ρ':Loc) (σ':Sto):Prop:=match vs with
 | []=>ExL C k orelse ρ σ f ρ' σ'
 | v::vs=>∃ ρ1 g ρ2 σ2,bI ρ xs v=some ρ1/\ExL C k body ρ1 σ g ρ2 σ2/\Fl.after (ForR C k xs body orelse ρ2 σ2 vs f ρ' σ') f ρ' σ' ρ2 σ2 g
section
variable {C:Cx} {k:Nat} {xs:List Nm} {body orelse:List St} {ρ ρ1 ρ2 ρ3:Loc} {σ σ2 σ3:Sto} {v u:V} {vs:List V} {f:Fl}
theorem ForR.done (h:ExL C k orelse ρ σ f ρ2 σ2):ForR C k xs body orelse ρ σ [] f ρ2 σ2:=h
theorem ForR.step (hb:bI ρ xs v=some ρ1) (h1:ExL C k body ρ1 σ .next ρ2 σ2) (h2:ForR C k xs body orelse ρ2 σ2 vs f ρ3 σ3):ForR C k xs body orelse ρ σ (v::vs) f ρ3 σ3:=⟨_,.next,_,_,hb,h1,h2⟩
theorem ForR.cont (hb:bI ρ xs v=some ρ1) (h1:ExL C k body ρ1 σ .cont ρ2 σ2) (h2:ForR C k xs body orelse ρ2 σ2 vs f ρ3 σ3):ForR C k xs body orelse ρ σ (v::vs) f ρ3 σ3:=⟨_,.cont,_,_,hb,h1,h2⟩
theorem ForR.brk (hb:bI ρ xs v=some ρ1) (h1:ExL C k body ρ1 σ .brk ρ2 σ2):ForR C k xs body orelse ρ σ (v::vs) .next ρ2 σ2:=⟨_,.brk,_,_,hb,h1,rfl,rfl,rfl⟩
theorem ForR.ret (hb:bI ρ xs v=some ρ1) (h1:ExL C k body ρ1 σ (.ret u) ρ2 σ2):ForR C k xs body orelse ρ σ (v::vs) (.ret u) ρ2 σ2:=⟨_,.ret u,_,_,hb,h1,rfl,rfl,rfl⟩
end
inductive lp (C:Cx) (k:Nat) (t:Ex) (body:List St):Loc->Sto->Fl->Loc->Sto->Prop
 | done {ρ σ σ1} (h:EvT C k t ρ σ false σ1):lp C k t body ρ σ .next ρ σ1
 | step {ρ σ σ1 ρ2 σ2 f ρ3 σ3} (h:EvT C k t ρ σ true σ1) (h1:ExL C k body ρ σ1 .next ρ2 σ2) (h2:lp C k t body ρ2 σ2 f ρ3 σ3):lp C k t body ρ σ f ρ3 σ3
section
variable {C:Cx} {k:Nat} {ρ ρ' ρ1 ρ2:Loc} {σ σ1 σ2 σ3:Sto}
theorem aF:ExL C k [] ρ σ .next ρ σ:=by
 intro n sc ts h A env X s rm R Q E hQ
 obtain rfl:=cQ h
 exact wpAny_execs_nil (hQ _ X s R .refl trivial)
theorem aq {t:St} {ts:List St} {f:Fl} (h1:ExS C k t ρ σ .next ρ1 σ1) (h2:ExL C k ts ρ1 σ1 f ρ2 σ2):ExL C k (t::ts) ρ σ f ρ2 σ2:=by
 intro n sc ts h A env X s rm R Q E hQ
 obtain ⟨t,r,rfl,e1,e2⟩:=aY h
 refine wpAny_execs_cons (h1 _ _ _ e1 A env X s rm R _ _ fun g X1 s1 R1 v1 fr=>?_)
 cases g<;>first
  | exact h2 _ _ _ e2 A env X1 s1 rm R1 _ _ fun g X2 s2 R2 v2 fr2=>hQ g X2 s2 R2 (v1.trans v2) fr2
  | exact fr.elim
noncomputable def jN:Fl->Bool
 | .next=>false
 | _=>true
theorem aV {t:St} {ts:List St} {f:Fl} (h1:ExS C k t ρ σ f ρ1 σ1) (hf:jN f=true):ExL C k (t::ts) ρ σ f ρ1 σ1:=by
 intro n sc ts h A env X s rm R Q E hQ
 obtain ⟨t,r,rfl,e1,e2⟩:=aY h
 refine wpAny_execs_cons (h1 _ _ _ e1 A env X s rm R _ _ fun g X1 s1 R1 v1 fr=>?_)
 cases f<;>cases g<;>first
  | exact hQ _ X1 s1 R1 v1 fr
  | exact fr.elim
  | cases hf
theorem eV {e:Ex} {v:V} (h1:EvE C k e ρ σ v σ1):ExS C k (.ret e) ρ σ (.ret v) ρ σ1:=by
 intro n sc t h A env X s rm R Q E hQ
 cases stI h
 rename_i n e p e1
 exact wpAny_Return_some (h1 _ _ _ e1 A env X s rm R _ _ fun a X1 s1 R1 v1 r1=>hQ _ X1 s1 R1 v1 r1)
theorem Cz:ExS C k .brk ρ σ .brk ρ σ:=by
 intro n sc t h A env X s rm R Q E hQ
 cases stI h
 exact wpAny_Break (hQ _ X s R .refl trivial)
theorem Aw:ExS C k .cont ρ σ .cont ρ σ:=by
 intro n sc t h A env X s rm R Q E hQ
 cases stI h
 exact wpAny_Continue (hQ _ X s R .refl trivial)
theorem gF {e:Ex} (h1:EvE C k e ρ σ .none σ1) (_:lj e=false):ExS C k (.expr e) ρ σ .next ρ σ1:=by
 intro n sc t h A env X s rm R Q E hQ
 cases stI h
 rename_i n e p hsc e1
 refine wpAny_Expr (h1 _ _ _ e1 A env X s rm R _ _ fun a X1 s1 R1 v1 r1=>?_) (by unfold interactive;rw [R.F.kind];rfl) (r9 hsc _ _ _)
 have:a=.none:=r1
 subst this
 exact hQ _ X1 s1 R1 v1 trivial
theorem jS {x:Nm} {op:Operator} {e:Ex} {v0 v1 v:V} (hg:get ρ x=some v0) (h1:EvE C k e ρ σ v1 σ1) (h2:Op2 C k (inplaceOp op) v0 v1 σ1 v σ2):ExS C k (.aug x op e) ρ σ .next (put ρ x v) σ2:=by
 intro n sc t h A env X s rm R Q E hQ
 cases stI h
 rename_i n y p' ve p hb ho e1 hn
 subst hn
 have hv:qV (kindIn sc y)=true:=by rcases pX ho with q | q<;>rw [q]<;>rfl
 refine wpAny_AugAssign_Name (uT R.F hb hv hg fun a0 r0=>h1 _ _ _ e1 A env X s rm R _ _ fun a1 X1 s1 R1 w1 r1=>?_)
 refine h2 A X1 s1 a0 a1 rm R1.S (w1.rel R.S R.pz r0) r1 _ _ fun a2 X2 s2 S2 w2 r2=>?_
 exact gR (R1.evo0 S2 w2) ho r2 fun X3 s3 R3 w3=>hQ _ X3 s3 R3 ((w1.trans w2.of0).trans w3) trivial
theorem cp {t:Ex} {a b:List St} {c:Bool} {f:Fl} (h1:EvT C k t ρ σ c σ1) (h2:c=true->ExL C k a ρ σ1 f ρ2 σ2) (h3:c=false->ExL C k b ρ σ1 f ρ2 σ2):ExS C k (.ifs t a b) ρ σ f ρ2 σ2:=by
 intro n sc t h A env X s rm R Q E hQ
 cases stI h
 rename_i n te ae be p e1 e2 e3
 refine wpAny_If (h1 _ _ _ e1 A env X s rm R _ _ fun X1 s1 R1 v1=>?_)
 cases c with
 | true=>exact h2 rfl _ _ _ e2 A env X1 s1 rm R1 _ _ fun g X2 s2 R2 v2 fr=>hQ g X2 s2 R2 (v1.trans v2) fr
 | false=>exact h3 rfl _ _ _ e3 A env X1 s1 rm R1 _ _ fun g X2 s2 R2 v2 fr=>hQ g X2 s2 R2 (v1.trans v2) fr
theorem gr (target:Expr) (it:Value) (body orelse:List Stmt) (env:Env):forTurn target it body orelse env=(do
 standAt target.pos
 match <-(pyNext it).onRaise (fun _=>standAt { target.pos with line:=0 }) with
 | none=>again (.block orelse env)
 | some v =>
   letOwnedTupleGo target it v
   assign target env v
   match <-execs body env with
   | .next | .cont=>again (.forLoop target it body orelse env)
   | .brk=>pure (.done .next)
   | .ret v=>pure (.done (.ret v))):=rfl
theorem qZ {A:Around} {R:Result->Shared->Prop} {s:Shared} {ts:List Stmt} {env:Env} (h:wpAny (model C.prog C.w) A (execs ts env) (fun f s'=>R (.ok f) s') (notedBy (model C.prog C.w) A env fun e s'=>R (.error e) s') s):codeAny (model C.prog C.w) A (.block ts env) R s:=by
 refine codeAny_of_tree ?_
 show wpAny _ A (do return Fin.done (<-(execs ts env).onRaise (fun x=>do noteFrame x env;theTreesLotGoes x)):Sem Fin) _ _ s
 exact wpAny_bind (wpAny_mono (wpAny_noted h) (fun f s' q=>wpAny_pure q) fun _ _ q=>q)
noncomputable def uS (target:Expr) (it:Value) (body orelse:List Stmt) (env:Env):Flow->Sem Fin
 | .next | .cont=>again (.forLoop target it body orelse env)
 | .brk=>pure (.done .next)
 | .ret v=>pure (.done (.ret v))
theorem vO {A:Around} {env:Env} {n0:Nat} {sc:Scope} {target:Expr} {bodyE orelseE:List Stmt} {xs:List Nm} {body:List St} {ρ ρ1 ρ2:Loc} {I:Addr} {N:Addr->Prop} {fp:List Addr} {n:Nat} {P:Nat->Value->Prop} {St:Nat->Heap->Prop} {σ σ2:Sto} {X:Wld} {s:Shared} {i:Nat}
 {v:V} {vs:List V} {fl:Fl} {R:Result->Shared->Prop} (ht:cn sc target=some xs) (hb:mapO (cm n0 sc) bodyE=some body) (hbd:bI ρ xs v=some ρ1) (h1:ExL C k body ρ1 σ fl ρ2 σ2) (rm:Room k A) (w:WI C A env sc ρ I N fp n P St σ X s i (v::vs))
 (hQ:∀ g X3 s3,Rel C env sc ρ2 σ2 X3 s3->Evo C (fun b=>Pl env b\/b=I) σ X s σ2 X3 s3->nB C X3 σ2.next s3.heap fl g->WI C A env sc ρ2 I N fp n P St σ2 X3 s3 (i+1) vs ->
   wpAny (model C.prog C.w) A (uS target (.ref I) bodyE orelseE env g) (fun fin s'=>match fin with | .done f=>R (.ok f) s' | .again c'=>c'.quiet=true/\codeAny (model C.prog C.w) A c' R s') (notedBy (model C.prog C.w) A env fun e s'=>R (.error e) s') s3) :
 codeAny (model C.prog C.w) A (.forLoop target (.ref I) bodyE orelseE env) R s:=by
 refine codeAny_of_tree ?_
 show wpAny _ A ((forTurn target (.ref I) bodyE orelseE env).onRaise (fun x=>do noteFrame x env;theTreesLotGoes x)) _ _ s
 refine wpAny_noted ?_
 rw [gr]
 refine wpAny_bind (wpAny_standAt (wpAny_bind (wpAny_onRaise (w.take rm.handled ht hbd fun a X1 s1 e1 w1 asn=>?_))))
 exact DE (asn _ _ fun X2 s2 R2 e2=>wpAny_bind (h1 _ _ _ hb A env X2 s2 rm R2 _ _ fun g X3 s3 R3 e3 fr=>hQ g X3 s3 R3 (e1.comp (e2.trans e3) (fun b q=>.inr q) fun b _ q=>.inl q) fr (w1.pl (e2.trans e3) R3)))
theorem sh {X:Wld} {n:Nat} {h:Heap} {g0 f:Fl} {g:Flow} {P:Prop} {ρ' ρ2:Loc} {σ' σ2:Sto} {T:Flow->Prop} (fr:nB C X n h g0 g) (h2:Fl.after P f ρ' σ' ρ2 σ2 g0) (a:P->T .next) (b:P->T .cont) (c:f=.next/\ρ'=ρ2/\σ'=σ2->T .brk)
 (d:∀ u w,f=.ret u/\ρ'=ρ2/\σ'=σ2->VRel C X n h u w->T (.ret w)):T g:=by
 cases g0<;>cases g<;>first
  | exact fr.elim
  | exact a h2
  | exact b h2
  | exact c h2
  | exact d _ _ h2 fr
theorem w8 {xs:List Nm} {body orelse:List St} {vs:List V}:∀ {ρ:Loc} {σ:Sto} {f:Fl} {ρ':Loc} {σ':Sto},ForR C k xs body orelse ρ σ vs f ρ' σ'->∀ {n0:Nat} {sc:Scope} {target:Expr} {bodyE orelseE:List Stmt},cn sc target=some xs->mapO (cm n0 sc) bodyE=some body->mapO (cm n0 sc) orelseE=some orelse ->
 ∀ {A:Around} {env:Env} {X:Wld} {s:Shared} {I:Addr} {N:Addr->Prop} {fp:List Addr} {n i:Nat} {P:Nat->Value->Prop} {St:Nat->Heap->Prop} {R:Result->Shared->Prop},Room k A->WI C A env sc ρ I N fp n P St σ X s i vs ->
 (∀ g X' s',Rel C env sc ρ' σ' X' s'->Evo C (fun b=>Pl env b\/b=I) σ X s σ' X' s'->nB C X' σ'.next s'.heap f g->R (.ok g) s') ->
 codeAny (model C.prog C.w) A (.forLoop target (.ref I) bodyE orelseE env) R s:=by
 induction vs with
 | nil =>
   intro ρ σ f ρ' σ' h n0 sc target bodyE orelseE ht hb ho A env X s I N fp n i P St R rm w hR
   refine codeAny_of_tree ?_
   show wpAny _ A ((forTurn target (.ref I) bodyE orelseE env).onRaise (fun x=>do noteFrame x env;theTreesLotGoes x)) _ _ s
   refine wpAny_noted ?_
   rw [gr]
   obtain rfl:=w.len
   refine wpAny_bind (wpAny_standAt (wpAny_bind (wpAny_onRaise (cA (w.W.done s _ _ w.st fun h' tk hk hs=>wpAny_pure ⟨rfl,?_⟩)))))
   obtain ⟨R1,e⟩:=w.turn (tk:=tk) hk hs
   exact qZ (h _ _ _ ho A env X _ rm R1 _ _ fun g X2 s2 R2 v2 fr=>hR g X2 s2 R2 (e.comp v2 (fun _ q=>.inr q) fun _ _ q=>.inl q) fr)
 | cons v vs ih =>
   intro ρ σ f ρ' σ' h n0 sc target bodyE orelseE ht hb ho A env X s I N fp n i P St R rm w hR
   obtain ⟨ρ1,g0,ρ2,σ2,hbd,h1,h2⟩:=h
   refine vO ht hb hbd h1 rm w fun g X3 s3 R3 e3 fr w3=>?_
   have key:Fl.after (ForR C k xs body orelse ρ2 σ2 vs f ρ' σ') f ρ' σ' ρ2 σ2 .next->codeAny (model C.prog C.w) A (.forLoop target (.ref I) bodyE orelseE env) R s3:=fun h2=>ih h2 ht hb ho rm w3 fun g X4 s4 R4 e4=>hR g X4 s4 R4 (e3.trans e4)
   refine sh fr h2 (T:=fun g=>wpAny (model C.prog C.w) A (uS target (.ref I) bodyE orelseE env g) _ _ s3) (fun h=>wpAny_pure ⟨rfl,key h⟩) (fun h=>wpAny_pure ⟨rfl,key h⟩) (fun h=>wpAny_pure (hR _ X3 s3 ?_ ?_ ?_)) fun u w h r=>wpAny_pure (hR _ X3 s3 ?_ ?_ ?_)
   ·rw [h.2.1,h.2.2];exact R3
   ·rw [h.2.2];exact e3
   ·rw [h.1];trivial
   ·rw [h.2.1,h.2.2];exact R3
   ·rw [h.2.2];exact e3
   ·rw [h.1,h.2.2];exact r
theorem jv {xs:List Nm} {it:Ex} {body orelse:List St} {src:V} {vs:List V} {f:Fl} (h1:EvE C k it ρ σ src σ1) (hsi:dk src=some vs) (hsm:fJ src=true) (h2:ForR C k xs body orelse ρ σ1 vs f ρ' σ2):ExS C k (.for_ xs it body orelse) ρ σ f ρ' σ2:=by
 intro n sc t h A env X s rm R Q E hQ
 cases stI h
 rename_i n t ite a b p hs ht e1 e2 e3
 have he:exec (.For t ite a b p) env=(do
  standAt p
  let x <-foldedSetIterable ite env (<-eval ite env)
  standAt ite.pos
  runOwn (.forLoop t (<-holding [x] (pyIter x)) a b env) env):=rfl
 rw [he]
 refine wpAny_bind (wpAny_standAt (wpAny_bind (h1 _ _ _ e1 A env X s rm R _ _ fun x X1 s1 R1 v1 r1=>?_)))
 rw [kR hs]
 refine wpAny_bind (wpAny_pure (wpAny_bind (wpAny_standAt (wpAny_bind (wpAny_holding ?_)))))
 refine mP rm.handled R1.S r1 hsi hsm fun I fp m P St s2 G2 hI hIl itr=>?_
 obtain ⟨R2,v2⟩:=R1.grown G2
 refine wpAny_runOwn (w8 h2 ht e2 e3 rm (itr.wi (N:=fun _=>False) R1 R2 hI hIl (fun _ h=>h.elim) id) fun g X3 s3 R3 v3 fr=>?_)
 refine hQ g X3 s3 R3 ((v1.trans v2).comp v3 (fun _ q=>q) fun b hb q=>q.elim id fun q=>?_) fr
 rw [q] at hb
 exact absurd (Nat.lt_of_lt_of_le hb v1.size) (Nat.not_lt.mpr hI)
theorem sp {t:Ex} {body:List St} {ρ:Loc} {σ:Sto} {f:Fl} {ρ':Loc} {σ':Sto} (h:lp C k t body ρ σ f ρ' σ'):∀ (n0:Nat) (sc:Scope) (tE:Expr) (bodyE:List Stmt),aE n0 sc tE=some t->mapO (cm n0 sc) bodyE=some body ->
 ∀ (A:Around) (env:Env) (X:Wld) (s:Shared) (R:Result->Shared->Prop),Room k A->Rel C env sc ρ σ X s ->
 (∀ g X' s',Rel C env sc ρ' σ' X' s'->Evo C (Pl env) σ X s σ' X' s'->nB C X' σ'.next s'.heap f g->R (.ok g) s') ->
 codeAny (model C.prog C.w) A (.whileLoop tE bodyE [] env) R s:=by
 induction h with
 | @done ρ σ σ1 h =>
   intro n0 sc tE bodyE ht hb A env X s R rm RR hR
   refine codeAny_of_tree ?_
   show wpAny _ A ((whileTurn tE bodyE [] env).onRaise (fun x=>do noteFrame x env;theTreesLotGoes x)) _ _ s
   refine wpAny_noted ?_
   unfold whileTurn
   refine wpAny_bind (h _ _ _ ht A env X s rm RR _ _ fun X1 s1 R1 v1=>?_)
   exact wpAny_bind (wpAny_execs_nil (wpAny_pure (hR _ X1 s1 R1 v1 trivial)))
 | @step ρ σ σ1 ρ2 σ2 f ρ3 σ3 h h1 h2 ih =>
   intro n0 sc tE bodyE ht hb A env X s R rm RR hR
   refine codeAny_of_tree ?_
   show wpAny _ A ((whileTurn tE bodyE [] env).onRaise (fun x=>do noteFrame x env;theTreesLotGoes x)) _ _ s
   refine wpAny_noted ?_
   unfold whileTurn
   refine wpAny_bind (h _ _ _ ht A env X s rm RR _ _ fun X1 s1 R1 v1=>?_)
   refine wpAny_bind (h1 _ _ _ hb A env X1 s1 rm R1 _ _ fun g X2 s2 R2 v2 fr=>?_)
   cases g<;>try exact fr.elim
   exact wpAny_pure ⟨rfl,ih n0 sc tE bodyE ht hb A env X2 s2 R rm R2 fun g X3 s3 R3 v3 fr=>hR g X3 s3 R3 ((v1.trans v2).trans v3) fr⟩
theorem x4 {t:Ex} {body:List St} {f:Fl} (h:lp C k t body ρ σ f ρ' σ1):ExS C k (.while_ t body) ρ σ f ρ' σ1:=by
 intro n sc t h' A env X s rm R Q E hQ
 cases stI h'
 rename_i n te a p e1 e2
 exact wpAny_While (sp h n sc te a e1 e2 A env X s _ rm R hQ)
end
end
section
open PySem PyProof.Rows
noncomputable def yS:Fl->V
 | .ret v=>v
 | _=>.none
structure tu (C:Cx) (a:Addr) (ps:List Str) (sc:Scope) (body:List Stmt):Prop where
 ex:∃ o fd c,C.base.get? a=some o/\a≠C.tab/\o.data=.func fd/\fd.body=.stmts body/\fd.scope=sc/\fd.closure=[]/\fd.globals=mainGlobals/\fd.builtins=builtinsNs/\fd.code=.ref c/\c≠C.tab/\C.base.CodeRec fd.code fd.qualname /\
  (∀ vals:List Value,vals.length=ps.length->bindArgs fd ⟨vals,[]⟩=pure (ps.zip vals))
 kind:sc.kind=.function
 co:sc.isCoroutine=false
 gen:sc.isGenerator=false
 nd:(sc.names.map (·.1)).Nodup
 own:∀ x∈ps,iG (kindIn sc x)=true
 pnd:ps.Nodup
 nofree:∀ x,kindIn sc x≠some .free
theorem xW {x:Str} {v:Value} {r:List (Str × Value)} (h:x∉r.map (·.1)):r.lookup x=none:=by
 cases e:r.lookup x with
 | none=>rfl
 | some u=>exact absurd (List.mem_map_of_mem (f:=(·.1)) (mem_of_lookup e)) h
theorem wy {kindOf:Str->Option NameKind} {x:Str} (binds:List (Str × Value)):∀ (m:Str->Option Value),(binds.map (·.1)).Nodup->bindL kindOf binds m x=if kindOf x=some .local then ((binds.lookup x).or (m x)) else m x:=by
 induction binds with
 | nil=>intro m _;exact (ite_self _).symm
 | cons b r ih =>
   obtain ⟨n,v⟩:=b
   intro m hn
   obtain ⟨hn1,hn2⟩:=List.nodup_cons.mp hn
   refine (ih _ hn2).trans ?_
   rw [List.lookup_cons]
   by_cases hx:x=n
   ·subst hx
    rw [xW (v:=v) hn1]
    by_cases hk:kindOf x=some .local<;>simp [hk]
   ·rw [beq_eq_false_iff_ne.mpr hx]
    by_cases hk:kindOf n=some .local<;>simp [hk,hx]
theorem vG {kindOf:Str->Option NameKind} {x:Str} (binds:List (Str × Value)):∀ (m:Str->Option Value),(binds.map (·.1)).Nodup->bindC kindOf binds m x=if kindOf x=some .local then m x else ((binds.lookup x).or (m x)):=by
 induction binds with
 | nil=>intro m _;exact (ite_self _).symm
 | cons b r ih =>
   obtain ⟨n,v⟩:=b
   intro m hn
   obtain ⟨hn1,hn2⟩:=List.nodup_cons.mp hn
   refine (ih _ hn2).trans ?_
   rw [List.lookup_cons]
   by_cases hx:x=n
   ·subst hx
    rw [xW (v:=v) hn1]
    by_cases hk:kindOf x=some .local<;>simp [hk]
   ·rw [beq_eq_false_iff_ne.mpr hx]
    by_cases hk:kindOf n=some .local<;>simp [hk,hx]
theorem nj {C:Cx} {X:Wld} {n:Nat} {h:Heap} {x:Str} {v:V} {ps:List Str}:∀ {vs:List V} {as:List Value} {ρ:Loc},ps.Nodup->vs.length=ps.length->VsRel C X n h vs as->get (bD ρ (ps.map nm) vs) (nm x)=some v->(get ρ (nm x)=some v/\x∉ps)\/∃ a,(ps.zip as).lookup x=some a/\VRel C X n h v a:=by
 induction ps with
 | nil=>intro vs as ρ _ hl _ e;cases vs with
   | nil=>exact .inl ⟨e,List.not_mem_nil⟩
   | cons _ _=>cases hl
 | cons p ps ih =>
   intro vs as ρ hn hl r e
   cases vs with
   | nil=>cases hl
   | cons v' vs =>
     obtain ⟨a,q,rfl,r1,r2⟩:=r.inv_cons
     obtain ⟨hn1,hn2⟩:=List.nodup_cons.mp hn
     simp only [List.zip_cons_cons,List.lookup_cons]
     by_cases hx:x=p
     ·subst hx
      rw [beq_self_eq_true]
      rcases ih (ρ:=put ρ (nm x) v') hn2 (Nat.succ.inj hl) r2 e with ⟨e1,_⟩ | ⟨b,e1,_⟩
      ·rw [bN,if_pos rfl] at e1
       exact .inr ⟨a,rfl,Option.some.inj e1▸r1⟩
      ·exact absurd (List.of_mem_zip (mem_of_lookup e1)).1 hn1
     ·rw [beq_eq_false_iff_ne.mpr hx]
      refine (ih (ρ:=put ρ (nm p) v') hn2 (Nat.succ.inj hl) r2 e).imp (fun h=>?_) id
      rw [bN,if_neg (fun q=>hx (gq q))] at h
      exact ⟨h.1,fun q=>(List.mem_cons.mp q).elim hx h.2⟩
theorem wK {ps:List Str} {as:List Value} (h:as.length=ps.length):(ps.zip as).map (·.1)=ps:=List.map_fst_zip (Nat.le_of_eq h.symm)
noncomputable def FnOkC (C:Cx) (k:Nat) (f:Value) (vs:List V) (σ:Sto) (v:V) (σ':Sto):Prop :=
 ∀ (A:Around) (X:Wld) (s:Shared) (as:List Value),Room k A->SRel C σ X s->VsRel C X σ.next s.heap vs as ->
   ∀ (R:Result->Shared->Prop),(∀ a X' s',SRel C σ' X' s'->Evo C NoP σ X s σ' X' s'->VRel C X' σ'.next s'.heap v a->R (.ok (.ret a)) s') ->
     codeAny (model C.prog C.w) A (.call f ⟨as,[]⟩) R s
theorem FnOkC.fn {C:Cx} {k:Nat} {f:Value} {vs:List V} {σ:Sto} {v:V} {σ':Sto} (h:FnOkC C k f vs σ v σ'):FnOk C k f vs σ v σ' :=
 fun A X s as rm S r Q E hQ=>wpAny_call (h A X s as rm S r _ hQ)
noncomputable def Dg (C:Cx) (a:Addr) (env:Env):Prop:=∃ o fd,C.base.get? a=some o/\o.data=.func fd/\env.code=fd.code/\env.qual=fd.qualname ++ ".<locals>."
noncomputable def Da:Flow->Value
 | .ret v=>v
 | _=>.none
theorem tr {C:Cx} (H:COk C) {k:Nat} {σ:Sto} {a:Addr} {ps:List Str} {sc:Scope} {body:List Stmt} {vs:List V} (hf:tu C a ps sc body) (hl:vs.length=ps.length) {A:Around} {X:Wld} {s:Shared} {as:List Value} {R0:Result->Shared->Prop}
 (rm:Room (k+1) A) (S:SRel C σ X s) (r:VsRel C X σ.next s.heap vs as)
 (hx:∀ (A:Around) (env:Env) (s1:Shared),Dg C a env->Room k A->Grow s s1->(∀ b,Pl env b->s.heap.objs.size<=b)->Rel C env sc (bD [] (ps.map nm) vs) σ X s1->∀ (Q:Flow->Shared->Prop) (E:Value->Shared->Prop),
   (∀ g s',R0 (.ok (.ret (Da g))) s'->Q g s')->wpAny (model C.prog C.w) A (execs body env) Q E s1):codeAny (model C.prog C.w) A (.call (.ref a) ⟨as,[]⟩) R0 s:=by
 obtain ⟨⟨o,fd,c,ho,hat,hd,hb,rfl,hclo,hgl,hbt,hcode,hct,hcr,hbind⟩,hkind,hco,hgen,hnd,hown,hpnd,hnofree⟩:=hf
 have hal:as.length=ps.length:=by rw [r.length];exact hl
 have hcr':s.heap.CodeRec fd.code fd.qualname:=by
  obtain ⟨a1,o1,v1,t1,e1,e2,e3⟩:=hcr
  exact ⟨a1,o1,v1,t1,e1,S.base _ _ e2 (by rw [hcode] at e1;cases e1;exact hct),e3⟩
 have CS:=mQ fd.scope.names (s.heap.push { cls:=.type "frame",data:=.dict #[] }) [] hnd
 have hsz:(s.heap.push { cls:=.type "frame",data:=.dict #[] }).objs.size=s.heap.objs.size+1:=Heap.size_push ..
 have hcells:cellsFrom (s.heap.push { cls:=.type "frame",data:=.dict #[] }).objs.size fd.scope.names []=cellsFrom (s.heap.objs.size+1) fd.scope.names []:=by rw [hsz]
 refine (codeAny_call_cells (binds:=ps.zip as) (by have:=rm.depth;show A.depth<1000;lia -abstractProof) (S.base _ _ ho hat) hd (S.nolimit H) hcr' hb (hbind as hal) hclo (fun y hy=>?_) (fun s₁ IC=>?_) hco hgen hkind)
 ·have hy1:y.1∈ps:=(List.of_mem_zip (a:=y.1) (b:=y.2) hy).1
  rcases pX (hown y.1 hy1) with q | q
  ·exact .inl q
  ·obtain ⟨c',e1,_⟩:=CS.new y.1 q
   exact .inr ⟨q,by rw [<-hcells,e1];rfl⟩
 ·obtain ⟨⟨hsame,hns,hkeep,hfresh⟩,hcell,hapart,habove⟩:=IC
  obtain ⟨h₁,tk,rfl⟩:=hsame
  let env:=callEnvC fd s.heap.objs.size a
  have hLlt:s.heap.objs.size<h₁.objs.size:=by
   obtain ⟨o,_,_,g,_⟩:=hns
   exact Heap.lt_size g
  have G:Grow s { s with heap:=h₁,toks:=tk }:=⟨hkeep,Nat.le_of_lt hLlt,rfl,rfl⟩
  obtain ⟨S1,e1⟩:=S.grow0 G
  have r1:VsRel C X σ.next h₁ vs as:=e1.rels S (fun _ h=>h.elim) r
  have hkO:∀ y,env.kindOf y=kindIn fd.scope y:=fun y=>rfl
  have hcl:env.cells=cellsFrom (s.heap.objs.size+1) fd.scope.names []:=rfl
  have hkeys:((ps.zip as).map (·.1)).Nodup:=by rw [wK hal];exact hpnd
  have cellLk:∀ y c,env.cells.lookup y=some c->kindIn fd.scope y=some .cell:=fun y c e=>by
   by_cases hk:fd.scope.names.lookup y=some .cell
   ·exact hk
   ·have:=CS.old y hk
    rw [hcells,<-hcl,e] at this
    cases this
  have F:Frm C env fd.scope (bD [] (ps.map nm) vs) X σ.next h₁:=by
   refine ⟨hkind,fun y hy=>hy,fun y hy=>hy,fun y hy=>.inl hy,fun y hy=>hy,hgl,hbt,⟨_,hns,fun y v e ky=>?_⟩,fun y hy=>?_,fun y v e ky=>?_,fun y c e=>⟨_,hcell y c e⟩,fun y z c e e'=>?_,fun y c e=>Nat.ne_of_gt (habove y c (mem_of_lookup e))⟩
   ·rw [<-fz y] at e
    rcases nj hpnd hl r1 e with ⟨h,_⟩ | ⟨a',h1,h2⟩
    ·cases h
    ·refine ⟨a',?_,h2⟩
     rw [wy _ _ hkeys,if_pos (show env.kindOf (ao y)=some .local from ky),h1]
     rfl
   ·rcases hy with hy | hy
    ·obtain ⟨c',e1,_⟩:=CS.new y hy
     exact ⟨c',by rw [hcl,<-hcells];exact e1⟩
    ·exact absurd hy (hnofree y)
   ·rw [<-fz y] at e
    rcases nj hpnd hl r1 e with ⟨h,_⟩ | ⟨a',h1,h2⟩
    ·cases h
    ·rcases ky with ky | ky
     ·obtain ⟨c',q1,_⟩:=CS.new (ao y) ky
      rw [hcells,<-hcl] at q1
      refine ⟨c',a',q1,?_,h2⟩
      have:=hcell _ _ q1
      rw [vG _ _ hkeys,if_neg (by rw [show env.kindOf (ao y)=some .cell from ky];decide),h1] at this
      exact this
     ·exfalso
      have:ao y∈ps:=(List.of_mem_zip (mem_of_lookup h1)).1
      have:=hown _ this
      rw [ky] at this
      cases this
   ·exact name_of_addr hapart (mem_of_lookup e) (mem_of_lookup e')
  have plge:∀ b,Pl env b->s.heap.objs.size<=b:=fun b p=>by
   rcases p with p | ⟨y,e⟩
   ·exact Nat.le_of_eq p.symm
   ·exact Nat.le_of_lt (habove y b (mem_of_lookup e))
  have zlt:∀ b,X.Z b->b<s.heap.objs.size:=fun b z=>(S.zl b z).elim fun _ g=>Heap.lt_size g
  have wlt:∀ b,Wr C σ X b->b<s.heap.objs.size:=fun b w=>(S.wl b w).elim fun _ g=>Heap.lt_size g
  have R1:Rel C env fd.scope (bD [] (ps.map nm) vs) σ X { s with heap:=h₁,toks:=tk } :=
   ⟨S1,F,fun b p z=>Nat.lt_irrefl _ (Nat.lt_of_lt_of_le (zlt b z) (plge b p)),fun b p w=>Nat.lt_irrefl _ (Nat.lt_of_lt_of_le (wlt b w) (plge b p))⟩
  have rm':Room k (A.deeper env):=⟨by have:=rm.depth;show A.depth+1+k<=900;lia -abstractProof,by have:=rm.units;show A.units+3+20*k<=9000;lia -abstractProof,rm.handled⟩
  exact hx (A.deeper env) env _ ⟨o,fd,ho,hd,rfl,rfl⟩ rm' G plge R1 _ _ fun g s' h=>by cases g<;>exact h
theorem zC {C:Cx} (H:COk C) {k:Nat} {σ σ':Sto} {a:Addr} {ps:List Str} {sc:Scope} {body:List Stmt} {body':List St} {vs:List V} {f:Fl} {ρ':Loc} {n0:Nat} (hf:tu C a ps sc body) (he:mapO (cm n0 sc) body=some body') (hl:vs.length=ps.length)
 (hx:ExL C k body' (bD [] (ps.map nm) vs) σ f ρ' σ'):FnOkC C (k+1) (.ref a) vs σ (yS f) σ' :=
 fun A X s as rm S r R0 hQ=>tr H hf hl rm S r fun A' env s1 _ rm' G pl R Q E hq=>hx _ _ _ he A' env X s1 rm' R Q E fun g X' s' R' v fr=>hq g s' (by
  have v3:=(S.grow0 G).2.comp (P:=NoP) v (fun _ h=>h) fun b hb p=>Nat.lt_irrefl _ (Nat.lt_of_lt_of_le hb (pl b p))
  cases f<;>cases g<;>first
   | exact fr.elim
   | exact hQ _ X' s' R'.S v3 fr
   | exact hQ _ X' s' R'.S v3 (Eq.refl _))
mutual
noncomputable def below (n:Nat):V->Prop
 | .loc l=>l<n
 | .tup vs=>belows n vs
 | .list vs=>belows n vs
 | .dict _ vs=>belows n vs
 | _=>True
noncomputable def belows (n:Nat):List V->Prop
 | []=>True
 | v::vs=>below n v/\belows n vs
end
theorem VsRel.belows {C:Cx} {X:Wld} {n:Nat} {h:Heap} {vs:List V}:∀ {as:List Value},VsRel C X n h vs as->Mine.belows n vs:=fun {as} =>
 V.rec_1 (motive_1:=fun v=>∀ a,VRel C X n h v a->Mine.below n v) (motive_2:=fun vs=>∀ as,VsRel C X n h vs as->Mine.belows n vs)
  (fun _ _=>trivial) (fun _ _ _=>trivial) (fun _ _ _=>trivial) (fun _ _ _=>trivial) (fun _ _ _=>trivial)
  (fun _ ih _ r=>by obtain ⟨_,_,_,_,_,_,q⟩:=r;exact ih _ q) (fun _ ih _ r=>by obtain ⟨_,_,_,_,_,_,q⟩:=r;exact ih _ q) (fun _ _ ih _ r=>by obtain ⟨_,_,_,_,_,_,q⟩:=r;exact ih _ q)
  (fun _ _ _ _=>trivial) (fun _ _ r=>r.1) (fun _ _ _=>trivial) (fun _ _ _=>trivial) (fun _ _=>trivial)
  (fun _ _ i1 i2 _ r=>by obtain ⟨a,q,_,r1,r2⟩:=r;exact ⟨i1 _ r1,i2 _ r2⟩) vs as
theorem VsRel.shrink {C:Cx} {X:Wld} {n n':Nat} {h:Heap} {vs:List V}:∀ {as:List Value},VsRel C X n h vs as->Mine.belows n' vs->VsRel C X n' h vs as:=fun {as} =>
 V.rec_1 (motive_1:=fun v=>∀ a,VRel C X n h v a->Mine.below n' v->VRel C X n' h v a) (motive_2:=fun vs=>∀ as,VsRel C X n h vs as->Mine.belows n' vs->VsRel C X n' h vs as)
  (fun _ r _=>r) (fun _ _ r _=>r) (fun _ _ r _=>r) (fun _ _ r _=>r) (fun _ _ r _=>r)
  (fun _ ih _ r b=>r.imp fun _ r=>r.imp fun _ r=>r.imp fun _ r=>⟨r.1,r.2.1,r.2.2.1,ih _ r.2.2.2 b⟩)
  (fun _ ih _ r b=>r.imp fun _ r=>r.imp fun _ r=>r.imp fun _ r=>⟨r.1,r.2.1,r.2.2.1,ih _ r.2.2.2 b⟩)
  (fun _ _ ih _ r b=>r.imp fun _ r=>r.imp fun _ r=>⟨r.1,r.2.1,r.2.2.1,r.2.2.2.1,ih _ r.2.2.2.2 b⟩)
  (fun _ _ _ r _=>r) (fun _ _ r b=>⟨b,r.2⟩) (fun _ _ r _=>r) (fun _ _ r _=>r) (fun _ r _=>r)
  (fun _ _ i1 i2 _ r b=>r.imp fun _ r=>r.imp fun _ r=>⟨r.1,i1 _ r.2.1 b.1,i2 _ r.2.2 b.2⟩) vs as
theorem VRel.shrink {C:Cx} {X:Wld} {n n':Nat} {h:Heap} {v:V} {a:Value} (r:VRel C X n h v a) (b:Mine.below n' v):VRel C X n' h v a:=by
 have q:VsRel C X n h [v] [a]:=⟨a,[],rfl,r,rfl⟩
 obtain ⟨_,_,e,r,_⟩:=VsRel.shrink q (show Mine.belows n' [v] from ⟨b,trivial⟩)
 obtain ⟨rfl,_⟩:=List.cons.inj e
 exact r
noncomputable def belowO (n:Nat):O->Prop
 | .list vs=>belows n vs
 | .liter vs=>belows n vs
 | .lexer a _ p=>a<n/\p<n
 | .citer l _=>l<n
end
section
open PySem PyProof.Rows
theorem below.mono {n m:Nat} {v:V} (h:n<=m):below n v->below m v :=
 V.rec (motive_1:=fun v=>below n v->below m v) (motive_2:=fun vs=>belows n vs->belows m vs)
  id (fun _=>id) (fun _=>id) (fun _=>id) (fun _=>id) (fun _ ih=>ih) (fun _ ih=>ih) (fun _ _ ih=>ih) (fun _ _=>id) (fun _ b=>Nat.lt_of_lt_of_le b h) (fun _=>id) (fun _=>id) id (fun _ _ i1 i2 b=>⟨i1 b.1,i2 b.2⟩) v
theorem belows.mono {n m:Nat} {vs:List V} (h:n<=m) (b:belows n vs):belows m vs:=below.mono (v:=.tup vs) h b
theorem belowO.mono {n m:Nat} {o:O} (h:n<=m) (b:belowO n o):belowO m o:=by
 cases o with
 | list vs=>exact belows.mono h b
 | liter vs=>exact belows.mono h b
 | lexer a i p=>exact ⟨Nat.lt_of_lt_of_le b.1 h,Nat.lt_of_lt_of_le b.2 h⟩
 | citer l lv=>exact Nat.lt_of_lt_of_le b h
theorem ORel.below {C X n h l o} (r:ORel C X n h l o):belowO n o:=by
 cases o with
 | list vs=>exact r.elim fun _ r=>r.elim fun _ r=>r.2.belows
 | liter vs=>exact r.elim fun _ r=>r.elim fun _ r=>r.elim fun _ r=>r.elim fun _ r=>r.2.2.2.1.belows
 | lexer a i p=>exact ⟨r.hlf,r.hpb⟩
 | citer l lv=>cases lv<;>exact r.1
theorem ORel.shrink {C X n n' h l o} (r:ORel C X n h l o) (b:belowO n' o):ORel C X n' h l o:=by
 cases o with
 | list vs=>exact r.imp fun _ r=>r.imp fun _ r=>⟨r.1,r.2.shrink b⟩
 | liter vs=>exact r.imp fun _ r=>r.imp fun _ r=>r.imp fun _ r=>r.imp fun _ r=>⟨r.1,r.2.1,r.2.2.1,r.2.2.2.1.shrink b,r.2.2.2.2⟩
 | lexer a i p=>exact ⟨b.1,b.2,r.zi,r.inst,r.dict⟩
 | citer l lv=>cases lv<;>exact ⟨b,r.2⟩
structure Sub (σ σ' σ'':Sto):Prop where
 h1:σ.next<=σ''.next
 h2:σ''.next<=σ'.next
 sub:∀ l o,σ''.get l=some o->σ'.get l=some o/\(σ.get l=some o\/(l<σ''.next/\belowO σ''.next o))
theorem SRel.drop {C σ X s σ' X' s' σ''} {P:Addr->Prop} (S:SRel C σ X s) (S':SRel C σ' X' s') (e:Evo C P σ X s σ' X' s') (b:Sub σ σ' σ''):SRel C σ'' X' s'/\Evo C P σ X s σ'' X' s':=by
 have wr:∀ b',Wr C σ'' X' b'->Wr C σ' X' b':=fun b' w=>w.imp id fun ⟨l,o,g,m⟩=>⟨l,o,(b.sub l o g).1,m⟩
 refine ⟨⟨S'.base,S'.tab,S'.zb,S'.zl,S'.os,S'.gens,fun l o g=>?_,fun l o g=>?_,fun l l' o o' b' g g' m m'=>S'.apart l l' o o' b' (b.sub l o g).1 (b.sub l' o' g').1 m m',fun b' w=>S'.zw b' (wr b' w),fun b' w=>S'.wl b' (wr b' w)⟩,
  ⟨e.size,e.keep,e.zm,e.zn,fun b' w=>e.wn b' (wr b' w),b.h1,e.ph⟩⟩
 ·rcases (b.sub l o g).2 with q | q
  ·exact Nat.lt_of_lt_of_le (S.lt l o q) b.h1
  ·exact q.1
 ·refine (S'.obj l o (b.sub l o g).1).shrink ?_
  rcases (b.sub l o g).2 with q | q
  ·exact (S.obj l o q).below.mono b.h1
  ·exact q.2
theorem FnOk.drop {C k f vs σ v σ' σ''} (h:FnOk C k f vs σ v σ') (b:Sub σ σ' σ'') (hb:below σ''.next v):FnOk C k f vs σ v σ'':=by
 intro A X s as rm S r Q E hQ
 refine h A X s as rm S r Q E fun a X' s' S' e' r'=>?_
 obtain ⟨S2,e2⟩:=S.drop S' e' b
 exact hQ a X' s' S2 e2 (r'.shrink hb)
theorem Sub.old {σ σ':Sto} (h:σ.next<=σ'.next) (g:∀ l o,σ.get l=some o->σ'.get l=some o):Sub σ σ' σ:=⟨Nat.le_refl _,h,fun l o e=>⟨g l o e,.inl e⟩⟩
mutual
inductive Frz (l:Nat) (vs:List V):V->V->Prop
 | refl (v):Frz l vs v v
 | hit:Frz l vs (.loc l) (.list vs)
 | list {us us'} (h:zZ l vs us us'):Frz l vs (.list us) (.list us')
inductive zZ (l:Nat) (vs:List V):List V->List V->Prop
 | nil:zZ l vs [] []
 | cons {u u' us us'} (h:Frz l vs u u') (t:zZ l vs us us'):zZ l vs (u::us) (u'::us')
end
section
variable {C:Cx} {k:Nat} {ρ ρ':Loc} {σ σ':Sto}
theorem SRel.tab_foot {X:Wld} {s:Shared} (S:SRel C σ X s) {l:Nat} {o:O} (e:σ.get l=some o):C.tab∉foot X l o:=fun m=>by
 obtain ⟨ps,g,_⟩:=S.tab
 have r:=S.obj l o e
 have key:∀ b,C.tab∈[b]->∀ ob,s.heap.get? b=some ob->ob=PySem.W.tabObj ps:=fun b m ob g'=>by rw [<-List.mem_singleton.mp m,g] at g';exact (Option.some.inj g').symm
 cases o with
 | list vs=>obtain ⟨items,k,g',_⟩:=r;exact nomatch key _ m _ g'
 | liter vs=>obtain ⟨p,i,items,k,⟨o',g',h1,h2⟩,_⟩:=r;rw [key _ m _ g'] at h1;exact nomatch h1
 | lexer lf line pb=>obtain ⟨d,f,g',_⟩:=r.dict;exact nomatch key _ m _ g'
 | citer lx b=>cases b with
   | true=>obtain ⟨_,bm,t,g',_⟩:=r;exact nomatch key _ m _ g'
   | false=>exact nomatch key _ m _ r.2
theorem SRel.frz {X:Wld} {s:Shared} {l:Nat} {vs:List V} (S:SRel C σ X s) (hl:σ.get l=some (.list vs)):SRel C (σ.del l) (X.more (·=X.φ l)) s/\Evo C NoP σ X s (σ.del l) (X.more (·=X.φ l)) s:=by
 have gd:∀ l' o,(σ.del l).get l'=some o->σ.get l'=some o/\l'≠l:=fun l' o e=>by
  dsimp only [Sto.del] at e
  split at e
  ·cases e
  ·exact ⟨e,by assumption⟩
 have wr:∀ b,Wr C (σ.del l) (X.more (·=X.φ l)) b->Wr C σ X b/\b≠X.φ l:=fun b w=>by
  rcases Wr_more.mp w with w | ⟨l',o,g,m⟩
  ·exact ⟨.inl w,fun q=>S.tab_foot hl (List.mem_singleton.mpr (w.symm.trans q))⟩
  ·obtain ⟨g,hn⟩:=gd _ _ g
   exact ⟨.inr ⟨l',o,g,m⟩,fun q=>hn (S.apart _ _ _ _ _ g hl m (List.mem_singleton.mpr q))⟩
 have wl:Wr C σ X (X.φ l):=.inr ⟨l,_,hl,List.mem_singleton.mpr rfl⟩
 refine ⟨⟨S.base,(S.tab.imp fun ps t=>⟨t.1,t.2.mono (fun _ _ _ e=>e) fun _ z=>.inl z⟩),fun b o e n=>.inl (S.zb b o e n),fun b z=>z.elim (S.zl b) fun q=>by subst q;exact S.wl _ wl,S.os,S.gens,fun l' o e=>S.lt l' o (gd _ _ e).1,
  fun l' o e=>(S.obj l' o (gd _ _ e).1).mono (fun _ _ _ e=>e) (fun _ _ _ e=>e) (fun _ z=>.inl z) (Nat.le_refl _) (fun _ _=>⟨rfl,rfl,rfl⟩) (S.lt l' o (gd _ _ e).1),
  fun l1 l2 o o' b e e' m m'=>S.apart l1 l2 o o' b (gd _ _ e).1 (gd _ _ e').1 m m',fun b w z=>z.elim (S.zw b (wr b w).1) (wr b w).2,fun b w=>S.wl b (wr b w).1⟩,
  ⟨Nat.le_refl _,fun _ _ e _ _=>e,fun _ z=>.inl z,fun b z=>z.imp id fun q=>.inr (by subst q;exact wl),fun b w=>.inl (wr b w).1,Nat.le_refl _,fun _ _=>⟨rfl,rfl,rfl⟩⟩⟩
theorem uo {X:Wld} {s:Shared} {l:Nat} {vs:List V} (S:SRel C σ X s) (hl:σ.get l=some (.list vs)) {v v':V} {a:Value} (f:Frz l vs v v'):VRel C X σ.next s.heap v a->VRel C (X.more (·=X.φ l)) σ.next s.heap v' a :=
 Frz.rec (motive_1:=fun v v' _=>∀ a,VRel C X σ.next s.heap v a->VRel C (X.more (·=X.φ l)) σ.next s.heap v' a) (motive_2:=fun us us' _=>∀ as,VsRel C X σ.next s.heap us as->VsRel C (X.more (·=X.φ l)) σ.next s.heap us' as)
  (fun _ _ r=>r.mono (X':=X.more (·=X.φ l)) (fun _ _ _ e=>e) (fun _ z=>Or.inl z) (Nat.le_refl _) fun _ _=>rfl)
  (fun _ r=>by
    obtain ⟨_,rfl⟩:=r
    exact (S.obj l _ hl).elim fun items o=>o.elim fun k o=>⟨_,items,k,rfl,.inr rfl,o.1,o.2.mono (X':=X.more (·=X.φ l)) (fun _ _ _ e=>e) (fun _ z=>Or.inl z) (Nat.le_refl _) fun _ _=>rfl⟩)
  (fun _ ih _ r=>r.imp fun _ r=>r.imp fun _ r=>r.imp fun _ r=>⟨r.1,.inl r.2.1,r.2.2.1,ih _ r.2.2.2⟩)
  (fun _ r=>by rw [r.inv_nil];exact .nil)
  (fun _ _ i1 i2 _ r=>r.imp fun _ r=>r.imp fun _ r=>⟨r.1,i1 _ r.2.1,i2 _ r.2.2⟩) f a
theorem ExL.frz {ts:List St} {f:Fl} {l:Nat} {vs:List V} {ρ1 ρ2:Loc} {σ2:Sto} (hl:σ.get l=some (.list vs)) (hρ:∀ x v',get ρ1 x=some v'->∃ v,get ρ x=some v/\Frz l vs v v') (h:ExL C k ts ρ1 (σ.del l) f ρ2 σ2):ExL C k ts ρ σ f ρ2 σ2:=by
 intro n sc ts he A env X s rm R Q E hQ
 obtain ⟨S1,e1⟩:=R.S.frz hl
 have R1:Rel C env sc ρ1 (σ.del l) (X.more (·=X.φ l)) s:=by
  have R0:=R.evo0 S1 e1
  refine ⟨S1,⟨R0.F.kind,R0.F.kl,R0.F.kc,R0.F.kf,R0.F.kg,R0.F.gl,R0.F.bt,?_,R0.F.cl,fun x v' e kd=>?_,R0.F.live,R0.F.apart,R0.F.ne⟩,R0.pz,R0.pw⟩
  ·obtain ⟨m,hm,q⟩:=R.F.ns
   refine ⟨m,hm,fun x v' e kd=>?_⟩
   obtain ⟨v,e2,hf⟩:=hρ x v' e
   obtain ⟨a,e3,r⟩:=q x v e2 kd
   exact ⟨a,e3,uo R.S hl hf r⟩
  ·obtain ⟨v,e2,hf⟩:=hρ x v' e
   obtain ⟨c,a,e3,hc,r⟩:=R.F.cv x v e2 kd
   exact ⟨c,a,e3,hc,uo R.S hl hf r⟩
 exact h _ _ _ he A env _ s rm R1 Q E fun g X' s' R' e' fr=>hQ g X' s' R' (e1.of0.trans e') fr
noncomputable def Wld.add (X:Wld) (l:Nat) (a b:Addr) (N:Addr->Prop):Wld:=⟨fun i=>if i=l then a else X.φ i,fun i=>if i=l then b else X.ψ i,X.χ,fun c=>X.Z c\/N c⟩
theorem SRel.newSeal {X X':Wld} {s s':Shared} {P:Addr->Prop} {o:O} (S:SRel C σ' X' s') (e:Evo C P σ X s σ' X' s') (a b:Addr) (N:Addr->Prop) (hN:∀ c,N c->s.heap.objs.size<=c/\(∃ ob,s'.heap.get? c=some ob)/\¬ Wr C σ' X' c)
 (hf:∀ c∈foot (X'.add σ'.next a b N) σ'.next o,s.heap.objs.size<=c/\(∃ ob,s'.heap.get? c=some ob)/\¬ N c/\¬ X'.Z c/\¬ Wr C σ' X' c) (hO:ORel C (X'.add σ'.next a b N) (σ'.next+1) s'.heap σ'.next o) :
 SRel C (σ'.new o) (X'.add σ'.next a b N) s'/\Evo C P σ X s (σ'.new o) (X'.add σ'.next a b N) s':=by
 have hph:∀ l,l<σ'.next->(X'.add σ'.next a b N).φ l=X'.φ l/\(X'.add σ'.next a b N).ψ l=X'.ψ l/\(X'.add σ'.next a b N).χ l=X'.χ l:=fun l hl=>by simp [Wld.add,Nat.ne_of_lt hl]
 have hft:∀ l o',l<σ'.next->foot (X'.add σ'.next a b N) l o'=foot X' l o':=fun l o' hl=>by
  obtain ⟨q1,q2,_⟩:=hph l hl
  cases o'<;>simp [foot,q1,q2]
 have gn:∀ l o',(σ'.new o).get l=some o'->(l=σ'.next/\o'=o)\/(l<σ'.next/\σ'.get l=some o'):=fun l o' e=>by
  dsimp only [Sto.new] at e
  split at e
  ·cases e;exact .inl ⟨by assumption,rfl⟩
  ·exact .inr ⟨S.lt _ _ e,e⟩
 have wr:∀ c,Wr C (σ'.new o) (X'.add σ'.next a b N) c->Wr C σ' X' c\/c∈foot (X'.add σ'.next a b N) σ'.next o:=fun c w=>by
  rcases w with w | ⟨l,o',e,m⟩
  ·exact .inl (.inl w)
  ·rcases gn _ _ e with ⟨rfl,rfl⟩ | ⟨hl,e⟩
   ·exact .inr m
   ·rw [hft _ _ hl] at m;exact .inl (.inr ⟨l,o',e,m⟩)
 refine ⟨⟨S.base,S.tab.imp fun ps t=>⟨t.1,t.2.mono (fun _ _ _ e=>e) fun b z=>.inl z⟩,fun c ob e n=>.inl (S.zb c ob e n),fun c z=>z.elim (S.zl c) fun n=>(hN c n).2.1,S.os,S.gens,fun l o' e=>?_,fun l o' e=>?_,fun l l' o1 o2 c e e' m m'=>?_,fun c w z=>?_,fun c w=>?_⟩,
  ⟨e.size,e.keep,fun c z=>.inl (e.zm c z),fun c z=>z.elim (e.zn c) fun n=>.inr (.inl (hN c n).1),fun c w=>(wr c w).elim (e.wn c) fun m=>.inr (hf c m).1,Nat.le_trans e.nx (Nat.le_succ _),fun l hl=>?_⟩⟩
 ·show l<σ'.next+1
  rcases gn _ _ e with ⟨rfl,_⟩ | ⟨hl,_⟩<;>lia -abstractProof
 ·rcases gn _ _ e with ⟨rfl,rfl⟩ | ⟨hl,e⟩
  ·exact hO
  ·exact (S.obj l o' e).mono (fun _ _ _ e=>e) (fun _ _ _ e=>e) (fun b z=>.inl z) (Nat.le_succ _) hph hl
 ·rcases gn _ _ e with ⟨q1,q2⟩ | ⟨hl,e1⟩<;>rcases gn _ _ e' with ⟨q3,q4⟩ | ⟨hl',e2⟩
  ·rw [q1,q3]
  ·rw [hft _ _ hl'] at m'
   rw [q1,q2] at m
   exact absurd (.inr ⟨_,_,e2,m'⟩) (hf c m).2.2.2.2
  ·rw [hft _ _ hl] at m
   rw [q3,q4] at m'
   exact absurd (.inr ⟨_,_,e1,m⟩) (hf c m').2.2.2.2
  ·rw [hft _ _ hl] at m;rw [hft _ _ hl'] at m';exact S.apart _ _ _ _ c e1 e2 m m'
 ·rcases wr c w with w | m<;>rcases z with z | n
  ·exact S.zw c w z
  ·exact (hN c n).2.2 w
  ·exact (hf c m).2.2.2.1 z
  ·exact (hf c m).2.2.1 n
 ·rcases wr c w with w | m
  ·exact S.wl c w
  ·exact (hf c m).2.1
 ·obtain ⟨a1,a2,a3⟩:=hph l (Nat.lt_of_lt_of_le hl e.nx)
  obtain ⟨b1,b2,b3⟩:=e.ph l hl
  exact ⟨a1.trans b1,a2.trans b2,a3.trans b3⟩
theorem SRel.newO {X:Wld} {s s':Shared} {o:O} (S:SRel C σ X s) (G:Grow s s') (a b:Addr) (N:Addr->Prop) (hN:∀ c,N c->s.heap.objs.size<=c/\∃ ob,s'.heap.get? c=some ob)
 (hf:∀ c∈foot (X.add σ.next a b N) σ.next o,s.heap.objs.size<=c/\(∃ ob,s'.heap.get? c=some ob)/\¬ N c) (hO:ORel C (X.add σ.next a b N) (σ.next+1) s'.heap σ.next o) :
 SRel C (σ.new o) (X.add σ.next a b N) s'/\Evo C NoP σ X s (σ.new o) (X.add σ.next a b N) s':=by
 obtain ⟨S',e⟩:=S.grow0 G
 have lt:∀ {c ob},s.heap.get? c=some ob->¬ s.heap.objs.size<=c:=fun g=>Nat.not_le.mpr (Heap.lt_size g)
 exact S'.newSeal e a b N (fun c n=>⟨(hN c n).1,(hN c n).2,fun w=>(S.wl c w).elim fun _ g=>lt g (hN c n).1⟩)
  (fun c m=>⟨(hf c m).1,(hf c m).2.1,(hf c m).2.2,fun z=>(S.zl c z).elim fun _ g=>lt g (hf c m).1,fun w=>(S.wl c w).elim fun _ g=>lt g (hf c m).1⟩) hO
theorem SRel.setO {X:Wld} {s s':Shared} {l:Nat} {o o':O} (S:SRel C σ X s) (hl:σ.get l=some o) (hf:foot X l o'=foot X l o) (keep:∀ b ob,b∉foot X l o->s.heap.get? b=some ob->s'.heap.get? b=some ob)
 (live:∀ b∈foot X l o,∃ ob,s'.heap.get? b=some ob) (size:s.heap.objs.size<=s'.heap.objs.size) (os:s'.os=s.os) (gens:s'.gens=s.gens) (hO:ORel C X σ.next s'.heap l o') :
 SRel C (σ.set l o') X s'/\Evo C NoP σ X s (σ.set l o') X s':=by
 have wl:∀ b∈foot X l o,Wr C σ X b:=fun b m=>.inr ⟨l,o,hl,m⟩
 have kz:∀ b ob,X.Z b->s.heap.get? b=some ob->s'.heap.get? b=some ob:=fun b ob z e=>keep b ob (fun m=>S.zw b (wl b m) z) e
 have gn:∀ l' o1,(σ.set l o').get l'=some o1->(l'=l/\o1=o')\/(l'≠l/\σ.get l'=some o1):=fun l' o1 e=>by
  dsimp only [Sto.set] at e
  split at e
  ·cases e;exact .inl ⟨by assumption,rfl⟩
  ·exact .inr ⟨by assumption,e⟩
 have wr:∀ b,Wr C (σ.set l o') X b->Wr C σ X b:=fun b w=>by
  rcases w with w | ⟨l',o1,e,m⟩
  ·exact .inl w
  ·rcases gn _ _ e with ⟨rfl,rfl⟩ | ⟨_,e⟩
   ·rw [hf] at m;exact wl b m
   ·exact .inr ⟨l',o1,e,m⟩
 refine ⟨⟨fun b ob e n=>kz _ _ (S.zb b ob e n) (S.base b ob e n),S.tab.imp fun ps t=>⟨keep _ _ (S.tab_foot hl) t.1,t.2.mono kz fun b z=>z⟩,S.zb,fun b z=>(S.zl b z).imp fun ob e=>kz _ _ z e,os.trans S.os,gens.trans S.gens,fun l' o1 e=>?_,fun l' o1 e=>?_,fun l1 l2 o1 o2 b e e' m m'=>?_,fun b w=>S.zw b (wr b w),fun b w=>?_⟩,
  ⟨size,fun b ob e nw _=>keep b ob (fun m=>nw (wl b m)) e,fun _ z=>z,fun _ z=>.inl z,fun b w=>.inl (wr b w),Nat.le_refl _,fun _ _=>⟨rfl,rfl,rfl⟩⟩⟩
 ·rcases gn _ _ e with ⟨rfl,rfl⟩ | ⟨_,e⟩
  ·exact S.lt _ _ hl
  ·exact S.lt _ _ e
 ·rcases gn _ _ e with ⟨rfl,rfl⟩ | ⟨hn,e⟩
  ·exact hO
  ·exact (S.obj l' o1 e).mono kz (fun b ob m g=>keep b ob (fun m2=>hn (S.apart _ _ _ _ b e hl m m2)) g) (fun _ z=>z) (Nat.le_refl _) (fun _ _=>⟨rfl,rfl,rfl⟩) (S.lt l' o1 e)
 ·rcases gn _ _ e with ⟨q1,q2⟩ | ⟨h1,e1⟩<;>rcases gn _ _ e' with ⟨q3,q4⟩ | ⟨h2,e2⟩
  ·rw [q1,q3]
  ·rw [q1,q2,hf] at m;rw [q1];exact S.apart _ _ _ _ b hl e2 m m'
  ·rw [q3,q4,hf] at m';rw [q3];exact S.apart _ _ _ _ b e1 hl m m'
  ·exact S.apart _ _ _ _ b e1 e2 m m'
 ·by_cases m:b∈foot X l o
  ·exact live b m
  ·obtain ⟨ob,e⟩:=S.wl b (wr b w);exact ⟨ob,keep b ob m e⟩
end
end
section
open PySem PyProof.Rows
section
variable {C:Cx} {k:Nat} {ρ ρ':Loc} {σ σ' σ1:Sto}
theorem SRel.newLoc {A:Around} {X:Wld} {s:Shared} {as:List Value} {vs:List V} {Q:Value->Shared->Prop} {E:Value->Shared->Prop} (S:SRel C σ X s) (r:VsRel C X σ.next s.heap vs as) (hl:vs.length<=sizeLine)
 (hQ:∀ a X' s',SRel C (σ.new (.list vs)) X' s'->Evo C NoP σ X s (σ.new (.list vs)) X' s'->VRel C X' (σ.next+1) s'.heap (.loc σ.next) a->Q a s'):wpAny (model C.prog C.w) A (PySem.newList as) Q E s:=by
 have hlen:as.toArray.size<=sizeLine:=by rw [List.size_toArray,r.length];exact hl
 have hg:(s.heap.push (dD as.toArray 0)).get? s.heap.objs.size=some (dD as.toArray 0):=Heap.get?_push_size _ rfl
 have hφ:(X.add σ.next s.heap.objs.size 0 (fun _=>False)).φ σ.next=s.heap.objs.size:=by simp [Wld.add]
 obtain ⟨S',e⟩:=S.newO (o:=.list vs) (Grow.push (dD as.toArray 0)) s.heap.objs.size 0 (fun _=>False) (fun _ h=>h.elim)
  (fun c m=>by
    simp only [foot,List.mem_singleton] at m
    rw [hφ] at m
    subst m
    exact ⟨Nat.le_refl _,⟨_,hg⟩,fun h=>h⟩)
  (by
    refine ⟨_,0,by rw [hφ];exact hg,?_⟩
    refine (r.mono (fun b o _ e=>Heap.get?_push_of_some _ e) (fun _ z=>Or.inl z) (Nat.le_succ _) fun l hl=>?_)
    simp [Wld.add,Nat.ne_of_lt hl])
 refine wpAny_newObj_type (hQ _ _ _ S' e ?_) hlen
 exact ⟨Nat.lt_succ_self _,by rw [hφ]⟩
theorem mM {l:List Ex} {vs:List V} (h1:EvL C k l ρ σ vs σ1) (hl:vs.length<=sizeLine):EvE C k (.list l) ρ σ (.loc σ1.next) (σ1.new (.list vs)):=by
 intro n sc e h A env X s rm R Q E hQ
 cases erI h
 rename_i n es p e1
 refine List_ (h1 _ _ _ e1 A env X s _ rm R _ _ fun as X1 s1 R1 v1 r1=>?_)
 exact R1.S.newLoc r1 hl fun a X2 s2 S2 v2 r2=>hQ a X2 s2 (R1.evo0 S2 v2) (v1.trans v2.of0) r2
theorem SRel.turnList {X:Wld} {s:Shared} {l:Nat} {vs us:List V} {items its:Array Value} {kk k':Nat} {h':Heap} {t:Nat} (S:SRel C σ X s) (hl:σ.get l=some (.list vs)) (hg:s.heap.get? (X.φ l)=some (dD items kk)) (hs:Heap.SameBut (X.φ l) s.heap h')
 (hg':h'.get? (X.φ l)=some (dD its k')) (hr:VsRel C X σ.next s.heap us its.toList):SRel C (σ.set l (.list us)) X { s with heap:=h',toks:=t }/\Evo C NoP σ X s (σ.set l (.list us)) X { s with heap:=h',toks:=t }:=by
 have nz:¬ X.Z (X.φ l):=S.zw _ (.inr ⟨l,_,hl,by simp [foot]⟩)
 refine S.setO (o':=.list us) hl rfl (fun b ob nb e=>(hs.2 b (by exact List.ne_of_not_mem_cons nb)).trans e) (fun b m=>by simp only [foot,List.mem_singleton] at m;subst m;exact ⟨_,hg'⟩) (Nat.le_of_eq hs.1.symm) rfl rfl ?_
 exact ⟨its,k',hg',hr.mono (fun b o z e=>(hs.2 b (fun q=>nz (q▸z))).trans e) (fun _ z=>z) (Nat.le_refl _) fun _ _=>rfl⟩
theorem nX {l:Nat} {vs:List V} (hl:σ.get l=some (.list vs)):oG C (.loc l) σ "list":=by
 intro X s a S r
 obtain ⟨_,rfl⟩:=r
 obtain ⟨items,kk,g,q⟩:=S.obj l _ hl
 exact ⟨_,g,rfl⟩
theorem cS {l:Nat} {vs:List V} {name:Nm} {id:String} (hl:σ.get l=some (.list vs)) (slot:Slot "list" (ao name) id) (hty:typeOf (.builtin id)=pure (.type "method_descriptor")):vq C (.loc l) σ name (.builtin id):=by
 intro A X s a pl S r Q E hQ
 obtain ⟨_,rfl⟩:=r
 obtain ⟨items,kk,g,q⟩:=S.obj l _ hl
 exact getMethod_builtin ⟨_,g,rfl⟩ PySem.F.plainAttrs_list slot hty (fun a e=>by cases e;exact ⟨_,g,rfl⟩) hQ
theorem gh {l:Nat} {vs:List V} {v:V} (hl:σ.get l=some (.list vs)) (hz:vs.length<=sizeLine):FnOk C k (.builtin "list.append") [.loc l,v] σ .none (σ.set l (.list (vs++[v]))):=by
 intro A X s as rm S r Q E hQ
 obtain ⟨a,q,rfl,r1,r2⟩:=r.inv_cons
 obtain ⟨b,q,rfl,r3,r4⟩:=r2.inv_cons
 rw [r4.inv_nil]
 obtain ⟨_,rfl⟩:=r1
 obtain ⟨items,kk,g,q⟩:=S.obj l _ hl
 have hs:items.size<=sizeLine:=by rw [<-Array.length_toList,q.length];exact hz
 refine call_meets PySem.F.slot_list_append ⟨_,g,rfl⟩ PySem.F.entry_list_append (PySem.F.args_list_append_2 _ _) (PySem.list_append _ items kk b hs) ⟨g,?_⟩
 obtain ⟨S',e'⟩:=S.turnList (t:=s.toks) (us:=vs++[v]) hl g (Heap.SameBut.update ..) (PySem.IsL.update g fun x=>x.push b) (by rw [Array.toList_push];exact q.app (.cons r3 .nil))
 exact hQ _ X _ S' e' (by rfl)
theorem un {l:Nat} {vs:List V} {v:V} (hl:σ.get l=some (.list (v::vs))) (hz:vs.length<sizeLine):FnOk C k (.builtin "list.pop") [.loc l,.int 0] σ v (σ.set l (.list vs)):=by
 intro A X s as rm S r Q E hQ
 obtain ⟨a,q,rfl,r1,r2⟩:=r.inv_cons
 obtain ⟨b,q,rfl,r3,r4⟩:=r2.inv_cons
 rw [r4.inv_nil]
 obtain ⟨_,rfl⟩:=r1
 obtain ⟨t,rfl⟩:=r3
 obtain ⟨items,kk,g,q⟩:=S.obj l _ hl
 obtain ⟨y,ys,hy,q1,q2⟩:=q.inv_cons
 obtain ⟨itl⟩:=items
 simp only at hy
 subst hy
 have hs:(y::ys).toArray.size<=sizeLine:=by rw [List.size_toArray,q.length];exact hz
 refine call_meets PySem.F.slot_list_pop ⟨_,g,rfl⟩ PySem.F.entry_list_pop (PySem.F.args_list_pop_2 _ _) (PySem.MeetsSeq.list_pop_at _ _ kk 0 t 0 y (by rfl) (by simp [seqIndex?]) (by rfl) hs) ⟨g,?_⟩
 obtain ⟨S',e'⟩:=S.turnList (t:=s.toks) (us:=vs) hl g (Heap.SameBut.update ..) (PySem.IsL.update g fun xs=>xs.eraseIdxIfInBounds 0) (by
  have:=PySem.W.kl_erase [] ys y
  simp only [List.nil_append,List.length_nil] at this
  rw [this]
  exact q2)
 exact hQ _ X _ S' e' (e'.rel S (fun _ h=>h.elim) q1)
theorem i6 {l:Nat} {vs:List V} (hl:σ.get l=some (.list vs)) (hz:vs.length<2 ^ 63):Tru C (.loc l) σ (!vs.isEmpty):=by
 intro A X s a S r Q E hQ
 obtain ⟨_,rfl⟩:=r
 obtain ⟨items,kk,g,q⟩:=S.obj l _ hl
 have hn:items.size=vs.length:=by rw [<-Array.length_toList,q.length]
 have he:items.isEmpty=vs.isEmpty:=by
  rw [Array.isEmpty,hn]
  cases vs<;>rfl
 have:=wpAny_truthy_list (prog:=C.prog) (w:=C.w) (A:=A) (E:=E) (s:=s) (Q:=Q) (items:=items) ⟨_,g,rfl,kk,rfl⟩ (by lia -abstractProof) (by rw [he];exact hQ _)
 exact this
theorem qU {i:Int} {n j:Nat} (h:(0<=i/\i=j)\/(i<0/\i+n=j)) (hj:j<n):seqIndex? i n=some j:=by
 have key:∀ z:Int,z=(j:Int)->(if (decide (0<=z)&&decide (z<(n:Int)))=true then some z.toNat else none)=some j:=fun z hz=>by
  rw [hz,if_pos (Bool.and_eq_true_iff.mpr ⟨decide_eq_true (Int.natCast_nonneg j),decide_eq_true (Int.ofNat_lt.mpr hj)⟩),Int.toNat_natCast]
 rcases h with ⟨h0,h1⟩ | ⟨h0,h1⟩
 ·exact key _ (by rw [if_neg (Int.not_lt.mpr h0)];exact h1)
 ·exact key _ (by rw [if_pos h0];exact h1)
noncomputable def idx (vs:List V) (i:Int):Option V:=(seqIndex? i vs.length).bind fun j=>vs[j]?
theorem iJ {A:Around} {X:Wld} {s:Shared} {p:Addr} {items:Array Value} {kk:Nat} {vs:List V} {v:V} {i:Int} {t:Tok} {Q:Value->Shared->Prop} {E:Value->Shared->Prop} (g:s.heap.get? p=some (dD items kk)) (q:VsRel C X σ.next s.heap vs items.toList)
 (hv:idx vs i=some v) (hlo:-2 ^ 63<=i) (hhi:i<2 ^ 63) (hQ:∀ a,VRel C X σ.next s.heap v a->Q a s):wpAny (model C.prog C.w) A (getItem (.ref p) (.int i t)) Q E s:=by
 obtain ⟨j,hj,hg⟩:=Option.bind_eq_some_iff.mp hv
 obtain ⟨a,ha,ra⟩:=q.get j hg
 have hn:items.size=vs.length:=by rw [<-Array.length_toList,q.length]
 have hx:items[j]?=some a:=by rw [<-Array.getElem?_toList];exact ha
 have hl:s.heap.IsList p items:=⟨_,g,rfl,kk,rfl⟩
 unfold seqIndex? at hj
 by_cases h0:i<0
 ·simp only [h0,if_true] at hj
  split at hj
  ·rename_i hc
   simp only [Bool.and_eq_true,decide_eq_true_eq] at hc
   cases hj
   exact wpAny_getItem_list_neg hl (by omega) (by rw [hn];lia -abstractProof) hlo (by rw [hn];exact hx) (hQ a ra)
  ·cases hj
 ·simp only [h0,if_false] at hj
  split at hj
  ·cases hj
   exact wpAny_getItem_list hl (by exact Iff.mp Int.not_lt h0) hhi hx (hQ a ra)
  ·cases hj
theorem kQ {vs:List V} {v:V} {i:Int} (hv:idx vs i=some v) (hlo:-2 ^ 63<=i) (hhi:i<2 ^ 63):Op2 C k getItem (.list vs) (.int i) σ v σ:=by
 intro A X s a b rm S r1 r2 Q E hQ
 obtain ⟨p,items,kk,rfl,z,g,q⟩:=r1
 obtain ⟨t,rfl⟩:=r2
 exact iJ g q hv hlo hhi fun a ra=>hQ a X s S .refl ra
theorem rF {l:Nat} {vs:List V} {v:V} {i:Int} (hl:σ.get l=some (.list vs)) (hv:idx vs i=some v) (hlo:-2 ^ 63<=i) (hhi:i<2 ^ 63):Op2 C k getItem (.loc l) (.int i) σ v σ:=by
 intro A X s a b rm S r1 r2 Q E hQ
 obtain ⟨_,rfl⟩:=r1
 obtain ⟨t,rfl⟩:=r2
 obtain ⟨items,kk,g,q⟩:=S.obj l _ hl
 exact iJ g q hv hlo hhi fun a ra=>hQ a X s S .refl ra
theorem ro {vs:List V} {v:V} {i:Int} (hv:idx vs i=some v) (hlo:-2 ^ 63<=i) (hhi:i<2 ^ 63):Op2 C k getItem (.tup vs) (.int i) σ v σ:=by
 intro A X s a b rm S r1 r2 Q E hQ
 obtain ⟨p,items,kk,rfl,z,g,q⟩:=r1
 obtain ⟨t,rfl⟩:=r2
 obtain ⟨j,hj,hg⟩:=Option.bind_eq_some_iff.mp hv
 obtain ⟨a,ha,ra⟩:=q.get j hg
 have hn:items.size=vs.length:=by rw [<-Array.length_toList,q.length]
 exact PySem.P.getItem_tuple (n:=kk) g hlo hhi (by rw [hn];exact hj) (by rw [<-Array.getElem?_toList];exact ha) (hQ a X s S .refl ra)
theorem gB {vs:List V}:oG C (.list vs) σ "list":=by
 intro X s a S r
 obtain ⟨p,items,kk,rfl,z,g,q⟩:=r
 exact ⟨_,g,rfl⟩
theorem vC {vs:List V}:oG C (.tup vs) σ "tuple":=by
 intro X s a S r
 obtain ⟨p,items,kk,rfl,z,g,q⟩:=r
 exact ⟨_,g,rfl⟩
theorem k9 {x:List Nat}:oG C (.str x) σ "str":=by
 intro X s a S r
 obtain ⟨t,rfl⟩:=r
 exact typeIs_str s _ t
end
end
section
open PySem PyProof.Rows
section
variable {C:Cx} {k:Nat} {σ:Sto} {f:Value->Value->Sem Value} {g:Value->Sem Value} {a b r:Int} {x y z:UInt64} {c:Bool}
theorem eD {X:Wld} {s:Shared} (S:SRel C σ X s) (t:Nat):SRel C σ X { s with toks:=t }/\Evo C NoP σ X s σ X { s with toks:=t }:=S.grow0 (Grow.toks t)
theorem go (h:∀ (A:Around) (s:Shared) (t u:Tok) (Q E:Value->Shared->Prop),Room k A->Q (.int r s.toks) { s with toks:=s.toks+1 }->wpAny (model C.prog C.w) A (f (.int a t) (.int b u)) Q E s):Op2 C k f (.int a) (.int b) σ (.int r) σ:=by
 intro A X s p q rm S r1 r2 Q E hQ
 obtain ⟨t,rfl⟩:=r1
 obtain ⟨u,rfl⟩:=r2
 obtain ⟨S',e⟩:=eD S (s.toks+1)
 exact h A s t u Q E rm (hQ _ X _ S' e ⟨_,rfl⟩)
theorem o6 (h:∀ (A:Around) (s:Shared) (t u:Tok) (Q E:Value->Shared->Prop),Room k A->Q (.bool c) s->wpAny (model C.prog C.w) A (f (.int a t) (.int b u)) Q E s):Op2 C k f (.int a) (.int b) σ (.bool c) σ:=by
 intro A X s p q rm S r1 r2 Q E hQ
 obtain ⟨t,rfl⟩:=r1
 obtain ⟨u,rfl⟩:=r2
 exact h A s t u Q E rm (hQ _ X _ S .refl (by rfl))
theorem CF (h:∀ (A:Around) (s:Shared) (t u:Tok) (Q E:Value->Shared->Prop),Room k A->Q (.float z s.toks) { s with toks:=s.toks+1 }->wpAny (model C.prog C.w) A (f (.int a t) (.int b u)) Q E s):Op2 C k f (.int a) (.int b) σ (.flt z) σ:=by
 intro A X s p q rm S r1 r2 Q E hQ
 obtain ⟨t,rfl⟩:=r1
 obtain ⟨u,rfl⟩:=r2
 obtain ⟨S',e⟩:=eD S (s.toks+1)
 exact h A s t u Q E rm (hQ _ X _ S' e ⟨_,rfl⟩)
theorem nk (h:∀ (A:Around) (s:Shared) (t u:Tok) (Q E:Value->Shared->Prop),Room k A->Q (.float z s.toks) { s with toks:=s.toks+1 }->wpAny (model C.prog C.w) A (f (.float x t) (.float y u)) Q E s):Op2 C k f (.flt x) (.flt y) σ (.flt z) σ:=by
 intro A X s p q rm S r1 r2 Q E hQ
 obtain ⟨t,rfl⟩:=r1
 obtain ⟨u,rfl⟩:=r2
 obtain ⟨S',e⟩:=eD S (s.toks+1)
 exact h A s t u Q E rm (hQ _ X _ S' e ⟨_,rfl⟩)
theorem tH (h:∀ (A:Around) (s:Shared) (t u:Tok) (Q E:Value->Shared->Prop),Room k A->Q (.bool c) s->wpAny (model C.prog C.w) A (f (.float x t) (.float y u)) Q E s):Op2 C k f (.flt x) (.flt y) σ (.bool c) σ:=by
 intro A X s p q rm S r1 r2 Q E hQ
 obtain ⟨t,rfl⟩:=r1
 obtain ⟨u,rfl⟩:=r2
 exact h A s t u Q E rm (hQ _ X _ S .refl (by rfl))
theorem sJ (h:∀ (A:Around) (s:Shared) (t u:Tok) (Q E:Value->Shared->Prop),Room k A->Q (.float z s.toks) { s with toks:=s.toks+1 }->wpAny (model C.prog C.w) A (f (.float x t) (.int b u)) Q E s):Op2 C k f (.flt x) (.int b) σ (.flt z) σ:=by
 intro A X s p q rm S r1 r2 Q E hQ
 obtain ⟨t,rfl⟩:=r1
 obtain ⟨u,rfl⟩:=r2
 obtain ⟨S',e⟩:=eD S (s.toks+1)
 exact h A s t u Q E rm (hQ _ X _ S' e ⟨_,rfl⟩)
theorem C3 (h:∀ (A:Around) (s:Shared) (t u:Tok) (Q E:Value->Shared->Prop),Room k A->Q (.bool c) s->wpAny (model C.prog C.w) A (f (.float x t) (.int b u)) Q E s):Op2 C k f (.flt x) (.int b) σ (.bool c) σ:=by
 intro A X s p q rm S r1 r2 Q E hQ
 obtain ⟨t,rfl⟩:=r1
 obtain ⟨u,rfl⟩:=r2
 exact h A s t u Q E rm (hQ _ X _ S .refl (by rfl))
theorem CJ (h:∀ (A:Around) (s:Shared) (t u:Tok) (Q E:Value->Shared->Prop),Room k A->Q (.bool c) s->wpAny (model C.prog C.w) A (f (.int a t) (.float y u)) Q E s):Op2 C k f (.int a) (.flt y) σ (.bool c) σ:=by
 intro A X s p q rm S r1 r2 Q E hQ
 obtain ⟨t,rfl⟩:=r1
 obtain ⟨u,rfl⟩:=r2
 exact h A s t u Q E rm (hQ _ X _ S .refl (by rfl))
theorem d7:Op2 C k (binaryOp .Add) (.int a) (.int b) σ (.int (a+b)) σ:=go fun _ _ _ _ _ _ _ h=>PySem.P.add_int h
theorem sn:Op2 C k (binaryOp .Sub) (.int a) (.int b) σ (.int (a - b)) σ:=go fun _ _ _ _ _ _ _ h=>PySem.P.sub_int h
theorem yN (hm:IntMulOk a b):Op2 C k (binaryOp .Mult) (.int a) (.int b) σ (.int (a*b)) σ:=go fun _ _ _ _ _ _ _ h=>PySem.P.mul_int h hm
theorem jg (hb:b≠0) (hp:b.natAbs.log2<9000):Op2 C k (binaryOp .FloorDiv) (.int a) (.int b) σ (.int (a.fdiv b)) σ:=go fun _ _ _ _ _ _ _ h=>floordiv_int hb h (.inl (PyProof.noPylong_of_log2 hp))
theorem fV (hb:b≠0):Op2 C k (binaryOp .Mod) (.int a) (.int b) σ (.int (a.fmod b)) σ:=go fun _ _ _ _ _ _ _ h=>mod_int' hb h
theorem y5 (hn:0<=b) (hn2:b<=1000000) (ha:a.natAbs<2 ^ 64):Op2 C k (binaryOp .Pow) (.int a) (.int b) σ (.int (a ^ b.toNat)) σ:=go fun _ _ _ _ _ _ _ h=>pow_int_small hn hn2 ha h
theorem CN (hn:0<=b) (hn2:b<=1000000) (ha:a.natAbs<2 ^ 64):Op2 C k (binaryOp .LShift) (.int a) (.int b) σ (.int (a*2 ^ b.toNat)) σ:=go fun _ _ _ _ _ _ _ h=>lshift_int_small hn hn2 ha h
theorem mI:Op2 C k (binaryOp .BitAnd) (.int a) (.int b) σ (.int (Builtin.bitAnd a b)) σ:=go fun _ _ _ _ _ _ _ h=>and_int h
theorem zO (hn:0<=b) (hn2:b<=1000000) (ha:a.natAbs<2 ^ 64):Op2 C k (inplaceOp .LShift) (.int a) (.int b) σ (.int (a*2 ^ b.toNat)) σ:=go fun _ _ _ _ _ _ _ h=>ilshift_int_small hn hn2 ha h
theorem BR:Op2 C k (inplaceOp .BitOr) (.int a) (.int b) σ (.int (Builtin.bitOr a b)) σ:=go fun _ _ _ _ _ _ _ h=>ior_int h
theorem y9:Op2 C k (inplaceOp .BitXor) (.int a) (.int b) σ (.int (Builtin.bitXor a b)) σ:=go fun _ _ _ _ _ _ _ h=>ixor_int h
theorem lN:Op2 C k (compareOp .Eq) (.int a) (.int b) σ (.bool (a==b)) σ:=o6 fun _ _ _ _ _ _ _ h=>PySem.P.eq_int h
theorem Dk:Op2 C k (compareOp .Lt) (.int a) (.int b) σ (.bool (decide (a<b))) σ:=o6 fun _ _ _ _ _ _ _ h=>PySem.P.lt_int h
theorem BJ:Op2 C k (compareOp .Gt) (.int a) (.int b) σ (.bool (decide (a > b))) σ:=o6 fun _ _ _ _ _ _ _ h=>PySem.P.gt_int h
theorem Db:Op2 C k (compareOp .GtE) (.int a) (.int b) σ (.bool (decide (a>=b))) σ:=o6 fun _ _ _ _ _ _ _ h=>PySem.P.ge_int h
theorem tT:Op1 C k (unaryOp .USub) (.int a) σ (.int (-a)) σ:=by
 intro A X s p rm S r1 Q E hQ
 obtain ⟨t,rfl⟩:=r1
 obtain ⟨S',e⟩:=eD S (s.toks+1)
 exact PySem.P.neg_int (hQ _ X _ S' e ⟨_,rfl⟩)
theorem jZ:Tru C (.int a) σ (a != 0):=by
 intro A X s p S r1 Q E hQ
 obtain ⟨t,rfl⟩:=r1
 exact PySem.P.truthy_int (hQ s.toks)
theorem aH:Tru C (.bool c) σ c:=by
 intro A X s p S r1 Q E hQ
 subst r1
 exact wpAny_truthy_bool (hQ s.toks)
theorem ge:Op2 C k (binaryOp .Add) (.flt x) (.flt y) σ (.flt (Float64.add x y)) σ:=nk fun _ _ _ _ _ _ _ h=>AutoFloatOps.add_0 h
theorem bL:Op2 C k (binaryOp .Sub) (.flt x) (.flt y) σ (.flt (Float64.sub x y)) σ:=nk fun _ _ _ _ _ _ _ h=>AutoFloatOps.sub_0 h
theorem dE:Op2 C k (binaryOp .Mult) (.flt x) (.flt y) σ (.flt (Float64.mul x y)) σ:=nk fun _ _ _ _ _ _ _ h=>AutoFloatOps.mul_0 h
theorem eM (hy:Float64.isZero y=false):Op2 C k (binaryOp .Div) (.flt x) (.flt y) σ (.flt (Float64.div x y)) σ:=nk fun _ _ _ _ _ _ _ h=>AutoFloatOps.truediv_1 (by simp [hy]) h
theorem uq (hy:Float64.isZero y=false):Op2 C k (binaryOp .Mod) (.flt x) (.flt y) σ (.flt (Float64.divmod x y).2) σ:=nk fun _ _ _ _ _ _ _ h=>AutoFloatOps.mod_1 (by simp [hy]) h
theorem ry (hb:b.natAbs<2 ^ 1023):Op2 C k (binaryOp .Mult) (.flt x) (.int b) σ (.flt (Float64.mul x (Float64.ofInt b))) σ:=sJ fun _ _ _ _ _ _ _ h=>mul_fi_fits hb h
theorem qN (hb:b.natAbs<2 ^ 1023):Op2 C k (binaryOp .Add) (.flt x) (.int b) σ (.flt (Float64.add x (Float64.ofInt b))) σ:=sJ fun _ _ _ _ _ _ _ h=>add_fi_fits hb h
theorem y6 (hb:b.natAbs<2 ^ 1023):Op2 C k (binaryOp .Sub) (.flt x) (.int b) σ (.flt (Float64.sub x (Float64.ofInt b))) σ:=sJ fun _ _ _ _ _ _ _ h=>sub_fi_fits hb h
noncomputable def ft (a b:Int):UInt64:=Float64.ofFrac (decide (a<0) != decide (b<0)) a.natAbs b.natAbs
theorem mA (hb:b≠0) (ha:a.natAbs<2 ^ 1023):Op2 C k (binaryOp .Div) (.int a) (.int b) σ (.flt (ft a b)) σ:=CF fun _ _ _ _ _ _ rm h=>PySem.Flt.div_ii_fits rm.handled ha (fun q=>absurd q hb) fun _ _=>h
noncomputable def fle (x y:UInt64):Bool:=Float64.cmp x y==some .lt||Float64.cmp x y==some .eq
theorem kY:Op2 C k (compareOp .Eq) (.flt x) (.flt y) σ (.bool (Float64.cmp x y==some .eq)) σ:=tH fun _ _ _ _ _ _ _ h=>AutoFloatOps.eq_0 h
theorem sx:Op2 C k (compareOp .Lt) (.flt x) (.flt y) σ (.bool (Float64.cmp x y==some .lt)) σ:=tH fun _ _ _ _ _ _ _ h=>AutoFloatOps.lt_0 h
theorem wY:Op2 C k (compareOp .LtE) (.flt x) (.flt y) σ (.bool (fle x y)) σ:=tH fun _ _ _ _ _ _ _ h=>AutoFloatOps.le_0 h
theorem AB:Op2 C k (compareOp .Lt) (.flt x) (.int b) σ (.bool (Float64.cmpInt x b==some .lt)) σ:=C3 fun _ _ _ _ _ _ _ h=>lt_fi h
theorem Am:Op2 C k (compareOp .LtE) (.int a) (.flt y) σ (.bool (Float64.cmpInt y a==some .gt||Float64.cmpInt y a==some .eq)) σ:=CJ fun _ _ _ _ _ _ _ h=>le_if h
end
end
section
open PySem PyProof.Rows
section
variable {C:Cx} {k:Nat} {σ:Sto} {x y:List Nat} {a b:Int}
theorem ln (x y:List Nat):ao x++ao y=ao (x++y):=by
 show (⟨x.toArray++y.toArray⟩:Str)=⟨(x++y).toArray⟩
 simp
theorem bv (x:List Nat):(ao x).length=x.length:=by
 show x.toArray.size=_
 rfl
theorem uF {f:Value->Value->Sem Value} {v:V} (h:∀ (A:Around) (s:Shared) (t u:Tok) (Q E:Value->Shared->Prop),Room k A->(∀ r k',(∀ X n h,VRel C X n h v r)->Q r { s with toks:=k' })->wpAny (model C.prog C.w) A (f (.str (ao x) t) (.str (ao y) u)) Q E s) :
 Op2 C k f (.str x) (.str y) σ v σ:=by
 intro A X s p q rm S r1 r2 Q E hQ
 obtain ⟨t,rfl⟩:=r1
 obtain ⟨u,rfl⟩:=r2
 refine h A s t u Q E rm fun r k' hr=>?_
 obtain ⟨S',e⟩:=eD S k'
 exact hQ _ X _ S' e (hr _ _ _)
theorem rN {A:Around} {s:Shared} {t u:Tok} {Q:Value->Shared->Prop} (hlen:(x++y).length<=16777216) (h:∀ r k',(∀ X n h,VRel C X n h (.str (x++y)) r)->Q r { s with toks:=k' }) :
 (if (ao x).length==0 then Made.val (.str (ao y) u) else if (ao y).length==0 then Made.val (.str (ao x) t) else Made.str (ao x++ao y)).post Q s:=by
 split
 ·rename_i h0
  rw [bv] at h0
  have:x=[]:=by simpa using h0
  subst this
  exact h _ s.toks fun _ _ _=>⟨_,rfl⟩
 ·split
  ·rename_i h0
   rw [bv] at h0
   have:y=[]:=by simpa using h0
   subst this
   exact h _ s.toks fun _ _ _=>⟨_,by rw [List.append_nil]⟩
  ·rw [ln]
   refine ⟨?_,h _ _ fun _ _ _=>⟨_,rfl⟩⟩
   rw [bv]
   exact hlen
theorem dX (hlen:(x++y).length<=16777216):Op2 C k (binaryOp .Add) (.str x) (.str y) σ (.str (x++y)) σ:=uF fun A s t u Q E rm h=>PySem.P.add_str (rN (A:=A) hlen h)
theorem kO (hlen:(x++y).length<=16777216):Op2 C k (inplaceOp .Add) (.str x) (.str y) σ (.str (x++y)) σ:=uF fun A s t u Q E rm h=>PySem.P.iadd_str (rN (A:=A) hlen h)
theorem jF:Op2 C k (compareOp .Eq) (.str x) (.str y) σ (.bool (x==y)) σ:=uF fun A s t u Q E rm h=>PySem.P.eq_str (h _ s.toks fun _ _ _=>Eq.refl _)
theorem yY {c:Nat}:Op2 C k (compareOp .In) (.str [c]) (.str x) σ (.bool (decide (c∈x))) σ:=uF fun A s t u Q E rm h=>by
 refine PySem.P.in_str ?_
 have:=StrLaws.found_one (ao x) c
 simp only [ao] at this ⊢
 rw [this]
 exact h _ s.toks fun _ _ _=>Eq.refl _
end
end
section
open PySem PyProof.Rows
section
variable {C:Cx} {k:Nat} {σ:Sto} {x y:List Nat} {a b:Int} {vs:List V}
theorem ri {i:Int} {c:Nat} (hc:(seqIndex? i x.length).bind (x[·]?)=some c) (hlo:-2 ^ 63<=i) (hhi:i<2 ^ 63):Op2 C k getItem (.str x) (.int i) σ (.str [c]) σ:=by
 intro A X s p q rm S r1 r2 Q E hQ
 obtain ⟨t,rfl⟩:=r1
 obtain ⟨u,rfl⟩:=r2
 obtain ⟨S',e⟩:=eD S (s.toks+1)
 refine PySem.P.getItem_str (c:=c) (by simp;exact And.symm ⟨hhi,hlo⟩) ?_ (hQ _ X _ S' e ⟨_,rfl⟩)
 rw [bv]
 simpa using hc
theorem zh {n:Nat} (hn:x.length*n<=16777216) (hn2:n<1000000) (hx:x.length<1000000):Op2 C k (binaryOp .Mult) (.str x) (.int n) σ (.str (List.replicate n x).flatten) σ:=by
 intro A X s p q rm S r1 r2 Q E hQ
 obtain ⟨t,rfl⟩:=r1
 obtain ⟨u,rfl⟩:=r2
 have hok:MulOk (ao x) (n:Int):=by
  refine ⟨by simp;lia -abstractProof,fun h1 _=>?_,fun _ _=>?_⟩
  ·rw [bv]
   have h2:(1:Int)<=n:=by exact Iff.mp Int.not_lt h1
   have h3:(1000000:Int)*n<=2 ^ 63 - 1:=by lia -abstractProof
   have h4:(1000000:Int)<=(2 ^ 63 - 1) / n:=(Int.le_ediv_iff_mul_le (by assumption)).mpr h3
   lia -abstractProof
  ·rw [bv]
   have e:((n:Int)).toNat=n:=by rfl
   rw [e]
   simp only [Builtin.Str.tooLong,decide_eq_false_iff_not,sizeLine_eq]
   exact Iff.mpr Nat.not_lt hn
 refine PySem.SB.mul hok fun t' k'=>?_
 obtain ⟨S',e⟩:=eD S k'
 refine hQ _ X _ S' e ?_
 refine ⟨t',?_⟩
 congr 1
 unfold Txt.mul
 split
 ·have:n=0:=by lia -abstractProof
  subst this
  rfl
 ·rename_i h1
  split
  ·rename_i h2
   simp only [Bool.or_eq_true,beq_iff_eq,bv] at h2
   rcases h2 with h2 | h2
   ·have:n=1:=by lia -abstractProof
    subst this
    simp
   ·have:x=[]:=by simpa using h2
    subst this
    simp
  ·have key:∀ (m:Nat) (acc:Array Nat),(List.replicate m x.toArray).foldl (·++·) acc=acc++((List.replicate m x).flatten).toArray:=by
    intro m
    induction m with
    | zero=>intro acc;rfl
    | succ m ih=>intro acc;simp only [List.replicate_succ,List.foldl_cons,ih,List.replicate_succ,List.flatten_cons];simp
   have e:((n:Int)).toNat=n:=by rfl
   rw [e]
   show (⟨(List.replicate n x.toArray).foldl (·++·) #[]⟩:Str)=_
   rw [key]
   simp
end
end
section
open PySem PyProof.Rows
set_option maxRecDepth 100000
section
variable {C:Cx} {k:Nat} {σ:Sto} {x y:List Nat} {a b:Int} {vs:List V}
theorem AC (hx:x.length<2 ^ 63):Tru C (.str x) σ (!x.isEmpty):=by
 intro A X s p S r1 Q E hQ
 obtain ⟨t,rfl⟩:=r1
 refine PySem.P.truthy_str (by rw [bv];lia -abstractProof) ?_
 have:(((ao x).length:Int) != 0)=!x.isEmpty:=by
  rw [bv]
  cases x<;>simp<;>lia -abstractProof
 rw [this]
 exact hQ _
theorem uQ {f:Value} {v u:V} (h:∀ (A:Around) (s:Shared) (r:Value) (Q E:Value->Shared->Prop),Room k A->(∃ X n h,VRel C X n h v r)->(∀ q k',(∀ X n h,VRel C X n h u q)->Q q { s with toks:=k' })->wpAny (model C.prog C.w) A (call f [r]) Q E s):FnOk C k f [v] σ u σ:=by
 intro A X s as rm S r Q E hQ
 obtain ⟨p,q,rfl,r1,r2⟩:=r.inv_cons
 rw [r2.inv_nil]
 refine h A s p Q E rm ⟨_,_,_,r1⟩ fun q k' hq=>?_
 obtain ⟨S',e⟩:=eD S k'
 exact hQ _ X _ S' e (hq _ _ _)
theorem BN {c:Nat}:FnOk C k (.builtin "ord") [.str [c]] σ (.int c) σ:=uQ fun A s r Q E rm ⟨X,n,h,hr⟩ hq=>by
 obtain ⟨t,rfl⟩:=hr
 exact PySem.P.ord_of_char (hq _ _ fun _ _ _=>⟨_,rfl⟩)
theorem CK {c:Nat} (hc:c<=1114111):FnOk C k (.builtin "chr") [.int c] σ (.str [c]) σ:=uQ fun A s r Q E rm ⟨X,n,h,hr⟩ hq=>by
 obtain ⟨t,rfl⟩:=hr
 refine PySem.P.chr_of_int (by simp;exact Nat.ToInt.of_le rfl rfl hc) (hq _ _ fun _ _ _=>⟨_,rfl⟩)
noncomputable def hexOf (i:Int):List Nat:=nm (PySem.baseText "0x" 16 i)
theorem xu (hl:(hexOf a).length<=sizeLine):FnOk C k (.builtin "hex") [.int a] σ (.str (hexOf a)) σ:=uQ fun A s r Q E rm ⟨X,n,h,hr⟩ hq=>by
 obtain ⟨t,rfl⟩:=hr
 refine PySem.P.hex_of_int (hq _ _ fun _ _ _=>⟨_,by rw [hexOf,aK]⟩) ?_
 rw [<-aK (PySem.baseText "0x" 16 a),bv]
 exact hl
theorem ly {v:Value} {o:Option Int} (h:IsPart v o):∃ p:Option (Int × Tok),v=partValue p/\p.map (·.1)=o:=by
 cases h with
 | none=>exact ⟨none,rfl,rfl⟩
 | int i t=>exact ⟨some (i,t),rfl,rfl⟩
noncomputable def md (x:List Nat) (lo hi st:Option Int):List Nat:=(Builtin.Str.strSliceIndices lo hi (st.getD 1) x.length).filterMap (x[·]?)
theorem ja {lo hi st:Option Int} {r:List Nat} (h0:st.getD 1≠0) (hr:md x lo hi st=r) (hfull:st.getD 1=1->r.length=x.length->r=x) (hlen:r.length<=16777216)
 (hidx:(Builtin.Str.strSliceIndices lo hi (st.getD 1) x.length).length=r.length):ij C k (.str x) lo hi st σ (.str r):=by
 intro A X s p sl vl vu vs rm S r1 hs pl pu ps Q E hQ
 obtain ⟨t,rfl⟩:=r1
 obtain ⟨p1,rfl,e1⟩:=ly pl
 obtain ⟨p2,rfl,e2⟩:=ly pu
 obtain ⟨p3,rfl,e3⟩:=ly ps
 refine wpAny_getItem_str_slice (l:=p1) (u:=p2) (st:=p3) hs (by rw [e3];exact beq_int_false h0) ?_
 have hp:slicePicked (ao x) p1 p2 p3=Builtin.Str.strSliceIndices lo hi (st.getD 1) x.length:=by
  unfold slicePicked
  simp only [e1,e2,e3,bv]
 unfold sliceMade
 rw [hp,e3,bv]
 split
 ·rename_i hc
  simp only [Bool.and_eq_true,beq_iff_eq] at hc
  rw [hidx] at hc
  have:=hfull hc.1 hc.2
  subst this
  exact hQ _ X _ S .refl ⟨_,rfl⟩
 ·obtain ⟨S',e⟩:=eD S (s.toks+1)
  have he:(⟨((Builtin.Str.strSliceIndices lo hi (st.getD 1) x.length).filterMap ((ao x).cps[·]?)).toArray⟩:Str)=ao r:=by
   rw [<-hr]
   simp [md]
  rw [he]
  refine ⟨?_,hQ _ X _ S' e ⟨_,rfl⟩⟩
  rw [bv]
  exact hlen
theorem gZ {name:Nm} {id:String} (slot:Slot "str" (ao name) id) (hty:typeOf (.builtin id)=pure (.type "method_descriptor")):vq C (.str x) σ name (.builtin id):=by
 intro A X s p pl S r Q E hQ
 obtain ⟨t,rfl⟩:=r
 exact getMethod_builtin (typeIs_str _ _ _) PySem.F.plainAttrs_str slot hty (fun a e=>by cases e) hQ
noncomputable def bH (sep:List Nat):List (List Nat)->List Nat
 | []=>[]
 | [x]=>x
 | x::y::r=>x++sep++bH sep (y::r)
noncomputable def aC (l:List (List Nat)):List V:=l.map .str
theorem xF {X:Wld} {n:Nat} {h:Heap}:∀ {l:List (List Nat)} {as:List Value},VsRel C X n h (aC l) as->∃ m:List (Str × Tok),as=strValues m/\m.map (·.1)=l.map ao:=by
 intro l
 induction l with
 | nil =>
   intro as r
   exact ⟨[],by rw [VsRel.inv_nil r];rfl,rfl⟩
 | cons x l ih =>
   intro as r
   obtain ⟨p,q,rfl,r1,r2⟩:=VsRel.inv_cons (vs:=aC l) (v:=.str x) r
   obtain ⟨t,rfl⟩:=r1
   obtain ⟨m,rfl,e⟩:=ih r2
   exact ⟨(ao x,t)::m,rfl,by simp [e]⟩
theorem mK (sep:List Nat):∀ l:List (List Nat),Str.join (ao sep) (l.map ao)=ao (bH sep l)
 | []=>rfl
 | [x]=>rfl
 | x::y::r=>by
   have ih:=mK sep (y::r)
   simp only [List.map_cons] at ih ⊢
   rw [Str.join,ih,ln,ln,bH]
   ·intro h;cases h
noncomputable def eC:List (List Nat)->Nat
 | []=>0
 | x::l=>x.length+eC l
theorem j3:∀ l:List (List Nat),((l.map ao).map (·.length)).sum=eC l
 | []=>rfl
 | x::l=>by simp only [List.map_cons,List.sum_cons,eC,bv];rw [j3 l]
theorem ma {sep:List Nat} {l:List (List Nat)} (hl:eC l+l.length*sep.length<=sizeLine):FnOk C k (.builtin "str.join") [.str sep,.list (aC l)] σ (.str (bH sep l)) σ:=by
 intro A X s as rm S r Q E hQ
 obtain ⟨p,q,rfl,r1,r2⟩:=r.inv_cons
 obtain ⟨p',q,rfl,r3,r4⟩:=r2.inv_cons
 rw [r4.inv_nil]
 obtain ⟨t,rfl⟩:=r1
 obtain ⟨D,items,kk,rfl,z,g,rr⟩:=r3
 obtain ⟨m,e,e2⟩:=xF rr
 have hi:items=(strValues m).toArray:=by exact array_of_toList e
 have key:=j3 l
 refine PySem.SC.join (l:=m) (texts:=l.map ao) ⟨_,g,rfl,kk,by rw [<-hi]⟩ e2 ?_ fun t' k'=>?_
 ·unfold JoinOk
  rw [StrLaws.joinTotal]
  rw [key]
  rw [Builtin.Str.tooLong,Bool.not_eq_true',decide_eq_false_iff_not,List.length_map,bv]
  exact Iff.mpr Nat.not_lt hl
 ·obtain ⟨S',e'⟩:=eD S k'
  refine hQ _ X _ S' e' ?_
  refine ⟨t',?_⟩
  show Value.str (Builtin.Str.glued _ _) t'=_
  rw [StrLaws.glued_eq_join,mK]
theorem xp {c:List Nat}:FnOk C k (.builtin "str.count") [.str x,.str c] σ (.int (Txt.count (ao x) (ao c))) σ:=by
 intro A X s as rm S r Q E hQ
 obtain ⟨p,q,rfl,r1,r2⟩:=r.inv_cons
 obtain ⟨p',q,rfl,r3,r4⟩:=r2.inv_cons
 rw [r4.inv_nil]
 obtain ⟨t,rfl⟩:=r1
 obtain ⟨u,rfl⟩:=r3
 obtain ⟨S',e'⟩:=eD S (s.toks+1)
 exact PySem.SC.count (hQ _ X _ S' e' ⟨_,rfl⟩)
theorem qP {X:Wld} {n:Nat} {h:Heap}:∀ {l:List (List Nat)} {m:List (Str × Tok)},m.map (·.1)=l.map ao->VsRel C X n h (aC l) (strValues m)
 | [],[],_=>.nil
 | x::l,(y,t)::m,e=>by
   simp only [List.map_cons,List.cons.injEq] at e
   obtain ⟨rfl,e⟩:=e
   exact .cons ⟨_,rfl⟩ (qP e)
theorem wO {sep:List Nat} {l:List (List Nat)} (hs:sep≠[]) (hx:x.length+2<=sizeLine) (hl:Txt.split (ao x) (ao sep)=l.map ao):FnOk C k (.builtin "str.split") [.str x,.str sep] σ (.list (aC l)) σ:=by
 intro A X s as rm S r Q E hQ
 obtain ⟨p,q,rfl,r1,r2⟩:=r.inv_cons
 obtain ⟨p',q,rfl,r3,r4⟩:=r2.inv_cons
 rw [r4.inv_nil]
 obtain ⟨t,rfl⟩:=r1
 obtain ⟨u,rfl⟩:=r3
 have hn:(Builtin.Str.partsBetween (ao x) (Builtin.Str.occurrences (ao x) (ao sep) 0 (ao x).length ((ao x).length+1)) (ao sep).length).length<=sizeLine:=by
  have e1:=StrLaws.occ_length_le (ao x) (ao sep) 0 (ao x).length ((ao x).length+1)
  rw [length_partsBetween]
  have e2:=bv x
  exact fits_base_add e1 hx
 have hx':(ao x).length<=sizeLine:=by rw [bv];exact Nat.le_of_add_right_le hx
 have hy:((ao sep).length==0)=false:=by rw [bv];simpa using hs
 have hlen:l.length<=sizeLine:=by
  have e1:(Txt.split (ao x) (ao sep)).length=l.length:=by rw [hl];simp
  rw [<-e1]
  unfold Txt.split
  split
  ·show 1<=sizeLine;decide
  ·split
   ·show 1<=sizeLine;decide
   ·exact hn
 have fin:∀ (m:List (Str × Tok)) (k':Nat),m.map (·.1)=Txt.split (ao x) (ao sep)->Q (.ref s.heap.objs.size) { s with heap:=s.heap.push { cls:=.type "list",data:=.seq (strValues m).toArray },toks:=k' }:=fun m k' em=>by
  obtain ⟨S',e⟩:=S.grow (Grow.pusht (dD (strValues m).toArray 0) k') (fun b=>b=s.heap.objs.size) (by rintro b rfl;exact ⟨Nat.le_refl _,_,Heap.get?_push_size _ rfl⟩)
  refine hQ _ _ _ S' e ?_
  exact ⟨_,_,_,rfl,.inr rfl,Heap.get?_push_size _ rfl,by exact qP (em.trans hl)⟩
 cases h1:(decide ((ao x).length<(ao sep).length)||decide (Builtin.Str.strKind (ao x)<Builtin.Str.strKind (ao sep)))
 ·cases hf:(Builtin.Str.occurrences (ao x) (ao sep) 0 (ao x).length ((ao x).length+1)).isEmpty
  ·refine call_meets PySem.F.slot_str_split (typeIs_str _ _ _) PySem.F.entry_str_split (PySem.F.args_str_split_2 _ _) (meets_str_split_sep (ao x) (ao sep) t u h1 hy hf hx' hn) ?_
   show wants Q E _ { s with toks:=_,heap:=s.heap.push { cls:=.type "list",data:=.seq (strsFrom s.toks (Builtin.Str.partsBetween (ao x) (Builtin.Str.occurrences (ao x) (ao sep) 0 (ao x).length ((ao x).length+1)) (ao sep).length)).toArray } }
   rw [strsFrom_eq]
   exact fin (numbered s.toks _) _ ((numbered_texts _ _).trans ((if_neg (ne_true_of_eq_false h1)).trans (if_neg (ne_true_of_eq_false hf))).symm)
  ·exact call_meets PySem.F.slot_str_split (typeIs_str _ _ _) PySem.F.entry_str_split (PySem.F.args_str_split_2 _ _) (meets_str_split_not_found (ao x) (ao sep) t u h1 hy hf)
    (fin [(ao x,t)] s.toks ((if_neg (ne_true_of_eq_false h1)).trans (if_pos hf)).symm)
 ·exact call_meets PySem.F.slot_str_split (typeIs_str _ _ _) PySem.F.entry_str_split (PySem.F.args_str_split_2 _ _) (meets_str_split_cannot_occur (ao x) (ao sep) t u h1)
   (fin [(ao x,t)] s.toks (if_pos h1).symm)
end
end
section
open PySem PyProof.Rows PySem.SeqAt
noncomputable def okD:Nat->V->Bool
 | 0,_=>false
 | n+1,v=>match v with
   | .int _ | .bool _=>true
   | .str x=>PyData.strOk (ao x)
   | .list vs | .tup vs=>vs.all (okD n)
   | _=>false
section
variable {C:Cx} {k:Nat} {σ:Sto} {X:Wld} {s:Shared} {n0:Nat}
theorem mL {h:Heap}:∀ (n:Nat) (v:V),okD n v=true->∃ d:PyData,d.canLay0=true/\d.depth<=n/\∀ (X:Wld) (n0:Nat) (a:Value),VRel C X n0 h v a->∃ as,Reads h a d as
 | 0,v,e=>by cases e
 | n+1,v,e=>by
   have rec_:∀ vs:List V,vs.all (okD n)=true->∃ ds:List PyData,PyData.canLayAll0 ds=true/\PyData.depthAll ds<=n/\∀ (X:Wld) (n0:Nat) (as:List Value),VsRel C X n0 h vs as->∃ bs,ReadsAll h as ds bs:=by
    intro vs
    induction vs with
    | nil=>intro _;exact ⟨[],rfl,Nat.zero_le _,fun X n0 as r=>⟨[],by rw [r.inv_nil];exact .nil⟩⟩
    | cons v vs ih =>
      intro e
      rw [List.all_cons,Bool.and_eq_true] at e
      obtain ⟨d,c1,c2,c3⟩:=mL n v e.1
      obtain ⟨ds,d1,d2,d3⟩:=ih e.2
      refine ⟨d::ds,by simp [PyData.canLayAll0,c1,d1],by simp only [PyData.depthAll];exact Nat.max_le_of_le_of_le c2 d2,fun X n0 as r=>?_⟩
      obtain ⟨a,q,rfl,r1,r2⟩:=r.inv_cons
      obtain ⟨b1,q1⟩:=c3 X n0 a r1
      obtain ⟨b2,q2⟩:=d3 X n0 q r2
      exact ⟨_,.cons q1 q2⟩
   cases v with
   | int i=>exact ⟨.int i,rfl,Nat.zero_le _,fun X n0 a r=>by obtain ⟨t,rfl⟩:=r;exact ⟨_,.int _ _⟩⟩
   | bool i=>exact ⟨.bool i,rfl,Nat.zero_le _,fun X n0 a r=>by subst r;exact ⟨_,.bool _⟩⟩
   | str x=>exact ⟨.str (ao x),by exact e,Nat.zero_le _,fun X n0 a r=>by obtain ⟨t,rfl⟩:=r;exact ⟨_,.str _ _⟩⟩
   | list vs =>
     obtain ⟨ds,d1,d2,d3⟩:=rec_ vs (by exact e)
     refine ⟨.list ds,by exact d1,by simp only [PyData.depth];exact Nat.add_le_add_right d2 1,fun X n0 a r=>?_⟩
     obtain ⟨p,items,kk,rfl,z,g,q⟩:=r
     obtain ⟨bs,qq⟩:=d3 X n0 _ q
     exact ⟨_,.list g rfl rfl qq⟩
   | tup vs =>
     obtain ⟨ds,d1,d2,d3⟩:=rec_ vs (by exact e)
     refine ⟨.tuple ds,by exact d1,by simp only [PyData.depth];lia -abstractProof,fun X n0 a r=>?_⟩
     obtain ⟨p,items,kk,rfl,z,g,q⟩:=r
     obtain ⟨bs,qq⟩:=d3 X n0 _ q
     exact ⟨_,.tuple g rfl rfl qq⟩
   | _=>contradiction
theorem jA {v:V} (h:okD 60 v=true):Op2 C k (compareOp .Eq) v v σ (.bool true) σ:=by
 intro A X s a b rm S r1 r2 Q E hQ
 have hu:=rm.units
 obtain ⟨d,c1,c2,c3⟩:=mL (C:=C) (h:=s.heap) 60 v h
 obtain ⟨as,q1⟩:=c3 _ _ _ r1
 obtain ⟨bs,q2⟩:=c3 _ _ _ r2
 have hs:shaped d=true:=by unfold shaped;rw [c1];simpa using Nat.le_trans c2 (by simp)
 exact eq_dataH q1 q2 hs hs (by simp only [cLine_is];lia -abstractProof) (by rw [eqv_refl d c1];exact hQ _ X s S .refl (by rfl))
theorem tK {v:V} (h:okD 60 v=true):Op2 C k (compareOp .NotEq) v v σ (.bool false) σ:=by
 intro A X s a b rm S r1 r2 Q E hQ
 have hu:=rm.units
 refine via fun _ g0=>?_
 obtain ⟨d,c1,c2,c3⟩:=mL (C:=C) (h:=s.heap) 60 v h
 obtain ⟨as,q1⟩:=c3 _ _ _ r1
 obtain ⟨bs,q2⟩:=c3 _ _ _ r2
 refine g0 ?_
 have hs:shaped d=true:=by unfold shaped;rw [c1];simpa using Nat.le_trans c2 (by simp)
 exact ne_dataH q1 q2 hs hs (by simp only [cLine_is];lia -abstractProof) (by rw [eqv_refl d c1];exact hQ _ X s S .refl (by rfl))
theorem VsRel.mem {h:Heap}:∀ {vs:List V} {as:List Value},VsRel C X n0 h vs as->(∀ y∈as,∃ v∈vs,VRel C X n0 h v y)/\∀ v∈vs,∃ y∈as,VRel C X n0 h v y
 | [],as,r=>by rw [r.inv_nil];exact ⟨fun y hy=>(nomatch hy),fun y hy=>(nomatch hy)⟩
 | v::vs,as,r=>by
   obtain ⟨a,q,rfl,r1,r2⟩:=r.inv_cons
   obtain ⟨i1,i2⟩:=r2.mem
   refine ⟨fun y hy=>?_,fun u hu=>?_⟩
   ·rcases List.mem_cons.mp hy with rfl | hy
    ·exact ⟨v,.head _,r1⟩
    ·obtain ⟨u,hu,r⟩:=i1 y hy;exact ⟨u,.tail _ hu,r⟩
   ·rcases List.mem_cons.mp hu with rfl | hu
    ·exact ⟨a,.head _,r1⟩
    ·obtain ⟨y,hy,r⟩:=i2 u hu;exact ⟨y,.tail _ hy,r⟩
open Classical in
theorem tG {x:V} {vs:List V} {e:V->Bool} (he:∀ v∈vs,∀ (A:Around) (X:Wld) (s:Shared) (n0:Nat) (a b:Value),A.units<9800->VRel C X n0 s.heap v a->VRel C X n0 s.heap x b->EqAt A s a b (e v)) :
 Op2 C k (compareOp .In) x (.list vs) σ (.bool (vs.any e)) σ:=by
 intro A X s a b rm S r1 r2 Q E hQ
 have hu:=rm.units
 obtain ⟨p,items,kk,rfl,z,g,q⟩:=r2
 obtain ⟨m1,m2⟩:=q.mem
 refine in_listAt (fun y=>decide (∃ v∈vs,VRel C X σ.next s.heap v y/\e v=true)) ⟨_,g,rfl,kk,rfl⟩ (fun y hy=>?_) (hQ _ X s S .refl ?_)
 ·by_cases h:∃ v∈vs,VRel C X σ.next s.heap v y/\e v=true
  ·obtain ⟨v,hv,r,ev⟩:=h
   have:=he v hv A.in1 X s _ y a (by simp only [units_in1];lia -abstractProof) r r1
   rw [ev] at this
   rwa [decide_eq_true ⟨v,hv,r,ev⟩]
  ·obtain ⟨v,hv,r⟩:=m1 y (by exact Array.Mem.val hy)
   have:=he v hv A.in1 X s _ y a (by simp only [units_in1];lia -abstractProof) r r1
   rw [decide_eq_false h]
   cases ev:e v with
   | true=>exact absurd ⟨v,hv,r,ev⟩ h
   | false=>rwa [ev] at this
 ·refine congrArg Value.bool ?_
  rw [Bool.eq_iff_iff,<-Array.any_toList,List.any_eq_true,List.any_eq_true]
  refine ⟨fun ⟨y,hy,h⟩=>?_,fun ⟨v,hv,ev⟩=>?_⟩
  ·obtain ⟨v,hv,r,ev⟩:=of_decide_eq_true h;exact ⟨v,hv,ev⟩
  ·obtain ⟨y,hy,r⟩:=m2 v hv;exact ⟨y,hy,decide_eq_true ⟨v,hv,r,ev⟩⟩
noncomputable def zs (l:List Int):List V:=l.map .int
theorem tB {a:Int} {l:List Int}:Op2 C k (compareOp .In) (.int a) (.list (zs l)) σ (.bool (l.any (·==a))) σ:=by
 have:=tG (C:=C) (k:=k) (σ:=σ) (x:=.int a) (vs:=zs l) (e:=fun v=>match v with | .int b=>b==a | _=>false) (fun v hv A X s n0 p q hu r1 r2=>by
  obtain ⟨b,_,rfl⟩:=List.mem_map.mp hv
  obtain ⟨t,rfl⟩:=r1
  obtain ⟨u,rfl⟩:=r2
  exact EqAt.int_int _ _ _ _)
 simpa [zs,List.any_map,Function.comp_def] using this
theorem k8 (x y:List Nat):(ao x==ao y)=(x==y):=by
 rw [Bool.eq_iff_iff,beq_iff_eq,beq_iff_eq];exact ⟨oj,fun h=>by rw [h]⟩
theorem tL {a:List Nat} {l:List (List Nat)}:Op2 C k (compareOp .In) (.str a) (.list (aC l)) σ (.bool (l.any (·==a))) σ:=by
 have:=tG (C:=C) (k:=k) (σ:=σ) (x:=.str a) (vs:=aC l) (e:=fun v=>match v with | .str b=>b==a | _=>false) (fun v hv A X s n0 p q hu r1 r2=>by
  obtain ⟨b,_,rfl⟩:=List.mem_map.mp hv
  obtain ⟨t,rfl⟩:=r1
  obtain ⟨u,rfl⟩:=r2
  simpa [k8] using EqAt.str_str (A:=A) (s:=s) (ao b) t (ao a) u)
 simpa [aC,List.any_map,Function.comp_def] using this
noncomputable abbrev pr (p:Int × Int):V:=.tup [.int p.1,.int p.2]
theorem rl {a:Int × Int} {l:List (Int × Int)}:Op2 C k (compareOp .In) (pr a) (.list (l.map pr)) σ (.bool (l.any (·==a))) σ:=by
 have:=tG (C:=C) (k:=k) (σ:=σ) (x:=pr a) (vs:=l.map pr) (e:=fun v=>match v with | .tup [.int c,.int d]=>c==a.1&&d==a.2 | _=>false) (fun v hv A X s n0 p q hu r1 r2=>by
  refine via fun _ g0=>?_
  obtain ⟨b,_,rfl⟩:=List.mem_map.mp hv
  obtain ⟨p1,items,kk,rfl,z,g,q1⟩:=r1
  obtain ⟨p2,items2,kk2,rfl,z2,g2,q2⟩:=r2
  obtain ⟨a1,r,e1,w1,q1⟩:=q1.inv_cons
  obtain ⟨a2,r,rfl,w2,q1⟩:=q1.inv_cons
  rw [q1.inv_nil] at e1
  obtain ⟨b1,r,e2,w3,q2⟩:=q2.inv_cons
  obtain ⟨b2,r,rfl,w4,q2⟩:=q2.inv_cons
  rw [q2.inv_nil] at e2
  obtain ⟨t1,rfl⟩:=w1
  obtain ⟨t2,rfl⟩:=w2
  obtain ⟨t3,rfl⟩:=w3
  obtain ⟨t4,rfl⟩:=w4
  obtain rfl:items=#[.int b.1 t1,.int b.2 t2]:=by exact array_of_toList e1
  obtain rfl:items2=#[.int a.1 t3,.int a.2 t4]:=by exact array_of_toList e2
  refine g0 ?_
  by_cases hp:p1=p2
  ·subst hp
   rw [g] at g2
   injection g2 with g2
   simp at g2
   refine via fun _ g0=>?_
   obtain ⟨⟨⟨e1,_⟩,e2,_⟩,_⟩:=g2
   refine g0 ?_
   simp only [e1,e2,beq_self_eq_true,Bool.and_self]
   exact .same _
  ·have:=RcAt.tuples (A:=A) (s:=s) (e:=fun j=>if j=0 then b.1==a.1 else b.2==a.2) ⟨_,g,rfl,kk,rfl⟩ ⟨_,g2,rfl,kk2,rfl⟩ (by simp only [cLine_is];lia -abstractProof) (fun j h1 h2=>by
    have:j=0\/j=1:=by simp at h1;lia -abstractProof
    rcases this with rfl | rfl
    ·exact EqAt.int_int _ _ _ _
    ·exact EqAt.int_int _ _ _ _)
   exact .of_refs hp (by simpa [List.range_succ] using this))
 have e:(l.map pr).any (fun v=>match v with | .tup [.int c,.int d]=>c==a.1&&d==a.2 | _=>false)=l.any (·==a):=by
  rw [List.any_map]
  congr 1
 rwa [e] at this
end
end
section
open PySem PyProof.Rows PySem.SeqAt PySem.Flt
section
variable {C:Cx} {k:Nat} {σ:Sto} {X:Wld} {s:Shared} {n0:Nat}
theorem SRel.kept (S:SRel C σ X s) {h':Heap} (tk:Nat) (hk:∀ b o,s.heap.get? b=some o->h'.get? b=some o) (hs:s.heap.objs.size<=h'.objs.size) :
 SRel C σ X { s with heap:=h',toks:=tk }/\Evo C NoP σ X s σ X { s with heap:=h',toks:=tk }:=S.grow0 ⟨hk,hs,rfl,rfl⟩
theorem x3 {h:Heap}:∀ {l:List Int} {as:List Value},VsRel C X n0 h (zs l) as->∃ xs:List (Int × Tok),as=xs.map (fun p=>Value.int p.1 p.2)/\xs.map (·.1)=l:=by
 intro l
 induction l with
 | nil =>
   intro as r
   exact ⟨[],by rw [VsRel.inv_nil r];rfl,rfl⟩
 | cons i l ih =>
   intro as r
   obtain ⟨a,q,rfl,r1,r2⟩:=VsRel.inv_cons (v:=.int i) (vs:=zs l) r
   obtain ⟨t,rfl⟩:=r1
   obtain ⟨xs,rfl,e⟩:=ih r2
   exact ⟨(i,t)::xs,rfl,by simp [e]⟩
theorem rB {h:Heap} {l:List Int} {items:Array Value} (r:VsRel C X n0 h (zs l) items.toList):∃ xs:Array (Int × Tok),items=intItems xs/\xs.toList.map (·.1)=l:=by
 obtain ⟨xs,e1,e2⟩:=x3 r
 refine ⟨xs.toArray,?_,by omega⟩
 rw [<-Array.toArray_toList (xs:=items),e1]
 simp [intItems]
theorem sZ {h:Heap} {l:List Int} {as:List Value} (r:VsRel C X n0 h (zs l) as):IntsAre as l:=by
 obtain ⟨xs,rfl,rfl⟩:=x3 r
 clear r
 induction xs with
 | nil=>exact .nil
 | cons p xs ih=>exact .cons _ _ ih
theorem yr {l:List Int}:FnOk C k (.builtin "sum") [.list (zs l)] σ (.int l.sum) σ:=by
 intro A X s as rm S r Q E hQ
 obtain ⟨a,q,rfl,r1,r2⟩:=r.inv_cons
 rw [r2.inv_nil]
 obtain ⟨p,items,kk,rfl,z,g,rr⟩:=r1
 obtain ⟨xs,rfl,el⟩:=rB rr
 refine cA (sum_intListG rm.handled ⟨_,g,rfl,kk,rfl⟩ fun h' tk t' hk hs=>?_)
 obtain ⟨S',e⟩:=S.kept tk hk hs
 refine hQ _ X _ S' e ?_
 rw [preSum_eq,List.take_of_length_le (by simp),el]
 exact ⟨_,rfl⟩
noncomputable def nQ:List Int->Int
 | []=>0
 | a::l=>l.foldl max a
theorem jX:∀ (l:List Int) (a:Int),a<=l.foldl max a/\∀ b∈l,b<=l.foldl max a:=by
 intro l
 induction l with
 | nil =>
   intro a
   exact ⟨Int.le_refl _,fun b h=>(nomatch h)⟩
 | cons c l ih =>
   intro a
   obtain ⟨h1,h2⟩:=ih (max a c)
   refine ⟨by simp only [List.foldl_cons];grind -abstractProof,fun b hb=>?_⟩
   rcases List.mem_cons.mp hb with rfl | hb
   ·simp only [List.foldl_cons];grind -abstractProof
   ·exact h2 b hb
theorem nV:∀ (l:List Int) (a:Int),l.foldl max a=a\/l.foldl max a∈l:=by
 intro l
 induction l with
 | nil =>
   intro a
   exact .inl rfl
 | cons c l ih =>
   intro a
   simp only [List.foldl_cons]
   rcases ih (max a c) with h | h
   ·rw [h]
    rcases Int.le_total a c with q | q
    ·rw [Int.max_eq_right q];exact .inr (.head _)
    ·rw [Int.max_eq_left q];exact .inl rfl
   ·exact .inr (.tail _ h)
theorem u8 {l:List Int}:∀ b∈l,b<=nQ l:=by
 cases l with
 | nil=>intro b h;cases h
 | cons a l =>
   intro b hb
   rcases List.mem_cons.mp hb with rfl | hb
   ·exact (jX l b).1
   ·exact (jX l a).2 b hb
theorem q6 {l:List Int} (h:l≠[]):nQ l∈l:=by
 cases l with
 | nil=>exact absurd rfl h
 | cons a l=>rcases nV l a with q | q<;>simp [nQ,q]
theorem uC {l:List Int} {m:Int} (hm:m∈l) (h:∀ b∈l,b<=m):nQ l=m :=
 Int.le_antisymm (h _ (q6 (List.ne_nil_of_mem hm))) (u8 m hm)
theorem o9 {l:List Int} (hl:l≠[]):FnOk C k (.builtin "max") [.list (zs l)] σ (.int (nQ l)) σ:=by
 intro A X s as rm S r Q E hQ
 obtain ⟨a,q,rfl,r1,r2⟩:=r.inv_cons
 rw [r2.inv_nil]
 obtain ⟨p,items,kk,rfl,z,g,rr⟩:=r1
 obtain ⟨xs,rfl,el⟩:=rB rr
 have hn:0<xs.size:=by
  have:xs.size=l.length:=by rw [<-el];simp
  rw [this];exact List.length_pos_iff.mpr hl
 refine cA (max_intList rm.handled ⟨_,g,rfl,kk,rfl⟩ hn fun v h' tk hv hk hs=>?_)
 obtain ⟨S',e⟩:=S.kept tk hk hs
 refine hQ _ X _ S' e ?_
 obtain ⟨t,rfl⟩:=intItems_at hv
 obtain ⟨g1,g2⟩:=argBest_gt (numAt xs) (xs.size - 1)
 have hna:∀ j,j<xs.size->l[j]?=some (numAt xs j):=fun j hj=>by
  rw [<-el]
  simp [numAt,hj]
 have:nQ l=numAt xs (argBest (fun i j=>decide (numAt xs i > numAt xs j)) (xs.size - 1)):=by
  refine uC (List.mem_of_getElem? (hna _ (by exact Nat.lt_of_le_pred hn g1))) fun b hb=>?_
  obtain ⟨j,hj⟩:=List.mem_iff_getElem?.mp hb
  have hj':j<xs.size:=by
   have:xs.size=l.length:=by rw [<-el];simp
   rw [this]
   exact (List.getElem?_eq_some_iff.mp hj).1
  rw [hna j hj'] at hj
  cases hj
  exact g2 j (by exact Iff.mpr (Nat.le_sub_one_iff_lt hn) hj')
 rw [this]
 exact ⟨_,rfl⟩
noncomputable def d6 (x y:UInt64):Bool:=Float64.cmp x y==some .lt
noncomputable def sN (x y:UInt64):UInt64:=if d6 x y then y else x
noncomputable def sr (x y:UInt64):UInt64:=if d6 y x then y else x
theorem oA {A:Around} {a b c:Value} {E:Value->Shared->Prop} {op:CmpOp} {bt:Nat->Nat->Bool} {Q:Value->Shared->Prop} (hh:A.handled=none) (hc:CmpOf C.prog C.w A.in1 op (fun i v=>(#[a,b,c]:Array Value)[i]?=some v) bt)
 (h:∀ h' tk v,(#[a,b,c]:Array Value)[argBest bt 2]?=some v->(∀ b o,s.heap.get? b=some o->h'.get? b=some o)->Q v { s with heap:=h',toks:=tk }) :
 wpAny (model C.prog C.w) A.in1 (pyIter (.ref s.heap.objs.size)) (fun it s₂=>∃ I fp wr n P St bt,it=.ref I/\Walks C.prog C.w A.in1 I fp wr n P St/\St 0 s₂.heap/\(∀ b∈fp,b<s₂.heap.objs.size)/\0<n/\CmpOf C.prog C.w A.in1 op P bt /\
  ∀ v h' tk,P (argBest bt (n - 1)) v->(∀ b o,b∉wr->s₂.heap.get? b=some o->h'.get? b=some o)->Q v { s₂ with heap:=h',toks:=tk }) E
  { s with heap:=s.heap.push { cls:=.type "tuple",data:=.seq #[a,b,c] } }:=by
 have hT:(s.heap.push { cls:=.type "tuple",data:=.seq #[a,b,c] }).IsTuple s.heap.objs.size #[a,b,c]:=⟨_,Heap.get?_push_size _ rfl,rfl,0,rfl⟩
 have hsz:(s.heap.push { cls:=.type "tuple",data:=.seq #[a,b,c] }).objs.size=s.heap.objs.size+1:=Heap.size_push ..
 refine wpAny_pyIter_tuple hT ⟨_,[_,s.heap.objs.size],[_],_,_,_,bt,rfl,Walks.tuple (A:=A.in1) hh _ s.heap.objs.size (by rw [hsz];exact Nat.ne_of_lt (Nat.lt_succ_self _)) #[a,b,c],
  ⟨⟨_,Heap.get?_push_size _ rfl,rfl,rfl⟩,hT.push _⟩,fun c hc=>?_,by exact size_pos_of_not_empty rfl,hc,fun v h' tk hP hk=>h h' tk v hP fun c o e=>?_⟩
 ·show c<((s.heap.push _).push _).objs.size
  rw [Heap.size_push,hsz]
  rcases List.mem_cons.mp hc with rfl | hc
  ·rw [hsz];exact Nat.lt_succ_self _
  ·rcases List.mem_cons.mp hc with rfl | hc
   ·exact Nat.lt_succ_of_lt (Nat.lt_succ_self _)
   ·cases hc
 ·refine hk c o (fun hm=>?_) (Heap.get?_push_of_some _ (Heap.get?_push_of_some _ e))
  rcases List.mem_cons.mp hm with e1 | hm
  ·have:=Heap.lt_size e;rw [e1,hsz] at this;exact Nat.lt_irrefl _ (Nat.lt_of_succ_lt this)
  ·cases hm
theorem uv {x y z:UInt64}:FnOk C k (.builtin "max") [.flt x,.flt y,.flt z] σ (.flt (sN (sN x y) z)) σ:=by
 intro A X s as rm S r Q E hQ
 obtain ⟨p,q,rfl,r1,r2⟩:=r.inv_cons
 obtain ⟨p2,q,rfl,r3,r4⟩:=r2.inv_cons
 obtain ⟨p3,q,rfl,r5,r6⟩:=r4.inv_cons
 rw [r6.inv_nil]
 obtain ⟨t,rfl⟩:=r1
 obtain ⟨u,rfl⟩:=r3
 obtain ⟨v,rfl⟩:=r5
 have hnum:∀ w∈(#[.float x t,.float y u,.float z v]:Array Value),NumV w:=by simp [NumV.float]
 refine cA (call_max_three ?_)
 refine oA (C:=C) (s:=s) (Q:=fun v s'=>s.heap.objs.size<=s'.heap.objs.size->Q v s') rm.handled (cmpOf_gt _ hnum) fun h' tk w hw hk=>?_
 intro hs
 obtain ⟨S',e⟩:=S.kept tk hk hs
 refine hQ _ X _ S' e ?_
 simp only [argBest] at hw
 have e1:ltV (.float x t) (.float y u)=d6 x y:=rfl
 have e2:ltV (.float x t) (.float z v)=d6 x z:=rfl
 have e3:ltV (.float y u) (.float z v)=d6 y z:=rfl
 simp only [Array.getD_eq_getD_getElem?] at hw
 simp at hw
 rw [e1] at hw
 unfold sN
 by_cases h1:d6 x y=true
 ·rw [if_pos h1] at hw ⊢
  simp only [List.getElem?_cons_succ,List.getElem?_cons_zero,Option.getD_some,e3] at hw
  by_cases h2:d6 y z=true
  ·rw [if_pos h2] at hw ⊢;simp at hw;subst hw;exact ⟨_,rfl⟩
  ·rw [if_neg h2] at hw ⊢;simp at hw;subst hw;exact ⟨_,rfl⟩
 ·rw [if_neg h1] at hw ⊢
  simp only [List.getElem?_cons_succ,List.getElem?_cons_zero,Option.getD_some,e2] at hw
  by_cases h2:d6 x z=true
  ·rw [if_pos h2] at hw ⊢;simp at hw;subst hw;exact ⟨_,rfl⟩
  ·rw [if_neg h2] at hw ⊢;simp at hw;subst hw;exact ⟨_,rfl⟩
theorem uR {x y z:UInt64}:FnOk C k (.builtin "min") [.flt x,.flt y,.flt z] σ (.flt (sr (sr x y) z)) σ:=by
 intro A X s as rm S r Q E hQ
 obtain ⟨p,q,rfl,r1,r2⟩:=r.inv_cons
 obtain ⟨p2,q,rfl,r3,r4⟩:=r2.inv_cons
 obtain ⟨p3,q,rfl,r5,r6⟩:=r4.inv_cons
 rw [r6.inv_nil]
 obtain ⟨t,rfl⟩:=r1
 obtain ⟨u,rfl⟩:=r3
 obtain ⟨v,rfl⟩:=r5
 have hnum:∀ w∈(#[.float x t,.float y u,.float z v]:Array Value),NumV w:=by simp [NumV.float]
 refine cA (call_min_three ?_)
 refine oA (C:=C) (s:=s) (Q:=fun v s'=>s.heap.objs.size<=s'.heap.objs.size->Q v s') rm.handled (cmpOf_lt _ hnum) fun h' tk w hw hk=>?_
 intro hs
 obtain ⟨S',e⟩:=S.kept tk hk hs
 refine hQ _ X _ S' e ?_
 simp only [argBest] at hw
 have e1:ltV (.float y u) (.float x t)=d6 y x:=rfl
 have e2:ltV (.float z v) (.float x t)=d6 z x:=rfl
 have e3:ltV (.float z v) (.float y u)=d6 z y:=rfl
 simp only [Array.getD_eq_getD_getElem?] at hw
 simp at hw
 rw [e1] at hw
 unfold sr
 by_cases h1:d6 y x=true
 ·rw [if_pos h1] at hw ⊢
  simp only [List.getElem?_cons_succ,List.getElem?_cons_zero,Option.getD_some,e3] at hw
  by_cases h2:d6 z y=true
  ·rw [if_pos h2] at hw ⊢;simp at hw;subst hw;exact ⟨_,rfl⟩
  ·rw [if_neg h2] at hw ⊢;simp at hw;subst hw;exact ⟨_,rfl⟩
 ·rw [if_neg h1] at hw ⊢
  simp only [List.getElem?_cons_succ,List.getElem?_cons_zero,Option.getD_some,e2] at hw
  by_cases h2:d6 z x=true
  ·rw [if_pos h2] at hw ⊢;simp at hw;subst hw;exact ⟨_,rfl⟩
  ·rw [if_neg h2] at hw ⊢;simp at hw;subst hw;exact ⟨_,rfl⟩
theorem Cu {x:UInt64} {sg:Bool} {m:Nat} {e:Int} (hd:Float64.decode x=.fin sg m e):FnOk C k (.type "int") [.flt x] σ (.int (Float64.truncOf sg m e)) σ:=uQ fun A s r Q E rm ⟨X,n,h,hr⟩ hq=>by
 obtain ⟨t,rfl⟩:=hr
 exact call_int_float hd (hq _ _ fun _ _ _=>⟨_,rfl⟩)
theorem aW {a:Int}:FnOk C k (.type "range") [.int a] σ (.rng 0 a) σ:=by
 intro A X s as rm S r Q E hQ
 obtain ⟨p,q,rfl,r1,r2⟩:=r.inv_cons
 rw [r2.inv_nil]
 obtain ⟨t,rfl⟩:=r1
 refine call_range_1 ?_
 obtain ⟨S',e⟩:=S.grow (Grow.pusht (s:=s) { cls:=.type "range",data:=.fields #[.int 0 s.toks,.int a t,.int 1 (s.toks+1)] } (s.toks+1+1)) (fun b=>b=s.heap.objs.size) (by rintro b rfl;exact ⟨Nat.le_refl _,_,Heap.get?_push_size _ rfl⟩)
 refine hQ _ _ _ S' e ?_
 exact ⟨_,_,_,_,rfl,.inr rfl,Heap.get?_push_size _ rfl⟩
theorem iK {vs us:List V} (hl:vs.length+us.length<=sizeLine):Op2 C k (binaryOp .Add) (.list vs) (.list us) σ (.list (vs++us)) σ:=by
 intro A X s a b rm S r1 r2 Q E hQ
 obtain ⟨p,items,kk,rfl,z,g,q1⟩:=r1
 obtain ⟨p2,items2,kk2,rfl,z2,g2,q2⟩:=r2
 have hn1:items.size=vs.length:=by rw [<-Array.length_toList,q1.length]
 have hn2:items2.size=us.length:=by rw [<-Array.length_toList,q2.length]
 refine concat_meets ⟨_,g,rfl⟩ ⟨_,g2,rfl⟩ noFill_list_add seq_list_add PySem.F.slot_list_add PySem.F.entry_list_add (PySem.F.args_list_add_2 _ _) (list_addW p p2 items items2 kk kk2 none none #[] #[] (by rw [hn1,hn2];exact hl)) ⟨g,g2,?_⟩
 obtain ⟨S',e⟩:=S.grow (Grow.push (dD (items++items2) 0)) (fun b=>b=s.heap.objs.size) (by rintro b rfl;exact ⟨Nat.le_refl _,_,Heap.get?_push_size _ rfl⟩)
 refine hQ _ _ _ S' e ?_
 exact ⟨_,_,_,rfl,.inr rfl,Heap.get?_push_size _ rfl,by simpa using e.rels S (fun _ h=>h.elim) (q1.app q2)⟩
end
end
section
open PySem PyProof.Rows PySem.SeqAt PySem.Flt
section
variable {C:Cx} {k:Nat} {σ:Sto} {X:Wld} {s:Shared} {n0:Nat}
noncomputable def bX {α:Type} (x:List α) (lo hi st:Option Int):List α :=
 (sliceRange (sliceBounds lo hi st x.length).1 (sliceBounds lo hi st x.length).2.1 (sliceBounds lo hi st x.length).2.2).filterMap (x[·]?)
theorem rU {h:Heap} {vs:List V} {as:List Value} (r:VsRel C X n0 h vs as):∀ js:List Nat,VsRel C X n0 h (js.filterMap (vs[·]?)) (js.filterMap (as[·]?))
 | []=>.nil
 | j::js=>by
   have ih:=rU r js
   cases hv:vs[j]? with
   | none =>
     have:as[j]?=none:=by rw [List.getElem?_eq_none_iff] at hv ⊢;rw [r.length];exact hv
     simpa [hv,this] using ih
   | some v =>
     obtain ⟨a,ha,ra⟩:=r.get j hv
     simpa [hv,ha] using VsRel.cons ra ih
theorem sk {vs:List V} {lo hi st:Option Int} {r:List V} (h0:st≠some 0) (hr:bX vs lo hi st=r) (hl:vs.length<=sizeLine):ij C k (.list vs) lo hi st σ (.list r):=by
 intro A X s p sl vl vu vk rm S r1 hs pl pu ps Q E hQ
 obtain ⟨p,items,kk,rfl,z,g,q⟩:=r1
 have hn:items.size=vs.length:=by rw [<-Array.length_toList,q.length]
 refine wpAny_getItem_list_slice (hsz:=by rw [hn];exact hl) ⟨_,g,rfl,kk,rfl⟩ hs pl pu ps h0 ?_
 obtain ⟨S',e⟩:=S.grow (Grow.push (dD (slicePick items lo hi st) 0)) (fun b=>b=s.heap.objs.size) (by rintro b rfl;exact ⟨Nat.le_refl _,_,Heap.get?_push_size _ rfl⟩)
 refine hQ _ _ _ S' e ?_
 refine ⟨_,_,_,rfl,.inr rfl,Heap.get?_push_size _ rfl,e.rels S (fun _ h=>h.elim) ?_⟩
 subst hr
 delta slicePick bX
 rw [hn]
 simpa using rU q _
theorem wb {α β:Type} (f:α->β) (x:List α) (lo hi st:Option Int):bX (x.map f) lo hi st=(bX x lo hi st).map f:=by
 unfold bX
 rw [List.length_map,List.map_filterMap]
 congr 1
 funext j
 exact List.getElem?_map
theorem mC {l:List Int} {lo hi st:Option Int} (h0:st≠some 0) (hl:l.length<=sizeLine):ij C k (.list (zs l)) lo hi st σ (.list (zs (bX l lo hi st))) :=
 sk h0 (wb _ _ _ _ _) (by simpa [zs] using hl)
theorem wB {vs:List V} {name:Nm} {id:String} (slot:Slot "list" (ao name) id) (hty:typeOf (.builtin id)=pure (.type "method_descriptor")):vq C (.list vs) σ name (.builtin id):=by
 intro A X s a pl S r Q E hQ
 obtain ⟨p,items,kk,rfl,z,g,q⟩:=r
 exact getMethod_builtin ⟨_,g,rfl⟩ PySem.F.plainAttrs_list slot hty (fun a e=>by cases e;exact ⟨_,g,rfl⟩) hQ
theorem yE {l:List Int} {i:Int} (hi:i∈l) (hl:l.length<1000):FnOk C k (.builtin "list.index") [.list (zs l),.int i] σ (.int (l.idxOf i:Nat)) σ:=by
 intro A X s as rm S r Q E hQ
 obtain ⟨a,q,rfl,r1,r2⟩:=r.inv_cons
 obtain ⟨b,q,rfl,r3,r4⟩:=r2.inv_cons
 rw [r4.inv_nil]
 obtain ⟨p,items,kk,rfl,z,g,rr⟩:=r1
 obtain ⟨t,rfl⟩:=r3
 have hI:=sZ rr
 have hlen:=hI.length
 have hj:l.idxOf i<l.length:=List.idxOf_lt_length_iff.mpr hi
 obtain ⟨S',e⟩:=eD S (s.toks+1)
 refine call_meets PySem.F.slot_list_index ⟨_,g,rfl⟩ PySem.F.entry_list_index (PySem.F.args_list_index_2 _ _)
  (list_indexAt p items kk none #[] (.int i t) (isInt i) (l.idxOf i) (by rw [<-Array.length_toList,hlen];exact hj) (by lia -abstractProof) ?_ ?_) ⟨g,fun y hy=>(eq_isInt i t hI y (by exact Array.Mem.val hy)).at _ _,hQ _ X _ S' e ⟨_,rfl⟩⟩
 ·have:=isInt_at i hI (l.idxOf i) (by exact Nat.lt_of_lt_of_eq hj (id (Eq.symm hlen))) hj
  simp only [Array.getElem_toList] at this
  rw [this]
  simpa using List.getElem_idxOf hj
 ·intro j hjs hlt
  have:=isInt_at i hI j (by omega) (by exact Nat.lt_trans hlt hj)
  simp only [Array.getElem_toList] at this
  rw [this]
  exact ne_of_lt_idxOf hlt _
theorem AJ {vs:List V}:FnOk C k (.builtin "iter") [.list vs] σ (.loc σ.next) (σ.new (.liter vs)):=by
 intro A X s as rm S r Q E hQ
 obtain ⟨a,q,rfl,r1,r2⟩:=r.inv_cons
 rw [r2.inv_nil]
 obtain ⟨p,items,kk,rfl,z,g,rr⟩:=r1
 refine Calls.call_function_entry (by rfl) (by rfl) PySem.W.kdk_entry_iter (PySem.W.kdk_args_iter _) ?_
 unfold Builtin.«iter»
 refine wpAny_bind (m:=someArgs "iter" 1 2 _) (wpAny_of_eq (a:=[Value.ref p]) (by first | rfl | kernel_rfl) ?_)
 show wpAny _ _ (pyIter (.ref p) >>= _) _ _ _
 refine wpAny_bind (wpAny_pyIter_list ⟨_,g,rfl,kk,rfl⟩ ?_)
 refine wpAny_pure ⟨_,rfl,?_⟩
 have hφ:(X.add σ.next s.heap.objs.size 0 (fun _=>False)).φ σ.next=s.heap.objs.size:=by simp [Wld.add]
 have hg:(s.heap.push { cls:=.type "list_iterator",data:=.fields #[.ref p,.int 0 0] }).get? s.heap.objs.size=some { cls:=.type "list_iterator",data:=.fields #[.ref p,.int 0 0] }:=Heap.get?_push_size _ rfl
 obtain ⟨S',e⟩:=S.newO (o:=.liter vs) (Grow.push { cls:=.type "list_iterator",data:=.fields #[.ref p,.int 0 0] }) s.heap.objs.size 0 (fun _=>False) (fun _ h=>h.elim)
  (fun c m=>by
    simp only [foot,List.mem_singleton] at m
    rw [hφ] at m
    subst m
    exact ⟨Nat.le_refl _,⟨_,hg⟩,fun h=>h⟩)
  ⟨p,0,items,kk,by rw [hφ];exact ⟨_,hg,rfl,rfl⟩,.inl z,Heap.get?_push_of_some _ g,by
    rw [List.drop_zero]
    exact rr.mono (X':=X.add σ.next s.heap.objs.size 0 (fun _=>False)) (fun b o _ e=>Heap.get?_push_of_some _ e) (fun _ z=>.inl z) (Nat.le_succ _) fun l hl=>by simp [Wld.add,Nat.ne_of_lt hl],Nat.zero_le _⟩
 refine hQ _ _ _ S' e ?_
 dsimp only [Sto.new]
 exact ⟨Nat.lt_succ_self _,by rw [hφ]⟩
end
end
section
open PySem PyProof.Rows PySem.SeqAt PySem.Flt
section
variable {C:Cx} {k:Nat} {σ:Sto} {X:Wld} {s:Shared} {n0:Nat}
theorem qe {A:Around} {E:Value->Shared->Prop} {it l:Addr} {i:Nat} {items} {x:Value} {Q:Option Value->Shared->Prop} (hit:s.heap.IsListIter it l i)
 (hl:s.heap.IsList l items) (hx:items[i]?=some x)
 (hQ:∀ h',h'.IsListIter it l (i+1)->Heap.SameBut it s.heap h'->Q (some x) { s with heap:=h' }) :
 wpAny (model C.prog C.w) A (callSpecial? (.ref it) (Str.ofString "__next__")) Q E s:=by
 refine via fun _ g0=>?_
 obtain ⟨o,ho,hc,hd⟩:=id hit
 obtain ⟨ol,hol,_,nl,hdl⟩:=hl
 refine g0 ?_
 refine wpAny_callSpecial?_slot (name:=Str.ofString "__next__") hit.typeIs slot_listiter_next
  (wpAny_call_entry slot_listiter_next hit.typeIs entry_listiter_next ?_ (args_listiter_next _))
 show wpAny _ _ (field (.ref it) 0 >>= _) _ _ s
 refine wpAny_bind (wpAny_field ho hd (x:=.ref l) rfl ?_)
 show wpAny _ _ (if (Value.ref l==Value.none)=true then _ else _) _ _ s
 rw [if_neg (show ¬ ((Value.ref l==Value.none)=true) from Bool.false_ne_true)]
 show wpAny _ _ (field (.ref it) 1 >>= _) _ _ s
 refine wpAny_bind (wpAny_field ho hd (x:=.int i 0) rfl ?_)
 show wpAny _ _ (seqItems? (.ref l) >>= _) _ _ s
 refine wpAny_bind (wpAny_seqItems hol hdl ?_)
 simp only [Int.toNat_natCast,hx]
 refine wpAny_bind (wpAny_setField ho hd (by simp) (wpAny_pure ⟨x,rfl,hQ _ ?_ (Heap.SameBut.update ..)⟩))
 exact ⟨_,Heap.get?_update_self _ ho (Obj.isFreed_of_fields (Obj.data_mapFields hd _)),(Obj.cls_mapFields ..).trans hc,by
  rw [Obj.data_mapFields hd];rfl⟩
theorem SRel.turnIter {X:Wld} {s:Shared} {l:Nat} {vs us:List V} {h':Heap} {tk:Nat} {p:Addr} {i:Nat} {items:Array Value} {kk:Nat} (S:SRel C σ X s) (hl:σ.get l=some (.liter vs)) (hs:Heap.SameBut (X.φ l) s.heap h') (z:X.Z p)
 (hi:h'.IsListIter (X.φ l) p i) (g:s.heap.get? p=some (dD items kk)) (hr:VsRel C X σ.next s.heap us (items.toList.drop i)) (hsz:i<=items.size) :
 SRel C (σ.set l (.liter us)) X { s with heap:=h',toks:=tk }/\Evo C NoP σ X s (σ.set l (.liter us)) X { s with heap:=h',toks:=tk }:=by
 have nz:¬ X.Z (X.φ l):=S.zw _ (.inr ⟨l,_,hl,by simp [foot]⟩)
 have kz:∀ b o,X.Z b->s.heap.get? b=some o->h'.get? b=some o:=fun b o z e=>(hs.2 b (fun q=>nz (q▸z))).trans e
 obtain ⟨o',ho',_⟩:=id hi
 refine S.setO (o':=.liter us) hl rfl (fun b ob nb e=>(hs.2 b (by exact List.ne_of_not_mem_cons nb)).trans e) (fun b m=>by simp only [foot,List.mem_singleton] at m;subst m;exact ⟨_,ho'⟩) (Nat.le_of_eq hs.1.symm) rfl rfl ?_
 exact ⟨p,i,items,kk,hi,z,kz _ _ z g,hr.mono kz (fun _ z=>z) (Nat.le_refl _) fun _ _=>rfl,hsz⟩
theorem uy {l:Nat} {v:V} {vs:List V} (hl:σ.get l=some (.liter (v::vs))):FnOk C k (.builtin "next") [.loc l] σ v (σ.set l (.liter vs)):=by
 intro A X s as rm S r Q E hQ
 obtain ⟨a,q,rfl,r1,r2⟩:=r.inv_cons
 rw [r2.inv_nil]
 obtain ⟨_,rfl⟩:=r1
 obtain ⟨p,i,items,kk,hit,z,g,rr,hsz⟩:=S.obj l _ hl
 obtain ⟨x,q,ex,rx,rq⟩:=rr.inv_cons
 have hx:items[i]?=some x:=by
  rw [<-Array.getElem?_toList]
  have:(items.toList.drop i)[0]?=some x:=by rw [ex];rfl
  simpa using this
 refine Calls.call_function_entry (by rfl) (by rfl) PySem.W.kdk_entry_next (PySem.W.kdk_args_next _) ?_
 unfold Builtin.«next»
 refine wpAny_bind (m:=someArgs "next" 1 2 _) (wpAny_of_eq (a:=[Value.ref (X.φ l)]) (by first | rfl | kernel_rfl) ?_)
 dsimp only
 refine wpAny_bind (wpAny_specialOf (name:=Str.ofString "__next__") hit.typeIs slot_listiter_next.lookup ?_)
 refine wpAny_ite_split (fun hab=>absurd hab (by decide)) (fun _=>?_)
 refine wpAny_bind (qe hit ⟨_,g,rfl,kk,rfl⟩ hx fun h' hit' hs=>?_)
 have hlt:i<items.size:=(Array.getElem?_eq_some_iff.mp hx).1
 obtain ⟨S',e⟩:=S.turnIter (tk:=s.toks) (us:=vs) (i:=i+1) hl hs z hit' g (by
  have:items.toList.drop (i+1)=q:=by
   have e2:=congrArg (List.drop 1) ex
   simpa [List.drop_drop] using e2
  rw [this];exact rq) (by assumption)
 exact wpAny_pure ⟨_,rfl,hQ _ X _ S' e (e.rel S (fun _ h=>h.elim) rx)⟩
end
end
section
open PySem PyProof.Rows PySem.SeqAt PySem.Flt
set_option maxRecDepth 100000
section
variable {C:Cx} {k:Nat} {σ:Sto} {X:Wld} {s:Shared} {n0:Nat}
theorem shift {prog:Program} {w:World} {A:Around} {I:Addr} {fp wr:List Addr} {G:Array GenState->Array GenState->Prop} {n:Nat} {P:Nat->Value->Prop} {St:Nat->Shared->Prop} (W:WalksS prog w A I fp wr G n P St) (i:Nat) (hi:i<=n) :
 WalksS prog w A I fp wr G (n - i) (fun j=>P (i+j)) (fun j=>St (i+j)) where
 sub:=W.sub
 grefl:=W.grefl
 gtrans:=W.gtrans
 frame:=fun j=>W.frame (i+j)
 item:=fun j s Q E hj hs hQ=>W.item (i+j) s Q E (by exact Nat.add_lt_of_lt_sub' hj) hs hQ
 done:=fun s Q E hs hQ=>W.done s Q E ((show i+(n - i)=n by exact Nat.add_sub_of_le hi)▸hs) hQ
 self:=fun j=>W.self (i+j)
theorem vn {A:Around} {I:Addr} {fp wr:List Addr} {G:Array GenState->Array GenState->Prop} {n:Nat} {P:Nat->Value->Prop} {St:Nat->Shared->Prop} {R:Result->Shared->Prop} (W:WalksS C.prog C.w A.in1 I fp wr G n P St) (hT:∀ i s,St i s->s.TypeIs (.ref I) "list_iterator") (S:Addr) (res:Value) (c₀:Nat) (hst:St 0 s) (hSf:S∉fp) (hI:I∈fp)
 (hS:s.heap.get? S=some { cls:=.type "list",data:=.seq #[] c₀ })
 (hR:∀ s' acc' c',Moved (S::wr) G s s'->s'.heap.get? S=some { cls:=.type "list",dict:=none,data:=.seq acc' c',slots:=#[] }->ItemsOf P acc' n->R (.ok (.ret res)) s') (hn:n<=sizeLine) :
 wpAny (model C.prog C.w) A.in1 (Builtin.List.listExtendWith (.ref S) (.ref I) res)
  (fun fin s'=>match fin with | .done f=>R (.ok f) s' | .again c'=>c'.quiet=true/\codeAny (model C.prog C.w) A c' R s') (fun e s'=>R (.error e) s') s:=by
 have hSI:S≠I:=fun e=>hSf (e▸hI)
 unfold Builtin.List.listExtendWith
 refine wpAny_bind (wpAny_typeOf (hT 0 _ hst) ?_)
 have h1:Builtin.List.listSameRef (.ref S) (.ref I)=false:=by simp [Builtin.List.listSameRef,hSI]
 rw [if_neg (by rw [h1];decide)]
 refine wpAny_bind (W.self 0 _ _ _ hst ?_)
 refine wpAny_bind (wpAny_holding ?_)
 unfold Builtin.List.listLengthHint
 refine wpAny_bind (wpAny_specialOf (hT 0 _ hst) PySem.F.nolen_li ?_)
 show wpAny _ A.in1 (specialOf (Value.ref I) (Str.ofString "__length_hint__") >>= _) _ _ _
 refine wpAny_bind (wpAny_specialOf (hT 0 _ hst) PySem.F.hint_li ?_)
 (generalize hid:("list_iterator.__length_hint__" : String)=id0;(fail_if_success (clear hid id0));wp_delta;rw [show splitId id0=some ("list_iterator", "__length_hint__") from by subst hid;rfl];subst hid)
 refine wpAny_bind (wpAny_isInstance (b:=true) (hT 0 _ hst) (by rw [isSubtype_type];kernel_rfl) ?_)
 refine wpAny_pure ?_
 rw [if_neg (by decide)]
 exact wpAny_pure ⟨plainId_quiet PySem.F.plain_extend_loop _,codeAny_extend_loopS W hn _ hSf _ n 0 _ _ _ rfl (Nat.zero_le _) hst hS (ItemsOf.nil P) hR⟩
theorem qc {A:Around} {E:Value->Shared->Prop} {I:Addr} {fp wr:List Addr} {G:Array GenState->Array GenState->Prop} {n:Nat} {P:Nat->Value->Prop} {St:Nat->Shared->Prop} {Q:Value->Shared->Prop} (W:WalksS C.prog C.w A.in1.in1 I fp wr G n P St) (hT:∀ i s,St i s->s.TypeIs (.ref I) "list_iterator") (hst:St 0 s) (hfp:∀ b∈fp,b<s.heap.objs.size) (hI:I∈fp)
 (hQ:∀ s' acc' c',Moved (s.heap.objs.size::wr) G { s with heap:=s.heap.push { cls:=.type "list",data:=.seq #[] } } s' ->
   s'.heap.get? s.heap.objs.size=some { cls:=.type "list",dict:=none,data:=.seq acc' c',slots:=#[] }->ItemsOf P acc' n->Q (.ref s.heap.objs.size) s') (hn:n<=sizeLine) :
 wpAny (model C.prog C.w) A (call (.type "list") [.ref I]) Q E s:=by
 have hSf:s.heap.objs.size∉fp:=fun hm=>Nat.lt_irrefl _ (hfp _ hm)
 refine callType_codes (Q₁:=fun obj s₁=>obj=.ref s.heap.objs.size/\s₁={ s with heap:=s.heap.push { cls:=.type "list",data:=.seq #[] } }) PySem.F.called_list (PySem.F.typeCall_list_1 _) PySem.F.entry_list_init
  (code_list_new _ ⟨rfl,rfl⟩) fun obj s₁ h₁=>?_
 obtain ⟨rfl,rfl⟩:=h₁
 have hS:(s.heap.push { cls:=.type "list",data:=.seq #[] }).get? s.heap.objs.size=some { cls:=.type "list",data:=.seq #[] }:=Heap.get?_push_size _ rfl
 have hst':=W.frame 0 s (s.heap.push { cls:=.type "list",data:=.seq #[] }) s.toks hst (Nat.le_refl _) fun b _ o e=>Heap.get?_push_of_some _ e
 refine ⟨⟨_,hS,rfl⟩,PySem.F.args_list_init_2 _ _,?_⟩
 show wpAny _ A.in1.in1 (do let old <-Builtin.List.listItems (.ref s.heap.objs.size);Builtin.List.listUpdate (.ref s.heap.objs.size) (fun _=>#[]);letGo old.toList.reverse;Builtin.List.listExtendWith (.ref s.heap.objs.size) (.ref I) .none) _ _ _
 refine wpAny_bind ?_
 unfold Builtin.List.listItems
 refine wpAny_bind (wpAny_seqItems hS rfl (wpAny_pure ?_))
 show wpAny _ A.in1.in1 (updateSeq s.heap.objs.size (fun _=>#[]) >>= fun _=>letGo (#[]:Array Value).toList.reverse >>= fun _=>Builtin.List.listExtendWith (.ref s.heap.objs.size) (.ref I) .none) _ _ _
 refine wpAny_bind (wpAny_updateSeq hS rfl ?_)
 have hS₂:=Heap.get?_update_self (Obj.mapSeq (fun _=>(#[]:Array Value))) hS rfl
 have oth:∀ b o,b≠s.heap.objs.size->(s.heap.push { cls:=.type "list",data:=.seq #[] }).get? b=some o->((s.heap.push { cls:=.type "list",data:=.seq #[] }).update s.heap.objs.size (Obj.mapSeq (fun _=>(#[]:Array Value)))).get? b=some o :=
  fun b o hb e=>(Heap.get?_update_other _ _ (Ne.symm hb)).trans e
 refine wpAny_bind (wpAny_letGo ?_)
 refine vn (A:=A.in1) W hT s.heap.objs.size .none _ (W.frame 0 _ _ s.toks hst' (Nat.le_refl _) fun b hb o e=>oth b o (fun h=>hSf (h▸hb)) e) hSf hI hS₂ (fun s' acc' c' hm hS' hacc=>?_) hn
 exact ⟨rfl,hQ s' acc' c' (Moved.trans W.gtrans ((Moved.refl W.grefl).then_heap (Nat.le_refl _) fun b o hb e=>oth b o (fun h=>hb (h▸List.mem_cons_self)) e) hm) hS' hacc⟩
theorem kF {l l':Nat} {o:O} (e:(σ.del l).get l'=some o):σ.get l'=some o/\l'≠l:=by
 simp only [Sto.del] at e
 split at e
 ·cases e
 ·exact ⟨e,by assumption⟩
theorem SRel.gone {X:Wld} {s s':Shared} {l:Nat} {o:O} (S:SRel C σ X s) (hl:σ.get l=some o) (ht:C.tab∉foot X l o) (keep:∀ b ob,b∉foot X l o->s.heap.get? b=some ob->s'.heap.get? b=some ob)
 (size:s.heap.objs.size<=s'.heap.objs.size) (os:s'.os=s.os) (gens:s'.gens=s.gens) (N:Addr->Prop) (hN:∀ b,N b->s.heap.objs.size<=b/\∃ o,s'.heap.get? b=some o) :
 SRel C (σ.del l) (X.more N) s'/\Evo C NoP σ X s (σ.del l) (X.more N) s':=by
 have wl:∀ b∈foot X l o,Wr C σ X b:=fun b m=>.inr ⟨l,o,hl,m⟩
 have kz:∀ b ob,X.Z b->s.heap.get? b=some ob->s'.heap.get? b=some ob:=fun b ob z e=>keep b ob (fun m=>S.zw b (wl b m) z) e
 have wr:∀ b,Wr C (σ.del l) (X.more N) b->Wr C σ X b/\b∉foot X l o:=fun b w=>by
  rcases Wr_more.mp w with w | ⟨l',o',e,m⟩
  ·exact ⟨.inl w,fun m=>ht (w▸m)⟩
  ·obtain ⟨e,hne⟩:=kF e
   exact ⟨.inr ⟨l',o',e,m⟩,fun m'=>hne (S.apart l' l o' o b e hl m m')⟩
 have kw:∀ b ob,Wr C (σ.del l) (X.more N) b->s.heap.get? b=some ob->s'.heap.get? b=some ob:=fun b ob w e=>keep b ob (wr b w).2 e
 refine ⟨⟨fun b ob e n=>kz _ _ (S.zb b ob e n) (S.base b ob e n),(S.tab.imp fun ps t=>⟨kw _ _ (.inl rfl) t.1,t.2.mono kz fun _ z=>.inl z⟩),fun b ob e n=>.inl (S.zb b ob e n),fun b z=>z.elim (fun z=>(S.zl b z).imp fun ob e=>kz _ _ z e) fun n=>(hN b n).2,
  os.trans S.os,gens.trans S.gens,fun l' o' e=>S.lt l' o' (kF e).1,fun l' o' e=>?_,fun l1 l2 o1 o2 b e e' m m'=>S.apart l1 l2 o1 o2 b (kF e).1 (kF e').1 (by cases o1<;>exact m) (by cases o2<;>exact m'),fun b w z=>?_,fun b w=>(S.wl b (wr b w).1).imp fun ob e=>kw _ _ w e⟩,
  ⟨size,fun b ob e nw _=>keep b ob (fun m=>nw (wl b m)) e,fun b z=>.inl z,fun b z=>z.imp id fun n=>.inl (hN b n).1,fun b w=>.inl (wr b w).1,Nat.le_refl _,fun _ _=>⟨rfl,rfl,rfl⟩⟩⟩
 ·obtain ⟨e,hne⟩:=kF e
  refine (S.obj l' o' e).mono kz (fun b ob m g=>keep b ob (fun m'=>hne (S.apart l' l o' o b e hl m m')) g) (fun b z=>.inl z) (Nat.le_refl _) (fun _ _=>⟨rfl,rfl,rfl⟩) (S.lt l' o' e)
 ·rcases z with z | n
  ·exact S.zw b (wr b w).1 z
  ·obtain ⟨ob,e⟩:=S.wl b (wr b w).1
   exact Nat.lt_irrefl _ (Nat.lt_of_lt_of_le (Heap.lt_size e) (hN b n).1)
theorem no {P:Nat->Value->Prop} {h:Heap} {vs:List V}:∀ {acc:List Value},acc.length=vs.length->(∀ (j:Nat) (a:Value),acc[j]?=some a->∃ u:V,vs[j]?=some u/\VRel C X n0 h u a)->VsRel C X n0 h vs acc:=by
 induction vs with
 | nil=>intro acc e _;rw [List.eq_nil_of_length_eq_zero e];exact .nil
 | cons v vs ih =>
   intro acc e f
   obtain ⟨a,acc,rfl,e2⟩:=qY e
   obtain ⟨u,e1,r⟩:=f 0 a rfl
   exact .cons (Option.some.inj e1▸r) (ih e2 fun j b hb=>f (j+1) b hb)
theorem q8 {l:Nat} {vs:List V} (hl:σ.get l=some (.liter vs)) (hz:vs.length<=sizeLine):FnOk C k (.type "list") [.loc l] σ (.list vs) (σ.del l):=by
 intro A X s as rm S r Q E hQ
 obtain ⟨a,q,rfl,r1,r2⟩:=r.inv_cons
 rw [r2.inv_nil]
 obtain ⟨_,rfl⟩:=r1
 obtain ⟨p,i,items,kk,hit,z,g,rr,hsz⟩:=S.obj l _ hl
 have hl':s.heap.IsList p items:=⟨_,g,rfl,kk,rfl⟩
 have hne:p≠X.φ l:=fun e=>S.zw _ (.inr ⟨l,_,hl,by simp [foot]⟩) (e▸z)
 have hlen:items.size - i=vs.length:=by rw [<-rr.length];simp
 have W:=shift (Walks.list (prog:=C.prog) (w:=C.w) (A:=A.in1.in1) rm.handled (X.φ l) p hne items).toS i hsz
 obtain ⟨oi,hoi,hci,hdi⟩:=id hit
 refine cA (qc W (fun j s st=>st.1.typeIs) ⟨hit,hl'⟩ (fun b hb=>?_) (by exact List.mem_cons_self) (fun s' acc' c' hm hS' hacc hs=>?_) (by rw [hlen];exact hz))
 ·simp only [List.mem_cons,List.not_mem_nil,or_false] at hb
  rcases hb with rfl | rfl
  ·exact Heap.lt_size hoi
  ·exact Heap.lt_size g
 ·have keep:∀ b ob,b∉foot X l (.liter vs)->s.heap.get? b=some ob->s'.heap.get? b=some ob:=fun b ob nb e=>hm.heap b ob (fun hmem=>by
   simp only [List.mem_cons,List.not_mem_nil,or_false] at hmem
   rcases hmem with q | q
   ·exact Nat.lt_irrefl _ (q▸Heap.lt_size e)
   ·exact nb (by simp [foot,q])) (Heap.get?_push_of_some _ e)
  have ht:C.tab∉foot X l (.liter vs):=fun m=>by
   simp only [foot,List.mem_singleton] at m
   obtain ⟨ps,e,_⟩:=S.tab
   rw [m,hoi] at e
   cases e
   cases hci
  obtain ⟨S',e⟩:=S.gone hl ht keep hs hm.os hm.gens (fun b=>b=s.heap.objs.size) (by rintro b rfl;exact ⟨Nat.le_refl _,_,hS'⟩)
  refine hQ _ _ _ S' e ?_
  have kz:∀ b ob,X.Z b->s.heap.get? b=some ob->s'.heap.get? b=some ob:=fun b ob z e=>keep b ob (fun m=>S.zw b (.inr ⟨l,_,hl,m⟩) z) e
  refine ⟨_,acc',c',rfl,.inr rfl,hS',(no (P:=fun _ _=>True) ?_ ?_:VsRel C (X.more fun b=>b=s.heap.objs.size) σ.next s'.heap vs acc'.toList)⟩
  ·rw [Array.length_toList,hacc.1,hlen]
  ·intro j a ha
   have hP:=hacc.2 j a (by simpa using ha)
   have:(items.toList.drop i)[j]?=some a:=by
    rw [List.getElem?_drop]
    have:items[i+j]?=some a:=hP
    simpa using this
   obtain ⟨u,e1,r⟩:=rr.getA j this
   exact ⟨u,e1,r.mono (X':=X.more fun b=>b=s.heap.objs.size) kz (fun _ z=>.inl z) (Nat.le_refl _) fun _ _=>rfl⟩
end
end
section
open PySem PyProof.Rows PySem.SeqAt PySem.Flt
set_option maxRecDepth 100000
section
variable {C:Cx} {k:Nat} {σ:Sto} {X:Wld} {s:Shared} {n0:Nat}
noncomputable def c5 (x:List Nat):List V:=x.map fun c=>.str [c]
theorem tx {x:List Nat} (hx:x.length<=sizeLine):FnOk C k (.type "list") [.str x] σ (.loc σ.next) (σ.new (.list (c5 x))):=by
 intro A X s as rm S r Q E hQ
 obtain ⟨a,q,rfl,r1,r2⟩:=r.inv_cons
 rw [r2.inv_nil]
 obtain ⟨t,rfl⟩:=r1
 refine cA (call_list_str (hn:=by rw [<-Array.length_toList];exact hx) rm.handled (ao x) t fun h' tk acc c' hk hS hacc hs=>?_)
 have hφ:(X.add σ.next s.heap.objs.size 0 (fun _=>False)).φ σ.next=s.heap.objs.size:=by simp [Wld.add]
 have hlen:acc.toList.length=x.length:=by rw [Array.length_toList,hacc.1];exact bv x
 obtain ⟨S',e⟩:=S.newO (o:=.list (c5 x)) (⟨hk,hs,rfl,rfl⟩:Grow s { s with heap:=h',toks:=tk }) s.heap.objs.size 0 (fun _=>False) (fun _ h=>h.elim)
  (fun c m=>by
    simp only [foot,List.mem_singleton] at m
    rw [hφ] at m
    subst m
    exact ⟨Nat.le_refl _,⟨_,hS⟩,fun h=>h⟩)
  ⟨acc,c',by rw [hφ];exact hS,no (P:=fun _ _=>True) (by simp [c5,hlen]) fun j a ha=>by
    obtain ⟨c,u,e,h⟩:=hacc.2 j a (by simpa using ha)
    subst h
    have e':x[j]?=some c:=by simpa using e
    exact ⟨.str [c],by simp [c5,e'],⟨_,rfl⟩⟩⟩
 refine hQ _ _ _ S' e ?_
 dsimp only [Sto.new]
 exact ⟨Nat.lt_succ_self _,by rw [hφ]⟩
end
end
section
open PySem PyProof.Rows PySem.SeqAt PySem.Flt
section
variable {C:Cx} {k:Nat} {σ:Sto} {X:Wld} {s:Shared} {n0:Nat}
noncomputable def atK (ks:List Int) (vs:List V) (i:Int):Option V:=(ks.zip vs).lookup i
theorem ux {h:Heap} {i:Int}:∀ {ks:List Int} {vs:List V} {as:List Value},VsRel C X n0 h vs as->(atK ks vs i=none/\vA ks as i=none)\/∃ v a,atK ks vs i=some v/\vA ks as i=some a/\VRel C X n0 h v a
 | [],vs,as,_=>.inl ⟨rfl,rfl⟩
 | _::_,[],as,r=>by rw [r.inv_nil];exact .inl ⟨rfl,rfl⟩
 | j::ks,v::vs,as,r=>by
   obtain ⟨a,q,rfl,r1,r2⟩:=r.inv_cons
   have ih:=ux (i:=i) (ks:=ks) r2
   unfold atK vA at ih ⊢
   simp only [List.zip_cons_cons,List.zip_cons_cons,List.lookup_cons,List.lookup_cons]
   cases i==j with
   | true=>exact .inr ⟨v,a,rfl,rfl,r1⟩
   | false=>exact ih
theorem isInt_self (i:Int) (t:Tok):(intKind C.prog C.w).is i (.int i t)=true:=by exact intKind_is (Cx.prog C) (Cx.w C) i t
theorem DQ {p:Addr} (h:p≠sysModules):(p==sysModules)=false:=beq_eq_false_iff_ne.mpr h
theorem wx {ks:List Int} {vs:List V} {name:Nm} {id:String} (slot:Slot "dict" (ao name) id) (hty:typeOf (.builtin id)=pure (.type "method_descriptor")):vq C (.dict ks vs) σ name (.builtin id):=by
 intro A X s a pl S r Q E hQ
 obtain ⟨p,as,rfl,z,np,g,q⟩:=r
 exact getMethod_builtin g.typeIs PySem.F.plainAttrs_dict slot hty g.noDict hQ
theorem sE {ks:List Int} {vs:List V} {i:Int} {d:V}:FnOk C k (.builtin "dict.get") [.dict ks vs,.int i,d] σ ((atK ks vs i).getD d) σ:=by
 intro A X s as rm S r Q E hQ
 obtain ⟨a,q,rfl,r1,r2⟩:=r.inv_cons
 obtain ⟨b,q,rfl,r3,r4⟩:=r2.inv_cons
 obtain ⟨c,q,rfl,r5,r6⟩:=r4.inv_cons
 rw [r6.inv_nil]
 obtain ⟨p,as,rfl,z,np,g,rr⟩:=r1
 obtain ⟨t,rfl⟩:=r3
 obtain ⟨S',e⟩:=eD S (s.toks+1)
 refine call_meetsIn PySem.F.slot_dict_get g.typeIs PySem.F.entry_dict_get (PySem.F.args_dict_get_3 _ _ _) (meets_dict_get_default (intKind C.prog C.w) p (isInt_self i t) (DQ np) c) ⟨_,g,?_⟩
 rcases ux (i:=i) (ks:=ks) rr with ⟨e1,e2⟩ | ⟨v,a,e1,e2,r⟩
 ·rw [e2];exact hQ _ X _ S' e (by rw [e1];exact r5)
 ·rw [e2];exact hQ _ X _ S' e (by rw [e1];exact r)
end
end
section
open PySem PyProof.Rows PySem.SeqAt PySem.Flt
set_option maxRecDepth 100000
open PySem.W (findIn typeIn clsIn findObj plainGet hasDictIn plainOver makesIn takerIn isFn instObj InstAt dictOf getL)
structure LexOk (C:Cx):Prop where
 inb:C.K.In C.base
 nt:C.K.lookup C.tab=none
 plain:plainGet C.K C.cls default=true
 sa:findIn C.K (.ref C.cls) "__setattr__"=some (some (.builtin "object.__setattr__"))
 hd:hasDictIn C.K C.cls=true
 over:plainOver C.K C.cls=true
 makes:makesIn C.K C.cls=true
 rc:findIn C.K (.ref C.cls) "_read_char"=some (some (.ref C.rc))
 rcf:isFn C.K (.ref C.rc)=true
 rcg:PySem.W.specialIn C.K (.ref C.rc) "__get__"=some (some (.builtin "function.__get__"))
 rct:PySem.W.takesIn C.K (.ref C.rc)=some false
 dat:∀ x∈[aR,aM,cj,d5],findIn C.K (.ref C.cls) x=some none/\takerIn C.K C.cls x=some none
section
variable {C:Cx} {k:Nat} {ρ:Loc} {σ σ1:Sto} {X:Wld} {s:Shared} {n0:Nat} {lx lf pb:Nat} {line:Int}
theorem LexOk.kin (L:LexOk C) (S:SRel C σ X s):C.K.In s.heap:=fun a o e=>S.base a o (L.inb a o e) (fun q=>by rw [q,L.nt] at e;cases e)
theorem LexAt.instAt (A:LexAt C X n0 s.heap lx lf line pb):∃ d f,InstAt s.heap (X.φ lx) (instObj C.cls (X.ψ lx)) C.cls (some (kS d line f (X.φ pb)))/\StreamAt C X s.heap f (X.φ lf):=by
 obtain ⟨d,f,g,st⟩:=A.dict
 exact ⟨d,f,⟨A.inst,rfl,rfl,g⟩,st⟩
noncomputable def ju (d:LD) (line:Int) (f pb:Addr) (x:Str):Option (Option Value):=getL x [⟨d.h1,.str aR d.t1,.int line d.t5⟩,⟨d.h2,.str aM d.t2,.ref f⟩,⟨d.h3,.str cj d.t3,.str white d.t6⟩,⟨d.h4,.str d5 d.t4,.ref pb⟩]
theorem j1 (L:LexOk C) (S:SRel C σ X s) (hl:σ.get lx=some (.lexer lf line pb)) {A:Around} {E:Value->Shared->Prop} {x:Str} {val:LD->Addr->Value} {Q:Value->Shared->Prop} (hx:x∈[aR,aM,cj,d5])
 (hv:∀ d f,ju d line f (X.φ pb) x=some (some (val d f))) (h:∀ d f,StreamAt C X s.heap f (X.φ lf)->PySem.W.handedIn (val d f)=true/\Q (val d f) { s with toks:=s.toks+1 }) {expr:Bool}:wpAny (model C.prog C.w) A (getAttr (.ref (X.φ lx)) x expr) Q E s:=by
 refine via fun _ g0=>?_
 obtain ⟨d,f,I,st⟩:=LexAt.instAt (S.obj lx _ hl)
 refine g0 ?_
 exact PySem.W.get_value (L.kin S) I (PySem.W.plainGet_of L.plain).1 (PySem.W.findObj_own L.hd (L.dat x hx).1 rfl (hv d f)) (h d f st).1 (h d f st).2
theorem pE {a:Ex} {name:Nm} {vo v:V} (h1:EvE C k a ρ σ vo σ1)
 (h2:∀ (A:Around) (X:Wld) (s:Shared) (o:Value),Room k A->SRel C σ1 X s->VRel C X σ1.next s.heap vo o->∀ (Q:Value->Shared->Prop) (E:Value->Shared->Prop),(∀ r X' s',SRel C σ1 X' s'->Evo C NoP σ1 X s σ1 X' s'->VRel C X' σ1.next s'.heap v r->Q r s')->wpAny (model C.prog C.w) A (getAttr o (ao name) true) Q E s):EvE C k (.attr a name) ρ σ v σ1:=by
 intro n sc e h A env X s rm R Q E hQ
 cases erI h
 rename_i n oe m p hs e1 hn
 subst hn
 rw [arm_eval_Attribute,ia hs]
 refine wpAny_bind (h1 _ _ _ e1 A env X s rm R _ _ fun x X1 s1 R1 v1 r1=>wpAny_bind (wpAny_standAt (wpAny_bind (wpAny_holding ?_))))
 have h2':=h2 A X1 s1 x rm R1.S r1
 rw [aK] at h2'
 refine h2' _ _ fun r X2 s2 S2 v2 r2=>wpAny_bind (wpAny_letTemporaryGo (wpAny_pure (hQ r X2 s2 (R1.evo0 S2 v2) (v1.trans v2.of0) r2)))
theorem iR {d:LD} {f pb:Addr}:ju d line f pb aR=some (some (.int line d.t5)):=by kernel_rfl
theorem vZ {d:LD} {f pb:Addr}:ju d line f pb aM=some (some (.ref f)):=by kernel_rfl
theorem pj {d:LD} {f pb:Addr}:ju d line f pb cj=some (some (.str white d.t6)):=by kernel_rfl
theorem rS {d:LD} {f pb:Addr}:ju d line f pb d5=some (some (.ref pb)):=by kernel_rfl
theorem vw (L:LexOk C) {a:Ex} (h1:EvE C k a ρ σ (.loc lx) σ1) (hl:σ1.get lx=some (.lexer lf line pb)):EvE C k (.attr a (nm aR)) ρ σ (.int line) σ1:=pE h1 fun A X s o rm S r Q E hQ=>by
 obtain ⟨_,rfl⟩:=r
 rw [aK]
 refine j1 L S hl (by exact List.mem_cons_self) (fun _ _=>iR) fun _ _ _=>?_
 obtain ⟨S',ev⟩:=eD S (s.toks+1)
 exact ⟨rfl,hQ _ X _ S' ev ⟨_,rfl⟩⟩
theorem xO (L:LexOk C) {a:Ex} (h1:EvE C k a ρ σ (.loc lx) σ1) (hl:σ1.get lx=some (.lexer lf line pb)):EvE C k (.attr a (nm cj)) ρ σ (.str (nm white)) σ1:=pE h1 fun A X s o rm S r Q E hQ=>by
 obtain ⟨_,rfl⟩:=r
 rw [aK]
 refine j1 L S hl (by decide) (fun _ _=>pj) fun _ _ _=>?_
 obtain ⟨S',ev⟩:=eD S (s.toks+1)
 exact ⟨rfl,hQ _ X _ S' ev ⟨_,congrArg (Value.str · _) (aK _).symm⟩⟩
theorem zJ (L:LexOk C) {a:Ex} (h1:EvE C k a ρ σ (.loc lx) σ1) (hl:σ1.get lx=some (.lexer lf line pb)):EvE C k (.attr a (nm d5)) ρ σ (.loc pb) σ1:=pE h1 fun A X s o rm S r Q E hQ=>by
 obtain ⟨_,rfl⟩:=r
 rw [aK]
 have hp:=LexAt.hpb (S.obj lx _ hl)
 refine j1 L S hl (by decide) (fun _ _=>rS) fun _ _ _=>?_
 obtain ⟨S',ev⟩:=eD S (s.toks+1)
 exact ⟨rfl,hQ _ X _ S' ev ⟨hp,rfl⟩⟩
noncomputable def j2 (x:Str):Bool:=x != aR&&x != aM&&x != cj&&x != d5
theorem lR {d:LD} {f pb:Addr} {x:Str} (hx:j2 x=true):ju d line f pb x=some none:=by
 simp only [j2,Bool.and_eq_true,bne_iff_ne,ne_eq] at hx
 obtain ⟨⟨⟨a,b⟩,c⟩,e⟩:=hx
 have q1:(Value.str aR d.t1).isStr x=false:=by simpa [Value.isStr] using Ne.symm a
 have q2:(Value.str aM d.t2).isStr x=false:=by simpa [Value.isStr] using Ne.symm b
 have q3:(Value.str cj d.t3).isStr x=false:=by simpa [Value.isStr] using Ne.symm c
 have q4:(Value.str d5 d.t4).isStr x=false:=by simpa [Value.isStr] using Ne.symm e
 delta ju getL
 simp only [List.find?_cons,q1,q2,q3,q4,List.find?_nil,List.any_cons,List.any_nil]
 rfl
theorem sd (L:LexOk C) (hl:σ.get lx=some (.lexer lf line pb)) {x:Str} {f:Addr} (hx:j2 x=true) (hf:findIn C.K (.ref C.cls) x=some (some (.ref f))) (ht:isFn C.K (.ref f)=true):vq C (.loc lx) σ (nm x) (.ref f):=by
 intro A X s a pl S r Q E hQ
 obtain ⟨_,rfl⟩:=r
 rw [aK]
 obtain ⟨d,f',I,st⟩:=LexAt.instAt (S.obj lx _ hl)
 refine PySem.W.method_fn (L.kin S) I (PySem.W.plainGet_of L.plain).1 (PySem.W.plainGet_of L.plain).2 hf (beq_iff_eq.mp ht) ?_ hQ
 show (PySem.W.lookIn x _).map _=_
 simp only [PySem.W.lookIn_dict]
 rw [show getL x _=some none from lR hx]
 rfl
end
end
section
open PySem PyProof.Rows PySem.SeqAt PySem.Flt
set_option maxRecDepth 100000
open PySem.W (findIn typeIn clsIn findObj plainGet hasDictIn plainOver makesIn takerIn isFn instObj InstAt dictOf getL)
section
variable {C:Cx} {k:Nat} {ρ:Loc} {σ σ1:Sto} {X:Wld} {s:Shared} {n0:Nat} {lx lf pb:Nat} {line:Int}
noncomputable abbrev sRc:Str := "_read_char"
noncomputable abbrev yv:Nm:=nm "iter"
theorem sm:entryFor table "iter"=some Builtin.«iter»:=entryFor_of_fast (by kernel_rfl)
theorem tD (a b:Value):argsOk "iter" ⟨[a,b],[]⟩:=by unfold argsOk;kernel_rfl
theorem pi:typeLookup (.type "method") "__call__"=pure (some (.builtin "method.__call__")):=by rw [typeLookup_type,builtinLookup_eq_fast];kernel_rfl
theorem DF (L:LexOk C) (S:SRel C σ X s) (hl:σ.get lx=some (.lexer lf line pb)) {A:Around} {E:Value->Shared->Prop} {Q:Value->Shared->Prop}
 (hQ:Q (.ref s.heap.objs.size) { s with heap:=s.heap.push (PySem.W.methodObj (.ref C.rc) (.ref (X.φ lx))),toks:=s.toks+1 }) {expr:Bool}:wpAny (model C.prog C.w) A (getAttr (.ref (X.φ lx)) sRc expr) Q E s:=by
 refine via fun _ g0=>?_
 obtain ⟨d,f,I,st⟩:=LexAt.instAt (S.obj lx _ hl)
 refine g0 ?_
 have hf:findObj C.K C.cls (some (kS d line f (X.φ pb))) sRc=some (.bind (.builtin "function.__get__") (.ref C.rc)) :=
  PySem.W.findObj_fn L.hd L.rc L.rcg L.rct (by kernel_rfl) (by
   simp only [PySem.W.lookIn_dict]
   exact lR (by kernel_rfl))
 refine PySem.W.get_bind (L.kin S) I (PySem.W.plainGet_of L.plain).1 hf (PySem.W.plainGet_of L.plain).2 (wpAny_call ?_)
 exact PySem.W.fn_get (s:={ s with toks:=s.toks+1 }) (L.kin S:C.K.In s.heap) (beq_iff_eq.mp L.rcf) (PySem.W.handed_on rfl hQ)
theorem wA (H:COk C) (L:LexOk C) {a:Ex} (hg:C.glob yv=some (.bf .iter)) (ha:EvE C k a ρ σ (.loc lx) σ) (hl:σ.get lx=some (.lexer lf line pb)) :
 EvE C k (.call (.glob yv) [.attr a (nm sRc),.cStr []]) ρ σ (.loc σ.next) (σ.new (.citer lx true)):=by
 intro n sc e h A env X s rm R Q E hQ
 cases erI h
 rename_i n fe as p hne e1 e2
 have he:eval (.Call fe as [] p) env=(do callWith p (<-eval fe env) [] (backTo p (starEach as env)) (backToKw p (keywordEach [] env))):=by
  cases fe<;>first | rfl | exact bF hne.symm
 rw [he]
 refine wpAny_bind (eS (k:=k) (ρ:=ρ) H hg _ _ _ e1 A env X s rm R _ _ fun x X1 s1 R1 v1 r1=>?_)
 have hx:x=.builtin "iter":=by exact r1
 subst hx
 refine x7 (.bi "iter") e2 ?_
 obtain ⟨ea,r,rfl,e3,e4⟩:=aY e2
 obtain ⟨es,r,rfl,e5,e6⟩:=aY e4
 obtain rfl:=cQ e6
 refine wpAny_items_cons ?_ (dN e3 _ env)
 cases erI e3
 rename_i n' oe m p' hs e7 hm
 have hm:=gq hm
 subst hm
 rw [arm_eval_Attribute,ia hs]
 refine wpAny_bind (ha _ _ _ e7 A env X1 s1 rm R1 _ _ fun o X2 s2 R2 v2 r2=>wpAny_bind (wpAny_standAt (wpAny_bind (wpAny_holding ?_))))
 obtain ⟨hlx,rfl⟩:=r2
 refine DF L R2.S hl ?_
 refine wpAny_bind (wpAny_letTemporaryGo ?_)
 refine wpAny_pure ?_
 obtain ⟨S3,e3'⟩:=R2.S.grow (Grow.pusht (s:=s2) (PySem.W.methodObj (.ref C.rc) (.ref (X2.φ lx))) (s2.toks+1)) (fun b=>b=s2.heap.objs.size) (by rintro b rfl;exact ⟨Nat.le_refl _,_,Heap.get?_push_size _ rfl⟩)
 have R3:=R2.evo0 S3 e3'
 refine wpAny_items_cons (bE (k:=k) (ρ:=ρ) _ _ _ e5 A env _ _ rm R3 _ _ fun t X4 s4 R4 v4 r4=>?_) (dN e5 _ env)
 refine wpAny_items_nil ⟨⟨_,_,R4.S⟩,?_⟩
 obtain ⟨tk,rfl⟩:∃ tk,t=.str (ao []) tk:=r4
 have hb:s4.heap.get? s2.heap.objs.size=some (PySem.W.methodObj (.ref C.rc) (.ref (X2.φ lx))):=v4.zkeep R3.S R3.pz _ _ (.inr rfl) (Heap.get?_push_size _ rfl)
 have zb:X4.Z s2.heap.objs.size:=v4.zm _ (.inr rfl)
 have hφ4:X4.φ lx=X2.φ lx:=(v4.ph lx hlx).1.trans ((e3'.ph lx hlx).1)
 show wpAny _ A (call (.builtin "iter") [.ref s2.heap.objs.size,.str (ao []) tk]) _ _ s4
 refine Calls.call_function_entry (by rfl) (by rfl) sm (tD _ _) ?_
 unfold Builtin.«iter»
 refine wpAny_bind (m:=someArgs "iter" 1 2 _) (wpAny_of_eq (a:=[Value.ref s2.heap.objs.size,.str (ao []) tk]) (by first | rfl | kernel_rfl) ?_)
 dsimp only
 refine wpAny_bind (wpAny_specialOf (name:=Str.ofString "__call__") ⟨_,hb,rfl⟩ pi ?_)
 refine wpAny_ite_split (fun hab=>absurd hab (by decide)) (fun _=>?_)
 refine wpAny_bind (wpAny_rule (wpAny_bind (wpAny_newObj_type (wpAny_pure ⟨_,rfl,?_⟩))))
 have hφ:(X4.add σ.next s4.heap.objs.size 0 (fun _=>False)).φ σ.next=s4.heap.objs.size:=by simp [Wld.add]
 have hlt:=R4.S.lt lx _ hl
 have hg4:(s4.heap.push (ki s2.heap.objs.size tk)).get? s4.heap.objs.size=some (ki s2.heap.objs.size tk):=Heap.get?_push_size _ rfl
 obtain ⟨S5,e5'⟩:=R4.S.newO (o:=.citer lx true) (Grow.push (ki s2.heap.objs.size tk)) s4.heap.objs.size 0 (fun _=>False) (fun _ h=>h.elim)
  (fun c m=>by
    simp only [foot,List.mem_singleton] at m
    rw [hφ] at m
    subst m
    exact ⟨Nat.le_refl _,⟨_,hg4⟩,fun h=>h⟩)
  ⟨Nat.lt_succ_of_lt hlt,s2.heap.objs.size,tk,by rw [hφ];exact hg4,.inl zb,by
    rw [show (X4.add σ.next s4.heap.objs.size 0 (fun _=>False)).φ lx=X2.φ lx from by simp only [Wld.add,if_neg (Nat.ne_of_lt hlt)];exact hφ4]
    exact Heap.get?_push_of_some _ hb⟩
 refine hQ _ _ _ (R4.evo0 S5 e5') ((((v1.trans v2).trans e3'.of0).trans v4).trans e5'.of0) ?_
 dsimp only [Sto.new]
 exact ⟨Nat.lt_succ_self _,by rw [hφ]⟩
end
end
section
open PySem PyProof.Rows PySem.SeqAt PySem.Flt
set_option maxRecDepth 100000
section
variable {C:Cx} {k:Nat} {ρ:Loc} {σ σ1 σ2:Sto} {X:Wld} {s:Shared} {n0:Nat} {lx lf pb l:Nat} {line:Int}
theorem slot_ci:Slot "callable_iterator" "__next__" "callable_iterator.__next__" :=
 .of (owner := "callable_iterator") (n := "__next__") (by rw [typeLookup_type,builtinLookup_eq_fast];kernel_rfl) (by rfl) (by rfl) (by rfl)
  (by first | exact .inl (by rfl) | exact .inr (by decide +kernel)) (by rw [isSubtype_type];kernel_rfl)
theorem mT:entryFor table "callable_iterator.__next__"=some Builtin.«callable_iterator.__next__»:=entryFor_of_fast (by kernel_rfl)
theorem pP (a:Value):argsOk "callable_iterator.__next__" ⟨[a],[]⟩:=by unfold argsOk;kernel_rfl
theorem oh {M:Model} {A:Around} {E:Value->Shared->Prop} {f:Value} {pos:List Value} {Q:Value->Shared->Prop} (hc:codeAny M A (.call f ⟨pos,[]⟩) (fun r s'=>match r with | .ok (.ret v)=>Q v s' | .ok _=>False | .error e=>E e s') s):wpAny M A (callBorrowed f pos) Q E s:=fun Γ p hΓ=>by
 unfold callBorrowed
 rw [Sem.wp]
 refine wpCode_mono ?_ (hc _ p rfl (hΓ.enter (.call f ⟨pos,[]⟩) none p (by intro x;cases x)))
 intro r s' h
 cases r with
 | error e=>exact h
 | ok f=>cases f<;>first | exact h | exact h.elim
theorem Room.in1 {A:Around} (r:Room (k+1) A):Room k A.in1:=⟨by have:=r.depth;show A.depth+k<=900;exact Nat.le_of_succ_le this,by have:=r.units;simp only [units_in1];lia -abstractProof,r.handled⟩
theorem oU {M:Model} {A:Around} {E:Value->Shared->Prop} {bm f:Addr} {self:Value} {o:Obj} {fd:FuncData} {Q:Bool->Shared->Prop} (hb:s.heap.get? bm=some (PySem.W.methodObj (.ref f) self)) (hf:s.heap.get? f=some o) (hd:o.data=.func fd)
 (hQ:Q true s):wpAny M A (borrowsExactly (.ref bm)) Q E s:=by
 unfold borrowsExactly
 refine wpAny_bind (wpAny_load hb ?_)
 dsimp only
 rw [if_pos (by rfl)]
 show wpAny M A (load f >>= _) Q E s
 refine wpAny_bind (wpAny_load hf ?_)
 rw [hd]
 exact wpAny_pure hQ
noncomputable def iZ (C:Cx) (k:Nat) (l:Nat) (σ:Sto) (r:Option V) (σ':Sto):Prop :=
 ∀ (A:Around) (X:Wld) (s:Shared),Room k A->SRel C σ X s->∀ (Q:Option Value->Shared->Prop) (E:Value->Shared->Prop),
   (∀ a X' s',SRel C σ' X' s'->Evo C NoP σ X s σ' X' s'->(match r,a with | none,none=>True | some v,some a=>VRel C X' σ'.next s'.heap v a | _,_=>False)->Q a s')->wpAny (model C.prog C.w) A (pyNext (.ref (X.φ l))) Q E s
structure RcAt (C:Cx):Prop where
 ex:∃ o fd,C.base.get? C.rc=some o/\C.rc≠C.tab/\o.data=.func fd
theorem vB (Rc:RcAt C) {c:Nat} (hl:σ.get l=some (.citer lx true)) (h:FnOkC C k (.ref C.rc) [.loc lx] σ (.str [c]) σ1) (hl1:σ1.get l=some (.citer lx true)):iZ C (k+1) l σ (some (.str [c])) σ1:=by
 intro A X s rm S Q E hQ
 refine via fun _ g0=>?_
 obtain ⟨ol,hrc,hrt,fd⟩:∃ o,C.base.get? C.rc=some o/\C.rc≠C.tab/\∃ fd,o.data=.func fd:=let ⟨o,fd,a,b,c⟩:=Rc.ex;⟨o,a,b,fd,c⟩
 obtain ⟨fd,hfd⟩:=fd
 obtain ⟨hlx,bm,t,g,z,gb⟩:=S.obj l _ hl
 refine g0 ?_
 unfold pyNext
 refine wpAny_bind (wpAny_attempt (wpAny_callSpecial?_slot (name:=Str.ofString "__next__") (⟨_,g,rfl⟩:s.TypeIs (.ref (X.φ l)) "callable_iterator") slot_ci
  (wpAny_call_entry slot_ci ⟨_,g,rfl⟩ mT ?_ (pP _))))
 unfold Builtin.«callable_iterator.__next__»
 refine wpAny_bind (m:=slotArgs "__next__" 0 _) (wpAny_of_eq (a:=(Value.ref (X.φ l),([]:List Value))) (by first | rfl | kernel_rfl) ?_)
 dsimp only
 refine wpAny_bind (wpAny_field g rfl (x:=.bool false) rfl ?_)
 rw [if_neg (by decide)]
 refine wpAny_bind (wpAny_field g rfl (x:=.ref bm) rfl ?_)
 refine wpAny_bind (wpAny_attempt ?_)
 unfold callOutOfASlot
 refine wpAny_bind (oU gb (S.base _ _ hrc hrt) hfd ?_)
 rw [if_pos rfl]
 refine oh (PySem.W.method_call gb (A:=A.in1) ?_)
 refine h A.in1 X s [.ref (X.φ lx)] rm.in1 S (.cons ⟨hlx,rfl⟩ .nil) _ fun r X1 s1 S1 v1 r1=>?_
 refine via fun _ g0=>?_
 obtain ⟨t1,rfl⟩:∃ t,r=.str (ao [c]) t:=r1
 obtain ⟨hlx1,bm1,t',g1,z1,gb1⟩:=S1.obj l _ hl1
 refine g0 ?_
 have hφ:X1.φ l=X.φ l:=(v1.ph l (S.lt l _ hl)).1
 rw [hφ] at g1
 show wpAny _ A.in1 (field (.ref (X.φ l)) 2 >>= _) _ _ s1
 refine wpAny_bind (wpAny_field g1 rfl (x:=.bool false) rfl ?_)
 rw [if_neg (by decide)]
 refine wpAny_bind (wpAny_field g1 rfl (x:=.str Str.empty t') rfl ?_)
 refine wpAny_bind (wpAny_holding ?_)
 refine EqAt.str_str (A:=A.in1) (s:=s1) _ _ _ _ _ _ _ _ ?_
 have:(Str.empty==ao [c])=false:=by
  rw [show Str.empty=ao [] from rfl,k8];rfl
 rw [this]
 skip
 rw [if_pos (by rfl)]
 exact wpAny_pure ⟨_,rfl,wpAny_pure (hQ _ X1 s1 S1 v1 ⟨_,rfl⟩)⟩
theorem yT (Rc:RcAt C) (hl:σ.get l=some (.citer lx true)) (h:FnOkC C k (.ref C.rc) [.loc lx] σ (.str []) σ1) (hl1:σ1.get l=some (.citer lx true)):iZ C (k+1) l σ none (σ1.set l (.citer lx false)):=by
 intro A X s rm S Q E hQ
 refine via fun _ g0=>?_
 obtain ⟨ol,hrc,hrt,fd,hfd⟩:∃ o,C.base.get? C.rc=some o/\C.rc≠C.tab/\∃ fd,o.data=.func fd:=let ⟨o,fd,a,b,c⟩:=Rc.ex;⟨o,a,b,fd,c⟩
 obtain ⟨hlx,bm,t,g,z,gb⟩:=S.obj l _ hl
 refine g0 ?_
 unfold pyNext
 refine cA (wpAny_bind (wpAny_attempt (wpAny_callSpecial?_slot (name:=Str.ofString "__next__") (⟨_,g,rfl⟩:s.TypeIs (.ref (X.φ l)) "callable_iterator") slot_ci
  (wpAny_call_entry slot_ci ⟨_,g,rfl⟩ mT ?_ (pP _)))))
 unfold Builtin.«callable_iterator.__next__»
 refine wpAny_bind (m:=slotArgs "__next__" 0 _) (wpAny_of_eq (a:=(Value.ref (X.φ l),([]:List Value))) (by first | rfl | kernel_rfl) ?_)
 dsimp only
 refine wpAny_bind (wpAny_field g rfl (x:=.bool false) rfl ?_)
 rw [if_neg (by decide)]
 refine wpAny_bind (wpAny_field g rfl (x:=.ref bm) rfl ?_)
 refine wpAny_bind (wpAny_attempt ?_)
 unfold callOutOfASlot
 refine wpAny_bind (oU gb (S.base _ _ hrc hrt) hfd ?_)
 rw [if_pos rfl]
 refine oh (PySem.W.method_call gb (A:=A.in1) ?_)
 refine h A.in1 X s [.ref (X.φ lx)] rm.in1 S (.cons ⟨hlx,rfl⟩ .nil) _ fun r X1 s1 S1 v1 r1=>?_
 refine via fun _ g0=>?_
 obtain ⟨t1,rfl⟩:∃ t,r=.str (ao []) t:=r1
 obtain ⟨hlx1,bm1,t',g1,z1,gb1⟩:=S1.obj l _ hl1
 refine g0 ?_
 have hφ:X1.φ l=X.φ l:=(v1.ph l (S.lt l _ hl)).1
 rw [hφ] at g1
 show wpAny _ A.in1 (field (.ref (X.φ l)) 2 >>= _) _ _ s1
 refine wpAny_bind (wpAny_field g1 rfl (x:=.bool false) rfl ?_)
 rw [if_neg (by decide)]
 refine wpAny_bind (wpAny_field g1 rfl (x:=.str Str.empty t') rfl ?_)
 refine wpAny_bind (wpAny_holding ?_)
 refine EqAt.str_str (A:=A.in1) (s:=s1) _ _ _ _ _ _ _ _ ?_
 have:(Str.empty==ao [])=true:=by
  rw [show Str.empty=ao [] from rfl,k8];rfl
 rw [this]
 rw [if_neg (by decide)]
 refine wpAny_bind (wpAny_rule (wpAny_bind ?_))
 wp_delta
 refine wpAny_bind (wpAny_field g1 rfl (x:=.ref bm1) rfl ?_)
 refine wpAny_bind ?_
 unfold slotLetsGo
 refine wpAny_bind (oU gb1 (S1.base _ _ hrc hrt) hfd ?_)
 rw [if_pos rfl]
 refine wpAny_pure ?_
 have upd:∀ (h:Heap) (fs:Array Value) (i:Nat) (v:Value),h.get? (X.φ l)=some { cls:=.type "callable_iterator",data:=.fields fs } ->
  (h.update (X.φ l) (Obj.mapFields (·.setIfInBounds i v))).get? (X.φ l)=some { cls:=.type "callable_iterator",data:=.fields (fs.setIfInBounds i v) }:=fun h fs i v e =>
  Heap.get?_update_self _ e rfl
 refine wpAny_bind (wpAny_setField g1 rfl (by exact size_pos_of_not_empty rfl) ?_)
 have g2:=upd s1.heap _ 0 .none g1
 refine wpAny_bind (wpAny_setField g2 rfl (by exact Nat.le_of_ble_eq_true rfl) ?_)
 have g3:=upd _ _ 1 .none g2
 refine wpAny_setField g3 rfl (by exact Nat.lt_add_one 2) ?_
 have g4:=upd _ _ 2 (.bool true) g3
 generalize hh:(((s1.heap.update (X.φ l) (Obj.mapFields (·.setIfInBounds 0 .none))).update (X.φ l) (Obj.mapFields (·.setIfInBounds 1 .none))).update (X.φ l) (Obj.mapFields (·.setIfInBounds 2 (.bool true))))=h4 at g4
 have sb:Heap.SameBut (X.φ l) s1.heap h4:=by
  subst hh
  refine ⟨by simp [Heap.size_update],fun b hb=>?_⟩
  rw [Heap.get?_update_other _ _ (Ne.symm hb),Heap.get?_update_other _ _ (Ne.symm hb),Heap.get?_update_other _ _ (Ne.symm hb)]
 rw [show ({ s1 with heap:=_ }:Shared)={ s1 with heap:=h4 } from by rfl]
 show wpAny _ A.in1 (do raiseNew (<-newExc (.type "StopIteration") [])) _ _ _
 refine wpAny_bind ?_
 simp only [newExc,newTuple]
 refine wpAny_bind (wpAny_newObj_type ?_ (by size_fits))
 refine wpAny_bind (m:=firstArgMember _ _) (wpAny_of_eq (a:=Value.none) (by first | rfl | (simp only [firstArgMember];rfl)) ?_)
 refine wpAny_newObj_type ?_ (by size_fits)
 dsimp only [raiseNew]
 refine wpAny_bind (wpAny_handled ?_)
 rw [show A.in1.handled=none from rm.handled]
 refine wpAny_bind (wpAny_pure (wpAny_throw ?_))
 refine wpAny_bind (wpAny_isInstance (T := "StopIteration") (b:=true) ⟨_,Heap.get?_push_size _ rfl,rfl⟩ isSubtype_stop ?_)
 refine wpAny_pure fun hs=>?_
 have g5:h4.get? (X1.φ l)=some rf:=by rw [hφ];exact g4
 refine via fun _ g0=>?_
 obtain ⟨S5,e5⟩:=S1.setO (o:=.citer lx true) (o':=.citer lx false) (s':={ s1 with heap:=(h4.push { cls:=.type "tuple",data:=.seq #[] }).push { cls:=.type "StopIteration",data:=.fields (#[.ref h4.objs.size,.none,.none,.none,.bool false,.none]++ownMembersOf (.type "StopIteration") []) } }) hl1 rfl
  (fun b ob nb e=>Heap.get?_push_of_some _ (Heap.get?_push_of_some _ ((sb.2 b (by simpa [foot,hφ] using nb)).trans e)))
  (fun b m=>by simp only [foot,List.mem_singleton] at m;subst m;exact ⟨_,Heap.get?_push_of_some _ (Heap.get?_push_of_some _ g5)⟩)
  (by show _<=((h4.push _).push _).objs.size;rw [Heap.size_push,Heap.size_push,sb.1];omega) rfl rfl
  ⟨hlx1,Heap.get?_push_of_some _ (Heap.get?_push_of_some _ g5)⟩
 refine g0 ?_
 exact hQ _ X1 _ S5 (v1.trans e5) trivial
end
end
section
open PySem PyProof.Rows PySem.SeqAt PySem.Flt
set_option maxRecDepth 100000
noncomputable def py (σ:Sto) (l:Nat):Prop:=∃ lx b,σ.get l=some (.citer lx b)
inductive oS (C:Cx) (k:Nat) (l:Nat) (xs:List Nm) (body orelse:List St):Loc->Sto->Fl->Loc->Sto->Prop
 | done {ρ σ σ1 f ρ' σ'} (hn:iZ C k l σ none σ1) (h:ExL C k orelse ρ σ1 f ρ' σ'):oS C k l xs body orelse ρ σ f ρ' σ'
 | step {ρ ρ1 ρ2 ρ3 σ σ1 σ2 σ3 v f g} (hn:iZ C k l σ (some v) σ1) (hc:py σ1 l) (hb:bI ρ xs v=some ρ1) (h1:ExL C k body ρ1 σ1 g ρ2 σ2) (hg:g=.next\/g=.cont) (h2:oS C k l xs body orelse ρ2 σ2 f ρ3 σ3):oS C k l xs body orelse ρ σ f ρ3 σ3
 | ret {ρ ρ1 ρ2 σ σ1 σ2 v u} (hn:iZ C k l σ (some v) σ1) (hc:py σ1 l) (hb:bI ρ xs v=some ρ1) (h1:ExL C k body ρ1 σ1 (.ret u) ρ2 σ2):oS C k l xs body orelse ρ σ (.ret u) ρ2 σ2
section
variable {C:Cx} {k:Nat} {l:Nat}
theorem qR {M:Model} {A:Around} {E:Value->Shared->Prop} {s:Shared} {X:Wld} {σ:Sto} {t:Expr} {v:Value} {a:Addr} {Q:Unit->Shared->Prop} (S:SRel C σ X s) (hc:py σ l) (ha:X.φ l=a) (h:Q () s):wpAny M A (letOwnedTupleGo t (.ref a) v) Q E s:=by
 subst ha
 obtain ⟨lx,b,hl⟩:=hc
 have r:=S.obj l _ hl
 cases b with
 | true=>obtain ⟨_,bm,tk,g,_⟩:=r;exact gD g rfl rfl (by rfl) h
 | false=>obtain ⟨_,g⟩:=r;exact gD g rfl rfl (by rfl) h
theorem Ca {xs:List Nm} {body orelse:List St} {ρ:Loc} {σ:Sto} {f:Fl} {ρ':Loc} {σ':Sto} (h:oS C k l xs body orelse ρ σ f ρ' σ') :
 ∀ (n0:Nat) (sc:Scope) (target:Expr) (bodyE orelseE:List Stmt),cn sc target=some xs->mapO (cm n0 sc) bodyE=some body->mapO (cm n0 sc) orelseE=some orelse ->
 ∀ (A:Around) (env:Env) (X:Wld) (s:Shared) (a:Addr) (R:Result->Shared->Prop),Room k A->Rel C env sc ρ σ X s->X.φ l=a->l<σ.next ->
 (∀ g X' s',Rel C env sc ρ' σ' X' s'->Evo C (Pl env) σ X s σ' X' s'->nB C X' σ'.next s'.heap f g->R (.ok g) s') ->
 codeAny (model C.prog C.w) A (.forLoop target (.ref a) bodyE orelseE env) R s:=by
 induction h with
 | @done ρ σ σ1 f ρ' σ' hn h =>
   intro n0 sc target bodyE orelseE ht hb ho A env X s a R rm RR ha hl hR
   refine codeAny_of_tree ?_
   show wpAny _ A ((forTurn target (.ref a) bodyE orelseE env).onRaise (fun x=>do noteFrame x env;theTreesLotGoes x)) _ _ s
   refine wpAny_noted ?_
   rw [gr]
   subst ha
   refine wpAny_bind (wpAny_standAt (wpAny_bind (wpAny_onRaise (hn A X s rm RR.S _ _ fun r X1 s1 S1 e1 hr=>?_))))
   cases r with
   | some r=>exact hr.elim
   | none =>
     refine wpAny_pure ⟨rfl,?_⟩
     exact qZ (h _ _ _ ho A env X1 _ rm (RR.evo0 S1 e1) _ _ fun g X2 s2 R2 v2 fr=>hR g X2 s2 R2 (e1.of0.trans v2) fr)
 | @step ρ ρ1 ρ2 ρ3 σ σ1 σ2 σ3 v f g0 hn hc hbd h1 hg h2 ih =>
   intro n0 sc target bodyE orelseE ht hb ho A env X s a R rm RR ha hl hR
   refine codeAny_of_tree ?_
   show wpAny _ A ((forTurn target (.ref a) bodyE orelseE env).onRaise (fun x=>do noteFrame x env;theTreesLotGoes x)) _ _ s
   refine wpAny_noted ?_
   rw [gr]
   subst ha
   refine wpAny_bind (wpAny_standAt (wpAny_bind (wpAny_onRaise (hn A X s rm RR.S _ _ fun r X1 s1 S1 e1 hr=>?_))))
   cases r with
   | none=>exact hr.elim
   | some r =>
     have hφ1:=(e1.ph l hl).1
     have R1:=RR.evo0 S1 e1
     refine wpAny_bind (qR S1 hc hφ1 (wpAny_bind (asg rm.handled ht hbd R1 hr fun X2 s2 R2 e2=>wpAny_bind (h1 _ _ _ hb A env X2 s2 rm R2 _ _ fun g X3 s3 R3 e3 fr=>?_))))
     have e123:=(e1.of0.trans e2).trans e3
     have hφ3:=(e123.ph l hl).1
     have key:=ih n0 sc target bodyE orelseE ht hb ho A env X3 s3 (X.φ l) R rm R3 hφ3 (Nat.lt_of_lt_of_le hl e123.nx) fun g X4 s4 R4 e4 fr4=>hR g X4 s4 R4 (e123.trans e4) fr4
     rcases hg with rfl | rfl<;>cases g<;>first
      | exact fr.elim
      | exact wpAny_pure ⟨rfl,key⟩
 | @ret ρ ρ1 ρ2 σ σ1 σ2 v u hn hc hbd h1 =>
   intro n0 sc target bodyE orelseE ht hb ho A env X s a R rm RR ha hl hR
   refine codeAny_of_tree ?_
   show wpAny _ A ((forTurn target (.ref a) bodyE orelseE env).onRaise (fun x=>do noteFrame x env;theTreesLotGoes x)) _ _ s
   refine wpAny_noted ?_
   rw [gr]
   subst ha
   refine wpAny_bind (wpAny_standAt (wpAny_bind (wpAny_onRaise (hn A X s rm RR.S _ _ fun r X1 s1 S1 e1 hr=>?_))))
   cases r with
   | none=>exact hr.elim
   | some r =>
     have hφ1:=(e1.ph l hl).1
     have R1:=RR.evo0 S1 e1
     refine wpAny_bind (qR S1 hc hφ1 (wpAny_bind (asg rm.handled ht hbd R1 hr fun X2 s2 R2 e2=>wpAny_bind (h1 _ _ _ hb A env X2 s2 rm R2 _ _ fun g X3 s3 R3 e3 fr=>?_))))
     have e123:=(e1.of0.trans e2).trans e3
     cases g<;>first
      | exact fr.elim
      | exact wpAny_pure (hR _ X3 s3 R3 e123 fr)
theorem kv:Slot "callable_iterator" "__iter__" "callable_iterator.__iter__" :=
 .of (owner := "callable_iterator") (n := "__iter__") (by rw [typeLookup_type,builtinLookup_eq_fast];kernel_rfl) (by rfl) (by rfl) (by rfl)
  (by first | exact .inl (by rfl) | exact .inr (by decide +kernel)) (by rw [isSubtype_type];kernel_rfl)
theorem nY:entryFor table "callable_iterator.__iter__"=some Builtin.«dict_keyiterator.__iter__» :=
 entryFor_alias (id' := "dict_keyiterator.__iter__") (by kernel_rfl) rfl (by decide +kernel) (by kernel_rfl)
theorem oV (a:Value):argsOk "callable_iterator.__iter__" ⟨[a],[]⟩:=by unfold argsOk;kernel_rfl
theorem A9 {σ:Sto} {X:Wld} {s:Shared} (S:SRel C σ X s) (hc:py σ l):s.TypeIs (.ref (X.φ l)) "callable_iterator":=by
 obtain ⟨lx,b,hl⟩:=hc
 have r:=S.obj l _ hl
 cases b with
 | true=>obtain ⟨_,bm,tk,g,_⟩:=r;exact ⟨_,g,rfl⟩
 | false=>obtain ⟨_,g⟩:=r;exact ⟨_,g,rfl⟩
theorem Aa {σ:Sto} {X:Wld} {s:Shared} {A:Around} {E:Value->Shared->Prop} {Q:Value->Shared->Prop} (S:SRel C σ X s) (hc:py σ l) (h:Q (.ref (X.φ l)) s):wpAny (model C.prog C.w) A (pyIter (.ref (X.φ l))) Q E s:=by
 have ht:=A9 S hc
 refine wpAny_pyIter_slot ht kv (wpAny_call_entry kv ht nY ?_ (oV _))
 show wpAny _ _ (ret (.ref (X.φ l))) _ _ s
 exact wpAny_pure ⟨_,rfl, "callable_iterator",_,ht,slot_ci.lookup,h⟩
theorem rT {xs:List Nm} {it:Ex} {body orelse:List St} {f:Fl} {ρ ρ':Loc} {σ σ1 σ2:Sto} (h1:EvE C k it ρ σ (.loc l) σ1) (hc:py σ1 l) (h2:oS C k l xs body orelse ρ σ1 f ρ' σ2):ExS C k (.for_ xs it body orelse) ρ σ f ρ' σ2:=by
 intro n sc t h A env X s rm R Q E hQ
 cases stI h
 rename_i n t ite a b p hs ht e1 e2 e3
 have he:exec (.For t ite a b p) env=(do
  standAt p
  let x <-foldedSetIterable ite env (<-eval ite env)
  standAt ite.pos
  runOwn (.forLoop t (<-holding [x] (pyIter x)) a b env) env):=rfl
 rw [he]
 refine wpAny_bind (wpAny_standAt (wpAny_bind (h1 _ _ _ e1 A env X s rm R _ _ fun x X1 s1 R1 v1 r1=>?_)))
 rw [kR hs]
 obtain ⟨hl,rfl⟩:=r1
 refine wpAny_bind (wpAny_pure (wpAny_bind (wpAny_standAt (wpAny_bind (wpAny_holding (Aa R1.S hc ?_))))))
 exact wpAny_runOwn (Ca h2 n sc t a b ht e2 e3 A env X1 s1 _ _ rm R1 rfl hl fun g X3 s3 R3 v3 fr=>hQ g X3 s3 R3 (v1.trans v3) fr)
end
end
section
open PySem PyProof.Rows PySem.SeqAt PySem.Flt
set_option maxRecDepth 100000
open PySem.W (findIn typeIn clsIn findObj plainGet hasDictIn plainOver makesIn takerIn isFn instObj InstAt dictOf getL putL putN lookIn)
section
variable {C:Cx} {k:Nat} {ρ:Loc} {σ σ1:Sto} {X:Wld} {s:Shared} {n0:Nat} {lx lf pb:Nat} {line:Int}
theorem mE (name:Str) (hsh:Int) (key v:Value):∀ es:List DictEntry,(putL name hsh key v es).length<=es.length+1
 | []=>Nat.le_refl _
 | e::r=>by
   have ih:=mE name hsh key v r
   dsimp only [putL]
   split
   ·simp
   ·simp only [List.length_cons];exact Nat.add_le_add_right ih 1
theorem AN {A:Around} {K:PySem.W.Frag} {x cl dx:Addr} {es:List DictEntry} {n:Nat} {name:Str} {v:Value} {tk:Tok} {R:Result->Shared->Prop} (Xk:K.In s.heap)
 (hx:s.heap.get? x=some (instObj cl dx)) (hd:s.heap.get? dx=some (dictOf es n)) (hp:plainOver K cl=true) (ht:takerIn K cl name=some none) (hh:hasDictIn K cl=true) (hl:(getL name es).isSome=true) (hz:es.length<=100)
 (h:∀ h',Heap.SameBut dx s.heap h'->h'.get? dx=some (dictOf (putL name (PyData.keyHash C.w.params name) (.str name s.toks) v es) (putN name es n))->R (.ok (.ret .none)) { s with heap:=h',toks:=s.toks+1 }) :
 codeAny (model C.prog C.w) A (.call (.builtin "object.__setattr__") ⟨[.ref x,.str name tk,v],[]⟩) R s:=by
 have I:InstAt s.heap x (instObj cl dx) cl (some (dictOf es n)):=⟨hx,rfl,rfl,hd⟩
 refine PySem.W.osa_open (r:=none) Xk I hp ht fun b=>?_
 obtain ⟨cd,hc,hd'⟩:=PySem.W.any_some hh
 refine wpAny_bind (wpAny_pure (wpAny_bind (wpAny_bind (wpAny_loadPart hx (wpAny_bind ((PySem.W.looks_clsIn Xk hc).here ?_))))))
 rw [hd']
 refine wpAny_pure (a:=some dx) (wpAny_bind (wpAny_pure (wpAny_bind ?_)))
 unfold nsSet
 refine wpAny_bind (wpAny_bind (wpAny_askSetting (wpAny_pure (wpAny_bind (wpAny_mkText (wpAny_bind (wpAny_loadPart hd ?_)))))))
 have c:(!es.toArray.any (·.key.isStr name)&&es.toArray.any (·.refKey))=false:=by
  unfold getL at hl
  rw [List.any_toArray,List.any_toArray]
  split at hl
  ·rename_i en he
   rw [List.any_eq_true.mpr ⟨en,List.mem_of_find?_eq_some he,List.find?_some he⟩];rfl
  ·split at hl
   ·cases hl
   ·rename_i z;rw [Bool.not_eq_true] at z;rw [z,Bool.and_false]
 dsimp only
 rw [aRefKeyMayBeTheName_at,c]
 have hu:=Heap.get?_update_self (Obj.putName name (PyData.keyHash C.w.params name) (.str name s.toks) v) hd (by rw [PySem.W.putName_dict];rfl)
 rw [PySem.W.putName_dict] at hu
 refine wpAny_updatePart hd ?_
 refine wpAny_bind (wpAny_lookBehind hu (pastItsLine_dict (by have:=mE name (PyData.keyHash C.w.params name) (.str name s.toks) v es;rw [List.size_toArray,sizeLine_eq];lia -abstractProof)) ?_)
 exact wpAny_pure (h _ (Heap.SameBut.update ..) hu)
theorem rD {A:Around} {E:Value->Shared->Prop} {K:PySem.W.Frag} {x cl dx:Addr} {es:List DictEntry} {n:Nat} {name:Str} {v:Value} {Q:Unit->Shared->Prop} (Xk:K.In s.heap) (hs:findIn K (.ref cl) "__setattr__"=some (some (.builtin "object.__setattr__")))
 (hx:s.heap.get? x=some (instObj cl dx)) (hd:s.heap.get? dx=some (dictOf es n)) (hp:plainOver K cl=true) (ht:takerIn K cl name=some none) (hh:hasDictIn K cl=true) (hl:(getL name es).isSome=true) (hz:es.length<=100)
 (h:∀ h',Heap.SameBut dx s.heap h'->h'.get? dx=some (dictOf (putL name (PyData.keyHash C.w.params name) (.str name (s.toks+1)) v es) (putN name es n))->Q () { s with heap:=h',toks:=s.toks+1+1 }) :
 wpAny (model C.prog C.w) A (setAttr (.ref x) name v) Q E s :=
 PySem.W.set_plain Xk (show InstAt s.heap x (instObj cl dx) cl (some (dictOf es n)) from ⟨hx,rfl,rfl,hd⟩) hs (AN (s:={ s with toks:=s.toks+1 }) Xk hx hd hp ht hh hl hz h)
theorem xj (S:SRel C σ X s) (hl:σ.get lx=some (.lexer lf line pb)) {h':Heap} {tk:Nat} {line':Int} {d:LD} {f:Addr} (st:StreamAt C X s.heap f (X.φ lf)) (hs:Heap.SameBut (X.ψ lx) s.heap h')
 (hg:h'.get? (X.ψ lx)=some (kS d line' f (X.φ pb))):SRel C (σ.set lx (.lexer lf line' pb)) X { s with heap:=h',toks:=tk }/\Evo C NoP σ X s (σ.set lx (.lexer lf line' pb)) X { s with heap:=h',toks:=tk }:=by
 have A:=S.obj lx _ hl
 have nz:¬ X.Z (X.ψ lx):=S.zw _ (.inr ⟨lx,_,hl,by simp [foot]⟩)
 have kz:∀ b o,X.Z b->s.heap.get? b=some o->h'.get? b=some o:=fun b o z e=>(hs.2 b (fun q=>nz (q▸z))).trans e
 refine S.setO (o':=.lexer lf line' pb) hl rfl (fun b ob nb e=>(hs.2 b (by exact List.ne_of_not_mem_cons nb)).trans e) (fun b m=>by simp only [foot,List.mem_singleton] at m;subst m;exact ⟨_,hg⟩) (Nat.le_of_eq hs.1.symm) rfl rfl ?_
 exact ⟨LexAt.hlf A,LexAt.hpb A,LexAt.zi A,kz _ _ (LexAt.zi A) (Mine.LexAt.inst A),d,f,hg,st.mono kz fun _ z=>z⟩
theorem wC (L:LexOk C) {a:Ex} {d:Int} (h1:EvE C k a ρ σ (.loc lx) σ) (hl:σ.get lx=some (.lexer lf line pb)):ExS C k (.augattr a (nm aR) .Add (.cInt d)) ρ σ .next ρ (σ.set lx (.lexer lf (line+d) pb)):=by
 intro n sc t h A env X s rm R Q E hQ
 cases stI h
 rename_i n' oe m p' ve p e1 e2 hm
 have hm:=gq hm
 subst hm
 refine wpAny_AugAssign_AttributeAny (h1 _ _ _ e1 A env X s rm R _ _ fun o X1 s1 R1 v1 r1=>?_)
 obtain ⟨hlx,rfl⟩:=r1
 refine j1 L R1.S hl (by exact List.mem_cons_self) (fun _ _=>iR) fun _ _ _=>?_
 obtain ⟨R2,v2⟩:=R1.grown (Grow.toks (s1.toks+1))
 refine ⟨rfl,aB (k:=k) (ρ:=ρ) _ _ _ e2 A env X1 _ rm R2 _ _ fun u X3 s3 R3 v3 r3=>?_⟩
 obtain ⟨t7,rfl⟩:∃ t,u=.int d t:=r3
 refine PySem.P.iadd_int ?_
 obtain ⟨R4,v4⟩:=R3.grown (Grow.toks (s3.toks+1))
 obtain ⟨g,f',I,st'⟩:=LexAt.instAt (R4.S.obj lx _ hl)
 have hline:=fun (v:Value)=>(show putL aR (PyData.keyHash C.w.params aR) (.str aR (s3.toks+1+1)) v [⟨g.h1,.str aR g.t1,.int line g.t5⟩,⟨g.h2,.str aM g.t2,.ref f'⟩,⟨g.h3,.str cj g.t3,.str white g.t6⟩,⟨g.h4,.str d5 g.t4,.ref (X3.φ pb)⟩]=[⟨g.h1,.str aR g.t1,v⟩,⟨g.h2,.str aM g.t2,.ref f'⟩,⟨g.h3,.str cj g.t3,.str white g.t6⟩,⟨g.h4,.str d5 g.t4,.ref (X3.φ pb)⟩] from by
  rw [putL];exact List.toList_toArray)
 have hφ:X3.φ lx=X1.φ lx:=(v3.ph lx hlx).1
 rw [<-hφ]
 refine rD (L.kin R4.S) L.sa (Mine.LexAt.inst (R4.S.obj lx _ hl)) I.dict L.over (L.dat aR (by exact List.mem_cons_self)).2 L.hd (by rw [show getL aR _=_ from iR];rfl) (by exact Nat.le_of_ble_eq_true rfl) fun h' hsb hg=>?_
 rw [hline] at hg
 obtain ⟨S5,v5⟩:=xj (tk:=s3.toks+1+1+1) (d:=⟨g.h1,g.h2,g.h3,g.h4,g.t1,g.t2,g.t3,g.t4,s3.toks,g.t6,putN aR [⟨g.h1,.str aR g.t1,.int line g.t5⟩,⟨g.h2,.str aM g.t2,.ref f'⟩,⟨g.h3,.str cj g.t3,.str white g.t6⟩,⟨g.h4,.str d5 g.t4,.ref (X3.φ pb)⟩] g.k⟩) (line':=line+d) R4.S hl st' hsb hg
 exact hQ _ X3 _ (R4.evo0 S5 v5) ((((v1.trans v2).trans v3).trans v4).trans v5.of0) trivial
end
end
section
open PySem PyProof.Rows PySem.SeqAt PySem.Flt
set_option maxRecDepth 100000
open PySem.W (findIn typeIn clsIn findObj plainGet hasDictIn plainOver makesIn takerIn isFn instObj InstAt dictOf getL putL putN lookIn)
section
variable {C:Cx} {k:Nat} {ρ:Loc} {σ σ1:Sto} {X:Wld} {s:Shared} {n0:Nat} {lx lf pb:Nat} {line:Int}
theorem Bo:typeLookup (.type "function") "__getattribute__"=pure (some (.builtin "object.__getattribute__")):=by rw [typeLookup_type,builtinLookup_eq_fast];kernel_rfl
theorem Ay:typeLookup (.type "function") "__getattr__"=pure none:=by rw [typeLookup_type,builtinLookup_eq_fast];kernel_rfl
theorem lq:typeLookup (.type "function") ca=pure none:=by rw [typeLookup_type,builtinLookup_eq_fast];kernel_rfl
theorem slot_fn_ga:Slot "function" "__getattribute__" "object.__getattribute__" :=
 .of (owner := "object") (n := "__getattribute__") (by rw [typeLookup_type,builtinLookup_eq_fast];kernel_rfl) (by rfl) (by rfl) (by rfl)
  (by first | exact .inl (by rfl) | exact .inr (by decide +kernel)) (by rw [isSubtype_type];kernel_rfl)
theorem wZ {A:Around} {E:Value->Shared->Prop} {f df g:Addr} {o:Obj} {fd:FuncData} {hs:Int} {tk:Tok} {kk:Nat} {Q:Value->Shared->Prop} {expr:Bool} (hf:s.heap.get? f=some o) (hc:o.cls=.type "function") (hdi:o.dict=some df) (hda:o.data=.func fd)
 (hd:s.heap.get? df=some (dictOf [⟨hs,.str ca tk,.ref g⟩] kk)) (h:Q (.ref g) { s with toks:=s.toks+1 }):wpAny (model C.prog C.w) A (getAttr (.ref f) ca expr) Q E s:=by
 obtain ⟨cls,dict,data,sl⟩:=o
 dsimp only at hc hdi hda
 subst hc hdi hda
 obtain ⟨hp,g',d,t,os⟩:=s
 dsimp only at hf hd
 have hT:∀ t',(⟨hp,g',d,t',os⟩:Shared).TypeIs (.ref f) "function":=fun _=>⟨_,hf,rfl⟩
 have hlk:=Bo
 have hbind:=slot_fn_ga.bind (.ref f)
 delta getAttr getAttrBy
 refine wpAny_bind (wpAny_mkText (wpAny_holding (wpAny_bind (wpAny_typeOf (hT _) (wpAny_bind (wpAny_of_eq hlk ?_))))))
 show wpAny _ _ (getAttrByItsOwn (.ref f) (.str ca t) (.type "function") (.builtin "object.__getattribute__") true expr) _ _ _
 delta getAttrByItsOwn hookBefore callGetattribute boundAndCalled
 refine wpAny_bind (wpAny_of_eq (show (if onTheHeap (.type "function") then typeLookup (.type "function") "__getattr__" else pure none)=pure none from rfl) ?_)
 refine wpAny_bind (wpAny_attempt (wpAny_holding ?_))
 rw [show (expr&&onTheHeap (.builtin "object.__getattribute__"))=false from by cases expr<;>rfl]
 rw [if_neg (by decide)]
 refine wpAny_bind (wpAny_of_eq hbind ?_)
 refine wpAny_mono (Q:=fun v s'=>v=.ref g/\s'=⟨hp,g',d,t+1,os⟩) (E:=fun _ _=>False)
  (wpAny_call_entry slot_fn_ga (hT _) PySem.F.entry_object_getattribute ?_ (PySem.F.args_object_getattribute_2 _ _)) (fun v s' hv=>?_) fun _ _ z=>z.elim
 ·unfold Builtin.«object.__getattribute__»
  refine wpAny_bind (m:=slotArgs "__getattribute__" 1 _) (wpAny_of_eq (a:=(Value.ref f,[Value.str ca t])) (by first | rfl | kernel_rfl) ?_)
  dsimp only
  refine wpAny_bind (wpAny_pure (wpAny_bind (wpAny_typeOf (hT _) ?_)))
  refine wpAny_bind ?_
  unfold Builtin.ObjectAttr.find
  refine wpAny_bind (wpAny_of_eq lq ?_)
  refine wpAny_bind (m:=Builtin.ObjectAttr.getOf none) (wpAny_pure ?_)
  refine wpAny_bind (m:=Builtin.ObjectAttr.dataDescriptor? none none) (wpAny_pure ?_)
  show wpAny _ _ (Builtin.ObjectAttr.inOwnDict ca (.ref f) >>= _) _ _ _
  refine wpAny_bind (wpAny_bind ?_)
  show wpAny _ _ (loadHead f >>= _) _ _ _
  refine wpAny_bind (wpAny_loadPart hf ?_)
  show wpAny _ _ (instanceDict f false) _ _ _
  unfold instanceDict
  refine wpAny_bind (wpAny_loadPart hf ?_)
  refine wpAny_pure ?_
  show wpAny _ _ (nsGet df ca) _ _ _
  unfold nsGet
  refine wpAny_bind (wpAny_loadPart hd ?_)
  refine wpAny_of_eq (PySem.W.nsLook_of (show lookIn ca (dictOf [⟨hs,.str ca tk,.ref g⟩] kk)=some (some (.ref g)) from ?_)) ?_
  ·simp only [PySem.W.lookIn_dict]
   unfold getL
   rfl
  ·refine wpAny_bind (wpAny_rule (wpAny_pure ?_))
   exact wpAny_pure ⟨_,rfl,rfl,rfl⟩
 ·obtain ⟨rfl,rfl⟩:=hv
  exact wpAny_pure h
end
end
section
open PySem PyProof.Rows PySem.SeqAt PySem.Flt
set_option maxRecDepth 100000
noncomputable abbrev fB:Str := "count"
noncomputable def mq (p1 p2 p3 p4 p5 p6 p7 p8 p9 p10 p11:Pos):Expr :=
 .IfExp (.BoolOp .And [.Name bJ p1,.Compare (.Name fB p2) [.Eq] [.Constant (.int 1) 0 p3] p4] p5) (.Call (.Attribute (.Name bJ p6) "pop" p7) [.Constant (.int 0) 0 p8] [] p9) (.Constant (.str "") 0 p10) p11
structure lP (C:Cx):Prop where
 body:∃ p1 p2 p3 p4 p5 p6 p7 p8 p9 p10 p11,C.lamB=mq p1 p2 p3 p4 p5 p6 p7 p8 p9 p10 p11/\p7.endLine=p9.line
 scope:C.lamS={ kind:=.function,names:=[(fB,.local),(bJ,.free)],isGenerator:=false,isCoroutine:=false,more:=[] }
 bind:∀ cl pm c ct v,bindArgs (PySem.W.kla_fn C.lamN C.lamQ C.lamP C.lamB C.lamS cl pm c ct) ⟨[v],[]⟩=pure [(fB,v)]
section
variable {C:Cx} {k:Nat} {ρ:Loc} {σ σ1:Sto} {X:Wld} {s:Shared} {n0:Nat} {lx lf pb:Nat} {line:Int}
theorem xR (Lm:lP C) {A:Around} {env:Env} {cell:Addr} {u:Tok} {Q:Value->Shared->Prop} {E:Value->Shared->Prop} {vs:List V} (rm:Room k A) (S:SRel C σ X s) (hl:σ.get lf=some (.list vs)) (hlf:lf<σ.next) (hz:vs.length<sizeLine)
 (hk:env.scope.kind=.function) (k1:env.kindOf fB=some .local) (k2:env.kindOf bJ=some .free) (hc:env.cells.lookup bJ=some cell) (hcell:s.heap.IsCell cell (some (.ref (X.φ lf)))) (zc:X.Z cell)
 {m:Str->Option Value} (hm:s.heap.Ns env.locals m) (hm1:m fB=some (.int 1 u))
 (h0:vs=[]->∀ t n,Q (.str (ao []) t) { s with toks:=n })
 (h1:∀ v r,vs=v::r->∀ a X' s',SRel C (σ.set lf (.list r)) X' s'->Evo C NoP σ X s (σ.set lf (.list r)) X' s'->VRel C X' σ.next s'.heap v a->Q a s') :
 wpAny (model C.prog C.w) A (eval C.lamB env) Q E s:=by
 obtain ⟨p1,p2,p3,p4,p5,p6,p7,p8,p9,p10,p11,hb,hp⟩:=Lm.body
 rw [hb]
 unfold mq
 have ldLeft:∀ (s':Shared) (Q:Value->Shared->Prop) (p:Pos),s'.heap.IsCell cell (some (.ref (X.φ lf)))->Q (.ref (X.φ lf)) s'->wpAny (model C.prog C.w) A (eval (.Name bJ p) env) Q E s':=fun s' Q p hc' hq =>
  wpAny_Name (wpAny_loadName_free hk k2 hc hc' hq (by rfl)) (by rfl)
 refine wpAny_IfExp (wpAny_isTrue_BoolOp (wpAny_allTrue_And_cons ?_))
 refine wpAny_isTrue_value (ldLeft s _ _ hcell ?_) rfl
 refine i6 hl (by rw [sizeLine_eq] at hz;lia -abstractProof) A X s _ S ⟨hlf,rfl⟩ _ _ fun t=>?_
 cases vs with
 | nil =>
   show wpAny _ A (eval (.Constant (.str "") 0 p10) env) Q E _
   exact wpAny_Constant_str (h0 rfl _ _)
 | cons v r =>
   obtain ⟨S1,e1⟩:=eD S t
   have hcell1:Heap.IsCell ({ s with toks:=t }:Shared).heap cell (some (.ref (X.φ lf))):=hcell
   refine wpAny_allTrue_And_cons ?_
   refine wpAny_isTrue_Compare1 ?_ rfl
   refine wpAny_Name (wpAny_loadName_local hk k1 (show ({ s with toks:=t }:Shared).heap.Ns env.locals m from hm) hm1 ?_) (by rfl)
   refine wpAny_Constant_int ?_
   refine PySem.P.eq_int (wpAny_truthy_bool ?_)
   show wpAny _ A (allTrue .And [] env) _ _ _
   refine wpAny_allTrue_And_nil ?_
   show wpAny _ A (eval (.Call (.Attribute (.Name bJ p6) "pop" p7) [.Constant (.int 0) 0 p8] [] p9) env) Q E _
   have hpos:methodCallPos true (.Name bJ p6) env p7 p9=pure p9:=by unfold methodCallPos;simp [hp]
   obtain ⟨S2,e2⟩:=eD S (t+1)
   have hcell2:Heap.IsCell ({ s with toks:=t+1 }:Shared).heap cell (some (.ref (X.φ lf))):=hcell
   rw [arm_eval_Call,ia rfl]
   refine wpAny_bind (ldLeft { s with toks:=t+1 } _ _ hcell2 (wpAny_bind (wpAny_standAt ?_)))
   unfold methodCall
   rw [show methodCallForm _ _ _=true from rfl]
   refine wpAny_bind (wpAny_holding ?_)
   show wpAny _ A (getMethod (.ref (X.φ lf)) "pop" _) _ _ _
   have gm:=cS (C:=C) (name:=nm "pop") hl (by rw [aK];exact PySem.F.slot_list_pop) PySem.F.type_list_pop A X { s with toks:=t+1 } (.ref (X.φ lf)) (do return (<-importBound (.Name bJ p6) env).getD true) S2 ⟨hlf,rfl⟩
   rw [aK] at gm
   refine gm _ _ (wpAny_bind (wpAny_of_eq hpos ?_))
   refine Calls.callWith_builtin rfl (Calls.evalArgs_plain (wpAny_items_cons (wpAny_Constant_int ?_) rfl))
   refine wpAny_items_nil ?_
   obtain ⟨S3,e3⟩:=eD S (t+1+1)
   refine un (k:=k) hl (by simpa using Nat.lt_of_succ_lt hz) A X _ _ rm S3 (.cons ⟨hlf,rfl⟩ (.cons ⟨_,rfl⟩ .nil)) Q E fun a X' s' S' e' r'=>?_
   exact h1 v r rfl a X' s' S' (e3.trans e') r'
noncomputable def rdV:List V->V
 | []=>.str []
 | v::_=>v
noncomputable def rdS (σ:Sto) (lf:Nat):List V->Sto
 | []=>σ
 | _::r=>σ.set lf (.list r)
theorem xi (H:COk C) (Lm:lP C) {A:Around} {t:Tok} {R:Result->Shared->Prop} {vs:List V} (rm:Room (k+1) A) (S:SRel C σ X s) (hl:σ.get lf=some (.list vs)) (hz:vs.length<sizeLine)
 (cell g c:Addr) (pm ctv:Value) (hg:s.heap.get? g=some (PySem.W.kla_obj C.lamN C.lamQ C.lamP C.lamB C.lamS [(bJ,cell)] pm c ctv)) (zc:X.Z cell) (hcell:s.heap.IsCell cell (some (.ref (X.φ lf)))) (hcode:s.heap.CodeRec (.ref c) C.lamQ)
 (hR:∀ a X' s',SRel C (rdS σ lf vs) X' s'->Evo C NoP σ X s (rdS σ lf vs) X' s'->VRel C X' σ.next s'.heap (rdV vs) a->R (.ok (.ret a)) s') :
 codeAny (model C.prog C.w) A (.call (.ref g) ⟨[.int 1 t],[]⟩) R s:=by
 have hsc:=Lm.scope
 refine PySem.W.kla_callFunE (by have:=rm.depth;show A.depth<1000;lia -abstractProof) hg rfl (by rw [hsc]) (by rw [hsc]) rfl hcode ?_
 rw [Lm.bind]
 refine wpAny_pure (wpAny_newFunctionEnv (by rw [hsc];intro x hx;simp at hx;rcases hx with rfl | rfl<;>decide) (by intro y hy;simp at hy;subst hy;rw [hsc];rfl) (fun h₁ hns hsb=>?_) (by rw [hsc]))
 have hkeep:∀ b o,s.heap.get? b=some o->h₁.get? b=some o:=fun b o e=>hsb.extBut b o (Nat.ne_of_lt (Heap.lt_size e)) (Heap.get?_push_of_some _ e)
 have hsize:s.heap.objs.size<=h₁.objs.size:=by rw [hsb.1,Heap.size_push];lia -abstractProof
 obtain ⟨S1,e1⟩:=S.kept (s.toks+[(fB,Value.int 1 t)].length) hkeep hsize
 refine ⟨S1.nolimit H,PySem.W.kla_codeExpr ?_⟩
 have rm':Room k (A.deeper (newEnv C.lamS s.heap.objs.size mainGlobals [(bJ,cell)] (C.lamQ ++ ".<locals>.") (some g) (.ref c) none builtinsNs)):=⟨by have:=rm.depth;show A.depth+1+k<=900;lia -abstractProof,by have:=rm.units;show A.units+3+20*k<=9000;lia -abstractProof,rm.handled⟩
 refine xR (k:=k) Lm (cell:=cell) (u:=t) (vs:=vs) rm' S1 hl (S.lt _ _ hl) hz (by show C.lamS.kind=_;rw [hsc]) (by show C.lamS.names.lookup fB=_;rw [hsc];rfl) (by show C.lamS.names.lookup bJ=_;rw [hsc];rfl) (by rfl) (let ⟨o,e,d⟩:=hcell;⟨o,hkeep _ _ e,d⟩) zc hns (by rfl) (fun e t' n=>?_) (fun v r e a X' s' S' e' r'=>?_)
 ·subst e
  obtain ⟨S2,e2⟩:=S1.grow0 (Grow.toks n)
  exact hR _ X _ S2 (e1.trans e2) ⟨_,rfl⟩
 ·subst e
  exact hR a X' s' S' (e1.trans e') r'
noncomputable abbrev Bj:Nm:=nm ca
theorem zB (H:COk C) (L:LexOk C) (Lm:lP C) {a:Ex} {vs:List V} (h1:EvE (C:=C) (k+1) a ρ σ (.loc lx) σ) (hl:σ.get lx=some (.lexer lf line pb)) (hlf:σ.get lf=some (.list vs)) (hz:vs.length<sizeLine) :
 EvE C (k+1) (.meth (.attr a (nm aM)) Bj [.cInt 1]) ρ σ (rdV vs) (rdS σ lf vs):=by
 intro n sc e h A env X s rm R Q E hQ
 cases erI h
 rename_i n oe m p' as p hs hp hlen e1 e2 hm
 have hm:=gq hm
 subst hm
 obtain ⟨ea,r,rfl,e3,e4⟩:=aY e2
 obtain rfl:=cQ e4
 cases erI e1
 rename_i n' ob m' q' hs' e5 hm'
 have hm':=gq hm'
 subst hm'
 have hpos:methodCallPos true (.Attribute ob aM q') env p' p=pure p:=by unfold methodCallPos;exact if_pos hp
 rw [arm_eval_Call,ia hs,arm_eval_Attribute,ia hs']
 refine wpAny_bind (wpAny_bind (h1 _ _ _ e5 A env X s rm R _ _ fun o X1 s1 R1 v1 r1=>wpAny_bind (wpAny_standAt (wpAny_bind (wpAny_holding ?_)))))
 obtain ⟨hlx,rfl⟩:=r1
 refine j1 L R1.S hl (by decide) (fun _ _=>vZ) fun _ f st=>?_
 obtain ⟨R2,v2⟩:=R1.grown (Grow.toks (s1.toks+1))
 refine ⟨rfl,?_⟩
 refine wpAny_bind (wpAny_letTemporaryGo ?_)
 refine wpAny_pure (wpAny_bind (wpAny_standAt ?_))
 obtain ⟨of,fd,df,g,cell,c,hsh,tk,kk,pm,ctv,zf,gf,cf,df',ff,zd,gd,zg,gg,zc,gc,zcode,hcode⟩:=st
 unfold methodCall
 rw [show methodCallForm _ _ _=true from by
  rw [dN e3];rfl]
 refine wpAny_bind (wpAny_holding ?_)
 show wpAny _ A (getMethod (.ref f) ca _) _ _ _
 unfold getMethod
 have hT:({ s1 with toks:=s1.toks+1 }:Shared).TypeIs (.ref f) "function":=⟨_,gf,cf⟩
 refine wpAny_bind (wpAny_specialOf hT Bo ?_)
 dsimp only
 rw [PySem.F.canon_object_ga,if_neg (by decide)]
 refine wpAny_bind (wpAny_specialOf hT Ay ?_)
 rw [if_neg (by decide)]
 refine wpAny_bind (wpAny_specialOf hT lq ?_)
 dsimp only
 refine wpAny_bind (wZ (s:={ s1 with toks:=s1.toks+1 }) gf cf df' ff gd ?_)
 refine wpAny_pure (wpAny_bind (wpAny_of_eq hpos ?_))
 obtain ⟨R3,v3⟩:=R2.grown (Grow.toks (s1.toks+1+1))
 refine Calls.callWith_function (o:=PySem.W.kla_obj C.lamN C.lamQ C.lamP C.lamB C.lamS [(bJ,cell)] pm c ctv) (fd:=PySem.W.kla_fn C.lamN C.lamQ C.lamP C.lamB C.lamS [(bJ,cell)] pm (.ref c) ctv) ?_
 have rmk:Room k A:=⟨by have:=rm.depth;exact Nat.le_of_succ_le this,by have:=rm.units;lia -abstractProof,rm.handled⟩
 refine ml e2 ?_
 refine wpAny_items_cons (aB (k:=k) (ρ:=ρ) _ _ _ e3 A env X1 _ rmk R3 _ _ fun u X4 s4 R4 v4 r4=>?_) (dN e3 _ env)
 refine wpAny_items_nil ?_
 obtain ⟨t7,rfl⟩:∃ t,u=.int 1 t:=r4
 have kz:∀ b o,X1.Z b->s1.heap.get? b=some o->s4.heap.get? b=some o:=fun b o z e=>v4.zkeep R3.S R3.pz b o z e
 have hφ:X4.φ lf=X1.φ lf:=(v4.ph lf (R1.S.lt _ _ hlf)).1
 have gc4:s4.heap.IsCell cell (some (.ref (X4.φ lf))):=by rw [hφ];obtain ⟨o,e,d⟩:=gc;exact ⟨o,kz _ _ zc e,d⟩
 have gg4:=kz _ _ zg gg
 have hcode4:s4.heap.CodeRec (.ref c) C.lamQ:=lk hcode fun _=>kz _ _ zcode
 refine ⟨⟨gg4,rfl⟩,wpAny_call (xi H Lm rm R4.S hlf hz cell g c pm ctv gg4 (v4.zm _ zc) gc4 hcode4 fun a X5 s5 S5 v5 r5=>?_)⟩
 exact hQ a X5 s5 (R4.evo0 S5 v5) (((((v1.trans v2).trans v3).trans v4)).trans v5.of0) (by cases vs<;>exact r5)
end
end
section
open PySem PyProof.Rows PySem.SeqAt PySem.Flt
set_option maxRecDepth 100000
open PySem.W (findIn typeIn clsIn findObj plainGet hasDictIn plainOver makesIn takerIn isFn instObj InstAt dictOf getL putL putN lookIn)
open PySem.Builtin.ObjectAttr
section
variable {C:Cx} {s:Shared}
theorem CI:mroOf (.type "function")=pure [.type "function",.type "object"]:=by kernel_rfl
theorem we (self:Value):refuseLoop self "__setattr__" [.type "function",.type "object"]=pure ():=by kernel_rfl
theorem slot_fn_sa:Slot "function" "__setattr__" "object.__setattr__" :=
 .of (owner := "object") (n := "__setattr__") (by rw [typeLookup_type,builtinLookup_eq_fast];kernel_rfl) (by rfl) (by rfl) (by rfl)
  (by first | exact .inl (by rfl) | exact .inr (by decide +kernel)) (by rw [isSubtype_type];kernel_rfl)
theorem Aj (a b c:Value):argsOk "object.__setattr__" ⟨[a,b,c],[]⟩:=by unfold argsOk;kernel_rfl
theorem xA {A:Around} {E:Value->Shared->Prop} {f:Addr} {o:Obj} {fd:FuncData} {v:Value} {Q:Unit->Shared->Prop} (hf:s.heap.get? f=some o) (hc:o.cls=.type "function") (hdi:o.dict=none) (hda:o.data=.func fd)
 (h:∀ h' tk hs t' kk df,(∀ b ob,b≠f->s.heap.get? b=some ob->h'.get? b=some ob)->s.heap.objs.size<=h'.objs.size->s.heap.objs.size<=df->h'.get? f=some { o with dict:=some df } ->
   h'.get? df=some (dictOf [⟨hs,.str ca t',v⟩] kk)->Q () { s with heap:=h',toks:=tk }):wpAny (model C.prog C.w) A (setAttr (.ref f) ca v) Q E s:=by
 obtain ⟨cls,dict,data,sl⟩:=o
 dsimp only at hc hdi hda
 subst hc hdi hda
 obtain ⟨hp,g',d,t,os⟩:=s
 dsimp only at hf h
 have hT:∀ t',(⟨hp,g',d,t',os⟩:Shared).TypeIs (.ref f) "function":=fun _=>⟨_,hf,rfl⟩
 delta setAttr callSpecial? specialOf
 refine wpAny_bind (wpAny_mkText (wpAny_bind (wpAny_bind (wpAny_bind (wpAny_typeOf (hT _) (wpAny_of_eq slot_fn_sa.lookup (wpAny_holding ?_)))))))
 rw [slot_fn_sa.bind]
 refine wpAny_bind (wpAny_pure (wpAny_bind (wpAny_call_entry slot_fn_sa (hT _) PySem.F.entry_object_sa ?_ (Aj _ _ _))))
 show wpAny _ _ (Builtin.«object.__setattr__» ⟨[.ref f,.str ca t,v],[]⟩) _ _ ⟨hp,g',d,t+1,os⟩
 rw [PySem.W.osa_eq,refuse_eq]
 refine wpAny_bind (wpAny_bind (wpAny_typeOf (hT _) (wpAny_bind (wpAny_of_eq CI ?_))))
 rw [we]
 refine wpAny_pure (wpAny_bind (wpAny_typeOf (hT _) (wpAny_bind (wpAny_of_eq lq (wpAny_bind (m:=storeTaker? none) (wpAny_pure ?_))))))
 show wpAny _ _ (storeInOwnDict (.ref f) (.type "function") (.str ca t) ca v false) _ _ _
 unfold storeInOwnDict
 refine wpAny_bind (m:=ownStreamTells _ _) (wpAny_pure ?_)
 refine wpAny_bind ?_
 show wpAny _ _ (instanceDict f true) _ _ _
 unfold instanceDict
 refine wpAny_bind (wpAny_loadPart hf ?_)
 have hx₁:(hp.push { cls:=.type "dict",data:=.dict #[] }).get? f=some _:=Heap.get?_push_of_some _ hf
 have hxs:f≠hp.objs.size:=Nat.ne_of_lt (Heap.lt_size hf)
 refine wpAny_bind (wpAny_alloc (wpAny_bind (wpAny_updatePart hx₁ (wpAny_pure ?_))))
 have hgd:((hp.push { cls:=.type "dict",data:=.dict #[] }).update f fun o=>{ cls:=o.cls,dict:=some hp.objs.size,data:=o.data,slots:=o.slots }).get? hp.objs.size=some (dictOf [] 0) :=
  (Heap.get?_update_ne _ _ _ _ hxs.symm).trans (Heap.get?_push_at rfl rfl)
 have hgf:=Heap.get?_update_self (fun o:Obj=>{ cls:=o.cls,dict:=some hp.objs.size,data:=o.data,slots:=o.slots }) hx₁ rfl
 show wpAny _ _ (storeInDict hp.objs.size (.str ca t) ca v) _ _ _
 delta storeInDict newKeyGuard
 refine wpAny_bind (wpAny_pure (wpAny_bind ?_))
 unfold nsSet
 refine wpAny_bind (wpAny_bind (wpAny_askSetting (wpAny_pure (wpAny_bind (wpAny_mkText (wpAny_bind (wpAny_loadPart hgd ?_)))))))
 dsimp only
 have hu:=Heap.get?_update_self (Obj.putName ca (PyData.keyHash C.w.params ca) (.str ca (t+1)) v) hgd (by rw [PySem.W.putName_dict];rfl)
 rw [PySem.W.putName_dict] at hu
 have c:(!([]:List DictEntry).toArray.any (·.key.isStr ca)&&([]:List DictEntry).toArray.any (·.refKey))=false:=by simp
 rw [aRefKeyMayBeTheName_at,c]
 refine wpAny_updatePart hgd ?_
 refine wpAny_bind (wpAny_lookBehind hu (pastItsLine_dict (by have:=mE ca (PyData.keyHash C.w.params ca) (.str ca (t+1)) v [];rw [List.size_toArray,sizeLine_eq];simp only [List.length_nil] at this;exact Nat.le_add_left_of_le this)) ?_)
 refine wpAny_pure ⟨_,rfl,wpAny_pure (wpAny_pure ?_)⟩
 have sb:∀ b,b≠hp.objs.size->_:=(Heap.SameBut.update (h:=(hp.push { cls:=.type "dict",data:=.dict #[] }).update f fun o=>{ cls:=o.cls,dict:=some hp.objs.size,data:=o.data,slots:=o.slots }) (a:=hp.objs.size) (f:=Obj.putName ca (PyData.keyHash C.w.params ca) (.str ca (t+1)) v)).2
 have sz:=(Heap.SameBut.update (h:=(hp.push { cls:=.type "dict",data:=.dict #[] }).update f fun o=>{ cls:=o.cls,dict:=some hp.objs.size,data:=o.data,slots:=o.slots }) (a:=hp.objs.size) (f:=Obj.putName ca (PyData.keyHash C.w.params ca) (.str ca (t+1)) v)).1
 refine h _ _ _ _ _ hp.objs.size (fun b ob nb e=>?_) ?_ (Nat.le_refl _) ?_ hu
 ·exact (sb b (Nat.ne_of_lt (Heap.lt_size e))).trans ((Heap.get?_update_ne _ _ _ _ nb).trans (Heap.get?_push_of_some _ e))
 ·refine Nat.le_trans ?_ (Nat.le_of_eq (sz.trans (Heap.SameBut.update ..).1).symm)
  rw [Heap.size_push];simp
 ·exact (sb f hxs).trans hgf
end
end
section
open PySem PyProof.Rows PySem.SeqAt PySem.Flt
set_option maxRecDepth 100000
open PySem.W (findIn typeIn clsIn findObj plainGet hasDictIn plainOver makesIn takerIn isFn instObj InstAt dictOf getL putL putN lookIn CodeHd tabObj kla_obj)
section
variable {C:Cx} {k:Nat} {ρ:Loc} {σ σ':Sto} {X X':Wld} {s s':Shared} {env:Env} {sc:Scope}
theorem SRel.turnFree {f:Addr} (S:SRel C σ X s) (hz:¬ X.Z f) (hw:¬ Wr C σ X f) (keep:∀ b ob,b≠f->s.heap.get? b=some ob->s'.heap.get? b=some ob) (size:s.heap.objs.size<=s'.heap.objs.size) (os:s'.os=s.os) (gens:s'.gens=s.gens) :
 SRel C σ X s'/\Evo C (fun b=>b=f) σ X s σ X s':=by
 have kz:∀ b ob,X.Z b->s.heap.get? b=some ob->s'.heap.get? b=some ob:=fun b ob z e=>keep b ob (fun q=>hz (q▸z)) e
 have kw:∀ b ob,Wr C σ X b->s.heap.get? b=some ob->s'.heap.get? b=some ob:=fun b ob w e=>keep b ob (fun q=>hw (q▸w)) e
 exact ⟨⟨fun b o e n=>kz _ _ (S.zb b o e n) (S.base b o e n),(S.tab.imp fun ps t=>⟨kw _ _ (.inl rfl) t.1,t.2.mono kz fun _ z=>z⟩),S.zb,fun b z=>(S.zl b z).imp fun o e=>kz _ _ z e,os.trans S.os,gens.trans S.gens,S.lt,
  fun l o e=>(S.obj l o e).mono kz (fun b ob m g=>kw b ob (.inr ⟨l,o,e,m⟩) g) (fun _ z=>z) (Nat.le_refl _) (fun _ _=>⟨rfl,rfl,rfl⟩) (S.lt l o e),S.apart,S.zw,fun b w=>(S.wl b w).imp fun o e=>kw _ _ w e⟩,
  ⟨size,fun b ob e _ np=>keep b ob np e,fun _ z=>z,fun _ z=>.inl z,fun _ w=>.inl w,Nat.le_refl _,fun _ _=>⟨rfl,rfl,rfl⟩⟩⟩
theorem SRel.turnTab {ps:Array Value} (S:SRel C σ X s) (keep:∀ b ob,b≠C.tab->s.heap.get? b=some ob->s'.heap.get? b=some ob) (size:s.heap.objs.size<=s'.heap.objs.size) (os:s'.os=s.os) (gens:s'.gens=s.gens)
 (N:Addr->Prop) (hN:∀ b,N b->s.heap.objs.size<=b/\∃ o,s'.heap.get? b=some o) (ht:s'.heap.get? C.tab=some (tabObj ps)) (ok:TabOk C (X.more N) s'.heap ps):SRel C σ (X.more N) s'/\Evo C NoP σ X s σ (X.more N) s':=by
 have kz:∀ b ob,X.Z b->s.heap.get? b=some ob->s'.heap.get? b=some ob:=fun b ob z e=>keep b ob (fun q=>S.zw b (.inl q) z) e
 have kf:∀ l o b ob,σ.get l=some o->b∈foot X l o->s.heap.get? b=some ob->s'.heap.get? b=some ob:=fun l o b ob e m g=>keep b ob (fun q=>S.tab_foot e (q▸m)) g
 refine ⟨⟨fun b o e n=>keep b o n (S.base b o e n),⟨ps,ht,ok⟩,fun b o e n=>.inl (S.zb b o e n),fun b z=>z.elim (fun z=>(S.zl b z).imp fun o e=>kz _ _ z e) fun n=>(hN b n).2,os.trans S.os,gens.trans S.gens,S.lt,
  fun l o e=>(S.obj l o e).mono kz (fun b ob m g=>kf l o b ob e m g) (fun _ z=>.inl z) (Nat.le_refl _) (fun _ _=>⟨rfl,rfl,rfl⟩) (S.lt l o e),
  fun l1 l2 o1 o2 b e e' m m'=>S.apart l1 l2 o1 o2 b e e' (by cases o1<;>exact m) (by cases o2<;>exact m'),fun b w z=>?_,fun b w=>?_⟩,
  ⟨size,fun b ob e nw _=>keep b ob (fun q=>nw (.inl q)) e,fun _ z=>.inl z,fun b z=>z.imp id fun n=>.inl (hN b n).1,fun b w=>.inl (Wr_more.mp w),Nat.le_refl _,fun _ _=>⟨rfl,rfl,rfl⟩⟩⟩
 ·have w:=Wr_more.mp w
  rcases z with z | n
  ·exact S.zw b w z
  ·obtain ⟨o,e⟩:=S.wl b w
   exact Nat.lt_irrefl _ (Nat.lt_of_lt_of_le (Heap.lt_size e) (hN b n).1)
 ·rcases Wr_more.mp w with q | ⟨l,o,e,m⟩
  ·exact ⟨_,q▸ht⟩
  ·obtain ⟨ob,g⟩:=S.wl b (.inr ⟨l,o,e,m⟩)
   exact ⟨ob,kf l o b ob e m g⟩
theorem lX {pos q:Pos} {c v:Value} (l:List Value) (h:TriplesOk l) (e:codeAmong pos (l++[rawInt q.line,rawInt q.col,c])=some v):codeAmong pos l=some v\/v=c:=by
 fun_induction TriplesOk l with
 | case1 =>
   simp only [List.nil_append,codeAmong,rawInt] at e
   split at e
   ·cases e;exact .inr rfl
   ·cases e
 | case2 a t b u x rest ih =>
   simp only [List.cons_append,codeAmong] at e ⊢
   split at e
   ·rename_i hc;rw [if_pos hc];exact .inl e
   ·rename_i hc;rw [if_neg hc];exact ih h e
 | case3 l h1 h2=>exact h.elim
structure uu (C:Cx) (env:Env):Prop where
 code:∃ c0,env.code=.ref c0/\CodeHd C.base c0 C.tab
 qual:env.qual ++ "<lambda>"=C.lamQ
theorem rk {A:Around} {params:Arguments} {body:Expr} {scope:Scope} {pos:Pos} {clos:List (Str × Addr)} {Q:Value->Shared->Prop} {E:Value->Shared->Prop} (H:COk C) (hbm:C.base.BuiltinsAt C.mg C.tab) (R:Rel C env sc ρ σ X s) (L:uu C env)
 (hcl:closureFor scope env=pure clos) (hdef:defaultsOf params env=([],[]))
 (hQ:∀ f c ctv X' s',Rel C env sc ρ σ X' s'->Evo C NoP σ X s σ X' s'->s.heap.objs.size<=f->s'.heap.get? f=some (kla_obj "<lambda>" C.lamQ params body scope clos ((C.mg "__name__").getD .none) c ctv)->¬ X'.Z f->¬ Wr C σ X' f->X'.Z c->s'.heap.CodeRec (.ref c) C.lamQ->Q (.ref f) s') :
 wpAny (model C.prog C.w) A (eval (.Lambda params body scope pos) env) Q E s:=by
 obtain ⟨⟨c0,hc,hd⟩,hq⟩:=L
 refine PySem.W.kla_eval hdef ?_
 rw [hq]
 obtain ⟨ps,hP,ht,hco⟩:=R.S.tab
 have zlt:∀ b,X.Z b->b<s.heap.objs.size:=fun b z=>(R.S.zl b z).elim fun _ g=>Heap.lt_size g
 have wlt:∀ b,Wr C σ X b->b<s.heap.objs.size:=fun b w=>(R.S.wl b w).elim fun _ g=>Heap.lt_size g
 have hd':CodeHd s.heap c0 C.tab:=by
  obtain ⟨o,vs,file,tf,flags,tg,inF,text,tt,e,r⟩:=hd
  exact ⟨o,vs,file,tf,flags,tg,inF,text,tt,R.S.base _ _ e r.2.2.2.2.2.2.2.2,r⟩
 have hb':s.heap.BuiltinsAt C.mg C.tab:=by
  obtain ⟨bm,o,h1,h2,h3,h4,h5,r⟩:=hbm
  exact ⟨bm,o,h1,h2,h3,h4,R.S.base _ _ h5 h4,r⟩
 cases hf:codeAmong pos ps.toList with
 | some cv =>
   obtain ⟨c,rfl,zc,rc⟩:=hco pos cv hf
   refine PySem.W.kla_makeFunctionHit hcl R.F.gl (R.S.ns H.g H.ng) hc hd' hP ht hf hb' fun ctv h' tk hk hsz=>?_
   have G:Grow s { s with heap:=h'.push (kla_obj "<lambda>" C.lamQ params body scope clos ((C.mg "__name__").getD .none) c ctv),toks:=tk } :=
    ⟨fun b o e=>Heap.get?_push_of_some _ (hk b o e),by show _<=(h'.push _).objs.size;rw [Heap.size_push];exact Nat.le_add_right_of_le hsz,rfl,rfl⟩
   obtain ⟨S',e⟩:=R.S.grow0 G
   refine hQ _ c ctv X _ (R.evo0 S' e) e hsz (Heap.get?_push_size _ rfl) (fun z=>?_) (fun w=>?_) zc ?_
   ·exact Nat.lt_irrefl _ (Nat.lt_of_lt_of_le (zlt _ z) hsz)
   ·exact Nat.lt_irrefl _ (Nat.lt_of_lt_of_le (wlt _ w) hsz)
   ·obtain ⟨a,o,vs,t,e1,e2,r⟩:=rc
    exact ⟨a,o,vs,t,e1,G.keep _ _ e2,r⟩
 | none =>
   refine PySem.W.kla_makeFunction hcl R.F.gl (R.S.ns H.g H.ng) hc hd' hP ht hf (fun q=>H.ng q) hb' fun c' ctv h' tk hx hge hlt hrec htb=>?_
   obtain ⟨a,oc,vs,t,e1,e2,e3,e4⟩:=hrec
   cases e1
   have hrec':(h'.push (kla_obj "<lambda>" C.lamQ params body scope clos ((C.mg "__name__").getD .none) c' ctv)).CodeRec (.ref c') C.lamQ:=⟨c',oc,vs,t,rfl,Heap.get?_push_of_some _ e2,e3,e4⟩
   have kp:∀ b ob,b≠C.tab->s.heap.get? b=some ob->(h'.push (kla_obj "<lambda>" C.lamQ params body scope clos ((C.mg "__name__").getD .none) c' ctv)).get? b=some ob:=fun b ob hb e=>Heap.get?_push_of_some _ (hx b ob hb e)
   have hsz:s.heap.objs.size<=h'.objs.size:=Nat.le_trans hge (Nat.le_of_lt hlt)
   obtain ⟨S',e⟩:=R.S.turnTab (s':={ s with heap:=h'.push (kla_obj "<lambda>" C.lamQ params body scope clos ((C.mg "__name__").getD .none) c' ctv),toks:=tk }) kp (by show _<=(h'.push _).objs.size;rw [Heap.size_push];exact Nat.le_add_right_of_le hsz) rfl rfl (fun b=>b=c')
    (by rintro b rfl;exact ⟨hge,_,Heap.get?_push_of_some _ e2⟩) (Heap.get?_push_of_some _ htb) ⟨by simpa using TriplesOk_snoc _ _ _ _ ht,fun p v hv=>by
      rcases lX (q:=pos) ps.toList ht (by simpa using hv) with q | rfl
      ·obtain ⟨c,rfl,zc,a,o,vs,t,q1,q2,q3⟩:=hco p v q
       cases q1
       exact ⟨c,rfl,.inl zc,c,o,vs,t,rfl,kp _ _ (fun q=>R.S.zw _ (.inl q) zc) q2,q3⟩
      ·exact ⟨c',rfl,.inr rfl,hrec'⟩⟩
   refine hQ _ c' ctv _ _ (R.evo0 S' e) e hsz (Heap.get?_push_size _ rfl) (fun z=>?_) (fun w=>?_) (.inr rfl) hrec'
   ·rcases z with z | z
    ·exact Nat.lt_irrefl _ (Nat.lt_of_lt_of_le (zlt _ z) hsz)
    ·exact Nat.lt_irrefl _ (z▸hlt)
   ·exact Nat.lt_irrefl _ (Nat.lt_of_lt_of_le (wlt _ (Wr_more.mp w)) hsz)
end
end
section
open PySem PyProof.Rows
noncomputable abbrev ba:Nm:=[67,79,77,80,73,76,69,82,95,70,76,65,71,95,78,65,77,69,83]
noncomputable abbrev gP:Nm:=[79,78,69,95,83,73,88,84,72]
noncomputable abbrev gQ:Nm:=[79,78,69,95,84,72,73,82,68]
noncomputable abbrev fq:Nm:=[84,87,79,95,84,72,73,82,68]
noncomputable abbrev dq:Nm:=[95,108,97,119,95,99,111,108,111,117,114]
noncomputable abbrev dZ:Nm:=[95,108,97,119,95,103,97,105,110,115]
noncomputable abbrev cy:Nm:=[95,108,97,119,95,106,111,105,110,101,100]
noncomputable abbrev dR:Nm:=[95,108,97,119,95,108,101,120,101,114]
noncomputable abbrev dm:Nm:=[95,108,97,119,95,108,111,111,107,101,100]
noncomputable abbrev eG:Nm:=[95,108,97,119,95,110,97,109,101]
noncomputable abbrev db:Nm:=[95,108,97,119,95,110,97,109,101,115]
noncomputable abbrev bP:Nm:=[95,108,97,119,95,112,97,114,116,115]
noncomputable abbrev dd:Nm:=[95,108,97,119,95,114,111,117,110,100]
noncomputable abbrev fm:Nm:=[95,108,97,119,95,114,117,110]
noncomputable abbrev eE:Nm:=[95,108,97,119,95,116,101,120,116]
noncomputable abbrev cc:Nm:=[95,108,97,119,95,119,111,114,100]
noncomputable abbrev bw:Nm:=[95,108,97,119,95,119,114,105,116,116,101,110]
noncomputable abbrev gM:Nm:=[95,110,101,116,114,99,108,101,120]
noncomputable abbrev bA:Nm:=[95,112,97,114,115,101,95,118,97,114,105,110,116]
noncomputable abbrev cM:Nm:=[95,114,101,97,100,95,99,104,97,114]
noncomputable abbrev wo:Nm:=[95,118]
noncomputable abbrev ch:Nm:=[97,104,101,97,100]
noncomputable abbrev bY:Nm:=[97,112,112,101,110,100]
noncomputable abbrev n_b:Nm:=[98]
noncomputable abbrev dt:Nm:=[98,97,115,101]
noncomputable abbrev nF:Nm:=[98,99]
noncomputable abbrev ix:Nm:=[98,108,117,101]
noncomputable abbrev cB:Nm:=[99,104]
noncomputable abbrev ut:Nm:=[99,104,114]
noncomputable abbrev dh:Nm:=[99,111,108,111,117,114]
noncomputable abbrev aI:Nm:=[99,111,108,111,117,114,115]
noncomputable abbrev pe:Nm:=[99,111,117,110,116]
noncomputable abbrev ce:Nm:=[100,101,101,112]
noncomputable abbrev ax:Nm:=[46,48]
noncomputable abbrev og:Nm:=[100,117,101]
noncomputable abbrev n_f:Nm:=[102]
noncomputable abbrev aP:Nm:=[102,105,114,115,116]
noncomputable abbrev cx:Nm:=[102,105,116,101,114]
noncomputable abbrev bC:Nm:=[102,108,97,103]
noncomputable abbrev bn:Nm:=[102,108,97,103,115]
noncomputable abbrev Ek:Nm:=[102,112]
noncomputable abbrev n_g:Nm:=[103]
noncomputable abbrev gV:Nm:=[103,97,105,110]
noncomputable abbrev ic:Nm:=[103,97,112]
noncomputable abbrev nP:Nm:=[103,99]
noncomputable abbrev qW:Nm:=[103,101,116]
noncomputable abbrev bc:Nm:=[103,101,116,95,116,111,107,101,110]
noncomputable abbrev f9:Nm:=[103,114,101,101,110]
noncomputable abbrev n_h:Nm:=[104]
noncomputable abbrev cT:Nm:=[104,101,97,112]
noncomputable abbrev bq:Nm:=[104,101,97,112,115]
noncomputable abbrev lK:Nm:=[104,101,120]
noncomputable abbrev ef:Nm:=[104,105,100,100,101,110]
noncomputable abbrev jH:Nm:=[104,105,103,104]
noncomputable abbrev fQ:Nm:=[104,108,115,95,116,111,95,114,103,98]
noncomputable abbrev fS:Nm:=[104,115,118,95,116,111,95,114,103,98]
noncomputable abbrev bB:Nm:=[104,117,101]
noncomputable abbrev n_i:Nm:=[105]
noncomputable abbrev pM:Nm:=[105,110,100,101,120]
noncomputable abbrev iq:Nm:=[105,110,115,116,114,101,97,109]
noncomputable abbrev j6:Nm:=[105,110,116]
noncomputable abbrev jD:Nm:=[105,116,101,114]
noncomputable abbrev bR:Nm:=[105,116,101,114,97,116,111,114]
noncomputable abbrev n_j:Nm:=[106]
noncomputable abbrev jJ:Nm:=[106,111,105,110]
noncomputable abbrev n_k:Nm:=[107]
noncomputable abbrev n_l:Nm:=[108]
noncomputable abbrev da:Nm:=[108,97,109,112]
noncomputable abbrev cb:Nm:=[108,97,109,112,115]
noncomputable abbrev Cl:Nm:=[108,101,102,116]
noncomputable abbrev Br:Nm:=[108,101,110]
noncomputable abbrev mf:Nm:=[108,101,118,101,108]
noncomputable abbrev aA:Nm:=[108,101,120,101,114]
noncomputable abbrev ms:Nm:=[108,105,103,104,116]
noncomputable abbrev jT:Nm:=[108,105,110,101,110,111]
noncomputable abbrev nC:Nm:=[108,105,115,116]
noncomputable abbrev aL:Nm:=[108,105,115,116,115]
noncomputable abbrev dG:Nm:=[108,111,111,107,115]
noncomputable abbrev kT:Nm:=[108,111,119]
noncomputable abbrev jG:Nm:=[109,49]
noncomputable abbrev jk:Nm:=[109,50]
noncomputable abbrev gu:Nm:=[109,97,115,107]
noncomputable abbrev dW:Nm:=[109,97,115,107,115]
noncomputable abbrev jp:Nm:=[109,97,120]
noncomputable abbrev cg:Nm:=[109,97,120,99]
noncomputable abbrev fx:Nm:=[109,105,100,100,108,101]
noncomputable abbrev u6:Nm:=[109,105,110]
noncomputable abbrev gE:Nm:=[109,105,110,99]
noncomputable abbrev jE:Nm:=[109,111,115,116]
noncomputable abbrev aD:Nm:=[110,97,109,101,115]
noncomputable abbrev a9:Nm:=[110,101,97,114]
noncomputable abbrev nL:Nm:=[110,101,120,116]
noncomputable abbrev gj:Nm:=[111,99,116,101,116,115]
noncomputable abbrev gz:Nm:=[111,110,101]
noncomputable abbrev u5:Nm:=[111,114,100]
noncomputable abbrev n_p:Nm:=[112]
noncomputable abbrev dS:Nm:=[112,97,105,114,115]
noncomputable abbrev cI:Nm:=[112,97,114,116]
noncomputable abbrev cR:Nm:=[112,97,114,116,115]
noncomputable abbrev dC:Nm:=[112,108,97,99,101]
noncomputable abbrev Bs:Nm:=[112,111,112]
noncomputable abbrev cC:Nm:=[112,114,101,116,116,121,95,102,108,97,103,115]
noncomputable abbrev de:Nm:=[112,117,115,104,95,116,111,107,101,110]
noncomputable abbrev dM:Nm:=[112,117,115,104,98,97,99,107]
noncomputable abbrev n_q:Nm:=[113]
noncomputable abbrev n_r:Nm:=[114]
noncomputable abbrev aO:Nm:=[114,97,110,103,101]
noncomputable abbrev cP:Nm:=[114,97,110,103,101,99]
noncomputable abbrev nI:Nm:=[114,99]
noncomputable abbrev m9:Nm:=[114,101,97,100]
noncomputable abbrev j0:Nm:=[114,101,100]
noncomputable abbrev fP:Nm:=[114,103,98,95,116,111,95,104,108,115]
noncomputable abbrev f7:Nm:=[114,103,98,95,116,111,95,104,115,118]
noncomputable abbrev dJ:Nm:=[114,111,119]
noncomputable abbrev gW:Nm:=[114,111,119,115]
noncomputable abbrev n_s:Nm:=[115]
noncomputable abbrev bO:Nm:=[115,99,114,105,112,116]
noncomputable abbrev iT:Nm:=[115,101,99,111,110,100]
noncomputable abbrev gC:Nm:=[115,101,101,110]
noncomputable abbrev bG:Nm:=[115,101,108,102]
noncomputable abbrev gH:Nm:=[115,104,97,114,101]
noncomputable abbrev dH:Nm:=[115,104,105,102,116]
noncomputable abbrev c4:Nm:=[115,105,103,110]
noncomputable abbrev iw:Nm:=[115,105,103,110,115]
noncomputable abbrev ey:Nm:=[115,105,122,101]
noncomputable abbrev qC:Nm:=[115,111,114,116,101,100]
noncomputable abbrev mi:Nm:=[115,112,108,105,116]
noncomputable abbrev xL:Nm:=[115,116,114,101,97,109]
noncomputable abbrev cX:Nm:=[115,116,121,108,101]
noncomputable abbrev oK:Nm:=[115,117,109]
noncomputable abbrev nc:Nm:=[115,117,109,99]
noncomputable abbrev n_t:Nm:=[116]
noncomputable abbrev jV:Nm:=[116,97,98,108,101]
noncomputable abbrev my:Nm:=[116,97,98,108,101,115]
noncomputable abbrev aN:Nm:=[116,101,120,116]
noncomputable abbrev cr:Nm:=[116,104,105,114,100,115]
noncomputable abbrev br:Nm:=[116,105,101,100]
noncomputable abbrev dF:Nm:=[116,105,103,104,116]
noncomputable abbrev bT:Nm:=[116,111,107,101,110]
noncomputable abbrev cF:Nm:=[116,111,108,100]
noncomputable abbrev oq:Nm:=[116,111,112]
noncomputable abbrev cH:Nm:=[116,111,112,115]
noncomputable abbrev ci:Nm:=[116,117,114,110]
noncomputable abbrev gO:Nm:=[116,119,111]
noncomputable abbrev n_v:Nm:=[118]
noncomputable abbrev fM:Nm:=[118,97,108]
noncomputable abbrev bg:Nm:=[119,97,121]
noncomputable abbrev fZ:Nm:=[119,104,105,116,101,115,112,97,99,101]
noncomputable abbrev bo:Nm:=[119,111,114,100]
noncomputable abbrev aS:Nm:=[119,111,114,100,115]
noncomputable abbrev n_x:Nm:=[120]
noncomputable abbrev n_y:Nm:=[121]
noncomputable abbrev n_z:Nm:=[122]
noncomputable def T_rgb_to_hls:List St:=[.assign [cg] false (.call (.glob jp) [(.var n_r),(.var n_g),(.var n_b)]),.assign [gE] false (.call (.glob u6) [(.var n_r),(.var n_g),(.var n_b)]),.assign [nc] false (.bin .Add (.var cg) (.var gE)),.assign [cP] false (.bin .Sub (.var cg) (.var gE)),.assign [n_l] false (.bin .Div (.var nc) (.cFlt 4611686018427387904)),.ifs (.cmp (.var gE) [.Eq] [(.var cg)]) [.ret (.tup [(.cFlt 0),(.var n_l),(.cFlt 0)])] [],.ifs (.cmp (.var n_l) [.LtE] [(.cFlt 4602678819172646912)]) [.assign [n_s] false (.bin .Div (.var cP) (.var nc))] [.assign [n_s] false (.bin .Div (.var cP) (.bin .Sub (.bin .Sub (.cFlt 4611686018427387904) (.var cg)) (.var gE)))],.assign [nI] false (.bin .Div (.bin .Sub (.var cg) (.var n_r)) (.var cP)),.assign [nP] false (.bin .Div (.bin .Sub (.var cg) (.var n_g)) (.var cP)),.assign [nF] false (.bin .Div (.bin .Sub (.var cg) (.var n_b)) (.var cP)),.ifs (.cmp (.var n_r) [.Eq] [(.var cg)]) [.assign [n_h] false (.bin .Sub (.var nF) (.var nP))] [.ifs (.cmp (.var n_g) [.Eq] [(.var cg)]) [.assign [n_h] false (.bin .Sub (.bin .Add (.cFlt 4611686018427387904) (.var nI)) (.var nF))] [.assign [n_h] false (.bin .Sub (.bin .Add (.cFlt 4616189618054758400) (.var nP)) (.var nI))]],.assign [n_h] false (.bin .Mod (.bin .Div (.var n_h) (.cFlt 4618441417868443648)) (.cFlt 4607182418800017408)),.ret (.tup [(.var n_h),(.var n_l),(.var n_s)])]
noncomputable abbrev kC:List Nm:=[n_r,n_g,n_b]
noncomputable def T_hls_to_rgb:List St:=[.ifs (.cmp (.var n_s) [.Eq] [(.cFlt 0)]) [.ret (.tup [(.var n_l),(.var n_l),(.var n_l)])] [],.ifs (.cmp (.var n_l) [.LtE] [(.cFlt 4602678819172646912)]) [.assign [jk] false (.bin .Mult (.var n_l) (.bin .Add (.cFlt 4607182418800017408) (.var n_s)))] [.assign [jk] false (.bin .Sub (.bin .Add (.var n_l) (.var n_s)) (.bin .Mult (.var n_l) (.var n_s)))],.assign [jG] false (.bin .Sub (.bin .Mult (.cFlt 4611686018427387904) (.var n_l)) (.var jk)),.ret (.tup [(.call (.glob wo) [(.var jG),(.var jk),(.bin .Add (.var n_h) (.glob gQ))]),(.call (.glob wo) [(.var jG),(.var jk),(.var n_h)]),(.call (.glob wo) [(.var jG),(.var jk),(.bin .Sub (.var n_h) (.glob gQ))])])]
noncomputable abbrev j8:List Nm:=[n_h,n_l,n_s]
noncomputable def T_v:List St:=[.assign [bB] false (.bin .Mod (.var bB) (.cFlt 4607182418800017408)),.ifs (.cmp (.var bB) [.Lt] [(.glob gP)]) [.ret (.bin .Add (.var jG) (.bin .Mult (.bin .Mult (.bin .Sub (.var jk) (.var jG)) (.var bB)) (.cFlt 4618441417868443648)))] [],.ifs (.cmp (.var bB) [.Lt] [(.cFlt 4602678819172646912)]) [.ret (.var jk)] [],.ifs (.cmp (.var bB) [.Lt] [(.glob fq)]) [.ret (.bin .Add (.var jG) (.bin .Mult (.bin .Mult (.bin .Sub (.var jk) (.var jG)) (.bin .Sub (.glob fq) (.var bB))) (.cFlt 4618441417868443648)))] [],.ret (.var jG)]
noncomputable abbrev P_v:List Nm:=[jG,jk,bB]
noncomputable def T_rgb_to_hsv:List St:=[.assign [cg] false (.call (.glob jp) [(.var n_r),(.var n_g),(.var n_b)]),.assign [gE] false (.call (.glob u6) [(.var n_r),(.var n_g),(.var n_b)]),.assign [cP] false (.bin .Sub (.var cg) (.var gE)),.assign [n_v] false (.var cg),.ifs (.cmp (.var gE) [.Eq] [(.var cg)]) [.ret (.tup [(.cFlt 0),(.cFlt 0),(.var n_v)])] [],.assign [n_s] false (.bin .Div (.var cP) (.var cg)),.assign [nI] false (.bin .Div (.bin .Sub (.var cg) (.var n_r)) (.var cP)),.assign [nP] false (.bin .Div (.bin .Sub (.var cg) (.var n_g)) (.var cP)),.assign [nF] false (.bin .Div (.bin .Sub (.var cg) (.var n_b)) (.var cP)),.ifs (.cmp (.var n_r) [.Eq] [(.var cg)]) [.assign [n_h] false (.bin .Sub (.var nF) (.var nP))] [.ifs (.cmp (.var n_g) [.Eq] [(.var cg)]) [.assign [n_h] false (.bin .Sub (.bin .Add (.cFlt 4611686018427387904) (.var nI)) (.var nF))] [.assign [n_h] false (.bin .Sub (.bin .Add (.cFlt 4616189618054758400) (.var nP)) (.var nI))]],.assign [n_h] false (.bin .Mod (.bin .Div (.var n_h) (.cFlt 4618441417868443648)) (.cFlt 4607182418800017408)),.ret (.tup [(.var n_h),(.var n_s),(.var n_v)])]
noncomputable abbrev kj:List Nm:=[n_r,n_g,n_b]
noncomputable def T_hsv_to_rgb:List St:=[.ifs (.cmp (.var n_s) [.Eq] [(.cFlt 0)]) [.ret (.tup [(.var n_v),(.var n_v),(.var n_v)])] [],.assign [n_i] false (.call (.glob j6) [(.bin .Mult (.var n_h) (.cFlt 4618441417868443648))]),.assign [n_f] false (.bin .Sub (.bin .Mult (.var n_h) (.cFlt 4618441417868443648)) (.var n_i)),.assign [n_p] false (.bin .Mult (.var n_v) (.bin .Sub (.cFlt 4607182418800017408) (.var n_s))),.assign [n_q] false (.bin .Mult (.var n_v) (.bin .Sub (.cFlt 4607182418800017408) (.bin .Mult (.var n_s) (.var n_f)))),.assign [n_t] false (.bin .Mult (.var n_v) (.bin .Sub (.cFlt 4607182418800017408) (.bin .Mult (.var n_s) (.bin .Sub (.cFlt 4607182418800017408) (.var n_f))))),.assign [n_i] false (.bin .Mod (.var n_i) (.cInt 6)),.ifs (.cmp (.var n_i) [.Eq] [(.cInt 0)]) [.ret (.tup [(.var n_v),(.var n_t),(.var n_p)])] [],.ifs (.cmp (.var n_i) [.Eq] [(.cInt 1)]) [.ret (.tup [(.var n_q),(.var n_v),(.var n_p)])] [],.ifs (.cmp (.var n_i) [.Eq] [(.cInt 2)]) [.ret (.tup [(.var n_p),(.var n_v),(.var n_t)])] [],.ifs (.cmp (.var n_i) [.Eq] [(.cInt 3)]) [.ret (.tup [(.var n_p),(.var n_q),(.var n_v)])] [],.ifs (.cmp (.var n_i) [.Eq] [(.cInt 4)]) [.ret (.tup [(.var n_t),(.var n_p),(.var n_v)])] [],.ifs (.cmp (.var n_i) [.Eq] [(.cInt 5)]) [.ret (.tup [(.var n_v),(.var n_p),(.var n_q)])] []]
noncomputable abbrev kN:List Nm:=[n_h,n_s,n_v]
noncomputable def T_pretty_flags:List St:=[.assign [aD] false (.list []),.for_ [n_i] (.call (.glob aO) [(.cInt 32)]) [.assign [bC] false (.bin .LShift (.cInt 1) (.var n_i)),.ifs (.bin .BitAnd (.var bn) (.var bC)) [.expr (.meth (.var aD) bY [(.meth (.glob ba) qW [(.var bC),(.call (.glob lK) [(.var bC)])])]),.aug bn .BitXor (.var bC),.ifs (.not (.var bn)) [.brk] []] []] [.expr (.meth (.var aD) bY [(.call (.glob lK) [(.var bn)])])],.ret (.meth (.cStr [44,32]) jJ [(.var aD)])]
noncomputable abbrev gx:List Nm:=[bn]
noncomputable def T_parse_varint:List St:=[.assign [n_b] false (.call (.glob nL) [(.var bR)]),.assign [fM] false (.bin .BitAnd (.var n_b) (.cInt 63)),.while_ (.bin .BitAnd (.var n_b) (.cInt 64)) [.aug fM .LShift (.cInt 6),.assign [n_b] false (.call (.glob nL) [(.var bR)]),.aug fM .BitOr (.bin .BitAnd (.var n_b) (.cInt 63))],.ret (.var fM)]
noncomputable abbrev cY:List Nm:=[bR]
noncomputable def T_read_char:List St:=[.assign [cB] false (.meth (.attr (.var bG) iq) m9 [(.cInt 1)]),.ifs (.cmp (.var cB) [.Eq] [(.cStr [10])]) [.augattr (.var bG) jT .Add (.cInt 1)] [],.ret (.var cB)]
noncomputable abbrev c7:List Nm:=[bG]
noncomputable def T_get_token:List St:=[.ifs (.attr (.var bG) dM) [.ret (.meth (.attr (.var bG) dM) Bs [(.cInt 0)])] [],.assign [bT] false (.cStr []),.assign [cx] false (.call (.glob jD) [(.attr (.var bG) cM),(.cStr [])]),.for_ [cB] (.var cx) [.ifs (.cmp (.var cB) [.In] [(.attr (.var bG) fZ)]) [.cont] [],.ifs (.cmp (.var cB) [.Eq] [(.cStr [34])]) [.for_ [cB] (.var cx) [.ifs (.cmp (.var cB) [.Eq] [(.cStr [34])]) [.ret (.var bT)] [.ifs (.cmp (.var cB) [.Eq] [(.cStr [92])]) [.assign [cB] false (.meth (.var bG) cM [])] []],.aug bT .Add (.var cB)] []] [.ifs (.cmp (.var cB) [.Eq] [(.cStr [92])]) [.assign [cB] false (.meth (.var bG) cM [])] [],.aug bT .Add (.var cB),.for_ [cB] (.var cx) [.ifs (.cmp (.var cB) [.In] [(.attr (.var bG) fZ)]) [.ret (.var bT)] [.ifs (.cmp (.var cB) [.Eq] [(.cStr [92])]) [.assign [cB] false (.meth (.var bG) cM [])] []],.aug bT .Add (.var cB)] []]] [],.ret (.var bT)]
noncomputable abbrev c6:List Nm:=[bG]
noncomputable def T_push_token:List St:=[.expr (.meth (.attr (.var bG) dM) bY [(.var bT)])]
noncomputable abbrev fO:List Nm:=[bG,bT]
noncomputable def T_law_name:List St:=[.assign [aS] false (.list [(.cStr [79,80,84,73,77,73,90,69,68]),(.cStr [78,69,87,76,79,67,65,76,83]),(.cStr [86,65,82,65,82,71,83]),(.cStr [86,65,82,75,69,89,87,79,82,68,83]),(.cStr [78,69,83,84,69,68]),(.cStr [71,69,78,69,82,65,84,79,82]),(.cStr [78,79,70,82,69,69]),(.cStr [67,79,82,79,85,84,73,78,69]),(.cStr [73,84,69,82,65,66,76,69,95,67,79,82,79,85,84,73,78,69]),(.cStr [65,83,89,78,67,95,71,69,78,69,82,65,84,79,82])]),.ret (.ite (.cmp (.var dC) [.Lt] [(.cInt 10)]) (.sub (.var aS) (.var dC)) (.bin .Add (.bin .Add (.cStr [48,120]) (.sub (.cStr [49,50,52,56]) (.bin .Mod (.var dC) (.cInt 4)))) (.bin .Mult (.cStr [48]) (.bin .FloorDiv (.var dC) (.cInt 4)))))]
noncomputable abbrev jC:List Nm:=[dC]
noncomputable def T_law_word:List St:=[.ret (.meth (.cStr []) jJ [(.comp (.call (.glob ut) [(.bin .Add (.bin .Add (.ite (.cmp (.var ey) [.Gt] [(.cInt 1)]) (.cInt 64) (.cInt 0)) (.bin .Mod (.bin .FloorDiv (.var cI) (.var ey)) (.cInt 64))) (.var jH))]) [[cI],[ey]] [(.var cR),(.list [(.cInt 4096),(.cInt 64),(.cInt 1)])] [[],[(.boolop .Or [(.cmp (.var cI) [.GtE] [(.var ey)]),(.cmp (.var ey) [.Eq] [(.cInt 1)])])]] [ax,cI,ey])])]
noncomputable abbrev jz:List Nm:=[cR,jH]
noncomputable def T_law_written:List St:=[.assign [ef] false (.ite (.cmp (.var bg) [.Gt] [(.cInt 1)]) (.var bo) (.ite (.var bg) (.cStr [92,32,10,9,13]) (.cStr [92,34]))),.assign [iw] false (.meth (.cStr []) jJ [(.comp (.ite (.cmp (.var c4) [.In] [(.var ef)]) (.bin .Add (.cStr [92]) (.var c4)) (.var c4)) [[c4]] [(.var bo)] [[]] [ax,c4])]),.ret (.ite (.bin .Mod (.var bg) (.cInt 2)) (.bin .Add (.ite (.boolop .And [(.cmp (.var bg) [.Eq] [(.cInt 1)]),(.cmp (.slice (.var bo) [none,some (.cInt 1),none]) [.Eq] [(.cStr [34])])]) (.cStr [92]) (.cStr [])) (.var iw)) (.bin .Add (.bin .Add (.cStr [34]) (.var iw)) (.cStr [34])))]
noncomputable abbrev gU:List Nm:=[bo,bg]
noncomputable def T_law_parts:List St:=[.assign [gj] false (.call (.glob jD) [(.comp (.call (.glob u5) [(.var c4)]) [[c4]] [(.var bo)] [[]] [ax,c4])]),.ret (.bin .Add (.list [(.call (.glob bA) [(.var gj)]),(.call (.glob bA) [(.var gj)]),(.call (.glob bA) [(.var gj)])]) (.call (.glob nC) [(.var gj)]))]
noncomputable abbrev fu:List Nm:=[bo]
noncomputable def T_law_colour:List St:=[.assign [kT] false (.bin .Add (.bin .Mult (.bin .Mod (.bin .FloorDiv (.var cT) (.cInt 6)) (.cInt 40)) (.cInt 3840)) (.bin .Mod (.var cT) (.cInt 64))),.assign [fx] false (.bin .Add (.var kT) (.bin .Mult (.bin .Mod (.bin .FloorDiv (.var cT) (.cInt 240)) (.cInt 50)) (.cInt 64))),.assign [oq] false (.bin .Add (.bin .Add (.var fx) (.cInt 64)) (.bin .Mult (.bin .FloorDiv (.var cT) (.cInt 12000)) (.cInt 1280))),.assign [jE] false (.bin .Mod (.var cT) (.cInt 3)),.assign [iT] false (.bin .Mod (.bin .Add (.bin .Add (.var jE) (.cInt 1)) (.bin .Mod (.bin .FloorDiv (.var cT) (.cInt 3)) (.cInt 2))) (.cInt 3)),.ret (.comp (.ite (.cmp (.var n_k) [.Eq] [(.var jE)]) (.var oq) (.ite (.cmp (.var n_k) [.Eq] [(.var iT)]) (.var fx) (.var kT))) [[n_k]] [(.call (.glob aO) [(.cInt 3)])] [[]] [ax,n_k])]
noncomputable abbrev iA:List Nm:=[cT]
noncomputable def T_law_text:List St:=[.assign [ic,dF] true (.tup [(.sub (.list [(.cStr [32]),(.cStr [10]),(.cStr [9,10]),(.cStr [13,10,32])]) (.bin .Mod (.bin .FloorDiv (.var cX) (.cInt 3072)) (.cInt 4))),(.bin .Mod (.bin .FloorDiv (.var cX) (.cInt 24576)) (.cInt 2))]),.assign [aN] false (.var ic),.for_ [n_k] (.call (.glob aO) [(.cInt 5)]) [.assign [bg] false (.bin .Mod (.bin .FloorDiv (.var cX) (.bin .Pow (.cInt 4) (.var n_k))) (.cInt 4)),.assign [aN] false (.bin .Add (.bin .Add (.var aN) (.call (.glob bw) [(.call (.glob cc) [(.sub (.var aI) (.var n_k)),(.bin .Mult (.bin .FloorDiv (.var bg) (.cInt 2)) (.cInt 128))]),(.var bg)])) (.ite (.boolop .And [(.var dF),(.cmp (.bin .Mod (.var bg) (.cInt 2)) [.Eq] [(.cInt 0)])]) (.cStr []) (.var ic))),.assign [bg] false (.bin .Mod (.bin .FloorDiv (.var cX) (.cInt 1024)) (.cInt 3)),.assign [aN] false (.bin .Add (.bin .Add (.var aN) (.ite (.cmp (.var bg) [.Eq] [(.cInt 1)]) (.sub (.var aL) (.var n_k)) (.call (.glob bw) [(.sub (.var aL) (.var n_k)),(.bin .FloorDiv (.var bg) (.cInt 2))]))) (.ite (.boolop .And [(.var dF),(.cmp (.var bg) [.Eq] [(.cInt 0)])]) (.cStr []) (.var ic)))] [],.ret (.bin .Add (.var aN) (.sub (.list [(.cStr [101,110,100]),(.cStr [34,101,110,100,34]),(.cStr [34,101,110,100]),(.cStr [101,110,100,92])]) (.bin .Mod (.bin .FloorDiv (.var cX) (.cInt 49152)) (.cInt 4))))]
noncomputable abbrev jB:List Nm:=[aI,aL,cX]
noncomputable def T_law_names:List St:=[.assign [aN] false (.meth (.var aA) bc []),.for_ [ci] (.call (.glob aO) [(.cInt 3)]) [.ifs (.cmp (.slice (.var aN) [some (.neg (.cInt 1)),none,none]) [.Eq] [(.cStr [44])]) [.assign [aN] false (.bin .Add (.bin .Add (.var aN) (.cStr [32])) (.meth (.var aA) bc []))] []] [],.ret (.var aN)]
noncomputable abbrev iV:List Nm:=[aA]
noncomputable def T_law_looked:List St:=[.assign [j0,f9,ix] true (.comp (.bin .Div (.var cI) (.cInt 262144)) [[cI]] [(.var cR)] [[]] [ax,cI]),.ifs (.var ce) [.assign [bB,ms,gH] true (.call (.glob fP) [(.var j0),(.var f9),(.var ix)]),.assign [cb] false (.call (.glob fQ) [(.bin .Sub (.var bB) (.bin .Div (.cInt 2) (.cInt 3))),(.var ms),(.var gH)])] [.assign [bB,gH,mf] true (.call (.glob f7) [(.var j0),(.var f9),(.var ix)]),.assign [cb] false (.call (.glob fS) [(.bin .Add (.var bB) (.bin .Div (.cInt 1) (.cInt 3))),(.var gH),(.var mf)])],.ret (.tup [(.var bB),(.comp (.bin .FloorDiv (.call (.glob j6) [(.bin .Add (.bin .Mult (.var da) (.cInt 524288)) (.cInt 1))]) (.cInt 2)) [[da]] [(.var cb)] [[]] [ax,da])])]
noncomputable abbrev fU:List Nm:=[cR,ce]
noncomputable def T_law_round:List St:=[.assign [aS] false (.comp (.meth (.var aA) bc []) [[n_k]] [(.call (.glob aO) [(.cInt 5)])] [[]] [ax,n_k]),.assign [gW] false (.comp (.call (.glob bP) [(.var bo)]) [[bo]] [(.var aS)] [[]] [ax,bo]),.assign [dG] false (.comp (.call (.glob dm) [(.var dJ),(.var ce)]) [[dJ]] [(.var gW)] [[]] [ax,dJ]),.assign [cr] false (.comp (.bin .Mod (.bin .FloorDiv (.call (.glob j6) [(.bin .Add (.bin .Mult (.var bB) (.cInt 6)) (.cInt 1))]) (.cInt 2)) (.cInt 3)) [[bB,cb]] [(.var dG)] [[]] [ax,bB,cb]),.for_ [n_k] (.call (.glob aO) [(.cInt 5)]) [.assign [ch] false (.cmp (.bin .Mod (.bin .Add (.sub (.var cr) (.var n_k)) (.cInt 1)) (.cInt 3)) [.In] [(.comp (.sub (.var cr) (.var n_j)) [[n_j]] [(.sub (.var a9) (.var n_k))] [[]] [ax,n_j])]),.expr (.meth (.var aA) de [(.ite (.var ch) (.call (.glob cc) [(.sub (.sub (.var dG) (.var n_k)) (.cInt 1)),(.bin .Mult (.cInt 128) (.var ce))]) (.sub (.var aS) (.var n_k)))])] [],.ret (.ite (.cmp (.comp (.var bB) [[bB,cb]] [(.var dG)] [[(.not (.cmp (.cInt 0) [.LtE,.Lt] [(.var bB),(.cInt 1)]))]] [ax,bB,cb]) [.Eq] [(.list [])]) (.var gW) (.list []))]
noncomputable abbrev iO:List Nm:=[aA,a9,ce]
noncomputable def T_law_run:List St:=[.assign [aS,aL,a9] true (.tup [(.list []),(.list []),(.comp (.list []) [[n_k]] [(.call (.glob aO) [(.cInt 5)])] [[]] [ax,n_k])]),.for_ [n_k] (.call (.glob aO) [(.cInt 5)]) [.expr (.meth (.var aS) bY [(.meth (.var aA) bc [])]),.expr (.meth (.var aL) bY [(.call (.glob db) [(.var aA)])]),.assign [cF] false (.meth (.sub (.var aL) (.var n_k)) mi [(.cStr [44,32])]),.for_ [n_j] (.call (.glob aO) [(.var n_k)]) [.ifs (.cmp (.sub (.var aD) (.var n_j)) [.In] [(.var cF)]) [.expr (.meth (.sub (.var a9) (.var n_k)) bY [(.var n_j)]),.expr (.meth (.sub (.var a9) (.var n_j)) bY [(.var n_k)])] []] []] [],.for_ [bo] (.var aS) [.expr (.meth (.var aA) de [(.var bo)])] [],.assign [gC] false (.comp (.call (.glob dd) [(.var aA),(.var a9),(.bin .Mod (.bin .Add (.var ci) (.var aP)) (.cInt 2))]) [[ci]] [(.call (.glob aO) [(.cInt 4)])] [[]] [ax,ci]),.ret (.tup [(.var aL),(.bin .Add (.var gC) (.list [(.comp (.call (.glob bP) [(.meth (.var aA) bc [])]) [[n_k]] [(.call (.glob aO) [(.cInt 5)])] [[]] [ax,n_k])]))])]
noncomputable abbrev lC:List Nm:=[aA,aD,aP]
noncomputable def T_law_joined:List St:=[.ret (.comp (.comp (.call (.glob jp) [(.comp (.bin .Add (.sub (.sub (.var gz) (.var n_x)) (.var n_z)) (.sub (.sub (.var gO) (.var n_z)) (.var n_y))) [[n_z]] [(.call (.glob aO) [(.cInt 5)])] [[]] [ax,n_z])]) [[n_y]] [(.call (.glob aO) [(.cInt 5)])] [[]] [ax,n_y]) [[n_x]] [(.call (.glob aO) [(.cInt 5)])] [[]] [ax,n_x])]
noncomputable abbrev fY:List Nm:=[gz,gO]
noncomputable def T_law_gains:List St:=[.assign [gz] false (.comp (.comp (.ite (.cmp (.var n_x) [.Eq] [(.var n_y)]) (.cInt 0) (.ite (.boolop .Or [(.cmp (.tup [(.var n_x),(.var n_y)]) [.In] [(.var br)]),(.cmp (.tup [(.var n_y),(.var n_x)]) [.In] [(.var br)])]) (.bin .Sub (.bin .Mod (.bin .Add (.bin .Sub (.sub (.var cH) (.var n_y)) (.sub (.var cH) (.var n_x))) (.cInt 1)) (.cInt 3)) (.cInt 1)) (.neg (.cInt 9)))) [[n_y]] [(.call (.glob aO) [(.cInt 5)])] [[]] [ax,n_y]) [[n_x]] [(.call (.glob aO) [(.cInt 5)])] [[]] [ax,n_x]),.assign [gO] false (.call (.glob cy) [(.var gz),(.var gz)]),.assign [my] false (.list [(.var gz),(.var gO),(.call (.glob cy) [(.var gO),(.var gz)]),(.call (.glob cy) [(.var gO),(.var gO)])]),.ret (.bin .Add (.list [(.list [(.cInt 0),(.cInt 0),(.cInt 0),(.cInt 0),(.cInt 0)])]) (.comp (.comp (.call (.glob jp) [(.var dJ)]) [[dJ]] [(.var jV)] [[]] [ax,dJ]) [[jV]] [(.var my)] [[]] [ax,jV]))]
noncomputable abbrev iL:List Nm:=[cH,br]
noncomputable def T_law1:List St:=[.assign [aP] false (.slice (.var bO) [none,some (.cInt 60),none]),.assign [dt] false (.list [(.cInt 8226),(.cInt 177994),(.cInt 999122),(.cInt 995995),(.cInt 31690),(.cInt 8727),(.cInt 127204)]),.assign [bq] false (.comp (.bin .Mod (.bin .Add (.sub (.var dt) (.var n_k)) (.call (.glob oK) [(.slice (.var aP) [some (.var n_k),none,some (.cInt 7)])])) (.bin .Pow (.cInt 10) (.cInt 6))) [[n_k]] [(.call (.glob aO) [(.cInt 7)])] [[]] [ax,n_k]),.assign [aI] false (.comp (.call (.glob dq) [(.var cT)]) [[cT]] [(.slice (.var bq) [none,some (.cInt 5),none])] [[]] [ax,cT]),.assign [dS] false (.list [(.tup [(.cInt 0),(.cInt 1)]),(.tup [(.cInt 0),(.cInt 2)]),(.tup [(.cInt 0),(.cInt 3)]),(.tup [(.cInt 0),(.cInt 4)]),(.tup [(.cInt 1),(.cInt 2)]),(.tup [(.cInt 1),(.cInt 3)]),(.tup [(.cInt 1),(.cInt 4)]),(.tup [(.cInt 2),(.cInt 3)]),(.tup [(.cInt 2),(.cInt 4)]),(.tup [(.cInt 3),(.cInt 4)])]),.assign [br] false (.comp (.sub (.var dS) (.var n_k)) [[n_k]] [(.call (.glob aO) [(.cInt 10)])] [[(.bin .Mod (.bin .FloorDiv (.sub (.var bq) (.cInt 5)) (.bin .Pow (.cInt 2) (.var n_k))) (.cInt 2))]] [ax,n_k]),.assign [dH] false (.bin .Mod (.bin .FloorDiv (.sub (.var bq) (.cInt 5)) (.cInt 1024)) (.cInt 30)),.assign [aD] false (.comp (.call (.glob eG) [(.bin .Add (.var dH) (.var n_k))]) [[n_k]] [(.call (.glob aO) [(.cInt 5)])] [[]] [ax,n_k]),.assign [dW] false (.comp (.call (.glob oK) [(.comp (.bin .Pow (.cInt 2) (.bin .Add (.var dH) (.var n_x))) [[n_x,n_y]] [(.var br)] [[(.cmp (.var n_y) [.Eq] [(.var n_k)])]] [ax,n_x,n_y])]) [[n_k]] [(.call (.glob aO) [(.cInt 5)])] [[]] [ax,n_k]),.assign [aN] false (.call (.glob eE) [(.var aI),(.comp (.call (.glob cC) [(.var gu)]) [[gu]] [(.var dW)] [[]] [ax,gu]),(.sub (.var bq) (.cInt 6))]),.assign [aA] false (.call (.glob dR) [(.var aN)]),.assign [aL,gC] true (.call (.glob fm) [(.var aA),(.var aD),(.bin .Mod (.bin .FloorDiv (.sub (.var bq) (.cInt 6)) (.cInt 12288)) (.cInt 2))]),.ifs (.cmp (.var aL) [.NotEq] [(.comp (.boolop .Or [(.meth (.cStr [44,32]) jJ [(.comp (.sub (.var aD) (.var n_x)) [[n_x,n_y]] [(.var br)] [[(.cmp (.var n_y) [.Eq] [(.var n_k)])]] [ax,n_x,n_y])]),(.cStr [48,120,48])]) [[n_k]] [(.call (.glob aO) [(.cInt 5)])] [[]] [ax,n_k])]) [.ret (.cBool false)] [],.assign [cH] false (.comp (.meth (.var dh) pM [(.call (.glob jp) [(.var dh)])]) [[dh]] [(.var aI)] [[]] [ax,dh]),.assign [og] false (.comp (.comp (.comp (.sub (.sub (.var aI) (.var n_x)) (.bin .Mod (.bin .Sub (.var n_k) (.sub (.var gV) (.var n_x))) (.cInt 3))) [[n_k]] [(.call (.glob aO) [(.cInt 3)])] [[]] [ax,n_k]) [[n_x]] [(.call (.glob aO) [(.cInt 5)])] [[]] [ax,n_x]) [[gV]] [(.call (.glob dZ) [(.var cH),(.var br)])] [[]] [ax,gV]),.ret (.boolop .And [(.cmp (.var gC) [.Eq] [(.var og)]),(.cmp (.list [(.meth (.var aA) bc []),(.meth (.var aA) bc []),(.attr (.var aA) jT)]) [.Eq] [(.list [(.cStr [101,110,100]),(.cStr []),(.bin .Add (.cInt 1) (.meth (.var aN) pe [(.cStr [10])]))])])])]
noncomputable abbrev sM:List Nm:=[bO]
end
section
open PySem PyProof.Rows
set_option maxRecDepth 100000
structure Def (C:Cx) (a:Addr) (ps:List Nm) (T:List St):Prop where
 ex:∃ pss sc body n0,tu C a pss sc body/\mapO (cm n0 sc) body=some T/\pss.map nm=ps
 fn:Fn C (.ref a)
section
variable {C:Cx} {k:Nat} {ρ:Loc} {σ σ1 σ2 σ3:Sto} {a:Addr} {ps:List Nm} {T:List St}
theorem Def.callC (H:COk C) (d:Def C a ps T) {vs:List V} {f:Fl} {v:V} {ρ':Loc} (hx:ExL C k T (bD [] ps vs) σ f ρ' σ1) (hl:vs.length=ps.length) (hv:yS f=v):FnOkC C (k+1) (.ref a) vs σ v σ1:=by
 obtain ⟨⟨pss,sc,body,n0,h1,h2,rfl⟩,_⟩:=d
 subst hv
 exact zC H h1 h2 (by simpa using hl) hx
theorem Def.call (H:COk C) (d:Def C a ps T) {vs:List V} {f:Fl} {v:V} {ρ':Loc} (hx:ExL C k T (bD [] ps vs) σ f ρ' σ1) (hl:vs.length=ps.length) (hv:yS f=v):FnOk C (k+1) (.ref a) vs σ v σ1 :=
 (d.callC H hx hl hv).fn
theorem DC (b:Bf):Fn C b.val:=by cases b<;>first | exact .bi _ | exact .ty _
theorem aG (H:COk C) {x:Nm} {b:Bf} {l:List Ex} {vs:List V} {v:V} (hg:C.glob x=some (.bf b)) (h2:EvL C k l ρ σ vs σ1) (h3:FnOk C k b.val vs σ1 v σ2):EvE C k (.call (.glob x) l) ρ σ v σ2 :=
 pH (eS H hg) (fun X n h a r=>r) (DC b) h2 h3
theorem EvE.eq {e:Ex} {v v':V} (h:EvE C k e ρ σ v σ1) (hv:v=v'):EvE C k e ρ σ v' σ1:=hv▸h
theorem FnOk.mono {k':Nat} {f:Value} {vs:List V} {v:V} (h:FnOk C k f vs σ v σ1) (hk:k<=k'):FnOk C k' f vs σ v σ1:=fun A X s as rm=>h A X s as (rm.mono hk)
theorem Aq {t x y:Ex} {c:Bool} {i j:Int} (h1:EvT C k t ρ σ c σ1) (h2:EvE C k x ρ σ1 (.int i) σ1) (h3:EvE C k y ρ σ1 (.int j) σ1):EvE C k (.ite t x y) ρ σ (.int (bif c then i else j)) σ1 :=
 ed h1 (fun e=>by subst e;exact h2) (fun e=>by subst e;exact h3)
theorem mN {x y:Ex} {c b:Bool} (h1:EvT C k x ρ σ c σ1) (h2:EvT C k y ρ σ1 b σ1):EvT C k (.boolop .And [x,y]) ρ σ (c&&b) σ1 :=
 yx h1 (fun e=>by subst e;exact h2) (fun e=>by subst e;exact ⟨rfl,rfl⟩)
theorem ul {x y:Ex} {c b:Bool} (h1:EvT C k x ρ σ c σ1) (h2:EvT C k y ρ σ1 b σ1):EvT C k (.boolop .Or [x,y]) ρ σ (c||b) σ1 :=
 y8 h1 (fun e=>by subst e;exact h2) (fun e=>by subst e;exact ⟨rfl,rfl⟩)
theorem z7 {elt c:Ex} {t:List Nm} (p:V->Bool) (f:V->V):∀ (vs:List V),(∀ v∈vs,∃ ρ1,bI ρ t v=some ρ1/\fresh ρ t=true/\EvT C k c ρ1 σ (p v) σ/\(p v=true->EvE C k elt ρ1 σ (f v) σ)) ->
 CompR C k elt [t] [] [[c]] ρ σ vs ((vs.filter p).map f) σ:=by
 intro vs
 induction vs with
 | nil =>
   intro _
   exact .nil
 | cons v vs ih =>
   intro h
   obtain ⟨ρ1,h1,h2,h3,h4⟩:=h v (.head _)
   have ih:=ih fun u hu=>h u (.tail _ hu)
   cases hp:p v with
   | true=>rw [List.filter_cons_of_pos hp,List.map_cons];exact .emit h1 h2 (by rw [<-hp];exact h3) (h4 hp) ih
   | false=>rw [List.filter_cons_of_neg (by simp [hp])];exact .skip h1 h2 (by rw [<-hp];exact h3) ih
theorem sY {elt:Ex} {t t2:List Nm} {ts:List (List Nm)} {it:Ex} {its:List Ex} {cs2:List Ex} {ifs:List (List Ex)} (g:V->List V):∀ (vs:List V),
 (∀ v∈vs,∃ ρ1 src vs2,bI ρ t v=some ρ1/\fresh ρ t=true/\EvE C k it ρ1 σ src σ/\dk src=some vs2/\fJ src=true/\CompR C k elt (t2::ts) its (cs2::ifs) ρ1 σ vs2 (g v) σ) ->
 CompR C k elt (t::t2::ts) (it::its) ([]::cs2::ifs) ρ σ vs (vs.flatMap g) σ:=by
 intro vs
 induction vs with
 | nil =>
   intro _
   exact .nil
 | cons v vs ih =>
   intro h
   obtain ⟨ρ1,src,vs2,h1,h2,h3,h4,h5,h6⟩:=h v (.head _)
   rw [List.flatMap_cons]
   exact .inner h1 h2 ⟨rfl,rfl⟩ h3 h4 h5 h6 (ih fun u hu=>h u (.tail _ hu))
theorem dP {α:Type} {inj f:α->V} {ρ1:α->Loc} {l:List α} {elt it:Ex} {t own:List Nm} {src:V} (h1:EvE C k it ρ σ src σ1) (hs:dk src=some (l.map inj)) (hm:fJ src=true) (hf:fresh (dQ ρ own) t=true)
 (hb:∀ i,bI (dQ ρ own) t (inj i)=some (ρ1 i)) (h:∀ i∈l,EvE C k elt (ρ1 i) σ1 (f i) σ1) (hl:l.length<=sizeLine):CompOk C k (.comp elt [t] [it] [[]] own) ρ σ (.list (l.map f)) σ1:=by
 refine (dU h1 hs hm ?_ (by simpa using hl))
 clear hs hl h1
 induction l with
 | nil=>exact .nil
 | cons a l ih=>exact .emit (hb a) hf ⟨rfl,rfl⟩ (h a (.head _)) (ih fun i hi=>h i (.tail _ hi))
theorem dO {α:Type} {inj f:α->V} {ρ1:α->Loc} {l:List α} {elt it:Ex} {t own:List Nm} {src:V} (h1:EvE C k it ρ σ src σ1) (hs:dk src=some (l.map inj)) (hm:fJ src=true) (hf:fresh (dQ ρ own) t=true)
 (hb:∀ i,bI (dQ ρ own) t (inj i)=some (ρ1 i)) (h:∀ i∈l,EvE C k elt (ρ1 i) σ1 (f i) σ1) (hl:l.length<=sizeLine):EvE C k (.comp elt [t] [it] [[]] own) ρ σ (.list (l.map f)) σ1 :=
 (dP h1 hs hm hf hb h hl).ev
theorem rX {α:Type} {inj f:α->V} {p:α->Bool} {ρ1:α->Loc} {l:List α} {elt it c:Ex} {t own:List Nm} {src:V} (h1:EvE C k it ρ σ src σ1) (hs:dk src=some (l.map inj)) (hm:fJ src=true) (hf:fresh (dQ ρ own) t=true)
 (hb:∀ i,bI (dQ ρ own) t (inj i)=some (ρ1 i)) (ht:∀ i∈l,EvT C k c (ρ1 i) σ1 (p i) σ1) (h:∀ i∈l,p i=true->EvE C k elt (ρ1 i) σ1 (f i) σ1) (hl:l.length<=sizeLine):CompOk C k (.comp elt [t] [it] [[c]] own) ρ σ (.list ((l.filter p).map f)) σ1:=by
 refine (dU h1 hs hm ?_ (by rw [List.length_map];exact Nat.le_trans (List.length_filter_le _ _) hl))
 clear hs hl h1
 induction l with
 | nil=>exact .nil
 | cons a l ih =>
   have ih:=ih (fun i hi=>ht i (.tail _ hi)) fun i hi=>h i (.tail _ hi)
   cases hp:p a with
   | true=>rw [List.filter_cons_of_pos hp,List.map_cons];exact .emit (hb a) hf (by have:=ht a (.head _);rwa [hp] at this) (h a (.head _) hp) ih
   | false=>rw [List.filter_cons_of_neg (by simp [hp])];exact .skip (hb a) hf (by have:=ht a (.head _);rwa [hp] at this) ih
theorem mW {α:Type} {inj f:α->V} {p:α->Bool} {ρ1:α->Loc} {l:List α} {elt it c:Ex} {t own:List Nm} {src:V} (h1:EvE C k it ρ σ src σ1) (hs:dk src=some (l.map inj)) (hm:fJ src=true) (hf:fresh (dQ ρ own) t=true)
 (hb:∀ i,bI (dQ ρ own) t (inj i)=some (ρ1 i)) (ht:∀ i∈l,EvT C k c (ρ1 i) σ1 (p i) σ1) (h:∀ i∈l,p i=true->EvE C k elt (ρ1 i) σ1 (f i) σ1) (hl:l.length<=sizeLine):EvE C k (.comp elt [t] [it] [[c]] own) ρ σ (.list ((l.filter p).map f)) σ1 :=
 (rX h1 hs hm hf hb ht h hl).ev
end
end
section
open PySem PyProof.Rows
set_option maxRecDepth 100000
structure Bi (C:Cx):Prop where
 sum:C.glob oK=some (.bf .sum)
 len:C.glob Br=some (.bf .len)
 max:C.glob jp=some (.bf .max)
 min:C.glob u6=some (.bf .min)
 range:C.glob aO=some (.bf .range)
 int:C.glob j6=some (.bf .int)
 chr:C.glob ut=some (.bf .chr)
 ord:C.glob u5=some (.bf .ord)
 hex:C.glob lK=some (.bf .hex)
 list:C.glob nC=some (.bf .list)
 iter:C.glob jD=some (.bf .iter)
 next:C.glob nL=some (.bf .next)
 sorted:C.glob qC=some (.bf .sorted)
structure DefAt (C:Cx) (x:Nm) (ps:List Nm) (T:List St):Prop where
 ex:∃ a,C.glob x=some (.fn a)/\Def C a ps T
structure Calls (C:Cx) (k:Nat) (x:Nm) (vs:List V) (σ:Sto) (v:V) (σ':Sto):Prop where
 ex:∃ a,C.glob x=some (.fn a)/\Fn C (.ref a)/\FnOk C k (.ref a) vs σ v σ'
section
variable {C:Cx} {k:Nat} {ρ:Loc} {σ σ1 σ2 σ3:Sto} {a:Addr} {ps:List Nm} {T:List St} {x:Nm}
theorem DefAt.calls (H:COk C) (d:DefAt C x ps T) {vs:List V} {f:Fl} {v:V} {ρ':Loc} (hx:ExL C k T (bD [] ps vs) σ f ρ' σ1) (hl:vs.length=ps.length) (hv:yS f=v):Calls C (k+1) x vs σ v σ1:=by
 obtain ⟨a,h1,h2⟩:=d.ex
 exact ⟨a,h1,h2.fn,h2.call H hx hl hv⟩
theorem Calls.eq {vs:List V} {v v':V} (h:Calls C k x vs σ v σ1) (hv:v=v'):Calls C k x vs σ v' σ1:=hv▸h
theorem a7 (H:COk C) {l:List Ex} {vs:List V} {v:V} (h2:EvL C k l ρ σ vs σ1) (h3:Calls C k x vs σ1 v σ2):EvE C k (.call (.glob x) l) ρ σ v σ2:=by
 obtain ⟨a,g,hf,h⟩:=h3.ex
 exact pH (fv:=.ref a) (eS H g) (fun X n h a r=>r) hf h2 h
theorem mS {e':Ex} {i:Int} (hp:pB e'=true) (h1:EvE C k e' ρ σ (.int i) σ1):EvT C k e' ρ σ (i != 0) σ1:=gK hp h1 jZ
end
end
section
open PySem PyProof.Rows
set_option maxRecDepth 100000
structure LexSt (σ:Sto) (lx lf pb:Nat) (x:List Nat) (line:Int):Prop where
 hl:σ.get lx=some (.lexer lf line pb)
 hf:σ.get lf=some (.list (c5 x))
 ne:lx≠lf
 np:lx≠pb
 nq:lf≠pb
noncomputable def upd (σ:Sto) (lx lf pb:Nat) (x:List Nat) (line:Int):Sto:=(σ.set lf (.list (c5 x))).set lx (.lexer lf line pb)
section
variable {σ:Sto} {lx lf pb l:Nat} {x y:List Nat} {line line':Int}
theorem Sto.ext' {σ τ:Sto} (h1:σ.next=τ.next) (h2:∀ l,σ.get l=τ.get l):σ=τ:=by
 cases σ;cases τ
 simp only at h1
 subst h1
 congr
 funext l
 exact h2 l
theorem kI {o:O} (h:σ.get l=some o):σ.set l o=σ:=Sto.ext' rfl fun k=>by
 simp only [Sto.set]
 split
 ·subst_vars;exact h.symm
 ·rfl
theorem fo (h:lx≠lf) (k:Nat):(upd σ lx lf pb x line).get k=if k=lx then some (.lexer lf line pb) else if k=lf then some (.list (c5 x)) else σ.get k:=by
 rfl
theorem LexSt.upd (L:LexSt σ lx lf pb x line):LexSt (upd σ lx lf pb y line') lx lf pb y line' :=
 ⟨by rw [fo L.ne];exact if_pos rfl,by rw [fo L.ne];simp [Ne.symm L.ne],L.ne,L.np,L.nq⟩
theorem fW (h:lx≠lf):Mine.upd (Mine.upd σ lx lf pb x line) lx lf pb y line'=Mine.upd σ lx lf pb y line':=Sto.ext' rfl fun k=>by
 rw [fo h,fo h,fo h]
 split
 ·rfl
 ·split<;>rfl
theorem kK (L:LexSt σ lx lf pb x line):Mine.upd σ lx lf pb x line=σ:=Sto.ext' rfl fun k=>by
 rw [fo L.ne]
 split
 ·subst_vars;exact L.hl.symm
 ·split
  ·subst_vars;exact L.hf.symm
  ·rfl
end
theorem qM:nm aR=jT:=by kernel_rfl
theorem tJ:nm aM=iq:=by kernel_rfl
theorem A3:nm cj=fZ:=by kernel_rfl
theorem BS:nm d5=dM:=by kernel_rfl
theorem Cc:nm ca=m9:=by kernel_rfl
theorem Df:nm sRc=cM:=by kernel_rfl
theorem yp:yv=jD:=by kernel_rfl
theorem e_w:nm white=[10,9,13,32]:=by kernel_rfl
noncomputable def nlc (c:Nat):Int:=if c=10 then 1 else 0
noncomputable def nl (x:List Nat):Int:=match x with | []=>0 | c::_=>nlc c
section
variable {C:Cx} {k:Nat} {ρ:Loc} {σ:Sto} {lx lf pb:Nat} {x:List Nat} {line:Int}
theorem iN (H:COk C) (L:LexOk C) (Lm:lP C) (d:Def C C.rc c7 T_read_char) (st:LexSt σ lx lf pb x line) (hz:x.length<1000000) :
 FnOkC C (k+2) (.ref C.rc) [.loc lx] σ (.str (x.take 1)) (upd σ lx lf pb (x.drop 1) (line+nl x)):=by
 have hzl:(c5 x).length<sizeLine:=by rw [sizeLine_eq];simp [c5];lia -abstractProof
 have rd:=zB (k:=k) (ρ:=bD [] c7 [.loc lx]) H L Lm (aa (x:=bG) (v:=.loc lx) rfl) st.hl st.hf hzl
 rw [tJ,show Bj=m9 from Cc] at rd
 cases x with
 | nil =>
   rw [show upd σ lx lf pb (([]:List Nat).drop 1) (line+nl [])=σ from by simpa [nl] using kK st]
   have rd:EvE C (k+1) (.meth (.attr (.var bG) iq) m9 [.cInt 1]) (bD [] c7 [.loc lx]) σ (.str []) σ:=rd
   refine' d.callC H ?b rfl ?v
   case b =>
    unfold T_read_char
    refine' aq (ak ?e ?b ?c) ?r
    case e=>exact rd
    case b=>exact rfl
    case c=>exact fun _=>rfl
    case' r=>refine' aq (cp ?t ?a ?b) ?r2
    case t=>exact aJ (aa rfl) bE jF aH
    case a=>intro h;exact absurd h (by decide)
    case b=>intro _;exact aF
    case' r2=>skip
    exact aV (eV (aa rfl)) rfl
   case v=>rfl
 | cons c r =>
   have rd:EvE C (k+1) (.meth (.attr (.var bG) iq) m9 [.cInt 1]) (bD [] c7 [.loc lx]) σ (.str [c]) (σ.set lf (.list (c5 r))):=rd
   show FnOkC C (k+2) (.ref C.rc) [.loc lx] σ (.str [c]) (upd σ lx lf pb r (line+nl (c::r)))
   have hl2:(σ.set lf (.list (c5 r))).get lx=some (.lexer lf line pb):=by simp only [Sto.set,if_neg st.ne];exact st.hl
   refine' d.callC H ?b1 rfl ?v1
   case b1 =>
    unfold T_read_char
    refine' aq (ak ?e1 ?b1 ?c1) ?r1
    case e1=>exact rd
    case b1=>exact rfl
    case c1=>exact fun _=>rfl
    case' r1=>refine' aq (ρ1:=put (bD [] c7 [.loc lx]) cB (.str [c])) (σ1:=upd σ lx lf pb r (line+nl (c::r))) (cp (c:=([c]==[10])) ?t1 ?a1 ?b1) ?r21
    case t1=>exact aJ (aa rfl) bE jF aH
    case a1 =>
     intro h
     have hc:c=10:=by simpa using h
     subst hc
     refine' aq ?x1 aF
     case' x1=>rw [<-qM]
     exact wC L (aa rfl) hl2
    case b1 =>
     intro h
     have hc:c≠10:=by simpa using h
     have:upd σ lx lf pb r (line+nl (c::r))=σ.set lf (.list (c5 r)):=by
      rw [show nl (c::r)=0 from if_neg hc,Int.add_zero]
      exact kI hl2
     rw [this]
     exact aF
    case' r21=>skip
    exact aV (eV (aa rfl)) rfl
   case v1=>rfl
end
end
section
open PySem PyProof.Rows
set_option maxRecDepth 100000
noncomputable def bK (stop:Nat->Bool):List Nat->Int->List Nat->List Nat × List Nat × Int × Bool
 | [],line,t=>(t,[],line,true)
 | c::r,line,t=>bif stop c then (t,r,line+nlc c,false) else bif Nat.beq c 92 then (match r with | []=>(t,[],line+nlc c,true) | d::r'=>bK stop r' (line+nlc c+nlc d) (t++[d])) else bK stop r (line+nlc c) (t++[c])
theorem dr (stop:Nat->Bool) (c:Nat) (r:List Nat) (line:Int) (t:List Nat):bK stop (c::r) line t=bif stop c then (t,r,line+nlc c,false) else bif Nat.beq c 92 then (match r with | []=>(t,[],line+nlc c,true) | d::r'=>bK stop r' (line+nlc c+nlc d) (t++[d])) else bK stop r (line+nlc c) (t++[c]):=by
 cases r<;>rfl
noncomputable def isW (c:Nat):Bool:=Nat.beq c 10||Nat.beq c 9||Nat.beq c 13||Nat.beq c 32
noncomputable def isQ (c:Nat):Bool:=Nat.beq c 34
noncomputable abbrev yu:St:=.ifs (.cmp (.var cB) [.Eq] [(.cStr [92])]) [.assign [cB] false (.meth (.var bG) cM [])] []
noncomputable abbrev iF (T1:Ex):List St:=[.ifs T1 [.ret (.var bT)] [yu],.aug bT .Add (.var cB)]
noncomputable abbrev Rg (lx l:Nat) (t:List Nat) (v:V):Loc:=[(bG,.loc lx),(bT,.str t),(cx,.loc l),(cB,v)]
section
variable {C:Cx} {k:Nat} {σ:Sto} {lx lf pb l:Nat}
structure fk (C:Cx):Prop where
 H:COk C
 L:LexOk C
 Lm:lP C
 rc:Def C C.rc c7 T_read_char
 ra:RcAt C
theorem ow {x:List Nat} {line:Int} (h:lx≠lf) (h1:l≠lx) (h2:l≠lf):(upd σ lx lf pb x line).get l=σ.get l:=by
 rw [fo h,if_neg h1,if_neg h2]
theorem pK (G:fk C) {c:Nat} {r:List Nat} {line:Int} (st:LexSt σ lx lf pb (c::r) line) (hl:σ.get l=some (.citer lx true)) (hz:(c::r).length<1000000) (h1:l≠lx) (h2:l≠lf) :
 iZ C (k+3) l σ (some (.str [c])) (upd σ lx lf pb r (line+nlc c)) :=
 vB G.ra hl (iN G.H G.L G.Lm G.rc st hz) (by rw [ow st.ne h1 h2];exact hl)
theorem pC (G:fk C) {line:Int} (st:LexSt σ lx lf pb [] line) (hl:σ.get l=some (.citer lx true)):iZ C (k+3) l σ none (σ.set l (.citer lx false)):=by
 have h:=iN (k:=k) G.H G.L G.Lm G.rc st (by simp)
 rw [show upd σ lx lf pb (([]:List Nat).drop 1) (line+nl [])=σ from by simpa [nl] using kK st] at h
 exact yT G.ra hl h hl
theorem Bn (G:fk C) {ρ:Loc} {x:List Nat} {line:Int} (hs:get ρ bG=some (.loc lx)) (st:LexSt σ lx lf pb x line) (hz:x.length<1000000) :
 EvE C (k+3) (.meth (.var bG) cM []) ρ σ (.str (x.take 1)) (upd σ lx lf pb (x.drop 1) (line+nl x)):=by
 have:=sd G.L st.hl (x:=sRc) (f:=C.rc) (by kernel_rfl) G.L.rc G.L.rcf
 rw [Df] at this
 exact cL (aa hs) this G.rc.fn aj (((iN (k:=k) G.H G.L G.Lm G.rc st hz).fn).mono (show k+2<=k+3 by simp))
theorem vh (G:fk C) (T1:Ex) {τ:Sto} {t:List Nat} {c:Nat} {r:List Nat} {line:Int} (st:LexSt τ lx lf pb r line) (hz:r.length<1000000) (ht:t.length<1000000) (hT:EvT C (k+3) T1 (Rg lx l t (.str [c])) τ false τ) :
 ExL C (k+3) (iF T1) (Rg lx l t (.str [c])) τ .next (Rg lx l (t++bif Nat.beq c 92 then r.take 1 else [c]) (.str (bif Nat.beq c 92 then r.take 1 else [c]))) (bif Nat.beq c 92 then upd τ lx lf pb (r.drop 1) (line+nl r) else τ):=by
 have hb:([c]==[92])=Nat.beq c 92:=by
  rw [Bool.eq_iff_iff];simp [Nat.beq_eq]
 have ev1:EvT C (k+3) (.cmp (.var cB) [.Eq] [.cStr [92]]) (Rg lx l t (.str [c])) τ (Nat.beq c 92) τ:=by
  rw [<-hb];exact aJ (aa rfl) bE jF aH
 cases h9:Nat.beq c 92 with
 | true =>
   rw [h9] at ev1
   have hl:(r.take 1).length<=1:=by simp;exact Nat.min_le_left 1 (List.length r)
   refine aq (ρ1:=Rg lx l t (.str (r.take 1))) (σ1:=upd τ lx lf pb (r.drop 1) (line+nl r)) (cp hT (fun h=>by cases h) fun _=>aq (cp ev1 (fun _=>aq (ak (Bn G rfl st hz) rfl fun _=>rfl) aF) (fun h=>by cases h)) aF) ?_
   exact aq (jS (v0:=.str t) rfl (aa rfl) (kO (by rw [List.length_append];lia -abstractProof))) aF
 | false =>
   rw [h9] at ev1
   refine aq (ρ1:=Rg lx l t (.str [c])) (σ1:=τ) (cp hT (fun h=>by cases h) fun _=>aq (cp ev1 (fun h=>by cases h) (fun _=>aF)) aF) ?_
   exact aq (jS (v0:=.str t) rfl (aa rfl) (kO (by simp;lia -abstractProof))) aF
theorem m7 (G:fk C) (stop:Nat->Bool) (T1:Ex) (h1:l≠lx) (h2:l≠lf)
 (hT:∀ (τ:Sto) (t:List Nat) (c:Nat) (x:List Nat) (line:Int),LexSt τ lx lf pb x line->EvT C (k+3) T1 (Rg lx l t (.str [c])) τ (stop c) τ) :
 ∀ (n:Nat) (x:List Nat) (line:Int) (t:List Nat) (v:V) (τ:Sto),x.length<=n->LexSt τ lx lf pb x line->τ.get l=some (.citer lx true)->x.length+t.length<900000 ->
   ∃ f ρ' τ',oS C (k+3) l [cB] (iF T1) [] (Rg lx l t v) τ f ρ' τ' /\
     (((bK stop x line t).2.2.2=false/\f=.ret (.str (bK stop x line t).1)/\τ'=upd τ lx lf pb (bK stop x line t).2.1 (bK stop x line t).2.2.1) \/
      ((bK stop x line t).2.2.2=true/\f=.next/\(∃ v',ρ'=Rg lx l (bK stop x line t).1 v')/\(bK stop x line t).2.1=[]/\τ'=(upd τ lx lf pb [] (bK stop x line t).2.2.1).set l (.citer lx false)))
 | n,[],line,t,v,τ,hn,st,hl,hz=>by
   refine ⟨.next,_,_,.done (pC G st hl) aF,.inr ⟨rfl,rfl,⟨v,rfl⟩,rfl,?_⟩⟩
   show _=(upd τ lx lf pb [] line).set l _
   rw [kK st]
 | 0,c::r,line,t,v,τ,hn,st,hl,hz=>by simp at hn
 | n+1,c::r,line,t,v,τ,hn,st,hl,hz=>by
   have hx:=pK (k:=k) G st hl (by simp at hz ⊢;lia -abstractProof) h1 h2
   have st1:LexSt (upd τ lx lf pb r (line+nlc c)) lx lf pb r (line+nlc c):=st.upd
   have hl1:(upd τ lx lf pb r (line+nlc c)).get l=some (.citer lx true):=by rw [ow st.ne h1 h2];exact hl
   have hc:py (upd τ lx lf pb r (line+nlc c)) l:=⟨lx,true,hl1⟩
   have hT1:=hT _ t c r _ st1
   cases hs:stop c with
   | true =>
     rw [hs] at hT1
     refine ⟨.ret (.str t),_,_,.ret hx hc rfl (aV (cp hT1 (fun _=>aV (eV (aa rfl)) rfl) (fun h=>by cases h)) rfl),.inl ?_⟩
     have e:bK stop (c::r) line t=(t,r,line+nlc c,false):=by rw [dr,hs];rfl
     rw [e]
     exact ⟨rfl,rfl,rfl⟩
   | false =>
     rw [hs] at hT1
     have hb:=vh (k:=k) G T1 (t:=t) (c:=c) (r:=r) st1 (by simp at hz;lia -abstractProof) (by simp at hz;lia -abstractProof) hT1
     cases h9:Nat.beq c 92 with
     | false =>
       rw [h9] at hb
       refine via fun _ g0=>?_
       obtain ⟨f,ρ',τ',hF,hR⟩:=m7 G stop T1 h1 h2 hT n r (line+nlc c) (t++[c]) (.str [c]) _ (by simp at hn;omega) st1 hl1 (by simp at hz ⊢;lia -abstractProof)
       refine g0 ?_
       refine ⟨f,ρ',τ',.step hx hc rfl hb (.inl rfl) hF,?_⟩
       have e:bK stop (c::r) line t=bK stop r (line+nlc c) (t++[c]):=by rw [dr,hs,h9];rfl
       rw [e]
       rw [fW st.ne] at hR
       simpa only [fW st.ne] using hR
     | true =>
       rw [h9] at hb
       simp only [cond_true,fW st.ne] at hb
       cases r with
       | nil =>
         have st2:LexSt (upd τ lx lf pb [] (line+nlc c)) lx lf pb [] (line+nlc c):=st.upd
         have hb':ExL C (k+3) (iF T1) (Rg lx l t (.str [c])) (upd τ lx lf pb [] (line+nlc c)) .next (Rg lx l t (.str [])) (upd τ lx lf pb [] (line+nlc c)):=by simpa [nl] using hb
         refine ⟨.next,_,_,.step hx hc rfl hb' (.inl rfl) (.done (pC G st2 hl1) aF),.inr ?_⟩
         have e:bK stop [c] line t=(t,[],line+nlc c,true):=by rw [dr,hs,h9];rfl
         rw [e]
         exact ⟨rfl,rfl,⟨_,rfl⟩,rfl,rfl⟩
       | cons d r =>
         have st2:LexSt (upd τ lx lf pb r (line+nlc c+nlc d)) lx lf pb r (line+nlc c+nlc d):=st.upd
         have hl2:(upd τ lx lf pb r (line+nlc c+nlc d)).get l=some (.citer lx true):=by rw [ow st.ne h1 h2];exact hl
         refine via fun _ g0=>?_
         obtain ⟨f,ρ',τ',hF,hR⟩:=m7 G stop T1 h1 h2 hT n r (line+nlc c+nlc d) (t++[d]) (.str [d]) _ (by simp at hn;exact Nat.le_of_succ_le hn) st2 hl2 (by simp at hz ⊢;lia -abstractProof)
         refine g0 ?_
         refine ⟨f,ρ',τ',.step hx hc rfl hb (.inl rfl) hF,?_⟩
         have e:bK stop (c::d::r) line t=bK stop r (line+nlc c+nlc d) (t++[d]):=by rw [dr,hs,h9];rfl
         rw [e]
         simpa only [fW st.ne] using hR
theorem vH (hl:σ.get l=some (.citer lx false)):iZ C k l σ none σ:=by
 intro A X s rm S Q E hQ
 obtain ⟨hlx,g⟩:=S.obj l _ hl
 unfold pyNext
 refine cA (wpAny_bind (wpAny_attempt (wpAny_callSpecial?_slot (name:=Str.ofString "__next__") (⟨_,g,rfl⟩:s.TypeIs (.ref (X.φ l)) "callable_iterator") slot_ci
  (wpAny_call_entry slot_ci ⟨_,g,rfl⟩ mT ?_ (pP _)))))
 unfold Builtin.«callable_iterator.__next__»
 refine wpAny_bind (m:=slotArgs "__next__" 0 _) (wpAny_of_eq (a:=(Value.ref (X.φ l),([]:List Value))) (by first | rfl | kernel_rfl) ?_)
 dsimp only
 refine wpAny_bind (wpAny_field g rfl (x:=.bool true) rfl ?_)
 rw [if_pos (by rfl)]
 refine wpAny_bind (wpAny_rule (wpAny_bind ?_))
 show wpAny _ A.in1 (do raiseNew (<-newExc (.type "StopIteration") [])) _ _ _
 refine wpAny_bind ?_
 dsimp only [newExc,newTuple]
 refine wpAny_bind (wpAny_newObj_type ?_ (by size_fits))
 refine wpAny_bind (m:=firstArgMember _ _) (wpAny_of_eq (a:=Value.none) (by first | rfl | (simp only [firstArgMember];rfl)) ?_)
 refine wpAny_newObj_type ?_ (by size_fits)
 dsimp only [raiseNew]
 refine wpAny_bind (wpAny_handled ?_)
 rw [show A.in1.handled=none from rm.handled]
 refine wpAny_bind (wpAny_pure (wpAny_throw ?_))
 refine wpAny_bind (wpAny_isInstance (T := "StopIteration") (b:=true) ⟨_,Heap.get?_push_size _ rfl,rfl⟩ isSubtype_stop ?_)
 refine wpAny_pure fun hs=>?_
 obtain ⟨S',e⟩:=S.grow0 (⟨fun b o e=>Heap.get?_push_of_some _ (Heap.get?_push_of_some _ e),hs,rfl,rfl⟩:Grow s { s with heap:=(s.heap.push { cls:=.type "tuple",data:=.seq #[] }).push { cls:=.type "StopIteration",data:=.fields (#[.ref s.heap.objs.size,.none,.none,.none,.bool false,.none]++ownMembersOf (.type "StopIteration") []) } })
 exact hQ _ X _ S' e trivial
noncomputable def tok:List Nat->Int->List Nat × List Nat × Int
 | [],line=>([],[],line)
 | c::r,line=>bif isW c then tok r (line+nlc c) else bif isQ c then ((bK isQ r (line+nlc c) []).1,(bK isQ r (line+nlc c) []).2.1,(bK isQ r (line+nlc c) []).2.2.1)
   else bif Nat.beq c 92 then (match r with
    | []=>([],[],line+nlc c)
    | d::r'=>((bK isW r' (line+nlc c+nlc d) [d]).1,(bK isW r' (line+nlc c+nlc d) [d]).2.1,(bK isW r' (line+nlc c+nlc d) [d]).2.2.1))
   else ((bK isW r (line+nlc c) [c]).1,(bK isW r (line+nlc c) [c]).2.1,(bK isW r (line+nlc c) [c]).2.2.1)
noncomputable abbrev TW:Ex:=.cmp (.var cB) [.In] [.attr (.var bG) fZ]
noncomputable abbrev TQ:Ex:=.cmp (.var cB) [.Eq] [.cStr [34]]
noncomputable abbrev xH:List St:=[.ifs TW [.cont] [],.ifs TQ [.for_ [cB] (.var cx) (iF TQ) []] [yu,.aug bT .Add (.var cB),.for_ [cB] (.var cx) (iF TW) []]]
theorem t_w (G:fk C) {τ:Sto} {t:List Nat} {c:Nat} {x:List Nat} {line:Int} (st:LexSt τ lx lf pb x line):EvT C (k+3) TW (Rg lx l t (.str [c])) τ (isW c) τ:=by
 have h:=xO (k:=k+3) (ρ:=Rg lx l t (.str [c])) G.L (aa (x:=bG) (v:=.loc lx) rfl) st.hl
 rw [A3,e_w] at h
 have e:isW c=decide (c∈[10,9,13,32]):=by
  rw [Bool.eq_iff_iff];simp [isW,Nat.beq_eq,or_assoc]
 rw [e]
 exact aJ (aa rfl) h yY aH
theorem t_q {τ:Sto} {t:List Nat} {c:Nat}:EvT C k TQ (Rg lx l t (.str [c])) τ (isQ c) τ:=by
 have e:isQ c=([c]==[34]):=by
  rw [Bool.eq_iff_iff];simp [isQ,Nat.beq_eq]
 rw [e]
 exact aJ (aa rfl) bE jF aH
end
end
section
open PySem PyProof.Rows
set_option maxRecDepth 100000
theorem ei (c:Nat) (r:List Nat) (line:Int):tok (c::r) line=bif isW c then tok r (line+nlc c) else bif isQ c then ((bK isQ r (line+nlc c) []).1,(bK isQ r (line+nlc c) []).2.1,(bK isQ r (line+nlc c) []).2.2.1)
 else bif Nat.beq c 92 then (match r with
  | []=>([],[],line+nlc c)
  | d::r'=>((bK isW r' (line+nlc c+nlc d) [d]).1,(bK isW r' (line+nlc c+nlc d) [d]).2.1,(bK isW r' (line+nlc c+nlc d) [d]).2.2.1))
 else ((bK isW r (line+nlc c) [c]).1,(bK isW r (line+nlc c) [c]).2.1,(bK isW r (line+nlc c) [c]).2.2.1):=by
 cases r<;>rfl
section
variable {C:Cx} {k:Nat} {σ:Sto} {lx lf pb l:Nat}
noncomputable def lU (l lx lf pb:Nat) (τ:Sto) (R:List Nat × List Nat × Int) (f:Fl) (ρ':Loc) (τ':Sto):Prop :=
 (f=.ret (.str R.1)/\τ'=upd τ lx lf pb R.2.1 R.2.2)\/(f=.next/\get ρ' bT=some (.str R.1)/\R.2.1=[]/\τ'=(upd τ lx lf pb [] R.2.2).set l (.citer lx false))
theorem k6 (G:fk C) (stop:Nat->Bool) (T1:Ex) (h1:l≠lx) (h2:l≠lf)
 (hT:∀ (τ:Sto) (t:List Nat) (c:Nat) (x:List Nat) (line:Int),LexSt τ lx lf pb x line->EvT C (k+3) T1 (Rg lx l t (.str [c])) τ (stop c) τ)
 (x:List Nat) (line:Int) (t:List Nat) (v:V) (τ:Sto) (st:LexSt τ lx lf pb x line) (hl:τ.get l=some (.citer lx true)) (hz:x.length+t.length<900000) :
 ∃ f ρ' τ',ExS C (k+3) (.for_ [cB] (.var cx) (iF T1) []) (Rg lx l t v) τ f ρ' τ'/\lU l lx lf pb τ ((bK stop x line t).1,(bK stop x line t).2.1,(bK stop x line t).2.2.1) f ρ' τ':=by
 refine via fun _ g0=>?_
 obtain ⟨f,ρ',τ',hF,hR⟩:=m7 (k:=k) G stop T1 h1 h2 hT x.length x line t v τ (Nat.le_refl _) st hl hz
 refine g0 ?_
 refine ⟨f,ρ',τ',rT (aa rfl) ⟨lx,true,hl⟩ hF,?_⟩
 rcases hR with ⟨_,rfl,rfl⟩ | ⟨_,rfl,⟨v',rfl⟩,e,rfl⟩
 ·exact .inl ⟨rfl,rfl⟩
 ·exact .inr ⟨rfl,rfl,e,rfl⟩
theorem pn (G:fk C) {ρ ρ1:Loc} {c:Nat} {r:List Nat} {line:Int} {τ:Sto} {R:List Nat × List Nat × Int} {f:Fl} {ρ2:Loc} {τ2:Sto} (st:LexSt τ lx lf pb (c::r) line) (hl:τ.get l=some (.citer lx true)) (hz:(c::r).length<1000000) (h1:l≠lx) (h2:l≠lf)
 (hb:bI ρ [cB] (.str [c])=some ρ1) (hB:ExL C (k+3) xH ρ1 (upd τ lx lf pb r (line+nlc c)) f ρ2 τ2) (hE:lU l lx lf pb τ R f ρ2 τ2):∃ f ρ' τ',oS C (k+3) l [cB] xH [] ρ τ f ρ' τ'/\lU l lx lf pb τ R f ρ' τ':=by
 have hx:=pK (k:=k) G st hl hz h1 h2
 have hc:py (upd τ lx lf pb r (line+nlc c)) l:=⟨lx,true,by rw [ow st.ne h1 h2];exact hl⟩
 rcases hE with ⟨rfl,rfl⟩ | ⟨rfl,h3,h4,rfl⟩
 ·exact ⟨_,_,_,.ret hx hc hb hB,.inl ⟨rfl,rfl⟩⟩
 ·exact ⟨_,_,_,.step hx hc hb hB (.inl rfl) (.done (vH (lx:=lx) (by simp [Sto.set])) aF),.inr ⟨rfl,h3,h4,rfl⟩⟩
theorem A5 (G:fk C) (h1:l≠lx) (h2:l≠lf):∀ (x:List Nat) (line:Int) (ρ:Loc) (τ:Sto),(∀ v,bI ρ [cB] v=some (Rg lx l [] v))->get ρ bT=some (.str [])->LexSt τ lx lf pb x line->τ.get l=some (.citer lx true)->x.length<800000 ->
 ∃ f ρ' τ',oS C (k+3) l [cB] xH [] ρ τ f ρ' τ'/\lU l lx lf pb τ (tok x line) f ρ' τ':=by
 intro x
 induction x with
 | nil =>
   intro line ρ τ hρ hρ0 st hl hz
   refine ⟨.next,_,_,.done (pC G st hl) aF,.inr ⟨rfl,hρ0,rfl,?_⟩⟩
   show _=(upd τ lx lf pb [] line).set l _
   rw [kK st]
 | cons c r ih =>
   intro line ρ τ hρ hρ0 st hl hz
   have hz':(c::r).length<1000000:=by lia -abstractProof
   have st1:LexSt (upd τ lx lf pb r (line+nlc c)) lx lf pb r (line+nlc c):=st.upd
   have hl1:(upd τ lx lf pb r (line+nlc c)).get l=some (.citer lx true):=by rw [ow st.ne h1 h2];exact hl
   have hc:py (upd τ lx lf pb r (line+nlc c)) l:=⟨lx,true,hl1⟩
   have tw:=t_w (k:=k) G (l:=l) (t:=[]) (c:=c) st1
   have tq:=t_q (C:=C) (k:=k+3) (lx:=lx) (l:=l) (τ:=upd τ lx lf pb r (line+nlc c)) (t:=[]) (c:=c)
   cases hw:isW c with
   | true =>
     rw [hw] at tw
     obtain ⟨f,ρ',τ',hF,hR⟩:=ih (line+nlc c) (Rg lx l [] (.str [c])) _ (fun v=>rfl) rfl st1 hl1 (by simp at hz;exact Nat.lt_of_succ_lt hz)
     refine ⟨f,ρ',τ',.step (pK G st hl hz' h1 h2) hc (hρ _) (aV (cp tw (fun _=>aV Aw rfl) (fun h=>by cases h)) rfl) (.inr rfl) hF,?_⟩
     have e:tok (c::r) line=tok r (line+nlc c):=by rw [ei,hw];rfl
     rw [e]
     unfold lU at hR ⊢
     simpa only [fW st.ne] using hR
   | false =>
     rw [hw] at tw
     have lift:∀ {f ρ' τ'},ExS C (k+3) (.ifs TQ [.for_ [cB] (.var cx) (iF TQ) []] [yu,.aug bT .Add (.var cB),.for_ [cB] (.var cx) (iF TW) []]) (Rg lx l [] (.str [c])) (upd τ lx lf pb r (line+nlc c)) f ρ' τ'->(f=.next\/jN f=true) ->
      ExL C (k+3) xH (Rg lx l [] (.str [c])) (upd τ lx lf pb r (line+nlc c)) f ρ' τ':=fun {f ρ' τ'} h hf =>
      aq (cp tw (fun h=>by cases h) fun _=>aF) (by
       rcases hf with rfl | hf
       ·exact aq h aF
       ·exact aV h hf)
     have endf:∀ {R f ρ' τ'},lU l lx lf pb τ R f ρ' τ'->f=.next\/jN f=true:=fun {R f ρ' τ'} h=>by
      rcases h with ⟨rfl,_⟩ | ⟨rfl,_⟩
      ·exact .inr rfl
      ·exact .inl rfl
     have one:∀ {s f ρ ρ' τ τ'},ExS C (k+3) s ρ τ f ρ' τ'->(f=.next\/jN f=true)->ExL C (k+3) [s] ρ τ f ρ' τ':=fun {s f ρ ρ' τ τ'} h hf=>by
      rcases hf with rfl | hf
      ·exact aq h aF
      ·exact aV h hf
     cases hq:isQ c with
     | true =>
       rw [hq] at tq
       obtain ⟨f,ρ',τ',hF,hR⟩:=k6 (k:=k) G isQ TQ h1 h2 (fun τ t c x line _=>t_q) r (line+nlc c) [] (.str [c]) _ st1 hl1 (by simp at hz ⊢;lia -abstractProof)
       have hR':lU l lx lf pb τ (tok (c::r) line) f ρ' τ':=by
        have e:tok (c::r) line=((bK isQ r (line+nlc c) []).1,(bK isQ r (line+nlc c) []).2.1,(bK isQ r (line+nlc c) []).2.2.1):=by rw [ei,hw,hq];rfl
        rw [e]
        unfold lU at hR ⊢
        simpa only [fW st.ne] using hR
       exact pn G st hl hz' h1 h2 (hρ _) (lift (cp tq (fun _=>one hF (endf hR')) (fun h=>by cases h)) (endf hR')) hR'
     | false =>
       rw [hq] at tq
       have hb:([c]==[92])=Nat.beq c 92:=by
        rw [Bool.eq_iff_iff];simp [Nat.beq_eq]
       have ev1:EvT C (k+3) (.cmp (.var cB) [.Eq] [.cStr [92]]) (Rg lx l [] (.str [c])) (upd τ lx lf pb r (line+nlc c)) (Nat.beq c 92) (upd τ lx lf pb r (line+nlc c)):=by
        rw [<-hb];exact aJ (aa rfl) bE jF aH
       cases h9:Nat.beq c 92 with
       | true =>
         rw [h9] at ev1
         have rd:=Bn (k:=k) G (ρ:=Rg lx l [] (.str [c])) rfl st1 (by simp at hz;exact Nat.lt_of_succ_lt hz')
         have pre:∀ {f ρ' τ'},ExS C (k+3) (.for_ [cB] (.var cx) (iF TW) []) (Rg lx l (r.take 1) (.str (r.take 1))) (upd τ lx lf pb (r.drop 1) (line+nlc c+nl r)) f ρ' τ'->(f=.next\/jN f=true) ->
          ExL C (k+3) [yu,.aug bT .Add (.var cB),.for_ [cB] (.var cx) (iF TW) []] (Rg lx l [] (.str [c])) (upd τ lx lf pb r (line+nlc c)) f ρ' τ':=fun {f ρ' τ'} h hf=>by
          rw [fW st.ne] at rd
          refine aq (ρ1:=Rg lx l [] (.str (r.take 1))) (σ1:=upd τ lx lf pb (r.drop 1) (line+nlc c+nl r)) (cp ev1 (fun _=>aq (ak rd rfl fun _=>rfl) aF) (fun h=>by cases h)) ?_
          refine aq (jS (v0:=.str []) rfl (aa rfl) (kO (by simp;lia -abstractProof))) ?_
          exact one h hf
         have st2:LexSt (upd τ lx lf pb (r.drop 1) (line+nlc c+nl r)) lx lf pb (r.drop 1) (line+nlc c+nl r):=st.upd
         have hl2:(upd τ lx lf pb (r.drop 1) (line+nlc c+nl r)).get l=some (.citer lx true):=by rw [ow st.ne h1 h2];exact hl
         obtain ⟨f,ρ',τ',hF,hR⟩:=k6 (k:=k) G isW TW h1 h2 (fun τ t c x line st=>t_w G st) (r.drop 1) (line+nlc c+nl r) (r.take 1) (.str (r.take 1)) _ st2 hl2 (by simp at hz ⊢;omega)
         have hR':lU l lx lf pb τ (tok (c::r) line) f ρ' τ':=by
          have e:tok (c::r) line=((bK isW (r.drop 1) (line+nlc c+nl r) (r.take 1)).1,(bK isW (r.drop 1) (line+nlc c+nl r) (r.take 1)).2.1,(bK isW (r.drop 1) (line+nlc c+nl r) (r.take 1)).2.2.1):=by
           rw [ei,hw,hq,h9]
           cases r with
           | nil=>rw [show nl []=0 from rfl,Int.add_zero];rfl
           | cons d r=>rfl
          rw [e]
          unfold lU at hR ⊢
          simpa only [fW st.ne] using hR
         exact pn G st hl hz' h1 h2 (hρ _) (lift (cp tq (fun h=>by cases h) fun _=>pre hF (endf hR')) (endf hR')) hR'
       | false =>
         rw [h9] at ev1
         have pre:∀ {f ρ' τ'},ExS C (k+3) (.for_ [cB] (.var cx) (iF TW) []) (Rg lx l [c] (.str [c])) (upd τ lx lf pb r (line+nlc c)) f ρ' τ'->(f=.next\/jN f=true) ->
          ExL C (k+3) [yu,.aug bT .Add (.var cB),.for_ [cB] (.var cx) (iF TW) []] (Rg lx l [] (.str [c])) (upd τ lx lf pb r (line+nlc c)) f ρ' τ':=fun {f ρ' τ'} h hf=>by
          refine aq (ρ1:=Rg lx l [] (.str [c])) (σ1:=upd τ lx lf pb r (line+nlc c)) (cp ev1 (fun h=>by cases h) fun _=>aF) ?_
          refine aq (jS (v0:=.str []) rfl (aa rfl) (kO (by simp))) ?_
          exact one h hf
         obtain ⟨f,ρ',τ',hF,hR⟩:=k6 (k:=k) G isW TW h1 h2 (fun τ t c x line st=>t_w G st) r (line+nlc c) [c] (.str [c]) _ st1 hl1 (by dsimp at hz ⊢;lia -abstractProof)
         have hR':lU l lx lf pb τ (tok (c::r) line) f ρ' τ':=by
          have e:tok (c::r) line=((bK isW r (line+nlc c) [c]).1,(bK isW r (line+nlc c) [c]).2.1,(bK isW r (line+nlc c) [c]).2.2.1):=by rw [ei,hw,hq,h9];rfl
          rw [e]
          unfold lU at hR ⊢
          simpa only [fW st.ne] using hR
         exact pn G st hl hz' h1 h2 (hρ _) (lift (cp tq (fun h=>by cases h) fun _=>pre hF (endf hR')) (endf hR')) hR'
end
end
section
open PySem PyProof.Rows
set_option maxRecDepth 100000
theorem fj:nm "append"=bY:=by kernel_rfl
theorem zE:nm "pop"=Bs:=by kernel_rfl
noncomputable def SWf (σ:Sto):Prop:=∀ l o,σ.get l=some o->l<σ.next/\belowO σ.next o
structure pO (C:Cx) (m:Nm) (ps:List Nm) (T:List St):Prop where
 ex:∃ f x,nm x=m/\j2 x=true/\PySem.W.findIn C.K (.ref C.cls) x=some (some (.ref f))/\PySem.W.isFn C.K (.ref f)=true/\Def C f ps T
section
variable {C:Cx} {k:Nat} {σ σ1 σ2 σ3:Sto} {ρ:Loc} {lx lf pb l:Nat} {x:List Nat} {line:Int}
theorem FnOk.wf {f:Value} {vs:List V} {v:V} (h:SWf σ->FnOk C k f vs σ v σ1):FnOk C k f vs σ v σ1:=fun A X s as rm S=>h (fun l o e=>⟨S.lt l o e,(S.obj l o e).below⟩) A X s as rm S
theorem rQ (L:LexOk C) {m:Nm} {ps:List Nm} {T:List St} (d:pO C m ps T) {o:Ex} {es:List Ex} {vs:List V} {v:V} (h1:EvE C k o ρ σ (.loc lx) σ1) (hl:σ1.get lx=some (.lexer lf line pb)) (h2:EvL C k es ρ σ1 vs σ2)
 (h3:∀ f,Def C f ps T->FnOk C k (.ref f) (.loc lx::vs) σ2 v σ3):EvE C k (.meth o m es) ρ σ v σ3:=by
 refine via fun _ g0=>?_
 obtain ⟨f,y,rfl,q1,q2,q3,q4⟩:=d.ex
 refine g0 ?_
 exact cL h1 (sd L hl q1 q2 q3) q4.fn h2 (h3 f q4)
theorem nG (L:LexOk C) {a:Ex} (h1:EvE C k a ρ σ (.loc lx) σ1) (hl:σ1.get lx=some (.lexer lf line pb)):EvE C k (.attr a dM) ρ σ (.loc pb) σ1:=by
 rw [<-BS];exact zJ L h1 hl
theorem nT (G:fk C) {f:Addr} (d:Def C f c6 T_get_token) (st:LexSt σ lx lf pb x line) {v:V} {q:List V} (hp:σ.get pb=some (.list (v::q))) (hz:q.length<1000):FnOk C (k+1) (.ref f) [.loc lx] σ v (σ.set pb (.list q)):=by
 have hz':q.length<sizeLine:=by rw [sizeLine_eq];lia -abstractProof
 refine' d.call (f:=.ret v) G.H ?x rfl ?v
 case x =>
  unfold T_get_token
  have e1:EvE C k (.attr (.var bG) dM) (bD [] c6 [.loc lx]) σ (.loc pb) σ:=nG G.L (aa rfl) st.hl
  refine aV (cp (c:=true) (gK rfl e1 ?_) (fun _=>aV (eV ?_) rfl) (fun h=>by cases h)) rfl
  ·exact i6 hp (by simp;lia -abstractProof)
  ·exact cL e1 (cS hp (by rw [<-zE,aK];exact PySem.F.slot_list_pop) PySem.F.type_list_pop) (.bi _) (ah aB aj) (un hp hz')
 case v=>rfl
theorem su (G:fk C) (hit:C.glob jD=some (.bf .iter)) {f:Addr} (d:Def C f c6 T_get_token) (st:LexSt σ lx lf pb x line) (hp:σ.get pb=some (.list [])) (hz:x.length<800000) :
 FnOk C (k+4) (.ref f) [.loc lx] σ (.str (tok x line).1) (upd σ lx lf pb (tok x line).2.1 (tok x line).2.2):=FnOk.wf fun W=>by
 have hlx:=(W _ _ st.hl).1
 have hlf:=(W _ _ st.hf).1
 have hpb:=(W _ _ hp).1
 have h1:σ.next≠lx:=by lia -abstractProof
 have h2:σ.next≠lf:=by lia -abstractProof
 have ns:(σ.new (.citer lx true)).get σ.next=some (.citer lx true):=by simp [Sto.new]
 have g:∀ l,l<σ.next->(σ.new (.citer lx true)).get l=σ.get l:=fun l h=>by simp only [Sto.new];exact if_neg (by lia -abstractProof)
 have st1:LexSt (σ.new (.citer lx true)) lx lf pb x line:=⟨by rw [g _ hlx];exact st.hl,by rw [g _ hlf];exact st.hf,st.ne,st.np,st.nq⟩
 obtain ⟨fl,ρ',τ',hF,hR⟩:=A5 (C:=C) (k:=k) G h1 h2 x line [(bG,.loc lx),(bT,.str []),(cx,.loc σ.next)] (σ.new (.citer lx true)) (fun v=>rfl) rfl st1 ns hz
 have hS:∀ b,(b=true\/b=false)->Sub σ (bif b then upd (σ.new (.citer lx true)) lx lf pb (tok x line).2.1 (tok x line).2.2 else (upd (σ.new (.citer lx true)) lx lf pb (tok x line).2.1 (tok x line).2.2).set σ.next (.citer lx false)) (upd σ lx lf pb (tok x line).2.1 (tok x line).2.2):=fun b _=>by
  refine ⟨Nat.le_refl _,by cases b<;>exact Nat.le_succ _,fun l o e=>?_⟩
  have hl:l<σ.next:=by
   rw [fo st.ne] at e
   split at e
   ·subst_vars;exact hlx
   ·split at e
    ·subst_vars;exact hlf
    ·exact (W _ _ e).1
  have e':(upd (σ.new (.citer lx true)) lx lf pb (tok x line).2.1 (tok x line).2.2).get l=some o:=by
   rw [fo st.ne] at e ⊢
   rw [g l hl];exact e
  refine ⟨?_,?_⟩
  ·cases b
   ·show (if l=σ.next then _ else _)=_
    rw [if_neg (by lia -abstractProof)];exact e'
   ·exact e'
  ·rw [fo st.ne] at e
   split at e
   ·cases e;exact .inr ⟨hl,hlf,hpb⟩
   ·split at e
    ·cases e
     refine .inr ⟨hl,?_⟩
     show belows _ (c5 _)
     unfold c5
     induction (tok x line).2.1 with
     | nil=>trivial
     | cons c r ih=>exact ⟨trivial,ih⟩
    ·exact .inl e
 have whole:∀ {fl:Fl} {τ':Sto},yS fl=.str (tok x line).1->∀ {ρ'},ExL C (k+3) T_get_token (bD [] c6 [.loc lx]) σ fl ρ' τ'->FnOk C (k+4) (.ref f) [.loc lx] σ (.str (tok x line).1) τ':=fun {fl τ'} hv {ρ'} h=>d.call G.H h rfl hv
 have start:∀ {fl:Fl} {ρ':Loc} {τ':Sto},ExL C (k+3) [.for_ [cB] (.var cx) xH [],.ret (.var bT)] [(bG,.loc lx),(bT,.str []),(cx,.loc σ.next)] (σ.new (.citer lx true)) fl ρ' τ'->ExL C (k+3) T_get_token (bD [] c6 [.loc lx]) σ fl ρ' τ':=fun {fl ρ' τ'} h=>by
  unfold T_get_token
  have e1:EvE C (k+3) (.attr (.var bG) dM) (bD [] c6 [.loc lx]) σ (.loc pb) σ:=nG G.L (aa rfl) st.hl
  refine aq (cp (c:=false) (gK rfl e1 ?_) (fun h=>by cases h) fun _=>aF) ?_
  ·exact i6 hp (by simp)
  refine aq (ak bE rfl fun _=>rfl) ?_
  have st':LexSt σ lx lf pb x line:=st
  have e2:=wA (C:=C) (k:=k+3) (ρ:=[(bG,.loc lx),(bT,.str [])]) G.H G.L (by rw [yp];exact hit) (aa (x:=bG) rfl) st.hl
  rw [yp,Df] at e2
  exact aq (ak e2 rfl fun _=>rfl) h
 have hF':=rT (aa (x:=cx) (ρ:=[(bG,.loc lx),(bT,.str []),(cx,.loc σ.next)]) rfl) ⟨lx,true,ns⟩ hF
 rcases hR with ⟨rfl,rfl⟩ | ⟨rfl,h3,h4,rfl⟩
 ·exact (whole rfl (start (aV hF' rfl))).drop (hS true (.inl rfl)) trivial
 ·have:Sub σ ((upd (σ.new (.citer lx true)) lx lf pb [] (tok x line).2.2).set σ.next (.citer lx false)) (upd σ lx lf pb (tok x line).2.1 (tok x line).2.2):=by
   have:=hS false (.inr rfl)
   rw [h4] at this ⊢
   exact this
  exact (whole rfl (start (aq hF' (aV (eV (aa h3)) rfl)))).drop this trivial
theorem CX (G:fk C) {f:Addr} (d:Def C f fO T_push_token) (st:LexSt σ lx lf pb x line) {v:V} {q:List V} (hp:σ.get pb=some (.list q)) (hz:q.length<1000):FnOk C (k+1) (.ref f) [.loc lx,v] σ .none (σ.set pb (.list (q++[v]))):=by
 have hz':q.length<=sizeLine:=by rw [sizeLine_eq];lia -abstractProof
 refine' d.call G.H ?x rfl ?v
 case x =>
  unfold T_push_token
  have e1:EvE C k (.attr (.var bG) dM) (bD [] fO [.loc lx,v]) σ (.loc pb) σ:=nG G.L (aa rfl) st.hl
  refine aq (gF (cL e1 (cS hp (by rw [<-fj,aK];exact PySem.F.slot_list_append) PySem.F.type_list_append) (.bi _) (ah (aa rfl) aj) (gh hp hz')) rfl) aF
 case v=>rfl
end
end
section
open PySem PyProof.Rows
set_option maxRecDepth 100000
open PySem.W (findIn typeIn clsIn findObj plainGet hasDictIn plainOver makesIn takerIn isFn instObj InstAt dictOf getL putL putN lookIn CodeHd tabObj kla_obj)
noncomputable abbrev eL:Str := "self"
noncomputable abbrev sFp:Str := "fp"
noncomputable abbrev fb:Str := "text"
noncomputable abbrev bW:Str := "stream"
noncomputable abbrev nU:Str := "_netrclex"
theorem uL:nm eL=bG:=by kernel_rfl
theorem BG:nm sFp=Ek:=by kernel_rfl
theorem AM:nm fb=aN:=by kernel_rfl
theorem vV:nm bW=xL:=by kernel_rfl
section
variable {C:Cx} {k:Nat} {ρ:Loc} {σ σ' σ1:Sto} {X X':Wld} {s s':Shared} {env:Env} {sc:Scope} {f x dx:Addr} {o:Obj} {n0:Nat} {A:Around}
structure Free (C:Cx) (σ:Sto) (X:Wld) (s:Shared) (f:Addr) (o:Obj):Prop where
 g:s.heap.get? f=some o
 z:¬ X.Z f
 w:¬ Wr C σ X f
theorem Free.evo {P:Addr->Prop} (F:Free C σ X s f o) (e:Evo C P σ X s σ' X' s') (hp:¬ P f):Free C σ' X' s' f o :=
 ⟨e.keep _ _ F.g F.w hp,fun z=>(e.zn f z).elim F.z fun h=>h.elim (fun h=>absurd (Heap.lt_size F.g) (Nat.not_lt.mpr h)) F.w,fun w=>(e.wn f w).elim F.w fun h=>absurd (Heap.lt_size F.g) (Nat.not_lt.mpr h)⟩
theorem mG {n:Nat} {y:Str} {p:Pos} (hb:dg y=false) (hk:kindIn sc y=some .local):aE (n+1) sc (.Name y p)=some (.var (nm y)):=by
 show nD sc y=_
 unfold nD
 rw [hb,hk];rfl
theorem jh {name:Str} {val:Expr} {e':Ex} {p p' pos:Pos} {es:List DictEntry} {n:Nat} {v:V} {Q:Flow->Shared->Prop} {E:Value->Shared->Prop} (L:LexOk C) (R:Rel C env sc ρ σ X s) (hself:get ρ (nm eL)=some (.fn x)) (hk:kindIn sc eL=some .local)
 (Fx:Free C σ X s x (instObj C.cls dx)) (Fd:Free C σ X s dx (dictOf es n)) (hne:x≠dx) (hpx:¬ Pl env x) (hpd:¬ Pl env dx) (hn:name∈[aR,aM,cj,d5]) (hg:(getL name es).isSome=true) (hz:es.length<=100) (rm:Room k A)
 (hev:EvE C k e' ρ σ v σ1) (he:aE n0 sc val=some e') (hsw:∀ t line,swapsWith val t line env=pure false)
 (hQ:∀ X' s' a hs tk,Rel C env sc ρ σ1 X' s'->Evo C (fun b=>Pl env b\/b=dx) σ X s σ1 X' s'->Free C σ1 X' s' x (instObj C.cls dx)->Free C σ1 X' s' dx (dictOf (putL name hs (.str name tk) a es) (putN name es n))->VRel C X' σ1.next s'.heap v a->Q .next s') :
 wpAny (model C.prog C.w) A (exec (.Assign [.Attribute (.Name eL p) name p'] val pos) env) Q E s:=by
 refine plainObj_wpAny_Assign_Attribute (hev _ _ _ he A env X s rm R _ _ fun a X1 s1 R1 v1 r1=>?_) (hsw _ _)
 refine (aa hself:EvE C k (.var (nm eL)) ρ σ1 (.fn x) σ1) 1 sc _ (mG (by rfl) hk) A env X1 s1 rm R1 _ _ fun o X2 s2 R2 v2 r2=>?_
 have ho:o=.ref x:=r2
 subst ho
 have v12:=v1.trans v2
 have Fx2:=Fx.evo v12 hpx
 have Fd2:=Fd.evo v12 hpd
 refine rD (L.kin R2.S) L.sa Fx2.g Fd2.g L.over (L.dat name hn).2 L.hd hg hz fun h' sb hd'=>?_
 obtain ⟨S3,e3⟩:=R2.S.turnFree (s':={ s2 with heap:=h',toks:=s2.toks+1+1 }) Fd2.z Fd2.w (fun b ob nb e=>(sb.2 b nb).trans e) (Nat.le_of_eq sb.1.symm) rfl rfl
 have v123:Evo C (fun b=>Pl env b\/b=dx) σ X s σ1 X2 _:=v12.comp e3 (fun _ h=>.inl h) fun _ _ h=>.inr h
 exact hQ X2 _ a _ _ (R2.evo S3 e3 (fun b hp q=>hpd (q▸hp)) fun b q=>q▸Fd2.z) v123 (Fx.evo v123 fun h=>h.elim hpx hne) ⟨hd',Fd2.z,Fd2.w⟩ (e3.rel R2.S (fun b q=>q▸Fd2.z) (v2.rel R1.S R1.pz r1))
theorem El {h1:Int} {t1:Tok} {v1:Value}:putL aR h1 (.str aR t1) v1 []=[⟨h1,.str aR t1,v1⟩]:=rfl
theorem Ev {h1 h2:Int} {t1 t2:Tok} {v1 v2:Value}:putL aM h2 (.str aM t2) v2 [⟨h1,.str aR t1,v1⟩]=[⟨h1,.str aR t1,v1⟩,⟨h2,.str aM t2,v2⟩]:=by kernel_rfl
theorem Ey {h1 h2 h3:Int} {t1 t2 t3:Tok} {v1 v2 v3:Value}:putL cj h3 (.str cj t3) v3 [⟨h1,.str aR t1,v1⟩,⟨h2,.str aM t2,v2⟩]=[⟨h1,.str aR t1,v1⟩,⟨h2,.str aM t2,v2⟩,⟨h3,.str cj t3,v3⟩]:=by kernel_rfl
theorem Ez {h1 h2 h3 h4:Int} {t1 t2 t3 t4:Tok} {v1 v2 v3 v4:Value}:putL d5 h4 (.str d5 t4) v4 [⟨h1,.str aR t1,v1⟩,⟨h2,.str aM t2,v2⟩,⟨h3,.str cj t3,v3⟩]=[⟨h1,.str aR t1,v1⟩,⟨h2,.str aM t2,v2⟩,⟨h3,.str cj t3,v3⟩,⟨h4,.str d5 t4,v4⟩]:=by kernel_rfl
theorem CL:(getL aR []).isSome=true:=rfl
theorem En {h1:Int} {t1:Tok} {v1:Value}:(getL aM [⟨h1,.str aR t1,v1⟩]).isSome=true:=by kernel_rfl
theorem Et {h1 h2:Int} {t1 t2:Tok} {v1 v2:Value}:(getL cj [⟨h1,.str aR t1,v1⟩,⟨h2,.str aM t2,v2⟩]).isSome=true:=by kernel_rfl
theorem EE {h1 h2 h3:Int} {t1 t2 t3:Tok} {v1 v2 v3:Value}:(getL d5 [⟨h1,.str aR t1,v1⟩,⟨h2,.str aM t2,v2⟩,⟨h3,.str cj t3,v3⟩]).isSome=true:=by kernel_rfl
noncomputable def j4 (p:Nat->Pos):List Stmt:=[
 .Assign [.Attribute (.Name eL (p 0)) aR (p 1)] (.Constant (.int 1) 0 (p 2)) (p 3),
 .Assign [.Attribute (.Name eL (p 4)) aM (p 5)] (.Name sFp (p 6)) (p 7),
 .Assign [.Attribute (.Name eL (p 8)) cj (p 9)] (.Constant (.str white) 0 (p 10)) (p 11),
 .Assign [.Attribute (.Name eL (p 12)) d5 (p 13)] (.List [] (p 14)) (p 15)]
theorem vD {p:Nat->Pos} {fI:Addr} {R0:Result->Shared->Prop} (H:COk C) (L:LexOk C) (hf:tu C fI [eL,sFp] sc (j4 p)) (hk1:kindIn sc eL=some .local) (hk2:kindIn sc sFp=some .local) (rm:Room (k+1) A) (S:SRel C σ X s)
 (Fx:Free C σ X s x (instObj C.cls dx)) (Fd:Free C σ X s dx (dictOf [] 0)) (hne:x≠dx)
 (h:∀ X' s' d,SRel C (σ.new (.list [])) X' s'->Evo C (fun b=>b=dx) σ X s (σ.new (.list [])) X' s'->Free C (σ.new (.list [])) X' s' x (instObj C.cls dx)->Free C (σ.new (.list [])) X' s' dx (kS d 1 f (X'.φ σ.next))->R0 (.ok (.ret .none)) s') :
 codeAny (model C.prog C.w) A (.call (.ref fI) ⟨[.ref x,.ref f],[]⟩) R0 s:=by
 have r:VsRel C X σ.next s.heap [.fn x,.fn f] [.ref x,.ref f]:=.cons (by rfl) (.cons (by rfl) .nil)
 refine tr H hf rfl rm S r fun A' env z0 _ rm' G pl R Q E hq=>?_
 have pl':∀ b o,s.heap.get? b=some o->¬ Pl env b:=fun b o g q=>Nat.lt_irrefl _ (Nat.lt_of_lt_of_le (Heap.lt_size g) (pl b q))
 have e0:=(S.grow0 G).2
 have gself:get (bD [] ([eL,sFp].map nm) [.fn x,.fn f]) (nm eL)=some (.fn x):=by simp only [List.map_cons,List.map_cons,List.map_nil,uL,BG];rfl
 have gfp:get (bD [] ([eL,sFp].map nm) [.fn x,.fn f]) (nm sFp)=some (.fn f):=by simp only [List.map_cons,List.map_cons,List.map_nil,uL,BG];rfl
 have hpx:=pl' _ _ Fx.g
 have hpd:=pl' _ _ Fd.g
 unfold j4
 refine wpAny_execs_cons (jh (k:=k) (n0:=1) L R gself hk1 (Fx.evo e0 id) (Fd.evo e0 id) hne hpx hpd (by exact List.mem_cons_self) CL (by simp) rm' aB rfl (fun _ _=>rfl) fun X1 s1 a1 h1 t1 R1 e1 Fx1 Fd1 r1=>?_)
 rw [El] at Fd1
 refine wpAny_execs_cons (jh (k:=k) (n0:=1) L R1 gself hk1 Fx1 Fd1 hne hpx hpd (by decide) En (by simp) rm' (aa gfp) (mG (by rfl) hk2) (fun _ _=>rfl) fun X2 s2 a2 h2 t2 R2 e2 Fx2 Fd2 r2=>?_)
 rw [Ev] at Fd2
 refine wpAny_execs_cons (jh (k:=k) (n0:=1) L R2 gself hk1 Fx2 Fd2 hne hpx hpd (by decide) Et (by simp) rm' bE rfl (fun _ _=>rfl) fun X3 s3 a3 h3 t3 R3 e3 Fx3 Fd3 r3=>?_)
 rw [Ey] at Fd3
 refine wpAny_execs_cons (jh (k:=k) (n0:=2) L R3 gself hk1 Fx3 Fd3 hne hpx hpd (by decide) EE (by exact Nat.le_of_ble_eq_true rfl) rm' (mM aj (by simp)) rfl (fun _ _=>rfl) fun X4 s4 a4 h4 t4 R4 e4 Fx4 Fd4 r4=>?_)
 rw [Ez] at Fd4
 refine wpAny_execs_nil (hq _ _ ?_)
 obtain ⟨t5,rfl⟩:=r1
 subst r2
 obtain ⟨t6,rfl⟩:=r3
 obtain ⟨_,rfl⟩:=r4
 rw [aK] at Fd4
 have e:Evo C (fun b=>Pl env b\/b=dx) σ X z0 (σ.new (.list [])) X4 s4:=((e1.trans e2).trans e3).trans e4
 have ee:Evo C (fun b=>b=dx) σ X s (σ.new (.list [])) X4 s4:=e0.comp e (fun _ h=>False.elim h) fun b hb q=>Or.elim q (fun q=>absurd hb (Nat.not_lt.mpr (pl b q))) id
 exact h _ _ ⟨_,_,_,_,_,_,_,_,_,_,_⟩ R4.S ee Fx4 Fd4
end
end
section
open PySem PyProof.Rows
set_option maxRecDepth 100000
open PySem.W (findIn typeIn clsIn findObj plainGet hasDictIn plainOver makesIn takerIn isFn instObj InstAt dictOf getL putL putN lookIn CodeHd tabObj kla_obj keepIn)
section
variable {C:Cx} {k:Nat} {ρ:Loc} {σ σ' σ1:Sto} {X X':Wld} {s s':Shared} {env:Env} {sc:Scope} {f x dx:Addr} {o:Obj} {n0:Nat} {A:Around}
noncomputable def oo (C:Cx) (p:Nat->Pos) (prm:Arguments) (sc0:Scope):List Stmt:=[
 .Assign [.Name bJ (p 0)] (.Call (.Name "list" (p 1)) [.Name fb (p 2)] [] (p 3)) (p 4),
 .Assign [.Name bW (p 5)] (.Lambda prm (.Constant .none 0 (p 6)) sc0 (p 7)) (p 8),
 .Assign [.Attribute (.Name bW (p 9)) ca (p 10)] (.Lambda C.lamP C.lamB C.lamS (p 11)) (p 12),
 .Return (some (.Call (.Name nU (p 13)) [.Name bW (p 14)] [] (p 15))) (p 16)]
structure jU (C:Cx) (a:Addr):Prop where
 at_:∃ sc p prm sc0,tu C a [fb] sc (oo C p prm sc0)/\kindIn sc bJ=some .cell/\kindIn sc fb=some .local/\kindIn sc bW=some .local/\kindIn sc "list"=some .globalImplicit/\kindIn sc nU=some .globalImplicit /\
  sc0.names=[]/\(∀ env,defaultsOf prm env=([],[]))
 fn:Fn C (.ref a)
 code:∃ o fd c0,C.base.get? a=some o/\o.data=.func fd/\fd.code=.ref c0/\CodeHd C.base c0 C.tab/\(fd.qualname ++ ".<locals>.") ++ "<lambda>"=C.lamQ
 init:∃ fI scI pI,findIn C.K (.ref C.cls) "__init__"=some (some (.ref fI))/\typeIn C.K (.ref fI)=some (.type "function")/\tu C fI [eL,sFp] scI (j4 pI)/\kindIn scI eL=some .local/\kindIn scI sFp=some .local
 lamN:C.lamN = "<lambda>"
 lamD:∀ env,defaultsOf C.lamP env=([],[])
 bm:C.base.BuiltinsAt C.mg C.tab
 clsG:C.glob gM=some (.fn C.cls)
 keep:keepIn C.K (.ref C.cls)=true
theorem AG:nm bJ=Cl:=by kernel_rfl
theorem Av:nm "list"=nC:=by kernel_rfl
theorem BV:nm nU=gM:=by kernel_rfl
theorem zR {cell:Addr} (Lm:lP C) (hc:env.cells.lookup bJ=some cell):closureFor C.lamS env=pure [(bJ,cell)]:=by
 rw [Lm.scope]
 unfold closureFor cellOf
 simp [hc]
theorem xE {sc0:Scope} (h:sc0.names=[]):closureFor sc0 env=pure []:=by
 unfold closureFor
 rw [h]
 rfl
theorem sF (hr:Room (k+1) A) {c:Addr} {l:List Value}:Room k (A.under (.builtin "type.__call__" ⟨.ref c::l,[]⟩)):=by
 have hw:(Code.builtin "type.__call__" ⟨.ref c::l,[]⟩).weight<=1:=by
  have:(Code.builtin "type.__call__" ⟨.ref c::l,[]⟩).weight=1:=by kernel_rfl
  exact Nat.le_of_ble_eq_true rfl
 refine ⟨?_,?_,hr.handled⟩
 ·have:=hr.depth
  show A.depth+_+k<=900
  lia -abstractProof
 ·have:=hr.units
  show A.units+1+20*k<=9000
  lia -abstractProof
end
end
section
open PySem PyProof.Rows
set_option maxRecDepth 100000
open PySem.W (findIn typeIn clsIn findObj plainGet hasDictIn plainOver makesIn takerIn isFn instObj InstAt dictOf getL putL putN lookIn CodeHd tabObj kla_obj keepIn)
section
variable {C:Cx} {k:Nat} {ρ:Loc} {σ σ' σ1:Sto} {X X':Wld} {s s':Shared} {env:Env} {sc:Scope} {f dx:Addr} {o:Obj} {n0:Nat} {A:Around} {x:List Nat}
noncomputable def fH (σ:Sto) (x:List Nat):Sto:=((σ.new (.list (c5 x))).new (.list [])).new (.lexer σ.next 1 (σ.next+1))
theorem ur {n:Nat} {y:Str} {p:Pos} (hb:dg y=false) (hk:kindIn sc y=some .globalImplicit):aE (n+1) sc (.Name y p)=some (.glob (nm y)):=by
 show nD sc y=_
 unfold nD
 rw [hb,hk];rfl
theorem Af {a:Addr} (H:COk C) (L:LexOk C) (Lm:lP C) (D:jU C a) (hgl:C.glob nC=some (.bf .list)) (hz:x.length<=sizeLine):FnOkC C (k+3) (.ref a) [.str x] σ (.loc (σ.next+2)) (fH σ x):=by
 intro A X s as rm S r R0 hQ
 obtain ⟨sc,p,prm,sc0,hf,kl,kt,ks,kli,kc,hs0,hd0⟩:=D.at_
 obtain ⟨oa,fda,c0,ha1,ha2,ha3,ha4,ha5⟩:=D.code
 obtain ⟨fI,scI,pI,hi1,hi2,hi3,hi4,hi5⟩:=D.init
 refine tr H hf rfl rm S r fun A' env z0 hEnv rm' G pl R Q E hq=>?_
 have LH:uu C env:=by
  obtain ⟨o,fd,q1,q2,q3,q4⟩:=hEnv
  rw [ha1] at q1;cases q1
  rw [ha2] at q2;cases q2
  exact ⟨⟨c0,q3.trans ha3,ha4⟩,by rw [q4];exact ha5⟩
 have e0:=(S.grow0 G).2
 have gt:get (bD [] ([fb].map nm) [.str x]) (nm fb)=some (.str x):=by rw [List.map_cons,List.map_nil,AM];rfl
 generalize hρ0:bD [] ([fb].map nm) [V.str x]=ρ0 at R gt
 have S1:ExS C (k+2) (.assign [nm bJ] false (.call (.glob (nm "list")) [.var (nm fb)])) ρ0 σ .next (put ρ0 (nm bJ) (.loc σ.next)) (σ.new (.list (c5 x))) :=
  ak (aG H (by rw [Av];exact hgl) (ah (aa gt) aj) (tx hz)) rfl (fun _=>rfl)
 have er1:cm 5 sc (.Assign [.Name bJ (p 0)] (.Call (.Name "list" (p 1)) [.Name fb (p 2)] [] (p 3)) (p 4))=some (.assign [nm bJ] false (.call (.glob (nm "list")) [.var (nm fb)])):=by
  have q1:fK sc (.Name bJ (p 0))=some (nm bJ):=by
   show (if dg bJ then none else if iG (kindIn sc bJ) then _ else none)=_
   rw [show dg bJ=false from by rfl,kl];rfl
  have q2:aE 3 sc (.Name "list" (p 1))=some (.glob (nm "list")):=ur (by rfl) kli
  have q3:aE 3 sc (.Name fb (p 2))=some (.var (nm fb)):=mG (by rfl) kt
  show (((fK sc (.Name bJ (p 0))).map fun y=>[y]).map fun xs e=>St.assign xs (decide (xs.length≠1)) e).bind (fun k=>((aE 3 sc (.Name "list" (p 1))).bind fun a=>((aE 3 sc (.Name fb (p 2))).bind fun b=>some [b]).bind fun l=>some (Ex.call a l)).bind fun e=>if lj e||noComp (.Call (.Name "list" (p 1)) [.Name fb (p 2)] [] (p 3)) then some (k e) else none)=_
  rw [q1,q2,q3];rfl
 unfold oo
 refine wpAny_execs_cons (S1 _ _ _ er1 A' env X z0 rm' R _ _ fun g1 X1 s1 R1 e1 fr1=>?_)
 cases g1<;>first | exact fr1.elim | skip
 have gl1:get (put ρ0 (nm bJ) (.loc σ.next)) (nm bJ)=some (.loc σ.next):=by rw [bN,if_pos rfl]
 generalize put ρ0 (nm bJ) (.loc σ.next)=ρ1 at R1 gl1
 have liveP:∀ {X':Wld} {ρ':Loc} {σ':Sto} {s':Shared} {b:Addr},Rel C env sc ρ' σ' X' s'->s'.heap.objs.size<=b->¬ Pl env b:=fun R' hb q=>by
  obtain ⟨o,g⟩:=R'.F.pl q
  exact Nat.lt_irrefl _ (Nat.lt_of_lt_of_le (Heap.lt_size g) hb)
 refine wpAny_execs_cons (wpAny_Assign_Name (rk H D.bm R1 LH (xE hs0) (hd0 env) fun f c ctv X2 s2 R2 e2 hsz2 hg2 nz2 nw2 zc2 cr2=>gR (v:=.fn f) R2 (by rw [ks];rfl) (by rfl) fun X3 s3 R3 e3=>?_))
 have nf:¬ Pl env f:=liveP R1 hsz2
 have F3:=(Free.mk hg2 nz2 nw2).evo e3 nf
 have gs3:get (put ρ1 (nm bW) (.fn f)) (nm bW)=some (.fn f):=by rw [bN,if_pos rfl]
 have gl3:get (put ρ1 (nm bW) (.fn f)) (nm bJ)=some (.loc σ.next):=by rw [bN,if_neg (by rw [AG,vV];decide)];exact gl1
 generalize put ρ1 (nm bW) (.fn f)=ρ3 at R3 gs3 gl3
 show wpAny (model C.prog C.w) A' (execs [.Assign [.Attribute (.Name bW (p 9)) ca (p 10)] (.Lambda C.lamP C.lamB C.lamS (p 11)) (p 12),.Return (some (.Call (.Name nU (p 13)) [.Name bW (p 14)] [] (p 15))) (p 16)] env) Q E s3
 obtain ⟨cell,hcell⟩:=R3.F.cl bJ (.inl kl)
 refine wpAny_execs_cons (plainObj_wpAny_Assign_Attribute (rk H D.bm R3 LH (zR Lm hcell) (D.lamD env) fun g c' ctv' X4 s4 R4 e4 hsz4 hg4 nz4 nw4 zc4 cr4=>?_))
 refine (aa gs3:EvE C k (.var (nm bW)) ρ3 _ (.fn f) _) 1 sc _ (mG (by rfl) ks) A' env X4 s4 (rm'.mono (by simp)) R4 _ _ fun ov X5 s5 R5 e5 r5=>?_
 have ho:ov=.ref f:=r5
 subst ho
 have F5:=(F3.evo e4 id).evo e5 nf
 have ng:¬ Pl env g:=liveP R3 hsz4
 have G5:=(Free.mk hg4 nz4 nw4).evo e5 ng
 refine xA F5.g rfl rfl rfl fun h6 tk hs t' kk df kp sz hdf gf gdf=>?_
 obtain ⟨S6,e6⟩:=R5.S.turnFree (s':={ s5 with heap:=h6,toks:=tk }) F5.z F5.w kp sz rfl rfl
 have R6:Rel C env sc ρ3 _ X5 { s5 with heap:=h6,toks:=tk }:=R5.evo S6 e6 (fun b hp q=>nf (q▸hp)) (fun b q=>q▸F5.z)
 have hgf:g≠f:=fun q=>Nat.lt_irrefl _ (Nat.lt_of_lt_of_le (Heap.lt_size F3.g) (q▸hsz4))
 have F6:Free C (σ.new (.list (c5 x))) X5 { s5 with heap:=h6,toks:=tk } f _:=⟨gf,F5.z,F5.w⟩
 have G6:=G5.evo e6 hgf
 have D6:Free C (σ.new (.list (c5 x))) X5 { s5 with heap:=h6,toks:=tk } df _:=⟨gdf,fun z=>let ⟨_,g⟩:=R5.S.zl _ z;Nat.lt_irrefl _ (Nat.lt_of_lt_of_le (Heap.lt_size g) hdf),fun w=>let ⟨_,g⟩:=R5.S.wl _ w;Nat.lt_irrefl _ (Nat.lt_of_lt_of_le (Heap.lt_size g) hdf)⟩
 have nd:¬ Pl env df:=liveP R5 hdf
 have he:eval (.Call (.Name nU (p 13)) [.Name bW (p 14)] [] (p 15)) env=(do callWith (p 15) (<-eval (.Name nU (p 13)) env) [] (backTo (p 15) (starEach [.Name bW (p 14)] env)) (backToKw (p 15) (keywordEach [] env))):=rfl
 refine wpAny_execs_cons (wpAny_Return_some ?_)
 rw [he]
 refine wpAny_bind ((eS H (by rw [BV];exact D.clsG):EvE C k (.glob (nm nU)) ρ3 _ (.fn C.cls) _) 1 sc _ (ur (by rfl) kc) A' env X5 _ (rm'.mono (by lia -abstractProof)) R6 _ _ fun cv X7 s7 R7 e7 r7=>?_)
 have hcv:cv=.ref C.cls:=r7
 subst hcv
 refine PySem.W.callWith_K (L.kin R7.S) D.keep ?_
 refine (ah (aa gs3) aj:EvL C k [.var (nm bW)] ρ3 _ [.fn f] _) 1 sc [.Name bW (p 14)] (by show ((aE 1 sc (.Name bW (p 14))).bind fun b=>some [b])=_;rw [mG (by rfl) ks];rfl) A' env X7 s7 (p 15) (rm'.mono (by lia -abstractProof)) R7 _ _ fun as8 X8 s8 R8 e8 r8=>⟨L.kin R8.S,?_⟩
 obtain ⟨v8,as8',rfl,r8a,r8b⟩:=r8.inv_cons
 rw [r8b.inv_nil]
 have hv8:v8=.ref f:=r8a
 subst hv8
 have F8:=(F6.evo e7 nf).evo e8 nf
 have G8:=(G6.evo e7 ng).evo e8 ng
 have D8:=(D6.evo e7 nd).evo e8 nd
 obtain ⟨hp8,g8,d8,t8,os8⟩:=s8
 refine wpAny_call (PySem.W.make_core (PySem.W.makes_of (L.kin R8.S) L.makes) (PySem.W.looks_findIn (L.kin R8.S) hi1) (fun self=>PySem.W.bind_fn (L.kin R8.S) self hi2) (.inl rfl) ?_)
 have Gr:Grow ⟨hp8,g8,d8,t8,os8⟩ ⟨(hp8.push PySem.W.emptyDict).push (instObj C.cls hp8.objs.size),g8,d8,t8,os8⟩ :=
  ⟨fun b o e=>Heap.get?_push_of_some _ (Heap.get?_push_of_some _ e),by show _<=((hp8.push _).push _).objs.size;rw [Heap.size_push,Heap.size_push];show hp8.objs.size<=_;lia -abstractProof,rfl,rfl⟩
 obtain ⟨S9,e9⟩:=R8.S.grow0 Gr
 have zl8:∀ b,X8.Z b->b<hp8.objs.size:=fun b z=>(R8.S.zl b z).elim fun _ g=>Heap.lt_size g
 have wl8:∀ b,Wr C _ X8 b->b<hp8.objs.size:=fun b w=>(R8.S.wl b w).elim fun _ g=>Heap.lt_size g
 have Fx9:Free C _ X8 ⟨(hp8.push PySem.W.emptyDict).push (instObj C.cls hp8.objs.size),g8,d8,t8,os8⟩ (hp8.objs.size+1) (instObj C.cls hp8.objs.size) :=
  ⟨by have:=Heap.get?_push_size (hp8.push PySem.W.emptyDict) (o:=instObj C.cls hp8.objs.size) rfl;rwa [Heap.size_push] at this,fun z=>Nat.lt_irrefl _ (Nat.lt_trans (Nat.lt_succ_self _) (zl8 _ z)),fun w=>Nat.lt_irrefl _ (Nat.lt_trans (Nat.lt_succ_self _) (wl8 _ w))⟩
 have Fd9:Free C _ X8 ⟨(hp8.push PySem.W.emptyDict).push (instObj C.cls hp8.objs.size),g8,d8,t8,os8⟩ hp8.objs.size (dictOf [] 0) :=
  ⟨Heap.get?_push_of_some _ (Heap.get?_push_size _ rfl),fun z=>Nat.lt_irrefl _ (zl8 _ z),fun w=>Nat.lt_irrefl _ (wl8 _ w)⟩
 refine vD (k:=k) (x:=hp8.objs.size+1) (dx:=hp8.objs.size) (f:=f) H L hi3 hi4 hi5 (sF rm') S9 Fx9 Fd9 (Nat.succ_ne_self _) fun X10 s10 ld S10 e10 Fx10 Fd10=>⟨rfl,?_⟩
 refine hq _ _ ?_
 obtain ⟨c8,a8,q1,q2,q3⟩:=R8.F.cv (nm bJ) (.loc σ.next) gl3 (by rw [aK];exact .inl kl)
 rw [aK,hcell] at q1
 cases q1
 obtain ⟨hlt,rfl⟩:=q3
 obtain ⟨oc8,gc8,dc8⟩:=q2
 have C8:Free C _ X8 ⟨hp8,g8,d8,t8,os8⟩ cell oc8:=⟨gc8,R8.pz _ (.inr ⟨_,hcell⟩),R8.pw _ (.inr ⟨_,hcell⟩)⟩
 have lt8:∀ {b o},hp8.get? b=some o->b≠hp8.objs.size:=fun g q=>Nat.lt_irrefl _ (q▸Heap.lt_size g)
 have F10:=(F8.evo e9 id).evo e10 (lt8 F8.g)
 have G10:=(G8.evo e9 id).evo e10 (lt8 G8.g)
 have D10:=(D8.evo e9 id).evo e10 (lt8 D8.g)
 have C10:=(C8.evo e9 id).evo e10 (lt8 C8.g)
 have e48:Evo C (fun b=>Pl env b\/b=f\/b=hp8.objs.size) _ X4 s4 _ X10 s10 :=
  (((((e5.weak fun b h=>.inl h).trans (e6.weak fun b h=>.inr (.inl h))).trans (e7.weak fun b h=>.inl h)).trans (e8.weak fun b h=>.inl h)).trans (e9.weak fun b h=>h.elim)).trans (e10.weak fun b h=>.inr (.inr h))
 have eA:Evo C (fun b=>Pl env b\/b=f\/b=hp8.objs.size) σ X s _ X10 s10 :=
  (((((e0.weak fun b h=>h.elim).trans (e1.weak fun b h=>.inl h)).trans (e2.weak fun b h=>h.elim)).trans (e3.weak fun b h=>.inl h)).trans (e4.weak fun b h=>h.elim)).trans e48
 have sz1:s.heap.objs.size<=s1.heap.objs.size:=Nat.le_trans e0.size e1.size
 have sz3:s.heap.objs.size<=s3.heap.objs.size:=Nat.le_trans sz1 (Nat.le_trans e2.size e3.size)
 have sz5:s.heap.objs.size<=s5.heap.objs.size:=Nat.le_trans sz3 (Nat.le_trans e4.size e5.size)
 have sz8:s.heap.objs.size<=hp8.objs.size:=Nat.le_trans sz5 (Nat.le_trans e6.size (Nat.le_trans e7.size e8.size))
 have eN:Evo C NoP σ X s _ X10 s10:=(Evo.refl:Evo C NoP σ X s σ X s).comp eA (fun _ h=>h) fun b hb h=>by
  rcases h with h | rfl | rfl
  ·exact absurd hb (Nat.not_lt.mpr (pl b h))
  ·exact absurd hb (Nat.not_lt.mpr (Nat.le_trans sz1 hsz2))
  ·exact absurd hb (Nat.not_lt.mpr sz8)
 have zc10:X10.Z c':=e48.zm _ zc4
 have cr10:s10.heap.CodeRec (.ref c') C.lamQ:=by
  obtain ⟨a,o,vs,t,w1,w2,w3⟩:=cr4
  cases w1
  refine ⟨c',o,vs,t,rfl,e48.zkeep R4.S (fun b h=>?_) _ _ zc4 w2,w3⟩
  rcases h with h | rfl | rfl
  ·exact R4.pz b h
  ·exact (F3.evo e4 id).z
  ·intro z
   obtain ⟨_,g⟩:=R4.S.zl _ z
   exact absurd (Heap.lt_size g) (Nat.not_lt.mpr (Nat.le_trans e5.size (Nat.le_trans e6.size (Nat.le_trans e7.size e8.size))))
 have ph8:X10.φ σ.next=X8.φ σ.next:=(e10.ph σ.next hlt).1
 let N:Addr->Prop:=fun b=>b=f\/b=df\/b=g\/b=cell\/b=hp8.objs.size+1
 have hN:∀ c,N c->s.heap.objs.size<=c/\(∃ ob,s10.heap.get? c=some ob)/\¬ Wr C _ X10 c:=fun c n=>by
  rcases n with rfl | rfl | rfl | rfl | rfl
  ·exact ⟨Nat.le_trans sz1 hsz2,⟨_,F10.g⟩,F10.w⟩
  ·exact ⟨Nat.le_trans sz5 hdf,⟨_,D10.g⟩,D10.w⟩
  ·exact ⟨Nat.le_trans sz3 hsz4,⟨_,G10.g⟩,G10.w⟩
  ·exact ⟨pl _ (.inr ⟨_,hcell⟩),⟨_,C10.g⟩,C10.w⟩
  ·exact ⟨Nat.le_trans sz8 (Nat.le_succ _),⟨_,Fx10.g⟩,Fx10.w⟩
 have pa:(X10.add (σ.next+1+1) (hp8.objs.size+1) hp8.objs.size N).φ (σ.next+1+1)=hp8.objs.size+1:=by simp [Wld.add]
 have pb:(X10.add (σ.next+1+1) (hp8.objs.size+1) hp8.objs.size N).ψ (σ.next+1+1)=hp8.objs.size:=by simp [Wld.add]
 have pc:(X10.add (σ.next+1+1) (hp8.objs.size+1) hp8.objs.size N).φ σ.next=X8.φ σ.next:=by rw [<-ph8];show (if σ.next=σ.next+1+1 then _ else _)=_;rw [if_neg (by exact W.ktu_ne 1 hlt)]
 have pd:(X10.add (σ.next+1+1) (hp8.objs.size+1) hp8.objs.size N).φ (σ.next+1)=X10.φ (σ.next+1):=by show (if σ.next+1=σ.next+1+1 then _ else _)=_;simp
 have nN:¬ N hp8.objs.size:=by
  rintro (q | q | q | q | q)
  ·exact lt8 F8.g q.symm
  ·exact lt8 D8.g q.symm
  ·exact lt8 G8.g q.symm
  ·exact lt8 C8.g q.symm
  ·exact Nat.succ_ne_self _ q.symm
 have SA:StreamAt C (X10.add (σ.next+1+1) (hp8.objs.size+1) hp8.objs.size N) s10.heap f (X8.φ σ.next) :=
  .mk _ _ df g cell c' hs t' kk _ ctv' (.inr (.inl rfl)) F10.g rfl rfl rfl (.inr (.inr (.inl rfl))) D10.g (.inr (.inr (.inr (.inl rfl)))) (by rw [D.lamN];exact G10.g) (.inr (.inr (.inr (.inr (.inl rfl))))) ⟨oc8,C10.g,dc8⟩ (.inl zc10) cr10
 obtain ⟨S11,e11⟩:=S10.newSeal (o:=.lexer σ.next 1 (σ.next+1)) eN (hp8.objs.size+1) hp8.objs.size N hN
  (fun c m=>by
    have hm:c=hp8.objs.size:=by simpa [foot,Wld.add] using m
    subst hm
    exact ⟨sz8,⟨_,Fd10.g⟩,nN,Fd10.z,Fd10.w⟩)
  (show LexAt C (X10.add (σ.next+1+1) (hp8.objs.size+1) hp8.objs.size N) (σ.next+1+1+1) s10.heap (σ.next+1+1) σ.next 1 (σ.next+1) from
    ⟨by lia -abstractProof,by simp,by rw [pa];exact .inr (.inr (.inr (.inr (.inr rfl)))),by rw [pa,pb];exact Fx10.g,ld,f,by rw [pb,pd];exact Fd10.g,by rw [pc];exact SA⟩)
 exact hQ _ _ _ S11 e11 (by
  exact ⟨by show σ.next+2<σ.next+1+1+1;simp,by show _=Value.ref ((X10.add (σ.next+1+1) (hp8.objs.size+1) hp8.objs.size N).φ (σ.next+1+1));rw [pa];rfl⟩)
end
end
section
open PySem PyProof.Rows
set_option maxRecDepth 100000
theorem um (a b:Nat):Int.fdiv (a:Int) (b:Int)=((a / b:Nat):Int):=by rw [Int.fdiv_eq_ediv_of_nonneg _ (Int.natCast_nonneg b)];exact (Int.natCast_ediv a b).symm
theorem tU (a b:Nat):Int.fmod (a:Int) (b:Int)=((a % b:Nat):Int):=by rw [Int.fmod_eq_emod_of_nonneg _ (Int.natCast_nonneg b)];exact (Int.natCast_emod a b).symm
theorem n5 (a b:Nat):Builtin.bitAnd (a:Int) (b:Int)=((a &&& b:Nat):Int):=by
 unfold Builtin.bitAnd
 rw [show decide (0<=(a:Int))=true from by rfl,show decide (0<=(b:Int))=true from by rfl]
 dsimp
theorem D7 (a b:Nat):Builtin.bitOr (a:Int) (b:Int)=((a ||| b:Nat):Int):=by
 delta Builtin.bitOr Builtin.bitAnd Builtin.bitNot
 rw [show decide (0<=-(a:Int) - 1)=false from by simp;lia -abstractProof,show decide (0<=-(b:Int) - 1)=false from by simp;lia -abstractProof]
 simp only
 rw [show (-(-(a:Int) - 1) - 1).toNat=a from by lia -abstractProof,show (-(-(b:Int) - 1) - 1).toNat=b from by lia -abstractProof]
 lia -abstractProof
theorem gL {C:Cx} {k:Nat} {xs:List Nm} {body orelse:List St} (Inv:List V->Loc->Sto->Prop) (Post:Fl->Loc->Sto->Prop)
 (stp:∀ v vs ρ σ,Inv (v::vs) ρ σ->∃ ρ1 g ρ2 σ2,bI ρ xs v=some ρ1/\ExL C k body ρ1 σ g ρ2 σ2/\(match g with | .next=>Inv vs ρ2 σ2 | .cont=>Inv vs ρ2 σ2 | .brk=>Post .next ρ2 σ2 | .ret u=>Post (.ret u) ρ2 σ2))
 (fin:∀ ρ σ,Inv [] ρ σ->∃ f ρ' σ',ExL C k orelse ρ σ f ρ' σ'/\Post f ρ' σ'):∀ (vs:List V) (ρ:Loc) (σ:Sto),Inv vs ρ σ->∃ f ρ' σ',ForR C k xs body orelse ρ σ vs f ρ' σ'/\Post f ρ' σ'
 | [],ρ,σ,h=>let ⟨f,ρ',σ',h1,h2⟩:=fin ρ σ h;⟨f,ρ',σ',.done h1,h2⟩
 | v::vs,ρ,σ,h=>by
   refine via fun _ g0=>?_
   obtain ⟨ρ1,g,ρ2,σ2,hb,hx,hp⟩:=stp v vs ρ σ h
   refine g0 ?_
   cases g with
   | next=>obtain ⟨f,ρ',σ',h1,h2⟩:=gL Inv Post stp fin vs ρ2 σ2 hp;exact ⟨f,ρ',σ',.step hb hx h1,h2⟩
   | cont=>obtain ⟨f,ρ',σ',h1,h2⟩:=gL Inv Post stp fin vs ρ2 σ2 hp;exact ⟨f,ρ',σ',.cont hb hx h1,h2⟩
   | brk=>exact ⟨_,_,_,.brk hb hx,hp⟩
   | ret u=>exact ⟨_,_,_,.ret hb hx,hp⟩
noncomputable def wordsL:List (List Nat):=[[79,80,84,73,77,73,90,69,68],[78,69,87,76,79,67,65,76,83],[86,65,82,65,82,71,83],[86,65,82,75,69,89,87,79,82,68,83],[78,69,83,84,69,68],[71,69,78,69,82,65,84,79,82],[78,79,70,82,69,69],[67,79,82,79,85,84,73,78,69],[73,84,69,82,65,66,76,69,95,67,79,82,79,85,84,73,78,69],[65,83,89,78,67,95,71,69,78,69,82,65,84,79,82]]
noncomputable def figs:List Nat:=[49,50,52,56]
noncomputable def bM (p:Nat):List Nat:=if p<10 then wordsL.getD p [] else [48,120]++[figs.getD (p % 4) 0]++List.replicate (p / 4) 48
section
variable {C:Cx} {k:Nat} {σ:Sto}
theorem yO {p:Nat} (h:p<10):idx (aC wordsL) (p:Int)=some (.str (bM p)):=by
 revert p
 show ∀ p,p<10->_
 exact Cr rfl rfl rfl rfl rfl rfl rfl rfl rfl rfl
theorem AV {p:Nat} (h:p<4):(seqIndex? (p:Int) figs.length).bind (figs[·]?)=some (figs.getD p 0):=by
 revert p
 show ∀ p,p<4->_
 exact at4 rfl rfl rfl rfl
theorem wM (n:Nat):(List.replicate n [48]).flatten=List.replicate n 48:=by
 induction n with
 | zero=>rfl
 | succ n ih=>rw [List.replicate_succ,List.flatten_cons,ih];rfl
theorem ku {ρ:Loc}:∀ l:List (List Nat),EvL C k (l.map .cStr) ρ σ (aC l) σ
 | []=>aj
 | x::l=>ah bE (ku l)
theorem CR (H:COk C) (d:DefAt C eG jC T_law_name) {p:Nat} (hp:p<1000):Calls C (k+1) eG [.int p] σ (.str (bM p)) σ:=by
 refine' d.calls (f:=.ret (.str (bM p))) H ?x rfl rfl
 case x =>
  unfold T_law_name
  refine' aq (ρ1:=[(dC,.int p),(aS,.list (aC wordsL))]) (σ1:=σ) (ak (dA (ku wordsL) (by decide)) rfl fun _=>rfl) ?r
  case' r=>skip
  refine' aV (eV (ed (σ1:=σ) (c:=decide ((p:Int)<10)) ?t ?a ?b)) rfl
  case t=>exact aJ (aa rfl) aB Dk aH
  case a =>
   intro h
   have hp:p<10:=by have:=of_decide_eq_true h;exact Iff.mp Int.ofNat_lt this
   exact mD (aa rfl) (aa rfl) gB PySem.F.slot_list_getitem.lookup (kQ (yO hp) (by simp) (by lia -abstractProof))
  case b =>
   intro h
   have hp10:¬ p<10:=by have:=of_decide_eq_false h;lia -abstractProof
   have e1:EvE C k (.bin .Mod (.var dC) (.cInt 4)) [(dC,.int p),(aS,.list (aC wordsL))] σ (.int ((p % 4:Nat):Int)) σ :=
    EvE.eq (v:=.int ((p:Int).fmod 4)) (ap (aa rfl) aB (fV (by decide))) (congrArg V.int (tU p 4))
   have e2:EvE C k (.bin .FloorDiv (.var dC) (.cInt 4)) [(dC,.int p),(aS,.list (aC wordsL))] σ (.int ((p / 4:Nat):Int)) σ :=
    EvE.eq (v:=.int ((p:Int).fdiv 4)) (ap (aa rfl) aB (jg (by decide) (by decide))) (congrArg V.int (um p 4))
   have e3:EvE C k (.sub (.cStr [49,50,52,56]) (.bin .Mod (.var dC) (.cInt 4))) [(dC,.int p),(aS,.list (aC wordsL))] σ (.str [figs.getD (p % 4) 0]) σ :=
    mD bE e1 k9 PySem.F.slot_str_getitem.lookup (ri (AV (by grind -abstractProof)) (by exact Int.neg_ofNat_le_natCast (2 ^ 63) (p % 4)) (by grind -abstractProof))
   have e4:EvE C k (.bin .Mult (.cStr [48]) (.bin .FloorDiv (.var dC) (.cInt 4))) [(dC,.int p),(aS,.list (aC wordsL))] σ (.str (List.replicate (p / 4) 48)) σ:=by
    rw [<-wM]
    exact ap bE e2 (zh (by simp;lia -abstractProof) (by lia -abstractProof) (by decide))
   have e5:=ap (ap bE e3 (dX (x:=[48,120]) (y:=[figs.getD (p % 4) 0]) (by exact Nat.le_of_ble_eq_true rfl))) e4 (dX (by simp;lia -abstractProof))
   rw [bM,if_neg hp10]
   exact e5
end
end
section
open PySem PyProof.Rows
set_option maxRecDepth 100000
theorem tX (q j:Nat):(q*2 ^ j) &&& 2 ^ j=(q % 2)*2 ^ j:=by
 apply Nat.eq_of_testBit_eq
 intro i
 simp only [Nat.testBit_and,Nat.testBit_mul_two_pow,Nat.testBit_mul_two_pow,Nat.testBit_two_pow]
 by_cases h:j=i
 ·subst h
  simp [Nat.testBit_zero]
 ·by_cases h2:j<=i
  ·have:(q % 2).testBit (i - j)=false:=Nat.testBit_lt_two_pow (Nat.lt_of_lt_of_le (Nat.mod_lt _ (by simp)) (by
    have:2 ^ 1<=2 ^ (i - j):=Nat.pow_le_pow_right (by decide) (by lia -abstractProof)
    omega))
   rw [this]
   simp [h]
  ·simp [h,h2]
theorem CB (q j:Nat) (h1:q % 2=1):(q*2 ^ j) ||| 2 ^ j=q*2 ^ j:=by
 apply Nat.eq_of_testBit_eq
 intro i
 rw [Nat.testBit_or,Nat.testBit_mul_two_pow,Nat.testBit_two_pow]
 by_cases h:j=i
 ·subst h
  simp [Nat.testBit_zero,h1]
 ·simp [h]
theorem A2 (q j:Nat) (h1:q % 2=1):Builtin.bitXor ((q*2 ^ j:Nat):Int) ((2 ^ j:Nat):Int)=((q / 2*2 ^ (j+1):Nat):Int):=by
 unfold Builtin.bitXor
 simp only [D7,n5,CB q j h1,tX,h1,Nat.one_mul,Nat.pow_succ]
 have:q=q / 2*2+1:=by lia -abstractProof
 have e:q*2 ^ j=q / 2*(2 ^ j*2)+2 ^ j:=by
  conv=>lhs;rw [this]
  simp only [Nat.add_mul,Nat.one_mul,Nat.mul_assoc,Nat.mul_comm 2]
 rw [e]
 simp
noncomputable def flagKeys:List Int:=[1,2,4,8,16,32,64,128,256,512]
noncomputable def kr:V:=.dict flagKeys (aC wordsL)
noncomputable def aX (m j:Nat):List (List Nat):=((List.range j).filter (m.testBit ·)).map bM
noncomputable def cJ (m:Nat):List (List Nat):=if m=0 then [[48,120,48]] else aX m 33
theorem ox:∀ j,10<=j->j<33->hexOf ((2 ^ j:Nat):Int)=bM j:=by
 have h:(List.range 33).all (fun j=>decide (j<10)||hexOf ((2 ^ j:Nat):Int)==bM j)=true:=by rfl
 intro j h1 h2
 have:=List.all_eq_true.mp h j (List.mem_range.mpr h2)
 simp only [Bool.or_eq_true,decide_eq_true_eq,beq_iff_eq] at this
 rcases this with h | h
 ·grind -abstractProof
 ·exact h
theorem zT:∀ j,j<33->(hexOf ((2 ^ j:Nat):Int)).length<1000:=by
 have h:(List.range 33).all (fun j=>decide ((hexOf ((2 ^ j:Nat):Int)).length<1000))=true:=by rfl
 intro j h2
 simpa using List.all_eq_true.mp h j (List.mem_range.mpr h2)
theorem qH {ks:List Int} {vs:List V} {i:Int} (h:i∉ks):atK ks vs i=none:=by
 unfold atK
 induction ks generalizing vs with
 | nil=>rfl
 | cons a ks ih =>
   cases vs with
   | nil=>rfl
   | cons v vs =>
     simp only [List.zip_cons_cons,List.lookup_cons]
     have:(i==a)=false:=beq_eq_false_iff_ne.mpr fun q=>h (q▸.head _)
     rw [this]
     exact ih fun m=>h (.tail _ m)
theorem zy {j:Nat} (hj:j<33):(atK flagKeys (aC wordsL) ((2 ^ j:Nat):Int)).getD (.str (hexOf ((2 ^ j:Nat):Int)))=.str (bM j):=by
 by_cases h:j<10
 ·clear hj
  revert j
  show ∀ j,j<10->_
  exact Cr rfl rfl rfl rfl rfl rfl rfl rfl rfl rfl
 ·have h1:2 ^ 10<=2 ^ j:=Nat.pow_le_pow_right (by decide) (by lia -abstractProof)
  have:((2 ^ j:Nat):Int)∉flagKeys:=by
   intro m
   have:∀ i∈flagKeys,i<1024:=by decide
   have:=this _ m
   lia -abstractProof
  rw [qH this,ox j (by lia -abstractProof) hj];rfl
theorem eJ (m j:Nat):aX m (j+1)=if m.testBit j=true then aX m j++[bM j] else aX m j:=by
 unfold aX
 rw [List.range_succ,List.filter_append,List.map_append]
 by_cases h:m.testBit j<;>simp [h]
theorem nW {m j:Nat} (h:m / 2 ^ j=0) (n:Nat):aX m (j+n)=aX m j:=by
 induction n with
 | zero=>rfl
 | succ n ih =>
   rw [<-Nat.add_assoc,eJ,ih,if_neg]
   have:m<2 ^ j:=by
    rcases Nat.div_eq_zero_iff.mp h with h | h
    ·exact absurd h (Nat.ne_of_gt (Nat.two_pow_pos j))
    ·exact h
   rw [Nat.testBit_lt_two_pow (Nat.lt_of_lt_of_le this (Nat.pow_le_pow_right (by decide) (by simp)))]
   simp
theorem gX (m j:Nat):(aX m j).length<=j:=by
 unfold aX
 rw [List.length_map]
 exact Nat.le_trans (List.length_filter_le _ _) (by simp)
theorem bz (lo:Int) (n:Nat):aZ lo (n+1)=.int lo::aZ (lo+1) n:=rfl
section
variable {C:Cx} {k:Nat} {σ:Sto} {ρ:Loc}
theorem Ar:nm "get"=qW:=by kernel_rfl
theorem j9:nm "join"=jJ:=by kernel_rfl
theorem Calls.wf {x:Nm} {vs:List V} {v:V} {σ1:Sto} (hx:∃ a,C.glob x=some (.fn a)/\Fn C (.ref a)) (h:SWf σ->Calls C k x vs σ v σ1):Calls C k x vs σ v σ1:=by
 obtain ⟨a,h1,h2⟩:=hx
 refine ⟨a,h1,h2,FnOk.wf fun W=>?_⟩
 obtain ⟨b,g1,g2,g3⟩:=(h W).ex
 rw [h1] at g1
 cases g1
 exact g3
theorem Calls.drop {x:Nm} {vs:List V} {v:V} {σ' σ'':Sto} (h:Calls C k x vs σ v σ') (b:Sub σ σ' σ'') (hb:below σ''.next v):Calls C k x vs σ v σ'':=by
 obtain ⟨a,h1,h2,h3⟩:=h.ex
 exact ⟨a,h1,h2,h3.drop b hb⟩
theorem DefAt.fn {x:Nm} {ps:List Nm} {T:List St} (d:DefAt C x ps T):∃ a,C.glob x=some (.fn a)/\Fn C (.ref a):=let ⟨a,h1,h2⟩:=d.ex;⟨a,h1,h2.fn⟩
theorem Sub.made {o o':O} (W:SWf σ):Sub σ (((σ.new o).set σ.next o').del σ.next) σ:=Sub.old (Nat.le_succ _) fun l o1 e=>by
 have:=(W l o1 e).1
 simp only [Sto.new,Sto.set,Sto.del]
 rw [if_neg (by lia -abstractProof),if_neg (by lia -abstractProof),if_neg (by lia -abstractProof)];exact e
noncomputable abbrev Bm:List St:=[.assign [bC] false (.bin .LShift (.cInt 1) (.var n_i)),.ifs (.bin .BitAnd (.var bn) (.var bC)) [.expr (.meth (.var aD) bY [(.meth (.glob ba) qW [(.var bC),(.call (.glob lK) [(.var bC)])])]),.aug bn .BitXor (.var bC),.ifs (.not (.var bn)) [.brk] []] []]
noncomputable def fX (m j:Nat):V:=.int ((m / 2 ^ j*2 ^ j:Nat):Int)
noncomputable def DK (m l:Nat) (σ1:Sto) (vs:List V) (ρ:Loc) (τ:Sto):Prop :=
 ∃ j:Nat,j<=32/\vs=aZ (j:Int) (32 - j)/\τ=σ1.set l (.list (aC (aX m j)))/\(m≠0->m / 2 ^ j≠0)/\(ρ=[(bn,fX m j),(aD,.loc l)]\/∃ u w,ρ=[(bn,fX m j),(aD,.loc l),(n_i,u),(bC,w)])
noncomputable def D0 (m l:Nat) (σ1:Sto) (f:Fl) (ρ:Loc) (τ:Sto):Prop:=f=.next/\get ρ aD=some (.loc l)/\τ=σ1.set l (.list (aC (cJ m)))
theorem vU (H:COk C) (B:Bi C) (hD:C.glob ba=some kr) {m l j:Nat} (hj:j<32) (hm:m≠0->m / 2 ^ j≠0) {ρ1:Loc} {σ1:Sto} (hi:get ρ1 n_i=some (.int j)) (hp:∀ w,put ρ1 bC w=[(bn,fX m j),(aD,.loc l),(n_i,.int j),(bC,w)]) :
 ∃ g ρ2 σ2,ExL C k Bm ρ1 (σ1.set l (.list (aC (aX m j)))) g ρ2 σ2/\((g=.next/\ρ2=[(bn,fX m (j+1)),(aD,.loc l),(n_i,.int j),(bC,.int ((2 ^ j:Nat):Int))]/\σ2=σ1.set l (.list (aC (aX m (j+1))))/\(m≠0->m / 2 ^ (j+1)≠0)) \/
   (g=.brk/\get ρ2 aD=some (.loc l)/\σ2=σ1.set l (.list (aC (cJ m))))):=by
 have hf:∀ τ,EvE C k (.bin .LShift (.cInt 1) (.var n_i)) ρ1 τ (.int ((2 ^ j:Nat):Int)) τ:=fun τ=>by
  refine EvE.eq (v:=.int (1*2 ^ (j:Int).toNat)) (ap aB (aa hi) (CN (by simp) (by lia -abstractProof) (by simp))) ?_
  simp
 have S1:∀ τ,ExS C k (.assign [bC] false (.bin .LShift (.cInt 1) (.var n_i))) ρ1 τ .next [(bn,fX m j),(aD,.loc l),(n_i,.int j),(bC,.int ((2 ^ j:Nat):Int))] τ:=fun τ =>
  ak (hf τ) (by rw [<-hp];rfl) fun _=>rfl
 have hX:∀ τ,EvT C k (.bin .BitAnd (.var bn) (.var bC)) [(bn,fX m j),(aD,.loc l),(n_i,.int j),(bC,.int ((2 ^ j:Nat):Int))] τ (m.testBit j) τ:=fun τ=>by
  have e:(Builtin.bitAnd ((m / 2 ^ j*2 ^ j:Nat):Int) ((2 ^ j:Nat):Int) != 0)=m.testBit j:=by
   rw [n5,tX]
   have hp2:=Nat.two_pow_pos j
   have:m.testBit j=decide (m / 2 ^ j % 2=1):=Nat.testBit_eq_decide_div_mod_eq
   rw [this]
   rcases Nat.mod_two_eq_zero_or_one (m / 2 ^ j) with h | h
   ·rw [h];simp
   ·rw [h,Nat.one_mul,show (((2 ^ j:Nat):Int) != 0)=true from bne_iff_ne.mpr fun h=>Nat.ne_of_gt hp2 (Int.natCast_eq_zero.mp h)];rfl
  rw [<-e]
  exact gK rfl (ap (aa rfl) (aa rfl) mI) jZ
 have lget:∀ o,(σ1.set l o).get l=some o:=fun o=>by simp [Sto.set]
 have sset:∀ o o',(σ1.set l o).set l o'=σ1.set l o':=fun o o'=>Sto.ext' rfl fun q=>by simp only [Sto.set];split<;>rfl
 have hq:m.testBit j=decide (m / 2 ^ j % 2=1):=Nat.testBit_eq_decide_div_mod_eq
 have hdd:m / 2 ^ (j+1)=m / 2 ^ j / 2:=by simp only [Nat.pow_succ,Nat.div_div_eq_div_mul]
 cases ht:m.testBit j with
 | false =>
   refine ⟨.next,_,_,aq (S1 _) (aq (cp (hX _) (fun h=>by rw [ht] at h;cases h) fun _=>aF) aF),.inl ⟨rfl,?_,?_,?_⟩⟩
   ·have:m / 2 ^ j % 2=0:=by rw [hq] at ht;have:=of_decide_eq_false ht;exact Iff.mp Nat.mod_two_ne_one this
    have e:m / 2 ^ j*2 ^ j=m / 2 ^ (j+1)*2 ^ (j+1):=by
     rw [hdd,Nat.pow_succ]
     conv=>lhs;rw [show m / 2 ^ j=m / 2 ^ j / 2*2 from by lia -abstractProof]
     rw [Nat.mul_assoc,Nat.mul_comm 2]
    unfold fX;rw [e]
   ·rw [eJ,if_neg (by rw [ht];decide)]
   ·intro h
    have h1:=hm h
    have:m / 2 ^ j % 2=0:=by rw [hq] at ht;have:=of_decide_eq_false ht;lia -abstractProof
    lia -abstractProof
 | true =>
   have hodd:m / 2 ^ j % 2=1:=by rw [hq] at ht;exact of_decide_eq_true ht
   have hname:∀ τ ρ',get ρ' bC=some (.int ((2 ^ j:Nat):Int))->EvE C k (.meth (.glob ba) qW [(.var bC),(.call (.glob lK) [(.var bC)])]) ρ' τ (.str (bM j)) τ:=fun τ ρ' hg=>by
    rw [<-zy (j:=j) (by exact Nat.lt_succ_of_lt hj)]
    refine cL (eS H hD) (wx (by rw [<-Ar,aK];exact PySem.F.slot_dict_get) PySem.F.type_dict_get) (.bi _) (ah (aa hg) (ah (aG H B.hex (ah (aa hg) aj) (xu ?_)) aj)) sE
    have:=zT j (by lia -abstractProof)
    rw [sizeLine_eq];lia -abstractProof
   have hlen:=gX m j
   have S2:ExS C k (.expr (.meth (.var aD) bY [(.meth (.glob ba) qW [(.var bC),(.call (.glob lK) [(.var bC)])])])) [(bn,fX m j),(aD,.loc l),(n_i,.int j),(bC,.int ((2 ^ j:Nat):Int))] (σ1.set l (.list (aC (aX m j)))) .next
    [(bn,fX m j),(aD,.loc l),(n_i,.int j),(bC,.int ((2 ^ j:Nat):Int))] (σ1.set l (.list (aC (aX m (j+1))))):=by
    have e:σ1.set l (.list (aC (aX m (j+1))))=(σ1.set l (.list (aC (aX m j)))).set l (.list (aC (aX m j)++[.str (bM j)])):=by
     rw [sset,eJ,if_pos ht];simp [aC]
    rw [e]
    exact gF (cL (aa rfl) (cS (lget _) (by rw [<-fj,aK];exact PySem.F.slot_list_append) PySem.F.type_list_append) (.bi _) (ah (hname _ _ rfl) aj) (gh (lget _) (by simp [aC];rw [sizeLine_eq];lia -abstractProof))) rfl
   have S3:ExS C k (.aug bn .BitXor (.var bC)) [(bn,fX m j),(aD,.loc l),(n_i,.int j),(bC,.int ((2 ^ j:Nat):Int))] (σ1.set l (.list (aC (aX m (j+1))))) .next
    [(bn,fX m (j+1)),(aD,.loc l),(n_i,.int j),(bC,.int ((2 ^ j:Nat):Int))] (σ1.set l (.list (aC (aX m (j+1))))):=by
    have:=jS (C:=C) (k:=k) (x:=bn) (op:=.BitXor) (e:=.var bC) (ρ:=[(bn,fX m j),(aD,.loc l),(n_i,.int j),(bC,.int ((2 ^ j:Nat):Int))]) (σ:=σ1.set l (.list (aC (aX m (j+1))))) (v0:=fX m j) rfl (aa rfl) y9
    rw [A2 _ _ hodd,<-hdd] at this
    exact this
   have T4:EvT C k (.not (.var bn)) [(bn,fX m (j+1)),(aD,.loc l),(n_i,.int j),(bC,.int ((2 ^ j:Nat):Int))] (σ1.set l (.list (aC (aX m (j+1))))) (!(((m / 2 ^ (j+1)*2 ^ (j+1):Nat):Int) != 0)) (σ1.set l (.list (aC (aX m (j+1))))) :=
    uY (gK rfl (aa rfl) jZ)
   have hp2:=Nat.two_pow_pos (j+1)
   by_cases hz:m / 2 ^ (j+1)=0
   ·have hc:(!(((m / 2 ^ (j+1)*2 ^ (j+1):Nat):Int) != 0))=true:=by rw [hz];simp
    rw [hc] at T4
    refine ⟨.brk,_,_,aq (S1 _) (aV (cp (hX _) (fun _=>aq S2 (aq S3 (aV (cp T4 (fun _=>aV Cz rfl) fun h=>by cases h) rfl))) fun h=>by rw [ht] at h;cases h) rfl),.inr ⟨rfl,rfl,?_⟩⟩
    have h0:m≠0:=by rintro rfl;grind -abstractProof
    rw [cJ,if_neg h0,show (33:Nat)=(j+1)+(32 - j) from by lia -abstractProof,nW hz]
   ·have hc:(!(((m / 2 ^ (j+1)*2 ^ (j+1):Nat):Int) != 0))=false:=by
     have:m / 2 ^ (j+1)*2 ^ (j+1)≠0:=Nat.mul_ne_zero hz (Nat.ne_of_gt hp2)
     rw [show (((m / 2 ^ (j+1)*2 ^ (j+1):Nat):Int) != 0)=true from bne_iff_ne.mpr fun h=>this (Int.natCast_eq_zero.mp h)];rfl
    rw [hc] at T4
    exact ⟨.next,_,_,aq (S1 _) (aq (cp (hX _) (fun _=>aq S2 (aq S3 (aq (cp T4 (fun h=>by cases h) fun _=>aF) aF))) fun h=>by rw [ht] at h;cases h) aF),.inl ⟨rfl,rfl,rfl,fun _=>hz⟩⟩
theorem kX:∀ (l:List (List Nat)) (b:Nat),(∀ x∈l,x.length<=b)->eC l<=l.length*b:=by
 intro l
 induction l with
 | nil =>
   intro b _
   exact Nat.zero_le _
 | cons x l ih =>
   intro b h
   have:=ih b fun y hy=>h y (.tail _ hy)
   have h1:=h x (.head _)
   simp only [eC,List.length_cons,Nat.add_mul]
   lia -abstractProof
theorem u9:∀ j,j<34->(bM j).length<=20:=by
 have h:(List.range 34).all (fun j=>decide ((bM j).length<=20))=true:=by rfl
 intro j h2
 simpa using List.all_eq_true.mp h j (List.mem_range.mpr h2)
theorem sI (m:Nat):∀ x∈cJ m,x.length<=20:=by
 intro x hx
 unfold cJ at hx
 split at hx
 ·simp at hx;subst hx;decide
 ·obtain ⟨j,hj,rfl⟩:=List.mem_map.mp hx
  have:=List.mem_range.mp (List.mem_filter.mp hj).1
  exact u9 j (by exact Nat.lt_succ_of_lt this)
theorem yM (H:COk C) (B:Bi C) (hD:C.glob ba=some kr) (d:DefAt C cC gx T_pretty_flags) {m:Nat} (hm:m<2 ^ 33):Calls C (k+1) cC [.int m] σ (.str (bH [44,32] (cJ m))) σ:=by
 refine Calls.wf d.fn fun W=>?_
 have lget:∀ o,((σ.new (.list [])).set σ.next o).get σ.next=some o:=fun o=>by simp [Sto.set]
 have sset:∀ o o',((σ.new (.list [])).set σ.next o).set σ.next o'=(σ.new (.list [])).set σ.next o':=fun o o'=>Sto.ext' rfl fun q=>by simp only [Sto.set];split<;>rfl
 have hlen:(cJ m).length<=33:=by
  unfold cJ;split
  ·decide
  ·exact gX m 33
 obtain ⟨f,ρ',σ',hF,rfl,hn,rfl⟩:=gL (C:=C) (k:=k) (xs:=[n_i]) (body:=Bm) (orelse:=[.expr (.meth (.var aD) bY [(.call (.glob lK) [(.var bn)])])]) (DK m σ.next (σ.new (.list []))) (D0 m σ.next (σ.new (.list []))) (fun v vs ρ τ h=>by
  obtain ⟨j,hj,hv,rfl,h0,hρ⟩:=h
  have hj':j<32:=by
   rcases Nat.lt_or_ge j 32 with h | h
   ·exact h
   ·rw [show 32 - j=0 from by exact Nat.sub_eq_zero_of_le h] at hv;cases hv
  rw [eo (show j<32 by assumption),bz] at hv
  cases hv
  obtain ⟨ρ1,h1,h2,h3⟩:∃ ρ1,get ρ1 n_i=some (.int j)/\(∀ w,put ρ1 bC w=[(bn,fX m j),(aD,.loc σ.next),(n_i,.int j),(bC,w)])/\bI ρ [n_i] (.int j)=some ρ1:=by
   rcases hρ with rfl | ⟨u,w,rfl⟩
   ·exact ⟨[(bn,fX m j),(aD,.loc σ.next),(n_i,.int j)],rfl,(fun w=>rfl),rfl⟩
   ·exact ⟨[(bn,fX m j),(aD,.loc σ.next),(n_i,.int j),(bC,w)],rfl,(fun w=>rfl),rfl⟩
  obtain ⟨g,ρ2,σ2,hx,hr⟩:=vU (C:=C) (k:=k) H B hD hj' h0 (σ1:=σ.new (.list [])) h1 h2
  refine ⟨ρ1,g,ρ2,σ2,h3,hx,?_⟩
  rcases hr with ⟨rfl,rfl,rfl,h4⟩ | ⟨rfl,h4,rfl⟩
  ·exact ⟨j+1,hj',by rfl,rfl,h4,.inr ⟨_,_,rfl⟩⟩
  ·exact ⟨rfl,h4,rfl⟩)
  (fun ρ τ h=>by
    obtain ⟨j,hj,hv,rfl,h0,hρ⟩:=h
    have hj':j=32:=by
     rcases Nat.lt_or_ge j 32 with h | h
     ·rw [eo (show j<32 by assumption),bz] at hv;cases hv
     ·exact Eq.symm (Nat.le_antisymm h hj)
    subst hj'
    have gf:get ρ bn=some (fX m 32):=by rcases hρ with rfl | ⟨u,w,rfl⟩<;>rfl
    have gn:get ρ aD=some (.loc σ.next):=by rcases hρ with rfl | ⟨u,w,rfl⟩<;>rfl
    have hx:∃ y,hexOf ((m / 2 ^ 32*2 ^ 32:Nat):Int)=y/\y.length<1000/\cJ m=aX m 32++[y]:=by
     by_cases hz:m=0
     ·subst hz
      exact ⟨[48,120,48],by rfl,by decide,by rfl⟩
     ·have h1:=h0 hz
      have h2:m / 2 ^ 32=1:=by
       have:m / 2 ^ 32<2:=Nat.div_lt_of_lt_mul (by rw [<-Nat.pow_succ];exact hm)
       lia -abstractProof
      refine ⟨bM 32,by rw [h2,Nat.one_mul];exact ox 32 (by simp) (by simp),by decide,?_⟩
      rw [cJ,if_neg hz,show (33:Nat)=32+1 from rfl,eJ,if_pos]
      rw [Nat.testBit_eq_decide_div_mod_eq,h2]
      rfl
    obtain ⟨y,hy,hyl,he⟩:=hx
    have hl:=gX m 32
    refine ⟨.next,_,_,aq (gF (cL (aa gn) (cS (lget _) (by rw [<-fj,aK];exact PySem.F.slot_list_append) PySem.F.type_list_append) (.bi _) (ah (aG H B.hex (ah (aa gf) aj) (xu ?_)) aj) (gh (lget _) (by simp [aC];rw [sizeLine_eq];lia -abstractProof))) rfl) aF,rfl,gn,?_⟩
    ·rw [hy,sizeLine_eq];lia -abstractProof
    ·rw [sset,hy,he];simp [aC])
  (aZ 0 32) [(bn,.int m),(aD,.loc σ.next)] (σ.new (.list [])) ⟨0,by simp,rfl,(kI (by simp [Sto.new];rfl)).symm,fun h=>by simpa using h,.inl (by unfold fX;simp)⟩
 have hsum:eC (cJ m)+(cJ m).length*2<=sizeLine:=by
  have:=kX (cJ m) 20 (sI m)
  rw [sizeLine_eq];lia -abstractProof
 refine (d.calls (ρ':=[(aD,.list (aC (cJ m)))]) (f:=.ret (.str (bH [44,32] (cJ m)))) (σ1:=((σ.new (.list [])).set σ.next (.list (aC (cJ m)))).del σ.next) H ?_ rfl rfl).drop (Sub.made W) trivial
 unfold T_pretty_flags
 refine aq (ρ1:=[(bn,.int m),(aD,.loc σ.next)]) (σ1:=σ.new (.list [])) (ak (mM aj (by simp)) rfl fun _=>rfl) ?_
 refine aq (jv (aG H B.range (ah aB aj) aW) rfl (by rfl) hF) ?_
 refine ExL.frz (lget _) (ρ1:=[(aD,.list (aC (cJ m)))]) (fun x v' hg=>?_) (aV (eV (cL bE (gZ (by rw [<-j9,aK];exact PySem.F.slot_str_join) PySem.F.type_str_join) (.bi _) (ah (aa rfl) aj) (ma hsum))) rfl)
 rw [show get [(aD,V.list (aC (cJ m)))] x=if x=aD then some (.list (aC (cJ m))) else none from by
  by_cases h:x=aD
  ·subst h;rfl
  ·rw [if_neg h];simp only [get];rw [hJ (Ne.symm h)];rfl] at hg
 split at hg
 ·subst_vars;cases hg;exact ⟨_,hn,.hit⟩
 ·cases hg
end
end
section
open PySem PyProof.Rows
set_option maxRecDepth 100000
noncomputable def lS (b val:Nat):List Nat->Option (Nat × List Nat)
 | []=>bif Nat.beq (b &&& 64) 0 then some (val,[]) else none
 | c::l=>bif Nat.beq (b &&& 64) 0 then some (val,c::l) else bif Nat.ble val 1000000 then lS c ((val*64) ||| (c &&& 63)) l else none
noncomputable def pvL:List Nat->Option (Nat × List Nat)
 | []=>none
 | b::l=>lS b (b &&& 63) l
noncomputable def zN (l:List Nat):List V:=l.map fun c:Nat=>V.int (c:Int)
theorem rI (b val:Nat):lS b val []=bif Nat.beq (b &&& 64) 0 then some (val,[]) else none:=rfl
theorem je (b val c:Nat) (l:List Nat):lS b val (c::l)=bif Nat.beq (b &&& 64) 0 then some (val,c::l) else bif Nat.ble val 1000000 then lS c ((val*64) ||| (c &&& 63)) l else none:=rfl
section
variable {C:Cx} {k:Nat} {σ:Sto} {it:Nat}
noncomputable abbrev pvT:Ex:=.bin .BitAnd (.var n_b) (.cInt 64)
noncomputable abbrev pvB:List St:=[.aug fM .LShift (.cInt 6),.assign [n_b] false (.call (.glob nL) [(.var bR)]),.aug fM .BitOr (.bin .BitAnd (.var n_b) (.cInt 63))]
theorem w7 (H:COk C) (B:Bi C):∀ (l:List Nat) (b val n:Nat) (rest:List Nat) (τ:Sto),τ.get it=some (.liter (zN l))->lS b val l=some (n,rest) ->
 ∃ b',lp C k pvT pvB [(bR,.loc it),(n_b,.int (b:Int)),(fM,.int (val:Int))] τ .next [(bR,.loc it),(n_b,.int ((b':Nat):Int)),(fM,.int (n:Int))] (τ.set it (.liter (zN rest))):=by
 intro l
 induction l with
 | nil =>
   intro b val n rest τ hl h
   have T:EvT C k pvT [(bR,.loc it),(n_b,.int (b:Int)),(fM,.int (val:Int))] τ (Builtin.bitAnd b 64 != 0) τ:=gK rfl (ap (aa rfl) aB mI) jZ
   rw [show Builtin.bitAnd (b:Int) 64=((b &&& 64:Nat):Int) from n5 b 64] at T
   rw [rI] at h
   cases hb:Nat.beq (b &&& 64) 0 with
   | false=>rw [hb] at h;cases h
   | true =>
     rw [hb] at h;cases h
     rw [Nat.eq_of_beq_eq_true hb] at T
     rw [kI hl]
     exact ⟨b,.done T⟩
 | cons c l ih =>
   intro b val n rest τ hl h
   have T:EvT C k pvT [(bR,.loc it),(n_b,.int (b:Int)),(fM,.int (val:Int))] τ (Builtin.bitAnd b 64 != 0) τ:=gK rfl (ap (aa rfl) aB mI) jZ
   rw [show Builtin.bitAnd (b:Int) 64=((b &&& 64:Nat):Int) from n5 b 64] at T
   rw [je] at h
   cases hb:Nat.beq (b &&& 64) 0 with
   | true =>
     rw [hb] at h;cases h
     rw [Nat.eq_of_beq_eq_true hb] at T
     rw [kI hl]
     exact ⟨b,.done T⟩
   | false =>
     rw [hb] at h
     cases hv:Nat.ble val 1000000 with
     | false=>rw [hv] at h;cases h
     | true =>
       rw [hv] at h
       have hle:val<=1000000:=Nat.le_of_ble_eq_true hv
       have hne:((b &&& 64:Nat):Int)≠0:=fun q=>Nat.ne_of_beq_eq_false hb (Int.natCast_eq_zero.mp q)
       rw [bne_iff_ne.mpr hne] at T
       obtain ⟨b',hW⟩:=ih c ((val*64) ||| (c &&& 63)) n rest (τ.set it (.liter (zN l))) (by simp [Sto.set]) h
       have ss:(τ.set it (.liter (zN l))).set it (.liter (zN rest))=τ.set it (.liter (zN rest)):=Sto.ext' rfl fun q=>by simp only [Sto.set];split<;>rfl
       rw [ss] at hW
       refine ⟨b',.step T ?_ hW⟩
       refine aq (ρ1:=[(bR,.loc it),(n_b,.int (b:Int)),(fM,.int ((val:Int)*2 ^ (6:Int).toNat))]) (jS rfl aB (zO (by simp) (by simp) (by omega))) ?_
       refine aq (ρ1:=[(bR,.loc it),(n_b,.int (c:Int)),(fM,.int ((val:Int)*2 ^ (6:Int).toNat))]) (ak (aG H B.next (ah (aa rfl) aj) (uy hl)) rfl fun _=>rfl) ?_
       have e:Builtin.bitOr ((val:Int)*2 ^ (6:Int).toNat) (Builtin.bitAnd c 63)=(((val*64) ||| (c &&& 63):Nat):Int):=by
        rw [show Builtin.bitAnd (c:Int) 63=((c &&& 63:Nat):Int) from n5 c 63,show (val:Int)*2 ^ (6:Int).toNat=((val*64:Nat):Int) from by dsimp,D7]
       have:=jS (C:=C) (k:=k) (x:=fM) (op:=.BitOr) (e:=.bin .BitAnd (.var n_b) (.cInt 63)) (ρ:=[(bR,.loc it),(n_b,.int (c:Int)),(fM,.int ((val:Int)*2 ^ (6:Int).toNat))]) (σ:=τ.set it (.liter (zN l))) rfl (ap (aa rfl) aB mI) BR
       rw [e] at this
       exact aq this aF
theorem qp (H:COk C) (B:Bi C) (d:DefAt C bA cY T_parse_varint) {l:List Nat} {n:Nat} {rest:List Nat} (hl:σ.get it=some (.liter (zN l))) (h:pvL l=some (n,rest)) :
 Calls C (k+1) bA [.loc it] σ (.int (n:Int)) (σ.set it (.liter (zN rest))):=by
 cases l with
 | nil=>cases h
 | cons b l =>
   have h:lS b (b &&& 63) l=some (n,rest):=h
   obtain ⟨b',hW⟩:=w7 (C:=C) (k:=k) (it:=it) H B l b (b &&& 63) n rest (σ.set it (.liter (zN l))) (by simp [Sto.set]) h
   have ss:(σ.set it (.liter (zN l))).set it (.liter (zN rest))=σ.set it (.liter (zN rest)):=Sto.ext' rfl fun q=>by simp only [Sto.set];split<;>rfl
   rw [ss] at hW
   refine d.calls (f:=.ret (.int (n:Int))) (ρ':=[(bR,.loc it),(n_b,.int ((b':Nat):Int)),(fM,.int (n:Int))]) H ?_ rfl rfl
   unfold T_parse_varint
   refine aq (ρ1:=[(bR,.loc it),(n_b,.int (b:Int))]) (ak (aG H B.next (ah (aa rfl) aj) (uy hl)) rfl fun _=>rfl) ?_
   refine aq (ρ1:=[(bR,.loc it),(n_b,.int (b:Int)),(fM,.int ((b &&& 63:Nat):Int))]) (σ1:=σ.set it (.liter (zN l))) (ak (EvE.eq (ap (aa rfl) aB mI) (congrArg V.int (n5 b 63))) rfl fun _=>rfl) ?_
   exact aq (x4 hW) (aV (eV (aa rfl)) rfl)
theorem yb (H:COk C) (B:Bi C) (dp:DefAt C bA cY T_parse_varint) (d:DefAt C bP fu T_law_parts) {w:List Nat} {a b c:Nat} {r1 r2 r3:List Nat} (h1:pvL w=some (a,r1)) (h2:pvL r1=some (b,r2)) (h3:pvL r2=some (c,r3))
 (hz:w.length<1000) (hz3:r3.length<1000):Calls C (k+2) bP [.str w] σ (.list (zN [a,b,c]++zN r3)) σ:=by
 refine Calls.wf d.fn fun W=>?_
 have ss:∀ o o',((σ.new (.liter (zN w))).set σ.next o).set σ.next o'=(σ.new (.liter (zN w))).set σ.next o':=fun o o'=>Sto.ext' rfl fun q=>by simp only [Sto.set];split<;>rfl
 have sg:∀ o,((σ.new (.liter (zN w))).set σ.next o).get σ.next=some o:=fun o=>by simp [Sto.set]
 refine (d.calls (ρ':=[(bo,.str w),(gj,.loc σ.next)]) (f:=.ret (.list (zN [a,b,c]++zN r3))) (σ1:=((σ.new (.liter (zN w))).set σ.next (.liter (zN r3))).del σ.next) H ?_ rfl rfl).drop (Sub.made W) ?_
 ·unfold T_law_parts
  have E1:EvE C (k+1) (.comp (.call (.glob u5) [(.var c4)]) [[c4]] [(.var bo)] [[]] [ax,c4]) [(bo,.str w)] σ (.list (zN w)) σ:=by
   refine dO (l:=w) (inj:=fun c=>.str [c]) (f:=fun c:Nat=>.int (c:Int)) (ρ1:=fun c=>[(bo,.str w),(c4,.str [c])]) (own:=[ax,c4]) (aa rfl) rfl rfl rfl (fun i=>rfl) (fun i hi=>?_) (by rw [sizeLine_eq];lia -abstractProof)
   exact aG H B.ord (ah (aa rfl) aj) BN
  refine aq (ρ1:=[(bo,.str w),(gj,.loc σ.next)]) (σ1:=σ.new (.liter (zN w))) (ak (aG H B.iter (ah E1 aj) AJ) rfl fun _=>rfl) ?_
  have P1:=qp (C:=C) (k:=k) (σ:=σ.new (.liter (zN w))) (it:=σ.next) H B dp (by simp [Sto.new]) h1
  have P2:=qp (C:=C) (k:=k) (σ:=(σ.new (.liter (zN w))).set σ.next (.liter (zN r1))) (it:=σ.next) H B dp (sg _) h2
  have P3:=qp (C:=C) (k:=k) (σ:=(σ.new (.liter (zN w))).set σ.next (.liter (zN r2))) (it:=σ.next) H B dp (sg _) h3
  rw [ss] at P2 P3
  refine aV (eV (ap (dA (ah (a7 H (ah (aa rfl) aj) P1) (ah (a7 H (ah (aa rfl) aj) P2) (ah (a7 H (ah (aa rfl) aj) P3) aj))) (szl rfl)) (aG H B.list (ah (aa rfl) aj) (q8 (sg _) (by simp [zN];rw [sizeLine_eq];lia -abstractProof))) (iK (by simp [zN];rw [sizeLine_eq];lia -abstractProof)))) rfl
 ·show belows _ _
  have:∀ l:List Nat,belows σ.next (zN l):=fun l=>by
   induction l with
   | nil=>trivial
   | cons x l ih=>exact ⟨trivial,ih⟩
  have e:zN [a,b,c]++zN r3=zN ([a,b,c]++r3):=by rfl
  rw [e];exact this _
end
end
section
open PySem PyProof.Rows
set_option maxRecDepth 100000
theorem rM (n:Nat):Builtin.Str.strSliceIndices none (some 1) 1 (n+1)=[0]:=by
 unfold Builtin.Str.strSliceIndices
 simp only [show ((1:Int) > 0) from by exact Int.one_pos,if_true,show ¬ ((1:Int)<0) from by decide,if_false]
 rw [show max (0:Int) (min 1 ((n+1:Nat):Int))=1 from by lia -abstractProof]
 rfl
theorem uD (n:Nat):Builtin.Str.strSliceIndices (some (-1)) none 1 (n+1)=[n]:=by
 unfold Builtin.Str.strSliceIndices
 simp only [show ((1:Int) > 0) from by exact Int.one_pos,if_true,show ((-1:Int)<0) from by decide]
 rw [show max (0:Int) (min (-1+((n+1:Nat):Int)) ((n+1:Nat):Int))=(n:Int) from by lia -abstractProof]
 unfold sliceRange
 simp only [show ((1:Int) > 0) from by exact Int.one_pos,if_true]
 rw [if_pos (by exact Int.lt.intro rfl),show ((((n+1:Nat):Int) - (n:Int)+1 - 1) / 1).toNat=1 from by simp]
 rfl
section
variable {C:Cx} {k:Nat} {σ:Sto} {ρ:Loc} {x:List Nat}
theorem rh:ij C k (.str x) none (some 1) none σ (.str (x.take 1)):=by
 cases x with
 | nil=>exact ja (by decide) rfl (fun _ _=>rfl) (by decide) rfl
 | cons c r =>
   refine ja (by decide) ?_ (fun _ h=>?_) (by simp) ?_
   ·unfold md;simp only [List.length_cons];simp only [Option.getD_none];rw [rM];rfl
   ·cases r with
    | nil=>rfl
    | cons d r=>simp at h
   ·simp only [Option.getD_none,List.length_cons];rw [rM];rfl
theorem tv:ij C k (.str x) (some (-1)) none none σ (.str (x.drop (x.length - 1))):=by
 cases x with
 | nil=>exact ja (by decide) rfl (fun _ _=>rfl) (by decide) rfl
 | cons c r =>
   have hl:((c::r).drop ((c::r).length - 1)).length=1:=by simp
   refine ja (by decide) ?_ (fun _ h=>?_) (by rw [hl];simp) ?_
   ·unfold md
    simp only [List.length_cons];simp only [Option.getD_none];rw [uD]
    show _=List.drop r.length (c::r)
    rw [List.drop_eq_getElem_cons (by simp)]
    simp
   ·rw [hl] at h
    cases r with
    | nil=>rfl
    | cons d r=>simp at h
   ·rw [hl];simp only [Option.getD_none,List.length_cons];rw [uD];rfl
noncomputable def dL (n hi s:Nat):Nat:=(if s > 1 then 64 else 0)+n / s % 64+hi
noncomputable def lw (n hi:Nat):List Nat:=([4096,64,1].filter fun s=>decide (n>=s)||s==1).map (dL n hi)
noncomputable def cz (ps:List Nat) (hi:Nat):List Nat:=ps.flatMap fun n=>lw n hi
theorem k5 (l:List (List Nat)):bH [] l=l.flatten:=by
 induction l with
 | nil=>rfl
 | cons x l ih =>
   cases l with
   | nil=>exact (List.append_nil x).symm
   | cons y r =>
     show x++[]++bH [] (y::r)=_
     rw [ih,List.append_nil];rfl
theorem wm (l:List Nat):(l.map fun c=>[c]).flatten=l:=by
 induction l with
 | nil=>rfl
 | cons c l ih=>simp [ih]
theorem qy (l:List Nat):eC (l.map fun c=>[c])=l.length:=by
 induction l with
 | nil=>rfl
 | cons c l ih=>simp only [List.map_cons,eC,ih,List.length_cons,List.length_nil];lia -abstractProof
theorem xX (n hi:Nat):(lw n hi).length<=3:=by
 unfold lw
 rw [List.length_map]
 exact Nat.le_trans (List.length_filter_le _ _) (by decide)
theorem jd (ps:List Nat) (hi:Nat):(cz ps hi).length<=3*ps.length:=by
 induction ps with
 | nil=>exact Nat.le_refl _
 | cons n ps ih =>
   have:=xX n hi
   simp only [cz,List.flatMap_cons,List.length_append,List.length_cons]
   unfold cz at ih
   lia -abstractProof
noncomputable abbrev Bx:Ex:=.call (.glob ut) [(.bin .Add (.bin .Add (.ite (.cmp (.var ey) [.Gt] [(.cInt 1)]) (.cInt 64) (.cInt 0)) (.bin .Mod (.bin .FloorDiv (.var cI) (.var ey)) (.cInt 64))) (.var jH))]
noncomputable abbrev Bw:Ex:=.boolop .Or [(.cmp (.var cI) [.GtE] [(.var ey)]),(.cmp (.var ey) [.Eq] [(.cInt 1)])]
noncomputable abbrev nn (ps:List Nat) (hi n s:Nat):Loc:=[(cR,.list (zN ps)),(jH,.int (hi:Int)),(cI,.int (n:Int)),(ey,.int (s:Int))]
theorem sA (H:COk C) (B:Bi C) {ps:List Nat} {hi n s:Nat} (hs:0<s) (hs4:s<=4096) (hh:hi<=1000):EvE C k Bx (nn ps hi n s) σ (.str [dL n hi s]) σ:=by
 refine aG H B.chr (ah (v:=.int ((dL n hi s:Nat):Int)) ?_ aj) (CK ?_)
 ·refine EvE.eq (v:=.int ((bif decide ((s:Int) > 1) then 64 else 0)+(Int.fmod (Int.fdiv n s) 64)+hi)) ?_ ?_
  ·refine ap (ap (Aq (aJ (aa rfl) aB BJ aH) aB aB) (ap (ap (aa rfl) (aa rfl) (jg (by exact Iff.mpr Int.natCast_ne_zero_iff_pos hs) ?_)) aB (fV (by decide))) d7) (aa rfl) d7
   simp only [Int.natAbs_natCast]
   exact Nat.lt_trans ((Nat.log2_lt (by exact Nat.ne_zero_of_lt hs)).mpr (show s<2 ^ 13 from by lia -abstractProof)) (by simp)
  ·rw [um,show Int.fmod ((n / s:Nat):Int) 64=((n / s % 64:Nat):Int) from tU _ 64]
   unfold dL
   by_cases h:s > 1
   ·rw [if_pos h,show decide ((s:Int) > 1)=true from decide_eq_true (by exact Iff.mp (Int.toNat_lt' hs) h)]
    simp only [cond_true];congr 1
   ·rw [if_neg h,show decide ((s:Int) > 1)=false from decide_eq_false (by lia -abstractProof)]
    simp only [cond_false];congr 1
 ·unfold dL
  have:=Nat.mod_lt (n / s) (show 64 > 0 from by decide)
  split<;>lia -abstractProof
theorem tc {ps:List Nat} {hi n s:Nat}:EvT C k Bw (nn ps hi n s) σ (decide (n>=s)||s==1) σ:=by
 have h1:EvT C k (.cmp (.var cI) [.GtE] [(.var ey)]) (nn ps hi n s) σ (decide (n>=s)) σ:=by
  rw [show decide (n>=s)=decide ((n:Int)>=(s:Int)) from by simp]
  exact aJ (aa rfl) (aa rfl) Db aH
 have h2:EvT C k (.cmp (.var ey) [.Eq] [(.cInt 1)]) (nn ps hi n s) σ (s==1) σ:=by
  rw [show (s==1)=((s:Int)==1) from by rw [Bool.eq_iff_iff];simp;lia -abstractProof]
  exact aJ (aa rfl) aB lN aH
 exact ul h1 h2
noncomputable def ui (hi:Nat):V->List V
 | .int i=>aC ((lw i.toNat hi).map fun c=>[c])
 | _=>[]
theorem yq (H:COk C) (B:Bi C) (d:DefAt C cc jz T_law_word) {ps:List Nat} {hi:Nat} (hps:ps.length<=100) (hh:hi<=1000):Calls C (k+1) cc [.list (zN ps),.int (hi:Int)] σ (.str (cz ps hi)) σ:=by
 have hw:=jd ps hi
 have E:EvE C k (.comp Bx [[cI],[ey]] [(.var cR),(.list [(.cInt 4096),(.cInt 64),(.cInt 1)])] [[],[Bw]] [ax,cI,ey]) [(cR,.list (zN ps)),(jH,.int (hi:Int))] σ (.list (aC ((cz ps hi).map fun c=>[c]))) σ:=by
  refine CompOk.ev (dU (vs:=zN ps) (aa rfl) rfl rfl ?_ (by simp [aC];rw [sizeLine_eq];lia -abstractProof))
  have e:aC ((cz ps hi).map fun c=>[c])=(zN ps).flatMap (ui hi):=by
   delta cz zN aC
   rw [List.flatMap_map,List.map_map,List.map_flatMap]
   congr 1
   funext n
   simp [ui,aC]
  rw [e]
  refine sY (ui hi) (zN ps) fun v hv=>?_
  obtain ⟨n,_,rfl⟩:=List.mem_map.mp hv
  refine ⟨[(cR,.list (zN ps)),(jH,.int (hi:Int)),(cI,.int (n:Int))],.list (zN [4096,64,1]),zN [4096,64,1],rfl,rfl,dA (ah aB (ah aB (ah aB aj))) (szl rfl),rfl,rfl,?_⟩
  have e2:ui hi (.int (n:Int))=((zN [4096,64,1]).filter (fun v=>match v with | .int s=>decide (n>=s.toNat)||s.toNat==1 | _=>false)).map (fun v=>match v with | .int s=>.str [dL n hi s.toNat] | _=>.none):=by
   show List.map V.str (List.map (fun c=>[c]) (List.map (dL n hi) (List.filter (fun s=>decide (n>=s)||s==1) [4096,64,1])))=_
   unfold zN
   rw [List.filter_map,List.map_map,List.map_map,List.map_map]
   rfl
  rw [e2]
  refine z7 _ _ _ fun v hv=>?_
  have hv3:v=.int ((4096:Nat):Int)\/v=.int ((64:Nat):Int)\/v=.int ((1:Nat):Int):=by simpa [zN] using hv
  rcases hv3 with rfl | rfl | rfl
  ·exact ⟨nn ps hi n 4096,rfl,rfl,tc,fun _=>sA H B (by simp) (by simp) hh⟩
  ·exact ⟨nn ps hi n 64,rfl,rfl,tc,fun _=>sA H B (by simp) (by simp) hh⟩
  ·exact ⟨nn ps hi n 1,rfl,rfl,tc,fun _=>sA H B (by exact Nat.one_pos) (by simp) hh⟩
 refine d.calls (ρ':=[(cR,.list (zN ps)),(jH,.int (hi:Int))]) (f:=.ret (.str (cz ps hi))) H ?_ rfl rfl
 unfold T_law_word
 have hj:bH [] ((cz ps hi).map fun c=>[c])=cz ps hi:=by rw [k5,wm]
 have J:=ma (C:=C) (k:=k) (σ:=σ) (sep:=[]) (l:=(cz ps hi).map fun c=>[c]) (by rw [qy,sizeLine_eq];dsimp;lia -abstractProof)
 rw [hj] at J
 exact aV (eV (cL bE (gZ (by rw [<-j9,aK];exact PySem.F.slot_str_join) PySem.F.type_str_join) (.bi _) (ah E aj) J)) rfl
end
end
section
open PySem PyProof.Rows
set_option maxRecDepth 100000
theorem x6:∀ d,d<64->∀ hi,(hi=0\/hi=128)->((64+d+hi) &&& 63=d/\(64+d+hi) &&& 64=64)/\((0+d+hi) &&& 63=d/\(0+d+hi) &&& 64=0):=by
 have h:(List.range 64).all (fun d=>[0,128].all fun hi=>((64+d+hi) &&& 63==d&&(64+d+hi) &&& 64==64)&&((0+d+hi) &&& 63==d&&(0+d+hi) &&& 64==0))=true:=by rfl
 intro d hd hi hh
 have:=List.all_eq_true.mp (List.all_eq_true.mp h d (List.mem_range.mpr hd)) hi (by rcases hh with rfl | rfl<;>decide)
 simpa using this
theorem or6 (v d:Nat) (h:d<64):(v*64) ||| d=v*64+d:=by
 have:=Nat.two_pow_add_eq_or_of_lt (i:=6) h v
 rw [Nat.mul_comm] at this
 exact this.symm
theorem BE (n:Nat):n % 64<=1000000:=Nat.le_trans (Nat.le_of_lt (Nat.mod_lt _ (by decide))) (by decide)
theorem dig (n:Nat):n / 64*64+n % 64=n:=by rw [Nat.mul_comm];exact Nat.div_add_mod n 64
theorem DA {n:Nat} (h:n<4096):n / 64 % 64*64+n % 64=n:=by rw [Nat.mod_eq_of_lt (Nat.div_lt_of_lt_mul h),dig]
theorem Ed {n:Nat} (h:n<262144):(n / 4096 % 64*64+n / 64 % 64)*64+n % 64=n:=by rw [show n / 4096=n / 64 / 64 from (Nat.div_div_eq_div_mul n 64 64).symm,DA (Nat.div_lt_of_lt_mul h),dig]
theorem oQ {n hi:Nat} (hn:n<262144) (hh:hi=0\/hi=128) (rest:List Nat):pvL (lw n hi++rest)=some (n,rest):=by
 have h0:=x6 (n % 64) (Nat.mod_lt _ (by simp)) hi hh
 have h1:=x6 (n / 64 % 64) (Nat.mod_lt _ (by simp)) hi hh
 have h2:=x6 (n / 4096 % 64) (Nat.mod_lt _ (by simp)) hi hh
 have last:∀ v,lS (dL n hi 1) v rest=some (v,rest):=fun v=>by
  have e:dL n hi 1=0+n % 64+hi:=by unfold dL;rw [if_neg (by decide),Nat.div_one]
  rw [e]
  cases rest with
  | nil=>rw [rI,h0.2.2];rfl
  | cons c r=>rw [je,h0.2.2];rfl
 have e0:dL n hi 1 &&& 63=n % 64:=by unfold dL;rw [if_neg (by decide),Nat.div_one];exact h0.2.1
 have e1:dL n hi 64=64+n / 64 % 64+hi:=by unfold dL;rfl
 have e2:dL n hi 4096=64+n / 4096 % 64+hi:=by unfold dL;rfl
 have step1:∀ v,v<=1000000->lS (dL n hi 64) v (dL n hi 1::rest)=some (v*64+n % 64,rest):=fun v hv=>by
  rw [je,e1,h1.1.2,show Nat.beq 64 0=false from rfl,show Nat.ble v 1000000=true from Nat.ble_eq_true_of_le hv]
  simp only [cond_false,cond_true]
  rw [e0,or6 _ _ (Nat.mod_lt _ (by simp))]
  exact last _
 by_cases c1:n>=4096
 ·have e:lw n hi=[dL n hi 4096,dL n hi 64,dL n hi 1]:=by
   unfold lw
   rw [show [4096,64,1].filter (fun s=>decide (n>=s)||s==1)=[4096,64,1] from by simp [c1];exact Nat.le_of_add_left_le c1];rfl
  rw [e]
  show lS (dL n hi 4096) (dL n hi 4096 &&& 63) (dL n hi 64::dL n hi 1::rest)=_
  rw [je,e2,h2.1.2,h2.1.1,show Nat.beq 64 0=false from rfl,show Nat.ble (n / 4096 % 64) 1000000=true from Nat.ble_eq_true_of_le (BE _)]
  simp only [cond_false,cond_true]
  rw [show dL n hi 64 &&& 63=n / 64 % 64 from by rw [e1];exact h1.1.1,or6 _ _ (Nat.mod_lt _ (by simp)),step1 _ (Nat.le_trans (Nat.add_le_add (Nat.mul_le_mul_right 64 (Nat.le_of_lt (Nat.mod_lt _ (by decide)))) (Nat.le_of_lt (Nat.mod_lt _ (by decide)))) (by decide))]
  congr 2
  exact Ed hn
 ·by_cases c2:n>=64
  ·have e:lw n hi=[dL n hi 64,dL n hi 1]:=by
    unfold lw
    rw [show [4096,64,1].filter (fun s=>decide (n>=s)||s==1)=[64,1] from by simp [c1,c2]];rfl
   rw [e]
   show lS (dL n hi 64) (dL n hi 64 &&& 63) (dL n hi 1::rest)=_
   rw [show dL n hi 64 &&& 63=n / 64 % 64 from by rw [e1];exact h1.1.1,step1 _ (BE _)]
   congr 2
   exact DA (Nat.not_le.mp c1)
  ·have e:lw n hi=[dL n hi 1]:=by
    unfold lw
    rw [show [4096,64,1].filter (fun s=>decide (n>=s)||s==1)=[1] from by simp [c1,c2]];rfl
   rw [e]
   show lS (dL n hi 1) (dL n hi 1 &&& 63) rest=_
   rw [e0,last]
   congr 2
   exact Nat.mod_eq_of_lt (Nat.not_le.mp c2)
theorem wv {a b c hi:Nat} (ha:a<262144) (hb:b<262144) (hc:c<262144) (hh:hi=0\/hi=128):pvL (cz [a,b,c] hi)=some (a,cz [b,c] hi)/\pvL (cz [b,c] hi)=some (b,cz [c] hi)/\pvL (cz [c] hi)=some (c,[]) :=
 ⟨oQ ha hh _,oQ hb hh _,oQ hc hh []⟩
section
variable {C:Cx} {k:Nat} {σ:Sto}
theorem uJ (H:COk C) (B:Bi C) (dp:DefAt C bA cY T_parse_varint) (d:DefAt C bP fu T_law_parts) {a b c hi:Nat} (ha:a<262144) (hb:b<262144) (hc:c<262144) (hh:hi=0\/hi=128) :
 Calls C (k+2) bP [.str (cz [a,b,c] hi)] σ (.list (zN [a,b,c])) σ:=by
 obtain ⟨h1,h2,h3⟩:=wv ha hb hc hh
 have hl:=jd [a,b,c] hi
 exact (yb (k:=k) H B dp d h1 h2 h3 (by simp at hl;lia -abstractProof) (by simp)).eq (by rfl)
noncomputable def ck (w:List Nat) (way:Nat):List Nat:=if way > 1 then w else if way=1 then [92,32,10,9,13] else [92,34]
noncomputable def eu (hid w:List Nat):List Nat:=w.flatMap fun c=>if c∈hid then [92,c] else [c]
noncomputable def cN (w:List Nat) (way:Nat):List Nat :=
 if way % 2=1 then (if way=1/\w.take 1=[34] then [92] else [])++eu (ck w way) w else [34]++eu (ck w way) w++[34]
theorem qG (hid w:List Nat):(eu hid w).length<=2*w.length:=by
 induction w with
 | nil=>exact Nat.le_refl _
 | cons c w ih =>
   unfold eu at ih ⊢
   simp only [List.flatMap_cons,List.length_append,List.length_cons]
   split<;>simp only [List.length_cons,List.length_nil]<;>lia -abstractProof
theorem re (l:List (List Nat)):eC l=l.flatten.length:=by
 induction l with
 | nil=>rfl
 | cons x l ih=>simp [eC,ih]
theorem oD (H:COk C) (d:DefAt C bw gU T_law_written) {w:List Nat} {way:Nat} (hw:w.length<100000) (hway:way<4):Calls C (k+1) bw [.str w,.int (way:Int)] σ (.str (cN w way)) σ:=by
 refine d.calls (ρ':=[(bo,.str w),(bg,.int (way:Int)),(ef,.str (ck w way)),(iw,.str (eu (ck w way) w))]) (f:=.ret (.str (cN w way))) H ?_ rfl rfl
 have hle:=qG (ck w way) w
 unfold T_law_written
 have E1:EvE C k (.ite (.cmp (.var bg) [.Gt] [(.cInt 1)]) (.var bo) (.ite (.var bg) (.cStr [92,32,10,9,13]) (.cStr [92,34]))) [(bo,.str w),(bg,.int (way:Int))] σ (.str (ck w way)) σ:=by
  refine ed (c:=decide ((way:Int) > 1)) (aJ (aa rfl) aB BJ aH) (fun h=>?_) (fun h=>?_)
  ·have:=of_decide_eq_true h
   rw [ck,if_pos (by exact Iff.mp Int.ofNat_lt this)]
   exact aa rfl
  ·have:=of_decide_eq_false h
   refine ed (c:=(way:Int) != 0) (mS rfl (aa rfl)) (fun h2=>?_) (fun h2=>?_)
   ·have h2:=bne_iff_ne.mp h2
    rw [ck,if_neg (by lia -abstractProof),if_pos (by lia -abstractProof)];exact bE
   ·have h2:(way:Int)=0:=by simpa using h2
    rw [ck,if_neg (by lia -abstractProof),if_neg (by lia -abstractProof)];exact bE
 refine aq (ρ1:=[(bo,.str w),(bg,.int (way:Int)),(ef,.str (ck w way))]) (ak E1 rfl fun _=>rfl) ?_
 have E2:EvE C k (.comp (.ite (.cmp (.var c4) [.In] [(.var ef)]) (.bin .Add (.cStr [92]) (.var c4)) (.var c4)) [[c4]] [(.var bo)] [[]] [ax,c4]) [(bo,.str w),(bg,.int (way:Int)),(ef,.str (ck w way))] σ
  (.list (aC (w.map fun c=>if c∈ck w way then [92,c] else [c]))) σ:=by
  rw [show aC (w.map fun c=>if c∈ck w way then [92,c] else [c])=w.map (fun c=>V.str (if c∈ck w way then [92,c] else [c])) from by simp [aC]]
  refine dO (l:=w) (inj:=fun c=>.str [c]) (ρ1:=fun c=>[(bo,.str w),(bg,.int (way:Int)),(ef,.str (ck w way)),(c4,.str [c])]) (own:=[ax,c4]) (aa rfl) rfl rfl rfl (fun i=>rfl) (fun c hc=>?_) (by rw [sizeLine_eq];lia -abstractProof)
  refine ed (c:=decide (c∈ck w way)) (aJ (aa rfl) (aa rfl) yY aH) (fun h=>?_) (fun h=>?_)
  ·rw [if_pos (of_decide_eq_true h)]
   exact ap bE (aa rfl) (dX (by simp))
  ·rw [if_neg (of_decide_eq_false h)]
   exact aa rfl
 have hj:bH [] (w.map fun c=>if c∈ck w way then [92,c] else [c])=eu (ck w way) w:=by rw [k5];unfold eu;rfl
 have J:=ma (C:=C) (k:=k) (σ:=σ) (sep:=[]) (l:=w.map fun c=>if c∈ck w way then [92,c] else [c]) (by
  rw [re,<-k5,hj,sizeLine_eq];dsimp;lia -abstractProof)
 rw [hj] at J
 refine aq (ρ1:=[(bo,.str w),(bg,.int (way:Int)),(ef,.str (ck w way)),(iw,.str (eu (ck w way) w))]) (ak (cL bE (gZ (by rw [<-j9,aK];exact PySem.F.slot_str_join) PySem.F.type_str_join) (.bi _) (ah E2 aj) J) rfl fun _=>rfl) ?_
 refine aV (eV ?_) rfl
 have hm:EvE C k (.bin .Mod (.var bg) (.cInt 2)) [(bo,.str w),(bg,.int (way:Int)),(ef,.str (ck w way)),(iw,.str (eu (ck w way) w))] σ (.int ((way % 2:Nat):Int)) σ :=
  EvE.eq (v:=.int ((way:Int).fmod 2)) (ap (aa rfl) aB (fV (by decide))) (congrArg V.int (tU way 2))
 refine ed (c:=((way % 2:Nat):Int) != 0) (mS rfl hm) (fun h=>?_) (fun h=>?_)
 ·have h:((way % 2:Nat):Int)≠0:=bne_iff_ne.mp h
  rw [cN,if_pos (by exact Iff.mp Nat.mod_two_ne_zero fun a ↦ h (congrArg Nat.cast a))]
  refine ap (va:=.str (if way=1/\w.take 1=[34] then [92] else [])) ?_ (aa rfl) (dX ?_)
  ·have T:EvT C k (.boolop .And [(.cmp (.var bg) [.Eq] [(.cInt 1)]),(.cmp (.slice (.var bo) [none,some (.cInt 1),none]) [.Eq] [(.cStr [34])])]) [(bo,.str w),(bg,.int (way:Int)),(ef,.str (ck w way)),(iw,.str (eu (ck w way) w))] σ
    (((way:Int)==1)&&(w.take 1==[34])) σ :=
    mN (aJ (aa rfl) aB lN aH) (aJ (iP (il:=none) (ih:=some 1) (is:=none) (aa rfl) trivial (aB:EvE C k (.cInt 1) _ _ _ _) trivial k9 PySem.F.slot_str_getitem.lookup rh) bE jF aH)
   refine ed T (fun h=>?_) (fun h=>?_)
   ·have h:=Bool.and_eq_true_iff.mp h
    rw [if_pos ⟨by have:=beq_iff_eq.mp h.1;exact Eq.symm ((fun {m n} ↦ Iff.mp Int.ofNat_inj) (id (Eq.symm this))),beq_iff_eq.mp h.2⟩];exact bE
   ·rw [if_neg (fun q=>by rw [show ((way:Int)==1)=true from beq_iff_eq.mpr (by omega),show (w.take 1==[34])=true from beq_iff_eq.mpr q.2] at h;cases h)];exact bE
  ·split<;>simp<;>lia -abstractProof
 ·have h:((way % 2:Nat):Int)=0:=by simpa using h
  rw [cN,if_neg (by lia -abstractProof)]
  exact ap (ap bE (aa rfl) (dX (by simp;lia -abstractProof))) bE (dX (by simp;lia -abstractProof))
end
end
section
open PySem PyProof.Rows
set_option maxRecDepth 100000
structure Pl3 where
 lx:Nat
 lf:Nat
 pb:Nat
structure Pl3.Ok (p:Pl3) (τ:Sto):Prop where
 ne:p.lx≠p.lf
 np:p.lx≠p.pb
 nq:p.lf≠p.pb
 bx:p.lx<τ.next
 bf:p.lf<τ.next
 bp:p.pb<τ.next
structure LS where
 x:List Nat
 q:List V
 line:Int
noncomputable def Pl3.put (p:Pl3) (τ:Sto) (a:LS):Sto:=((τ.set p.pb (.list a.q)).set p.lf (.list (c5 a.x))).set p.lx (.lexer p.lf a.line p.pb)
section
variable {p:Pl3} {τ:Sto} {a b:LS} {l:Nat} {o:O}
theorem Pl3.get (h:p.Ok τ) (l:Nat):(p.put τ a).get l=if l=p.lx then some (.lexer p.lf a.line p.pb) else if l=p.lf then some (.list (c5 a.x)) else if l=p.pb then some (.list a.q) else τ.get l:=rfl
theorem Pl3.Ok.new (h:p.Ok τ):p.Ok (τ.new o):=⟨h.ne,h.np,h.nq,Nat.lt_succ_of_lt h.bx,Nat.lt_succ_of_lt h.bf,Nat.lt_succ_of_lt h.bp⟩
theorem Pl3.new (h:p.Ok τ):(p.put τ a).new o=p.put (τ.new o) a:=Sto.ext' rfl fun l=>by
 have h1:=h.bx;have h2:=h.bf;have h3:=h.bp
 show (if l=τ.next then some o else if l=p.lx then some (.lexer p.lf a.line p.pb) else if l=p.lf then some (.list (c5 a.x)) else if l=p.pb then some (.list a.q) else τ.get l)=if l=p.lx then some (.lexer p.lf a.line p.pb) else if l=p.lf then some (.list (c5 a.x)) else if l=p.pb then some (.list a.q) else if l=τ.next then some o else τ.get l
 by_cases hl:l=τ.next
 ·subst hl
  rw [if_pos rfl,if_neg (by exact Nat.ne_of_lt' h1),if_neg (by exact Nat.ne_of_lt' h2),if_neg (by exact Nat.ne_of_lt' h3),if_pos rfl]
 ·rw [if_neg hl,if_neg hl]
theorem Pl3.set_ (h1:l≠p.lx) (h2:l≠p.lf) (h3:l≠p.pb):(p.put τ a).set l o=p.put (τ.set l o) a:=Sto.ext' rfl fun j=>by
 simp only [Pl3.put,Sto.set]
 by_cases hl:j=l
 ·subst hl
  rw [if_pos rfl,if_neg h1,if_neg h2,if_neg h3,if_pos rfl]
 ·rw [if_neg hl,if_neg hl]
theorem Pl3.del_ (h1:l≠p.lx) (h2:l≠p.lf) (h3:l≠p.pb):(p.put τ a).del l=p.put (τ.del l) a:=Sto.ext' rfl fun j=>by
 simp only [Pl3.put,Sto.set,Sto.del]
 by_cases hl:j=l
 ·subst hl
  rw [if_pos rfl,if_neg h1,if_neg h2,if_neg h3,if_pos rfl]
 ·rw [if_neg hl,if_neg hl]
theorem Pl3.other (h1:l≠p.lx) (h2:l≠p.lf) (h3:l≠p.pb):(p.put τ a).get l=τ.get l:=by
 simp only [Pl3.put,Sto.set];rw [if_neg h1,if_neg h2,if_neg h3]
theorem Pl3.st (h:p.Ok τ):LexSt (p.put τ a) p.lx p.lf p.pb a.x a.line :=
 ⟨by simp [Pl3.put,Sto.set],by simp [Pl3.put,Sto.set,Ne.symm h.ne],h.ne,h.np,h.nq⟩
theorem Pl3.wait (h:p.Ok τ):(p.put τ a).get p.pb=some (.list a.q):=by simp [Pl3.put,Sto.set,Ne.symm h.np,Ne.symm h.nq]
theorem Pl3.upd_ (h:p.Ok τ) {x:List Nat} {line:Int}:upd (p.put τ a) p.lx p.lf p.pb x line=p.put τ ⟨x,a.q,line⟩:=Sto.ext' rfl fun j=>by
 have h1:=h.ne;have h2:=h.np;have h3:=h.nq
 dsimp only [upd,Pl3.put,Sto.set]
 split
 ·rfl
 ·split<;>rfl
theorem Pl3.setq (h:p.Ok τ) {q:List V}:(p.put τ a).set p.pb (.list q)=p.put τ ⟨a.x,q,a.line⟩:=Sto.ext' rfl fun j=>by
 have h1:=h.ne;have h2:=h.np;have h3:=h.nq
 dsimp only [Pl3.put,Sto.set]
 by_cases hj:j=p.pb
 ·subst hj
  rw [if_pos rfl,if_neg (Ne.symm h2),if_neg (Ne.symm h3),if_pos rfl]
 ·rw [if_neg hj,if_neg hj,if_neg hj]
end
noncomputable def LS.tok (a:LS):V × LS:=match a.q with
 | v::q=>(v,⟨a.x,q,a.line⟩)
 | []=>(.str (Mine.tok a.x a.line).1,⟨(Mine.tok a.x a.line).2.1,[],(Mine.tok a.x a.line).2.2⟩)
structure Lex (C:Cx):Prop where
 G:fk C
 it:C.glob jD=some (.bf .iter)
 gt:pO C bc c6 T_get_token
 pt:pO C de fO T_push_token
section
variable {C:Cx} {k:Nat} {ρ:Loc} {p:Pl3} {τ τ1:Sto} {a:LS} {o e:Ex}
theorem tC (L:Lex C) (h:p.Ok τ) (ho:EvE C (k+4) o ρ (p.put τ a) (.loc p.lx) (p.put τ a)) (hx:a.x.length<800000) (hq:a.q.length<1000):EvE C (k+4) (.meth o bc []) ρ (p.put τ a) a.tok.1 (p.put τ a.tok.2):=by
 refine rQ L.G.L L.gt ho (Pl3.st h).hl aj fun f d=>?_
 unfold LS.tok
 cases hw:a.q with
 | cons v q =>
   have:=nT (C:=C) (k:=k+3) L.G d (Pl3.st (a:=a) h) (v:=v) (q:=q) (by rw [Pl3.wait h,hw]) (by rw [hw] at hq;simp at hq;exact Nat.lt_of_succ_lt hq)
   rw [Pl3.setq h] at this
   exact this
 | nil =>
   have:=su (C:=C) (k:=k) L.G L.it d (Pl3.st (a:=a) h) (by rw [Pl3.wait h,hw]) hx
   rw [Pl3.upd_ h,hw] at this
   exact this
theorem rn (L:Lex C) (h:p.Ok τ) {v:V} {b:LS} (ho:EvE C (k+1) o ρ (p.put τ a) (.loc p.lx) (p.put τ a)) (he:EvL C (k+1) [e] ρ (p.put τ a) [v] (p.put τ1 b)) (h1:p.Ok τ1) (hq:b.q.length<1000):EvE C (k+1) (.meth o de [e]) ρ (p.put τ a) .none (p.put τ1 ⟨b.x,b.q++[v],b.line⟩):=by
 refine rQ L.G.L L.pt ho (Pl3.st h).hl he fun f d=>?_
 have:=CX (C:=C) (k:=k) L.G d (Pl3.st (a:=b) h1) (v:=v) (Pl3.wait h1) hq
 rw [Pl3.setq h1] at this
 exact this
theorem tM (L:Lex C) (h:p.Ok τ) (ho:EvE C k o ρ (p.put τ a) (.loc p.lx) (p.put τ a)):EvE C k (.attr o jT) ρ (p.put τ a) (.int a.line) (p.put τ a):=by
 rw [<-qM]
 exact vw L.G.L ho (Pl3.st h).hl
end
noncomputable def pl0 (σ:Sto):Pl3:=⟨σ.next+2,σ.next,σ.next+1⟩
theorem xv {σ:Sto} {x:List Nat}:(pl0 σ).Ok (fH σ x):=⟨by show σ.next+2≠σ.next;simp,by show σ.next+2≠σ.next+1;simp,by show σ.next≠σ.next+1;exact Nat.ne_add_one (Sto.next σ),by show σ.next+2<σ.next+1+1+1;simp,by show σ.next<σ.next+1+1+1;lia -abstractProof,by show σ.next+1<σ.next+1+1+1;simp⟩
theorem tO {σ:Sto} {x:List Nat} (j:Nat):(fH σ x).get j=if j=σ.next+2 then some (.lexer σ.next 1 (σ.next+1)) else if j=σ.next+1 then some (.list []) else if j=σ.next then some (.list (c5 x)) else σ.get j:=rfl
theorem Ao {σ:Sto} {x:List Nat}:fH σ x=(pl0 σ).put (fH σ x) ⟨x,[],1⟩:=Sto.ext' rfl fun j=>by
 show _=if j=σ.next+2 then some (.lexer σ.next 1 (σ.next+1)) else if j=σ.next then some (.list (c5 x)) else if j=σ.next+1 then some (.list []) else (fH σ x).get j
 simp only [tO]
 by_cases h1:j=σ.next+2
 ·rw [if_pos h1,if_pos h1]
 ·rw [if_neg h1,if_neg h1]
  by_cases h2:j=σ.next
  ·rw [if_neg (by lia -abstractProof),if_pos h2,if_pos h2]
  ·by_cases h3:j=σ.next+1
   ·rw [if_pos h3,if_neg h2,if_pos h3]
   ·lia -abstractProof
end
section
noncomputable def cnt (x:List Nat):Int:=(x.count 10:Nat)
theorem l8:cnt []=0:=rfl
theorem kU (c:Nat) (r:List Nat):cnt (c::r)=nlc c+cnt r:=by
 unfold cnt nlc
 rw [List.count_cons]
 by_cases h:c=10<;>simp [h]<;>lia -abstractProof
theorem i9 (stop:Nat->Bool):∀ (n:Nat) (x:List Nat) (line:Int) (t:List Nat),x.length<=n->(bK stop x line t).2.2.1+cnt (bK stop x line t).2.1=line+cnt x
 | 0,[],line,t,_=>rfl
 | n+1,[],line,t,_=>rfl
 | n+1,c::r,line,t,hn=>by
   rw [dr,kU]
   cases stop c with
   | true=>dsimp only [cond_true];exact Int.add_assoc line (nlc c) (cnt r)
   | false =>
     simp only [cond_false]
     cases Nat.beq c 92 with
     | true =>
       simp only [cond_true]
       cases r with
       | nil=>simp only [l8];simp
       | cons d r' =>
         have:=i9 stop n r' (line+nlc c+nlc d) (t++[d]) (by simp at hn;exact Nat.le_of_succ_le hn)
         simp only [kU];lia -abstractProof
     | false =>
       have:=i9 stop n r (line+nlc c) (t++[c]) (by simp at hn;omega)
       simp only [cond_false];lia -abstractProof
theorem u7:∀ (x:List Nat) (line:Int),(tok x line).2.2+cnt (tok x line).2.1=line+cnt x
 | [],line=>rfl
 | c::r,line=>by
   rw [ei,kU]
   cases isW c with
   | true=>simp only [cond_true];have:=u7 r (line+nlc c);lia -abstractProof
   | false =>
     simp only [cond_false]
     cases isQ c with
     | true=>simp only [cond_true];have:=i9 isQ _ r (line+nlc c) [] (Nat.le_refl _);lia -abstractProof
     | false =>
       simp only [cond_false]
       cases Nat.beq c 92 with
       | true =>
         simp only [cond_true]
         cases r with
         | nil=>simp only [l8];lia -abstractProof
         | cons d r'=>have:=i9 isW _ r' (line+nlc c+nlc d) [d] (Nat.le_refl _);simp only [kU];lia -abstractProof
       | false=>simp only [cond_false];have:=i9 isW _ r (line+nlc c) [c] (Nat.le_refl _);lia -abstractProof
noncomputable def Tk (x w z:List Nat):Prop:=∀ line,tok x line=(w,z,line+cnt x - cnt z)
theorem Tk.of {x w z:List Nat} (h:∀ line,(tok x line).1=w/\(tok x line).2.1=z):Tk x w z:=fun line=>by
 have:=u7 x line
 obtain ⟨h1,h2⟩:=h line
 rw [h2] at this
 refine Prod.ext h1 (Prod.ext h2 ?_)
 show (tok x line).2.2=line+cnt x - cnt z
 lia -abstractProof
theorem Tk.fst {x w z:List Nat} (h:Tk x w z) (line:Int):(tok x line).1=w/\(tok x line).2.1=z:=by rw [h line];exact ⟨rfl,rfl⟩
theorem Tk.white {g x w z:List Nat} (hg:∀ c∈g,isW c=true) (h:Tk x w z):Tk (g++x) w z:=Tk.of fun line=>by
 induction g generalizing line with
 | nil=>exact h.fst line
 | cons c g ih =>
   rw [List.cons_append,ei,hg c (.head _)]
   simp only [cond_true]
   exact ih (fun d hd=>hg d (.tail _ hd)) _
theorem rE {stop:Nat->Bool} {hid:List Nat} (h92:stop 92=false):∀ (w z t:List Nat) (line:Int),(∀ c∈w,(stop c=true\/c=92)->c∈hid)->∃ line',bK stop (eu hid w++z) line t=bK stop z line' (t++w):=by
 intro w
 induction w with
 | nil =>
   intro z t line _
   exact ⟨line,by simp [eu]⟩
 | cons c w ih =>
   intro z t line h
   have ih:=fun t line=>ih z t line fun d hd=>h d (.tail _ hd)
   have e:eu hid (c::w)=(if c∈hid then [92,c] else [c])++eu hid w:=by rfl
   rw [e]
   by_cases hc:c∈hid
   ·rw [if_pos hc]
    show ∃ line',bK stop (92::c::(eu hid w++z)) line t=_
    rw [dr,h92]
    obtain ⟨l',e'⟩:=ih (t++[c]) (line+nlc 92+nlc c)
    refine ⟨l',?_⟩
    show bK stop (eu hid w++z) (line+nlc 92+nlc c) (t++[c])=_
    rw [e'];simp
   ·rw [if_neg hc]
    have h1:stop c=false:=by
     cases hs:stop c with
     | true=>exact absurd (h c (.head _) (.inl hs)) hc
     | false=>rfl
    have h2:Nat.beq c 92=false:=by
     cases hs:Nat.beq c 92 with
     | true=>exact absurd (h c (.head _) (.inr (Nat.eq_of_beq_eq_true hs))) hc
     | false=>rfl
    show ∃ line',bK stop (c::(eu hid w++z)) line t=_
    rw [dr,h1,h2]
    obtain ⟨l',e'⟩:=ih (t++[c]) (line+nlc c)
    refine ⟨l',?_⟩
    show bK stop (eu hid w++z) (line+nlc c) (t++[c])=_
    rw [e'];simp
theorem isQ_iff {c:Nat}:isQ c=true↔c=34:=by unfold isQ;exact Nat.beq_eq.symm▸Iff.rfl
theorem isW_iff {c:Nat}:isW c=true↔c=10\/c=9\/c=13\/c=32:=by simp [isW,Nat.beq_eq,or_assoc]
theorem Tk.quoted {w z:List Nat} {way:Nat} (hw:way % 2=0) (hway:way<4):Tk (cN w way++z) w z:=Tk.of fun line=>by
 rw [cN,if_neg (by exact Iff.mpr Nat.mod_two_ne_one hw)]
 show (tok (34::(eu (ck w way) w++[34]++z)) line).1=w/\(tok (34::(eu (ck w way) w++[34]++z)) line).2.1=z
 rw [ei,show isW 34=false from rfl,show isQ 34=true from rfl]
 simp only [cond_false,cond_true,List.append_assoc]
 have hh:∀ c∈w,(isQ c=true\/c=92)->c∈ck w way:=fun c hc h=>by
  unfold ck
  by_cases h2:way > 1
  ·rw [if_pos h2];exact hc
  ·rw [if_neg h2,if_neg (by lia -abstractProof)]
   rcases h with h | h
   ·rw [isQ_iff.mp h];decide
   ·rw [h];exact List.mem_cons_self
 obtain ⟨l',e⟩:=rE (stop:=isQ) rfl w ([34]++z) [] (line+nlc 34) hh
 rw [e]
 show (bK isQ (34::z) l' ([]++w)).1=w/\(bK isQ (34::z) l' ([]++w)).2.1=z
 rw [dr,show isQ 34=true from rfl]
 exact ⟨rfl,rfl⟩
theorem Tk.bare {w z:List Nat} {g way:Nat} (hw:way % 2=1) (hway:way<4) (hg:isW g=true) (hne:w≠[]):Tk (cN w way++g::z) w z:=Tk.of fun line=>by
 rw [cN,if_pos hw]
 cases w with
 | nil=>exact absurd rfl hne
 | cons c w =>
   have hh:∀ d∈c::w,(isW d=true\/d=92)->d∈ck (c::w) way:=fun d hd h=>by
    unfold ck
    by_cases h2:way > 1
    ·rw [if_pos h2];exact hd
    ·rw [if_neg h2,if_pos (by lia -abstractProof)]
     rcases h with h | h
     ·rcases isW_iff.mp h with h | h | h | h<;>rw [h]<;>exact List.mem_of_elem_eq_true rfl
     ·rw [h];exact List.mem_cons_self
   have e:eu (ck (c::w) way) (c::w)=(if c∈ck (c::w) way then [92,c] else [c])++eu (ck (c::w) way) w:=by rfl
   have fin:∀ l,(bK isW (eu (ck (c::w) way) w++g::z) l [c]).1=c::w/\(bK isW (eu (ck (c::w) way) w++g::z) l [c]).2.1=z:=fun l=>by
    obtain ⟨l',e'⟩:=rE (stop:=isW) (hid:=ck (c::w) way) rfl w (g::z) [c] l fun d hd h=>hh d (.tail _ hd) h
    rw [e',dr,hg]
    exact ⟨rfl,rfl⟩
   have esc:∀ line,(tok (92::c::(eu (ck (c::w) way) w++g::z)) line).1=c::w/\(tok (92::c::(eu (ck (c::w) way) w++g::z)) line).2.1=z:=fun line=>by
    rw [ei,show isW 92=false from rfl,show isQ 92=false from rfl,show Nat.beq 92 92=true from rfl]
    exact fin _
   rw [e]
   by_cases hc:c∈ck (c::w) way
   ·rw [if_pos hc,if_neg]
    ·exact esc line
    ·rintro ⟨h1,h2⟩
     have hc34:c=34:=by simpa using h2
     rw [ck,if_neg (by grind -abstractProof),if_pos h1,hc34] at hc
     contradiction
   ·rw [if_neg hc]
    have h1:isW c=false:=by
     cases hs:isW c with
     | true=>exact absurd (hh c (.head _) (.inl hs)) hc
     | false=>rfl
    have h2:Nat.beq c 92=false:=by
     cases hs:Nat.beq c 92 with
     | true=>exact absurd (hh c (.head _) (.inr (Nat.eq_of_beq_eq_true hs))) hc
     | false=>rfl
    have hw1:way=1:=by
     rcases Nat.lt_or_ge 1 way with h | h
     ·rw [ck,if_pos h] at hc;exact absurd (.head _) hc
     ·lia -abstractProof
    by_cases h34:c=34
    ·rw [if_pos ⟨hw1,by rw [h34];rfl⟩]
     exact esc line
    ·rw [if_neg (fun q=>h34 (by simpa using q.2))]
     show (tok (c::(eu (ck (c::w) way) w++g::z)) line).1=c::w/\(tok (c::(eu (ck (c::w) way) w++g::z)) line).2.1=z
     rw [ei,h1,h2,show isQ c=false from by
      cases hs:isQ c with
      | true=>exact absurd (isQ_iff.mp hs) h34
      | false=>rfl]
     exact fin _
noncomputable def tI (w:List Nat):Prop:=w≠[]/\∀ c∈w,isW c=false/\c≠92/\c≠34
theorem Tk.plain {w z:List Nat} {g:Nat} (hw:tI w) (hg:isW g=true):Tk (w++g::z) w z:=by
 have:=Tk.bare (w:=w) (z:=z) (g:=g) (way:=1) rfl (by simp) hg hw.1
 rw [cN,if_pos rfl,if_neg] at this
 ·have e:eu (ck w 1) w=w:=by
   have:∀ l:List Nat,(∀ c∈l,isW c=false/\c≠92/\c≠34)->eu (ck w 1) l=l:=fun l h=>by
    induction l with
    | nil=>rfl
    | cons c l ih =>
      have hc:=h c (.head _)
      have e2:eu (ck w 1) (c::l)=(if c∈ck w 1 then [92,c] else [c])++eu (ck w 1) l:=by rfl
      rw [e2,ih fun d hd=>h d (.tail _ hd),if_neg]
      ·rfl
      ·intro m
       rw [ck,if_neg (by decide),if_pos rfl] at m
       have:=hc.1
       rcases List.mem_cons.mp m with h | m
       ·exact hc.2.1 h
       ·have:isW c=true:=isW_iff.mpr (by simp at m;lia -abstractProof)
        rw [hc.1] at this;cases this
   exact this w hw.2
  rw [e] at this
  exact this
 ·rintro ⟨_,h⟩
  cases w with
  | nil=>exact hw.1 rfl
  | cons c w=>exact (hw.2 c (.head _)).2.2 (by simpa using h)
noncomputable def ends:List (List Nat):=[[101,110,100],[34,101,110,100,34],[34,101,110,100],[101,110,100,92]]
theorem Tk.last {e:List Nat} (h:e∈ends):Tk e [101,110,100] []:=Tk.of fun line=>by
 simp only [ends,List.mem_cons,List.not_mem_nil,or_false] at h
 rcases h with rfl | rfl | rfl | rfl<;>exact ⟨rfl,rfl⟩
theorem Tk.none:Tk [] [] []:=fun line=>by
 show (([]:List Nat),([]:List Nat),line)=([],[],line+cnt [] - cnt [])
 simp only [l8];simp
noncomputable def lsN (N:Int) (x:List Nat) (q:List V):LS:=⟨x,q,N - cnt x⟩
theorem Tk.ls {x w z:List Nat} (h:Tk x w z) (N:Int):(lsN N x []).tok=(.str w,lsN N z []):=by
 delta LS.tok lsN
 simp only
 rw [h]
 exact congrArg (fun i=>(V.str w,(⟨z,[],i⟩:LS))) (by lia -abstractProof)
theorem rG (N:Int) (x:List Nat) (v:V) (q:List V):(lsN N x (v::q)).tok=(v,lsN N x q):=rfl
end
section
open PySem PyProof.Rows
set_option maxRecDepth 100000
section
variable {C:Cx} {k:Nat} {σ σ1:Sto} {ρ:Loc}
theorem cO {e:Ex} {a:Nat} (b:Nat) (hb:b≠0) (h:EvE C k e ρ σ (.int (a:Int)) σ1):EvE C k (.bin .Mod e (.cInt (b:Int))) ρ σ (.int ((a % b:Nat):Int)) σ1 :=
 EvE.eq (ap h aB (fV (by exact Iff.mpr Int.ofNat_ne_zero hb))) (congrArg V.int (tU a b))
theorem DY {b:Nat} (hb:0<b) (h2:b<2 ^ 64):(b:Int).natAbs.log2<9000:=by
 simp only [Int.natAbs_natCast]
 exact Nat.lt_trans ((Nat.log2_lt (by exact Nat.ne_zero_of_lt hb)).mpr h2) (by simp)
theorem ew {e:Ex} {a:Nat} (b:Nat) (hb:0<b) (h2:b<2 ^ 64) (h:EvE C k e ρ σ (.int (a:Int)) σ1):EvE C k (.bin .FloorDiv e (.cInt (b:Int))) ρ σ (.int ((a / b:Nat):Int)) σ1 :=
 EvE.eq (ap h aB (jg (by exact Iff.mpr Int.natCast_ne_zero_iff_pos hb) (DY hb h2))) (congrArg V.int (um a b))
theorem qA {e f:Ex} {a b:Nat} {σ2:Sto} (hb:0<b) (h2:b<2 ^ 64) (h:EvE C k e ρ σ (.int (a:Int)) σ1) (hf:EvE C k f ρ σ1 (.int (b:Int)) σ2):EvE C k (.bin .FloorDiv e f) ρ σ (.int ((a / b:Nat):Int)) σ2 :=
 EvE.eq (ap h hf (jg (by lia -abstractProof) (DY hb h2))) (congrArg V.int (um a b))
theorem qf {b:Nat} (a:Nat) (ha:a<2 ^ 64) (hb:b<=1000000) {e:Ex} (h:EvE C k e ρ σ (.int (b:Int)) σ1):EvE C k (.bin .Pow (.cInt (a:Int)) e) ρ σ (.int ((a ^ b:Nat):Int)) σ1 :=
 EvE.eq (ap aB h (y5 (by simp) (by exact Nat.ToInt.of_le rfl rfl hb) (by simp only [Int.natAbs_natCast];exact ha))) (congrArg V.int (by rfl))
theorem mo {e:Ex} {a:Nat} (b:Nat) (hb:IntMulOk (a:Int) (b:Int)) (h:EvE C k e ρ σ (.int (a:Int)) σ1):EvE C k (.bin .Mult e (.cInt (b:Int))) ρ σ (.int ((a*b:Nat):Int)) σ1 :=
 EvE.eq (ap h aB (yN hb)) (congrArg V.int (Int.natCast_mul a b).symm)
theorem oX {e:Ex} {a:Nat} (b:Nat) (h:EvE C k e ρ σ (.int (a:Int)) σ1):EvT C k (.cmp e [.Eq] [.cInt (b:Int)]) ρ σ (decide (a=b)) σ1:=by
 rw [show decide (a=b)=((a:Int)==(b:Int)) from by rw [Bool.eq_iff_iff];simp;exact Iff.symm Int.ofNat_inj]
 exact aJ h aB lN aH
theorem kh {e:Ex} {a:Nat} (hp:pB e=true) (h:EvE C k e ρ σ (.int (a:Int)) σ1):EvT C k e ρ σ (decide (a≠0)) σ1:=by
 rw [show decide (a≠0)=((a:Int) != 0) from by rw [Bool.eq_iff_iff];simp]
 exact mS hp h
theorem Dm {vs:List V} {j:Nat} {v:V} (h:vs[j]?=some v):idx vs (j:Int)=some v:=by
 have hj:j<vs.length:=(List.getElem?_eq_some_iff.mp h).1
 unfold idx
 rw [qU (.inl ⟨by lia -abstractProof,rfl⟩) hj]
 exact h
theorem di {e f:Ex} {vs:List V} {j:Nat} {v:V} {σ2:Sto} (he:EvE C k e ρ σ (.list vs) σ1) (hf:EvE C k f ρ σ1 (.int (j:Int)) σ2) (h:vs[j]?=some v) (hz:j<2 ^ 62):EvE C k (.sub e f) ρ σ v σ2 :=
 mD he hf gB PySem.F.slot_list_getitem.lookup (kQ (Dm h) (by simp) (by lia -abstractProof))
noncomputable def gaps:List (List Nat):=[[32],[10],[9,10],[13,10,32]]
noncomputable def g9 (s:Nat):List Nat:=gaps.getD (s / 3072 % 4) []
noncomputable def fA (s:Nat):Nat:=s / 24576 % 2
noncomputable def dw (s j:Nat):Nat:=s / 4 ^ j % 4
noncomputable def gA (s:Nat):Nat:=s / 1024 % 3
noncomputable def kD (s j:Nat) (col:List Nat):List Nat:=cN (cz col (dw s j / 2*128)) (dw s j)++(if fA s≠0/\dw s j % 2=0 then [] else g9 s)
noncomputable def jn (s:Nat) (l:List Nat):List Nat:=(if gA s=1 then l else cN l (gA s / 2))++(if fA s≠0/\gA s=0 then [] else g9 s)
noncomputable def eW (cols lists:List (List Nat)) (s:Nat):Nat->List Nat
 | 0=>g9 s
 | j+1=>eW cols lists s j++kD s j (cols.getD j [])++jn s (lists.getD j [])
noncomputable def pA (s:Nat):List Nat:=ends.getD (s / 49152 % 4) []
noncomputable def jl (cols lists:List (List Nat)) (s:Nat):List Nat:=eW cols lists s 5++pA s
theorem uN {l:List (List Nat)} {i:Nat} (h:i<l.length):(aC l)[i]?=some (.str (l.getD i [])):=by
 simp [aC,List.getD_eq_getElem?_getD,List.getElem?_eq_getElem h]
theorem j7 (s:Nat):(g9 s).length<=3:=by
 have:∀ i,i<4->(gaps.getD i []).length<=3:=by decide
 exact this _ (Nat.mod_lt _ (by simp))
theorem f8 (w:List Nat) (way:Nat):(cN w way).length<=2*w.length+2:=by
 have:=qG (ck w way) w
 unfold cN
 split
 ·rw [List.length_append]
  split<;>simp only [List.length_cons,List.length_nil]<;>lia -abstractProof
 ·simp;omega
theorem n8 (s j:Nat) (col:List Nat):(kD s j col).length<=6*col.length+5:=by
 have h1:=f8 (cz col (dw s j / 2*128)) (dw s j)
 have h2:=jd col (dw s j / 2*128)
 have h3:=j7 s
 unfold kD
 rw [List.length_append]
 split<;>(try simp only [List.length_nil])<;>lia -abstractProof
theorem on (s:Nat) (l:List Nat):(jn s l).length<=2*l.length+5:=by
 have h1:=f8 l (gA s / 2)
 have h3:=j7 s
 unfold jn
 rw [List.length_append]
 split<;>split<;>(try simp only [List.length_nil])<;>lia -abstractProof
theorem jt {cols lists:List (List Nat)} {s:Nat} (hc:∀ c∈cols,c.length=3) (hl:∀ l∈lists,l.length<=1000):∀ j,(eW cols lists s j).length<=3+j*3000
 | 0=>by have:=j7 s;dsimp only [eW];omega
 | j+1=>by
   have ih:=jt hc hl j (s:=s)
   have h1:=n8 s j (cols.getD j [])
   have h2:=on s (lists.getD j [])
   have h3:(cols.getD j []).length<=3:=by
    rw [List.getD_eq_getElem?_getD]
    cases h:cols[j]? with
    | none=>simp
    | some c=>simp [hc c (List.mem_of_getElem? h)]
   have h4:(lists.getD j []).length<=1000:=by
    rw [List.getD_eq_getElem?_getD]
    cases h:lists[j]? with
    | none=>simp
    | some c=>simp [hl c (List.mem_of_getElem? h)]
   dsimp only [eW]
   rw [List.length_append,List.length_append]
   lia -abstractProof
end
end
section
open PySem PyProof.Rows
set_option maxRecDepth 100000
section
variable {C:Cx} {k:Nat} {σ σ1:Sto} {ρ:Loc}
structure hV (C:Cx):Prop where
 H:COk C
 B:Bi C
 word:DefAt C cc jz T_law_word
 written:DefAt C bw gU T_law_written
noncomputable def bk (cols:List (List Nat)):V:=.list (cols.map fun c=>.list (zN c))
noncomputable abbrev txF (cols lists:List (List Nat)) (s:Nat) (x:List Nat):Loc:=[(aI,bk cols),(aL,.list (aC lists)),(cX,.int (s:Int)),(ic,.str (g9 s)),(dF,.int (fA s:Int)),(aN,.str x)]
noncomputable abbrev txG (cols lists:List (List Nat)) (s j:Nat) (x:List Nat) (w:V):Loc:=[(aI,bk cols),(aL,.list (aC lists)),(cX,.int (s:Int)),(ic,.str (g9 s)),(dF,.int (fA s:Int)),(aN,.str x),(n_k,.int (j:Int)),(bg,w)]
noncomputable abbrev txB:List St:=[.assign [bg] false (.bin .Mod (.bin .FloorDiv (.var cX) (.bin .Pow (.cInt 4) (.var n_k))) (.cInt 4)),.assign [aN] false (.bin .Add (.bin .Add (.var aN) (.call (.glob bw) [(.call (.glob cc) [(.sub (.var aI) (.var n_k)),(.bin .Mult (.bin .FloorDiv (.var bg) (.cInt 2)) (.cInt 128))]),(.var bg)])) (.ite (.boolop .And [(.var dF),(.cmp (.bin .Mod (.var bg) (.cInt 2)) [.Eq] [(.cInt 0)])]) (.cStr []) (.var ic))),.assign [bg] false (.bin .Mod (.bin .FloorDiv (.var cX) (.cInt 1024)) (.cInt 3)),.assign [aN] false (.bin .Add (.bin .Add (.var aN) (.ite (.cmp (.var bg) [.Eq] [(.cInt 1)]) (.sub (.var aL) (.var n_k)) (.call (.glob bw) [(.sub (.var aL) (.var n_k)),(.bin .FloorDiv (.var bg) (.cInt 2))]))) (.ite (.boolop .And [(.var dF),(.cmp (.var bg) [.Eq] [(.cInt 0)])]) (.cStr []) (.var ic)))]
theorem zI (W:hV C) {cols lists:List (List Nat)} {s j:Nat} {x:List Nat} {ρ1:Loc} (hc:∀ c∈cols,c.length=3) (hl:∀ l∈lists,l.length<=1000) (hj:j<5) (hcl:cols.length=5) (hll:lists.length=5) (hx:x.length<50000)
 (gs:get ρ1 cX=some (.int (s:Int))) (gk:get ρ1 n_k=some (.int (j:Int))) (hp:∀ w,put ρ1 bg w=txG cols lists s j x w) :
 ExL C (k+2) txB ρ1 σ .next (txG cols lists s j (x++kD s j (cols.getD j [])++jn s (lists.getD j [])) (.int ((gA s:Nat):Int))) σ:=by
 have hw4:dw s j<4:=Nat.mod_lt _ (by decide)
 have hb3:gA s<3:=Nat.mod_lt _ (by decide)
 have hcj:(cols.map fun c=>V.list (zN c))[j]?=some (.list (zN (cols.getD j []))):=by
  rw [List.getElem?_map,List.getD_eq_getElem?_getD,List.getElem?_eq_getElem (by lia -abstractProof)];rfl
 have hlj:(aC lists)[j]?=some (.str (lists.getD j [])):=uN (by lia -abstractProof)
 have hc3:(cols.getD j []).length=3:=by
  rw [List.getD_eq_getElem?_getD,List.getElem?_eq_getElem (by lia -abstractProof)]
  exact hc _ (List.getElem_mem _)
 have hl3:(lists.getD j []).length<=1000:=by
  rw [List.getD_eq_getElem?_getD,List.getElem?_eq_getElem (by lia -abstractProof)]
  exact hl _ (List.getElem_mem _)
 have p4:4 ^ j<2 ^ 64:=Nat.lt_of_lt_of_le (Nat.pow_lt_pow_right (by decide) hj) (by decide)
 have S1:ExS C (k+2) (.assign [bg] false (.bin .Mod (.bin .FloorDiv (.var cX) (.bin .Pow (.cInt 4) (.var n_k))) (.cInt 4))) ρ1 σ .next (txG cols lists s j x (.int ((dw s j:Nat):Int))) σ :=
  ak (cO 4 (by decide) (qA (Nat.pow_pos (by decide)) p4 (aa gs) (qf 4 (by decide) (by lia -abstractProof) (aa gk)))) (by rw [<-hp];rfl) fun _=>rfl
 have hwl:=jd (cols.getD j []) (dw s j / 2*128)
 have T1:EvT C (k+2) (.boolop .And [(.var dF),(.cmp (.bin .Mod (.var bg) (.cInt 2)) [.Eq] [(.cInt 0)])]) (txG cols lists s j x (.int ((dw s j:Nat):Int))) σ (decide (fA s≠0)&&decide (dw s j % 2=0)) σ :=
  mN (kh rfl (aa rfl)) (oX 0 (cO 2 (by decide) (aa rfl)))
 have hA:=n8 s j (cols.getD j [])
 have hB:=on s (lists.getD j [])
 have hg3:=j7 s
 have wl1:=f8 (cz (cols.getD j []) (dw s j / 2*128)) (dw s j)
 have S2:ExS C (k+2) (.assign [aN] false (.bin .Add (.bin .Add (.var aN) (.call (.glob bw) [(.call (.glob cc) [(.sub (.var aI) (.var n_k)),(.bin .Mult (.bin .FloorDiv (.var bg) (.cInt 2)) (.cInt 128))]),(.var bg)])) (.ite (.boolop .And [(.var dF),(.cmp (.bin .Mod (.var bg) (.cInt 2)) [.Eq] [(.cInt 0)])]) (.cStr []) (.var ic))))
  (txG cols lists s j x (.int ((dw s j:Nat):Int))) σ .next (txG cols lists s j (x++kD s j (cols.getD j [])) (.int ((dw s j:Nat):Int))) σ:=by
  have E1:=a7 (C:=C) (k:=k+2) (ρ:=txG cols lists s j x (.int ((dw s j:Nat):Int))) W.H (ah (di (aa (x:=aI) rfl) (aa (x:=n_k) rfl) hcj (by lia -abstractProof)) (ah (mo 128 (.of_right (by decide +kernel)) (ew 2 (by decide) (by decide) (aa (x:=bg) rfl))) aj)) (yq (k:=k+1) (σ:=σ) W.H W.B W.word (ps:=cols.getD j []) (hi:=dw s j / 2*128) (by lia -abstractProof) (by lia -abstractProof))
  have E2:=a7 (C:=C) (k:=k+2) (ρ:=txG cols lists s j x (.int ((dw s j:Nat):Int))) W.H (ah E1 (ah (aa (x:=bg) rfl) aj)) (oD (k:=k+1) (σ:=σ) W.H W.written (w:=cz (cols.getD j []) (dw s j / 2*128)) (way:=dw s j) (by lia -abstractProof) hw4)
  have E3:EvE C (k+2) (.ite (.boolop .And [(.var dF),(.cmp (.bin .Mod (.var bg) (.cInt 2)) [.Eq] [(.cInt 0)])]) (.cStr []) (.var ic)) (txG cols lists s j x (.int ((dw s j:Nat):Int))) σ (.str (if fA s≠0/\dw s j % 2=0 then [] else g9 s)) σ:=by
   refine ed T1 (fun h=>?_) (fun h=>?_)
   ·rw [if_pos (by simpa using h)];exact bE
   ·rw [if_neg (by simpa using h)];exact aa rfl
  have E4:=ap (ap (aa (x:=aN) (v:=.str x) rfl) E2 (dX (by rw [List.length_append];lia -abstractProof))) E3 (dX (by
   rw [List.length_append,List.length_append]
   split<;>(try simp only [List.length_nil])<;>lia -abstractProof))
  refine ak E4 ?_ fun _=>rfl
  rw [List.append_assoc];rfl
 have S3:∀ y,ExS C (k+2) (.assign [bg] false (.bin .Mod (.bin .FloorDiv (.var cX) (.cInt 1024)) (.cInt 3))) (txG cols lists s j y (.int ((dw s j:Nat):Int))) σ .next (txG cols lists s j y (.int ((gA s:Nat):Int))) σ:=fun y =>
  ak (cO 3 (by decide) (ew 1024 (by decide) (by decide) (aa rfl))) rfl fun _=>rfl
 have wl2:=f8 (lists.getD j []) (gA s / 2)
 have S4:∀ y,y.length<60000->ExS C (k+2) (.assign [aN] false (.bin .Add (.bin .Add (.var aN) (.ite (.cmp (.var bg) [.Eq] [(.cInt 1)]) (.sub (.var aL) (.var n_k)) (.call (.glob bw) [(.sub (.var aL) (.var n_k)),(.bin .FloorDiv (.var bg) (.cInt 2))]))) (.ite (.boolop .And [(.var dF),(.cmp (.var bg) [.Eq] [(.cInt 0)])]) (.cStr []) (.var ic))))
  (txG cols lists s j y (.int ((gA s:Nat):Int))) σ .next (txG cols lists s j (y++jn s (lists.getD j [])) (.int ((gA s:Nat):Int))) σ:=fun y hy=>by
  have E1:=di (C:=C) (k:=k+2) (ρ:=txG cols lists s j y (.int ((gA s:Nat):Int))) (σ:=σ) (aa (x:=aL) rfl) (aa (x:=n_k) rfl) hlj (Nat.lt_of_lt_of_le (by assumption) (by decide))
  have E2:EvE C (k+2) (.ite (.cmp (.var bg) [.Eq] [(.cInt 1)]) (.sub (.var aL) (.var n_k)) (.call (.glob bw) [(.sub (.var aL) (.var n_k)),(.bin .FloorDiv (.var bg) (.cInt 2))])) (txG cols lists s j y (.int ((gA s:Nat):Int))) σ
   (.str (if gA s=1 then lists.getD j [] else cN (lists.getD j []) (gA s / 2))) σ:=by
   refine ed (oX 1 (aa rfl)) (fun h=>?_) (fun h=>?_)
   ·rw [if_pos (of_decide_eq_true h)];exact E1
   ·rw [if_neg (of_decide_eq_false h)]
    exact a7 W.H (ah E1 (ah (ew 2 (by decide) (by decide) (aa (x:=bg) rfl)) aj)) (oD (k:=k+1) W.H W.written (by lia -abstractProof) (by lia -abstractProof))
  have T2:EvT C (k+2) (.boolop .And [(.var dF),(.cmp (.var bg) [.Eq] [(.cInt 0)])]) (txG cols lists s j y (.int ((gA s:Nat):Int))) σ (decide (fA s≠0)&&decide (gA s=0)) σ :=
   mN (kh rfl (aa rfl)) (oX 0 (aa rfl))
  have E3:EvE C (k+2) (.ite (.boolop .And [(.var dF),(.cmp (.var bg) [.Eq] [(.cInt 0)])]) (.cStr []) (.var ic)) (txG cols lists s j y (.int ((gA s:Nat):Int))) σ (.str (if fA s≠0/\gA s=0 then [] else g9 s)) σ:=by
   refine ed T2 (fun h=>?_) (fun h=>?_)
   ·rw [if_pos (by simpa using h)];exact bE
   ·rw [if_neg (by simpa using h)];exact aa rfl
  have E4:=ap (ap (aa (x:=aN) (v:=.str y) rfl) E2 (dX (by
   rw [List.length_append]
   split<;>lia -abstractProof))) E3 (dX (by
   rw [List.length_append,List.length_append]
   split<;>split<;>(try simp only [List.length_nil])<;>lia -abstractProof))
  refine ak E4 ?_ fun _=>rfl
  rw [List.append_assoc];rfl
 exact aq S1 (aq S2 (aq (S3 _) (aq (S4 _ (by rw [List.length_append];lia -abstractProof)) aF)))
noncomputable def TxI (cols lists:List (List Nat)) (s:Nat) (σ:Sto) (vs:List V) (ρ:Loc) (τ:Sto):Prop :=
 ∃ j:Nat,j<=5/\vs=aZ (j:Int) (5 - j)/\τ=σ/\(ρ=txF cols lists s (eW cols lists s j)\/∃ u w,ρ=txF cols lists s (eW cols lists s j)++[(n_k,u),(bg,w)])
noncomputable def TxE (cols lists:List (List Nat)) (s:Nat) (σ:Sto) (f:Fl) (ρ:Loc) (τ:Sto):Prop:=f=.next/\τ=σ/\get ρ aN=some (.str (eW cols lists s 5))/\get ρ cX=some (.int (s:Int))
theorem Ah (W:hV C) (d:DefAt C eE jB T_law_text) {cols lists:List (List Nat)} {s:Nat} (hc:∀ c∈cols,c.length=3) (hl:∀ l∈lists,l.length<=1000) (hcl:cols.length=5) (hll:lists.length=5) :
 Calls C (k+3) eE [bk cols,.list (aC lists),.int (s:Int)] σ (.str (jl cols lists s)) σ:=by
 have tl:=jt hc hl (s:=s)
 obtain ⟨f,ρ',σ',hF,rfl,rfl,ht,hs⟩:=gL (C:=C) (k:=k+2) (xs:=[n_k]) (body:=txB) (orelse:=[]) (TxI cols lists s σ) (TxE cols lists s σ) (fun v vs ρ τ h=>by
  obtain ⟨j,hj,hv,rfl,hρ⟩:=h
  have hj':j<5:=by
   rcases Nat.lt_or_ge j 5 with h | h
   ·exact h
   ·rw [show 5 - j=0 from by exact Nat.sub_eq_zero_of_le h] at hv;cases hv
  rw [eo (show j<5 by assumption),bz] at hv
  cases hv
  obtain ⟨ρ1,h1,h2,h3,h4⟩:∃ ρ1,get ρ1 cX=some (.int (s:Int))/\get ρ1 n_k=some (.int j)/\(∀ w,put ρ1 bg w=txG cols lists s j (eW cols lists s j) w)/\bI ρ [n_k] (.int j)=some ρ1:=by
   rcases hρ with rfl | ⟨u,w,rfl⟩
   ·exact ⟨_,rfl,rfl,fun _=>rfl,rfl⟩
   ·exact ⟨_,rfl,rfl,fun _=>rfl,rfl⟩
  have tj:=tl j
  have:=zI (k:=k) (σ:=τ) W hc hl hj' hcl hll (by lia -abstractProof) h1 h2 h3
  exact ⟨ρ1,.next,_,_,h4,this,j+1,hj',by rfl,rfl,.inr ⟨_,_,rfl⟩⟩)
  (fun ρ τ h=>by
    obtain ⟨j,hj,hv,rfl,hρ⟩:=h
    have hj':j=5:=by
     rcases Nat.lt_or_ge j 5 with h | h
     ·rw [eo (show j<5 by assumption),bz] at hv;cases hv
     ·exact Eq.symm (Nat.le_antisymm h hj)
    subst hj'
    refine ⟨.next,ρ,τ,aF,rfl,rfl,?_⟩
    rcases hρ with rfl | ⟨u,w,rfl⟩<;>exact ⟨rfl,rfl⟩)
  (aZ 0 5) (txF cols lists s (g9 s)) σ ⟨0,by simp,rfl,rfl,.inl rfl⟩
 refine d.calls (ρ':=ρ') (f:=.ret (.str (jl cols lists s))) W.H ?_ rfl rfl
 unfold T_law_text
 have hg:(aC gaps)[s / 3072 % 4]?=some (.str (g9 s)):=uN (Nat.mod_lt _ (by simp))
 have he:(aC ends)[s / 49152 % 4]?=some (.str (pA s)):=uN (Nat.mod_lt _ (by simp))
 have hel:(pA s).length<=5:=by
  have:∀ i,i<4->(ends.getD i []).length<=5:=by decide
  exact this _ (Nat.mod_lt _ (by simp))
 refine aq (ρ1:=[(aI,bk cols),(aL,.list (aC lists)),(cX,.int (s:Int)),(ic,.str (g9 s)),(dF,.int (fA s:Int))]) (σ1:=σ') (ak (v:=.tup [.str (g9 s),.int (fA s:Int)]) (gT (ah (di (dA (ku gaps) (szl rfl)) (cO 4 (by decide) (ew 3072 (by simp) (by simp) (aa rfl))) hg (by grind -abstractProof)) (ah (cO 2 (by decide) (ew 24576 (by simp) (by simp) (aa rfl))) aj)) (szl rfl)) rfl (fun h=>nomatch h)) ?_
 refine aq (ρ1:=txF cols lists s (g9 s)) (σ1:=σ') (ak (aa rfl) rfl fun _=>rfl) ?_
 refine aq (jv (aG W.H W.B.range (ah aB aj) aW) rfl (by rfl) hF) ?_
 have t5:=tl 5
 exact aV (eV (ap (aa ht) (di (dA (ku ends) (szl rfl)) (cO 4 (by decide) (ew 49152 (by simp) (by simp) (aa hs))) he (by grind -abstractProof)) (dX (by rw [List.length_append];lia -abstractProof)))) rfl
end
end
section
theorem i8 (stop:Nat->Bool):∀ (n:Nat) (x:List Nat) (line:Int) (t:List Nat),x.length<=n->(bK stop x line t).2.1.length<=x.length
 | 0,[],line,t,_=>Nat.le_refl _
 | n+1,[],line,t,_=>Nat.le_refl _
 | n+1,c::r,line,t,hn=>by
   rw [dr]
   cases stop c with
   | true=>dsimp only [cond_true,List.length_cons];simp
   | false =>
     simp only [cond_false]
     cases Nat.beq c 92 with
     | true =>
       simp only [cond_true]
       cases r with
       | nil=>simp
       | cons d r' =>
         have:=i8 stop n r' (line+nlc c+nlc d) (t++[d]) (by simp at hn;exact Nat.le_of_succ_le hn)
         simp only [List.length_cons];lia -abstractProof
     | false =>
       have:=i8 stop n r (line+nlc c) (t++[c]) (by simp at hn;omega)
       simp only [cond_false,List.length_cons];exact Nat.le_add_right_of_le this
theorem Ab:∀ (x:List Nat) (line:Int),(tok x line).2.1.length<=x.length:=by
 intro x
 induction x with
 | nil =>
   intro line
   exact Nat.le_refl _
 | cons c r ih =>
   intro line
   rw [ei]
   cases isW c with
   | true=>dsimp only [cond_true,List.length_cons];have:=ih (line+nlc c);exact Nat.le_add_right_of_le this
   | false =>
     simp only [cond_false]
     cases isQ c with
     | true=>simp only [cond_true,List.length_cons];have:=i8 isQ _ r (line+nlc c) [] (Nat.le_refl _);exact Nat.le_add_right_of_le this
     | false =>
       simp only [cond_false]
       cases Nat.beq c 92 with
       | true =>
         simp only [cond_true]
         cases r with
         | nil=>simp
         | cons d r'=>have:=i8 isW _ r' (line+nlc c+nlc d) [d] (Nat.le_refl _);simp only [List.length_cons];lia -abstractProof
       | false=>simp only [cond_false,List.length_cons];have:=i8 isW _ r (line+nlc c) [c] (Nat.le_refl _);exact Nat.le_add_right_of_le this
theorem Tk.len {x w z:List Nat} (h:Tk x w z):z.length<=x.length:=by
 have:=Ab x 0
 rw [(h.fst 0).2] at this
 exact this
inductive NTok:Nat->List Nat->List Nat->List Nat->List Nat->Prop
 | out {t x}:NTok 0 t x t x
 | stay {n t x t' z} (h:t.drop (t.length - 1)≠[44]) (r:NTok n t x t' z):NTok (n+1) t x t' z
 | more {n t x w z1 t' z} (h:t.drop (t.length - 1)=[44]) (k:Tk x w z1) (hz:(t++[32]++w).length<=100000) (r:NTok n (t++[32]++w) z1 t' z):NTok (n+1) t x t' z
theorem NTok.done {t x:List Nat} (h:t.drop (t.length - 1)≠[44]):∀ n,NTok n t x t x
 | 0=>.out
 | n+1=>.stay h (NTok.done h n)
theorem wd (a:List Nat) (c:Nat):(a++[c]).drop ((a++[c]).length - 1)=[c]:=by simp
noncomputable def lH (w:List Nat):Prop:=tI w/\44∉w/\w.length<=100
theorem mZ {a:List Nat} (h:lH a) (pre:List Nat):(pre++a).drop ((pre++a).length - 1)≠[44]:=by
 intro e
 have hne:a≠[]:=h.1.1
 have:(44:Nat)∈a:=by
  have h1:(pre++a).drop ((pre++a).length - 1)=a.drop (a.length - 1):=by
   have:0<a.length:=List.length_pos_iff.mpr hne
   rw [List.drop_append,List.length_append,List.drop_eq_nil_of_le (by rw [Nat.add_sub_assoc this];exact Nat.le_add_right _ _)]
   rw [List.nil_append];congr 1;rw [Nat.add_sub_assoc this,Nat.add_sub_cancel_left]
  rw [h1] at e
  exact List.mem_of_mem_drop (by rw [e];exact .head _)
 exact h.2.1 this
theorem gS (sep x y:List Nat) (r:List (List Nat)):bH sep (x::y::r)=x++sep++bH sep (y::r):=rfl
theorem mz {g:Nat} (hg:isW g=true) (z:List Nat):∀ (r:List (List Nat)) (a pre:List Nat) (n:Nat),r.length<=n->(∀ w∈a::r,lH w)->pre.length+102*(r.length+1)<=100000 ->
 ∃ w z1,Tk (bH [44,32] (a::r)++g::z) w z1/\w.length<=101/\NTok n (pre++w) z1 (pre++bH [44,32] (a::r)) z
 | [],a,pre,n,_,h,hz=>⟨a,z,Tk.plain (h a (.head _)).1 hg,by have:=(h a (.head _)).2.2;exact Nat.le_succ_of_le this,NTok.done (mZ (h a (.head _)) pre) n⟩
 | b::r,a,pre,0,hn,h,hz=>by contradiction
 | b::r,a,pre,n+1,hn,h,hz=>by
   have ha:=h a (.head _)
   have hp:tI (a++[44]):=⟨by exact List.concat_ne_nil 44 a,fun c hc=>by
    rcases List.mem_append.mp hc with hc | hc
    ·exact ha.1.2 c hc
    ·simp at hc;subst hc;exact ⟨rfl,by decide,by decide⟩⟩
   have e:bH [44,32] (a::b::r)++g::z=(a++[44])++32::(bH [44,32] (b::r)++g::z):=by simp only [gS];simp
   have hal:=ha.2.2
   obtain ⟨w,z1,h1,h2,h3⟩:=mz hg z r b (pre++(a++[44])++[32]) n (by exact Nat.le_of_lt_succ hn) (fun w hw=>h w (.tail _ hw)) (by simp at hz ⊢;lia -abstractProof)
   refine ⟨a++[44],bH [44,32] (b::r)++g::z,by rw [e];exact Tk.plain hp rfl,by simp;omega,.more (by rw [<-List.append_assoc];exact wd _ _) h1 ?_ ?_⟩
   ·simp at hz ⊢;lia -abstractProof
   ·have e2:pre++bH [44,32] (a::b::r)=pre++(a++[44])++[32]++bH [44,32] (b::r):=by simp only [gS];simp
    rw [e2]
    exact h3
end
section
open PySem PyProof.Rows
set_option maxRecDepth 100000
section
variable {C:Cx} {k:Nat} {p:Pl3} {τ:Sto}
noncomputable abbrev nmB:List St:=[.ifs (.cmp (.slice (.var aN) [some (.neg (.cInt 1)),none,none]) [.Eq] [(.cStr [44])]) [.assign [aN] false (.bin .Add (.bin .Add (.var aN) (.cStr [32])) (.meth (.var aA) bc []))] []]
noncomputable def NmI (p:Pl3) (τ:Sto) (N:Int) (t' z:List Nat) (vs:List V) (ρ:Loc) (σ:Sto):Prop :=
 ∃ (j:Nat) (t x:List Nat),j<=3/\vs=aZ (j:Int) (3 - j)/\NTok (3 - j) t x t' z/\x.length<800000/\σ=p.put τ (lsN N x [])/\(ρ=[(aA,.loc p.lx),(aN,.str t)]\/∃ u,ρ=[(aA,.loc p.lx),(aN,.str t),(ci,u)])
noncomputable def NmE (p:Pl3) (τ:Sto) (N:Int) (t' z:List Nat) (f:Fl) (ρ:Loc) (σ:Sto):Prop:=f=.next/\get ρ aN=some (.str t')/\σ=p.put τ (lsN N z [])
theorem ka (L:Lex C) (h:p.Ok τ) {ρ:Loc} {o:Ex} {N:Int} {x w z:List Nat} (ho:EvE C (k+4) o ρ (p.put τ (lsN N x [])) (.loc p.lx) (p.put τ (lsN N x []))) (hx:x.length<800000) (ht:Tk x w z):EvE C (k+4) (.meth o bc []) ρ (p.put τ (lsN N x [])) (.str w) (p.put τ (lsN N z [])):=by
 have:=tC (C:=C) (k:=k) L h ho hx (by show [].length<1000;simp)
 rw [ht.ls] at this
 exact this
theorem AK (L:Lex C) (B:Bi C) (d:DefAt C db iV T_law_names) (h:p.Ok τ) {N:Int} {x w z1 t' z:List Nat} (hx:x.length<800000) (h1:Tk x w z1) (h2:NTok 3 w z1 t' z) :
 Calls C (k+5) db [.loc p.lx] (p.put τ (lsN N x [])) (.str t') (p.put τ (lsN N z [])):=by
 obtain ⟨f,ρ',σ',hF,rfl,ht,rfl⟩:=gL (C:=C) (k:=k+4) (xs:=[ci]) (body:=nmB) (orelse:=[]) (NmI p τ N t' z) (NmE p τ N t' z) (fun v vs ρ σ hI=>by
  obtain ⟨j,t,y,hj,hv,hn,hy,rfl,hρ⟩:=hI
  have hj':j<3:=by
   rcases Nat.lt_or_ge j 3 with h | h
   ·exact h
   ·rw [show 3 - j=0 from by exact Nat.sub_eq_zero_of_le h] at hv;cases hv
  rw [eo (show j<3 by assumption)] at hv hn
  rw [bz] at hv
  cases hv
  have hb:bI ρ [ci] (.int j)=some [(aA,.loc p.lx),(aN,.str t),(ci,.int j)]:=by rcases hρ with rfl | ⟨u,rfl⟩<;>rfl
  have T:∀ σ,EvT C (k+4) (.cmp (.slice (.var aN) [some (.neg (.cInt 1)),none,none]) [.Eq] [(.cStr [44])]) [(aA,.loc p.lx),(aN,.str t),(ci,.int j)] σ (t.drop (t.length - 1)==[44]) σ:=fun σ =>
   aJ (iP (il:=some (-1)) (ih:=none) (is:=none) (aa rfl) (x9 aB tT:EvE C (k+4) (.neg (.cInt 1)) _ _ _ _) trivial trivial k9 PySem.F.slot_str_getitem.lookup tv) bE jF aH
  cases hn with
  | stay hne hr =>
    exact ⟨_,.next,_,_,hb,aq (cp (T _) (fun q=>absurd (beq_iff_eq.mp q) hne) fun _=>aF) aF,j+1,t,y,hj',by rfl,hr,hy,rfl,.inr ⟨_,rfl⟩⟩
  | more he hk hz hr =>
    rename_i w' z1'
    have hzl:=hk.len
    have E:=ka (C:=C) (k:=k) (p:=p) (τ:=τ) (ρ:=[(aA,.loc p.lx),(aN,.str t),(ci,.int j)]) (N:=N) L h (aa (x:=aA) rfl) hy hk
    refine ⟨_,.next,[(aA,.loc p.lx),(aN,.str (t++[32]++w')),(ci,.int j)],p.put τ (lsN N z1' []),hb,aq (cp (T _) (fun q=>aq (ak (ap (ap (aa rfl) bE (dX ?_)) E (dX ?_)) rfl fun _=>rfl) aF) (fun q=>absurd he (by simpa using q))) aF,j+1,_,_,hj',by rfl,hr,by exact Nat.lt_of_le_of_lt hzl hy,rfl,.inr ⟨_,rfl⟩⟩
    ·simp at hz ⊢;lia -abstractProof
    ·lia -abstractProof)
  (fun ρ σ hI=>by
    obtain ⟨j,t,y,hj,hv,hn,hy,rfl,hρ⟩:=hI
    have hj':j=3:=by
     rcases Nat.lt_or_ge j 3 with h | h
     ·rw [eo (show j<3 by assumption),bz] at hv;cases hv
     ·exact Eq.symm (Nat.le_antisymm h hj)
    subst hj'
    cases hn
    refine ⟨.next,ρ,_,aF,rfl,?_,rfl⟩
    rcases hρ with rfl | ⟨u,rfl⟩<;>rfl)
  (aZ 0 3) [(aA,.loc p.lx),(aN,.str w)] (p.put τ (lsN N z1 [])) ⟨0,w,z1,by simp,rfl,h2,by have:=h1.len;exact Nat.lt_of_le_of_lt this hx,rfl,.inl rfl⟩
 refine d.calls (ρ':=ρ') (f:=.ret (.str t')) L.G.H ?_ rfl rfl
 unfold T_law_names
 refine aq (ρ1:=[(aA,.loc p.lx),(aN,.str w)]) (σ1:=p.put τ (lsN N z1 [])) (ak (ka L h (aa rfl) hx h1) rfl fun _=>rfl) ?_
 refine aq (jv (aG L.G.H B.range (ah aB aj) aW) rfl (by rfl) hF) ?_
 exact aV (eV (aa ht)) rfl
end
end
section
open PySem PyProof.Rows
set_option maxRecDepth 100000
noncomputable def ExE (C:Cx) (k:Nat) (ts:List St) (ρ:Loc) (σ:Sto) (f:Fl) (σ':Sto):Prop:=∃ ρ',ExL C k ts ρ σ f ρ' σ'
section
variable {C:Cx} {k:Nat} {ρ ρ1:Loc} {σ σ1 σ2:Sto}
theorem DefAt.callsE {x:Nm} {ps:List Nm} {T:List St} (H:COk C) (d:DefAt C x ps T) {vs:List V} {v:V} (hx:ExE C k T (bD [] ps vs) σ (.ret v) σ1) (hl:vs.length=ps.length):Calls C (k+1) x vs σ v σ1:=let ⟨ρ',h⟩:=hx;d.calls H h hl rfl
theorem aw {t:St} {ts:List St} {f:Fl} (h1:ExS C k t ρ σ .next ρ1 σ1) (h2:ExE C k ts ρ1 σ1 f σ2):ExE C k (t::ts) ρ σ f σ2:=let ⟨ρ',h⟩:=h2;⟨ρ',aq h1 h⟩
theorem cE {e:Ex} {ts:List St} {v:V} (h1:EvE C k e ρ σ v σ1):ExE C k (.ret e::ts) ρ σ (.ret v) σ1:=⟨_,aV (eV h1) rfl⟩
theorem dT {t:Ex} {a:List St} {ts:List St} {f:Fl} (ht:EvT C k t ρ σ true σ) (h:ExE C k a ρ σ f σ2) (hf:jN f=true):ExE C k (.ifs t a []::ts) ρ σ f σ2:=let ⟨ρ',h⟩:=h;⟨ρ',aV (cp ht (fun _=>h) fun q=>by cases q) hf⟩
theorem bS {t:Ex} {a:List St} {ts:List St} {f:Fl} (ht:EvT C k t ρ σ false σ) (h:ExE C k ts ρ σ f σ2):ExE C k (.ifs t a []::ts) ρ σ f σ2:=aw (cp ht (fun q=>by cases q) fun _=>aF) h
end
section
variable {C:Cx} {k:Nat} {ρ ρ1:Loc} {σ σ1 σ2:Sto}
noncomputable abbrev feq (x y:UInt64):Bool:=Float64.cmp x y==some .eq
noncomputable abbrev lW (x y:UInt64):Bool:=Float64.cmp x y==some .lt
noncomputable abbrev F1:UInt64:=4607182418800017408
noncomputable abbrev F2:UInt64:=4611686018427387904
noncomputable abbrev F4:UInt64:=4616189618054758400
noncomputable abbrev F6:UInt64:=4618441417868443648
noncomputable abbrev Fh:UInt64:=4602678819172646912
noncomputable abbrev F13:UInt64:=4599676419421066581
noncomputable abbrev F16:UInt64:=4595172819793696085
noncomputable abbrev F23:UInt64:=4604180019048437077
noncomputable def mxF (r g b:UInt64):UInt64:=sN (sN r g) b
noncomputable def mnF (r g b:UInt64):UInt64:=sr (sr r g) b
noncomputable def fN (a r rg:UInt64):UInt64:=Float64.div (Float64.sub a r) rg
noncomputable def wD (r g b mx rg:UInt64):UInt64 :=
 bif feq r mx then Float64.sub (fN mx b rg) (fN mx g rg) else bif feq g mx then Float64.sub (Float64.add F2 (fN mx r rg)) (fN mx b rg) else Float64.sub (Float64.add F4 (fN mx g rg)) (fN mx r rg)
noncomputable def dI (x:UInt64):UInt64:=(Float64.divmod x F1).2
noncomputable def vW (r g b mx rg:UInt64):UInt64:=dI (Float64.div (wD r g b mx rg) F6)
structure oZ (C:Cx):Prop where
 H:COk C
 B:Bi C
 third:C.glob gQ=some (.flt F13)
 sixth:C.glob gP=some (.flt F16)
 two:C.glob fq=some (.flt F23)
 v:DefAt C wo P_v T_v
 hsv:DefAt C f7 kj T_rgb_to_hsv
 hls:DefAt C fP kC T_rgb_to_hls
 rgbv:DefAt C fS kN T_hsv_to_rgb
 rgbl:DefAt C fQ j8 T_hls_to_rgb
theorem z1:Float64.isZero F1=false:=by decide +kernel
theorem z2:Float64.isZero F2=false:=by decide +kernel
theorem z6:Float64.isZero F6=false:=by decide +kernel
theorem yh {r g b mx rg:UInt64} (hr:get ρ n_r=some (.flt r)) (hg:get ρ n_g=some (.flt g)) (hm:get ρ cg=some (.flt mx)) (h1:get ρ nI=some (.flt (fN mx r rg))) (h2:get ρ nP=some (.flt (fN mx g rg))) (h3:get ρ nF=some (.flt (fN mx b rg))) :
 ExS C k (.ifs (.cmp (.var n_r) [.Eq] [(.var cg)]) [.assign [n_h] false (.bin .Sub (.var nF) (.var nP))] [.ifs (.cmp (.var n_g) [.Eq] [(.var cg)]) [.assign [n_h] false (.bin .Sub (.bin .Add (.cFlt 4611686018427387904) (.var nI)) (.var nF))] [.assign [n_h] false (.bin .Sub (.bin .Add (.cFlt 4616189618054758400) (.var nP)) (.var nI))]])
  ρ σ .next (put ρ n_h (.flt (wD r g b mx rg))) σ:=by
 refine cp (c:=feq r mx) (aJ (aa hr) (aa hm) kY aH) (fun h=>?_) (fun h=>?_)
 ·rw [wD,h]
  simp only [cond_true]
  exact aq (ak (ap (aa h3) (aa h2) bL) rfl fun _=>rfl) aF
 ·rw [wD,h]
  simp only [cond_false]
  refine aq (cp (c:=feq g mx) (aJ (aa hg) (aa hm) kY aH) (fun h=>?_) (fun h=>?_)) aF
  ·rw [h]
   simp only [cond_true]
   exact aq (ak (ap (ap cK (aa h1) ge) (aa h3) bL) rfl fun _=>rfl) aF
  ·rw [h]
   simp only [cond_false]
   exact aq (ak (ap (ap cK (aa h2) ge) (aa h1) bL) rfl fun _=>rfl) aF
theorem uX {r g b mx rg:UInt64} (hh:get ρ n_h=some (.flt (wD r g b mx rg))):ExS C k (.assign [n_h] false (.bin .Mod (.bin .Div (.var n_h) (.cFlt 4618441417868443648)) (.cFlt 4607182418800017408))) ρ σ .next (put ρ n_h (.flt (vW r g b mx rg))) σ :=
 ak (EvE.eq (v':=.flt (vW r g b mx rg)) (ap (ap (aa hh) cK (eM z6)) cK (uq z1)) (congrArg V.flt (by rfl))) rfl fun _=>rfl
theorem vI (K:oZ C) {r g b:UInt64} (h:feq (mnF r g b) (mxF r g b)=false) (hm:Float64.isZero (mxF r g b)=false) (hr:Float64.isZero (Float64.sub (mxF r g b) (mnF r g b))=false) :
 Calls C (k+1) f7 [.flt r,.flt g,.flt b] σ (.tup [.flt (vW r g b (mxF r g b) (Float64.sub (mxF r g b) (mnF r g b))),.flt (Float64.div (Float64.sub (mxF r g b) (mnF r g b)) (mxF r g b)),.flt (mxF r g b)]) σ:=by
 have H:=K.H;have B:=K.B
 refine K.hsv.callsE K.H ?_ rfl
 unfold T_rgb_to_hsv
 refine aw (ak (aG H B.max (ah (aa rfl) (ah (aa rfl) (ah (aa rfl) aj))) uv) rfl fun _=>rfl) ?_
 refine aw (ak (aG H B.min (ah (aa rfl) (ah (aa rfl) (ah (aa rfl) aj))) uR) rfl fun _=>rfl) ?_
 refine aw (ak (ap (aa rfl) (aa rfl) bL) rfl fun _=>rfl) ?_
 refine aw (ak (aa rfl) rfl fun _=>rfl) ?_
 refine bS (by rw [<-h];exact aJ (aa rfl) (aa rfl) kY aH) ?_
 refine aw (ak (ap (aa rfl) (aa rfl) (eM hm)) rfl fun _=>rfl) ?_
 refine aw (ak (ap (ap (aa rfl) (aa rfl) bL) (aa rfl) (eM hr)) rfl fun _=>rfl) ?_
 refine aw (ak (ap (ap (aa rfl) (aa rfl) bL) (aa rfl) (eM hr)) rfl fun _=>rfl) ?_
 refine aw (ak (ap (ap (aa rfl) (aa rfl) bL) (aa rfl) (eM hr)) rfl fun _=>rfl) ?_
 show ExE C k _ [(n_r,.flt (r)),(n_g,.flt (g)),(n_b,.flt (b)),(cg,.flt (mxF r g b)),(gE,.flt (mnF r g b)),(cP,.flt (Float64.sub (mxF r g b) (mnF r g b))),(n_v,.flt (mxF r g b)),(n_s,.flt (Float64.div (Float64.sub (mxF r g b) (mnF r g b)) (mxF r g b))),(nI,.flt (fN (mxF r g b) r (Float64.sub (mxF r g b) (mnF r g b)))),(nP,.flt (fN (mxF r g b) g (Float64.sub (mxF r g b) (mnF r g b)))),(nF,.flt (fN (mxF r g b) b (Float64.sub (mxF r g b) (mnF r g b))))] σ _ σ
 refine aw (yh (r:=r) (g:=g) (b:=b) (mx:=mxF r g b) (rg:=Float64.sub (mxF r g b) (mnF r g b)) rfl rfl rfl rfl rfl rfl) ?_
 refine aw (uX (r:=r) (g:=g) (b:=b) (mx:=mxF r g b) (rg:=Float64.sub (mxF r g b) (mnF r g b)) rfl) ?_
 exact cE (gT (ah (aa rfl) (ah (aa rfl) (ah (aa rfl) aj))) (szl rfl))
noncomputable def iu (r g b:UInt64):UInt64:=Float64.div (Float64.add (mxF r g b) (mnF r g b)) F2
noncomputable def jw (r g b:UInt64):UInt64:=bif fle (iu r g b) Fh then Float64.div (Float64.sub (mxF r g b) (mnF r g b)) (Float64.add (mxF r g b) (mnF r g b)) else Float64.div (Float64.sub (mxF r g b) (mnF r g b)) (Float64.sub (Float64.sub F2 (mxF r g b)) (mnF r g b))
theorem wE (K:oZ C) {r g b:UInt64} (h:feq (mnF r g b) (mxF r g b)=false) (hs:fle (iu r g b) Fh=true->Float64.isZero (Float64.add (mxF r g b) (mnF r g b))=false) (hs2:fle (iu r g b) Fh=false->Float64.isZero (Float64.sub (Float64.sub F2 (mxF r g b)) (mnF r g b))=false)
 (hr:Float64.isZero (Float64.sub (mxF r g b) (mnF r g b))=false) :
 Calls C (k+1) fP [.flt r,.flt g,.flt b] σ (.tup [.flt (vW r g b (mxF r g b) (Float64.sub (mxF r g b) (mnF r g b))),.flt (iu r g b),.flt (jw r g b)]) σ:=by
 have H:=K.H;have B:=K.B
 have z2:=z2
 refine K.hls.callsE K.H ?_ rfl
 unfold T_rgb_to_hls
 refine aw (ak (aG H B.max (ah (aa rfl) (ah (aa rfl) (ah (aa rfl) aj))) uv) rfl fun _=>rfl) ?_
 refine aw (ak (aG H B.min (ah (aa rfl) (ah (aa rfl) (ah (aa rfl) aj))) uR) rfl fun _=>rfl) ?_
 refine aw (ak (ap (aa rfl) (aa rfl) ge) rfl fun _=>rfl) ?_
 refine aw (ak (ap (aa rfl) (aa rfl) bL) rfl fun _=>rfl) ?_
 refine aw (ak (ap (aa rfl) cK (eM z2)) rfl fun _=>rfl) ?_
 refine bS (by rw [<-h];exact aJ (aa rfl) (aa rfl) kY aH) ?_
 refine aw (ρ1:=[(n_r,.flt r),(n_g,.flt g),(n_b,.flt b),(cg,.flt (mxF r g b)),(gE,.flt (mnF r g b)),(nc,.flt (Float64.add (mxF r g b) (mnF r g b))),(cP,.flt (Float64.sub (mxF r g b) (mnF r g b))),(n_l,.flt (iu r g b)),(n_s,.flt (jw r g b))]) (σ1:=σ)
  (cp (c:=fle (iu r g b) Fh) (aJ (aa rfl) cK wY aH) (fun h=>?_) (fun h=>?_)) ?_
 ·rw [jw,h]
  simp only [cond_true]
  exact aq (ak (ap (aa rfl) (aa rfl) (eM (hs h))) rfl fun _=>rfl) aF
 ·rw [jw,h]
  simp only [cond_false]
  exact aq (ak (ap (aa rfl) (ap (ap cK (aa rfl) bL) (aa rfl) bL) (eM (hs2 h))) rfl fun _=>rfl) aF
 refine aw (ak (ap (ap (aa rfl) (aa rfl) bL) (aa rfl) (eM hr)) rfl fun _=>rfl) ?_
 refine aw (ak (ap (ap (aa rfl) (aa rfl) bL) (aa rfl) (eM hr)) rfl fun _=>rfl) ?_
 refine aw (ak (ap (ap (aa rfl) (aa rfl) bL) (aa rfl) (eM hr)) rfl fun _=>rfl) ?_
 show ExE C k _ [(n_r,.flt (r)),(n_g,.flt (g)),(n_b,.flt (b)),(cg,.flt (mxF r g b)),(gE,.flt (mnF r g b)),(nc,.flt (Float64.add (mxF r g b) (mnF r g b))),(cP,.flt (Float64.sub (mxF r g b) (mnF r g b))),(n_l,.flt (iu r g b)),(n_s,.flt (jw r g b)),(nI,.flt (fN (mxF r g b) r (Float64.sub (mxF r g b) (mnF r g b)))),(nP,.flt (fN (mxF r g b) g (Float64.sub (mxF r g b) (mnF r g b)))),(nF,.flt (fN (mxF r g b) b (Float64.sub (mxF r g b) (mnF r g b))))] σ _ σ
 refine aw (yh (r:=r) (g:=g) (b:=b) (mx:=mxF r g b) (rg:=Float64.sub (mxF r g b) (mnF r g b)) rfl rfl rfl rfl rfl rfl) ?_
 refine aw (uX (r:=r) (g:=g) (b:=b) (mx:=mxF r g b) (rg:=Float64.sub (mxF r g b) (mnF r g b)) rfl) ?_
 exact cE (gT (ah (aa rfl) (ah (aa rfl) (ah (aa rfl) aj))) (szl rfl))
noncomputable def vF (m1 m2 hue:UInt64):UInt64 :=
 bif lW (dI hue) F16 then Float64.add m1 (Float64.mul (Float64.mul (Float64.sub m2 m1) (dI hue)) F6) else bif lW (dI hue) Fh then m2 else
 bif lW (dI hue) F23 then Float64.add m1 (Float64.mul (Float64.mul (Float64.sub m2 m1) (Float64.sub F23 (dI hue))) F6) else m1
theorem c_v (K:oZ C) {m1 m2 hue:UInt64}:Calls C (k+1) wo [.flt m1,.flt m2,.flt hue] σ (.flt (vF m1 m2 hue)) σ:=by
 have H:=K.H;have B:=K.B
 refine K.v.callsE K.H ?_ rfl
 delta T_v vF
 refine aw (ρ1:=[(jG,.flt m1),(jk,.flt m2),(bB,.flt (dI hue))]) (σ1:=σ) (ak (ap (aa rfl) cK (uq z1)) rfl fun _=>rfl) ?_
 have T1:EvT C k (.cmp (.var bB) [.Lt] [(.glob gP)]) [(jG,.flt m1),(jk,.flt m2),(bB,.flt (dI hue))] σ (lW (dI hue) F16) σ:=aJ (aa rfl) (eS H K.sixth) sx aH
 have T2:EvT C k (.cmp (.var bB) [.Lt] [(.cFlt 4602678819172646912)]) [(jG,.flt m1),(jk,.flt m2),(bB,.flt (dI hue))] σ (lW (dI hue) Fh) σ:=aJ (aa rfl) cK sx aH
 have T3:EvT C k (.cmp (.var bB) [.Lt] [(.glob fq)]) [(jG,.flt m1),(jk,.flt m2),(bB,.flt (dI hue))] σ (lW (dI hue) F23) σ:=aJ (aa rfl) (eS H K.two) sx aH
 cases h1:lW (dI hue) F16 with
 | true =>
   rw [h1] at T1
   exact dT T1 (cE (ap (aa rfl) (ap (ap (ap (aa rfl) (aa rfl) bL) (aa rfl) dE) cK dE) ge)) rfl
 | false =>
   rw [h1] at T1
   refine bS T1 ?_
   cases h2:lW (dI hue) Fh with
   | true=>rw [h2] at T2;exact dT T2 (cE (aa rfl)) rfl
   | false =>
     rw [h2] at T2
     refine bS T2 ?_
     cases h3:lW (dI hue) F23 with
     | true =>
       rw [h3] at T3
       exact dT T3 (cE (ap (aa rfl) (ap (ap (ap (aa rfl) (aa rfl) bL) (ap (eS H K.two) (aa rfl) bL) dE) cK dE) ge)) rfl
     | false=>rw [h3] at T3;exact bS T3 (cE (aa rfl))
noncomputable def m2F (l s:UInt64):UInt64:=bif fle l Fh then Float64.mul l (Float64.add F1 s) else Float64.sub (Float64.add l s) (Float64.mul l s)
noncomputable def m1F (l s:UInt64):UInt64:=Float64.sub (Float64.mul F2 l) (m2F l s)
theorem sG (K:oZ C) {h l s:UInt64} (hs:feq s 0=false):Calls C (k+2) fQ [.flt h,.flt l,.flt s] σ
 (.tup [.flt (vF (m1F l s) (m2F l s) (Float64.add h F13)),.flt (vF (m1F l s) (m2F l s) h),.flt (vF (m1F l s) (m2F l s) (Float64.sub h F13))]) σ:=by
 have H:=K.H
 refine K.rgbl.callsE K.H ?_ rfl
 unfold T_hls_to_rgb
 refine bS (by rw [<-hs];exact aJ (aa rfl) cK kY aH) ?_
 refine aw (ρ1:=[(n_h,.flt h),(n_l,.flt l),(n_s,.flt s),(jk,.flt (m2F l s))]) (σ1:=σ) (cp (c:=fle l Fh) (aJ (aa rfl) cK wY aH) (fun h=>?_) (fun h=>?_)) ?_
 ·rw [m2F,h]
  simp only [cond_true]
  exact aq (ak (ap (aa rfl) (ap cK (aa rfl) ge) dE) rfl fun _=>rfl) aF
 ·rw [m2F,h]
  simp only [cond_false]
  exact aq (ak (ap (ap (aa rfl) (aa rfl) ge) (ap (aa rfl) (aa rfl) dE) bL) rfl fun _=>rfl) aF
 refine aw (ρ1:=[(n_h,.flt h),(n_l,.flt l),(n_s,.flt s),(jk,.flt (m2F l s)),(jG,.flt (m1F l s))]) (σ1:=σ) (ak (ap (ap cK (aa rfl) dE) (aa rfl) bL) rfl fun _=>rfl) ?_
 exact cE (gT (ah (a7 H (ah (aa rfl) (ah (aa rfl) (ah (ap (aa rfl) (eS H K.third) ge) aj))) (c_v (k:=k) K)) (ah (a7 H (ah (aa rfl) (ah (aa rfl) (ah (aa rfl) aj))) (c_v (k:=k) K))
  (ah (a7 H (ah (aa rfl) (ah (aa rfl) (ah (ap (aa rfl) (eS H K.third) bL) aj))) (c_v (k:=k) K)) aj))) (szl rfl))
noncomputable def lA (x:UInt64):Int:=match Float64.decode x with
 | .fin s m e=>Float64.truncOf s m e
 | _=>0
theorem qk {x:UInt64} (h:Float64.isFinite x=true):FnOk C k (.type "int") [.flt x] σ (.int (lA x)) σ:=by
 unfold lA
 unfold Float64.isFinite at h
 cases hd:Float64.decode x with
 | fin s m e=>exact Cu hd
 | nan=>rw [hd] at h;cases h
 | inf s=>rw [hd] at h;cases h
noncomputable def dy (h:UInt64):Int:=lA (Float64.mul h F6)
noncomputable def fF (h:UInt64):UInt64:=Float64.sub (Float64.mul h F6) (Float64.ofInt (dy h))
noncomputable def pF (s v:UInt64):UInt64:=Float64.mul v (Float64.sub F1 s)
noncomputable def qF (h s v:UInt64):UInt64:=Float64.mul v (Float64.sub F1 (Float64.mul s (fF h)))
noncomputable def tF (h s v:UInt64):UInt64:=Float64.mul v (Float64.sub F1 (Float64.mul s (Float64.sub F1 (fF h))))
noncomputable def qE (h s v:UInt64):List UInt64 :=
 match (dy h).fmod 6 with
 | 0=>[v,tF h s v,pF s v]
 | 1=>[qF h s v,v,pF s v]
 | 2=>[pF s v,v,tF h s v]
 | 3=>[pF s v,qF h s v,v]
 | 4=>[tF h s v,pF s v,v]
 | 5=>[v,pF s v,qF h s v]
 | _=>[]
theorem sj (K:oZ C) {h s v:UInt64} (hs:feq s 0=false) (hf:Float64.isFinite (Float64.mul h F6)=true) (hi:(dy h).natAbs<2 ^ 1023):Calls C (k+1) fS [.flt h,.flt s,.flt v] σ (.tup ((qE h s v).map .flt)) σ:=by
 have H:=K.H;have B:=K.B
 refine K.rgbv.callsE K.H ?_ rfl
 unfold T_hsv_to_rgb
 refine bS (by rw [<-hs];exact aJ (aa rfl) cK kY aH) ?_
 refine aw (ρ1:=[(n_h,.flt h),(n_s,.flt s),(n_v,.flt v),(n_i,.int (dy h))]) (σ1:=σ) (ak (aG H B.int (ah (ap (aa rfl) cK dE) aj) (qk hf)) rfl fun _=>rfl) ?_
 refine aw (ρ1:=[(n_h,.flt h),(n_s,.flt s),(n_v,.flt v),(n_i,.int (dy h)),(n_f,.flt (fF h))]) (σ1:=σ) (ak (ap (ap (aa rfl) cK dE) (aa rfl) (y6 hi)) rfl fun _=>rfl) ?_
 refine aw (ak (ap (aa rfl) (ap cK (aa rfl) bL) dE) rfl fun _=>rfl) ?_
 refine aw (ak (ap (aa rfl) (ap cK (ap (aa rfl) (aa rfl) dE) bL) dE) rfl fun _=>rfl) ?_
 refine aw (ak (ap (aa rfl) (ap cK (ap (aa rfl) (ap cK (aa rfl) bL) dE) bL) dE) rfl fun _=>rfl) ?_
 refine aw (ρ1:=[(n_h,.flt h),(n_s,.flt s),(n_v,.flt v),(n_i,.int ((dy h).fmod 6)),(n_f,.flt (fF h)),(n_p,.flt (pF s v)),(n_q,.flt (qF h s v)),(n_t,.flt (tF h s v))]) (σ1:=σ) (ak (ap (aa rfl) aB (fV (by decide))) rfl fun _=>rfl) ?_
 have T:∀ j:Int,EvT C k (.cmp (.var n_i) [.Eq] [(.cInt j)]) [(n_h,.flt h),(n_s,.flt s),(n_v,.flt v),(n_i,.int ((dy h).fmod 6)),(n_f,.flt (fF h)),(n_p,.flt (pF s v)),(n_q,.flt (qF h s v)),(n_t,.flt (tF h s v))] σ ((dy h).fmod 6==j) σ:=fun j=>aJ (aa rfl) aB lN aH
 have R:∀ (a b c:Nm) (x y z:UInt64) (ts:List St),get [(n_h,.flt h),(n_s,.flt s),(n_v,.flt v),(n_i,.int ((dy h).fmod 6)),(n_f,.flt (fF h)),(n_p,.flt (pF s v)),(n_q,.flt (qF h s v)),(n_t,.flt (tF h s v))] a=some (.flt x) ->
  get [(n_h,.flt h),(n_s,.flt s),(n_v,.flt v),(n_i,.int ((dy h).fmod 6)),(n_f,.flt (fF h)),(n_p,.flt (pF s v)),(n_q,.flt (qF h s v)),(n_t,.flt (tF h s v))] b=some (.flt y)->get [(n_h,.flt h),(n_s,.flt s),(n_v,.flt v),(n_i,.int ((dy h).fmod 6)),(n_f,.flt (fF h)),(n_p,.flt (pF s v)),(n_q,.flt (qF h s v)),(n_t,.flt (tF h s v))] c=some (.flt z) ->
  ExE C k (.ret (.tup [.var a,.var b,.var c])::ts) [(n_h,.flt h),(n_s,.flt s),(n_v,.flt v),(n_i,.int ((dy h).fmod 6)),(n_f,.flt (fF h)),(n_p,.flt (pF s v)),(n_q,.flt (qF h s v)),(n_t,.flt (tF h s v))] σ (.ret (.tup [.flt x,.flt y,.flt z])) σ:=fun a b c x y z ts h1 h2 h3 =>
  cE (gT (ah (aa h1) (ah (aa h2) (ah (aa h3) aj))) (szl rfl))
 have lo:0<=(dy h).fmod 6:=Int.fmod_nonneg_of_pos _ (by simp)
 have hi6:(dy h).fmod 6<6:=Int.fmod_lt_of_pos _ (by simp)
 unfold qE
 generalize (dy h).fmod 6=m at T R lo hi6
 have:m=0\/m=1\/m=2\/m=3\/m=4\/m=5:=by lia -abstractProof
 rcases this with rfl | rfl | rfl | rfl | rfl | rfl
 ·exact dT (T 0) (R _ _ _ _ _ _ _ rfl rfl rfl) rfl
 ·exact bS (T 0) (dT (T 1) (R _ _ _ _ _ _ _ rfl rfl rfl) rfl)
 ·exact bS (T 0) (bS (T 1) (dT (T 2) (R _ _ _ _ _ _ _ rfl rfl rfl) rfl))
 ·exact bS (T 0) (bS (T 1) (bS (T 2) (dT (T 3) (R _ _ _ _ _ _ _ rfl rfl rfl) rfl)))
 ·exact bS (T 0) (bS (T 1) (bS (T 2) (bS (T 3) (dT (T 4) (R _ _ _ _ _ _ _ rfl rfl rfl) rfl))))
 ·exact bS (T 0) (bS (T 1) (bS (T 2) (bS (T 3) (bS (T 4) (dT (T 5) (R _ _ _ _ _ _ _ rfl rfl rfl) rfl)))))
end
end
section
open PySem PyProof.Rows
set_option maxRecDepth 100000
section
variable {C:Cx} {k:Nat} {ρ ρ1:Loc} {σ σ1 σ2:Sto}
noncomputable abbrev rgF (r g b:UInt64):UInt64:=Float64.sub (mxF r g b) (mnF r g b)
structure BA (r g b h':UInt64) (a0 a1 a2:UInt64):Prop where
 ne:feq (mnF r g b) (mxF r g b)=false
 zm:Float64.isZero (mxF r g b)=false
 zr:Float64.isZero (rgF r g b)=false
 s0:feq (Float64.div (rgF r g b) (mxF r g b)) 0=false
 fin:Float64.isFinite (Float64.mul h' F6)=true
 six:(dy h').natAbs<2 ^ 1023
 out:qE h' (Float64.div (rgF r g b) (mxF r g b)) (mxF r g b)=[a0,a1,a2]
structure BI (r g b h':UInt64) (a0 a1 a2:UInt64):Prop where
 ne:feq (mnF r g b) (mxF r g b)=false
 z1:fle (iu r g b) Fh=true->Float64.isZero (Float64.add (mxF r g b) (mnF r g b))=false
 z2:fle (iu r g b) Fh=false->Float64.isZero (Float64.sub (Float64.sub F2 (mxF r g b)) (mnF r g b))=false
 zr:Float64.isZero (rgF r g b)=false
 s0:feq (jw r g b) 0=false
 out:[vF (m1F (iu r g b) (jw r g b)) (m2F (iu r g b) (jw r g b)) (Float64.add h' F13),vF (m1F (iu r g b) (jw r g b)) (m2F (iu r g b) (jw r g b)) h',vF (m1F (iu r g b) (jw r g b)) (m2F (iu r g b) (jw r g b)) (Float64.sub h' F13)]=[a0,a1,a2]
noncomputable def oH (r g b:UInt64):UInt64:=vW r g b (mxF r g b) (rgF r g b)
noncomputable def gv (n:Int) (l:UInt64):UInt64:=Float64.add (Float64.mul l (Float64.ofInt n)) (Float64.ofInt 1)
noncomputable def jq (n:Int) (l:UInt64):Int:=(lA (gv n l)).fdiv 2
theorem qo (H:COk C) (B:Bi C) {n:Int} {l:UInt64} {e:Ex} (hn:n.natAbs<2 ^ 1023) (hl:EvE C k e ρ σ (.flt l) σ) (hf:Float64.isFinite (gv n l)=true):EvE C k (.bin .FloorDiv (.call (.glob j6) [(.bin .Add (.bin .Mult e (.cInt n)) (.cInt 1))]) (.cInt 2)) ρ σ (.int (jq n l)) σ :=
 ap (aG H B.int (ah (ap (ap hl aB (ry hn)) aB (qN (by decide +kernel))) aj) (qk hf)) aB (jg (by decide) (by decide +kernel))
theorem xz (H:COk C) (B:Bi C) {n:Int} {a0 a1 a2:UInt64} (hn:n.natAbs<2 ^ 1023) (hl:get ρ cb=some (.tup [.flt a0,.flt a1,.flt a2])) (hb:∀ v,fresh (dQ ρ [ax,da]) [da]=true/\∃ ρ1,bI (dQ ρ [ax,da]) [da] v=some ρ1/\get ρ1 da=some v)
 (h0:Float64.isFinite (gv n a0)=true) (h1:Float64.isFinite (gv n a1)=true) (h2:Float64.isFinite (gv n a2)=true) :
 EvE C k (.comp (.bin .FloorDiv (.call (.glob j6) [(.bin .Add (.bin .Mult (.var da) (.cInt n)) (.cInt 1))]) (.cInt 2)) [[da]] [(.var cb)] [[]] [ax,da]) ρ σ (.list (zs [jq n a0,jq n a1,jq n a2])) σ:=by
 refine CompOk.ev (dU (vs:=[.flt a0,.flt a1,.flt a2]) (aa hl) rfl rfl ?_ (by rw [sizeLine_eq];simp [zs]))
 obtain ⟨f0,r0,b0,g0⟩:=hb (.flt a0)
 obtain ⟨f1,r1,b1,g1⟩:=hb (.flt a1)
 obtain ⟨f2,r2,b2,g2⟩:=hb (.flt a2)
 exact .emit b0 f0 ⟨rfl,rfl⟩ (qo H B hn (aa g0) h0) (.emit b1 f1 ⟨rfl,rfl⟩ (qo H B hn (aa g1) h1) (.emit b2 f2 ⟨rfl,rfl⟩ (qo H B hn (aa g2) h2) .nil))
theorem yl {a b c:Nat} {n:Nat} (hn:n≠0) (ha:a<2 ^ 1000) (hb:b<2 ^ 1000) (hc:c<2 ^ 1000) (hp:get ρ cR=some (.list (zN [a,b,c]))) (hb':∀ v,fresh (dQ ρ [ax,cI]) [cI]=true/\∃ ρ1,bI (dQ ρ [ax,cI]) [cI] v=some ρ1/\get ρ1 cI=some v) :
 EvE C k (.comp (.bin .Div (.var cI) (.cInt (n:Int))) [[cI]] [(.var cR)] [[]] [ax,cI]) ρ σ (.list [.flt (ft a n),.flt (ft b n),.flt (ft c n)]) σ:=by
 refine CompOk.ev (dU (vs:=zN [a,b,c]) (aa hp) rfl rfl ?_ (szl rfl))
 obtain ⟨f0,r0,b0,g0⟩:=hb' (.int (a:Int))
 obtain ⟨f1,r1,b1,g1⟩:=hb' (.int (b:Int))
 obtain ⟨f2,r2,b2,g2⟩:=hb' (.int (c:Int))
 have big:∀ m:Nat,m<2 ^ 1000->(m:Int).natAbs<2 ^ 1023:=fun m h=>by
  rw [Int.natAbs_natCast]
  exact Nat.lt_trans h (Nat.pow_lt_pow_right (by decide) (by decide))
 exact .emit b0 f0 ⟨rfl,rfl⟩ (ap (aa g0) aB (mA (by lia -abstractProof) (big a ha))) (.emit b1 f1 ⟨rfl,rfl⟩ (ap (aa g1) aB (mA (by lia -abstractProof) (big b hb))) (.emit b2 f2 ⟨rfl,rfl⟩ (ap (aa g2) aB (mA (by lia -abstractProof) (big c hc))) .nil))
noncomputable abbrev q18 (a:Nat):UInt64:=ft (a:Int) ((262144:Nat):Int)
structure BY (deep:Nat) (a b c:Nat) (hue:UInt64) (x y z:Nat):Prop where
 ha:a<262144
 hb:b<262144
 hc:c<262144
 hueE:hue=oH (q18 a) (q18 b) (q18 c)
 turn:∃ a0 a1 a2,(deep=0->BA (q18 a) (q18 b) (q18 c) (Float64.add hue (ft 1 3)) a0 a1 a2)/\(deep≠0->BI (q18 a) (q18 b) (q18 c) (Float64.sub hue (ft 2 3)) a0 a1 a2) /\
  Float64.isFinite (gv 524288 a0)=true/\Float64.isFinite (gv 524288 a1)=true/\Float64.isFinite (gv 524288 a2)=true/\jq 524288 a0=x/\jq 524288 a1=y/\jq 524288 a2=z
theorem xM (K:oZ C) (d:DefAt C dm fU T_law_looked) {deep a b c:Nat} {hue:UInt64} {x y z:Nat} (L:BY deep a b c hue x y z) :
 Calls C (k+3) dm [.list (zN [a,b,c]),.int (deep:Int)] σ (.tup [.flt hue,.list (zN [x,y,z])]) σ:=by
 have H:=K.H;have B:=K.B
 obtain ⟨a0,a1,a2,h0,h1,f0,f1,f2,e0,e1,e2⟩:=L.turn
 have big:∀ m:Nat,m<262144->m<2 ^ 1000:=fun m h=>Nat.lt_of_lt_of_le h (Nat.le_trans (by decide:262144<=2 ^ 18) (Nat.pow_le_pow_right (by decide) (by decide)))
 refine d.callsE H ?_ rfl
 unfold T_law_looked
 refine aw (ρ1:=[(cR,.list (zN [a,b,c])),(ce,.int (deep:Int)),(j0,.flt (q18 a)),(f9,.flt (q18 b)),(ix,.flt (q18 c))]) (σ1:=σ)
  (ak (yl (n:=262144) (by decide) (big a L.ha) (big b L.hb) (big c L.hc) rfl (fun v=>⟨rfl,_,rfl,rfl⟩)) rfl (fun h=>nomatch h)) ?_
 have T:EvT C (k+2) (.var ce) [(cR,.list (zN [a,b,c])),(ce,.int (deep:Int)),(j0,.flt (q18 a)),(f9,.flt (q18 b)),(ix,.flt (q18 c))] σ (decide (deep≠0)) σ:=kh rfl (aa rfl)
 have fin:∀ ρ2,get ρ2 bB=some (.flt hue)->get ρ2 cb=some (.tup [.flt a0,.flt a1,.flt a2])->(∀ v,fresh (dQ ρ2 [ax,da]) [da]=true/\∃ ρ1,bI (dQ ρ2 [ax,da]) [da] v=some ρ1/\get ρ1 da=some v) ->
  ExE C (k+2) [.ret (.tup [(.var bB),(.comp (.bin .FloorDiv (.call (.glob j6) [(.bin .Add (.bin .Mult (.var da) (.cInt 524288)) (.cInt 1))]) (.cInt 2)) [[da]] [(.var cb)] [[]] [ax,da])])] ρ2 σ (.ret (.tup [.flt hue,.list (zN [x,y,z])])) σ:=fun ρ2 g1 g2 g3=>by
  have E:=xz (C:=C) (k:=k+2) (σ:=σ) H B (n:=524288) (by decide +kernel) g2 g3 f0 f1 f2
  rw [e0,e1,e2] at E
  exact cE (gT (ah (aa g1) (ah E aj)) (szl rfl))
 by_cases hd:deep=0
 ·have t0:=h0 hd
  rw [show decide (deep≠0)=false from by simp [hd]] at T
  refine aw (ρ1:=[(cR,.list (zN [a,b,c])),(ce,.int (deep:Int)),(j0,.flt (q18 a)),(f9,.flt (q18 b)),(ix,.flt (q18 c)),(bB,.flt hue),(gH,.flt (Float64.div (rgF (q18 a) (q18 b) (q18 c)) (mxF (q18 a) (q18 b) (q18 c)))),(mf,.flt (mxF (q18 a) (q18 b) (q18 c))),(cb,.tup [.flt a0,.flt a1,.flt a2])]) (σ1:=σ)
   (cp T (fun q=>by cases q) fun _=>?_) (fin _ rfl rfl fun v=>⟨rfl,_,rfl,rfl⟩)
  have P1:=vI (C:=C) (k:=k+1) (σ:=σ) K t0.ne t0.zm t0.zr
  have P2:=sj (C:=C) (k:=k+1) (σ:=σ) (v:=mxF (q18 a) (q18 b) (q18 c)) K t0.s0 t0.fin t0.six
  rw [t0.out] at P2
  refine aq (ρ1:=[(cR,.list (zN [a,b,c])),(ce,.int (deep:Int)),(j0,.flt (q18 a)),(f9,.flt (q18 b)),(ix,.flt (q18 c)),(bB,.flt hue),(gH,.flt (Float64.div (rgF (q18 a) (q18 b) (q18 c)) (mxF (q18 a) (q18 b) (q18 c)))),(mf,.flt (mxF (q18 a) (q18 b) (q18 c)))]) (σ1:=σ)
   (ak (a7 H (ah (aa rfl) (ah (aa rfl) (ah (aa rfl) aj))) P1) (by rw [L.hueE];rfl) (fun h=>nomatch h)) ?_
  exact aq (ak (a7 H (ah (ap (aa rfl) (ap aB aB (mA (by decide) (by decide +kernel))) ge) (ah (aa rfl) (ah (aa rfl) aj))) P2) rfl fun _=>rfl) aF
 ·have t1:=h1 hd
  rw [show decide (deep≠0)=true from by simp [hd]] at T
  refine aw (ρ1:=[(cR,.list (zN [a,b,c])),(ce,.int (deep:Int)),(j0,.flt (q18 a)),(f9,.flt (q18 b)),(ix,.flt (q18 c)),(bB,.flt hue),(ms,.flt (iu (q18 a) (q18 b) (q18 c))),(gH,.flt (jw (q18 a) (q18 b) (q18 c))),(cb,.tup [.flt a0,.flt a1,.flt a2])]) (σ1:=σ)
   (cp T (fun _=>?_) (fun q=>by cases q)) (fin _ rfl rfl fun v=>⟨rfl,_,rfl,rfl⟩)
  have P1:=wE (C:=C) (k:=k+1) (σ:=σ) K t1.ne t1.z1 t1.z2 t1.zr
  have P2:=sG (C:=C) (k:=k) (σ:=σ) K (h:=Float64.sub hue (ft 2 3)) (l:=iu (q18 a) (q18 b) (q18 c)) t1.s0
  have e:=t1.out
  simp only [List.cons.injEq,and_true] at e
  rw [e.1,e.2.1,e.2.2] at P2
  refine aq (ρ1:=[(cR,.list (zN [a,b,c])),(ce,.int (deep:Int)),(j0,.flt (q18 a)),(f9,.flt (q18 b)),(ix,.flt (q18 c)),(bB,.flt hue),(ms,.flt (iu (q18 a) (q18 b) (q18 c))),(gH,.flt (jw (q18 a) (q18 b) (q18 c)))]) (σ1:=σ)
   (ak (a7 H (ah (aa rfl) (ah (aa rfl) (ah (aa rfl) aj))) P1) (by rw [L.hueE];rfl) (fun h=>nomatch h)) ?_
  exact aq (ak (a7 H (ah (ap (aa rfl) (ap aB aB (mA (by decide) (by decide +kernel))) bL) (ah (aa rfl) (ah (aa rfl) aj))) P2) rfl fun _=>rfl) aF
end
end
section
open PySem PyProof.Rows
set_option maxRecDepth 100000
structure Rec where
 a:Nat
 b:Nat
 c:Nat
 hi:Nat
 hue:UInt64
 x:Nat
 y:Nat
 z:Nat
 t:Nat
noncomputable def Rec.word (r:Rec):List Nat:=cz [r.a,r.b,r.c] r.hi
noncomputable def Rec.row (r:Rec):V:=.list (zN [r.a,r.b,r.c])
noncomputable def Rec.out (r:Rec):V:=.list (zN [r.x,r.y,r.z])
noncomputable def Rec.look (r:Rec):V:=.tup [.flt r.hue,r.out]
noncomputable def i4 (h:UInt64):UInt64:=Float64.add (Float64.mul h (Float64.ofInt 6)) (Float64.ofInt 1)
structure Rec.Ok (deep:Nat) (r:Rec):Prop where
 look:BY deep r.a r.b r.c r.hue r.x r.y r.z
 hi:r.hi=0\/r.hi=128
 fin:Float64.isFinite (i4 r.hue)=true
 third:((lA (i4 r.hue)).fdiv 2).fmod 3=(r.t:Int)
 lo:(Float64.cmpInt r.hue 0==some .gt||Float64.cmpInt r.hue 0==some .eq)=true
 up:(Float64.cmpInt r.hue 1==some .lt)=true
 x0:r.x<262144
 y0:r.y<262144
 z0:r.z<262144
section
variable {C:Cx} {k:Nat} {ρ ρ1:Loc} {σ σ1 σ2:Sto} {p:Pl3} {τ:Sto}
theorem vS (L:Lex C) (h:p.Ok τ) {N:Int} {x:List Nat} {t:Nm} (hx:x.length<800000) (hlx:∀ v,get (put ρ t v) aA=some (.loc p.lx)) (hf:fresh ρ [t]=true):∀ (ws:List (List Nat)) (j:Int) (rest:List V),ws.length+rest.length<1000 ->
 CompR C (k+4) (.meth (.var aA) bc []) [[t]] [] [[]] ρ (p.put τ (lsN N x (aC ws++rest))) (aZ j ws.length) (aC ws) (p.put τ (lsN N x rest)):=by
 intro ws
 induction ws with
 | nil =>
   intro j rest _
   exact .nil
 | cons w ws ih =>
   intro j rest hr
   have E:=tC (C:=C) (k:=k) (ρ:=put ρ t (.int j)) (o:=.var aA) L h (a:=lsN N x (.str w::(aC ws++rest))) (aa (hlx _)) hx (by show (_::(aC ws++rest)).length<1000;simp [aC] at hr ⊢;lia -abstractProof)
   rw [rG] at E
   exact .emit (ρ1:=put ρ t (.int j)) rfl hf ⟨rfl,rfl⟩ E (ih (j+1) rest (by simp at hr;lia -abstractProof))
noncomputable abbrev rdF (p:Pl3) (nbs:List (List Nat)) (deep:Nat) (rs:List Rec):Loc:=[(aA,.loc p.lx),(a9,bk nbs),(ce,.int (deep:Int)),(aS,.list (rs.map fun r=>.str r.word)),(gW,.list (rs.map Rec.row)),(dG,.list (rs.map Rec.look)),(cr,.list (zN (rs.map Rec.t)))]
noncomputable abbrev rdB:List St:=[.assign [ch] false (.cmp (.bin .Mod (.bin .Add (.sub (.var cr) (.var n_k)) (.cInt 1)) (.cInt 3)) [.In] [(.comp (.sub (.var cr) (.var n_j)) [[n_j]] [(.sub (.var a9) (.var n_k))] [[]] [ax,n_j])]),.expr (.meth (.var aA) de [(.ite (.var ch) (.call (.glob cc) [(.sub (.sub (.var dG) (.var n_k)) (.cInt 1)),(.bin .Mult (.cInt 128) (.var ce))]) (.sub (.var aS) (.var n_k)))])]
noncomputable def iY (rs:List Rec) (nb:List Nat) (r:Rec):Bool:=nb.any fun j=>(rs.map Rec.t).getD j 0==(r.t+1) % 3
noncomputable def hG (deep:Nat) (rs:List Rec) (nbs:List (List Nat)) (j:Nat) (r:Rec):List Nat:=bif iY rs (nbs.getD j []) r then cz [r.x,r.y,r.z] (128*deep) else r.word
theorem Al (L:Lex C) (W:hV C) (h:p.Ok τ) {N:Int} {x:List Nat} {nbs:List (List Nat)} {deep:Nat} {rs:List Rec} {q:List V} {j:Nat} {r:Rec} {ρ1:Loc} (hd:deep<=1) (hq:q.length<900) (hr:rs[j]?=some r) (hj:j<100) (hlen:rs.length<100) (hnb:∀ nb∈nbs,nb.length<100/\∀ i∈nb,i<rs.length) (hnl:j<nbs.length)
 (hp:∀ w,put ρ1 ch w=rdF p nbs deep rs++[(n_k,.int (j:Int)),(ch,w)]) (g1:get ρ1 cr=some (.list (zN (rs.map Rec.t)))) (g2:get ρ1 n_k=some (.int (j:Int))) (g3:get ρ1 a9=some (bk nbs)) (g4:∀ v,fresh (dQ ρ1 [ax,n_j]) [n_j]=true/\∃ ρ2,bI (dQ ρ1 [ax,n_j]) [n_j] v=some ρ2/\get ρ2 n_j=some v/\get ρ2 cr=some (.list (zN (rs.map Rec.t)))) :
 ∃ ρ2,ExL C (k+2) rdB ρ1 (p.put τ (lsN N x q)) .next ρ2 (p.put τ (lsN N x (q++[.str (hG deep rs nbs j r)])))/\∃ w,ρ2=rdF p nbs deep rs++[(n_k,.int (j:Int)),(ch,w)]:=by
 have H:=W.H
 have hnbj:(nbs.map fun c=>V.list (zN c))[j]?=some (.list (zN (nbs.getD j []))):=by
  rw [List.getElem?_map,List.getD_eq_getElem?_getD,List.getElem?_eq_getElem hnl];rfl
 have hnbm:nbs.getD j []∈nbs:=by
  rw [List.getD_eq_getElem?_getD,List.getElem?_eq_getElem hnl];exact List.getElem_mem _
 obtain ⟨hn1,hn2⟩:=hnb _ hnbm
 have ht:(zN (rs.map Rec.t))[j]?=some (.int (r.t:Int)):=by simp [zN,hr]
 have E0:EvE C (k+2) (.comp (.sub (.var cr) (.var n_j)) [[n_j]] [(.sub (.var a9) (.var n_k))] [[]] [ax,n_j]) ρ1 (p.put τ (lsN N x q)) (.list (zs ((nbs.getD j []).map fun i=>(((rs.map Rec.t).getD i 0:Nat):Int)))) (p.put τ (lsN N x q)):=by
  refine CompOk.ev (dU (vs:=zN (nbs.getD j [])) (di (aa g3) (aa g2) hnbj (by lia -abstractProof)) rfl rfl ?_ (by rw [sizeLine_eq];unfold zs;rw [List.length_map,List.length_map];lia -abstractProof))
  have:∀ l:List Nat,(∀ i∈l,i<rs.length)->CompR C (k+2) (.sub (.var cr) (.var n_j)) [[n_j]] [] [[]] (dQ ρ1 [ax,n_j]) (p.put τ (lsN N x q)) (zN l) (zs (l.map fun i=>(((rs.map Rec.t).getD i 0:Nat):Int))) (p.put τ (lsN N x q)):=fun l hl=>by
   induction l with
   | nil=>exact .nil
   | cons i l ih =>
     obtain ⟨f1,ρ2,b1,c1,c2⟩:=g4 (.int (i:Int))
     have hi:=hl i (.head _)
     refine .emit b1 f1 ⟨rfl,rfl⟩ (di (aa c2) (aa c1) ?_ (by lia -abstractProof)) (ih fun i hi=>hl i (.tail _ hi))
     simp [zN,List.getD_eq_getElem?_getD,List.getElem?_eq_getElem hi]
  exact this _ hn2
 have E1:EvE C (k+2) (.bin .Mod (.bin .Add (.sub (.var cr) (.var n_k)) (.cInt 1)) (.cInt 3)) ρ1 (p.put τ (lsN N x q)) (.int (((r.t+1) % 3:Nat):Int)) (p.put τ (lsN N x q)) :=
  cO 3 (by decide) (EvE.eq (ap (di (aa g1) (aa g2) ht (by lia -abstractProof)) aB d7) rfl)
 have E2:=pG E1 E0 (tB (a:=(((r.t+1) % 3:Nat):Int)) (l:=(nbs.getD j []).map fun i=>(((rs.map Rec.t).getD i 0:Nat):Int)))
 have ea:((nbs.getD j []).map fun i=>(((rs.map Rec.t).getD i 0:Nat):Int)).any (·==(((r.t+1) % 3:Nat):Int))=iY rs (nbs.getD j []) r:=by
  rw [List.any_map,iY]
  congr 1
  funext i
  show ((((rs.map Rec.t).getD i 0:Nat):Int)==(((r.t+1) % 3:Nat):Int))=_
  rw [Bool.eq_iff_iff];simp;lia -abstractProof
 rw [ea] at E2
 have S1:ExS C (k+2) (.assign [ch] false (.cmp (.bin .Mod (.bin .Add (.sub (.var cr) (.var n_k)) (.cInt 1)) (.cInt 3)) [.In] [(.comp (.sub (.var cr) (.var n_j)) [[n_j]] [(.sub (.var a9) (.var n_k))] [[]] [ax,n_j])])) ρ1 (p.put τ (lsN N x q)) .next (rdF p nbs deep rs++[(n_k,.int (j:Int)),(ch,.bool (iY rs (nbs.getD j []) r))]) (p.put τ (lsN N x q)) :=
  ak E2 (by rw [<-hp];rfl) fun _=>rfl
 have hw:(rs.map fun r=>V.str r.word)[j]?=some (.str r.word):=by simp [hr]
 have hlk:(rs.map Rec.look)[j]?=some r.look:=by simp [hr]
 have E3:EvE C (k+2) (.ite (.var ch) (.call (.glob cc) [(.sub (.sub (.var dG) (.var n_k)) (.cInt 1)),(.bin .Mult (.cInt 128) (.var ce))]) (.sub (.var aS) (.var n_k))) (rdF p nbs deep rs++[(n_k,.int (j:Int)),(ch,.bool (iY rs (nbs.getD j []) r))]) (p.put τ (lsN N x q)) (.str (hG deep rs nbs j r)) (p.put τ (lsN N x q)):=by
  refine ed (gK rfl (aa rfl) aH) (fun e=>?_) (fun e=>?_)
  ·rw [hG,e]
   simp only [cond_true]
   refine a7 H (ah (mD (di (aa rfl) (aa rfl) hlk (by lia -abstractProof)) aB vC PySem.F.slot_tuple_getitem.lookup (ro (v:=r.out) rfl (by simp) (by simp))) (ah (EvE.eq (ap aB (aa rfl) (yN (.of_left (by decide)))) (congrArg V.int (show (128:Int)*(deep:Int)=((128*deep:Nat):Int) from by rfl))) aj)) (yq (k:=k+1) H W.B W.word (ps:=[r.x,r.y,r.z]) (by exact Nat.le_of_ble_eq_true rfl) (by lia -abstractProof))
  ·rw [hG,e]
   simp only [cond_false]
   exact di (aa rfl) (aa rfl) hw (by lia -abstractProof)
 have S2:=rn (C:=C) (k:=k+1) (ρ:=rdF p nbs deep rs++[(n_k,.int (j:Int)),(ch,.bool (iY rs (nbs.getD j []) r))]) (o:=.var aA) (e:=.ite (.var ch) (.call (.glob cc) [(.sub (.sub (.var dG) (.var n_k)) (.cInt 1)),(.bin .Mult (.cInt 128) (.var ce))]) (.sub (.var aS) (.var n_k))) L h (a:=lsN N x q) (b:=lsN N x q) (aa rfl) (ah E3 aj) h (by show q.length<1000;lia -abstractProof)
 exact ⟨_,aq S1 (aq (gF S2 rfl) aF),_,rfl⟩
noncomputable def du (deep:Nat) (nbs:List (List Nat)) (rs:List Rec) (j:Nat):List (List Nat):=(List.range j).map fun i=>match rs[i]? with | some r=>hG deep rs nbs i r | none=>[]
theorem rW (deep:Nat) (nbs:List (List Nat)) (rs:List Rec) (j:Nat) (r:Rec) (h:rs[j]?=some r):du deep nbs rs (j+1)=du deep nbs rs j++[hG deep rs nbs j r]:=by
 unfold du
 rw [List.range_succ,List.map_append]
 simp [h]
noncomputable def RdI (p:Pl3) (τ:Sto) (N:Int) (x:List Nat) (nbs:List (List Nat)) (deep:Nat) (rs:List Rec) (vs:List V) (ρ:Loc) (σ:Sto):Prop :=
 ∃ j:Nat,j<=5/\vs=aZ (j:Int) (5 - j)/\σ=p.put τ (lsN N x (aC (du deep nbs rs j)))/\((j=0/\ρ=rdF p nbs deep rs)\/∃ u w,ρ=rdF p nbs deep rs++[(n_k,u),(ch,w)])
noncomputable def RdE (p:Pl3) (τ:Sto) (N:Int) (x:List Nat) (nbs:List (List Nat)) (deep:Nat) (rs:List Rec) (f:Fl) (ρ:Loc) (σ:Sto):Prop :=
 f=.next/\σ=p.put τ (lsN N x (aC (du deep nbs rs 5)))/\(∃ u w,ρ=rdF p nbs deep rs++[(n_k,u),(ch,w)])
theorem zD (L:Lex C) (W:hV C) (K:oZ C) (dp:DefAt C bA cY T_parse_varint) (dparts:DefAt C bP fu T_law_parts) (dl:DefAt C dm fU T_law_looked) (d:DefAt C dd iO T_law_round)
 (h:p.Ok τ) {N:Int} {x:List Nat} {nbs:List (List Nat)} {deep:Nat} {rs:List Rec} (hx:x.length<800000) (hd:deep<=1) (hlen:rs.length=5) (hok:∀ r∈rs,r.Ok deep) (hnb:∀ nb∈nbs,nb.length<100/\∀ i∈nb,i<5) (hnl:nbs.length=5) :
 Calls C (k+5) dd [.loc p.lx,bk nbs,.int (deep:Int)] (p.put τ (lsN N x (aC (rs.map Rec.word)))) (.list (rs.map Rec.row)) (p.put τ (lsN N x (aC (du deep nbs rs 5)))):=by
 have H:=W.H;have B:=W.B
 refine d.callsE H ?_ rfl
 unfold T_law_round
 have E1:CompOk C (k+4) (.comp (.meth (.var aA) bc []) [[n_k]] [(.call (.glob aO) [(.cInt 5)])] [[]] [ax,n_k]) [(aA,.loc p.lx),(a9,bk nbs),(ce,.int (deep:Int))] (p.put τ (lsN N x (aC (rs.map Rec.word)))) (.list (aC (rs.map Rec.word))) (p.put τ (lsN N x [])):=by
  have:=vS (C:=C) (k:=k) (ρ:=[(aA,.loc p.lx),(a9,bk nbs),(ce,.int (deep:Int))]) (t:=n_k) L h (N:=N) (x:=x) hx (fun v=>rfl) rfl (rs.map Rec.word) 0 [] (by simp;lia -abstractProof)
  rw [List.append_nil,List.length_map,hlen] at this
  exact (dU (vs:=aZ 0 5) (aG H B.range (ah aB aj) aW) rfl (by rfl) this (by simp [aC];rw [sizeLine_eq];lia -abstractProof))
 have e1:aC (rs.map Rec.word)=rs.map fun r=>V.str r.word:=by simp [aC]
 refine aw (ρ1:=[(aA,.loc p.lx),(a9,bk nbs),(ce,.int (deep:Int)),(aS,.list (rs.map fun r=>V.str r.word))]) (σ1:=p.put τ (lsN N x [])) (bQ (by rw [<-e1];exact E1)) ?_
 refine aw (ρ1:=[(aA,.loc p.lx),(a9,bk nbs),(ce,.int (deep:Int)),(aS,.list (rs.map fun r=>V.str r.word)),(gW,.list (rs.map Rec.row))]) (σ1:=p.put τ (lsN N x []))
  (bQ (dP (l:=rs) (inj:=fun r=>.str r.word) (f:=Rec.row) (ρ1:=fun r=>[(aA,.loc p.lx),(a9,bk nbs),(ce,.int (deep:Int)),(aS,.list (rs.map fun r=>V.str r.word)),(bo,.str r.word)]) (own:=[ax,bo]) (aa rfl) rfl rfl rfl (fun r=>rfl) (fun r hr=>?_) (by rw [sizeLine_eq];omega))) ?_
 ·have o:=hok r hr
  exact a7 H (ah (aa rfl) aj) (uJ (k:=k+2) H B dp dparts o.look.ha o.look.hb o.look.hc o.hi)
 refine aw (ρ1:=[(aA,.loc p.lx),(a9,bk nbs),(ce,.int (deep:Int)),(aS,.list (rs.map fun r=>V.str r.word)),(gW,.list (rs.map Rec.row)),(dG,.list (rs.map Rec.look))]) (σ1:=p.put τ (lsN N x []))
  (bQ (dP (l:=rs) (inj:=Rec.row) (f:=Rec.look) (ρ1:=fun r=>[(aA,.loc p.lx),(a9,bk nbs),(ce,.int (deep:Int)),(aS,.list (rs.map fun r=>V.str r.word)),(gW,.list (rs.map Rec.row)),(dJ,r.row)]) (own:=[ax,dJ]) (aa rfl) rfl rfl rfl (fun r=>rfl) (fun r hr=>?_) (by rw [sizeLine_eq];omega))) ?_
 ·have o:=hok r hr
  exact a7 H (ah (aa rfl) (ah (aa rfl) aj)) (xM (k:=k+1) K dl o.look)
 have TH:∀ r∈rs,EvE C (k+4) (.bin .Mod (.bin .FloorDiv (.call (.glob j6) [(.bin .Add (.bin .Mult (.var bB) (.cInt 6)) (.cInt 1))]) (.cInt 2)) (.cInt 3)) [(aA,.loc p.lx),(a9,bk nbs),(ce,.int (deep:Int)),(aS,.list (rs.map fun r=>V.str r.word)),(gW,.list (rs.map Rec.row)),(dG,.list (rs.map Rec.look)),(bB,.flt r.hue),(cb,r.out)] (p.put τ (lsN N x [])) (.int ((r.t:Nat):Int)) (p.put τ (lsN N x [])):=fun r hr=>by
  have o:=hok r hr
  refine EvE.eq (ap (ap (aG H B.int (ah (ap (ap (aa rfl) aB (ry (by decide))) aB (qN (by decide))) aj) (qk o.fin)) aB (jg (by decide) (by decide))) aB (fV (by decide))) (congrArg V.int o.third)
 have e3:(rs.map fun r=>V.int ((r.t:Nat):Int))=zN (rs.map Rec.t):=by simp [zN]
 refine aw (ρ1:=rdF p nbs deep rs) (σ1:=p.put τ (lsN N x []))
  (bQ (by rw [<-e3];exact (dP (l:=rs) (inj:=Rec.look) (f:=fun r=>.int ((r.t:Nat):Int)) (ρ1:=fun r=>[(aA,.loc p.lx),(a9,bk nbs),(ce,.int (deep:Int)),(aS,.list (rs.map fun r=>V.str r.word)),(gW,.list (rs.map Rec.row)),(dG,.list (rs.map Rec.look)),(bB,.flt r.hue),(cb,r.out)]) (own:=[ax,bB,cb]) (aa rfl) rfl rfl rfl (fun r=>rfl) (fun r hr=>TH r hr) (by rw [sizeLine_eq];omega)))) ?_
 obtain ⟨f,ρ',σ',hF,rfl,rfl,u,w,rfl⟩:=gL (C:=C) (k:=k+4) (xs:=[n_k]) (body:=rdB) (orelse:=[]) (RdI p τ N x nbs deep rs) (RdE p τ N x nbs deep rs) (fun v vs ρ σ hI=>by
  obtain ⟨j,hj,hv,rfl,hρ⟩:=hI
  have hj':j<5:=by
   rcases Nat.lt_or_ge j 5 with h | h
   ·exact h
   ·rw [show 5 - j=0 from by exact Nat.sub_eq_zero_of_le h] at hv;cases hv
  rw [eo (show j<5 by assumption),bz] at hv
  cases hv
  have hr:rs[j]?=some rs[j]:=List.getElem?_eq_getElem (by omega)
  obtain ⟨ρ1,h0,h1,h2,h3,h4,h5⟩:∃ ρ1,bI ρ [n_k] (.int j)=some ρ1/\(∀ w,put ρ1 ch w=rdF p nbs deep rs++[(n_k,.int (j:Int)),(ch,w)])/\get ρ1 cr=some (.list (zN (rs.map Rec.t)))/\get ρ1 n_k=some (.int (j:Int))/\get ρ1 a9=some (bk nbs) /\
   (∀ v,fresh (dQ ρ1 [ax,n_j]) [n_j]=true/\∃ ρ2,bI (dQ ρ1 [ax,n_j]) [n_j] v=some ρ2/\get ρ2 n_j=some v/\get ρ2 cr=some (.list (zN (rs.map Rec.t)))):=by
   rcases hρ with ⟨_,rfl⟩ | ⟨u,w,rfl⟩
   ·exact ⟨_,rfl,fun _=>rfl,rfl,rfl,rfl,fun v=>⟨rfl,_,rfl,rfl,rfl⟩⟩
   ·exact ⟨_,rfl,fun _=>rfl,rfl,rfl,rfl,fun v=>⟨rfl,_,rfl,rfl,rfl⟩⟩
  obtain ⟨ρ2,hX,w,hρ2⟩:=Al (C:=C) (k:=k+2) L W h (N:=N) (x:=x) (q:=aC (du deep nbs rs j)) hd (by simp [aC,du];lia -abstractProof) hr (by lia -abstractProof) (by lia -abstractProof) (fun nb hm=>⟨(hnb nb hm).1,fun i hi=>by rw [hlen];exact (hnb nb hm).2 i hi⟩) (by exact Nat.lt_of_lt_of_eq hj' (id (Eq.symm hnl))) h1 h2 h3 h4 h5
  refine ⟨ρ1,.next,ρ2,_,h0,hX,j+1,hj',by rfl,?_,.inr ⟨_,_,hρ2⟩⟩
  rw [rW deep nbs rs j _ hr]
  simp [aC])
  (fun ρ σ hI=>by
    obtain ⟨j,hj,hv,rfl,hρ⟩:=hI
    have hj':j=5:=by
     rcases Nat.lt_or_ge j 5 with h | h
     ·rw [eo (show j<5 by assumption),bz] at hv;cases hv
     ·exact Eq.symm (Nat.le_antisymm h hj)
    subst hj'
    refine ⟨.next,ρ,_,aF,rfl,rfl,?_⟩
    rcases hρ with ⟨h,_⟩ | h
    ·cases h
    ·exact h)
  (aZ 0 5) (rdF p nbs deep rs) (p.put τ (lsN N x [])) ⟨0,by simp,rfl,rfl,.inl ⟨rfl,rfl⟩⟩
 refine aw (jv (aG H B.range (ah aB aj) aW) rfl (by decide +kernel) hF) ?_
 have E9:EvE C (k+4) (.comp (.var bB) [[bB,cb]] [(.var dG)] [[(.not (.cmp (.cInt 0) [.LtE,.Lt] [(.var bB),(.cInt 1)]))]] [ax,bB,cb]) (rdF p nbs deep rs++[(n_k,u),(ch,w)]) (p.put τ (lsN N x (aC (du deep nbs rs 5)))) (.list []) (p.put τ (lsN N x (aC (du deep nbs rs 5)))):=by
  have:=mW (C:=C) (k:=k+4) (ρ:=rdF p nbs deep rs++[(n_k,u),(ch,w)]) (σ:=p.put τ (lsN N x (aC (du deep nbs rs 5)))) (elt:=.var bB) (c:=.not (.cmp (.cInt 0) [.LtE,.Lt] [(.var bB),(.cInt 1)])) (l:=rs) (inj:=Rec.look) (f:=fun r=>.flt r.hue) (p:=fun _=>false)
   (ρ1:=fun r=>[(aA,.loc p.lx),(a9,bk nbs),(ce,.int (deep:Int)),(aS,.list (rs.map fun r=>V.str r.word)),(gW,.list (rs.map Rec.row)),(dG,.list (rs.map Rec.look)),(cr,.list (zN (rs.map Rec.t))),(n_k,u),(ch,w),(bB,.flt r.hue),(cb,r.out)]) (t:=[bB,cb]) (own:=[ax,bB,cb]) (aa (x:=dG) rfl) rfl rfl rfl (fun r=>rfl) (fun r hr=>?_) (fun r hr h=>by cases h) (by rw [sizeLine_eq];omega)
  ·rw [show rs.filter (fun _=>false)=[] from by simp] at this
   exact this
  ·have o:=hok r hr
   rw [show false=!true from rfl]
   refine uY (wQ (c:=true) aB (aa rfl) (by rw [<-o.lo];exact Am) (fun _=>aB) (fun _=>by rw [<-o.up];exact AB) (fun h=>by cases h))
 refine cE (ed (c:=true) (aJ E9 (dA aj (by simp)) (jA (by rfl)) aH) (fun _=>aa rfl) (fun h=>by cases h))
end
end
section
open PySem PyProof.Rows
set_option maxRecDepth 100000
noncomputable def aU (τ:Sto) (W L:List (List Nat)) (nb:List (List Nat)):Sto:=⟨τ.next+7,fun j=>if j=τ.next then some (.list (aC W)) else if j=τ.next+1 then some (.list (aC L)) else if τ.next+2<=j/\j<τ.next+7 then some (.list (zN (nb.getD (j - (τ.next+2)) []))) else τ.get j⟩
theorem cW {α:Type} {c:Prop} [Decidable c] {x y:α} (h:¬ c->y=x):(if c then x else y)=x:=by
 by_cases hc:c
 ·rw [if_pos hc]
 ·rw [if_neg hc];exact h hc
section
variable {τ:Sto} {W L nb:List (List Nat)} {p:Pl3}
theorem AP (hτ:∀ j,τ.next<=j->τ.get j=none):((((((τ.new (.list [])).new (.list [])).new (.list [])).new (.list [])).new (.list [])).new (.list [])).new (.list [])=aU τ [] [] [[],[],[],[],[]]:=Sto.ext' rfl fun j=>by
 show (if j=τ.next+6 then some (.list []) else if j=τ.next+5 then some (.list []) else if j=τ.next+4 then some (.list []) else if j=τ.next+3 then some (.list []) else if j=τ.next+2 then some (.list []) else if j=τ.next+1 then some (.list []) else if j=τ.next then some (.list []) else τ.get j) =
  if j=τ.next then some (.list []) else if j=τ.next+1 then some (.list []) else if τ.next+2<=j/\j<τ.next+7 then some (.list (zN ([[],[],[],[],[]].getD (j - (τ.next+2)) []))) else τ.get j
 have e:∀ i,([[],[],[],[],[]]:List (List Nat)).getD i []=[]:=fun i=>by
  match i with
  | 0=>rfl | 1=>rfl | 2=>rfl | 3=>rfl | 4=>rfl | n+5=>rfl
 rw [e]
 by_cases h:τ.next<=j/\j<τ.next+7
 ·exact Eq.trans (b:=some (.list [])) (cW fun a6=>cW fun a5=>cW fun a4=>cW fun a3=>cW fun a2=>cW fun a1=>cW fun a0=>absurd h (by lia -abstractProof)) (Eq.symm (cW fun b0=>cW fun b1=>if_pos ⟨by lia -abstractProof,h.2⟩))
 ·have out:∀ k,k<7->j≠τ.next+k:=fun k hk q=>h ⟨by rw [q];exact Nat.le_add_right _ _,by rw [q];exact Nat.add_lt_add_left hk _⟩
  exact ((if_neg (out 6 (by decide))).trans ((if_neg (out 5 (by decide))).trans ((if_neg (out 4 (by decide))).trans ((if_neg (out 3 (by decide))).trans ((if_neg (out 2 (by decide))).trans ((if_neg (out 1 (by decide))).trans (if_neg (out 0 (by decide))))))))).trans
   (((if_neg (out 0 (by decide))).trans ((if_neg (out 1 (by decide))).trans (if_neg fun q=>h ⟨Nat.le_trans (Nat.le_add_right _ 2) q.1,q.2⟩))).symm)
theorem qv:(aU τ W L nb).get τ.next=some (.list (aC W)):=if_pos rfl
theorem mY:(aU τ W L nb).get (τ.next+1)=some (.list (aC L)):=by
 show (if τ.next+1=τ.next then _ else if τ.next+1=τ.next+1 then _ else _)=_
 rw [if_neg (by lia -abstractProof),if_pos rfl]
theorem rZ {i:Nat} (hi:i<5):(aU τ W L nb).get (τ.next+2+i)=some (.list (zN (nb.getD i []))):=by
 show (if τ.next+2+i=τ.next then _ else if τ.next+2+i=τ.next+1 then _ else if τ.next+2<=τ.next+2+i/\τ.next+2+i<τ.next+7 then _ else _)=_
 rw [if_neg (by lia -abstractProof),if_neg (by lia -abstractProof),if_pos (by lia -abstractProof),show τ.next+2+i - (τ.next+2)=i from by simp]
theorem xT {W':List (List Nat)}:(aU τ W L nb).set τ.next (.list (aC W'))=aU τ W' L nb:=Sto.ext' rfl fun j=>by
 show (if j=τ.next then some (.list (aC W')) else (aU τ W L nb).get j)=if j=τ.next then some (.list (aC W')) else _
 by_cases h:j=τ.next
 ·rw [if_pos h,if_pos h]
 ·rw [if_neg h,if_neg h];exact if_neg h
theorem xd {L':List (List Nat)}:(aU τ W L nb).set (τ.next+1) (.list (aC L'))=aU τ W L' nb:=Sto.ext' rfl fun j=>by
 show (if j=τ.next+1 then some (.list (aC L')) else if j=τ.next then some (.list (aC W)) else if j=τ.next+1 then some (.list (aC L)) else if τ.next+2<=j/\j<τ.next+7 then some (.list (zN (nb.getD (j - (τ.next+2)) []))) else τ.get j) =
  if j=τ.next then some (.list (aC W)) else if j=τ.next+1 then some (.list (aC L')) else if τ.next+2<=j/\j<τ.next+7 then some (.list (zN (nb.getD (j - (τ.next+2)) []))) else τ.get j
 by_cases h1:j=τ.next+1
 ·rw [if_pos h1,if_neg (by lia -abstractProof),if_pos h1]
 ·rw [if_neg h1]
  by_cases h0:j=τ.next
  ·rw [if_pos h0,if_pos h0]
  ·rw [if_neg h0,if_neg h0,if_neg h1,if_neg h1]
theorem x8 {i:Nat} {y:List Nat} (hi:i<5) (hl:nb.length=5):(aU τ W L nb).set (τ.next+2+i) (.list (zN y))=aU τ W L (nb.set i y):=Sto.ext' rfl fun j=>by
 show (if j=τ.next+2+i then some (.list (zN y)) else if j=τ.next then some (.list (aC W)) else if j=τ.next+1 then some (.list (aC L)) else if τ.next+2<=j/\j<τ.next+7 then some (.list (zN (nb.getD (j - (τ.next+2)) []))) else τ.get j) =
  if j=τ.next then some (.list (aC W)) else if j=τ.next+1 then some (.list (aC L)) else if τ.next+2<=j/\j<τ.next+7 then some (.list (zN ((nb.set i y).getD (j - (τ.next+2)) []))) else τ.get j
 by_cases h1:j=τ.next+2+i
 ·subst h1
  rw [if_pos rfl,if_neg (by lia -abstractProof),if_neg (by lia -abstractProof),if_pos (by lia -abstractProof),show τ.next+2+i - (τ.next+2)=i from by lia -abstractProof]
  simp [List.getD_eq_getElem?_getD,hl,hi]
 ·rw [if_neg h1]
  have e:τ.next+2<=j->(nb.set i y).getD (j - (τ.next+2)) []=nb.getD (j - (τ.next+2)) []:=fun h=>by
   rw [List.getD_eq_getElem?_getD,List.getD_eq_getElem?_getD,List.getElem?_set_ne (fun q=>h1 (by rw [q];exact (Nat.add_sub_of_le h).symm))]
  by_cases h2:τ.next+2<=j/\j<τ.next+7
  ·rw [if_pos h2,if_pos h2,e h2.1]
  ·rw [if_neg h2,if_neg h2]
theorem B6 (h:p.Ok τ):p.Ok (aU τ W L nb):=⟨h.ne,h.np,h.nq,by have:=h.bx;show _<τ.next+7;exact Nat.lt_add_right 7 this,by have:=h.bf;show _<τ.next+7;exact Nat.lt_add_right 7 this,by have:=h.bp;show _<τ.next+7;exact Nat.lt_add_right 7 this⟩
theorem off {a:Nat} (h:p.Ok τ):τ.next+a≠p.lx/\τ.next+a≠p.lf/\τ.next+a≠p.pb:=by
 have:=h.bx;have:=h.bf;have:=h.bp
 exact ⟨by lia -abstractProof,by lia -abstractProof,by exact Ne.symm (W.ktu_ne a this)⟩
noncomputable def Sto.up (τ:Sto) (n:Nat):Sto:=⟨τ.next+n,τ.get⟩
theorem Ag (hτ:∀ j,τ.next<=j->τ.get j=none):(((((((aU τ W L nb).del τ.next).del (τ.next+1)).del (τ.next+2+0)).del (τ.next+2+1)).del (τ.next+2+2)).del (τ.next+2+3)).del (τ.next+2+4)=τ.up 7:=Sto.ext' rfl fun j=>by
 show (if j=τ.next+2+4 then none else if j=τ.next+2+3 then none else if j=τ.next+2+2 then none else if j=τ.next+2+1 then none else if j=τ.next+2+0 then none else if j=τ.next+1 then none else if j=τ.next then none else if j=τ.next then some (.list (aC W)) else if j=τ.next+1 then some (.list (aC L)) else if τ.next+2<=j/\j<τ.next+7 then some (.list (zN (nb.getD (j - (τ.next+2)) []))) else τ.get j)=τ.get j
 by_cases h:τ.next<=j/\j<τ.next+7
 ·rw [hτ j h.1]
  exact cW fun a6=>cW fun a5=>cW fun a4=>cW fun a3=>cW fun a2=>cW fun a1=>cW fun a0=>absurd h (by lia -abstractProof)
 ·have out:∀ k,k<7->j≠τ.next+k:=fun k hk q=>h ⟨by rw [q];exact Nat.le_add_right _ _,by rw [q];exact Nat.add_lt_add_left hk _⟩
  exact (if_neg (out 6 (by decide))).trans ((if_neg (out 5 (by decide))).trans ((if_neg (out 4 (by decide))).trans ((if_neg (out 3 (by decide))).trans ((if_neg (out 2 (by decide))).trans ((if_neg (out 1 (by decide))).trans ((if_neg (out 0 (by decide))).trans
   ((if_neg (out 0 (by decide))).trans ((if_neg (out 1 (by decide))).trans (if_neg fun q=>h ⟨Nat.le_trans (Nat.le_add_right _ 2) q.1,q.2⟩)))))))))
theorem uf (h:p.Ok τ) {n:Nat}:p.Ok (τ.up n):=⟨h.ne,h.np,h.nq,by have:=h.bx;show _<τ.next+n;exact Nat.lt_add_right n this,by have:=h.bf;show _<τ.next+n;exact Nat.lt_add_right n this,by have:=h.bp;show _<τ.next+n;exact Nat.lt_add_right n this⟩
theorem o7 (h:p.Ok τ) {τ':Sto} {a:LS} {l:Nat} (hl:τ.next<=l):(p.put τ' a).del l=p.put (τ'.del l) a:=by
 have:=h.bx;have:=h.bf;have:=h.bp
 exact Pl3.del_ (by lia -abstractProof) (by lia -abstractProof) (by lia -abstractProof)
end
end
section
open PySem PyProof.Rows
set_option maxRecDepth 100000
inductive RD:List Nat->List (List Nat × List Nat)->List Nat->Prop
 | nil {x}:RD x [] x
 | cons {x w y ww z l x' r xe} (h1:Tk x w y) (h2:Tk y ww z) (h3:NTok 3 ww z l x') (hr:RD x' r xe):RD x ((w,l)::r) xe
theorem NTok.len {n:Nat} {t x t' z:List Nat} (h:NTok n t x t' z):z.length<=x.length:=by
 induction h with
 | out=>exact Nat.le_refl _
 | stay _ _ ih=>exact ih
 | more _ k _ _ ih=>exact Nat.le_trans ih k.len
noncomputable def kL (tie:Nat->Nat->Bool) (nb:List (List Nat)) (k:Nat):Nat->List (List Nat)
 | 0=>nb
 | j+1=>bif tie j k then ((kL tie nb k j).set k ((kL tie nb k j).getD k []++[j])).set j (((kL tie nb k j).set k ((kL tie nb k j).getD k []++[j])).getD j []++[k]) else kL tie nb k j
noncomputable def dK (tie:Nat->Nat->Bool):Nat->List (List Nat)
 | 0=>[[],[],[],[],[]]
 | k+1=>kL tie (dK tie k) k k
theorem rt (tie:Nat->Nat->Bool) (nb:List (List Nat)) (k j:Nat):(kL tie nb k j).length=nb.length:=by
 induction j with
 | zero=>rfl
 | succ j ih =>
   unfold kL
   cases tie j k with
   | true=>simp [ih]
   | false=>exact ih
theorem i7 (tie:Nat->Nat->Bool) (k:Nat):(dK tie k).length=5:=by
 induction k with
 | zero=>rfl
 | succ k ih=>exact (rt tie _ k k).trans ih
section
variable {C:Cx} {k:Nat} {ρ ρ1:Loc} {σ σ1 σ2:Sto} {p:Pl3} {τ:Sto} {W L nb:List (List Nat)} {a:LS}
noncomputable def iD (τ:Sto):List V:=[.loc (τ.next+2+0),.loc (τ.next+2+1),.loc (τ.next+2+2),.loc (τ.next+2+3),.loc (τ.next+2+4)]
theorem x5 {i:Nat} (hi:i<5):(iD τ)[i]?=some (.loc (τ.next+2+i)):=by
 revert i
 show ∀ i,i<5->_
 exact at5 rfl rfl rfl rfl rfl
theorem uM (h:p.Ok τ) {e f:Ex} {i v:Nat} (hi:i<5) (hl:nb.length=5) (hn:get ρ a9=some (.list (iD τ))) (he:EvE C k e ρ (p.put (aU τ W L nb) a) (.int (i:Int)) (p.put (aU τ W L nb) a)) (hf:EvE C k f ρ (p.put (aU τ W L nb) a) (.int (v:Int)) (p.put (aU τ W L nb) a)) (hz:(nb.getD i []).length<1000) :
 ExS C k (.expr (.meth (.sub (.var a9) e) bY [f])) ρ (p.put (aU τ W L nb) a) .next ρ (p.put (aU τ W L (nb.set i (nb.getD i []++[v]))) a):=by
 obtain ⟨o1,o2,o3⟩:=off (p:=p) (a:=2+i) h
 have hg:(p.put (aU τ W L nb) a).get (τ.next+2+i)=some (.list (zN (nb.getD i []))):=by
  rw [Pl3.other (by lia -abstractProof) (by lia -abstractProof) (by lia -abstractProof)];exact rZ hi
 have e1:zN (nb.getD i [])++[V.int (v:Int)]=zN (nb.getD i []++[v]):=by unfold zN;rw [List.map_append];rfl
 have F:=gh (C:=C) (k:=k) (v:=.int (v:Int)) hg (by unfold zN;rw [List.length_map,sizeLine_eq];lia -abstractProof)
 rw [e1,Pl3.set_ (by lia -abstractProof) (by lia -abstractProof) (by lia -abstractProof),x8 hi hl] at F
 exact gF (cL (di (aa hn) he (x5 hi) (Nat.lt_trans (by assumption) (by decide:5<2 ^ 62))) (cS hg (by rw [<-fj,aK];exact PySem.F.slot_list_append) PySem.F.type_list_append) (.bi _) (ah hf aj) F) rfl
noncomputable abbrev inB:List St:=[.ifs (.cmp (.sub (.var aD) (.var n_j)) [.In] [(.var cF)]) [.expr (.meth (.sub (.var a9) (.var n_k)) bY [(.var n_j)]),.expr (.meth (.sub (.var a9) (.var n_j)) bY [(.var n_k)])] []]
noncomputable abbrev lV (p:Pl3) (τ:Sto) (ns:List (List Nat)) (first:Nat):Loc:=[(aA,.loc p.lx),(aD,.list (aC ns)),(aP,.int (first:Int)),(aS,.loc τ.next),(aL,.loc (τ.next+1)),(a9,.list (iD τ))]
noncomputable def small (nb:List (List Nat)) (n:Nat):Prop:=∀ i,(nb.getD i []).length<=n
theorem lu {nb:List (List Nat)} {n i v:Nat} (h:small nb n):small (nb.set i (nb.getD i []++[v])) (n+1):=fun q=>by
 have hq:=h q;have hi:=h i
 rw [List.getD_eq_getElem?_getD,List.getElem?_set]
 split
 ·split
  ·simp only [Option.getD_some,List.length_append,List.length_cons,List.length_nil];exact Nat.add_le_add_right (h i) (0+1)
  ·simp
 ·rw [<-List.getD_eq_getElem?_getD];exact Nat.le_add_right_of_le (h q)
theorem iC {nb:List (List Nat)} {n m:Nat} (h:small nb n) (hm:n<=m):small nb m:=fun i=>Nat.le_trans (h i) hm
theorem jR {tie:Nat->Nat->Bool} {nb:List (List Nat)} {kk n:Nat} (h:small nb n):∀ j,small (kL tie nb kk j) (n+2*j)
 | 0=>h
 | j+1=>by
   have ih:=jR (tie:=tie) (kk:=kk) h j
   dsimp only [kL]
   cases tie j kk with
   | true=>exact iC (lu (lu ih)) (by exact Nat.le_refl (n+2*j+1+1))
   | false=>exact iC ih (by lia -abstractProof)
theorem mw (tie:Nat->Nat->Bool):∀ kk,kk<=5->small (dK tie kk) (10*kk)
 | 0,_=>fun i=>by
   match i with
   | 0=>exact Nat.le_refl _ | 1=>exact Nat.le_refl _ | 2=>exact Nat.le_refl _ | 3=>exact Nat.le_refl _ | 4=>exact Nat.le_refl _ | n+5=>exact Nat.le_refl _
 | kk+1,h=>iC (jR (mw tie kk (by exact Nat.le_of_succ_le h)) kk) (by lia -abstractProof)
noncomputable def InI (p:Pl3) (τ:Sto) (W L nb:List (List Nat)) (a:LS) (tie:Nat->Nat->Bool) (kk:Nat) (base:Loc) (vs:List V) (ρ:Loc) (σ:Sto):Prop :=
 ∃ j:Nat,j<=kk/\vs=aZ (j:Int) (kk - j)/\σ=p.put (aU τ W L (kL tie nb kk j)) a/\(ρ=base\/∃ u,ρ=put base n_j u)
noncomputable def InE (p:Pl3) (τ:Sto) (W L nb:List (List Nat)) (a:LS) (tie:Nat->Nat->Bool) (kk:Nat) (base:Loc) (f:Fl) (ρ:Loc) (σ:Sto):Prop :=
 f=.next/\σ=p.put (aU τ W L (kL tie nb kk kk)) a/\(ρ=base\/∃ u,ρ=put base n_j u)
theorem ug (ρ:Loc) (x:Nm) (u v:V):put (put ρ x u) x v=put ρ x v:=by
 induction ρ with
 | nil=>simp [put,iQ]
 | cons q r ih =>
   obtain ⟨y,w⟩:=q
   cases h:eqn y x with
   | true=>simp [put,h]
   | false=>simp [put,h,ih]
theorem zz (H:COk C) (h:p.Ok τ) {tie:Nat->Nat->Bool} {kk:Nat} {ns tl:List (List Nat)} {base:Loc} (hk:kk<5) (hl:nb.length=5) (hs:small nb 50) (hns:ns.length=5) (ht:∀ j,j<kk->tl.any (·==ns.getD j [])=tie j kk)
 (g1:get base aD=some (.list (aC ns))) (g2:get base cF=some (.list (aC tl))) (g3:get base a9=some (.list (iD τ))) (g4:get base n_k=some (.int (kk:Int))) :
 ∃ f ρ' σ',ForR C k [n_j] inB [] base (p.put (aU τ W L nb) a) (aZ 0 kk) f ρ' σ'/\InE p τ W L nb a tie kk base f ρ' σ':=by
 have gg:∀ (x:Nm) (v:V),x≠n_j->get (put base n_j v) x=get base x:=fun x v hx=>by rw [bN,if_neg hx]
 refine gL (C:=C) (k:=k) (xs:=[n_j]) (body:=inB) (orelse:=[]) (InI p τ W L nb a tie kk base) (InE p τ W L nb a tie kk base) (fun v vs ρ σ hI=>?_) (fun ρ σ hI=>?_) (aZ 0 kk) base (p.put (aU τ W L nb) a) ⟨0,by simp,rfl,rfl,.inl rfl⟩
 ·obtain ⟨j,hj,hv,rfl,hρ⟩:=hI
  have hj':j<kk:=by
   rcases Nat.lt_or_ge j kk with h | h
   ·exact h
   ·rw [show kk - j=0 from by exact Nat.sub_eq_zero_of_le h] at hv;cases hv
  rw [eo (show j<kk by assumption),bz] at hv
  cases hv
  have hb:bI ρ [n_j] (.int (j:Int))=some (put base n_j (.int (j:Int))):=by
   rcases hρ with rfl | ⟨u,rfl⟩
   ·rfl
   ·show some (put (put base n_j u) n_j (.int (j:Int)))=_;rw [ug]
  have hnj:(aC ns)[j]?=some (.str (ns.getD j [])):=uN (by lia -abstractProof)
  have hlen:=rt tie nb kk j
  have hsm:=jR (tie:=tie) (kk:=kk) hs j
  have T:∀ σ,EvT C k (.cmp (.sub (.var aD) (.var n_j)) [.In] [(.var cF)]) (put base n_j (.int (j:Int))) σ (tie j kk) σ:=fun σ=>by
   rw [<-ht j hj']
   exact aJ (di (aa (by rw [gg _ _ (by decide)];exact g1)) (aa (by rw [bN,if_pos rfl])) hnj (by lia -abstractProof)) (aa (by rw [gg _ _ (by decide)];exact g2)) tL aH
  cases hc:tie j kk with
  | false =>
    refine ⟨_,.next,_,_,hb,aq (cp (T _) (fun q=>by rw [hc] at q;cases q) fun _=>aF) aF,j+1,hj',by rfl,?_,.inr ⟨_,rfl⟩⟩
    rw [kL,hc];rfl
  | true =>
    have g3':get (put base n_j (.int (j:Int))) a9=some (.list (iD τ)):=by rw [gg _ _ (by decide)];exact g3
    have gk':get (put base n_j (.int (j:Int))) n_k=some (.int (kk:Int)):=by rw [gg _ _ (by decide)];exact g4
    have gj':get (put base n_j (.int (j:Int))) n_j=some (.int (j:Int)):=by rw [bN,if_pos rfl]
    have s1:=hsm kk
    have s2:=lu (i:=kk) (v:=j) hsm j
    refine ⟨_,.next,_,_,hb,aq (cp (T _) (fun _=>aq (uM h (i:=kk) (v:=j) hk (by lia -abstractProof) g3' (aa gk') (aa gj') (by lia -abstractProof)) (aq (uM h (i:=j) (v:=kk) (by exact Nat.lt_of_le_of_lt hj hk) (by simp;lia -abstractProof) g3' (aa gj') (aa gk') (by lia -abstractProof)) aF)) (fun q=>by rw [hc] at q;cases q)) aF,j+1,hj',by rfl,?_,.inr ⟨_,rfl⟩⟩
    rw [kL,hc];rfl
 ·obtain ⟨j,hj,hv,rfl,hρ⟩:=hI
  have hj':j=kk:=by
   rcases Nat.lt_or_ge j kk with h | h
   ·rw [eo (show j<kk by assumption),bz] at hv;cases hv
   ·exact Nat.le_antisymm hj h
  subst hj'
  exact ⟨.next,ρ,_,aF,rfl,rfl,hρ⟩
end
end
section
open PySem PyProof.Rows
set_option maxRecDepth 100000
section
variable {C:Cx} {k:Nat} {ρ ρ1:Loc} {σ σ1 σ2:Sto} {p:Pl3} {τ:Sto}
theorem vK:nm "split"=mi:=by kernel_rfl
structure ip (C:Cx):Prop where
 L:Lex C
 W:hV C
 K:oZ C
 pv:DefAt C bA cY T_parse_varint
 parts:DefAt C bP fu T_law_parts
 looked:DefAt C dm fU T_law_looked
 round:DefAt C dd iO T_law_round
 names:DefAt C db iV T_law_names
noncomputable abbrev C1:List St:=[.expr (.meth (.var aS) bY [(.meth (.var aA) bc [])]),.expr (.meth (.var aL) bY [(.call (.glob db) [(.var aA)])]),.assign [cF] false (.meth (.sub (.var aL) (.var n_k)) mi [(.cStr [44,32])]),.for_ [n_j] (.call (.glob aO) [(.var n_k)]) inB []]
noncomputable def qI (tie:Nat->Nat->Bool) (ns:List (List Nat)) (l:List Nat) (kk:Nat):Prop:=l.length<=1000/\∃ tl:List (List Nat),Txt.split (ao l) (ao [44,32])=tl.map ao/\∀ j,j<kk->tl.any (·==ns.getD j [])=tie j kk
noncomputable def Eh (p:Pl3) (τ:Sto) (ns:List (List Nat)) (first:Nat) (N:Int) (tie:Nat->Nat->Bool) (prs:List (List Nat × List Nat)) (xe:List Nat) (vs:List V) (ρ:Loc) (σ:Sto):Prop :=
 ∃ (dn td:List (List Nat × List Nat)) (x:List Nat),prs=dn++td/\vs=aZ (dn.length:Int) td.length/\RD x td xe/\x.length<800000/\σ=p.put (aU τ (dn.map (·.1)) (dn.map (·.2)) (dK tie dn.length)) (lsN N x []) /\
   (ρ=lV p τ ns first\/(∃ u w,ρ=lV p τ ns first++[(n_k,u),(cF,w)])\/∃ u w z,ρ=lV p τ ns first++[(n_k,u),(cF,w),(n_j,z)])
noncomputable def Dl (p:Pl3) (τ:Sto) (ns:List (List Nat)) (first:Nat) (N:Int) (tie:Nat->Nat->Bool) (prs:List (List Nat × List Nat)) (xe:List Nat) (f:Fl) (ρ:Loc) (σ:Sto):Prop :=
 f=.next/\σ=p.put (aU τ (prs.map (·.1)) (prs.map (·.2)) (dK tie prs.length)) (lsN N xe []) /\
   (ρ=lV p τ ns first\/(∃ u w,ρ=lV p τ ns first++[(n_k,u),(cF,w)])\/∃ u w z,ρ=lV p τ ns first++[(n_k,u),(cF,w),(n_j,z)])
theorem nZ (l:List (List Nat)) (x:List Nat):aC l++[V.str x]=aC (l++[x]):=by simp [aC]
theorem yL (D:ip C) (h:p.Ok τ) {ns:List (List Nat)} {N:Int} {tie:Nat->Nat->Bool} {dn:List (List Nat × List Nat)} {x w y ww z l x':List Nat} {ρ1:Loc} (hdn:dn.length<5) (hns:ns.length=5) (hx:x.length<800000) (h1:Tk x w y) (h2:Tk y ww z) (h3:NTok 3 ww z l x')
 (hs:qI tie ns l dn.length) (g1:get ρ1 aS=some (.loc τ.next)) (g2:get ρ1 aL=some (.loc (τ.next+1))) (g3:get ρ1 aA=some (.loc p.lx)) (g4:get ρ1 n_k=some (.int (dn.length:Int))) (g5:get ρ1 aD=some (.list (aC ns))) (g6:get ρ1 a9=some (.list (iD τ))) :
 ∃ tl ρ2,ExL C (k+5) C1 ρ1 (p.put (aU τ (dn.map (·.1)) (dn.map (·.2)) (dK tie dn.length)) (lsN N x [])) .next ρ2 (p.put (aU τ ((dn++[(w,l)]).map (·.1)) ((dn++[(w,l)]).map (·.2)) (dK tie (dn.length+1))) (lsN N x' [])) /\
   (ρ2=put ρ1 cF (.list (aC tl))\/∃ u,ρ2=put (put ρ1 cF (.list (aC tl))) n_j u):=by
 have H:=D.W.H
 obtain ⟨hl,tl,hsp,htie⟩:=hs
 have hy:=h1.len
 have hz:=h2.len
 have o0:τ.next≠p.lx/\τ.next≠p.lf/\τ.next≠p.pb:=off (p:=p) (a:=0) h
 have o1:=off (p:=p) (a:=1) h
 have rok:∀ {W L nb},p.Ok (aU τ W L nb):=B6 h
 have S1:ExS C (k+5) (.expr (.meth (.var aS) bY [(.meth (.var aA) bc [])])) ρ1 (p.put (aU τ (dn.map (·.1)) (dn.map (·.2)) (dK tie dn.length)) (lsN N x [])) .next ρ1 (p.put (aU τ ((dn++[(w,l)]).map (·.1)) (dn.map (·.2)) (dK tie dn.length)) (lsN N y [])):=by
  have gw:∀ a,(p.put (aU τ (dn.map (·.1)) (dn.map (·.2)) (dK tie dn.length)) a).get τ.next=some (.list (aC (dn.map (·.1)))):=fun a=>by rw [Pl3.other o0.1 o0.2.1 o0.2.2];exact qv
  have F:=gh (C:=C) (k:=k+5) (v:=.str w) (gw (lsN N y [])) (by simp [aC];rw [sizeLine_eq];lia -abstractProof)
  rw [nZ,Pl3.set_ o0.1 o0.2.1 o0.2.2,xT] at F
  rw [List.map_append]
  exact gF (cL (aa g1) (cS (gw _) (by rw [<-fj,aK];exact PySem.F.slot_list_append) PySem.F.type_list_append) (.bi _) (ah (ka (k:=k+1) D.L rok (aa g3) hx h1) aj) F) rfl
 have S2:ExS C (k+5) (.expr (.meth (.var aL) bY [(.call (.glob db) [(.var aA)])])) ρ1 (p.put (aU τ ((dn++[(w,l)]).map (·.1)) (dn.map (·.2)) (dK tie dn.length)) (lsN N y [])) .next ρ1 (p.put (aU τ ((dn++[(w,l)]).map (·.1)) ((dn++[(w,l)]).map (·.2)) (dK tie dn.length)) (lsN N x' [])):=by
  have gw:∀ a,(p.put (aU τ ((dn++[(w,l)]).map (·.1)) (dn.map (·.2)) (dK tie dn.length)) a).get (τ.next+1)=some (.list (aC (dn.map (·.2)))):=fun a=>by rw [Pl3.other o1.1 o1.2.1 o1.2.2];exact mY
  have F:=gh (C:=C) (k:=k+5) (v:=.str l) (gw (lsN N x' [])) (by simp [aC];rw [sizeLine_eq];lia -abstractProof)
  rw [nZ,Pl3.set_ o1.1 o1.2.1 o1.2.2,xd] at F
  rw [show (dn++[(w,l)]).map (·.2)=dn.map (·.2)++[l] from by simp]
  exact gF (cL (aa g2) (cS (gw _) (by rw [<-fj,aK];exact PySem.F.slot_list_append) PySem.F.type_list_append) (.bi _) (ah (a7 H (ah (aa g3) aj) (AK (k:=k) D.L D.W.B D.names rok (by exact Nat.lt_of_le_of_lt hy hx) h2 h3)) aj) F) rfl
 have S3:ExS C (k+5) (.assign [cF] false (.meth (.sub (.var aL) (.var n_k)) mi [(.cStr [44,32])])) ρ1 (p.put (aU τ ((dn++[(w,l)]).map (·.1)) ((dn++[(w,l)]).map (·.2)) (dK tie dn.length)) (lsN N x' [])) .next (put ρ1 cF (.list (aC tl))) (p.put (aU τ ((dn++[(w,l)]).map (·.1)) ((dn++[(w,l)]).map (·.2)) (dK tie dn.length)) (lsN N x' [])):=by
  have gw:(p.put (aU τ ((dn++[(w,l)]).map (·.1)) ((dn++[(w,l)]).map (·.2)) (dK tie dn.length)) (lsN N x' [])).get (τ.next+1)=some (.list (aC ((dn++[(w,l)]).map (·.2)))):=by rw [Pl3.other o1.1 o1.2.1 o1.2.2];exact mY
  have hi:(aC ((dn++[(w,l)]).map (·.2)))[dn.length]?=some (.str l):=by simp [aC]
  exact ak (cL (mD (aa g2) (aa g4) (nX gw) PySem.F.slot_list_getitem.lookup (rF gw (Dm hi) (by simp) (by lia -abstractProof))) (gZ (by rw [<-vK,aK];exact PySem.F.slot_str_split) PySem.F.type_str_split) (.bi _) (ah bE aj) (wO (by decide) (by rw [sizeLine_eq];lia -abstractProof) hsp)) rfl fun _=>rfl
 have hsm:=mw tie dn.length (by exact Nat.le_of_succ_le hdn)
 obtain ⟨f,ρ',σ',hF,rfl,rfl,hρ⟩:=zz (C:=C) (k:=k+5) (p:=p) (τ:=τ) (W:=(dn++[(w,l)]).map (·.1)) (L:=(dn++[(w,l)]).map (·.2)) (nb:=dK tie dn.length) (a:=lsN N x' []) H h (tie:=tie) (kk:=dn.length) (ns:=ns) (tl:=tl) (base:=put ρ1 cF (.list (aC tl))) hdn (i7 tie _) (iC hsm (by lia -abstractProof)) hns htie
  (by rw [bN,if_neg (by decide)];exact g5) (by rw [bN,if_pos rfl]) (by rw [bN,if_neg (by decide)];exact g6) (by rw [bN,if_neg (by decide)];exact g4)
 refine ⟨tl,ρ',aq S1 (aq S2 (aq S3 (aq (jv (aG H D.W.B.range (ah (aa (by rw [bN,if_neg (by decide)];exact g4)) aj) aW) (by rfl) ?_ hF) aF))),hρ⟩
 ·have:∀ i:Nat,i<5->fJ (.rng 0 (i:Int))=true:=fun i hi=>by
   revert i
   show ∀ i,i<5->_
   exact at5 rfl rfl rfl rfl rfl
  exact this _ hdn
theorem xJ (D:ip C) (h:p.Ok τ) {ns:List (List Nat)} {first:Nat} {N:Int} {tie:Nat->Nat->Bool} {prs:List (List Nat × List Nat)} {x xe:List Nat} (hp:prs.length=5) (hns:ns.length=5) (hx:x.length<800000) (hr:RD x prs xe) (hs:∀ kk q,prs[kk]?=some q->qI tie ns q.2 kk) :
 ∃ f ρ' σ',ForR C (k+5) [n_k] C1 [] (lV p τ ns first) (p.put (aU τ [] [] [[],[],[],[],[]]) (lsN N x [])) (aZ 0 5) f ρ' σ'/\Dl p τ ns first N tie prs xe f ρ' σ':=by
 refine gL (C:=C) (k:=k+5) (xs:=[n_k]) (body:=C1) (orelse:=[]) (Eh p τ ns first N tie prs xe) (Dl p τ ns first N tie prs xe) (fun v vs ρ σ hI=>?_) (fun ρ σ hI=>?_) (aZ 0 5) _ _ ⟨[],prs,x,rfl,by rw [hp];rfl,hr,hx,rfl,.inl rfl⟩
 ·obtain ⟨dn,td,y,rfl,hv,hrd,hy,rfl,hρ⟩:=hI
  cases hrd with
  | nil=>cases hv
  | @cons _ w y1 ww z l x' r _ q1 q2 q3 q4 =>
    rw [List.length_cons,bz] at hv
    cases hv
    have hdn:dn.length<5:=by rw [List.length_append,List.length_cons] at hp;lia -abstractProof
    have hsp:=hs dn.length (w,l) (by simp)
    obtain ⟨ρ1,hb,g1,g2,g3,g4,g5,g6,hform⟩:∃ ρ1,bI ρ [n_k] (.int (dn.length:Int))=some ρ1/\get ρ1 aS=some (.loc τ.next)/\get ρ1 aL=some (.loc (τ.next+1))/\get ρ1 aA=some (.loc p.lx)/\get ρ1 n_k=some (.int (dn.length:Int))/\get ρ1 aD=some (.list (aC ns))/\get ρ1 a9=some (.list (iD τ)) /\
     ∀ t,((put ρ1 cF t=lV p τ ns first++[(n_k,.int (dn.length:Int)),(cF,t)]/\∀ u,put (put ρ1 cF t) n_j u=lV p τ ns first++[(n_k,.int (dn.length:Int)),(cF,t),(n_j,u)]) \/
       ((∃ z,put ρ1 cF t=lV p τ ns first++[(n_k,.int (dn.length:Int)),(cF,t),(n_j,z)])/\∀ u,put (put ρ1 cF t) n_j u=lV p τ ns first++[(n_k,.int (dn.length:Int)),(cF,t),(n_j,u)])):=by
     rcases hρ with rfl | ⟨u,w,rfl⟩ | ⟨u,w,z,rfl⟩
     ·exact ⟨_,rfl,rfl,rfl,rfl,rfl,rfl,rfl,fun t=>.inl ⟨rfl,fun u=>rfl⟩⟩
     ·exact ⟨_,rfl,rfl,rfl,rfl,rfl,rfl,rfl,fun t=>.inl ⟨rfl,fun u=>rfl⟩⟩
     ·exact ⟨_,rfl,rfl,rfl,rfl,rfl,rfl,rfl,fun t=>.inr ⟨⟨z,rfl⟩,fun u=>rfl⟩⟩
    obtain ⟨tl,ρ2,hX,hρ2⟩:=yL (C:=C) (k:=k) (τ:=τ) (N:=N) (tie:=tie) D h hdn hns hy q1 q2 q3 hsp g1 g2 g3 g4 g5 g6
    have hl1:=q1.len;have hl2:=q2.len;have hl3:=q3.len
    refine ⟨ρ1,.next,ρ2,_,hb,hX,dn++[(w,l)],r,x',by simp,by rw [List.length_append];rfl,q4,by lia -abstractProof,by rw [List.length_append];rfl,?_⟩
    rcases hform (.list (aC tl)) with ⟨e1,e2⟩ | ⟨⟨z',e1⟩,e2⟩<;>rcases hρ2 with rfl | ⟨u,rfl⟩
    ·exact .inr (.inl ⟨_,_,e1⟩)
    ·exact .inr (.inr ⟨_,_,_,e2 u⟩)
    ·exact .inr (.inr ⟨_,_,_,e1⟩)
    ·exact .inr (.inr ⟨_,_,_,e2 u⟩)
 ·obtain ⟨dn,td,y,rfl,hv,hrd,hy,rfl,hρ⟩:=hI
  cases td with
  | cons q r=>rw [List.length_cons,bz] at hv;cases hv
  | nil =>
    cases hrd
    exact ⟨.next,ρ,_,aF,rfl,by rw [List.append_nil],hρ⟩
end
end
section
open PySem PyProof.Rows
set_option maxRecDepth 100000
section
variable {C:Cx} {k:Nat} {ρ ρ1:Loc} {σ σ1 σ2:Sto} {p:Pl3} {τ:Sto}
theorem iv {l:Nat} {vs:List V}:∀ (ρ1:Loc),(∀ q∈ρ1,∃ v,get ρ q.1=some v/\Frz l vs v q.2)->∀ x v',get ρ1 x=some v'->∃ v,get ρ x=some v/\Frz l vs v v':=by
 intro ρ1
 induction ρ1 with
 | nil =>
   intro _ x v' h
   cases h
 | cons hd0 r ih =>
   intro hm x v' h
   obtain ⟨y,u⟩:=hd0
   by_cases hx:y=x
   ·subst hx
    have:get ((y,u)::r) y=some u:=by simp [get,iQ]
    rw [this] at h;cases h
    exact hm _ (.head _)
   ·have:get ((y,u)::r) x=get r x:=by simp [get,hJ hx]
    rw [this] at h
    exact ih (fun q hq=>hm q (.tail _ hq)) x v' h
theorem Ae (h:p.Ok τ) (hτ:∀ j,τ.next<=j->τ.get j=none) {W L:List (List Nat)} {n0 n1 n2 n3 n4:List Nat} {a:LS} {first:Nat} {ts:List St} {f:Fl} {σ':Sto} (g1:get ρ aA=some (.loc p.lx)) (g2:get ρ aP=some (.int (first:Int))) (g3:get ρ aS=some (.loc τ.next)) (g4:get ρ aL=some (.loc (τ.next+1))) (g5:get ρ a9=some (.list (iD τ)))
 (hx:ExE C k ts [(aA,.loc p.lx),(aP,.int (first:Int)),(aS,.list (aC W)),(aL,.list (aC L)),(a9,bk [n0,n1,n2,n3,n4])] (p.put (τ.up 7) a) f σ'):ExE C k ts ρ (p.put (aU τ W L [n0,n1,n2,n3,n4]) a) f σ':=by
 obtain ⟨ρ',hx⟩:=hx
 rw [<-Ag (W:=W) (L:=L) (nb:=[n0,n1,n2,n3,n4]) hτ] at hx
 have b:=h.bx;have b2:=h.bf;have b3:=h.bp
 have pd:∀ {τ':Sto} {i:Nat},p.put (τ'.del (τ.next+2+i)) a=(p.put τ' a).del (τ.next+2+i):=fun {τ' i}=>(o7 h (by lia -abstractProof)).symm
 rw [pd,pd,pd,pd,pd,<-o7 h (l:=τ.next+1) (by simp),<-o7 h (l:=τ.next) (by simp)] at hx
 have get0:(p.put (aU τ W L [n0,n1,n2,n3,n4]) a).get τ.next=some (.list (aC W)):=by rw [Pl3.other (by exact Ne.symm (Nat.ne_of_lt b)) (by exact Ne.symm (Nat.ne_of_lt b2)) (by exact Ne.symm (Nat.ne_of_lt b3))];exact qv
 have CL:(p.put (aU τ W L [n0,n1,n2,n3,n4]) a).get (τ.next+1)=some (.list (aC L)):=by rw [Pl3.other (by exact Ne.symm (PySem.W.ktu_ne 1 b)) (by exact Ne.symm (PySem.W.ktu_ne 1 b2)) (by exact Ne.symm (PySem.W.ktu_ne 1 b3))];exact mY
 have getN:∀ i,i<5->(p.put (aU τ W L [n0,n1,n2,n3,n4]) a).get (τ.next+2+i)=some (.list (zN ([n0,n1,n2,n3,n4].getD i []))):=fun i hi=>by rw [Pl3.other (by lia -abstractProof) (by lia -abstractProof) (by lia -abstractProof)];exact rZ hi
 have dget:∀ (σ:Sto) (i j:Nat),j≠i->(σ.del i).get j=σ.get j:=fun σ i j hne=>by simp only [Sto.del];exact if_neg hne
 refine ⟨ρ',ExL.frz get0 (ρ1:=[(aA,.loc p.lx),(aP,.int (first:Int)),(aS,.list (aC W)),(aL,.loc (τ.next+1)),(a9,.list (iD τ))]) (iv _ ?_) ?_⟩
 ·intro q hq
  simp only [List.mem_cons,List.not_mem_nil,or_false] at hq
  rcases hq with rfl | rfl | rfl | rfl | rfl
  ·exact ⟨_,g1,.refl _⟩
  ·exact ⟨_,g2,.refl _⟩
  ·exact ⟨_,g3,.hit⟩
  ·exact ⟨_,g4,.refl _⟩
  ·exact ⟨_,g5,.refl _⟩
 refine ExL.frz (l:=τ.next+1) (vs:=aC L) (by rw [dget _ _ _ (by simp)];exact CL) (ρ1:=[(aA,.loc p.lx),(aP,.int (first:Int)),(aS,.list (aC W)),(aL,.list (aC L)),(a9,.list (iD τ))]) (iv _ ?_) ?_
 ·intro q hq
  simp only [List.mem_cons,List.not_mem_nil,or_false] at hq
  rcases hq with rfl | rfl | rfl | rfl | rfl
  ·exact ⟨_,rfl,.refl _⟩
  ·exact ⟨_,rfl,.refl _⟩
  ·exact ⟨_,rfl,.refl _⟩
  ·exact ⟨_,rfl,.hit⟩
  ·exact ⟨_,rfl,.refl _⟩
 have five:∀ {l:Nat} {vs:List V} {v v':V},Frz l vs v v'->∀ q∈[(aA,V.loc p.lx),(aP,.int (first:Int)),(aS,.list (aC W)),(aL,.list (aC L)),(a9,v')],∃ u,get [(aA,V.loc p.lx),(aP,.int (first:Int)),(aS,.list (aC W)),(aL,.list (aC L)),(a9,v)] q.1=some u/\Frz l vs u q.2:=fun {l vs v v'} hv q hq=>by
  simp only [List.mem_cons,List.not_mem_nil,or_false] at hq
  rcases hq with rfl | rfl | rfl | rfl | rfl
  ·exact ⟨_,rfl,.refl _⟩
  ·exact ⟨_,rfl,.refl _⟩
  ·exact ⟨_,rfl,.refl _⟩
  ·exact ⟨_,rfl,.refl _⟩
  ·exact ⟨_,rfl,hv⟩
 refine ExL.frz (l:=τ.next+2+0) (vs:=zN n0) (by rw [dget _ _ _ (by simp),dget _ _ _ (by simp)];exact getN 0 (by simp)) (iv _ (five (v':=.list [.list (zN n0),.loc (τ.next+2+1),.loc (τ.next+2+2),.loc (τ.next+2+3),.loc (τ.next+2+4)]) (.list (.cons .hit (.cons (.refl _) (.cons (.refl _) (.cons (.refl _) (.cons (.refl _) .nil)))))))) ?_
 refine ExL.frz (l:=τ.next+2+1) (vs:=zN n1) (by rw [dget _ _ _ (by simp),dget _ _ _ (by simp),dget _ _ _ (by lia -abstractProof)];exact getN 1 (by simp)) (iv _ (five (v':=.list [.list (zN n0),.list (zN n1),.loc (τ.next+2+2),.loc (τ.next+2+3),.loc (τ.next+2+4)]) (.list (.cons (.refl _) (.cons .hit (.cons (.refl _) (.cons (.refl _) (.cons (.refl _) .nil)))))))) ?_
 refine ExL.frz (l:=τ.next+2+2) (vs:=zN n2) (by rw [dget _ _ _ (by simp),dget _ _ _ (by simp),dget _ _ _ (by simp),dget _ _ _ (by lia -abstractProof)];exact getN 2 (by simp)) (iv _ (five (v':=.list [.list (zN n0),.list (zN n1),.list (zN n2),.loc (τ.next+2+3),.loc (τ.next+2+4)]) (.list (.cons (.refl _) (.cons (.refl _) (.cons .hit (.cons (.refl _) (.cons (.refl _) .nil)))))))) ?_
 refine ExL.frz (l:=τ.next+2+3) (vs:=zN n3) (by rw [dget _ _ _ (by simp),dget _ _ _ (by simp),dget _ _ _ (by simp),dget _ _ _ (by simp),dget _ _ _ (by lia -abstractProof)];exact getN 3 (by simp)) (iv _ (five (v':=.list [.list (zN n0),.list (zN n1),.list (zN n2),.list (zN n3),.loc (τ.next+2+4)]) (.list (.cons (.refl _) (.cons (.refl _) (.cons (.refl _) (.cons .hit (.cons (.refl _) .nil)))))))) ?_
 exact ExL.frz (l:=τ.next+2+4) (vs:=zN n4) (by rw [dget _ _ _ (by simp),dget _ _ _ (by simp),dget _ _ _ (by simp),dget _ _ _ (by simp),dget _ _ _ (by simp),dget _ _ _ (by lia -abstractProof)];exact getN 4 (by simp)) (iv _ (five (v':=bk [n0,n1,n2,n3,n4]) (.list (.cons (.refl _) (.cons (.refl _) (.cons (.refl _) (.cons (.refl _) (.cons .hit .nil)))))))) hx
end
end
section
open PySem PyProof.Rows
set_option maxRecDepth 100000
section
variable {C:Cx} {k:Nat} {ρ ρ1:Loc} {σ σ1 σ2:Sto} {p:Pl3} {τ:Sto}
theorem qQ (L:Lex C) (h:p.Ok τ) {N:Int} {x:List Nat} {base:Loc} (hl:get base aA=some (.loc p.lx)):∀ (ws:List (List Nat)) (q:List V) (ρ:Loc),(ρ=base\/∃ u,ρ=put base bo u)->q.length+ws.length<900 ->
 ∃ ρ',ForR C (k+1) [bo] [.expr (.meth (.var aA) de [(.var bo)])] [] ρ (p.put τ (lsN N x q)) (aC ws) .next ρ' (p.put τ (lsN N x (q++aC ws)))/\(ρ'=base\/∃ u,ρ'=put base bo u)
 | [],q,ρ,hρ,_=>⟨ρ,by rw [show aC []=[] from rfl,List.append_nil];exact .done aF,hρ⟩
 | w::ws,q,ρ,hρ,hz=>by
   have hb:bI ρ [bo] (.str w)=some (put base bo (.str w)):=by
    rcases hρ with rfl | ⟨u,rfl⟩
    ·rfl
    ·show some (put (put base bo u) bo (.str w))=_;rw [ug]
   obtain ⟨ρ',hF,hr⟩:=qQ L h (N:=N) (x:=x) hl ws (q++[.str w]) (put base bo (.str w)) (.inr ⟨_,rfl⟩) (by simp at hz ⊢;lia -abstractProof)
   refine ⟨ρ',.step hb (aq (gF (rn (b:=lsN N x q) L h (aa (by rw [bN,if_neg (by decide)];exact hl)) (ah (aa (by rw [bN,if_pos rfl])) aj) h (by show q.length<1000;simp at hz;lia -abstractProof)) rfl) aF) ?_,hr⟩
   have:q++aC (w::ws)=q++[.str w]++aC ws:=by simp [aC]
   rw [this];exact hF
structure Rec.Part (r:Rec):Prop where
 a:r.a<262144
 b:r.b<262144
 c:r.c<262144
 hi:r.hi=0\/r.hi=128
theorem sU (D:ip C) (h:p.Ok τ) {N:Int} {x:List Nat} (hx:x.length<800000) (hl:∀ v,get (put ρ n_k v) aA=some (.loc p.lx)) (hf:fresh ρ [n_k]=true):∀ (rs:List Rec) (j:Int) (rest:List V),rs.length+rest.length<1000->(∀ r∈rs,r.Part) ->
 CompR C (k+5) (.call (.glob bP) [(.meth (.var aA) bc [])]) [[n_k]] [] [[]] ρ (p.put τ (lsN N x (aC (rs.map Rec.word)++rest))) (aZ j rs.length) (rs.map Rec.row) (p.put τ (lsN N x rest)):=by
 intro rs
 induction rs with
 | nil =>
   intro j rest _ _
   exact .nil
 | cons r rs ih =>
   intro j rest hr ho
   have o:=ho r (.head _)
   have E:=tC (C:=C) (k:=k+1) (ρ:=put ρ n_k (.int j)) (o:=.var aA) D.L h (a:=lsN N x (.str r.word::(aC (rs.map Rec.word)++rest))) (aa (hl _)) hx (by show (_::(aC (rs.map Rec.word)++rest)).length<1000;simp [aC] at hr ⊢;lia -abstractProof)
   rw [rG] at E
   exact .emit (ρ1:=put ρ n_k (.int j)) rfl hf ⟨rfl,rfl⟩ (a7 D.W.H (ah E aj) (uJ (k:=k+3) D.W.H D.W.B D.pv D.parts o.a o.b o.c o.hi)) (ih (j+1) rest (by simp at hr;lia -abstractProof) fun q hq=>ho q (.tail _ hq))
structure qm (first:Nat) (nbs:List (List Nat)) (r0 r1 r2 r3 r4:List Rec):Prop where
 l0:r0.length=5
 l1:r1.length=5
 l2:r2.length=5
 l3:r3.length=5
 l4:r4.length=5
 o0:∀ r∈r0,r.Ok (first % 2)
 o1:∀ r∈r1,r.Ok ((1+first) % 2)
 o2:∀ r∈r2,r.Ok ((2+first) % 2)
 o3:∀ r∈r3,r.Ok ((3+first) % 2)
 o4:∀ r∈r4,r.Part
 s0:du (first % 2) nbs r0 5=r1.map Rec.word
 s1:du ((1+first) % 2) nbs r1 5=r2.map Rec.word
 s2:du ((2+first) % 2) nbs r2 5=r3.map Rec.word
 s3:du ((3+first) % 2) nbs r3 5=r4.map Rec.word
noncomputable def c9 (rs:List Rec):V:=.list (rs.map Rec.row)
theorem lL (D:ip C) (h:p.Ok τ) {N:Int} {x:List Nat} (hx:x.length<800000) {first:Nat} {nbs:List (List Nat)} {r0 r1 r2 r3 r4:List Rec} (R:qm first nbs r0 r1 r2 r3 r4) (hnb:∀ nb∈nbs,nb.length<100/\∀ i∈nb,i<5) (hnl:nbs.length=5)
 (hl:∀ v,get (put ρ ci v) aA=some (.loc p.lx)) (hn:∀ v,get (put ρ ci v) a9=some (bk nbs)) (hfi:∀ v,get (put ρ ci v) aP=some (.int (first:Int))) (ht:∀ v,get (put ρ ci v) ci=some v) (hf:fresh ρ [ci]=true) :
 CompR C (k+5) (.call (.glob dd) [(.var aA),(.var a9),(.bin .Mod (.bin .Add (.var ci) (.var aP)) (.cInt 2))]) [[ci]] [] [[]] ρ (p.put τ (lsN N x (aC (r0.map Rec.word)))) (aZ 0 4) [c9 r0,c9 r1,c9 r2,c9 r3] (p.put τ (lsN N x (aC (r4.map Rec.word)))):=by
 have one:∀ (j:Nat) (ra rb:List Rec),ra.length=5->(∀ r∈ra,r.Ok ((j+first) % 2))->du ((j+first) % 2) nbs ra 5=rb.map Rec.word ->
  EvE C (k+5) (.call (.glob dd) [(.var aA),(.var a9),(.bin .Mod (.bin .Add (.var ci) (.var aP)) (.cInt 2))]) (put ρ ci (.int (j:Int))) (p.put τ (lsN N x (aC (ra.map Rec.word)))) (c9 ra) (p.put τ (lsN N x (aC (rb.map Rec.word)))):=fun j ra rb hlen ho hs=>by
  rw [<-hs]
  exact a7 D.W.H (ah (aa (hl _)) (ah (aa (hn _)) (ah (cO 2 (by decide) (EvE.eq (v':=.int ((j+first:Nat):Int)) (ap (aa (ht _)) (aa (hfi _)) d7) (congrArg V.int (by rfl)))) aj)))
   (zD (k:=k) D.L D.W D.K D.pv D.parts D.looked D.round h hx (by grind -abstractProof) hlen ho hnb hnl)
 have e0:(0+first) % 2=first % 2:=by rw [Nat.zero_add]
 exact .emit (ρ1:=put ρ ci (.int ((0:Nat):Int))) rfl hf ⟨rfl,rfl⟩ (one 0 r0 r1 R.l0 (by rw [e0];exact R.o0) (by rw [e0];exact R.s0)) (.emit (ρ1:=put ρ ci (.int ((1:Nat):Int))) rfl hf ⟨rfl,rfl⟩ (one 1 r1 r2 R.l1 R.o1 R.s1) (.emit (ρ1:=put ρ ci (.int ((2:Nat):Int))) rfl hf ⟨rfl,rfl⟩ (one 2 r2 r3 R.l2 R.o2 R.s2)
  (.emit (ρ1:=put ρ ci (.int ((3:Nat):Int))) rfl hf ⟨rfl,rfl⟩ (one 3 r3 r4 R.l3 R.o3 R.s3) .nil)))
theorem jP {n:Nat} (hn:σ.next=n):EvE C k (.list []) ρ σ (.loc n) (σ.new (.list [])):=hn▸mM aj (by simp)
theorem Ak {l:List (List Nat)} (h:l.length=5):∃ a b c d e,l=[a,b,c,d,e]:=by
 obtain ⟨a,r,rfl,h1⟩:=qY h
 obtain ⟨b,r,rfl,h2⟩:=qY h1
 obtain ⟨c,d,e,rfl⟩:=CW h2
 exact ⟨a,b,c,d,e,rfl⟩
theorem Dy (D:ip C) (d:DefAt C fm lC T_law_run) (h:p.Ok τ) {ns:List (List Nat)} {first:Nat} {N:Int} {tie:Nat->Nat->Bool} {prs:List (List Nat × List Nat)} {x xe:List Nat} {r0 r1 r2 r3 r4:List Rec} (hp:prs.length=5) (hns:ns.length=5) (hx:x.length<800000) (hxe:xe.length<800000) (hr:RD x prs xe) (hs:∀ kk q,prs[kk]?=some q->qI tie ns q.2 kk)
 (R:qm first (dK tie 5) r0 r1 r2 r3 r4) (hw:prs.map (·.1)=r0.map Rec.word) (hnb:∀ nb∈dK tie 5,nb.length<100/\∀ i∈nb,i<5) :
 Calls C (k+6) fm [.loc p.lx,.list (aC ns),.int (first:Int)] (p.put τ (lsN N x [])) (.tup [.list (aC (prs.map (·.2))),.list [c9 r0,c9 r1,c9 r2,c9 r3,c9 r4]]) (p.put τ (lsN N xe [])):=by
 have H:=D.W.H;have B:=D.W.B
 refine Calls.wf d.fn fun Wf=>?_
 have b1:=h.bx;have b2:=h.bf;have b3:=h.bp
 have hτ:∀ j,τ.next<=j->τ.get j=none:=fun j hj=>by
  cases e:τ.get j with
  | none=>rfl
  | some o =>
    have:=(Wf j o (by rw [Pl3.other (by lia -abstractProof) (by lia -abstractProof) (by lia -abstractProof)];exact e)).1
    exact absurd (show j<τ.next from this) (by exact Iff.mpr Nat.not_lt hj)
 obtain ⟨n0,n1,n2,n3,n4,hn5⟩:=Ak (i7 tie 5)
 have hz:∀ (rs:List Rec),belows τ.next (rs.map Rec.row):=fun rs=>by
  induction rs with
  | nil=>trivial
  | cons r rs ih=>exact ⟨⟨trivial,trivial,trivial,trivial⟩,ih⟩
 have hzt:∀ l:List (List Nat),belows τ.next (aC l):=fun l=>by
  induction l with
  | nil=>trivial
  | cons r rs ih=>exact ⟨trivial,ih⟩
 refine (Calls.drop (σ':=p.put (τ.up 7) (lsN N xe [])) (d.callsE H ?_ rfl) ⟨Nat.le_refl _,Nat.le_add_right _ _,fun l o e=>⟨e,?_⟩⟩ ⟨hzt _,⟨hz _,hz _,hz _,hz _,hz _,trivial⟩,trivial⟩)
 ·unfold T_law_run
  have E1:EvE C (k+5) (.tup [.list [],.list [],.comp (.list []) [[n_k]] [(.call (.glob aO) [(.cInt 5)])] [[]] [ax,n_k]]) [(aA,.loc p.lx),(aD,.list (aC ns)),(aP,.int (first:Int))] (p.put τ (lsN N x [])) (.tup [.loc τ.next,.loc (τ.next+1),.list (iD τ)]) (p.put (aU τ [] [] [[],[],[],[],[]]) (lsN N x [])):=by
   rw [<-AP hτ,<-Pl3.new (h.new.new.new.new.new.new),<-Pl3.new (h.new.new.new.new.new),<-Pl3.new (h.new.new.new.new),<-Pl3.new (h.new.new.new),<-Pl3.new (h.new.new),<-Pl3.new h.new,<-Pl3.new h]
   refine gT (ah (jP rfl) (ah (jP rfl) (ah (CompOk.ev (dU (vs:=aZ 0 5) (aG H B.range (ah aB aj) aW) rfl (by rfl) ?_ (by rw [sizeLine_eq];exact Nat.le_of_ble_eq_true rfl))) aj))) (szl rfl)
   exact .emit (ρ1:=[(aA,.loc p.lx),(aD,.list (aC ns)),(aP,.int (first:Int)),(n_k,.int 0)]) rfl rfl ⟨rfl,rfl⟩ (jP rfl) (.emit (ρ1:=[(aA,.loc p.lx),(aD,.list (aC ns)),(aP,.int (first:Int)),(n_k,.int (0+1))]) rfl rfl ⟨rfl,rfl⟩ (jP rfl)
    (.emit (ρ1:=[(aA,.loc p.lx),(aD,.list (aC ns)),(aP,.int (first:Int)),(n_k,.int (0+1+1))]) rfl rfl ⟨rfl,rfl⟩ (jP rfl) (.emit (ρ1:=[(aA,.loc p.lx),(aD,.list (aC ns)),(aP,.int (first:Int)),(n_k,.int (0+1+1+1))]) rfl rfl ⟨rfl,rfl⟩ (jP rfl)
      (.emit (ρ1:=[(aA,.loc p.lx),(aD,.list (aC ns)),(aP,.int (first:Int)),(n_k,.int (0+1+1+1+1))]) rfl rfl ⟨rfl,rfl⟩ (jP rfl) .nil))))
  refine aw (ρ1:=lV p τ ns first) (σ1:=p.put (aU τ [] [] [[],[],[],[],[]]) (lsN N x [])) (ak E1 rfl fun h=>nomatch h) ?_
  obtain ⟨f,ρ',σ',hF,rfl,rfl,hρ⟩:=xJ (C:=C) (k:=k) D h (first:=first) (N:=N) hp hns hx hr hs
  refine aw (jv (aG H B.range (ah aB aj) aW) rfl (by decide +kernel) hF) ?_
  rw [hp,hn5]
  have gg:get ρ' aA=some (.loc p.lx)/\get ρ' aP=some (.int (first:Int))/\get ρ' aS=some (.loc τ.next)/\get ρ' aL=some (.loc (τ.next+1))/\get ρ' a9=some (.list (iD τ)):=by
   rcases hρ with rfl | ⟨u,w,rfl⟩ | ⟨u,w,z,rfl⟩<;>exact ⟨rfl,rfl,rfl,rfl,rfl⟩
  refine Ae h hτ gg.1 gg.2.1 gg.2.2.1 gg.2.2.2.1 gg.2.2.2.2 ?_
  rw [hw,<-hn5]
  obtain ⟨ρ2,hP,hρ2⟩:=qQ (C:=C) (k:=k+4) (p:=p) (τ:=τ.up 7) D.L (uf h) (N:=N) (x:=xe) (base:=[(aA,.loc p.lx),(aP,.int (first:Int)),(aS,.list (aC (r0.map Rec.word))),(aL,.list (aC (prs.map (·.2)))),(a9,bk (dK tie 5))]) rfl (r0.map Rec.word) [] _ (.inl rfl) (by have:=R.l0;simp;lia -abstractProof)
  refine aw (jv (aa rfl) rfl rfl hP) ?_
  simp only [List.nil_append]
  have fin:∀ ρ3,get ρ3 aA=some (.loc p.lx)->get ρ3 aL=some (.list (aC (prs.map (·.2))))->get ρ3 gC=some (.list [c9 r0,c9 r1,c9 r2,c9 r3])->(∀ v,get (put (dQ ρ3 [ax,n_k]) n_k v) aA=some (.loc p.lx))->fresh (dQ ρ3 [ax,n_k]) [n_k]=true ->
   ExE C (k+5) [.ret (.tup [(.var aL),(.bin .Add (.var gC) (.list [(.comp (.call (.glob bP) [(.meth (.var aA) bc [])]) [[n_k]] [(.call (.glob aO) [(.cInt 5)])] [[]] [ax,n_k])]))])] ρ3 (p.put (τ.up 7) (lsN N xe (aC (r4.map Rec.word)))) (.ret (.tup [.list (aC (prs.map (·.2))),.list [c9 r0,c9 r1,c9 r2,c9 r3,c9 r4]])) (p.put (τ.up 7) (lsN N xe [])):=fun ρ3 q1 q2 q3 q4 q5=>by
   have CP:=sU (C:=C) (k:=k) (p:=p) (τ:=τ.up 7) D (uf h) (N:=N) hxe q4 q5 r4 0 [] (by have:=R.l4;simp;lia -abstractProof) R.o4
   rw [List.append_nil,R.l4] at CP
   refine cE (gT (ah (aa q2) (ah (ap (aa q3) (dA (ah (CompOk.ev (dU (vs:=aZ 0 5) (aG H B.range (ah aB aj) aW) rfl (by decide +kernel) CP (by rw [List.length_map,R.l4,sizeLine_eq];simp))) aj) (szl rfl)) (iK (szl rfl))) aj)) (szl rfl))
  rcases hρ2 with rfl | ⟨u,rfl⟩
  ·refine aw (bQ (dU (vs:=aZ 0 4) (aG H B.range (ah aB aj) aW) rfl (by rfl) (lL (k:=k) D (uf h) (N:=N) hxe R hnb (i7 tie 5) (fun v=>rfl) (fun v=>rfl) (fun v=>rfl) (fun v=>rfl) rfl) (szl rfl))) (fin _ rfl rfl rfl (fun v=>rfl) rfl)
  ·refine aw (bQ (dU (vs:=aZ 0 4) (aG H B.range (ah aB aj) aW) rfl (by decide +kernel) (lL (k:=k) D (uf h) (N:=N) hxe R hnb (i7 tie 5) (fun v=>rfl) (fun v=>rfl) (fun v=>rfl) (fun v=>rfl) rfl) (szl rfl))) (fin _ rfl rfl rfl (fun v=>rfl) rfl)
 ·rw [Pl3.get h] at e
  rw [Pl3.get h]
  by_cases hl:l=p.lx
  ·rw [if_pos hl] at e;cases e
   exact .inr ⟨by rw [hl];exact b1,b2,b3⟩
  ·rw [if_neg hl] at e
   by_cases hl2:l=p.lf
   ·rw [if_pos hl2] at e;cases e
    refine .inr ⟨by rw [hl2];exact b2,?_⟩
    show belows _ (c5 _)
    unfold c5
    induction (lsN N xe []).x with
    | nil=>trivial
    | cons c r ih=>exact ⟨trivial,ih⟩
   ·rw [if_neg hl2] at e
    by_cases hl3:l=p.pb
    ·rw [if_pos hl3] at e;cases e
     exact .inr ⟨by rw [hl3];exact b3,trivial⟩
    ·rw [if_neg hl3] at e
     rw [if_neg hl,if_neg hl2,if_neg hl3]
     exact .inl e
end
end
section
open PySem PyProof.Rows
set_option maxRecDepth 100000
noncomputable abbrev R5:List Nat:=[0,1,2,3,4]
noncomputable def fC (f:Nat->Nat->Int):List (List Int):=R5.map fun x=>R5.map fun y=>f x y
noncomputable def fD (A:List (List Int)):V:=.list (A.map fun r=>.list (zs r))
noncomputable def bU (f g:Nat->Nat->Int) (x y:Nat):Int:=nQ (R5.map fun z=>f x z+g z y)
section
variable {C:Cx} {k:Nat} {ρ ρ1:Loc} {σ σ1 σ2:Sto}
theorem yR {f:Nat->Nat->Int} {e a b:Ex} {x y:Nat} (hx:x<5) (hy:y<5) (he:EvE C k e ρ σ (fD (fC f)) σ) (ha:EvE C k a ρ σ (.int (x:Int)) σ) (hb:EvE C k b ρ σ (.int (y:Int)) σ):EvE C k (.sub (.sub e a) b) ρ σ (.int (f x y)) σ:=by
 have h1:((fC f).map fun r=>V.list (zs r))[x]?=some (.list (zs (R5.map fun y=>f x y))):=by
  revert x
  show ∀ x,x<5->_
  exact at5 (fun _=>rfl) (fun _=>rfl) (fun _=>rfl) (fun _=>rfl) fun _=>rfl
 have h2:(zs (R5.map fun y=>f x y))[y]?=some (.int (f x y)):=by
  revert y
  show ∀ y,y<5->_
  exact at5 (fun _=>rfl) (fun _=>rfl) (fun _=>rfl) (fun _=>rfl) fun _=>rfl
 exact di (di he ha h1 (Nat.lt_trans (by assumption) (by decide:5<2 ^ 62))) hb h2 (Nat.lt_trans (by assumption) (by decide:5<2 ^ 62))
theorem pR:dk (.rng 0 5)=some (R5.map fun i:Nat=>V.int (i:Int)):=rfl
theorem gY {i:Nat} (h:i∈R5):i<5:=by simp at h;lia -abstractProof
theorem mO (H:COk C) (B:Bi C) (d:DefAt C cy fY T_law_joined) {f g:Nat->Nat->Int}:Calls C (k+1) cy [fD (fC f),fD (fC g)] σ (fD (fC (bU f g))) σ:=by
 refine d.callsE H ?_ rfl
 unfold T_law_joined
 refine cE (EvE.eq (v:=.list (R5.map fun x=>V.list (R5.map fun y=>V.int (bU f g x y)))) ?_ ?_)
 ·refine dO (l:=R5) (inj:=fun i:Nat=>.int (i:Int)) (ρ1:=fun x=>[(gz,fD (fC f)),(gO,fD (fC g)),(n_x,.int ((x:Nat):Int))]) (own:=[ax,n_x]) (aG H B.range (ah aB aj) aW) pR (by rfl) rfl (fun i=>rfl) (fun x hx=>?_) (szl rfl)
  refine dO (l:=R5) (inj:=fun i:Nat=>.int (i:Int)) (ρ1:=fun y=>[(gz,fD (fC f)),(gO,fD (fC g)),(n_x,.int ((x:Nat):Int)),(n_y,.int ((y:Nat):Int))]) (own:=[ax,n_y]) (aG H B.range (ah aB aj) aW) pR (by decide +kernel) rfl (fun i=>rfl) (fun y hy=>?_) (szl rfl)
  have E:EvE C k (.comp (.bin .Add (.sub (.sub (.var gz) (.var n_x)) (.var n_z)) (.sub (.sub (.var gO) (.var n_z)) (.var n_y))) [[n_z]] [(.call (.glob aO) [(.cInt 5)])] [[]] [ax,n_z]) [(gz,fD (fC f)),(gO,fD (fC g)),(n_x,.int ((x:Nat):Int)),(n_y,.int ((y:Nat):Int))] σ (.list (zs (R5.map fun z=>f x z+g z y))) σ:=by
   refine EvE.eq (dO (l:=R5) (inj:=fun i:Nat=>.int (i:Int)) (f:=fun z=>.int (f x z+g z y)) (ρ1:=fun z=>[(gz,fD (fC f)),(gO,fD (fC g)),(n_x,.int ((x:Nat):Int)),(n_y,.int ((y:Nat):Int)),(n_z,.int ((z:Nat):Int))]) (own:=[ax,n_z]) (aG H B.range (ah aB aj) aW) pR (by decide +kernel) rfl (fun i=>rfl) (fun z hz=>?_) (szl rfl)) (by rfl)
   exact ap (yR (gY hx) (gY hz) (aa rfl) (aa rfl) (aa rfl)) (yR (gY hz) (gY hy) (aa rfl) (aa rfl) (aa rfl)) d7
  exact aG H B.max (ah E aj) (o9 (by exact Iff.mp List.getLast?_isSome rfl))
 ·rfl
noncomputable def cU (tops:List Nat) (ps:List (Int × Int)) (x y:Nat):Int :=
 if x=y then 0 else if ps.any (·==((x:Int),(y:Int)))||ps.any (·==((y:Int),(x:Int))) then (((tops.getD y 0:Nat):Int) - ((tops.getD x 0:Nat):Int)+1).fmod 3 - 1 else -9
noncomputable def fG (f:Nat->Nat->Int) (x:Nat):Int:=nQ (R5.map fun y=>f x y)
noncomputable def eK (f:Nat->Nat->Int):List Int:=R5.map (fG f)
noncomputable def lr (f:Nat->Nat->Int):List (List Int):=[[0,0,0,0,0],eK f,eK (bU f f),eK (bU (bU f f) f),eK (bU (bU f f) (bU f f))]
theorem Ax (H:COk C) (B:Bi C) (dj:DefAt C cy fY T_law_joined) (d:DefAt C dZ iL T_law_gains) {tops:List Nat} {ps:List (Int × Int)} (ht:tops.length=5) :
 Calls C (k+2) dZ [.list (zN tops),.list (ps.map pr)] σ (fD (lr (cU tops ps))) σ:=by
 refine d.callsE H ?_ rfl
 unfold T_law_gains
 have htop:∀ i,i<5->(zN tops)[i]?=some (.int ((tops.getD i 0:Nat):Int)):=fun i hi=>by
  simp [zN,List.getD_eq_getElem?_getD,List.getElem?_eq_getElem (show i<tops.length by exact Nat.lt_of_lt_of_eq hi (id (Eq.symm ht)))]
 have E1:CompOk C (k+1) (.comp (.comp (.ite (.cmp (.var n_x) [.Eq] [(.var n_y)]) (.cInt 0) (.ite (.boolop .Or [(.cmp (.tup [(.var n_x),(.var n_y)]) [.In] [(.var br)]),(.cmp (.tup [(.var n_y),(.var n_x)]) [.In] [(.var br)])]) (.bin .Sub (.bin .Mod (.bin .Add (.bin .Sub (.sub (.var cH) (.var n_y)) (.sub (.var cH) (.var n_x))) (.cInt 1)) (.cInt 3)) (.cInt 1)) (.neg (.cInt 9)))) [[n_y]] [(.call (.glob aO) [(.cInt 5)])] [[]] [ax,n_y]) [[n_x]] [(.call (.glob aO) [(.cInt 5)])] [[]] [ax,n_x])
  [(cH,.list (zN tops)),(br,.list (ps.map pr))] σ (.list (R5.map fun x=>V.list (R5.map fun y=>V.int (cU tops ps x y)))) σ:=by
  refine dP (l:=R5) (inj:=fun i:Nat=>.int (i:Int)) (ρ1:=fun x=>[(cH,.list (zN tops)),(br,.list (ps.map pr)),(n_x,.int ((x:Nat):Int))]) (own:=[ax,n_x]) (aG H B.range (ah aB aj) aW) pR (by decide +kernel) rfl (fun i=>rfl) (fun x hx=>?_) (szl rfl)
  refine dO (l:=R5) (inj:=fun i:Nat=>.int (i:Int)) (ρ1:=fun y=>[(cH,.list (zN tops)),(br,.list (ps.map pr)),(n_x,.int ((x:Nat):Int)),(n_y,.int ((y:Nat):Int))]) (own:=[ax,n_y]) (aG H B.range (ah aB aj) aW) pR (by decide +kernel) rfl (fun i=>rfl) (fun y hy=>?_) (szl rfl)
  refine ed (c:=((x:Int)==(y:Int))) (aJ (aa rfl) (aa rfl) lN aH) (fun h=>?_) (fun h=>?_)
  ·rw [cU,if_pos (by have:=beq_iff_eq.mp h;exact Iff.mp Int.ofNat_inj this)];exact aB
  ·have hne:x≠y:=fun q=>by rw [q] at h;simp at h
   have T:∀ (a b:Nm) (i j:Nat),get [(cH,V.list (zN tops)),(br,.list (ps.map pr)),(n_x,.int ((x:Nat):Int)),(n_y,.int ((y:Nat):Int))] a=some (.int (i:Int))->get [(cH,V.list (zN tops)),(br,.list (ps.map pr)),(n_x,.int ((x:Nat):Int)),(n_y,.int ((y:Nat):Int))] b=some (.int (j:Int)) ->
    EvT C (k+1) (.cmp (.tup [(.var a),(.var b)]) [.In] [(.var br)]) [(cH,.list (zN tops)),(br,.list (ps.map pr)),(n_x,.int ((x:Nat):Int)),(n_y,.int ((y:Nat):Int))] σ (ps.any (·==((i:Int),(j:Int)))) σ:=fun a b i j ha hb =>
    aJ (gT (ah (aa ha) (ah (aa hb) aj)) (szl rfl)) (aa rfl) (rl (a:=((i:Int),(j:Int)))) aH
   refine ed (ul (T n_x n_y x y rfl rfl) (T n_y n_x y x rfl rfl)) (fun h=>?_) (fun h=>?_)
   ·rw [cU,if_neg hne,if_pos h]
    exact ap (ap (ap (ap (di (aa rfl) (aa rfl) (htop y (gY hy)) (by have:=gY hy;lia -abstractProof)) (di (aa rfl) (aa rfl) (htop x (gY hx)) (by have:=gY hx;lia -abstractProof)) sn) aB d7) aB (fV (by decide))) aB sn
   ·rw [cU,if_neg hne,if_neg (by rw [h];simp)]
    exact x9 aB tT
 have e1:V.list (R5.map fun x=>V.list (R5.map fun y=>V.int (cU tops ps x y)))=fD (fC (cU tops ps)):=by rfl
 rw [e1] at E1
 refine aw (ρ1:=[(cH,.list (zN tops)),(br,.list (ps.map pr)),(gz,fD (fC (cU tops ps)))]) (σ1:=σ) (bQ E1) ?_
 refine aw (ρ1:=[(cH,.list (zN tops)),(br,.list (ps.map pr)),(gz,fD (fC (cU tops ps))),(gO,fD (fC (bU (cU tops ps) (cU tops ps))))]) (σ1:=σ) (ak (a7 H (ah (aa rfl) (ah (aa rfl) aj)) (mO (k:=k) H B dj)) rfl fun _=>rfl) ?_
 refine aw (ρ1:=[(cH,.list (zN tops)),(br,.list (ps.map pr)),(gz,fD (fC (cU tops ps))),(gO,fD (fC (bU (cU tops ps) (cU tops ps)))),(my,.list [fD (fC (cU tops ps)),fD (fC (bU (cU tops ps) (cU tops ps))),fD (fC (bU (bU (cU tops ps) (cU tops ps)) (cU tops ps))),fD (fC (bU (bU (cU tops ps) (cU tops ps)) (bU (cU tops ps) (cU tops ps))))])]) (σ1:=σ)
  (ak (dA (ah (aa rfl) (ah (aa rfl) (ah (a7 H (ah (aa rfl) (ah (aa rfl) aj)) (mO (k:=k) H B dj)) (ah (a7 H (ah (aa rfl) (ah (aa rfl) aj)) (mO (k:=k) H B dj)) aj)))) (szl rfl)) rfl fun _=>rfl) ?_
 have T:∀ (f:Nat->Nat->Int) (ρ2:Loc),get ρ2 jV=some (fD (fC f))->(∀ v,fresh (dQ ρ2 [ax,dJ]) [dJ]=true/\∃ ρ3,bI (dQ ρ2 [ax,dJ]) [dJ] v=some ρ3/\get ρ3 dJ=some v)->EvE C (k+1) (.comp (.call (.glob jp) [(.var dJ)]) [[dJ]] [(.var jV)] [[]] [ax,dJ]) ρ2 σ (.list (zs (eK f))) σ:=fun f ρ2 hg hb=>by
  refine CompOk.ev (dU (vs:=(fC f).map fun r=>.list (zs r)) (aa hg) rfl rfl ?_ (by rw [sizeLine_eq];delta zs eK;rw [List.length_map,List.length_map];decide))
  have M:∀ x,EvE C (k+1) (.call (.glob jp) [(.var dJ)]) ((bI (dQ ρ2 [ax,dJ]) [dJ] (.list (zs (R5.map fun y=>f x y)))).getD []) σ (.int (fG f x)) σ:=fun x=>by
   obtain ⟨_,ρ3,b,g⟩:=hb (.list (zs (R5.map fun y=>f x y)))
   rw [b]
   exact aG H B.max (ah (aa g) aj) (o9 (by exact Iff.mp List.getLast?_isSome rfl))
  have bb:∀ v,bI (dQ ρ2 [ax,dJ]) [dJ] v=some ((bI (dQ ρ2 [ax,dJ]) [dJ] v).getD []):=fun v=>by
   obtain ⟨_,ρ3,b,g⟩:=hb v
   rw [b];rfl
  have hf:=(hb .none).1
  exact .emit (bb _) hf ⟨rfl,rfl⟩ (M 0) (.emit (bb _) hf ⟨rfl,rfl⟩ (M 1) (.emit (bb _) hf ⟨rfl,rfl⟩ (M 2) (.emit (bb _) hf ⟨rfl,rfl⟩ (M 3) (.emit (bb _) hf ⟨rfl,rfl⟩ (M 4) .nil))))
 refine cE (EvE.eq (v:=.list ([V.list (zs [0,0,0,0,0])]++[V.list (zs (eK (cU tops ps))),.list (zs (eK (bU (cU tops ps) (cU tops ps)))),.list (zs (eK (bU (bU (cU tops ps) (cU tops ps)) (cU tops ps)))),.list (zs (eK (bU (bU (cU tops ps) (cU tops ps)) (bU (cU tops ps) (cU tops ps)))))])) ?_ (by rfl))
 refine ap (dA (ah (dA (ah aB (ah aB (ah aB (ah aB (ah aB aj))))) (szl rfl)) aj) (szl rfl)) (CompOk.ev (dU (aa rfl) rfl rfl ?_ (szl rfl))) (iK (szl rfl))
 exact .emit rfl rfl ⟨rfl,rfl⟩ (T _ _ rfl fun v=>⟨rfl,_,rfl,rfl⟩) (.emit rfl rfl ⟨rfl,rfl⟩ (T _ _ rfl fun v=>⟨rfl,_,rfl,rfl⟩) (.emit rfl rfl ⟨rfl,rfl⟩ (T _ _ rfl fun v=>⟨rfl,_,rfl,rfl⟩) (.emit rfl rfl ⟨rfl,rfl⟩ (T _ _ rfl fun v=>⟨rfl,_,rfl,rfl⟩) .nil)))
end
end
section
open PySem PyProof.Rows
set_option maxRecDepth 100000
noncomputable def ke (h k:Nat):Nat :=
 let low:=h / 6 % 40*3840+h % 64
 let mid:=low+h / 240 % 50*64
 let top:=mid+64+h / 12000*1280
 let most:=h % 3
 let second:=(most+1+h / 3 % 2) % 3
 if k=most then top else if k=second then mid else low
noncomputable def o8 (h:Nat):List Nat:=[ke h 0,ke h 1,ke h 2]
noncomputable def prN:List (Nat × Nat):=[(0,1),(0,2),(0,3),(0,4),(1,2),(1,3),(1,4),(2,3),(2,4),(3,4)]
noncomputable def pN (q:Nat × Nat):V:=.tup [.int (q.1:Int),.int (q.2:Int)]
noncomputable def cG (m:Nat):List (Nat × Nat):=((List.range 10).filter fun k=>decide (m / 2 ^ k % 2≠0)).map fun k=>prN.getD k (0,0)
noncomputable def bj (m:Nat):Nat:=m / 1024 % 30
noncomputable def bV (m k:Nat):List (Nat × Nat):=(cG m).filter fun q=>decide (q.2=k)
noncomputable def eZ (m k:Nat):Nat:=((bV m k).map fun q=>2 ^ (bj m+q.1)).sum
noncomputable def d9 (m:Nat):List (List Nat):=R5.map fun k=>bM (bj m+k)
noncomputable def eI (m k:Nat):List Nat:=bH [44,32] (cJ (eZ m k))
noncomputable def bZ (m:Nat):List (List Nat):=R5.map (eI m)
noncomputable def fR (m k:Nat):List Nat:=bH [44,32] ((bV m k).map fun q=>bM (bj m+q.1))
noncomputable def nK (m k:Nat):List Nat:=if fR m k=[] then [48,120,48] else fR m k
noncomputable def jY:List Nat->Nat
 | []=>0
 | a::l=>max a (jY l)
noncomputable def xb (c:List Nat):Nat:=c.idxOf (jY c)
noncomputable def psI (m:Nat):List (Int × Int):=(cG m).map fun q=>((q.1:Int),(q.2:Int))
noncomputable def nh (cols:List (List Nat)) (g:List Int) (x:Nat):List Nat:=[0,1,2].map fun k=>(cols.getD x []).getD (((k:Int) - g.getD x 0).fmod 3).toNat 0
noncomputable def iI (cols:List (List Nat)) (g:List Int):List (List Nat):=R5.map (nh cols g)
noncomputable def iS (cols:List (List Nat)):List Nat:=cols.map xb
noncomputable def dc (m:Nat) (cols:List (List Nat)):List (List Int):=lr (cU (iS cols) (psI m))
section
variable {C:Cx} {k:Nat} {ρ ρ1:Loc} {σ σ1 σ2:Sto}
theorem vX (H:COk C) (B:Bi C) (d:DefAt C dq iA T_law_colour) {h:Nat}:Calls C (k+1) dq [.int (h:Int)] σ (.list (zN (o8 h))) σ:=by
 refine d.callsE H ?_ rfl
 unfold T_law_colour
 refine aw (ρ1:=[(cT,.int (h:Int)),(kT,.int ((h / 6 % 40*3840+h % 64:Nat):Int))]) (σ1:=σ) (ak (EvE.eq (ap (mo 3840 (.of_right (by decide)) (cO 40 (by decide) (ew 6 (by simp) (by simp) (aa rfl)))) (cO 64 (by decide) (aa rfl)) d7) (congrArg V.int (Int.natCast_add _ _).symm)) rfl fun _=>rfl) ?_
 refine aw (ρ1:=[(cT,.int (h:Int)),(kT,.int ((h / 6 % 40*3840+h % 64:Nat):Int)),(fx,.int ((h / 6 % 40*3840+h % 64+h / 240 % 50*64:Nat):Int))]) (σ1:=σ)
  (ak (EvE.eq (ap (aa rfl) (mo 64 (.of_right (by decide)) (cO 50 (by decide) (ew 240 (by simp) (by simp) (aa rfl)))) d7) (congrArg V.int (Int.natCast_add _ _).symm)) rfl fun _=>rfl) ?_
 refine aw (ρ1:=[(cT,.int (h:Int)),(kT,.int ((h / 6 % 40*3840+h % 64:Nat):Int)),(fx,.int ((h / 6 % 40*3840+h % 64+h / 240 % 50*64:Nat):Int)),(oq,.int ((h / 6 % 40*3840+h % 64+h / 240 % 50*64+64+h / 12000*1280:Nat):Int))]) (σ1:=σ)
  (ak (EvE.eq (ap (ap (aa rfl) aB d7) (mo 1280 (.of_right (by decide)) (ew 12000 (by simp) (by simp) (aa rfl))) d7) (congrArg V.int (by simp))) rfl fun _=>rfl) ?_
 refine aw (ρ1:=[(cT,.int (h:Int)),(kT,.int ((h / 6 % 40*3840+h % 64:Nat):Int)),(fx,.int ((h / 6 % 40*3840+h % 64+h / 240 % 50*64:Nat):Int)),(oq,.int ((h / 6 % 40*3840+h % 64+h / 240 % 50*64+64+h / 12000*1280:Nat):Int)),(jE,.int ((h % 3:Nat):Int))]) (σ1:=σ)
  (ak (cO 3 (by decide) (aa rfl)) rfl fun _=>rfl) ?_
 refine aw (ρ1:=[(cT,.int (h:Int)),(kT,.int ((h / 6 % 40*3840+h % 64:Nat):Int)),(fx,.int ((h / 6 % 40*3840+h % 64+h / 240 % 50*64:Nat):Int)),(oq,.int ((h / 6 % 40*3840+h % 64+h / 240 % 50*64+64+h / 12000*1280:Nat):Int)),(jE,.int ((h % 3:Nat):Int)),(iT,.int (((h % 3+1+h / 3 % 2) % 3:Nat):Int))]) (σ1:=σ)
  (ak (cO 3 (by decide) (EvE.eq (v':=.int ((h % 3+1+h / 3 % 2:Nat):Int)) (ap (ap (aa rfl) aB d7) (cO 2 (by decide) (ew 3 (by simp) (by simp) (aa rfl))) d7) (congrArg V.int (by rfl)))) rfl fun _=>rfl) ?_
 refine cE (EvE.eq (v:=.list ([0,1,2].map fun i=>V.int ((ke h i:Nat):Int))) ?_ rfl)
 refine dO (l:=[0,1,2]) (inj:=fun i:Nat=>.int (i:Int)) (own:=[ax,n_k]) (ρ1:=fun i=>[(cT,.int (h:Int)),(kT,.int ((h / 6 % 40*3840+h % 64:Nat):Int)),(fx,.int ((h / 6 % 40*3840+h % 64+h / 240 % 50*64:Nat):Int)),(oq,.int ((h / 6 % 40*3840+h % 64+h / 240 % 50*64+64+h / 12000*1280:Nat):Int)),(jE,.int ((h % 3:Nat):Int)),(iT,.int (((h % 3+1+h / 3 % 2) % 3:Nat):Int)),(n_k,.int ((i:Nat):Int))])
  (aG H B.range (ah aB aj) aW) rfl (by rfl) rfl (fun i=>rfl) (fun i hi=>?_) (szl rfl)
 have eqT:∀ (a b:Nm) (x y:Nat) (ρ2:Loc),get ρ2 a=some (.int (x:Int))->get ρ2 b=some (.int (y:Int))->EvT C k (.cmp (.var a) [.Eq] [(.var b)]) ρ2 σ (decide (x=y)) σ:=fun a b x y ρ2 ha hb=>by
  rw [show decide (x=y)=((x:Int)==(y:Int)) from by rw [Bool.eq_iff_iff];simp;exact Iff.symm Int.ofNat_inj]
  exact aJ (aa ha) (aa hb) lN aH
 unfold ke
 simp only
 refine ed (eqT n_k jE i (h % 3) _ rfl rfl) (fun q=>?_) (fun q=>?_)
 ·rw [if_pos (of_decide_eq_true q)];exact aa rfl
 ·rw [if_neg (of_decide_eq_false q)]
  refine ed (eqT n_k iT i ((h % 3+1+h / 3 % 2) % 3) _ rfl rfl) (fun q=>?_) (fun q=>?_)
  ·rw [if_pos (of_decide_eq_true q)];exact aa rfl
  ·rw [if_neg (of_decide_eq_false q)];exact aa rfl
end
end
section
open PySem PyProof.Rows
set_option maxRecDepth 100000
noncomputable def baseL:List Int:=[8226,177994,999122,995995,31690,8727,127204]
noncomputable def ai (l:List Int) (k:Nat):Nat:=((baseL.getD k 0+(bX (bX l none (some 60) none) (some (k:Int)) none (some 7)).sum).fmod 1000000).toNat
noncomputable def Rec.rowN (r:Rec):List Nat:=[r.a,r.b,r.c]
noncomputable def fE (m j k:Nat):Bool:=(cG m).any fun q=>decide (q.1=j)&&decide (q.2=k)
structure iX (m s:Nat) (cols:List (List Nat)):Prop where
 len:∀ k,k<5->(eI m k).length<=1000
 mask:∀ k,k<5->eZ m k<2 ^ 33
 read:∃ xe,RD (jl cols (bZ m) s) ((List.range 5).map fun j=>(cz (cols.getD j []) (dw s j / 2*128),eI m j)) xe/\Tk xe [101,110,100] []
 split:∀ k,k<5->qI (fE m) (d9 m) (eI m k) k
 told:∀ k,k<5->eI m k=nK m k
 nb:∀ nb∈dK (fE m) 5,nb.length<100/\∀ i∈nb,i<5
 small:∀ k,k<5->(fR m k).length<10000/\eC ((bV m k).map fun q=>bM (bj m+q.1))+((bV m k).map fun q=>bM (bj m+q.1)).length*2<=sizeLine
 ok:∀ k,k<5->∀ c∈eI m k,c<1114112
 count:Txt.count (ao (jl cols (bZ m) s)) (ao [10])=cnt (jl cols (bZ m) s)
 rounds:∃ r0 r1 r2 r3 r4,qm (s / 12288 % 2) (dK (fE m) 5) r0 r1 r2 r3 r4/\r0.map Rec.word=(List.range 5).map (fun j=>cz (cols.getD j []) (dw s j / 2*128)) /\
  [r0.map Rec.rowN,r1.map Rec.rowN,r2.map Rec.rowN,r3.map Rec.rowN,r4.map Rec.rowN]=(dc m cols).map (iI cols)
theorem rz {m:Nat} {q:Nat × Nat} (h:q∈cG m):q.1<5/\q.2<5:=by
 obtain ⟨k,hk,rfl⟩:=List.mem_map.mp h
 have hk:=List.mem_range.mp (List.mem_filter.mp hk).1
 have:∀ k,k<10->(prN.getD k (0,0)).1<5/\(prN.getD k (0,0)).2<5:=by decide
 exact this k hk
theorem yf (l:List Nat):(l.map fun a:Nat=>(a:Int)).sum=((l.sum:Nat):Int):=by
 induction l with
 | nil=>rfl
 | cons a l ih=>simp [ih]
theorem vT:∀ l:List Nat,l≠[]->nQ (l.map fun a:Nat=>(a:Int))=((jY l:Nat):Int):=fun l h=>by
 have hm:∀ l:List Nat,l≠[]->jY l∈l/\∀ b∈l,b<=jY l:=fun l=>by
  induction l with
  | nil=>intro h;exact absurd rfl h
  | cons a l ih =>
    intro _
    cases l with
    | nil=>simp [jY]
    | cons b r =>
      obtain ⟨h1,h2⟩:=ih (by simp)
      refine ⟨?_,fun c hc=>?_⟩
      ·show max a (jY (b::r))∈_
       rcases Nat.le_total a (jY (b::r)) with h | h
       ·rw [Nat.max_eq_right h];exact .tail _ h1
       ·rw [Nat.max_eq_left h];exact .head _
      ·rcases List.mem_cons.mp hc with rfl | hc
       ·exact Nat.le_max_left _ _
       ·exact Nat.le_trans (h2 c hc) (Nat.le_max_right _ _)
 obtain ⟨h1,h2⟩:=hm l h
 refine uC (List.mem_map.mpr ⟨_,h1,rfl⟩) fun b hb=>?_
 obtain ⟨c,hc,rfl⟩:=List.mem_map.mp hb
 have:=h2 c hc
 exact Iff.mpr Int.ofNat_le (h2 c hc)
theorem yn (l:List Nat) (a:Nat):(l.map fun a:Nat=>(a:Int)).idxOf (a:Int)=l.idxOf a:=by
 induction l with
 | nil=>rfl
 | cons b l ih =>
   rw [List.map_cons,List.idxOf_cons,List.idxOf_cons,ih]
   have:((b:Int)==(a:Int))=(b==a):=by rw [Bool.eq_iff_iff];simp;exact Int.ofNat_inj
   rw [this]
theorem yQ {l:List Nat} (h:l≠[]):jY l∈l:=by
 induction l with
 | nil=>exact absurd rfl h
 | cons a l ih =>
   show max a (jY l)∈_
   cases l with
   | nil=>simp [jY]
   | cons b r =>
     rcases Nat.le_total a (jY (b::r)) with h | h
     ·rw [Nat.max_eq_right h];exact .tail _ (ih (by simp))
     ·rw [Nat.max_eq_left h];exact .head _
section
variable {C:Cx} {k:Nat} {ρ ρ1:Loc} {σ σ1 σ2:Sto}
structure ej (C:Cx):Prop where
 D:ip C
 run:DefAt C fm lC T_law_run
 joined:DefAt C cy fY T_law_joined
 gains:DefAt C dZ iL T_law_gains
 colour:DefAt C dq iA T_law_colour
 name:DefAt C eG jC T_law_name
 text:DefAt C eE jB T_law_text
 flags:DefAt C cC gx T_pretty_flags
 dict:C.glob ba=some kr
 lexer:∃ a,C.glob dR=some (.fn a)/\jU C a
noncomputable abbrev Bt:Ex:=.bin .Mod (.bin .Add (.sub (.var dt) (.var n_k)) (.call (.glob oK) [(.slice (.var aP) [some (.var n_k),none,some (.cInt 7)])])) (.bin .Pow (.cInt 10) (.cInt 6))
theorem AT (H:COk C) (B:Bi C) {l:List Int} {j:Nat} (hj:j<7) (hl:l.length<=1000) (g1:get ρ dt=some (.list (zs baseL))) (g2:get ρ aP=some (.list (zs (bX l none (some 60) none)))) (g3:get ρ n_k=some (.int (j:Int))) (hf:(bX l none (some 60) none).length<=1000):EvE C k Bt ρ σ (.int ((ai l j:Nat):Int)) σ:=by
 have hb:(zs baseL)[j]?=some (.int (baseL.getD j 0)):=by
  clear g3
  revert j
  show ∀ j,j<7->_
  exact at7 rfl rfl rfl rfl rfl rfl rfl
 refine EvE.eq (v:=.int ((baseL.getD j 0+(bX (bX l none (some 60) none) (some (j:Int)) none (some 7)).sum).fmod 1000000)) (ap (ap (di (aa g1) (aa g3) hb (Nat.lt_of_lt_of_le (by assumption) (by decide))) (aG H B.sum (ah (iP (il:=some (j:Int)) (ih:=none) (is:=some 7) (aa g2) (aa g3:EvE C k (.var n_k) _ _ _ _) trivial (aB:EvE C k (.cInt 7) _ _ _ _) gB PySem.F.slot_list_getitem.lookup (mC (by decide) (by rw [sizeLine_eq];lia -abstractProof))) aj) yr) d7) (EvE.eq (v':=.int 1000000) (ap aB aB (y5 (by simp) (by simp) (by simp))) rfl) (fV (by decide))) (congrArg V.int ?_)
 have:=Int.fmod_nonneg_of_pos (baseL.getD j 0+(bX (bX l none (some 60) none) (some (j:Int)) none (some 7)).sum) (show (0:Int)<1000000 by simp)
 unfold ai
 exact Iff.mpr Int.eq_natCast_toNat this
end
noncomputable def aQ (l:List Int):List (List Nat):=[o8 (ai l 0),o8 (ai l 1),o8 (ai l 2),o8 (ai l 3),o8 (ai l 4)]
noncomputable def fw (l:List Int):List Nat:=jl (aQ l) (bZ (ai l 5)) (ai l 6)
noncomputable abbrev L1 (l:List Int):Loc:=[(bO,.list (zs l))]
noncomputable abbrev L2 (l:List Int):Loc:=[(bO,.list (zs l)),(aP,.list (zs (bX l none (some 60) none)))]
noncomputable abbrev L3 (l:List Int):Loc:=[(bO,.list (zs l)),(aP,.list (zs (bX l none (some 60) none))),(dt,.list (zs baseL))]
noncomputable abbrev L4 (l:List Int):Loc:=[(bO,.list (zs l)),(aP,.list (zs (bX l none (some 60) none))),(dt,.list (zs baseL)),(bq,.list (zN [ai l 0,ai l 1,ai l 2,ai l 3,ai l 4,ai l 5,ai l 6]))]
noncomputable abbrev L5 (l:List Int):Loc:=[(bO,.list (zs l)),(aP,.list (zs (bX l none (some 60) none))),(dt,.list (zs baseL)),(bq,.list (zN [ai l 0,ai l 1,ai l 2,ai l 3,ai l 4,ai l 5,ai l 6])),(aI,bk (aQ l))]
noncomputable abbrev L6 (l:List Int):Loc:=[(bO,.list (zs l)),(aP,.list (zs (bX l none (some 60) none))),(dt,.list (zs baseL)),(bq,.list (zN [ai l 0,ai l 1,ai l 2,ai l 3,ai l 4,ai l 5,ai l 6])),(aI,bk (aQ l)),(dS,.list (prN.map pN))]
noncomputable abbrev L7 (l:List Int):Loc:=[(bO,.list (zs l)),(aP,.list (zs (bX l none (some 60) none))),(dt,.list (zs baseL)),(bq,.list (zN [ai l 0,ai l 1,ai l 2,ai l 3,ai l 4,ai l 5,ai l 6])),(aI,bk (aQ l)),(dS,.list (prN.map pN)),(br,.list ((cG (ai l 5)).map pN))]
noncomputable abbrev L8 (l:List Int):Loc:=[(bO,.list (zs l)),(aP,.list (zs (bX l none (some 60) none))),(dt,.list (zs baseL)),(bq,.list (zN [ai l 0,ai l 1,ai l 2,ai l 3,ai l 4,ai l 5,ai l 6])),(aI,bk (aQ l)),(dS,.list (prN.map pN)),(br,.list ((cG (ai l 5)).map pN)),(dH,.int ((bj (ai l 5):Nat):Int))]
noncomputable abbrev L9 (l:List Int):Loc:=[(bO,.list (zs l)),(aP,.list (zs (bX l none (some 60) none))),(dt,.list (zs baseL)),(bq,.list (zN [ai l 0,ai l 1,ai l 2,ai l 3,ai l 4,ai l 5,ai l 6])),(aI,bk (aQ l)),(dS,.list (prN.map pN)),(br,.list ((cG (ai l 5)).map pN)),(dH,.int ((bj (ai l 5):Nat):Int)),(aD,.list (aC (d9 (ai l 5))))]
noncomputable abbrev L10 (l:List Int):Loc:=[(bO,.list (zs l)),(aP,.list (zs (bX l none (some 60) none))),(dt,.list (zs baseL)),(bq,.list (zN [ai l 0,ai l 1,ai l 2,ai l 3,ai l 4,ai l 5,ai l 6])),(aI,bk (aQ l)),(dS,.list (prN.map pN)),(br,.list ((cG (ai l 5)).map pN)),(dH,.int ((bj (ai l 5):Nat):Int)),(aD,.list (aC (d9 (ai l 5)))),(dW,.list (zN (R5.map (eZ (ai l 5)))))]
noncomputable abbrev L11 (l:List Int):Loc:=[(bO,.list (zs l)),(aP,.list (zs (bX l none (some 60) none))),(dt,.list (zs baseL)),(bq,.list (zN [ai l 0,ai l 1,ai l 2,ai l 3,ai l 4,ai l 5,ai l 6])),(aI,bk (aQ l)),(dS,.list (prN.map pN)),(br,.list ((cG (ai l 5)).map pN)),(dH,.int ((bj (ai l 5):Nat):Int)),(aD,.list (aC (d9 (ai l 5)))),(dW,.list (zN (R5.map (eZ (ai l 5))))),(aN,.str (fw l))]
noncomputable abbrev L12 (l:List Int) (lx:Nat):Loc:=[(bO,.list (zs l)),(aP,.list (zs (bX l none (some 60) none))),(dt,.list (zs baseL)),(bq,.list (zN [ai l 0,ai l 1,ai l 2,ai l 3,ai l 4,ai l 5,ai l 6])),(aI,bk (aQ l)),(dS,.list (prN.map pN)),(br,.list ((cG (ai l 5)).map pN)),(dH,.int ((bj (ai l 5):Nat):Int)),(aD,.list (aC (d9 (ai l 5)))),(dW,.list (zN (R5.map (eZ (ai l 5))))),(aN,.str (fw l)),(aA,.loc lx)]
noncomputable abbrev L14 (l:List Int) (lx:Nat) (sv:List V):Loc:=[(bO,.list (zs l)),(aP,.list (zs (bX l none (some 60) none))),(dt,.list (zs baseL)),(bq,.list (zN [ai l 0,ai l 1,ai l 2,ai l 3,ai l 4,ai l 5,ai l 6])),(aI,bk (aQ l)),(dS,.list (prN.map pN)),(br,.list ((cG (ai l 5)).map pN)),(dH,.int ((bj (ai l 5):Nat):Int)),(aD,.list (aC (d9 (ai l 5)))),(dW,.list (zN (R5.map (eZ (ai l 5))))),(aN,.str (fw l)),(aA,.loc lx),(aL,.list (aC (bZ (ai l 5)))),(gC,.list sv)]
noncomputable abbrev L15 (l:List Int) (lx:Nat) (sv:List V):Loc:=[(bO,.list (zs l)),(aP,.list (zs (bX l none (some 60) none))),(dt,.list (zs baseL)),(bq,.list (zN [ai l 0,ai l 1,ai l 2,ai l 3,ai l 4,ai l 5,ai l 6])),(aI,bk (aQ l)),(dS,.list (prN.map pN)),(br,.list ((cG (ai l 5)).map pN)),(dH,.int ((bj (ai l 5):Nat):Int)),(aD,.list (aC (d9 (ai l 5)))),(dW,.list (zN (R5.map (eZ (ai l 5))))),(aN,.str (fw l)),(aA,.loc lx),(aL,.list (aC (bZ (ai l 5)))),(gC,.list sv),(cH,.list (zN (iS (aQ l))))]
noncomputable abbrev L16 (l:List Int) (lx:Nat) (sv:List V) (dv:List V):Loc:=[(bO,.list (zs l)),(aP,.list (zs (bX l none (some 60) none))),(dt,.list (zs baseL)),(bq,.list (zN [ai l 0,ai l 1,ai l 2,ai l 3,ai l 4,ai l 5,ai l 6])),(aI,bk (aQ l)),(dS,.list (prN.map pN)),(br,.list ((cG (ai l 5)).map pN)),(dH,.int ((bj (ai l 5):Nat):Int)),(aD,.list (aC (d9 (ai l 5)))),(dW,.list (zN (R5.map (eZ (ai l 5))))),(aN,.str (fw l)),(aA,.loc lx),(aL,.list (aC (bZ (ai l 5)))),(gC,.list sv),(cH,.list (zN (iS (aQ l)))),(og,.list dv)]
section
variable {C:Cx} {k:Nat} {ρ ρ1:Loc} {σ σ1 σ2:Sto}
theorem Au (H:COk C) (B:Bi C) {l:List Int} (hl:l.length<=1000) (hf:(bX l none (some 60) none).length<=1000):ExS C k (.assign [bq] false (.comp Bt [[n_k]] [(.call (.glob aO) [(.cInt 7)])] [[]] [ax,n_k])) (L3 l) σ .next (L4 l) σ:=by
 refine bQ (x:=bq) (v:=.list (zN [ai l 0,ai l 1,ai l 2,ai l 3,ai l 4,ai l 5,ai l 6])) ?_
 exact dP (l:=[0,1,2,3,4,5,6]) (inj:=fun i:Nat=>.int (i:Int)) (f:=fun i:Nat=>.int ((ai l i:Nat):Int)) (ρ1:=fun i=>[(bO,.list (zs l)),(aP,.list (zs (bX l none (some 60) none))),(dt,.list (zs baseL)),(n_k,.int ((i:Nat):Int))]) (own:=[ax,n_k])
  (aG H B.range (ah aB aj) aW) rfl (by rfl) rfl (fun i=>rfl) (fun i hi=>AT H B (by simp at hi;lia -abstractProof) hl rfl rfl rfl hf) (szl rfl)
theorem C6 (D:ej C) {l:List Int}:ExS C (k+1) (.assign [aI] false (.comp (.call (.glob dq) [(.var cT)]) [[cT]] [(.slice (.var bq) [none,some (.cInt 5),none])] [[]] [ax,cT])) (L4 l) σ .next (L5 l) σ:=by
 have H:=D.D.W.H;have B:=D.D.W.B
 refine bQ (x:=aI) (v:=bk (aQ l)) ?_
 have hs:ij C (k+1) (.list (zs [(ai l 0:Int),ai l 1,ai l 2,ai l 3,ai l 4,ai l 5,ai l 6])) none (some 5) none σ (.list (zs [(ai l 0:Int),ai l 1,ai l 2,ai l 3,ai l 4])):=mC (by decide) (szl rfl)
 exact dP (l:=[ai l 0,ai l 1,ai l 2,ai l 3,ai l 4]) (inj:=fun i:Nat=>.int (i:Int)) (f:=fun i:Nat=>.list (zN (o8 i))) (ρ1:=fun i=>L4 l++[(cT,.int ((i:Nat):Int))]) (own:=[ax,cT])
  (iP (il:=none) (ih:=some 5) (is:=none) (aa (x:=bq) rfl) trivial (aB:EvE C (k+1) (.cInt 5) _ _ _ _) trivial gB PySem.F.slot_list_getitem.lookup hs) rfl rfl rfl (fun i=>rfl) (fun i hi=>a7 H (ah (aa rfl) aj) (vX (k:=k) H B D.colour)) (szl rfl)
theorem CU (H:COk C) (B:Bi C) {l:List Int}:ExS C k (.assign [br] false (.comp (.sub (.var dS) (.var n_k)) [[n_k]] [(.call (.glob aO) [(.cInt 10)])] [[(.bin .Mod (.bin .FloorDiv (.sub (.var bq) (.cInt 5)) (.bin .Pow (.cInt 2) (.var n_k))) (.cInt 2))]] [ax,n_k])) (L6 l) σ .next (L7 l) σ:=by
 refine bQ (x:=br) (v:=.list ((cG (ai l 5)).map pN)) ?_
 have e:V.list ((cG (ai l 5)).map pN)=.list (((List.range 10).filter fun k=>decide (ai l 5 / 2 ^ k % 2≠0)).map fun k=>pN (prN.getD k (0,0))):=by unfold cG;rw [List.map_map];rfl
 rw [e]
 refine rX (l:=List.range 10) (inj:=fun i:Nat=>.int (i:Int)) (f:=fun k=>pN (prN.getD k (0,0))) (p:=fun k=>decide (ai l 5 / 2 ^ k % 2≠0)) (ρ1:=fun i=>L6 l++[(n_k,.int ((i:Nat):Int))]) (own:=[ax,n_k]) (aG H B.range (ah aB aj) aW) rfl (by rfl) rfl (fun i=>rfl) (fun i hi=>?_) (fun i hi _=>?_) (szl rfl)
 ·have hi:=List.mem_range.mp hi
  have p2:2 ^ i<2 ^ 64:=Nat.pow_lt_pow_right (by simp) (Nat.lt_of_lt_of_le (by assumption) (by decide))
  exact kh rfl (cO 2 (by decide) (qA (Nat.two_pow_pos i) p2 (di (j:=5) (aa (x:=bq) rfl) aB rfl (by simp)) (qf 2 (by simp) (by lia -abstractProof) (aa rfl))))
 ·replace hi:=List.mem_range.mp hi
  have hp:(prN.map pN)[i]?=some (pN (prN.getD i (0,0))):=by
   exact Cr (P:=fun i=>(prN.map pN)[i]?=some (pN (prN.getD i (0,0)))) rfl rfl rfl rfl rfl rfl rfl rfl rfl rfl i hi
  exact di (aa rfl) (aa rfl) hp (Nat.lt_of_lt_of_le (by assumption) (by decide))
theorem zK (D:ej C) {l:List Int}:ExS C (k+1) (.assign [aD] false (.comp (.call (.glob eG) [(.bin .Add (.var dH) (.var n_k))]) [[n_k]] [(.call (.glob aO) [(.cInt 5)])] [[]] [ax,n_k])) (L8 l) σ .next (L9 l) σ:=by
 have H:=D.D.W.H;have B:=D.D.W.B
 refine bQ (x:=aD) (v:=.list (aC (d9 (ai l 5)))) ?_
 have e:V.list (aC (d9 (ai l 5)))=.list (R5.map fun i=>.str (bM (bj (ai l 5)+i))):=by delta d9 aC;rw [List.map_map];rfl
 rw [e]
 have hs:bj (ai l 5)<30:=Nat.mod_lt _ (by simp)
 exact dP (l:=R5) (inj:=fun i:Nat=>.int (i:Int)) (ρ1:=fun i=>L8 l++[(n_k,.int ((i:Nat):Int))]) (own:=[ax,n_k]) (aG H B.range (ah aB aj) aW) pR (by rfl) rfl (fun i=>rfl)
  (fun i hi=>a7 H (ah (EvE.eq (v':=.int ((bj (ai l 5)+i:Nat):Int)) (ap (aa rfl) (aa rfl) d7) (congrArg V.int (Int.natCast_add _ _).symm)) aj) (CR (k:=k) H D.name (by have:=gY hi;lia -abstractProof))) (szl rfl)
theorem zQ (H:COk C) (B:Bi C) {l:List Int}:ExS C k (.assign [dW] false (.comp (.call (.glob oK) [(.comp (.bin .Pow (.cInt 2) (.bin .Add (.var dH) (.var n_x))) [[n_x,n_y]] [(.var br)] [[(.cmp (.var n_y) [.Eq] [(.var n_k)])]] [ax,n_x,n_y])]) [[n_k]] [(.call (.glob aO) [(.cInt 5)])] [[]] [ax,n_k])) (L9 l) σ .next (L10 l) σ:=by
 refine bQ (x:=dW) (v:=.list (zN (R5.map (eZ (ai l 5))))) ?_
 have e:V.list (zN (R5.map (eZ (ai l 5))))=.list (R5.map fun i=>.int ((eZ (ai l 5) i:Nat):Int)):=by unfold zN;rw [List.map_map];rfl
 rw [e]
 have hs:bj (ai l 5)<30:=Nat.mod_lt _ (by simp)
 refine dP (l:=R5) (inj:=fun i:Nat=>.int (i:Int)) (ρ1:=fun i=>L9 l++[(n_k,.int ((i:Nat):Int))]) (own:=[ax,n_k]) (aG H B.range (ah aB aj) aW) pR (by decide +kernel) rfl (fun i=>rfl) (fun i hi=>?_) (szl rfl)
 have E:EvE C k (.comp (.bin .Pow (.cInt 2) (.bin .Add (.var dH) (.var n_x))) [[n_x,n_y]] [(.var br)] [[(.cmp (.var n_y) [.Eq] [(.var n_k)])]] [ax,n_x,n_y]) (L9 l++[(n_k,.int ((i:Nat):Int))]) σ (.list (((cG (ai l 5)).filter fun q=>decide (q.2=i)).map fun q=>V.int ((2 ^ (bj (ai l 5)+q.1):Nat):Int))) σ:=by
  refine mW (l:=cG (ai l 5)) (inj:=pN) (f:=fun q=>V.int ((2 ^ (bj (ai l 5)+q.1):Nat):Int)) (p:=fun q=>decide (q.2=i)) (ρ1:=fun q=>L9 l++[(n_k,.int ((i:Nat):Int)),(n_x,.int (q.1:Int)),(n_y,.int (q.2:Int))]) (own:=[ax,n_x,n_y]) (aa rfl) rfl rfl rfl (fun q=>rfl) (fun q hq=>?_) (fun q hq _=>?_) ?_
  ·rw [show decide (q.2=i)=((q.2:Int)==(i:Int)) from by rw [Bool.eq_iff_iff];simp;exact Iff.symm Int.ofNat_inj]
   exact aJ (aa rfl) (aa rfl) lN aH
  ·exact qf 2 (by simp) (by have:=(rz hq).1;lia -abstractProof) (EvE.eq (v':=.int ((bj (ai l 5)+q.1:Nat):Int)) (ap (aa rfl) (aa rfl) d7) (congrArg V.int (Int.natCast_add _ _).symm))
  ·have:(cG (ai l 5)).length<=10:=by
    unfold cG
    rw [List.length_map]
    exact Nat.le_trans (List.length_filter_le _ _) (by decide)
   rw [sizeLine_eq];lia -abstractProof
 have e2:(((cG (ai l 5)).filter fun q=>decide (q.2=i)).map fun q=>V.int ((2 ^ (bj (ai l 5)+q.1):Nat):Int))=zs (((bV (ai l 5) i).map fun q=>2 ^ (bj (ai l 5)+q.1)).map fun a:Nat=>(a:Int)):=by
  delta zs bV
  rw [List.map_map,List.map_map];rfl
 rw [e2] at E
 exact EvE.eq (aG H B.sum (ah E aj) yr) (congrArg V.int (yf _))
theorem Cg (D:ej C) {l:List Int} (P:iX (ai l 5) (ai l 6) (aQ l)):ExS C (k+3) (.assign [aN] false (.call (.glob eE) [(.var aI),(.comp (.call (.glob cC) [(.var gu)]) [[gu]] [(.var dW)] [[]] [ax,gu]),(.sub (.var bq) (.cInt 6))])) (L10 l) σ .next (L11 l) σ:=by
 have H:=D.D.W.H;have B:=D.D.W.B
 have E:EvE C (k+3) (.comp (.call (.glob cC) [(.var gu)]) [[gu]] [(.var dW)] [[]] [ax,gu]) (L10 l) σ (.list (aC (bZ (ai l 5)))) σ:=by
  have e:V.list (aC (bZ (ai l 5)))=.list (R5.map fun i=>.str (eI (ai l 5) i)):=by delta bZ aC;rw [List.map_map];rfl
  rw [e]
  refine dO (l:=R5) (inj:=fun i:Nat=>.int ((eZ (ai l 5) i:Nat):Int)) (f:=fun i=>.str (eI (ai l 5) i)) (ρ1:=fun i=>L10 l++[(gu,.int ((eZ (ai l 5) i:Nat):Int))]) (own:=[ax,gu]) (aa (x:=dW) rfl) (by rfl) rfl rfl (fun i=>rfl) (fun i hi=>?_) (szl rfl)
  exact a7 H (ah (aa rfl) aj) (yM (k:=k+2) H B D.dict D.flags (P.mask i (gY hi)))
 exact ak (a7 H (ah (aa (x:=aI) rfl) (ah E (ah (di (j:=6) (aa (x:=bq) rfl) aB rfl (by simp)) aj))) (Ah (k:=k) D.D.W D.text (cols:=aQ l) (lists:=bZ (ai l 5)) (s:=ai l 6) (fun c hc=>by
  simp only [aQ,List.mem_cons,List.not_mem_nil,or_false] at hc
  rcases hc with rfl | rfl | rfl | rfl | rfl<;>rfl) (fun x hx=>by
  obtain ⟨i,hi,rfl⟩:=List.mem_map.mp hx
  exact P.len i (gY hi)) rfl rfl)) rfl fun _=>rfl
end
end
section
open PySem PyProof.Rows
set_option maxRecDepth 100000
section
variable {C:Cx} {k:Nat} {ρ ρ1:Loc} {σ σ1 σ2:Sto}
theorem xN (rs:List Rec):c9 rs=bk (rs.map Rec.rowN):=by delta c9 bk;rw [List.map_map];rfl
theorem uP {m s:Nat} {cols:List (List Nat)} (P:iX m s cols) (hc:∀ c∈cols,c.length=3):(jl cols (bZ m) s).length<100000:=by
 have:=jt hc (lists:=bZ m) (s:=s) (fun x hx=>by
  obtain ⟨i,hi,rfl⟩:=List.mem_map.mp hx
  exact P.len i (gY hi)) 5
 have hel:(pA s).length<=5:=by
  have:∀ i,i<4->(ends.getD i []).length<=5:=by decide
  exact this _ (Nat.mod_lt _ (by simp))
 unfold jl
 rw [List.length_append]
 lia -abstractProof
theorem ji (l:List Int):∀ c∈aQ l,c.length=3:=fun c hc=>by
 simp only [aQ,List.mem_cons,List.not_mem_nil,or_false] at hc
 rcases hc with rfl | rfl | rfl | rfl | rfl<;>rfl
noncomputable def NN (l:List Int):Int:=1+cnt (fw l)
theorem zW (D:ej C) {l:List Int} (P:iX (ai l 5) (ai l 6) (aQ l)):ExS C (k+3) (.assign [aA] false (.call (.glob dR) [(.var aN)])) (L11 l) σ .next (L12 l (pl0 σ).lx) ((pl0 σ).put (fH σ (fw l)) (lsN (NN l) (fw l) [])):=by
 have H:=D.D.W.H
 obtain ⟨a,ga,dl⟩:=D.lexer
 have hz:(fw l).length<=sizeLine:=by have:=uP P (ji l);rw [sizeLine_eq];unfold fw;lia -abstractProof
 have F:=(Af (C:=C) (k:=k) (σ:=σ) (x:=fw l) H D.D.L.G.L D.D.L.G.Lm dl D.D.W.B.list hz).fn
 have e:fH σ (fw l)=(pl0 σ).put (fH σ (fw l)) (lsN (NN l) (fw l) []):=by
  have:lsN (NN l) (fw l) []=⟨fw l,[],1⟩:=by delta lsN NN;congr 1;simp
  rw [this];exact Ao
 rw [e] at F
 exact ak (pH (fv:=.ref a) (eS H ga) (fun X n h a r=>r) dl.fn (ah (aa rfl) aj) F) rfl fun _=>rfl
theorem DH (D:ej C) {l:List Int} (P:iX (ai l 5) (ai l 6) (aQ l)) {p:Pl3} {τ:Sto} (h:p.Ok τ):∃ sv xe,ExS C (k+6) (.assign [aL,gC] true (.call (.glob fm) [(.var aA),(.var aD),(.bin .Mod (.bin .FloorDiv (.sub (.var bq) (.cInt 6)) (.cInt 12288)) (.cInt 2))])) (L12 l p.lx) (p.put τ (lsN (NN l) (fw l) [])) .next (L14 l p.lx sv) (p.put τ (lsN (NN l) xe [])) /\
 sv=((dc (ai l 5) (aQ l)).map (iI (aQ l))).map bk/\Tk xe [101,110,100] []/\xe.length<800000:=by
 have H:=D.D.W.H
 obtain ⟨xe,hr,he⟩:=P.read
 obtain ⟨r0,r1,r2,r3,r4,R,hw,hd⟩:=P.rounds
 have htl:=uP P (ji l)
 have hxe:xe.length<=(fw l).length:=by
  have:∀ {x prs xe},RD x prs xe->xe.length<=x.length:=fun {x prs xe} h=>by
   induction h with
   | nil=>exact Nat.le_refl _
   | cons a b c _ ih=>exact Nat.le_trans ih (Nat.le_trans c.len (Nat.le_trans b.len a.len))
  exact this hr
 have hx:(fw l).length<800000:=by unfold fw;lia -abstractProof
 have F:=Dy (C:=C) (k:=k) (p:=p) (τ:=τ) D.D D.run h (ns:=d9 (ai l 5)) (first:=ai l 6 / 12288 % 2) (N:=NN l) (tie:=fE (ai l 5)) (by rfl) rfl hx (by exact Nat.lt_of_le_of_lt hxe hx) hr (fun kk q hq=>by
  have hk:kk<5:=by
   rcases Nat.lt_or_ge kk 5 with h | h
   ·exact h
   ·rw [List.getElem?_eq_none (by simp;omega)] at hq;cases hq
  rw [List.getElem?_map,List.getElem?_range hk] at hq
  cases hq
  exact P.split kk hk) R (by rw [hw,List.map_map];rfl) P.nb
 have e1:V.list (aC (((List.range 5).map fun j=>(cz ((aQ l).getD j []) (dw (ai l 6) j / 2*128),eI (ai l 5) j)).map (·.2)))=.list (aC (bZ (ai l 5))):=by rw [List.map_map];rfl
 rw [e1] at F
 refine ⟨[c9 r0,c9 r1,c9 r2,c9 r3,c9 r4],xe,ak (a7 H (ah (aa (x:=aA) rfl) (ah (aa (x:=aD) rfl) (ah (cO 2 (by decide) (ew 12288 (by simp) (by simp) (di (j:=6) (aa (x:=bq) rfl) aB rfl (by simp)))) aj))) F) rfl (fun h=>nomatch h),?_,he,by lia -abstractProof⟩
 rw [<-hd]
 simp [xN]
theorem xr {ls:List (List Nat)} (n:Nat) (h:∀ x∈ls,∀ c∈x,c<1114112):okD (n+2) (.list (aC ls))=true:=by
 show (aC ls).all (okD (n+1))=true
 rw [List.all_eq_true]
 intro v hv
 obtain ⟨x,hx,rfl⟩:=List.mem_map.mp hv
 show PyData.strOk (ao x)=true
 delta PyData.strOk ao
 rw [<-Array.all_toList,List.all_eq_true]
 intro c hc
 have:=h x hx c (by simpa using hc)
 simpa using this
theorem w5 {cs:List (List Nat)} (n:Nat):okD (n+3) (bk cs)=true:=by
 show (cs.map fun c=>V.list (zN c)).all (okD (n+2))=true
 rw [List.all_eq_true]
 intro v hv
 obtain ⟨x,hx,rfl⟩:=List.mem_map.mp hv
 show (zN x).all (okD (n+1))=true
 rw [List.all_eq_true]
 intro w hw
 obtain ⟨y,hy,rfl⟩:=List.mem_map.mp hw
 rfl
theorem A8 (D:ej C) {l:List Int} (P:iX (ai l 5) (ai l 6) (aQ l)) {lx:Nat} {sv:List V}:EvT C k (.cmp (.var aL) [.NotEq] [(.comp (.boolop .Or [(.meth (.cStr [44,32]) jJ [(.comp (.sub (.var aD) (.var n_x)) [[n_x,n_y]] [(.var br)] [[(.cmp (.var n_y) [.Eq] [(.var n_k)])]] [ax,n_x,n_y])]),(.cStr [48,120,48])]) [[n_k]] [(.call (.glob aO) [(.cInt 5)])] [[]] [ax,n_k])]) (L14 l lx sv) σ false σ:=by
 have H:=D.D.W.H;have B:=D.D.W.B
 have e:V.list (aC (bZ (ai l 5)))=.list (R5.map fun i=>.str (nK (ai l 5) i)):=by
  delta bZ aC
  rw [List.map_map]
  congr 1
  refine List.map_congr_left fun i hi=>?_
  show V.str (eI (ai l 5) i)=_
  rw [P.told i (gY hi)]
 refine aJ (aa (x:=aL) rfl) (EvE.eq (dO (l:=R5) (inj:=fun i:Nat=>.int (i:Int)) (f:=fun i=>.str (nK (ai l 5) i)) (ρ1:=fun i=>L14 l lx sv++[(n_k,.int ((i:Nat):Int))]) (own:=[ax,n_k]) (aG H B.range (ah aB aj) aW) pR (by rfl) rfl (fun i=>rfl) (fun i hi=>?_) (szl rfl)) e.symm) (tK (xr 58 fun x hx=>?_)) aH
 ·obtain ⟨hsm,hsum⟩:=P.small i (gY hi)
  have E:EvE C k (.comp (.sub (.var aD) (.var n_x)) [[n_x,n_y]] [(.var br)] [[(.cmp (.var n_y) [.Eq] [(.var n_k)])]] [ax,n_x,n_y]) (L14 l lx sv++[(n_k,.int ((i:Nat):Int))]) σ (.list (((cG (ai l 5)).filter fun q=>decide (q.2=i)).map fun q=>V.str (bM (bj (ai l 5)+q.1)))) σ:=by
   refine mW (l:=cG (ai l 5)) (inj:=pN) (f:=fun q=>V.str (bM (bj (ai l 5)+q.1))) (p:=fun q=>decide (q.2=i)) (ρ1:=fun q=>L14 l lx sv++[(n_k,.int ((i:Nat):Int)),(n_x,.int (q.1:Int)),(n_y,.int (q.2:Int))]) (own:=[ax,n_x,n_y]) (aa rfl) rfl rfl rfl (fun q=>rfl) (fun q hq=>?_) (fun q hq _=>?_) ?_
   ·rw [show decide (q.2=i)=((q.2:Int)==(i:Int)) from by rw [Bool.eq_iff_iff];simp;exact Iff.symm Int.ofNat_inj]
    exact aJ (aa rfl) (aa rfl) lN aH
   ·have h5:=(rz hq).1
    have hn:(aC (d9 (ai l 5)))[q.1]?=some (.str (bM (bj (ai l 5)+q.1))):=by
     generalize q.1=j at h5
     revert j
     show ∀ j,j<5->_
     exact at5 rfl rfl rfl rfl rfl
    exact di (aa (x:=aD) rfl) (aa rfl) hn (Nat.lt_trans (by assumption) (by decide:5<2 ^ 62))
   ·have:(cG (ai l 5)).length<=10:=by
     unfold cG
     rw [List.length_map]
     exact Nat.le_trans (List.length_filter_le _ _) (by decide)
    rw [sizeLine_eq];lia -abstractProof
  have e2:(((cG (ai l 5)).filter fun q=>decide (q.2=i)).map fun q=>V.str (bM (bj (ai l 5)+q.1)))=aC ((bV (ai l 5) i).map fun q=>bM (bj (ai l 5)+q.1)):=by
   delta aC bV
   rw [List.map_map];rfl
  rw [e2] at E
  have J:=cL (C:=C) (k:=k) (m:=jJ) (bE (x:=[44,32])) (gZ (by rw [<-j9,aK];exact PySem.F.slot_str_join) PySem.F.type_str_join) (.bi _) (ah E aj) (ma (sep:=[44,32]) (l:=(bV (ai l 5) i).map fun q=>bM (bj (ai l 5)+q.1)) hsum)
  refine B8 J (AC (x:=fR (ai l 5) i) (Nat.lt_of_lt_of_le (by assumption) (by decide))) (fun hc=>?_) (fun hc=>⟨?_,rfl⟩)
  ·have:fR (ai l 5) i=[]:=by simpa using hc
   rw [nK,if_pos this]
   exact bE
  ·have:fR (ai l 5) i≠[]:=by simpa using hc
   rw [nK,if_neg this];rfl
 ·obtain ⟨i,hi,rfl⟩:=List.mem_map.mp hx
  exact P.ok i (gY hi)
end
end
section
open PySem PyProof.Rows
set_option maxRecDepth 100000
section
variable {C:Cx} {k:Nat} {ρ ρ1:Loc} {σ σ1 σ2:Sto}
theorem wj:nm "index"=pM:=by kernel_rfl
theorem v7:nm "count"=pe:=by kernel_rfl
theorem Bk (c:List Nat):zN c=zs (c.map fun a:Nat=>(a:Int)):=by delta zN zs;rw [List.map_map];rfl
theorem B3 (D:ej C) {l:List Int} {lx:Nat} {sv:List V}:ExS C k (.assign [cH] false (.comp (.meth (.var dh) pM [(.call (.glob jp) [(.var dh)])]) [[dh]] [(.var aI)] [[]] [ax,dh])) (L14 l lx sv) σ .next (L15 l lx sv) σ:=by
 have H:=D.D.W.H;have B:=D.D.W.B
 refine bQ (x:=cH) (v:=.list (zN (iS (aQ l)))) ?_
 have e:V.list (zN (iS (aQ l)))=.list ((aQ l).map fun c=>.int ((xb c:Nat):Int)):=by delta zN iS;rw [List.map_map];rfl
 rw [e]
 refine dP (l:=aQ l) (inj:=fun c=>.list (zN c)) (ρ1:=fun c=>L14 l lx sv++[(dh,.list (zN c))]) (own:=[ax,dh]) (aa (x:=aI) rfl) rfl rfl rfl (fun c=>rfl) (fun c hc=>?_) (by rw [sizeLine_eq];exact Nat.le_of_ble_eq_true rfl)
 have hlen:=ji l c hc
 have hne:c≠[]:=fun q=>by rw [q] at hlen;cases hlen
 have hne2:(c.map fun a:Nat=>(a:Int))≠[]:=by simpa using hne
 have E:=aG (C:=C) (k:=k) (ρ:=L14 l lx sv++[(dh,.list (zN c))]) (σ:=σ) (l:=[.var dh]) H B.max (ah (v:=.list (zs (c.map fun a:Nat=>(a:Int)))) (aa (by rw [<-Bk];rfl)) aj) (o9 hne2)
 rw [vT c hne] at E
 have F:=yE (C:=C) (k:=k) (σ:=σ) (l:=c.map fun a:Nat=>(a:Int)) (i:=((jY c:Nat):Int)) (List.mem_map.mpr ⟨_,yQ hne,rfl⟩) (by simp;lia -abstractProof)
 rw [yn] at F
 exact cL (aa (by rw [<-Bk];rfl)) (wB (by rw [<-wj,aK];exact PySem.F.slot_list_index) PySem.F.type_list_index) (.bi _) (ah E aj) F
theorem A4 {cols:List (List Nat)} {x:Nat} (h:x<cols.length):(cols.map fun c=>V.list (zN c))[x]?=some (.list (zN (cols.getD x []))):=by
 rw [List.getElem?_map,List.getD_eq_getElem?_getD,List.getElem?_eq_getElem h];rfl
theorem tQ {m:Nat} {cols:List (List Nat)}:∀ g∈dc m cols,g.length=5:=fun g hg=>by
 simp only [dc,lr,List.mem_cons,List.not_mem_nil,or_false] at hg
 rcases hg with rfl | rfl | rfl | rfl | rfl<;>rfl
noncomputable abbrev Ee:Ex:=.comp (.comp (.comp (.sub (.sub (.var aI) (.var n_x)) (.bin .Mod (.bin .Sub (.var n_k) (.sub (.var gV) (.var n_x))) (.cInt 3))) [[n_k]] [(.call (.glob aO) [(.cInt 3)])] [[]] [ax,n_k]) [[n_x]] [(.call (.glob aO) [(.cInt 5)])] [[]] [ax,n_x]) [[gV]] [(.call (.glob dZ) [(.var cH),(.var br)])] [[]] [ax,gV]
theorem DO (D:ej C) {l:List Int} {lx:Nat} {sv:List V}:ExS C (k+2) (.assign [og] false Ee) (L15 l lx sv) σ .next (L16 l lx sv (((dc (ai l 5) (aQ l)).map (iI (aQ l))).map bk)) σ:=by
 have H:=D.D.W.H;have B:=D.D.W.B
 refine bQ (x:=og) (v:=.list (((dc (ai l 5) (aQ l)).map (iI (aQ l))).map bk)) ?_
 have eT:V.list ((cG (ai l 5)).map pN)=.list ((psI (ai l 5)).map pr):=by unfold psI;rw [List.map_map];rfl
 have G:=Ax (C:=C) (k:=k) (σ:=σ) H B D.joined D.gains (tops:=iS (aQ l)) (ps:=psI (ai l 5)) rfl
 rw [List.map_map]
 refine dP (l:=dc (ai l 5) (aQ l)) (inj:=fun g=>.list (zs g)) (ρ1:=fun g=>L15 l lx sv++[(gV,.list (zs g))]) (own:=[ax,gV]) (src:=fD (dc (ai l 5) (aQ l)))
  (a7 H (ah (aa (x:=cH) rfl) (ah (v:=.list ((psI (ai l 5)).map pr)) (aa (x:=br) (by rw [<-eT];rfl)) aj)) G) rfl rfl rfl (fun g=>rfl) (fun g hg=>?_) (by rw [sizeLine_eq];delta dc lr;exact Nat.le_of_ble_eq_true rfl)
 have hg5:=tQ g hg
 have e1:(bk ∘ iI (aQ l)) g=.list (R5.map fun x=>V.list (zN (nh (aQ l) g x))):=by
  show bk (iI (aQ l) g)=_
  delta bk iI;rw [List.map_map];rfl
 rw [e1]
 refine dO (l:=R5) (inj:=fun i:Nat=>.int (i:Int)) (ρ1:=fun x=>L15 l lx sv++[(gV,.list (zs g)),(n_x,.int ((x:Nat):Int))]) (own:=[ax,n_x]) (aG H B.range (ah aB aj) aW) pR (by rfl) rfl (fun i=>rfl) (fun x hx=>?_) (szl rfl)
 have hx5:=gY hx
 have e2:V.list (zN (nh (aQ l) g x))=.list ([0,1,2].map fun kk:Nat=>V.int ((((aQ l).getD x []).getD (((kk:Int) - g.getD x 0).fmod 3).toNat 0:Nat):Int)):=by
  delta zN nh;rw [List.map_map];rfl
 rw [e2]
 refine dO (l:=[0,1,2]) (inj:=fun i:Nat=>.int (i:Int)) (ρ1:=fun kk=>L15 l lx sv++[(gV,.list (zs g)),(n_x,.int ((x:Nat):Int)),(n_k,.int ((kk:Nat):Int))]) (own:=[ax,n_k]) (aG H B.range (ah aB aj) aW) rfl (by rfl) rfl (fun i=>rfl) (fun kk hk=>?_) (szl rfl)
 have hgx:(zs g)[x]?=some (.int (g.getD x 0)):=by
  simp [zs,List.getD_eq_getElem?_getD,List.getElem?_eq_getElem (show x<g.length by exact Nat.lt_of_lt_of_eq hx5 (id (Eq.symm hg5)))]
 have hcx:((aQ l).map fun c=>V.list (zN c))[x]?=some (.list (zN ((aQ l).getD x []))):=A4 (by show x<5;exact hx5)
 have hlo:0<=((kk:Int) - g.getD x 0).fmod 3:=Int.fmod_nonneg_of_pos _ (by simp)
 have hhi:((kk:Int) - g.getD x 0).fmod 3<3:=Int.fmod_lt_of_pos _ (by simp)
 have hc3:((aQ l).getD x []).length=3:=by
  have hx6:x<(aQ l).length:=hx5
  rw [List.getD_eq_getElem?_getD,List.getElem?_eq_getElem hx6]
  exact ji l _ (List.getElem_mem _)
 have hfin:∀ (c:List Nat) (j:Nat),c.length=3->j<3->(zN c)[j]?=some (.int ((c.getD j 0:Nat):Int)):=fun c j h1 h2=>by
  simp [zN,List.getD_eq_getElem?_getD,List.getElem?_eq_getElem (show j<c.length by exact Nat.lt_of_lt_of_eq h2 (id (Eq.symm h1)))]
 exact di (di (aa (x:=aI) rfl) (aa rfl) hcx (Nat.lt_trans (by assumption) (by decide:5<2 ^ 62))) (EvE.eq (v':=.int (((((kk:Int) - g.getD x 0).fmod 3).toNat:Nat):Int)) (ap (ap (aa rfl) (di (aa rfl) (aa rfl) hgx (Nat.lt_trans (by assumption) (by decide:5<2 ^ 62))) sn) aB (fV (by decide))) (congrArg V.int (Int.toNat_of_nonneg hlo).symm)) (hfin _ _ hc3 (by exact Iff.mpr (Int.toNat_lt hlo) hhi)) (by omega)
theorem tZ {x:List Nat} (n:Nat) (h:∀ c∈x,c<1114112):okD (n+1) (.str x)=true:=by
 show PyData.strOk (ao x)=true
 delta PyData.strOk ao
 rw [<-Array.all_toList,List.all_eq_true]
 intro c hc
 have:=h c (by simpa using hc)
 simpa using this
theorem yJ (cs:List (List (List Nat))):okD 60 (.list (cs.map bk))=true:=by
 show (cs.map bk).all (okD 59)=true
 rw [List.all_eq_true]
 intro v hv
 obtain ⟨x,hx,rfl⟩:=List.mem_map.mp hv
 exact w5 56
theorem BO (D:ej C) {nl:Nm} (d:DefAt C nl sM T_law1) {l:List Int} (hl:l.length<=63) (hf:(bX l none (some 60) none).length<=1000) (P:iX (ai l 5) (ai l 6) (aQ l)):∃ σ',Calls C (k+7) nl [.list (zs l)] σ (.bool true) σ':=by
 have H:=D.D.W.H;have B:=D.D.W.B;have L:=D.D.L
 obtain ⟨sv,xe,hrun,hsv,hend,hxe⟩:=DH (k:=k) D P (xv (σ:=σ) (x:=fw l))
 have ok:=xv (σ:=σ) (x:=fw l)
 subst hsv
 refine ⟨(pl0 σ).put (fH σ (fw l)) (lsN (NN l) [] []),d.callsE H ?_ rfl⟩
 unfold T_law1
 refine aw (ρ1:=L2 l) (σ1:=σ) (ak (iP (il:=none) (ih:=some 60) (is:=none) (aa (x:=bO) rfl) trivial (aB:EvE C (k+6) (.cInt 60) _ _ _ _) trivial gB PySem.F.slot_list_getitem.lookup (mC (by decide) (by rw [sizeLine_eq];lia -abstractProof))) rfl fun _=>rfl) ?_
 refine aw (ρ1:=L3 l) (σ1:=σ) (ak (dA (ah aB (ah aB (ah aB (ah aB (ah aB (ah aB (ah aB aj))))))) (szl rfl)) rfl fun _=>rfl) ?_
 refine aw (Au H B (Nat.le_trans (by assumption) (by decide)) hf) ?_
 refine aw (C6 (k:=k+5) D) ?_
 have pt:∀ (a b:Nat) (ρ:Loc) (σ:Sto),EvE C (k+6) (.tup [.cInt (a:Int),.cInt (b:Int)]) ρ σ (pN (a,b)) σ:=fun a b ρ σ=>gT (ah aB (ah aB aj)) (szl rfl)
 refine aw (ρ1:=L6 l) (σ1:=σ) (ak (dA (ah (pt 0 1 _ _) (ah (pt 0 2 _ _) (ah (pt 0 3 _ _) (ah (pt 0 4 _ _) (ah (pt 1 2 _ _) (ah (pt 1 3 _ _) (ah (pt 1 4 _ _) (ah (pt 2 3 _ _) (ah (pt 2 4 _ _) (ah (pt 3 4 _ _) aj)))))))))) (szl rfl)) rfl fun _=>rfl) ?_
 refine aw (CU H B) ?_
 refine aw (ρ1:=L8 l) (σ1:=σ) (ak (cO 30 (by decide) (ew 1024 (by simp) (by simp) (di (j:=5) (aa (x:=bq) rfl) aB rfl (by simp)))) rfl fun _=>rfl) ?_
 refine aw (zK (k:=k+5) D) ?_
 refine aw (zQ H B) ?_
 refine aw (Cg (k:=k+3) D P) ?_
 refine aw (zW (k:=k+3) D P) ?_
 refine aw hrun ?_
 refine bS (A8 D P) ?_
 refine aw (B3 D) ?_
 refine aw (DO (k:=k+4) D) ?_
 refine cE (AX (pG (aa (x:=gC) rfl) (aa (x:=og) rfl) (jA (yJ _))) aH (fun _=>?_) (fun h=>by cases h))
 have E1:=ka (C:=C) (k:=k+2) L ok (ρ:=L16 l (pl0 σ).lx (((dc (ai l 5) (aQ l)).map (iI (aQ l))).map bk) (((dc (ai l 5) (aQ l)).map (iI (aQ l))).map bk)) (o:=.var aA) (N:=NN l) (aa rfl) hxe hend
 have E2:=ka (C:=C) (k:=k+2) L ok (ρ:=L16 l (pl0 σ).lx (((dc (ai l 5) (aQ l)).map (iI (aQ l))).map bk) (((dc (ai l 5) (aQ l)).map (iI (aQ l))).map bk)) (o:=.var aA) (N:=NN l) (x:=[]) (aa rfl) (by simp) Tk.none
 have E3:=tM (C:=C) (k:=k+6) (ρ:=L16 l (pl0 σ).lx (((dc (ai l 5) (aQ l)).map (iI (aQ l))).map bk) (((dc (ai l 5) (aQ l)).map (iI (aQ l))).map bk)) (o:=.var aA) (a:=lsN (NN l) [] []) L ok (aa rfl)
 have ec:=P.count
 have EC:EvE C (k+6) (.bin .Add (.cInt 1) (.meth (.var aN) pe [(.cStr [10])])) (L16 l (pl0 σ).lx (((dc (ai l 5) (aQ l)).map (iI (aQ l))).map bk) (((dc (ai l 5) (aQ l)).map (iI (aQ l))).map bk)) ((pl0 σ).put (fH σ (fw l)) (lsN (NN l) [] [])) (.int (NN l)) ((pl0 σ).put (fH σ (fw l)) (lsN (NN l) [] [])):=by
  refine EvE.eq (ap aB (cL (aa (x:=aN) rfl) (gZ (by rw [<-v7,aK];exact PySem.F.slot_str_count) PySem.F.type_str_count) (.bi _) (ah bE aj) xp) d7) (congrArg V.int ?_)
  delta NN fw;rw [ec]
 have eN:(lsN (NN l) [] []).line=NN l:=by show NN l - cnt []=NN l;simp only [l8];exact Int.sub_zero (NN l)
 rw [eN] at E3
 exact pG (dA (ah E1 (ah E2 (ah E3 aj))) (szl rfl)) (dA (ah bE (ah bE (ah EC aj))) (szl rfl)) (jA (v:=.list [.str [101,110,100],.str [],.int (NN l)]) (by
  show (okD 59 (.str [101,110,100])&&(okD 59 (.str [])&&(okD 59 (.int (NN l))&&true)))=true
  rw [tZ 58 (by decide),tZ 58 (by decide)];rfl))
end
end
section
theorem Ac (m k:Nat) (hk:k<10):m / 2 ^ k % 2=m % 1024 / 2 ^ k % 2:=by
 rw [<-Nat.toNat_testBit,<-Nat.toNat_testBit,show 1024=2 ^ 10 from rfl,Nat.testBit_mod_two_pow,decide_eq_true hk,Bool.true_and]
theorem mu (m:Nat):cG m=cG (m % 1024):=by
 unfold cG
 congr 1
 refine List.filter_congr fun k hk=>?_
 rw [Ac m k (List.mem_range.mp hk)]
theorem lM (m k:Nat):bV m k=bV (m % 1024) k:=by unfold bV;rw [mu]
theorem nE (m:Nat):fE m=fE (m % 1024):=by funext j k;unfold fE;rw [mu]
noncomputable def iH (m k:Nat):Nat:=((bV m k).map fun q=>2 ^ q.1).sum
theorem zM (a:Nat) (l:List Nat):(l.map fun x=>a*x).sum=a*l.sum:=by
 induction l with
 | nil=>rfl
 | cons x l ih=>simp [ih,Nat.mul_add]
theorem jf (m k:Nat):eZ m k=2 ^ bj m*iH m k:=by
 delta eZ iH
 rw [<-zM,List.map_map]
 congr 1
 refine List.map_congr_left fun q _=>?_
 show 2 ^ (bj m+q.1)=2 ^ bj m*2 ^ q.1
 rw [Nat.pow_add]
theorem q7:∀ b,b<1024->∀ k,k<5->iH b k<16/\(bV b k).map (·.1)=(List.range 4).filter (iH b k).testBit/\(bV b k).length<=4:=by
 have h:(List.range 1024).all (fun b=>(List.range 5).all fun k=>decide (iH b k<16)&&(((bV b k).map (·.1)==(List.range 4).filter (iH b k).testBit)&&decide ((bV b k).length<=4)))=true:=by decide +kernel
 intro b hb k hk
 have:=List.all_eq_true.mp (List.all_eq_true.mp h b (List.mem_range.mpr hb)) k (List.mem_range.mpr hk)
 simpa using this
theorem xY:∀ b,b<1024->∀ nb∈dK (fE b) 5,nb.length<100/\∀ i∈nb,i<5:=by
 have h:(List.range 1024).all (fun b=>(dK (fE b) 5).all fun nb=>decide (nb.length<100)&&nb.all fun i=>decide (i<5))=true:=by decide +kernel
 intro b hb nb hnb
 have:=List.all_eq_true.mp (List.all_eq_true.mp h b (List.mem_range.mpr hb)) nb hnb
 simpa using this
theorem CO:∀ s,s<30->∀ b,b<16->(List.range 33).filter (2 ^ s*b).testBit=((List.range 4).filter b.testBit).map fun x=>s+x:=by
 have h:(List.range 30).all (fun s=>(List.range 16).all fun b=>(List.range 33).filter (2 ^ s*b).testBit==((List.range 4).filter b.testBit).map fun x=>s+x)=true:=by rfl
 intro s hs b hb
 have:=List.all_eq_true.mp (List.all_eq_true.mp h s (List.mem_range.mpr hs)) b (List.mem_range.mpr hb)
 simpa using this
end
section
open PySem
theorem kE (m:Nat):bj m<30:=Nat.mod_lt _ (by simp)
theorem uj (m k:Nat) (hk:k<5):iH m k<16:=by
 have:=(q7 (m % 1024) (Nat.mod_lt _ (by simp)) k hk).1
 unfold iH at this ⊢
 rw [lM];exact this
theorem AI (m k:Nat) (hk:k<5):eZ m k<2 ^ 33:=by
 rw [jf]
 have h1:=uj m k hk
 have h2:2 ^ bj m<=2 ^ 29:=Nat.pow_le_pow_right (by decide) (by have:=kE m;exact Nat.le_of_lt_succ this)
 calc 2 ^ bj m*iH m k<=2 ^ 29*15:=Nat.mul_le_mul h2 (by exact Nat.le_of_lt_succ h1)
  _<2 ^ 33:=by simp
noncomputable def xsN (m k:Nat):List Nat:=(List.range 4).filter (iH m k).testBit
theorem na (m k:Nat) (hk:k<5):(bV m k).map (·.1)=xsN m k:=by
 have:=(q7 (m % 1024) (Nat.mod_lt _ (by simp)) k hk).2.1
 delta xsN iH at *
 rw [lM];exact this
noncomputable def ir (m k:Nat):List (List Nat):=(xsN m k).map fun x=>bM (bj m+x)
theorem lE (m k:Nat) (hk:k<5):(bV m k).map (fun q=>bM (bj m+q.1))=ir m k:=by
 unfold ir
 rw [<-na m k hk,List.map_map];rfl
theorem Ch:∀ b,b<16->(List.range 4).filter b.testBit=[]->b=0:=by decide
theorem BF {m k x:Nat} (h:x∈xsN m k):x<4:=List.mem_range.mp (List.mem_filter.mp h).1
theorem yI (m k:Nat) (hk:k<5):cJ (eZ m k)=if ir m k=[] then [[48,120,48]] else ir m k:=by
 have hb:=uj m k hk
 unfold cJ
 by_cases h0:iH m k=0
 ·rw [if_pos (by rw [jf,h0,Nat.mul_zero]),if_pos]
  delta ir xsN
  rw [h0];rfl
 ·have hm:eZ m k≠0:=by
   rw [jf]
   exact Nat.mul_ne_zero (Nat.ne_of_gt (Nat.two_pow_pos _)) h0
  have hx:ir m k≠[]:=by
   unfold ir
   intro q
   exact h0 (Ch _ hb (List.map_eq_nil_iff.mp q))
  rw [if_neg hm,if_neg hx]
  delta aX ir xsN
  rw [jf,CO _ (kE m) _ hb,List.map_map];rfl
theorem yg:∀ p,p<34->lH (bM p)/\∀ c∈bM p,c<1114112:=by
 have h:(List.range 34).all (fun p=>(bM p != [])&&((bM p).all fun c=>!isW c&&(c != 92&&(c != 34&&(c != 44&&decide (c<1114112)))))&&decide ((bM p).length<=100))=true:=by rfl
 intro p hp
 have:=List.all_eq_true.mp h p (List.mem_range.mpr hp)
 simp only [Bool.and_eq_true,bne_iff_ne,ne_eq,List.all_eq_true,Bool.not_eq_true',decide_eq_true_eq] at this
 obtain ⟨⟨h1,h2⟩,h3⟩:=this
 exact ⟨⟨⟨h1,fun c hc=>⟨(h2 c hc).1,(h2 c hc).2.1,(h2 c hc).2.2.1⟩⟩,fun hc=>(h2 _ hc).2.2.2.1 rfl,h3⟩,fun c hc=>(h2 c hc).2.2.2.2⟩
theorem wI:∀ p,p<34->∀ q,q<34->bM p=bM q->p=q:=by
 have h:(List.range 34).all (fun p=>(List.range 34).all fun q=>bM p != bM q||decide (p=q))=true:=by rfl
 intro p hp q hq he
 have:=List.all_eq_true.mp (List.all_eq_true.mp h p (List.mem_range.mpr hp)) q (List.mem_range.mpr hq)
 rw [he] at this
 simpa using this
theorem vQ:∀ p,p<34->bM p≠[48,120,48]:=by decide
theorem pD {m k:Nat} {w:List Nat} (h:w∈ir m k):lH w/\∀ c∈w,c<1114112:=by
 obtain ⟨x,hx,rfl⟩:=List.mem_map.mp h
 have:=BF hx
 have:=kE m
 exact yg _ (by lia -abstractProof)
theorem uO (m k:Nat):(ir m k).length<=4:=by
 delta ir xsN
 rw [List.length_map]
 exact Nat.le_trans (List.length_filter_le _ _) (by decide)
noncomputable def jI (m k:Nat):List (List Nat):=if ir m k=[] then [[48,120,48]] else ir m k
theorem Dz:lH [48,120,48]:=⟨⟨by decide,by decide⟩,by decide,by decide⟩
theorem l9 {m k:Nat} {w:List Nat} (h:w∈jI m k):lH w/\∀ c∈w,c<1114112:=by
 unfold jI at h
 split at h
 ·simp at h;subst h;exact ⟨Dz,by decide⟩
 ·exact pD h
theorem yy (m k:Nat):jI m k≠[]:=by
 unfold jI;split
 ·simp
 ·assumption
theorem tW (m k:Nat):(jI m k).length<=4:=by
 unfold jI;split
 ·decide
 ·exact uO m k
theorem jb (m k:Nat) (hk:k<5):eI m k=bH [44,32] (jI m k):=by unfold eI;rw [yI m k hk];rfl
theorem om (sep:List Nat) (l:List (List Nat)):(bH sep l).length<=eC l+l.length*sep.length:=by
 induction l with
 | nil=>exact Nat.zero_le _
 | cons x l ih =>
   cases l with
   | nil=>exact Nat.le_trans (Nat.le_add_right _ _) (Nat.le_add_right _ _)
   | cons y r =>
     show (x++sep++bH sep (y::r)).length<=x.length+eC (y::r)+((y::r).length+1)*sep.length
     rw [List.length_append,List.length_append,Nat.add_mul,Nat.one_mul]
     lia -abstractProof
theorem vJ {sep:List Nat} {c:Nat} {l:List (List Nat)} (h:c∈bH sep l):c∈sep\/∃ x∈l,c∈x:=by
 induction l with
 | nil=>cases h
 | cons x l ih =>
   cases l with
   | nil=>exact .inr ⟨x,.head _,h⟩
   | cons y r =>
     rcases List.mem_append.mp (show c∈x++sep++bH sep (y::r) from h) with h | h
     ·exact (List.mem_append.mp h).elim (fun h=>.inr ⟨x,.head _,h⟩) .inl
     ·exact (ih h).imp id fun ⟨z,hz,hc⟩=>⟨z,.tail _ hz,hc⟩
theorem rK (m k:Nat) (hk:k<5):(eI m k).length<=1000:=by
 rw [jb m k hk]
 have h1:=om [44,32] (jI m k)
 have h2:=kX (jI m k) 100 fun x hx=>(l9 hx).1.2.2
 have h3:=tW m k
 simp at h1
 lia -abstractProof
theorem AH (m k:Nat) (hk:k<5):∀ c∈eI m k,c<1114112:=by
 rw [jb m k hk]
 intro c hc
 rcases vJ hc with h | ⟨x,hx,hc⟩
 ·simp at h;lia -abstractProof
 ·exact (l9 hx).2 c hc
theorem qB {sep:List Nat} {l:List (List Nat)} (h:l≠[]) (h2:∀ x∈l,x≠[]):bH sep l≠[]:=by
 cases l with
 | nil=>exact absurd rfl h
 | cons x r =>
   cases r with
   | nil=>exact h2 x (.head _)
   | cons y r =>
     intro q
     replace q:x++sep++bH sep (y::r)=[]:=q
     have:=List.append_eq_nil_iff.mp (List.append_eq_nil_iff.mp q).1
     exact h2 x (.head _) this.1
theorem oC (m k:Nat) (hk:k<5):fR m k=bH [44,32] (ir m k):=by unfold fR;rw [lE m k hk]
theorem AR (m k:Nat) (hk:k<5):eI m k=nK m k:=by
 rw [jb m k hk,nK,oC m k hk]
 unfold jI
 by_cases h:ir m k=[]
 ·rw [if_pos h,if_pos (by rw [h];rfl)];rfl
 ·rw [if_neg h,if_neg (qB h fun x hx=>(pD hx).1.1.1)]
theorem yH (m k:Nat) (hk:k<5):(fR m k).length<10000/\eC ((bV m k).map fun q=>bM (bj m+q.1))+((bV m k).map fun q=>bM (bj m+q.1)).length*2<=sizeLine:=by
 rw [oC m k hk,lE m k hk]
 have h1:=om [44,32] (ir m k)
 have h2:=kX (ir m k) 100 fun x hx=>(pD hx).1.2.2
 have h3:=uO m k
 simp at h1
 rw [sizeLine_eq]
 lia -abstractProof
theorem AZ (m j k:Nat) (hk:k<5):(xsN m k).any (·==j)=fE m j k:=by
 rw [<-na m k hk]
 delta fE bV
 rw [List.any_map,List.any_filter]
 congr 1
 funext q
 show (decide (q.2=k)&&(q.1==j))=(decide (q.1=j)&&decide (q.2=k))
 rw [Bool.and_comm];rfl
theorem vp (m j k:Nat) (hj:j<5) (hk:k<5):(jI m k).any (·==(d9 m).getD j [])=fE m j k:=by
 have hn:(d9 m).getD j []=bM (bj m+j):=by
  revert j
  show ∀ j,j<5->_
  exact at5 rfl rfl rfl rfl rfl
 have hs:=kE m
 rw [hn,<-AZ m j k hk]
 unfold jI
 by_cases h:ir m k=[]
 ·rw [if_pos h]
  have hx:xsN m k=[]:=List.map_eq_nil_iff.mp h
  rw [hx]
  have:=vQ (bj m+j) (by lia -abstractProof)
  simp [Ne.symm this]
 ·rw [if_neg h]
  unfold ir
  rw [List.any_map,Bool.eq_iff_iff,List.any_eq_true,List.any_eq_true]
  constructor
  ·rintro ⟨x,hx,e⟩
   have hx4:=BF hx
   have:=wI _ (by lia -abstractProof) _ (by lia -abstractProof) (beq_iff_eq.mp e)
   exact ⟨x,hx,by simp;exact Nat.add_left_cancel this⟩
  ·rintro ⟨x,hx,e⟩
   have:x=j:=by simpa using e
   subst this
   exact ⟨x,hx,by simp⟩
end
section
open PySem PySem.StrLaws PySem.Builtin PySem.Builtin.Str
noncomputable def mt (s sub:Str) (hi i:Nat):Bool:=decide (i+sub.length<=hi)&&subAt s sub i
theorem zF (s sub:Str) (hi limit:Nat):∀ (l:List Nat) (f:Array Nat) (free:Nat),f.size+l.length<=limit->(∀ i∈l,mt s sub hi i=true->free<=i)->l.Pairwise (fun i j=>mt s sub hi i=true->mt s sub hi j=true->i+sub.length<=j) ->
 (forIn l (f,free) (occBody s sub hi limit)).run.fst.toList=f.toList++l.filter (mt s sub hi):=by
 intro l
 induction l with
 | nil =>
   intro f free _ _ _
   simp
 | cons a l ih =>
   intro f free h1 h2 h3
   rw [List.forIn_cons]
   unfold occBody
   have hp:=List.pairwise_cons.mp h3
   cases hm:mt s sub hi a with
   | true =>
     have hm':=hm
     simp only [mt,Bool.and_eq_true,decide_eq_true_eq] at hm'
     have hf:=h2 a (.head _) hm
     rw [if_pos ⟨⟨⟨by show f.size<limit;simp at h1;exact Nat.lt_of_add_right_lt h1,hf⟩,hm'.1⟩,hm'.2⟩]
     have ih:=ih (f.push a) (a+sub.length) (by simp at h1 ⊢;lia -abstractProof) (fun i hi' hmi=>hp.1 i hi' hm hmi) hp.2
     rw [List.filter_cons_of_pos hm]
     show (forIn l (f.push a,a+sub.length) (occBody s sub hi limit)).run.fst.toList=_
     rw [ih];simp
   | false =>
     have hm':¬ (a+sub.length<=hi/\subAt s sub a=true):=by
      intro q
      have:mt s sub hi a=true:=by simp [mt,q.1,q.2]
      rw [hm] at this;cases this
     rw [if_neg (fun q=>hm' ⟨q.1.2,q.2⟩),List.filter_cons_of_neg (by simp [hm])]
     exact ih f free (by simp at h1;exact Nat.le_of_succ_le h1) (fun i hi'=>h2 i (.tail _ hi')) hp.2
theorem nO (s sub:Str) (hp:∀ i j,i<j->mt s sub s.length i=true->mt s sub s.length j=true->i+sub.length<=j):occurrences s sub 0 s.length (s.length+1)=(List.range (s.length+1)).filter (mt s sub s.length):=by
 rw [occ_eq]
 have:=zF s sub s.length (s.length+1) (List.range' 0 (s.length+1 - 0)) #[] 0 (by simp) (fun i _ _=>Nat.zero_le _) (List.Pairwise.imp (fun {i j} h=>hp i j h) (by exact List.pairwise_lt_range'))
 rw [this]
 simp [List.range_eq_range']
theorem dY (x:List Nat):(ao x).length=x.length:=bv x
theorem BT (x:List Nat) (c i:Nat):mt (ao x) (ao [c]) x.length i=(x[i]?==some c):=by
 delta mt subAt
 rw [dY]
 by_cases h:i<x.length
 ·rw [show decide (i+[c].length<=x.length)=true from by simp;assumption,Bool.true_and,Bool.eq_iff_iff]
  have e:(ao x).cps.extract i (i+[c].length)=#[x[i]]:=by
   show (x.toArray).extract i (i+1)=_
   apply Array.ext'
   rw [List.extract_toArray]
   show (x.drop i).take (i+1 - i)=[x[i]]
   rw [List.drop_eq_getElem_cons h,show i+1 - i=1 from by exact Nat.add_sub_self_left i 1];rfl
  rw [e,List.getElem?_eq_getElem h]
  show (#[x[i]]==#[c])=true↔_
  simp
 ·rw [show decide (i+[c].length<=x.length)=false from by simp;exact Nat.lt_of_not_le h,List.getElem?_eq_none (by exact Nat.le_of_not_lt h)]
  rfl
theorem kH (c:Nat):∀ x:List Nat,((List.range (x.length+1)).filter fun i=>x[i]?==some c).length=x.count c
 | []=>rfl
 | a::x=>by
   have ih:=kH c x
   rw [List.length_cons,List.range_succ_eq_map,List.filter_cons,List.filter_map,List.count_cons]
   have e:((fun i=>(a::x)[i]?==some c) ∘ Nat.succ)=fun i=>x[i]?==some c:=by funext i;simp
   rw [e]
   by_cases h:a=c
   ·subst h;simp [ih]
   ·simp [h,ih]
theorem vg (x:List Nat):Txt.count (ao x) (ao [10])=cnt x:=by
 delta Txt.count cnt
 rw [nO _ _ (fun i j h _ _=>by rw [dY];dsimp;assumption),dY]
 have:(mt (ao x) (ao [10]) x.length)=fun i=>x[i]?==some 10:=funext fun i=>BT x 10 i
 rw [this,kH]
end
section
open PySem PySem.StrLaws PySem.Builtin PySem.Builtin.Str
noncomputable def eY (x:List Nat) (i:Nat):Bool:=x[i]?==some 44&&x[i+1]?==some 32
theorem yt (x:List Nat) (i:Nat):mt (ao x) (ao [44,32]) x.length i=eY x i:=by
 delta mt subAt eY
 rw [dY]
 by_cases h:i+1<x.length
 ·rw [show decide (i+[44,32].length<=x.length)=true from by simp;assumption,Bool.true_and,Bool.eq_iff_iff]
  have e:(ao x).cps.extract i (i+[44,32].length)=#[x[i],x[i+1]]:=by
   show (x.toArray).extract i (i+2)=_
   apply Array.ext'
   rw [List.extract_toArray]
   show (x.drop i).take (i+2 - i)=[x[i],x[i+1]]
   rw [List.drop_eq_getElem_cons (by omega),List.drop_eq_getElem_cons h,show i+2 - i=2 from by exact Nat.add_sub_self_left i 2];rfl
  rw [e,List.getElem?_eq_getElem h,List.getElem?_eq_getElem (Nat.le_of_lt (by assumption))]
  show (#[x[i],x[i+1]]==#[44,32])=true↔_
  simp
 ·rw [show decide (i+[44,32].length<=x.length)=false from by simp;exact Nat.lt_of_not_le h,List.getElem?_eq_none (show x.length<=i+1 by exact Nat.le_of_not_lt h)]
  exact Eq.symm (Bool.and_comm (x[i]?==some 44) (none==some 32))
noncomputable def fc (x:List Nat):List Nat:=(List.range (x.length+1)).filter (eY x)
theorem w9 (x:List Nat):occurrences (ao x) (ao [44,32]) 0 (ao x).length ((ao x).length+1)=fc x:=by
 rw [nO,dY]
 ·unfold fc
  exact congrFun (congrArg _ (funext fun i=>yt x i)) _
 ·intro i j h h1 h2
  rw [dY,yt] at h1 h2
  rw [dY]
  simp only [eY,Bool.and_eq_true,beq_iff_eq] at h1 h2
  by_cases hj:j=i+1
  ·subst hj
   rw [h1.2] at h2
   cases h2.1
  ·show i+2<=j;lia -abstractProof
noncomputable def gp (x:List Nat):List (List Nat):=((0::(fc x).map (·+2)).zip (fc x++[x.length])).map fun q=>(x.drop q.1).take (q.2 - q.1)
theorem vL (x:List Nat) (i j:Nat):strSub (ao x) i j=ao ((x.drop i).take (j - i)):=by
 unfold strSub
 show (⟨(x.toArray).extract i j⟩:Str)=_
 rw [List.extract_toArray]
theorem nR (x:List Nat):partsBetween (ao x) (fc x) 2=(gp x).map ao:=by
 delta partsBetween gp
 rw [dY,List.map_map]
 refine List.map_congr_left fun q _=>?_
 exact vL x q.1 q.2
theorem rO (x:List Nat):Txt.split (ao x) (ao [44,32])=(gp x).map ao:=by
 have one:fc x=[]->gp x=[x]:=fun h=>by unfold gp;rw [h];simp
 unfold Txt.split
 rw [w9]
 have hk:decide (Str.strKind (ao x)<Str.strKind (ao [44,32]))=false:=by
  have:Str.strKind (ao [44,32])=1:=by decide +kernel
  rw [this]
  unfold Str.strKind
  split
  ·rfl
  ·split<;>rfl
 rw [hk,Bool.or_false,dY]
 by_cases hl:x.length<2
 ·have hc:fc x=[]:=by
   unfold fc
   rw [List.filter_eq_nil_iff]
   intro i _
   unfold eY
   rw [Bool.and_eq_true,beq_iff_eq,beq_iff_eq]
   rintro ⟨h1,h2⟩
   have:=(List.getElem?_eq_some_iff.mp h2).1
   lia -abstractProof
  rw [show decide (x.length<(ao [44,32]).length)=true from decide_eq_true (show x.length<2 from hl),if_pos rfl,one hc];rfl
 ·rw [if_neg (by rw [show decide (x.length<(ao [44,32]).length)=false from decide_eq_false (show ¬ x.length<2 from hl)];decide)]
  by_cases hc:fc x=[]
  ·rw [if_pos (by rw [hc];rfl),one hc];rfl
  ·rw [if_neg (by simpa using hc)]
   exact nR x
theorem tR {a:List Nat} (h:44∉a):fc a=[]:=by
 unfold fc
 rw [List.filter_eq_nil_iff]
 intro i _
 unfold eY
 simp only [Bool.and_eq_true,beq_iff_eq,beq_iff_eq]
 rintro ⟨h1,_⟩
 exact h (List.mem_of_getElem? h1)
theorem vE {a:List Nat} (h:44∉a) (r:List Nat):fc (a++44::32::r)=a.length::(fc r).map (a.length+2+·):=by
 unfold fc
 have hn:(a++44::32::r).length+1=a.length+(2+(r.length+1)):=by simp;lia -abstractProof
 rw [hn,List.range_add,List.filter_append,List.range_add]
 have h1:(List.range a.length).filter (eY (a++44::32::r))=[]:=by
  rw [List.filter_eq_nil_iff]
  intro i hi
  have hi:=List.mem_range.mp hi
  unfold eY
  simp only [Bool.and_eq_true,beq_iff_eq,beq_iff_eq]
  rintro ⟨q,_⟩
  rw [List.getElem?_append_left hi] at q
  exact h (List.mem_of_getElem? q)
 simp only [h1,List.nil_append,List.map_append,List.filter_append]
 have g:∀ j,(a++44::32::r)[a.length+j]?=(44::32::r)[j]?:=fun j=>by rw [List.getElem?_append_right (by simp)];congr 1;simp
 have h2:((List.range 2).map (a.length+·)).filter (eY (a++44::32::r))=[a.length]:=by
  have t0:eY (a++44::32::r) (a.length+0)=true:=by
   unfold eY
   rw [g 0,show a.length+0+1=a.length+1 from rfl,g 1];rfl
  have t1:eY (a++44::32::r) (a.length+1)=false:=by
   unfold eY
   rw [g 1];rfl
  show ([a.length+0,a.length+1]).filter _=_
  rw [List.filter_cons_of_pos t0,List.filter_cons_of_neg (by rw [t1];decide)];rfl
 rw [h2,List.filter_map,List.filter_map,List.map_map]
 show a.length::_=_
 congr 1
 have e:(fun j=>a.length+(2+j))=fun j=>a.length+2+j:=by funext j;lia -abstractProof
 show (((List.range (r.length+1)).filter _).map _)=_
 have e2:((eY (a++44::32::r) ∘ fun x=>a.length+x) ∘ fun x=>2+x)=eY r:=by
  funext j
  show eY (a++44::32::r) (a.length+(2+j))=eY r j
  unfold eY
  rw [g (2+j),show a.length+(2+j)+1=a.length+(2+(j+1)) from by rfl,g (2+(j+1)),show 2+j=j+1+1 from by exact Nat.add_comm 2 j,show 2+(j+1)=j+1+1+1 from by exact Nat.add_comm 2 (j+1)]
  rfl
 rw [e2]
 refine List.map_congr_left fun j _=>?_
 show a.length+(2+j)=_
 lia -abstractProof
theorem qS {a:List Nat} (h:44∉a):gp a=[a]:=by unfold gp;rw [tR h];simp
theorem sC {a:List Nat} (h:44∉a) (r:List Nat):gp (a++44::32::r)=a::gp r:=by
 unfold gp
 rw [vE h,List.map_cons,List.cons_append,List.zip_cons_cons,List.map_cons]
 have e1:((a++44::32::r).drop (0,a.length).1).take ((0,a.length).2 - (0,a.length).1)=a:=by simp
 rw [e1]
 congr 1
 have e2:(a.length+2)::((fc r).map (a.length+2+·)).map (·+2)=(0::(fc r).map (·+2)).map (a.length+2+·):=by
  rw [List.map_cons,List.map_map,List.map_map]
  congr 1
 have e3:(fc r).map (a.length+2+·)++[(a++44::32::r).length]=(fc r++[r.length]).map (a.length+2+·):=by
  rw [List.map_append];simp;lia -abstractProof
 rw [e2,e3,List.zip_map,List.map_map]
 refine List.map_congr_left fun q _=>?_
 show ((a++44::32::r).drop (a.length+2+q.1)).take (a.length+2+q.2 - (a.length+2+q.1))=(r.drop q.1).take (q.2 - q.1)
 have d:(a++44::32::r).drop (a.length+2+q.1)=r.drop q.1:=by
  rw [show a.length+2+q.1=a.length+(2+q.1) from by lia -abstractProof,<-List.drop_drop,List.drop_append_of_le_length (Nat.le_refl _),List.drop_length,List.nil_append,show 2+q.1=q.1+1+1 from by exact Nat.add_comm 2 (Prod.fst q)]
  rfl
 rw [d]
 congr 1
 exact Nat.add_sub_add_left (List.length a+2) (Prod.snd q) (Prod.fst q)
theorem m8:∀ {l:List (List Nat)},l≠[]->(∀ x∈l,44∉x)->gp (bH [44,32] l)=l
 | [],h,_=>absurd rfl h
 | [x],_,h=>qS (h x (.head _))
 | x::y::r,_,h=>by
   have e:bH [44,32] (x::y::r)=x++44::32::bH [44,32] (y::r):=by simp only [gS];simp
   simp only [e,sC (h x (.head _)),m8 (by simp) fun z hz=>h z (.tail _ hz)]
theorem xq (m k:Nat) (hk:k<5):qI (fE m) (d9 m) (eI m k) k:=by
 refine ⟨rK m k hk,jI m k,?_,fun j hj=>vp m j k (by exact Nat.lt_trans hj hk) hk⟩
 rw [rO,jb m k hk,m8 (yy m k) fun x hx=>(l9 hx).1.2.1]
end
section
noncomputable def jQ (g:List Nat):Prop:=∀ c∈g,isW c=true
theorem jc (s:Nat):jQ (g9 s):=by
 have:∀ i,i<4->∀ c∈gaps.getD i [],isW c=true:=by decide
 exact this _ (Nat.mod_lt _ (by simp))
theorem mv (s:Nat):∃ c r,g9 s=c::r/\isW c=true/\jQ r:=by
 have hw:=jc s
 have:∀ i,i<4->gaps.getD i []≠[]:=by decide
 have hne:g9 s≠[]:=this _ (Nat.mod_lt _ (by simp))
 cases h:g9 s with
 | nil=>exact absurd h hne
 | cons c r=>exact ⟨c,r,rfl,hw c (by rw [h];exact .head _),fun d hd=>hw d (by rw [h];exact .tail _ hd)⟩
theorem Cs (n hi:Nat):lw n hi≠[]:=by
 unfold lw
 intro q
 have:=List.map_eq_nil_iff.mp q
 have:=(List.filter_eq_nil_iff.mp this) 1 (by decide)
 simp at this
theorem AE {col:List Nat} (h:col≠[]) (hi:Nat):cz col hi≠[]:=by
 cases col with
 | nil=>exact absurd rfl h
 | cons a r =>
   intro q
   unfold cz at q
   rw [List.flatMap_cons] at q
   exact Cs a hi (List.append_eq_nil_iff.mp q).1
theorem Cj {s j:Nat} {col g T:List Nat} (hg:jQ g) (hc:col≠[]):∃ g',jQ g'/\Tk (g++(kD s j col++T)) (cz col (dw s j / 2*128)) (g'++T):=by
 have hw4:dw s j<4:=Nat.mod_lt _ (by decide)
 unfold kD
 rcases Nat.mod_two_eq_zero_or_one (dw s j) with h | h
 ·refine ⟨if fA s≠0/\dw s j % 2=0 then [] else g9 s,?_,?_⟩
  ·split
   ·intro c hc;cases hc
   ·exact jc s
  ·rw [List.append_assoc]
   exact Tk.white hg (Tk.quoted h hw4)
 ·rw [if_neg (by lia -abstractProof)]
  obtain ⟨c,r,e,h1,h2⟩:=mv s
  refine ⟨r,h2,?_⟩
  rw [e,List.append_assoc,List.cons_append]
  exact Tk.white hg (Tk.bare h hw4 h1 (AE hc _))
theorem oN:∀ {l:List (List Nat)},l≠[]->(∀ x∈l,lH x)->∀ pre:List Nat,(pre++bH [44,32] l).drop ((pre++bH [44,32] l).length - 1)≠[44]
 | [],h,_,_=>absurd rfl h
 | [x],_,h,pre=>mZ (h x (.head _)) pre
 | x::y::r,_,h,pre=>by
   have e:pre++bH [44,32] (x::y::r)=(pre++x++[44,32])++bH [44,32] (y::r):=by simp only [gS];simp
   rw [e]
   exact oN (by simp) (fun z hz=>h z (.tail _ hz)) _
theorem Cq {s:Nat} {ws:List (List Nat)} {g T:List Nat} (hg:jQ g) (hn:ws≠[]) (hl:ws.length<=4) (hw:∀ x∈ws,lH x):∃ ww z g',jQ g'/\Tk (g++(jn s (bH [44,32] ws)++T)) ww z/\NTok 3 ww z (bH [44,32] ws) (g'++T):=by
 have hb3:gA s<3:=Nat.mod_lt _ (by simp)
 have hlast:(bH [44,32] ws).drop ((bH [44,32] ws).length - 1)≠[44]:=oN hn hw []
 have hne:bH [44,32] ws≠[]:=qB hn fun x hx=>(hw x hx).1.1
 unfold jn
 by_cases h1:gA s=1
 ·rw [if_pos h1,if_neg (by lia -abstractProof)]
  obtain ⟨c,r,e,q1,q2⟩:=mv s
  cases ws with
  | nil=>exact absurd rfl hn
  | cons a ws =>
    obtain ⟨w,z1,t1,t2,t3⟩:=mz q1 (r++T) ws a [] 3 (by simp at hl;omega) hw (by simp at hl ⊢;lia -abstractProof)
    refine ⟨w,z1,r,q2,?_,by simpa using t3⟩
    rw [e,List.append_assoc,List.cons_append]
    exact Tk.white hg t1
 ·rw [if_neg h1]
  rcases (by lia -abstractProof:gA s=0\/gA s=2) with h | h
  ·refine ⟨_,_,if fA s≠0/\gA s=0 then [] else g9 s,?_,?_,NTok.done hlast 3⟩
   ·split
    ·intro c hc;cases hc
    ·exact jc s
   ·rw [List.append_assoc,h]
    exact Tk.white hg (Tk.quoted (by rfl) (by decide))
  ·rw [if_neg (by lia -abstractProof),h]
   obtain ⟨c,r,e,q1,q2⟩:=mv s
   refine ⟨_,_,r,q2,?_,NTok.done hlast 3⟩
   rw [e,List.append_assoc,List.cons_append]
   exact Tk.white hg (Tk.bare (by rfl) (by decide) q1 hne)
noncomputable def lO (cols lists:List (List Nat)) (s:Nat):Nat->Nat->List Nat
 | _,0=>pA s
 | j,n+1=>kD s j (cols.getD j [])++(jn s (lists.getD j [])++lO cols lists s (j+1) n)
theorem lI (cols lists:List (List Nat)) (s:Nat):∀ n j,eW cols lists s j++lO cols lists s j n=eW cols lists s (j+n)++pA s
 | 0,j=>rfl
 | n+1,j=>by
   have:=lI cols lists s n (j+1)
   rw [show j+1+n=j+(n+1) from by exact Nat.succ_add_eq_add_succ j n] at this
   rw [<-this]
   show _=eW cols lists s j++kD s j (cols.getD j [])++jn s (lists.getD j [])++_
   simp only [lO];simp only [List.append_assoc]
theorem Az (s:Nat):pA s∈ends:=by
 have:∀ i,i<4->ends.getD i []∈ends:=by decide
 exact this _ (Nat.mod_lt _ (by simp))
theorem oO {cols:List (List Nat)} {m s:Nat} (hc:∀ j,j<5->cols.getD j []≠[]):∀ n j g,j+n=5->jQ g ->
 ∃ xe,RD (g++lO cols (bZ m) s j n) ((List.range' j n).map fun j=>(cz (cols.getD j []) (dw s j / 2*128),eI m j)) xe/\Tk xe [101,110,100] []
 | 0,j,g,_,hg=>⟨g++pA s,.nil,Tk.white hg (Tk.last (Az s))⟩
 | n+1,j,g,hj,hg=>by
   have hj5:j<5:=by lia -abstractProof
   have hl:(bZ m).getD j []=bH [44,32] (jI m j):=by
    rw [<-jb m j hj5]
    exact at5 (P:=fun j=>(bZ m).getD j []=eI m j) rfl rfl rfl rfl rfl j hj5
   obtain ⟨g1,w1,t1⟩:=Cj (s:=s) (j:=j) (col:=cols.getD j []) (T:=jn s ((bZ m).getD j [])++lO cols (bZ m) s (j+1) n) hg (hc j hj5)
   obtain ⟨ww,z,g2,w2,t2,t3⟩:=Cq (s:=s) (ws:=jI m j) (T:=lO cols (bZ m) s (j+1) n) w1 (yy m j) (tW m j) fun x hx=>(l9 hx).1
   obtain ⟨xe,hr,he⟩:=oO (m:=m) (s:=s) hc n (j+1) g2 (by lia -abstractProof) w2
   refine ⟨xe,?_,he⟩
   simp only [List.range'_succ,List.map_cons,lO]
   refine .cons t1 ?_ (by rw [jb m j hj5];exact t3) hr
   rw [hl];exact t2
theorem As {cols:List (List Nat)} {m s:Nat} (hc:∀ j,j<5->cols.getD j []≠[]):∃ xe,RD (jl cols (bZ m) s) ((List.range 5).map fun j=>(cz (cols.getD j []) (dw s j / 2*128),eI m j)) xe/\Tk xe [101,110,100] []:=by
 obtain ⟨xe,h1,h2⟩:=oO (m:=m) (s:=s) hc 5 0 (g9 s) rfl (jc s)
 refine ⟨xe,?_,h2⟩
 have:=lI cols (bZ m) s 5 0
 rw [List.range_eq_range']
 unfold jl
 rw [<-show eW cols (bZ m) s 0++lO cols (bZ m) s 0 5=eW cols (bZ m) s 5++pA s from this]
 exact h1
end
section
noncomputable def uH (m s:Nat) (cols:List (List Nat)):Prop :=
 ∃ r0 r1 r2 r3 r4,qm (s / 12288 % 2) (dK (fE m) 5) r0 r1 r2 r3 r4/\r0.map Rec.word=(List.range 5).map (fun j=>cz (cols.getD j []) (dw s j / 2*128)) /\
   [r0.map Rec.rowN,r1.map Rec.rowN,r2.map Rec.rowN,r3.map Rec.rowN,r4.map Rec.rowN]=(dc m cols).map (iI cols)
theorem vN {m s:Nat} {cols:List (List Nat)} (hc:∀ j,j<5->cols.getD j []≠[]) (h:uH m s cols):iX m s cols where
 len:=rK m
 mask:=AI m
 read:=As hc
 split:=xq m
 told:=AR m
 nb:=by rw [nE];exact xY _ (Nat.mod_lt _ (by simp))
 small:=yH m
 ok:=AH m
 count:=vg _
 rounds:=h
end
section
noncomputable def zx (f:Nat->Int):Int:=nQ (R5.map f)
theorem mV (f:Nat->Int) {y:Nat} (h:y<5):f y<=zx f:=u8 _ (List.mem_map.mpr ⟨y,by simp;lia -abstractProof,rfl⟩)
theorem jK (f:Nat->Int):∃ y,y<5/\zx f=f y:=by
 obtain ⟨y,hy,e⟩:=List.mem_map.mp (q6 (l:=R5.map f) (by exact Iff.mp List.getLast?_isSome rfl))
 exact ⟨y,gY hy,e.symm⟩
theorem Bp {f:Nat->Int} {m:Int} {y:Nat} (hy:y<5) (h:f y=m) (hu:∀ z,z<5->f z<=m):zx f=m:=by
 obtain ⟨z,hz,e⟩:=jK f
 have h1:=mV f hy
 have h2:=hu z hz
 lia -abstractProof
theorem uW (F:Nat->Nat->Int):zx (fun y=>zx fun z=>F z y)=zx fun z=>zx fun y=>F z y:=by
 obtain ⟨y,hy,e1⟩:=jK fun y=>zx fun z=>F z y
 obtain ⟨z,hz,e2⟩:=jK fun z=>F z y
 obtain ⟨z',hz',e3⟩:=jK fun z=>zx fun y=>F z y
 obtain ⟨y',hy',e4⟩:=jK fun y=>F z' y
 have a1:=mV (fun y=>F z y) hy
 have a2:=mV (fun z=>zx fun y=>F z y) hz
 have b1:=mV (fun z=>F z y') hz'
 have b2:=mV (fun y=>zx fun z=>F z y) hy'
 lia -abstractProof
theorem si (a:Int) (f:Nat->Int):zx (fun y=>a+f y)=a+zx f:=by
 obtain ⟨y,hy,e1⟩:=jK fun y=>a+f y
 obtain ⟨z,hz,e2⟩:=jK f
 have h1:=mV f hy
 have h2:=mV (fun y=>a+f y) hz
 lia -abstractProof
theorem eX {f g:Nat->Int} (h:∀ y,y<5->f y=g y):zx f=zx g:=by
 unfold zx
 congr 1
 exact List.map_congr_left fun y hy=>h y (gY hy)
noncomputable def cV (one:Nat->Nat->Int):Nat->Nat->Int
 | 0,_=>0
 | n+1,x=>zx fun w=>one x w+cV one n w
theorem wX (f:Nat->Nat->Int) (x:Nat):fG f x=cV f 1 x:=by
 show zx (f x)=zx fun w=>f x w+0
 exact eX fun y _=>by simp
theorem iU (f g:Nat->Nat->Int) (x:Nat):fG (bU f g) x=zx fun z=>f x z+fG g z:=by
 show zx (fun y=>zx fun z=>f x z+g z y)=_
 rw [uW]
 exact eX fun z _=>si _ _
theorem BK (f:Nat->Nat->Int) (x:Nat):fG (bU f f) x=cV f 2 x:=by
 rw [iU]
 exact eX fun z _=>by rw [wX]
theorem n6 (f:Nat->Nat->Int) (h:Nat->Int) (x:Nat):(zx fun z=>bU f f x z+h z)=zx fun w=>f x w+zx fun z=>f w z+h z:=by
 have:∀ z,bU f f x z+h z=zx fun w=>f x w+(f w z+h z):=fun z=>by
  show (zx fun w=>f x w+f w z)+h z=_
  rw [Int.add_comm,<-si]
  exact eX fun w _=>by lia -abstractProof
 rw [show (fun z=>bU f f x z+h z)=fun z=>zx fun w=>f x w+(f w z+h z) from funext this,uW]
 exact eX fun w _=>si _ _
theorem Dq (f:Nat->Nat->Int) (x:Nat):fG (bU (bU f f) f) x=cV f 3 x:=by
 rw [iU,n6]
 exact eX fun w _=>by
  show f x w+_=f x w+cV f 2 w
  congr 1
  exact eX fun z _=>by rw [wX]
theorem DS (f:Nat->Nat->Int) (x:Nat):fG (bU (bU f f) (bU f f)) x=cV f 4 x:=by
 rw [iU,n6]
 exact eX fun w _=>by
  show f x w+_=f x w+cV f 3 w
  congr 1
  exact eX fun z _=>by rw [BK]
theorem sV (f:Nat->Nat->Int):lr f=[0,1,2,3,4].map fun n=>R5.map (cV f n):=by
 delta lr eK
 rw [show fG f=cV f 1 from funext (wX f),show fG (bU f f)=cV f 2 from funext (BK f),show fG (bU (bU f f) f)=cV f 3 from funext (Dq f),show fG (bU (bU f f) (bU f f))=cV f 4 from funext (DS f)]
 rfl
end
section
structure Net (one:Nat->Nat->Int) (tie:Nat->Nat->Bool):Prop where
 self:∀ x,x<5->one x x=0
 sym:∀ x y,x<5->y<5->tie x y=true->tie y x=true
 anti:∀ x y,x<5->y<5->tie x y=true->one y x=- one x y
 bd:∀ x y,x<5->y<5->tie x y=true->-1<=one x y/\one x y<=1
 far:∀ x y,x<5->y<5->x≠y->tie x y=false->one x y=-9
noncomputable def up1 (one:Nat->Nat->Int) (tie:Nat->Nat->Bool) (n x:Nat):Bool:=R5.any fun y=>tie x y&&decide (one x y+cV one n y - cV one n x=1)
structure xS (one:Nat->Nat->Int) (tie:Nat->Nat->Bool) (n:Nat):Prop where
 lo:∀ x,x<5->0<=cV one n x
 hi:∀ x,x<5->cV one n x<=n
 near:∀ x y,x<5->y<5->tie x y=true->-1<=one x y+cV one n y - cV one n x/\one x y+cV one n y - cV one n x<=1
variable {one:Nat->Nat->Int} {tie:Nat->Nat->Bool}
theorem up1_iff {n x:Nat}:up1 one tie n x=true↔∃ y,y<5/\tie x y=true/\one x y+cV one n y - cV one n x=1:=by
 unfold up1
 rw [List.any_eq_true]
 constructor
 ·rintro ⟨y,hy,h⟩
  have h:=Bool.and_eq_true_iff.mp h
  exact ⟨y,gY hy,h.1,of_decide_eq_true h.2⟩
 ·rintro ⟨y,hy,h1,h2⟩
  exact ⟨y,by simp;lia -abstractProof,by rw [h1,decide_eq_true h2];rfl⟩
theorem oF (N:Net one tie) {n:Nat} (hn:n<=4) (I:xS one tie n) {x:Nat} (hx:x<5):cV one (n+1) x=cV one n x+(if up1 one tie n x=true then 1 else 0):=by
 show zx (fun w=>one x w+cV one n w)=_
 have hself:one x x+cV one n x=cV one n x:=by rw [N.self x hx];simp
 have hfar:∀ w,w<5->x≠w->tie x w=false->one x w+cV one n w<=cV one n x:=fun w hw hne ht=>by
  rw [N.far x w hx hw hne ht]
  have:=I.hi w hw;have:=I.lo x hx
  lia -abstractProof
 by_cases hu:up1 one tie n x=true
 ·rw [if_pos hu]
  obtain ⟨y,hy,ht,he⟩:=up1_iff.mp hu
  refine Bp hy (by exact Iff.mp Int.sub_eq_iff_eq_add' he) fun w hw=>?_
  by_cases hxw:x=w
  ·subst hxw;exact Int.le.intro 1 (congrFun (congrArg HAdd.hAdd hself) ↑1)
  ·cases htw:tie x w with
   | true=>have:=(I.near x w hx hw htw).2;exact Int.le_add_of_sub_left_le this
   | false=>have:=hfar w hw hxw htw;exact Int.le_add_one (hfar w hw hxw htw)
 ·rw [if_neg hu]
  refine Bp hx (by lia -abstractProof) fun w hw=>?_
  by_cases hxw:x=w
  ·subst hxw;exact Int.le.intro 0 (congrFun (congrArg HAdd.hAdd hself) ↑0)
  ·cases htw:tie x w with
   | true =>
     have h1:=(I.near x w hx hw htw).2
     have h2:¬ (one x w+cV one n w - cV one n x=1):=fun q=>hu (up1_iff.mpr ⟨w,hw,htw,q⟩)
     lia -abstractProof
   | false=>have:=hfar w hw hxw htw;lia -abstractProof
theorem xI (N:Net one tie):xS one tie 0:=⟨fun _ _=>Int.le_refl _,fun _ _=>Int.le_refl _,fun x y hx hy ht=>by
 have:=N.bd x y hx hy ht
 show -1<=one x y+0 - 0/\one x y+0 - 0<=1
 lia -abstractProof⟩
theorem xa (N:Net one tie) {n:Nat} (hn:n<=4) (I:xS one tie n):xS one tie (n+1):=by
 have st:=fun x hx=>oF N hn I (x:=x) hx
 refine ⟨fun x hx=>?_,fun x hx=>?_,fun x y hx hy ht=>?_⟩
 ·rw [st x hx];have:=I.lo x hx;split<;>lia -abstractProof
 ·rw [st x hx];have:=I.hi x hx;split<;>lia -abstractProof
 ·rw [st x hx,st y hy]
  have h:=I.near x y hx hy ht
  have hs:=N.sym x y hx hy ht
  have ha:=N.anti x y hx hy ht
  by_cases h1:one x y+cV one n y - cV one n x=1
  ·rw [if_pos (up1_iff.mpr ⟨y,hy,ht,h1⟩)];split<;>lia -abstractProof
  ·by_cases h2:one x y+cV one n y - cV one n x=-1
   ·rw [if_pos (c:=up1 one tie n y=true) (up1_iff.mpr ⟨x,hx,hs,by lia -abstractProof⟩)];split<;>lia -abstractProof
   ·split<;>split<;>lia -abstractProof
theorem mr (N:Net one tie):∀ n,n<=4->xS one tie n
 | 0,_=>xI N
 | n+1,h=>xa N (Nat.le_of_lt (by assumption)) (mr N n (Nat.le_of_lt (by assumption)))
end
section
noncomputable def iB (m x y:Nat):Bool:=(psI m).any (·==((x:Int),(y:Int)))||(psI m).any (·==((y:Int),(x:Int)))
theorem y7 (m:Nat):iB m=iB (m % 1024):=by funext x y;delta iB psI;rw [mu]
theorem so:∀ b,b<1024->∀ x,x<5->∀ j,j<5->((dK (fE b) 5).getD x []).contains j=iB b x j:=by
 have h:(List.range 1024).all (fun b=>(List.range 5).all fun x=>(List.range 5).all fun j=>((dK (fE b) 5).getD x []).contains j==iB b x j)=true:=by decide +kernel
 intro b hb x hx j hj
 have:=List.all_eq_true.mp (List.all_eq_true.mp (List.all_eq_true.mp h b (List.mem_range.mpr hb)) x (List.mem_range.mpr hx)) j (List.mem_range.mpr hj)
 exact beq_iff_eq.mp this
theorem yD (m x j:Nat) (hx:x<5) (hj:j<5):j∈(dK (fE m) 5).getD x []↔iB m x j=true:=by
 rw [nE,y7,<-so _ (Nat.mod_lt _ (by simp)) x hx j hj]
 exact Iff.symm List.contains_iff_mem
theorem oR:∀ a:Nat,a<3->∀ b:Nat,b<3->(((b:Int) - (a:Int)+1).fmod 3 - 1=-((((a:Int) - (b:Int)+1).fmod 3 - 1))/\-1<=((b:Int) - (a:Int)+1).fmod 3 - 1/\((b:Int) - (a:Int)+1).fmod 3 - 1<=1/\(((b:Int) - (a:Int)+1).fmod 3 - 1 - ((b:Int) - (a:Int))).fmod 3=0):=by decide
theorem Ei {m:Nat} {tops:List Nat} (ht:∀ x,x<5->tops.getD x 0<3):Net (cU tops (psI m)) (iB m) where
 self x _:=by unfold cU;exact if_pos rfl
 sym x y _ _ h:=by unfold iB at *;rw [Bool.or_comm];exact h
 anti x y hx hy h:=by
  unfold iB at h
  unfold cU
  by_cases e:x=y
  ·subst e;rw [if_pos rfl];rfl
  ·have h':((psI m).any (·==((y:Int),(x:Int)))||(psI m).any (·==((x:Int),(y:Int))))=true:=by rw [Bool.or_comm];exact h
   rw [if_neg (Ne.symm e),if_neg e,if_pos h',if_pos h]
   exact (oR _ (ht y hy) _ (ht x hx)).1
 bd x y hx hy h:=by
  unfold iB at h
  unfold cU
  by_cases e:x=y
  ·rw [if_pos e];decide
  ·rw [if_neg e,if_pos h]
   have:=oR _ (ht x hx) _ (ht y hy)
   exact ⟨this.2.1,this.2.2.1⟩
 far x y _ _ hne h:=by
  unfold cU
  rw [if_neg hne,if_neg]
  intro q
  unfold iB at h
  rw [h] at q;cases q
end
section
open PySem PySem.Float64
theorem oI {W D t:Nat} (hD:0<D) (hn:∀ t',Float64.dist W (D*Float64.V t)<=Float64.dist W (D*Float64.V t')):∀ k,W<D*2 ^ (53+k)->Float64.dist W (D*Float64.V t)<=D*2 ^ k
 | k,hW=>by
   have hk:0<2 ^ k:=Nat.two_pow_pos k
   have hq:W / (D*2 ^ k)<2 ^ 53:=by
    refine Nat.div_lt_of_lt_mul ?_
    rw [Nat.mul_assoc,<-Nat.pow_add,Nat.add_comm k 53];exact hW
   by_cases hc:2 ^ 52<=W / (D*2 ^ k)\/k=0
   ·refine Nat.le_trans (hn (k*2 ^ 52+W / (D*2 ^ k))) ?_
    rw [Float64.V_at (Nat.le_of_lt hq) hc]
    have h1:=Nat.div_add_mod W (D*2 ^ k)
    have h2:=Nat.mod_lt W (Nat.mul_pos hD hk)
    have e:D*(W / (D*2 ^ k)*2 ^ k)=D*2 ^ k*(W / (D*2 ^ k)):=by ac_rfl
    rw [e]
    have d:∀ a r:Nat,Float64.dist (a+r) a=r:=fun a r=>by unfold Float64.dist;rw [Nat.add_sub_cancel_left,Nat.sub_eq_zero_of_le (Nat.le_add_right a r)];rfl
    have d1:=d (D*2 ^ k*(W / (D*2 ^ k))) (W % (D*2 ^ k))
    rw [h1] at d1
    rw [d1]
    exact Nat.le_of_lt h2
   ·match k,hc,hW,hq with
    | 0,hc,_,_=>exact absurd (Or.inr rfl) hc
    | k+1,hc,hW,hq =>
      have h52:W<D*2 ^ (53+k):=by
       have:W / (D*2 ^ (k+1))<2 ^ 52:=by
        rcases Nat.lt_or_ge (W / (D*2 ^ (k+1))) (2 ^ 52) with h | h
        ·exact h
        ·exact absurd (Or.inl h) hc
       have:=(Nat.div_lt_iff_lt_mul (Nat.mul_pos hD (Nat.two_pow_pos _))).mp this
       have e:2 ^ 52*(D*2 ^ (k+1))=D*2 ^ (53+k):=by
        rw [show 53+k=52+(k+1) from by exact Nat.succ_add_eq_add_succ 52 k,Nat.pow_add 2 52 (k+1)]
        generalize 2 ^ (k+1)=Q
        generalize (2:Nat) ^ 52=P
        exact Nat.mul_left_comm P D Q
       rw [e] at this;exact this
      refine Nat.le_trans (oI hD hn k h52) (Nat.mul_le_mul_left D (Nat.pow_le_pow_right (by decide) (by simp)))
end
section
open PySem PySem.Float64
noncomputable def Fn' (x:UInt64):Prop:=∃ a m e,decode x=.fin a m e
theorem Fn'.fin {x:UInt64} (h:Fn' x):Float64.isFinite x=true:=by obtain ⟨a,m,e,h⟩:=h;unfold Float64.isFinite;rw [h]
theorem i5:∀ (k q:Nat),q<2 ^ 53->∃ t,Float64.V t=q*2 ^ k:=by
 intro k
 induction k with
 | zero =>
   intro q h
   exact ⟨0*2 ^ 52+q,Float64.V_at (Nat.le_of_lt h) (.inr rfl)⟩
 | succ k ih =>
   intro q h
   by_cases hq:2 ^ 52<=q
   ·exact ⟨(k+1)*2 ^ 52+q,Float64.V_at (Nat.le_of_lt h) (.inl hq)⟩
   ·obtain ⟨t,ht⟩:=ih (2*q) (by lia)
    refine ⟨t,?_⟩
    rw [ht,Nat.pow_succ]
    generalize 2 ^ k=P
    rw [Nat.mul_comm 2 q,Nat.mul_assoc,Nat.mul_comm 2 P]
theorem d4 {r:UInt64} {neg:Bool} {W D k:Nat} (hR:Float64.Right r neg W D) (hD:0<D) (hW:W<D*2 ^ (53+k)) (hk:k<=2040):Fn' r/\∃ w,Float64.val r=sgn neg w/\Float64.dist W (D*w)<=D*2 ^ k/\∀ t',Float64.dist W (D*w)<=Float64.dist W (D*Float64.V t'):=by
 obtain ⟨t,rfl,hle,hov,hn⟩:=hR
 have hlt:t<infMag:=by
  rcases Nat.lt_or_ge t infMag with h | h
  ·exact h
  ·have he:t=infMag:=Nat.le_antisymm hle h
   have h1:=hov.mp he
   have h2:D*2 ^ (53+k)<=D*2 ^ 2093:=Nat.mul_le_mul_left D (Nat.pow_le_pow_right (by decide) (by lia))
   have h3:2*2 ^ 2093<=(2 ^ 54 - 1)*2 ^ 2045:=by decide +kernel
   have h4:=Nat.mul_le_mul_left D h3
   have h5:D*(2*2 ^ 2093)=2*(D*2 ^ 2093):=Nat.mul_left_comm D 2 _
   rw [h5] at h4
   generalize 2 ^ 2093=P at *
   generalize (2 ^ 54 - 1)*2 ^ 2045=Q at *
   generalize 2 ^ (53+k)=S at *
   lia
 obtain ⟨m,e,hd,hv⟩:=decode_pack neg hlt
 exact ⟨⟨_,_,_,hd⟩,Float64.V t,val_pack neg hlt,oI hD (fun t'=>(hn hlt t').1) k hW,fun t'=>(hn hlt t').1⟩
end
section
open PySem PySem.Float64
noncomputable abbrev fv (x:UInt64):Int:=Float64.val x
theorem io (s:Bool):Fn' (Float64.zero s)/\fv (Float64.zero s)=0:=by
 obtain ⟨m,e,hd,hv⟩:=decode_pack s (t:=0) (by decide +kernel)
 refine ⟨⟨_,_,_,hd⟩,?_⟩
 have:=val_pack s (t:=0) (by decide +kernel)
 rw [V_zero] at this
 show Float64.val (pack s 0)=0
 rw [this];cases s<;>rfl
theorem j5 (a b:Nat):((a:Int) - (b:Int)).natAbs=Float64.dist b a:=by
 unfold Float64.dist
 rcases Nat.le_total a b with h | h
 ·rw [<-Int.natAbs_neg,Int.neg_sub,<-Int.ofNat_sub h,Int.natAbs_natCast,Nat.sub_eq_zero_of_le h,Nat.add_zero]
 ·rw [<-Int.ofNat_sub h,Int.natAbs_natCast,Nat.sub_eq_zero_of_le h,Nat.zero_add]
theorem ot (a b:Nat):Float64.dist a b=Float64.dist b a:=Nat.add_comm _ _
theorem pJ {S:Int} {w E:Nat} (h:Float64.dist S.natAbs (1*w)<=E):(Float64.sgn (decide (S<0)) w - S).natAbs<=E:=by
 rw [Nat.one_mul] at h
 by_cases hs:S<0
 ·rw [decide_eq_true hs]
  show (-(w:Int) - S).natAbs<=E
  have e:S=-((S.natAbs:Nat):Int):=by rw [Int.ofNat_natAbs_of_nonpos (Int.le_of_lt hs),Int.neg_neg]
  rw [e,Int.sub_neg,Int.add_comm,<-Int.sub_eq_add_neg,j5,ot]
  exact h
 ·rw [decide_eq_false hs]
  show ((w:Int) - S).natAbs<=E
  have e:S=((S.natAbs:Nat):Int):=(Int.natAbs_of_nonneg (Int.not_lt.mp hs)).symm
  rw [e,j5]
  exact h
theorem zq {x y:UInt64} (hx:Fn' x) (hy:Fn' y) {k:Nat} (hk:k<=2040) (hb:(fv x+fv y).natAbs<2 ^ (53+k)):Fn' (Float64.add x y)/\(fv (Float64.add x y) - (fv x+fv y)).natAbs<=2 ^ k:=by
 obtain ⟨a,m,e,hx⟩:=hx
 obtain ⟨b,n,f,hy⟩:=hy
 obtain ⟨h0,h1⟩:=add_right hx hy
 by_cases hs:fv x+fv y=0
 ·rw [h0 hs]
  obtain ⟨z1,z2⟩:=io (a&&b)
  refine ⟨z1,?_⟩
  rw [z2,hs];exact Nat.zero_le _
 ·obtain ⟨r1,w,r2,r3,_⟩:=d4 (h1 hs) (by exact Nat.one_pos) (by rw [Nat.one_mul];exact hb) hk
  refine ⟨r1,?_⟩
  show (Float64.val (Float64.add x y) - _).natAbs<=_
  rw [r2]
  rw [Nat.one_mul (2 ^ k)] at r3
  exact pJ r3
theorem A7 {x y:UInt64} (hx:Fn' x) (hy:Fn' y) {k:Nat} (hk:k<=2040) (hb:(fv x - fv y).natAbs<2 ^ (53+k)):Fn' (Float64.sub x y)/\(fv (Float64.sub x y) - (fv x - fv y)).natAbs<=2 ^ k:=by
 obtain ⟨a,m,e,hx⟩:=hx
 obtain ⟨b,n,f,hy⟩:=hy
 obtain ⟨h0,h1⟩:=sub_right hx hy
 by_cases hs:fv x - fv y=0
 ·rw [h0 hs]
  obtain ⟨z1,z2⟩:=io (a&&!b)
  refine ⟨z1,?_⟩
  rw [z2,hs];exact Nat.zero_le _
 ·obtain ⟨r1,w,r2,r3,_⟩:=d4 (h1 hs) (by exact Nat.one_pos) (by rw [Nat.one_mul];exact hb) hk
  refine ⟨r1,?_⟩
  show (Float64.val (Float64.sub x y) - _).natAbs<=_
  rw [r2]
  rw [Nat.one_mul (2 ^ k)] at r3
  exact pJ r3
end
section
open PySem PySem.Float64
set_option exponentiation.threshold 3000
theorem zo (a b:Bool) (m n:Nat):Float64.sgn a m*Float64.sgn b n=Float64.sgn (a != b) (m*n):=by
 cases a<;>cases b<;>simp [Float64.sgn,Int.neg_mul,Int.mul_neg]
theorem pZ {x:UInt64} {a:Bool} {m:Nat} {e:Int} (h:decode x=.fin a m e):fv x=Float64.sgn a (fv x).natAbs:=by
 rw [show fv x=Float64.sgn a (m*2 ^ (e+1074).toNat) from val_eq h]
 generalize m*2 ^ (e+1074).toNat=q
 cases a<;>simp [Float64.sgn]
theorem rY {s:Bool} {w W D E:Nat} (h:Float64.dist W (D*w)<=E):(Float64.sgn s w*(D:Int) - Float64.sgn s W).natAbs<=E:=by
 have e:((D*w:Nat):Int)=(w:Int)*(D:Int):=by rw [Int.natCast_mul,Int.mul_comm]
 cases s
 ·show ((w:Int)*(D:Int) - (W:Int)).natAbs<=E
  rw [<-e,j5];exact h
 ·show (-(w:Int)*(D:Int) - -(W:Int)).natAbs<=E
  rw [Int.neg_mul,<-e,Int.sub_neg,Int.add_comm,<-Int.sub_eq_add_neg,j5,ot];exact h
theorem Bd {x y:UInt64} (hx:Fn' x) (hy:Fn' y) {k:Nat} (hk:k<=2040) (hb:(fv x).natAbs*(fv y).natAbs<2 ^ 1074*2 ^ (53+k)) :
 Fn' (Float64.mul x y)/\(fv (Float64.mul x y)*((2 ^ 1074:Nat):Int) - fv x*fv y).natAbs<=2 ^ 1074*2 ^ k:=by
 obtain ⟨a,m,e,hx⟩:=hx
 obtain ⟨b,n,f,hy⟩:=hy
 obtain ⟨r1,w,r2,r3,_⟩:=d4 (mul_right hx hy) (Nat.two_pow_pos _) hb hk
 refine ⟨r1,?_⟩
 have hs:fv x*fv y=Float64.sgn (a != b) ((fv x).natAbs*(fv y).natAbs):=by
  rw [<-zo,<-pZ hx,<-pZ hy]
 rw [hs]
 show (Float64.val (Float64.mul x y)*_ - _).natAbs<=_
 rw [r2]
 exact rY r3
theorem z9 {x y:UInt64} (hx:Fn' x) (hy:Fn' y) (h0:fv y≠0) {k:Nat} (hk:k<=2040) (hb:(fv x).natAbs*2 ^ 1074<(fv y).natAbs*2 ^ (53+k)) :
 Fn' (Float64.div x y)/\(fv (Float64.div x y)*fv y - fv x*((2 ^ 1074:Nat):Int)).natAbs<=(fv y).natAbs*2 ^ k:=by
 obtain ⟨a,m,e,hx⟩:=hx
 obtain ⟨b,n,f,hy⟩:=hy
 have hn:n≠0:=by
  rintro rfl
  apply h0
  rw [show fv y=Float64.sgn b (0*2 ^ (f+1074).toNat) from val_eq hy,Nat.zero_mul]
  cases b<;>rfl
 have hD:0<(fv y).natAbs:=Int.natAbs_pos.mpr h0
 obtain ⟨r1,w,r2,r3,_⟩:=d4 (div_right hx hy hn) hD hb hk
 refine ⟨r1,?_⟩
 have h:=rY (s:=a != b) r3
 have e1:Float64.sgn (a != b) ((fv x).natAbs*2 ^ 1074)=fv x*((2 ^ 1074:Nat):Int)*(if b then -1 else 1):=by
  conv=>rhs;rw [pZ hx]
  generalize (2:Nat) ^ 1074=P
  cases a<;>cases b<;>simp [Float64.sgn,Int.neg_mul,Int.mul_neg]
 have e2:Float64.sgn (a != b) w*((fv y).natAbs:Int)=fv (Float64.div x y)*fv y*(if b then -1 else 1):=by
  show _=Float64.val (Float64.div x y)*fv y*_
  rw [r2]
  conv=>rhs;rw [pZ hy]
  cases a<;>cases b<;>simp [Float64.sgn,Int.neg_mul,Int.mul_neg]
 rw [show (Float64.val x).natAbs*2 ^ 1074=(fv x).natAbs*2 ^ 1074 from rfl,e1,show ((Float64.val y).natAbs:Int)=((fv y).natAbs:Int) from rfl,e2,<-Int.sub_mul,Int.natAbs_mul] at h
 have e3:((if b then (-1:Int) else 1)).natAbs=1:=by cases b<;>rfl
 rw [e3,Nat.mul_one] at h
 exact h
end
section
open PySem PySem.Float64
set_option exponentiation.threshold 3000
noncomputable def Rep (v:Int):Prop:=∃ q k:Nat,q<2 ^ 53/\k<=2000/\v.natAbs=q*2 ^ k
theorem Rep.lt {v:Int} (h:Rep v):v.natAbs<2 ^ (53+2000):=by
 obtain ⟨q,k,hq,hk,e⟩:=h
 rw [e,Nat.pow_add]
 calc q*2 ^ k<2 ^ 53*2 ^ k:=Nat.mul_lt_mul_of_pos_right hq (Nat.two_pow_pos k)
  _<=2 ^ 53*2 ^ 2000:=Nat.mul_le_mul_left _ (Nat.pow_le_pow_right (by decide) hk)
theorem kP {r:UInt64} {S:Int} (hR:Float64.Right r (decide (S<0)) S.natAbs 1) (h:Rep S):Fn' r/\fv r=S:=by
 have hlt:=h.lt
 obtain ⟨q,k,hq,hk,e⟩:=h
 obtain ⟨r1,w,r2,_,r4⟩:=d4 hR (by exact Nat.one_pos) (by rw [Nat.one_mul];exact hlt) (by simp)
 obtain ⟨t,ht⟩:=i5 k q hq
 have h1:=r4 t
 rw [ht,<-e] at h1
 have h2:Float64.dist S.natAbs (1*w)<=0:=by
  refine Nat.le_trans h1 ?_
  unfold Float64.dist;simp
 have:=pJ h2
 refine ⟨r1,?_⟩
 show Float64.val r=S
 rw [r2];exact Int.eq_of_sub_eq_zero (Int.natAbs_eq_zero.mp (Nat.le_zero.mp this))
theorem vv {x y:UInt64} (hx:Fn' x) (hy:Fn' y) (h:Rep (fv x+fv y)):Fn' (Float64.add x y)/\fv (Float64.add x y)=fv x+fv y:=by
 obtain ⟨a,m,e,hx⟩:=hx
 obtain ⟨b,n,f,hy⟩:=hy
 obtain ⟨h0,h1⟩:=add_right hx hy
 by_cases hs:fv x+fv y=0
 ·rw [h0 hs,hs];exact io _
 ·exact kP (h1 hs) h
theorem vP {x y:UInt64} (hx:Fn' x) (hy:Fn' y) (h:Rep (fv x - fv y)):Fn' (Float64.sub x y)/\fv (Float64.sub x y)=fv x - fv y:=by
 obtain ⟨a,m,e,hx⟩:=hx
 obtain ⟨b,n,f,hy⟩:=hy
 obtain ⟨h0,h1⟩:=sub_right hx hy
 by_cases hs:fv x - fv y=0
 ·rw [h0 hs,hs];exact io _
 ·exact kP (h1 hs) h
theorem rR {i:Int} (h:i.natAbs<2 ^ 53):Fn' (Float64.ofInt i)/\fv (Float64.ofInt i)=i*((2 ^ 1074:Nat):Int):=by
 have hR:=ofInt_right i
 have e:(i*((2 ^ 1074:Nat):Int)).natAbs=i.natAbs*2 ^ 1074:=by rw [Int.natAbs_mul];rfl
 have hpos:(0:Int)<((2 ^ 1074:Nat):Int):=Int.ofNat_lt.mpr (Nat.two_pow_pos _)
 have hd:decide (i<0)=decide (i*((2 ^ 1074:Nat):Int)<0):=by
  generalize ((2 ^ 1074:Nat):Int)=P at *
  rw [decide_eq_decide]
  constructor
  ·intro q;exact Int.mul_neg_of_neg_of_pos q hpos
  ·intro q
   rcases Int.lt_or_le i 0 with h | h
   ·exact h
   ·have:=Int.mul_nonneg h (Int.le_of_lt hpos);exact Int.neg_of_mul_neg_left q hpos
 rw [hd,<-e] at hR
 exact kP hR ⟨i.natAbs,1074,h,by simp,e⟩
theorem sf {x y:UInt64} (hx:Fn' x) (hy:Fn' y):Float64.cmp x y=some (compare (fv x) (fv y)):=by
 obtain ⟨a,m,e,hx⟩:=hx
 obtain ⟨b,n,f,hy⟩:=hy
 exact cmp_right hx hy
theorem yW {x y:UInt64} (hx:Fn' x) (hy:Fn' y):feq x y=decide (fv x=fv y):=by
 unfold feq
 rw [sf hx hy]
 rcases Int.lt_trichotomy (fv x) (fv y) with h | h | h
 ·rw [Int.compare_eq_lt.mpr h,decide_eq_false (by exact Int.ne_of_lt h)];rfl
 ·rw [h,decide_eq_true rfl];simp
 ·rw [Int.compare_eq_gt.mpr h,decide_eq_false (by exact Int.ne_of_gt h)];rfl
theorem oY {x y:UInt64} (hx:Fn' x) (hy:Fn' y):lW x y=decide (fv x<fv y):=by
 unfold lW
 rw [sf hx hy]
 rcases Int.lt_trichotomy (fv x) (fv y) with h | h | h
 ·rw [Int.compare_eq_lt.mpr h,decide_eq_true h];rfl
 ·rw [h,decide_eq_false (by simp)];simp
 ·rw [Int.compare_eq_gt.mpr h,decide_eq_false (by exact Int.lt_asymm h)];rfl
theorem qL {x:UInt64} (hx:Fn' x):Float64.isZero x=decide (fv x=0):=by
 obtain ⟨a,m,e,hx⟩:=hx
 have hv:fv x=Float64.sgn a (m*2 ^ (e+1074).toNat):=val_eq hx
 have hp:=Nat.two_pow_pos (e+1074).toNat
 unfold Float64.isZero
 rw [hx]
 cases m with
 | zero=>rw [hv,Nat.zero_mul];cases a<;>rfl
 | succ m =>
   have:fv x≠0:=by
    rw [hv]
    have:=Nat.mul_pos (Nat.succ_pos m) hp
    generalize (m+1)*2 ^ (e+1074).toNat=q at *
    cases a<;>simp [Float64.sgn]<;>lia -abstractProof
   rw [decide_eq_false this];rfl
end
section
open PySem PySem.Float64
set_option exponentiation.threshold 3000
noncomputable def UN:Nat:=2 ^ 1074
theorem to:0<UN:=Nat.two_pow_pos _
noncomputable def U:Rat:=((UN:Nat):Rat)
theorem iE:0<U:=Rat.natCast_pos.mpr to
theorem vm:U≠0:=by have:=iE;decide
noncomputable def rv (x:UInt64):Rat:=((fv x:Int):Rat) / U
theorem cD (x:UInt64):((fv x:Int):Rat)=rv x*U:=(Rat.div_mul_cancel vm).symm
noncomputable def Nr (a b d:Rat):Prop:=b - d<=a/\a<=b+d
noncomputable def tw (e:Nat):Rat:=((2 ^ e:Nat):Rat)
theorem pW (e:Nat):0<tw e:=Rat.natCast_pos.mpr (Nat.two_pow_pos e)
theorem vd (e:Nat):((2 ^ (1074+e):Nat):Rat)=U*tw e:=by
 rw [Nat.pow_add,Rat.natCast_mul];rfl
theorem uh {S:Int} {q:Rat} {e:Nat} (hq:((S:Int):Rat)=q*U) (h1:-tw e<q) (h2:q<tw e):S.natAbs<2 ^ (1074+e):=by
 have hU:=iE
 have a1:((S:Int):Rat)<(((2 ^ (1074+e):Nat):Int):Rat):=by
  simp only [hq,Rat.intCast_natCast,vd,Rat.mul_comm U]
  exact Rat.mul_lt_mul_of_pos_right h2 hU
 have a2:((-((2 ^ (1074+e):Nat):Int):Int):Rat)<((S:Int):Rat):=by
  simp only [hq,Rat.intCast_neg,Rat.intCast_natCast,vd]
  have:=Rat.mul_lt_mul_of_pos_right h1 hU
  grind -abstractProof
 have b1:=Rat.intCast_lt_intCast.mp a1
 have b2:=Rat.intCast_lt_intCast.mp a2
 generalize 2 ^ (1074+e)=P at *
 omega
theorem rp {S r:Int} {q p:Rat} {k:Nat} (hq:((S:Int):Rat)=q*U) (hp:((r:Int):Rat)=p*U) (h:(r - S).natAbs<=2 ^ k) {e:Nat} (he:k+53=1074+e):Nr p q (tw e / tw 53):=by
 have hU:=iE
 have a1:r - S<=((2 ^ k:Nat):Int):=by generalize 2 ^ k=P at *;lia -abstractProof
 have a2:S - r<=((2 ^ k:Nat):Int):=by generalize 2 ^ k=P at *;lia -abstractProof
 have c1:=Rat.intCast_le_intCast.mpr a1
 have c2:=Rat.intCast_le_intCast.mpr a2
 rw [Rat.intCast_sub,hq,hp,Rat.intCast_natCast] at c1 c2
 have hk:((2 ^ k:Nat):Rat)*tw 53=tw e*U:=by
  have:((2 ^ (k+53):Nat):Rat)=((2 ^ k:Nat):Rat)*tw 53:=by rw [Nat.pow_add,Rat.natCast_mul];rfl
  rw [<-this,he,vd,Rat.mul_comm]
 have h53:=pW 53
 have hk':((2 ^ k:Nat):Rat)=tw e / tw 53*U:=by
  have:tw 53≠0:=by grind -abstractProof
  grind -abstractProof
 rw [hk'] at c1 c2
 generalize tw e / tw 53=d at *
 constructor
 ·refine Rat.le_of_mul_le_mul_right (c:=U) ?_ hU
  grind -abstractProof
 ·refine Rat.le_of_mul_le_mul_right (c:=U) ?_ hU
  grind -abstractProof
theorem sq {x y:UInt64} (hx:Fn' x) (hy:Fn' y) (e:Nat) (he:e<=1000) (h1:-tw e<rv x+rv y) (h2:rv x+rv y<tw e):Fn' (Float64.add x y)/\Nr (rv (Float64.add x y)) (rv x+rv y) (tw e / tw 53):=by
 have hq:((fv x+fv y:Int):Rat)=(rv x+rv y)*U:=by rw [Rat.intCast_add,cD,cD];grind -abstractProof
 have hb:=uh hq h1 h2
 obtain ⟨f,h⟩:=zq hx hy (k:=1021+e) (by lia -abstractProof) (by rw [show 53+(1021+e)=1074+e from by lia -abstractProof];exact hb)
 exact ⟨f,rp hq (cD _) h (by lia -abstractProof)⟩
theorem Ci {x y:UInt64} (hx:Fn' x) (hy:Fn' y) (e:Nat) (he:e<=1000) (h1:-tw e<rv x - rv y) (h2:rv x - rv y<tw e):Fn' (Float64.sub x y)/\Nr (rv (Float64.sub x y)) (rv x - rv y) (tw e / tw 53):=by
 have hq:((fv x - fv y:Int):Rat)=(rv x - rv y)*U:=by rw [Rat.intCast_sub,cD,cD];grind -abstractProof
 have hb:=uh hq h1 h2
 obtain ⟨f,h⟩:=A7 hx hy (k:=1021+e) (by lia -abstractProof) (by rw [show 53+(1021+e)=1074+e from by lia -abstractProof];exact hb)
 exact ⟨f,rp hq (cD _) h (by lia -abstractProof)⟩
theorem ny {S:Int} {q:Rat} {D:Nat} (hD:0<D) {e:Nat} (hq:((S:Int):Rat)=q*U*(D:Rat)) (h1:-tw e<q) (h2:q<tw e):S.natAbs<D*2 ^ (1074+e):=by
 have hU:=iE
 have hD':(0:Rat)<(D:Rat):=Rat.natCast_pos.mpr hD
 have hUD:0<U*(D:Rat):=Rat.mul_pos hU hD'
 have a1:((S:Int):Rat)<(((D*2 ^ (1074+e):Nat):Int):Rat):=by
  simp only [hq,Rat.intCast_natCast,Rat.natCast_mul,vd]
  have:=Rat.mul_lt_mul_of_pos_right h2 hUD
  grind -abstractProof
 have a2:((-((D*2 ^ (1074+e):Nat):Int):Int):Rat)<((S:Int):Rat):=by
  simp only [hq,Rat.intCast_neg,Rat.intCast_natCast,Rat.natCast_mul,vd]
  have:=Rat.mul_lt_mul_of_pos_right h1 hUD
  grind -abstractProof
 have b1:=Rat.intCast_lt_intCast.mp a1
 have b2:=Rat.intCast_lt_intCast.mp a2
 generalize D*2 ^ (1074+e)=P at *
 omega
theorem oJ {S r:Int} {q p:Rat} {D k:Nat} (hD:0<D) (hq:((S:Int):Rat)=q*U*(D:Rat)) (hp:((r:Int):Rat)=p*U*(D:Rat)) (h:(r - S).natAbs<=D*2 ^ k) {e:Nat} (he:k+53=1074+e):Nr p q (tw e / tw 53):=by
 have hU:=iE
 have hD':(0:Rat)<(D:Rat):=Rat.natCast_pos.mpr hD
 have hUD:0<U*(D:Rat):=Rat.mul_pos hU hD'
 have a1:r - S<=((D*2 ^ k:Nat):Int):=by generalize D*2 ^ k=P at *;lia -abstractProof
 have a2:S - r<=((D*2 ^ k:Nat):Int):=by generalize D*2 ^ k=P at *;lia -abstractProof
 have c1:=Rat.intCast_le_intCast.mpr a1
 have c2:=Rat.intCast_le_intCast.mpr a2
 rw [Rat.intCast_sub,hq,hp,Rat.intCast_natCast,Rat.natCast_mul] at c1 c2
 have hk:((2 ^ k:Nat):Rat)*tw 53=tw e*U:=by
  have:((2 ^ (k+53):Nat):Rat)=((2 ^ k:Nat):Rat)*tw 53:=by rw [Nat.pow_add,Rat.natCast_mul];rfl
  rw [<-this,he,vd,Rat.mul_comm]
 have h53:=pW 53
 have hk':((2 ^ k:Nat):Rat)=tw e / tw 53*U:=by
  have:tw 53≠0:=by grind -abstractProof
  grind -abstractProof
 rw [hk'] at c1 c2
 generalize tw e / tw 53=d at *
 constructor
 ·refine Rat.le_of_mul_le_mul_right (c:=U*(D:Rat)) ?_ hUD
  grind -abstractProof
 ·refine Rat.le_of_mul_le_mul_right (c:=U*(D:Rat)) ?_ hUD
  grind -abstractProof
theorem sH {x y:UInt64} (hx:Fn' x) (hy:Fn' y) (e:Nat) (he:e<=1000) (h1:-tw e<rv x*rv y) (h2:rv x*rv y<tw e):Fn' (Float64.mul x y)/\Nr (rv (Float64.mul x y)) (rv x*rv y) (tw e / tw 53):=by
 have hq:((fv x*fv y:Int):Rat)=rv x*rv y*U*((2 ^ 1074:Nat):Rat):=by
  rw [Rat.intCast_mul,cD,cD]
  show _=rv x*rv y*U*U
  grind -abstractProof
 have hb:=ny (Nat.two_pow_pos 1074) hq h1 h2
 obtain ⟨f,h⟩:=Bd hx hy (k:=1021+e) (by lia -abstractProof) (by rw [show 53+(1021+e)=1074+e from by lia -abstractProof,<-Int.natAbs_mul];exact hb)
 exact ⟨f,oJ (Nat.two_pow_pos 1074) hq (by rw [Rat.intCast_mul,cD];rfl) h (by lia -abstractProof)⟩
theorem Bv {x:UInt64} (h:rv x≠0):fv x≠0:=fun q=>h (by unfold rv;rw [q];simp only [Rat.div_def,Rat.intCast_zero,Rat.zero_mul])
theorem Cd {x y:UInt64} (hx:Fn' x) (hy:Fn' y) (h0:rv y≠0) (e:Nat) (he:e<=1000) (h1:-tw e<rv x / rv y) (h2:rv x / rv y<tw e):Fn' (Float64.div x y)/\Nr (rv (Float64.div x y)) (rv x / rv y) (tw e / tw 53):=by
 have hD:0<(fv y).natAbs:=Int.natAbs_pos.mpr (Bv h0)
 have hs:(((fv y).natAbs:Nat):Rat)=rv y*U\/(((fv y).natAbs:Nat):Rat)=-(rv y*U):=by
  rw [<-cD,<-Rat.intCast_natCast,<-Rat.intCast_neg,Rat.intCast_inj,Rat.intCast_inj]
  exact Iff.mp Int.natAbs_eq_natAbs_iff rfl
 have key:∀ sg:Int,(sg=1\/sg=-1)->(((fv y).natAbs:Nat):Rat)=(sg:Rat)*(rv y*U)->Fn' (Float64.div x y)/\Nr (rv (Float64.div x y)) (rv x / rv y) (tw e / tw 53):=fun sg hsg hD'=>by
  have hs2:((sg:Int):Rat)*(sg:Rat)=1:=by rcases hsg with rfl | rfl<;>grind -abstractProof
  have hq:((fv x*((2 ^ 1074:Nat):Int)*sg:Int):Rat)=rv x / rv y*U*(((fv y).natAbs:Nat):Rat):=by
   simp only [hD',Rat.intCast_mul,Rat.intCast_mul,cD,Rat.intCast_natCast]
   show rv x*U*U*_=_
   have:rv x / rv y*rv y=rv x:=Rat.div_mul_cancel h0
   generalize rv x / rv y=z at *
   rw [<-this];grind -abstractProof
  have hb:=ny hD hq h1 h2
  have hn1:(sg:Int).natAbs=1:=by rcases hsg with rfl | rfl<;>rfl
  have e1:(fv x*((2 ^ 1074:Nat):Int)*sg).natAbs=(fv x).natAbs*2 ^ 1074:=by
   simp only [Int.natAbs_mul,Int.natAbs_mul,hn1,Nat.mul_one];rfl
  rw [e1] at hb
  obtain ⟨f,h⟩:=z9 hx hy (Bv h0) (k:=1021+e) (by lia -abstractProof) (by rw [show 53+(1021+e)=1074+e from by lia -abstractProof];exact hb)
  refine ⟨f,oJ (k:=1021+e) hD hq (r:=fv (Float64.div x y)*fv y*sg) ?_ ?_ (by lia -abstractProof)⟩
  ·simp only [Rat.intCast_mul,Rat.intCast_mul,cD,cD,hD'];grind -abstractProof
  ·rw [<-Int.sub_mul,Int.natAbs_mul,hn1,Nat.mul_one];exact h
 rcases hs with hs | hs
 ·exact key 1 (.inl rfl) (by rw [hs];simp)
 ·exact key (-1) (.inr rfl) (by rw [hs];grind -abstractProof)
end
section
open PySem PySem.Float64
set_option exponentiation.threshold 3000
theorem Ej {x:UInt64} {a:Bool} {m:Nat} {e g:Int} (hx:decode x=.fin a m e) (hg:min e (-52)=g):Float64.fmod x F1=ofBin a ((m*2 ^ (e - g).toNat) % (2 ^ 52*2 ^ (-52 - g).toNat)) g:=by
 have h1:decode F1=.fin false (2 ^ 52) (-52):=by kernel_rfl
 unfold Float64.fmod
 rw [hx,h1]
 show ofBin a ((((m*2 ^ (e - min e (-52)).toNat:Nat):Int)).toNat % (((2 ^ 52*2 ^ (-52 - min e (-52)).toNat:Nat):Int)).toNat) (min e (-52))=_
 rw [hg,Int.toNat_natCast,Int.toNat_natCast]
theorem EB {e:Int} (he:-1074<=e):∃ (g:Int) (c d k:Nat),min e (-52)=g/\(e - g).toNat=c/\(-52 - g).toNat=d/\(g+1074).toNat=k/\c+k=(e+1074).toNat/\52+d+k=1074/\(c=0\/d=0)/\-((1074:Nat):Int)<=g:=by
 by_cases h:e<=-52
 ·obtain ⟨k,hk⟩:=Int.eq_ofNat_of_zero_le (show 0<=e+1074 by exact Iff.mpr Int.add_nonneg_iff_neg_le he)
  obtain ⟨d,hd⟩:=Int.eq_ofNat_of_zero_le (show 0<=-52 - e by exact Int.sub_nonneg_of_le h)
  exact ⟨e,0,d,k,Int.min_eq_left h,by rw [Int.sub_self];rfl,by rw [hd];rfl,by rw [hk];rfl,by rw [hk,Nat.zero_add];rfl,by lia -abstractProof,.inl rfl,he⟩
 ·obtain ⟨c,hc⟩:=Int.eq_ofNat_of_zero_le (show 0<=e - -52 by lia -abstractProof)
  obtain ⟨s,hs⟩:=Int.eq_ofNat_of_zero_le (show 0<=e+1074 by exact Iff.mpr Int.add_nonneg_iff_neg_le he)
  exact ⟨-52,c,0,1022,Int.min_eq_right (by exact Int.le.intro_sub c hc),by rw [hc];rfl,rfl,rfl,by rw [hs];show c+1022=s;lia -abstractProof,rfl,.inr rfl,by simp⟩
theorem ya {x:UInt64} (hx:Fn' x):Fn' (Float64.fmod x F1)/\fv (Float64.fmod x F1)=(fv x).tmod (UN:Int):=by
 obtain ⟨a,m,e,hx⟩:=hx
 have hm:=(decode_le hx).1
 have hv:fv x=Float64.sgn a (m*2 ^ (e+1074).toNat):=val_eq hx
 obtain ⟨g,c,d,k,g1,g2,g3,g4,g5,g6,g7,g8⟩:=EB (decode_ge hx)
 have hdef:=Ej hx g1
 rw [g2,g3] at hdef
 have hr:m*2 ^ c % (2 ^ 52*2 ^ d)<2 ^ 53:=by
  rcases g7 with rfl | rfl
  ·rw [Nat.pow_zero,Nat.mul_one]
   exact Nat.lt_of_le_of_lt (Nat.mod_le _ _) hm
  ·rw [Nat.pow_zero,Nat.mul_one]
   exact Nat.lt_trans (Nat.mod_lt _ (Nat.two_pow_pos 52)) (by decide)
 have hW:m*2 ^ c % (2 ^ 52*2 ^ d)*2 ^ k=(m*2 ^ (e+1074).toNat) % UN:=by
  unfold UN
  rw [<-Nat.mul_mod_mul_right,Nat.mul_assoc,<-Nat.pow_add,g5,<-Nat.pow_add,<-Nat.pow_add,g6]
 generalize m*2 ^ c % (2 ^ 52*2 ^ d)=q at *
 have hS:((fv x).tmod (UN:Int))=Float64.sgn a (q*2 ^ k):=by
  rw [hv,hW]
  generalize m*2 ^ (e+1074).toNat=M
  cases a
  ·exact (Int.ofNat_tmod M UN).symm
  ·show Int.tmod (-(M:Int)) (UN:Int)=-((M % UN:Nat):Int)
   rw [Int.neg_tmod,Int.ofNat_tmod]
 rw [hS,hdef]
 have hR:Float64.Right (ofBin a q g) a (q*2 ^ k) 1:=by
  have hs:=shift_one q g 1074 g8
  have hp:=shift_pos q 1 g (by decide)
  have g4':(g+((1074:Nat):Int)).toNat=k:=g4
  rw [g4'] at hs
  unfold ofBin
  exact ofFrac_right hp (by rw [Nat.mul_one];exact hs) (by decide)
 have hk:k<=2000:=by rw [<-Nat.add_sub_cancel_left (n:=52+d) (m:=k),g6];exact Nat.le_trans (Nat.sub_le _ _) (by decide)
 obtain ⟨r1,w,r2,_,r4⟩:=d4 (k:=2000) hR (by decide) (by
  rw [Nat.one_mul,Nat.pow_add]
  exact Nat.lt_of_lt_of_le (Nat.mul_lt_mul_of_pos_right hr (Nat.two_pow_pos _)) (Nat.mul_le_mul_left _ (Nat.pow_le_pow_right (by decide) hk))) (by decide)
 obtain ⟨t,ht⟩:=i5 k q hr
 have h4:=r4 t
 rw [ht] at h4
 refine ⟨r1,?_⟩
 show Float64.val _=_
 rw [r2]
 congr 1
 generalize q*2 ^ k=W at *
 unfold Float64.dist at h4
 clear hS hR r2 r4 hW hdef g1 g2 g3 g4 g5 g6 g7 g8 hv
 lia -abstractProof
theorem tP:fv F1=(UN:Int):=by decide +kernel
theorem tN:Fn' F1:=⟨_,_,_,(by kernel_rfl:decode F1=.fin false (2 ^ 52) (-52))⟩
theorem lz:rv F1=1:=by
 unfold rv;rw [tP,Rat.intCast_natCast]
 have:=vm
 show U / U=1
 grind -abstractProof
theorem tw0:tw 0=1:=by unfold tw;rfl
theorem xC {x y:UInt64} (hx:Fn' x) (hy:Fn' y) (h0:0<fv x+fv y) (h1:fv x+fv y<UN):0<=fv (Float64.add x y)/\fv (Float64.add x y)<=UN:=by
 obtain ⟨a,m,e,hx⟩:=hx
 obtain ⟨b,n,f,hy⟩:=hy
 obtain ⟨s,hs⟩:=Int.eq_ofNat_of_zero_le (Int.le_of_lt h0)
 rw [hs] at h0 h1
 have hs':Float64.val x+Float64.val y=(s:Int):=hs
 have h1':s<UN:=Int.ofNat_lt.mp h1
 have h0':0<s:=Int.ofNat_lt.mp h0
 have hR:=(add_right hx hy).2 (by rw [hs'];exact fun q=>Nat.lt_irrefl 0 (Int.ofNat_inj.mp q▸h0'))
 rw [hs',decide_eq_false (fun q=>absurd (Int.natCast_nonneg s) (Int.not_le.mpr q)),Int.natAbs_natCast] at hR
 obtain ⟨r1,w,r2,_,r4⟩:=d4 (k:=1021) hR (by exact Nat.one_pos) (by rw [Nat.one_mul];exact h1') (by simp)
 obtain ⟨t,ht⟩:=i5 1074 1 (by simp)
 have h4:=r4 t
 rw [ht,Nat.one_mul,Nat.one_mul,Nat.one_mul] at h4
 have e2:fv (Float64.add x y)=(w:Int):=r2
 rw [e2]
 refine ⟨Int.natCast_nonneg w,Int.ofNat_le.mpr ?_⟩
 have h5:Float64.dist s w<=Float64.dist s UN:=h4
 rcases Nat.le_total w UN with q | q
 ·exact q
 ·have d:∀ {a b:Nat},a<=b->Float64.dist a b=b - a:=fun q=>by unfold Float64.dist;rw [Nat.sub_eq_zero_of_le q,Nat.zero_add]
  rw [d (Nat.le_trans (Nat.le_of_lt h1') q),d (Nat.le_of_lt h1')] at h5
  exact Nat.le_of_sub_le_sub_right (Nat.le_of_lt h1') h5
theorem uB {x:UInt64} (hx:Fn' x):Fn' (dI x)/\(∃ n:Int,Nr (rv (dI x)) (rv x - (n:Rat)) (tw 0 / tw 53))/\0<=rv (dI x)/\rv (dI x)<=1/\(0<=rv x->rv x<1->rv (dI x)=rv x):=by
 obtain ⟨f1,f2⟩:=ya hx
 have hU:=iE
 have hUn:=to
 have hpos:(0:Rat)<=tw 0 / tw 53:=by
  have h1:=pW 0
  have h2:=pW 53
  simp only [Rat.div_def]
  exact Rat.mul_nonneg (Rat.le_of_lt h1) (Rat.le_of_lt (Rat.inv_pos.mpr h2))
 have hz0:fv (zero false)=0:=(io false).2
 have lt1:Float64.lt F1 (zero false)=false:=by decide +kernel
 have ltm:Float64.lt (Float64.fmod x F1) (zero false)=decide (fv (Float64.fmod x F1)<0):=by
  have:=oY f1 (io false).1
  rw [hz0] at this
  exact this
 have hmd:dI x=if Float64.isZero (Float64.fmod x F1)=true then copysign (zero false) F1 else if (Float64.lt F1 (zero false) != Float64.lt (Float64.fmod x F1) (zero false))=true then Float64.add (Float64.fmod x F1) F1 else Float64.fmod x F1:=by
  delta dI Float64.divmod
  simp only
  split
  ·rfl
  ·split<;>rfl
 rw [qL f1,ltm,lt1] at hmd
 have key:∀ (n:Int),fv x - n*UN=(fv x).tmod UN->rv (Float64.fmod x F1)=rv x - (n:Rat):=fun n hn=>by
  unfold rv
  simp only [f2,<-hn,Rat.intCast_sub,Rat.intCast_mul,Rat.intCast_natCast]
  show ((fv x:Rat) - (n:Rat)*U) / U=_
  have:=vm
  grind -abstractProof
 have hdm:=Int.mul_tdiv_add_tmod (fv x) (UN:Int)
 have hk:=key ((fv x).tdiv UN) (by rw [Int.mul_comm];exact Iff.mpr Int.sub_eq_iff_eq_add' (id (Eq.symm hdm)))
 have hlt:(fv x).tmod UN<UN:=Int.tmod_lt_of_pos _ (by decide)
 have hgt:-(UN:Int)<(fv x).tmod UN:=by
  have:=Int.tmod_lt_of_pos (-fv x) (b:=(UN:Int)) (by decide)
  rw [Int.neg_tmod] at this;exact Int.neg_lt_of_neg_lt this
 have small:0<=rv x->rv x<1->(fv x).tmod UN=fv x/\0<=fv x:=fun h0 h1=>by
  have e0:=cD x
  have a0:(0:Int)<=fv x:=by
   rw [<-Rat.intCast_le_intCast,e0,Rat.intCast_zero]
   exact Rat.mul_nonneg h0 (Rat.le_of_lt hU)
  have a1:fv x<(UN:Int):=by
   rw [<-Rat.intCast_lt_intCast,e0,Rat.intCast_natCast]
   have:=Rat.mul_lt_mul_of_pos_right h1 hU
   show _<U
   grind -abstractProof
  exact ⟨Int.tmod_eq_of_lt a0 a1,a0⟩
 by_cases hz:fv (Float64.fmod x F1)=0
 ·rw [decide_eq_true hz,if_pos rfl] at hmd
  have e0:rv (dI x)=0:=by
   rw [hmd]
   unfold rv
   simp only [show fv (copysign (zero false) F1)=0 from by decide +kernel,Rat.intCast_zero,Rat.div_def,Rat.zero_mul]
  have e1:rv (Float64.fmod x F1)=0:=by unfold rv;simp only [hz,Rat.intCast_zero,Rat.div_def,Rat.zero_mul]
  refine ⟨?_,⟨(fv x).tdiv UN,?_⟩,by rw [e0];exact Rat.le_refl,by rw [e0];rfl,fun h0 h1=>?_⟩
  ·rw [hmd];exact ⟨false,0,-1074,by kernel_rfl⟩
  ·rw [e0,<-hk,e1];unfold Nr;grind -abstractProof
  ·rw [e0]
   obtain ⟨s1,s2⟩:=small h0 h1
   rw [f2,s1] at hz
   unfold rv;simp only [hz,Rat.intCast_zero,Rat.div_def,Rat.zero_mul]
 ·rw [decide_eq_false hz,if_neg (by decide)] at hmd
  by_cases hn:fv (Float64.fmod x F1)<0
  ·rw [decide_eq_true hn,if_pos (by assumption)] at hmd
   have hb:=xC f1 tN (by rw [tP];rw [f2] at *;exact Iff.mp Int.sub_lt_iff hgt) (by rw [tP];exact Int.add_lt_of_lt_sub_right hn)
   have hrn:rv (Float64.fmod x F1)<0/\-1<rv (Float64.fmod x F1):=by
    have e0:=cD (Float64.fmod x F1)
    have a0:=Rat.intCast_lt_intCast.mpr hn
    have a1:=Rat.intCast_lt_intCast.mpr (show -(UN:Int)<fv (Float64.fmod x F1) by rw [f2];exact hgt)
    rw [e0,Rat.intCast_zero] at a0
    rw [e0,Rat.intCast_neg,Rat.intCast_natCast] at a1
    constructor
    ·refine Rat.lt_of_mul_lt_mul_right (c:=U) ?_ (Rat.le_of_lt hU)
     rw [Rat.zero_mul];exact a0
    ·refine Rat.lt_of_mul_lt_mul_right (c:=U) ?_ (Rat.le_of_lt hU)
     have:-(UN:Rat)=-1*U:=by show -U=_;grind -abstractProof
     rw [<-this];exact a1
   obtain ⟨g1,g2⟩:=sq f1 tN 0 (by simp) (by rw [tw0,lz];grind -abstractProof) (by rw [tw0,lz];grind -abstractProof)
   rw [<-hmd] at hb g1 g2
   refine ⟨g1,⟨(fv x).tdiv UN - 1,?_⟩,?_,?_,fun h0 h1=>?_⟩
   ·rw [hk,lz] at g2
    rw [Rat.intCast_sub]
    have:rv x - (((fv x).tdiv UN:Int):Rat)+1=rv x - ((((fv x).tdiv UN:Int):Rat) - ((1:Int):Rat)):=by grind -abstractProof
    rw [<-this];exact g2
   ·have:=cD (dI x)
    have a:=Rat.intCast_le_intCast.mpr hb.1
    rw [this,Rat.intCast_zero] at a
    refine Rat.le_of_mul_le_mul_right (c:=U) ?_ hU
    rw [Rat.zero_mul];exact a
   ·have:=cD (dI x)
    have a:=Rat.intCast_le_intCast.mpr hb.2
    rw [this,Rat.intCast_natCast] at a
    refine Rat.le_of_mul_le_mul_right (c:=U) ?_ hU
    rw [Rat.one_mul];exact a
   ·obtain ⟨s1,s2⟩:=small h0 h1
    rw [f2,s1] at hn;omega
  ·rw [decide_eq_false hn,if_neg (by decide)] at hmd
   rw [hmd]
   refine ⟨f1,⟨(fv x).tdiv UN,?_⟩,?_,?_,fun h0 h1=>?_⟩
   ·rw [hk];unfold Nr;grind -abstractProof
   ·have:=cD (Float64.fmod x F1)
    have a:=Rat.intCast_le_intCast.mpr (show (0:Int)<=fv (Float64.fmod x F1) by exact Iff.mp Int.not_lt hn)
    rw [this,Rat.intCast_zero] at a
    refine Rat.le_of_mul_le_mul_right (c:=U) ?_ hU
    rw [Rat.zero_mul];exact a
   ·have:=cD (Float64.fmod x F1)
    have a:=Rat.intCast_le_intCast.mpr (show fv (Float64.fmod x F1)<=(UN:Int) by omega)
    rw [this,Rat.intCast_natCast] at a
    refine Rat.le_of_mul_le_mul_right (c:=U) ?_ hU
    rw [Rat.one_mul];exact a
   ·obtain ⟨s1,s2⟩:=small h0 h1
    unfold rv;rw [f2,s1]
end
section
noncomputable def tb (Y:Rat):Rat:=if Y<=-1 then Y+2 else if Y<=1 then 1 else if Y<=2 then 2 - Y else 0
noncomputable def Tn (X w:Rat):Prop:=∃ (n:Int) (Y:Rat),X=Y+6*(n:Rat)/\-2<=Y/\Y<=4/\w=tb Y
theorem xU {Y:Rat} (h:-2<=Y):tb Y<=1/\tb Y<=Y+2/\(Y<=2->tb Y<=2 - Y)/\(2<=Y->tb Y=0):=by
 unfold tb
 split
 ·exact ⟨by grind -abstractProof,Rat.le_refl,fun _=>by grind -abstractProof,fun _=>by grind -abstractProof⟩
 ·split
  ·exact ⟨Rat.le_refl,by grind -abstractProof,fun _=>by grind -abstractProof,fun _=>by grind -abstractProof⟩
  ·split
   ·exact ⟨by grind -abstractProof,by grind -abstractProof,fun _=>Rat.le_refl,fun _=>by grind -abstractProof⟩
   ·exact ⟨by rfl,by grind -abstractProof,fun _=>by contradiction,fun _=>rfl⟩
theorem DM {Y:Rat} (h:-2<=Y):0<=tb Y:=by
 unfold tb
 split
 ·grind -abstractProof
 ·split
  ·decide
  ·split
   ·grind -abstractProof
   ·exact Rat.le_refl
theorem uz {Y Z d:Rat} (hy:-2<=Y) (h1:Y<=Z+d) (h2:Z<=Y+d):tb Y<=tb Z+d:=by
 obtain ⟨u1,u2,u3,u4⟩:=xU hy
 have hd:0<=d:=by clear u1 u2 u3 u4;grind -abstractProof
 generalize tb Y=y at *
 unfold tb
 split
 ·clear u1 u3 u4;grind -abstractProof
 ·split
  ·clear u2 u3 u4;grind -abstractProof
  ·split
   ·rename_i a b c
    by_cases q:Y<=2
    ·have:=u3 q;clear u1 u2 u3 u4;grind -abstractProof
    ·have:=u4 (Rat.le_of_lt (Rat.not_le.mp q));clear u1 u2 u3 u4;grind -abstractProof
   ·rename_i a b c
    by_cases q:Y<=2
    ·have:=u3 q;clear u1 u2 u3 u4;grind -abstractProof
    ·have:=u4 (Rat.le_of_lt (Rat.not_le.mp q));clear u1 u2 u3 u4;grind -abstractProof
theorem A6 {Y Z d:Rat} (h1:-2<=Y) (h3:-2<=Z) (h:Nr Y Z d):Nr (tb Y) (tb Z) d:=by
 obtain ⟨a,b⟩:=h
 have p:=uz h1 b (by clear b;exact Iff.mp Rat.sub_right_le_iff_le_add a)
 have q:=uz h3 (by clear b p;grind -abstractProof) b
 exact ⟨by clear p a b;exact Iff.mpr Rat.sub_right_le_iff_le_add q,p⟩
theorem CQ {Y d:Rat} (h1:-2<=Y) (h:Y<=d - 2):tb Y<=d:=by
 have:=(xU h1).2.1;clear h1;grind -abstractProof
theorem CH {Y d:Rat} (hd:d<=1) (h:4 - d<=Y):tb Y=0:=(xU (by grind -abstractProof)).2.2.2 (by grind -abstractProof)
theorem uK {Y Z d:Rat} (h2:Y<=4) (h3:-2<=Z) (hd:d<=1) (h:Nr Y (Z+6) d):Nr (tb Y) (tb Z) d/\Nr (tb Z) (tb Y) d:=by
 obtain ⟨a,b⟩:=h
 have p:=CH (Y:=Y) hd (by clear h2 b;grind -abstractProof)
 have q:=CQ (Y:=Z) (d:=d) h3 (by clear b;grind -abstractProof)
 have r:=DM h3
 rw [p]
 have z:=Rat.le_trans r q
 clear a b h2 h3 p hd
 exact ⟨⟨by clear r;grind -abstractProof,by clear q;exact Rat.add_nonneg r z⟩,⟨by clear q;grind -abstractProof,by clear r;grind -abstractProof⟩⟩
theorem Tn.near {X X' w w' d:Rat} (h:Tn X w) (h':Tn X' w') (hd:d<=1) (hn:Nr X X' d):Nr w w' d:=by
 obtain ⟨n,Y,rfl,h1,h2,rfl⟩:=h
 obtain ⟨m,Z,rfl,h3,h4,rfl⟩:=h'
 have hc:n=m\/n=m+1\/m=n+1:=by
  have a1:((n - m:Int):Rat)<((2:Int):Rat):=by rw [Rat.intCast_sub];unfold Nr at hn;grind -abstractProof
  have a2:((m - n:Int):Rat)<((2:Int):Rat):=by rw [Rat.intCast_sub];unfold Nr at hn;grind -abstractProof
  have b1:=Rat.intCast_lt_intCast.mp a1
  have b2:=Rat.intCast_lt_intCast.mp a2
  lia -abstractProof
 rcases hc with rfl | rfl | rfl
 ·exact A6 h1 h3 (by unfold Nr at *;grind -abstractProof)
 ·refine (uK h4 h1 hd ?_).2
  rw [Rat.intCast_add] at hn;unfold Nr at *;grind -abstractProof
 ·refine (uK h2 h3 hd ?_).1
  rw [Rat.intCast_add] at hn;unfold Nr at *;grind -abstractProof
theorem Tn.shift {X w:Rat} (h:Tn X w) (m:Int):Tn (X+6*(m:Rat)) w:=by
 obtain ⟨n,Y,rfl,h1,h2,rfl⟩:=h
 exact ⟨n+m,Y,by rw [Rat.intCast_add];grind -abstractProof,h1,h2,rfl⟩
theorem Tn.ex (X:Rat):∃ w,Tn X w:=by
 refine ⟨_,((X+2) / 6).floor,X - 6*((((X+2) / 6).floor:Int):Rat),by exact Eq.symm Rat.sub_add_cancel,?_,?_,rfl⟩
 ·have:=Rat.floor_le ((X+2) / 6);grind -abstractProof
 ·have:=Rat.lt_floor_add_one ((X+2) / 6)
  rw [Rat.intCast_add] at this;grind -abstractProof
theorem Tn.uniq {X w w':Rat} (h:Tn X w) (h':Tn X w'):w=w':=by
 have:=Tn.near h h' (d:=0) (by rfl) (by unfold Nr;grind -abstractProof)
 unfold Nr at this;grind -abstractProof
noncomputable def cw (d:Int) (f:Rat):Rat:=if d=0 then 1 else if d=1 then 1 - f else if d=4 then f else if d=5 then 1 else 0
theorem Tn.at {d:Int} {f:Rat} (h0:0<=d) (h1:d<6) (f0:0<=f) (f1:f<=1):Tn ((d:Rat)+f) (cw d f):=by
 have:d=0\/d=1\/d=2\/d=3\/d=4\/d=5:=by lia -abstractProof
 rcases this with rfl | rfl | rfl | rfl | rfl | rfl
 ·exact ⟨0,f,by grind -abstractProof,by grind -abstractProof,by exact Rat.le_trans f1 rfl,by delta cw tb;grind -abstractProof⟩
 ·exact ⟨0,1+f,by grind -abstractProof,by grind -abstractProof,by grind -abstractProof,by delta cw tb;grind -abstractProof⟩
 ·exact ⟨0,2+f,by grind -abstractProof,by grind -abstractProof,by grind -abstractProof,by delta cw tb;grind -abstractProof⟩
 ·exact ⟨0,3+f,by grind -abstractProof,by grind -abstractProof,by grind -abstractProof,by delta cw tb;grind -abstractProof⟩
 ·exact ⟨1,f - 2,by grind -abstractProof,by grind -abstractProof,by grind -abstractProof,by delta cw tb;grind -abstractProof⟩
 ·exact ⟨1,f - 1,by grind -abstractProof,by grind -abstractProof,by grind -abstractProof,by delta cw tb;grind -abstractProof⟩
structure Wheel (i j k M m t:Rat):Prop where
 i:∃ w,Tn t w/\i=m+(M - m)*w
 j:∃ w,Tn (t - 2) w/\j=m+(M - m)*w
 k:∃ w,Tn (t - 4) w/\k=m+(M - m)*w
structure Rim (i j k M m:Rat):Prop where
 iM:i<=M
 jM:j<=M
 kM:k<=M
 im:m<=i
 jm:m<=j
 km:m<=k
 M:M=i\/M=j\/M=k
 m:m=i\/m=j\/m=k
theorem pQ {i j k M m t:Rat} (E:Rim i j k M m) (hne:m<M) (hi:i=M) (ht:(M - m)*t=j - k):Wheel i j k M m t/\-1<=t/\t<=1:=by
 obtain ⟨_,_,_,_,_,_,hM,hm⟩:=E
 have hR:0<M - m:=by exact Iff.mp (Rat.lt_iff_sub_pos m M) hne
 have hc:j=m\/k=m:=by grind -abstractProof
 have b1:-1<=t:=Rat.le_of_mul_le_mul_left (c:=M - m) (by grind -abstractProof) hR
 have b2:t<=1:=Rat.le_of_mul_le_mul_left (c:=M - m) (by grind -abstractProof) hR
 refine ⟨⟨⟨1,⟨0,t,by grind -abstractProof,by grind -abstractProof,by grind -abstractProof,by unfold tb;grind -abstractProof⟩,by grind -abstractProof⟩,?_,?_⟩,b1,b2⟩
 ·by_cases h0:0<=t
  ·have:k=m:=by
    rcases hc with h | h
    ·have:=Rat.mul_nonneg (Rat.le_of_lt hR) h0
     grind -abstractProof
    ·exact h
   exact ⟨t,⟨0,t - 2,by grind -abstractProof,by grind -abstractProof,by grind -abstractProof,by unfold tb;grind -abstractProof⟩,by grind -abstractProof⟩
  ·have:j=m:=by
    rcases hc with h | h
    ·exact h
    ·have:=Rat.mul_pos hR (show 0 < -t by grind -abstractProof)
     grind -abstractProof
   exact ⟨0,⟨-1,t - 2+6,by grind -abstractProof,by grind -abstractProof,by grind -abstractProof,by unfold tb;grind -abstractProof⟩,by grind -abstractProof⟩
 ·by_cases h0:0<=t
  ·have:k=m:=by
    rcases hc with h | h
    ·have:=Rat.mul_nonneg (Rat.le_of_lt hR) h0
     grind -abstractProof
    ·exact h
   exact ⟨0,⟨-1,t - 4+6,by grind -abstractProof,by grind -abstractProof,by grind -abstractProof,by unfold tb;grind -abstractProof⟩,by grind -abstractProof⟩
  ·have:j=m:=by
    rcases hc with h | h
    ·exact h
    ·have:=Rat.mul_pos hR (show 0 < -t by grind -abstractProof)
     grind -abstractProof
   exact ⟨-t,⟨-1,t - 4+6,by grind -abstractProof,by grind -abstractProof,by grind -abstractProof,by unfold tb;grind -abstractProof⟩,by grind -abstractProof⟩
theorem Wheel.turn {i j k M m t:Rat} (h:Wheel i j k M m t):Wheel k i j M m (t+2):=by
 obtain ⟨⟨u,h1,e1⟩,⟨v,h2,e2⟩,⟨w,h3,e3⟩⟩:=h
 refine ⟨⟨w,?_,e3⟩,⟨u,?_,e1⟩,⟨v,?_,e2⟩⟩
 ·have:=h3.shift 1
  have e:t - 4+6*((1:Int):Rat)=t+2:=by grind -abstractProof
  rw [e] at this;exact this
 ·have e:t+2 - 2=t:=by exact Rat.add_sub_cancel
  rw [e];exact h1
 ·have e:t+2 - 4=t - 2:=by grind -abstractProof
  rw [e];exact h2
theorem Wheel.shift {i j k M m t:Rat} (h:Wheel i j k M m t) (n:Int):Wheel i j k M m (t+6*(n:Rat)):=by
 obtain ⟨⟨u,h1,e1⟩,⟨v,h2,e2⟩,⟨w,h3,e3⟩⟩:=h
 refine ⟨⟨u,h1.shift n,e1⟩,⟨v,?_,e2⟩,⟨w,?_,e3⟩⟩
 ·have:=h2.shift n
  have e:t - 2+6*(n:Rat)=t+6*(n:Rat) - 2:=by grind -abstractProof
  rw [<-e];exact this
 ·have:=h3.shift n
  have e:t - 4+6*(n:Rat)=t+6*(n:Rat) - 4:=by grind -abstractProof
  rw [<-e];exact this
end
section
open PySem PySem.Float64
set_option exponentiation.threshold 3000
noncomputable def G19:Nat:=2 ^ 1055
theorem pL:0<G19:=Nat.two_pow_pos _
theorem wU:524288*G19=UN:=by rfl
noncomputable def Gd (x:UInt64) (i:Int):Prop:=Fn' x/\fv x=i*(G19:Int)
theorem tz {i:Int} (h:i.natAbs<2 ^ 53):Rep (i*(G19:Int)):=⟨i.natAbs,1055,h,by simp,by rw [Int.natAbs_mul];rfl⟩
theorem Gd.add {x y:UInt64} {i j:Int} (hx:Gd x i) (hy:Gd y j) (h:(i+j).natAbs<2 ^ 53):Gd (Float64.add x y) (i+j):=by
 have e:fv x+fv y=(i+j)*(G19:Int):=by rw [hx.2,hy.2,Int.add_mul]
 have:=vv hx.1 hy.1 (by rw [e];exact tz h)
 exact ⟨this.1,by rw [this.2,e]⟩
theorem Gd.sub {x y:UInt64} {i j:Int} (hx:Gd x i) (hy:Gd y j) (h:(i - j).natAbs<2 ^ 53):Gd (Float64.sub x y) (i - j):=by
 have e:fv x - fv y=(i - j)*(G19:Int):=by rw [hx.2,hy.2,Int.sub_mul]
 have:=vP hx.1 hy.1 (by rw [e];exact tz h)
 exact ⟨this.1,by rw [this.2,e]⟩
theorem Gd.lt {x y:UInt64} {i j:Int} (hx:Gd x i) (hy:Gd y j):fv x<fv y↔i<j:=by
 rw [hx.2,hy.2]
 exact Int.mul_lt_mul_right (by have:=pL;decide)
theorem Gd.eq {x y:UInt64} {i j:Int} (hx:Gd x i) (hy:Gd y j):fv x=fv y↔i=j:=by
 rw [hx.2,hy.2]
 exact Int.mul_eq_mul_right_iff (by have:=pL;decide)
theorem Gd.feq {x y:UInt64} {i j:Int} (hx:Gd x i) (hy:Gd y j):Mine.feq x y=decide (i=j):=by
 rw [yW hx.1 hy.1,decide_eq_decide];exact hx.eq hy
theorem Gd.zero {x:UInt64} {i:Int} (hx:Gd x i):Float64.isZero x=decide (i=0):=by
 rw [qL hx.1,decide_eq_decide,hx.2]
 have:=pL
 constructor
 ·intro h
  rcases Int.mul_eq_zero.mp h with h | h<;>lia -abstractProof
 ·rintro rfl;rw [Int.zero_mul]
theorem Gd.max {x y:UInt64} {i j:Int} (hx:Gd x i) (hy:Gd y j):Gd (sN x y) (if i<j then j else i):=by
 unfold sN
 have:d6 x y=decide (i<j):=by
  have h:=oY hx.1 hy.1
  rw [decide_eq_decide.mpr (hx.lt hy)] at h
  exact h
 rw [this]
 by_cases h:i<j
 ·simp only [h,decide_true,if_true];exact hy
 ·simp only [h,decide_false,Bool.false_eq_true,if_false];exact hx
theorem Gd.min {x y:UInt64} {i j:Int} (hx:Gd x i) (hy:Gd y j):Gd (sr x y) (if j<i then j else i):=by
 unfold sr
 have:d6 y x=decide (j<i):=by
  have h:=oY hy.1 hx.1
  rw [decide_eq_decide.mpr (hy.lt hx)] at h
  exact h
 rw [this]
 by_cases h:j<i
 ·simp only [h,decide_true,if_true];exact hy
 ·simp only [h,decide_false,Bool.false_eq_true,if_false];exact hx
structure Mm (i j k M m:Int):Prop where
 iM:i<=M
 jM:j<=M
 kM:k<=M
 im:m<=i
 jm:m<=j
 km:m<=k
 M:M=i\/M=j\/M=k
 m:m=i\/m=j\/m=k
theorem Mm.ex (i j k:Int):∃ M m,Mm i j k M m/\M=(if (if i<j then j else i)<k then k else if i<j then j else i)/\m=(if k<(if j<i then j else i) then k else if j<i then j else i):=by
 refine ⟨_,_,?_,rfl,rfl⟩
 constructor<;>(repeat' split)<;>lia -abstractProof
theorem Gd.mm {r g b:UInt64} {i j k:Int} (hr:Gd r i) (hg:Gd g j) (hb:Gd b k):∃ M m,Mm i j k M m/\Gd (mxF r g b) M/\Gd (mnF r g b) m:=by
 obtain ⟨M,m,h,rfl,rfl⟩:=Mm.ex i j k
 exact ⟨_,_,h,(hr.max hg).max hb,(hr.min hg).min hb⟩
theorem Mm.rim {i j k M m:Int} (h:Mm i j k M m):Rim (i:Rat) (j:Rat) (k:Rat) (M:Rat) (m:Rat):=by
 obtain ⟨h1,h2,h3,h4,h5,h6,h7,h8⟩:=h
 refine ⟨Rat.intCast_le_intCast.mpr h1,Rat.intCast_le_intCast.mpr h2,Rat.intCast_le_intCast.mpr h3,Rat.intCast_le_intCast.mpr h4,Rat.intCast_le_intCast.mpr h5,Rat.intCast_le_intCast.mpr h6,?_,?_⟩
 ·rw [Rat.intCast_inj,Rat.intCast_inj,Rat.intCast_inj];exact h7
 ·rw [Rat.intCast_inj,Rat.intCast_inj,Rat.intCast_inj];exact h8
theorem Gd.rv {x:UInt64} {i:Int} (hx:Gd x i):Mine.rv x=(i:Rat) / 524288:=by
 have h:((fv x:Int):Rat)*524288=(i:Rat)*U:=by
  have:fv x*524288=i*(UN:Int):=by rw [hx.2,<-wU,Int.natCast_mul];generalize (G19:Int)=g;grind -abstractProof
  have:=congrArg (fun z:Int=>(z:Rat)) this
  simp only [Rat.intCast_mul] at this
  exact this
 have hU:=vm
 unfold Mine.rv
 grind -abstractProof
theorem AA {a s n:Nat} (hs:s*n=524288) (ha:a<=n):Gd (ft (a:Int) (n:Int)) ((a*s:Nat):Int):=by
 have hn:0<n:=by
  rcases Nat.eq_zero_or_pos n with rfl | h
  ·rw [Nat.mul_zero] at hs;exact absurd hs (by decide)
  ·exact h
 have hle:a*s<=524288:=by rw [<-hs,Nat.mul_comm s n];exact Nat.mul_le_mul_right s ha
 have hR:Float64.Right (ft (a:Int) (n:Int)) false (a*s*G19) 1:=by
  unfold ft
  have e1:(decide ((a:Int)<0) != decide ((n:Int)<0))=false:=by
   rw [decide_eq_false (by exact Int.not_ofNat_neg a),decide_eq_false (by exact Int.not_ofNat_neg n)];rfl
  rw [e1]
  refine ofFrac_right (by show 0<n;exact hn) ?_ (by exact Nat.one_pos)
  show a*2 ^ 1074*1=a*s*G19*n
  rw [show (2:Nat) ^ 1074=UN from rfl,<-wU,<-hs]
  grind -abstractProof
 have hS:(((a*s:Nat):Int)*(G19:Int))=((a*s*G19:Nat):Int):=by exact Int.ofNat_mul_ofNat (a*s) G19
 have hd:decide ((((a*s:Nat):Int)*(G19:Int))<0)=false:=by rw [hS];exact decide_eq_false (by exact Int.not_ofNat_neg (a*s*G19))
 have:=kP (r:=ft (a:Int) (n:Int)) (S:=((a*s:Nat):Int)*(G19:Int)) (by rw [hd,hS,Int.natAbs_natCast];exact hR) (tz (by simp only [Int.natAbs_natCast];exact Nat.lt_of_le_of_lt hle (by simp)))
 exact this
noncomputable def eps:Rat:=tw 3 / tw 53
theorem ii:eps=1 / 1125899906842624:=by decide +kernel
theorem dB:1125899906842624*eps=1:=by rw [ii];decide +kernel
theorem gJ:0<eps:=by rw [ii];decide +kernel
theorem tw3:tw 3=8:=by rfl
theorem AQ {x y:UInt64} (hx:Fn' x) (hy:Fn' y) (h1:-8<rv x+rv y) (h2:rv x+rv y<8):Fn' (Float64.add x y)/\Nr (rv (Float64.add x y)) (rv x+rv y) eps:=sq hx hy 3 (by simp) (by rw [tw3];exact h1) (by rw [tw3];exact h2)
theorem An {x y:UInt64} (hx:Fn' x) (hy:Fn' y) (h1:-8<rv x - rv y) (h2:rv x - rv y<8):Fn' (Float64.sub x y)/\Nr (rv (Float64.sub x y)) (rv x - rv y) eps:=Ci hx hy 3 (by simp) (by rw [tw3];exact h1) (by rw [tw3];exact h2)
theorem Dd {x y:UInt64} (hx:Fn' x) (hy:Fn' y) (h1:-8<rv x*rv y) (h2:rv x*rv y<8):Fn' (Float64.mul x y)/\Nr (rv (Float64.mul x y)) (rv x*rv y) eps:=sH hx hy 3 (by simp) (by rw [tw3];exact h1) (by rw [tw3];exact h2)
theorem D3 {x y:UInt64} (hx:Fn' x) (hy:Fn' y) (h0:rv y≠0) (h1:-8<rv x / rv y) (h2:rv x / rv y<8):Fn' (Float64.div x y)/\Nr (rv (Float64.div x y)) (rv x / rv y) eps:=Cd hx hy h0 3 (by simp) (by rw [tw3];exact h1) (by rw [tw3];exact h2)
theorem wq {x:UInt64} (hx:Fn' x):Float64.sub x x=zero false:=by
 obtain ⟨a,m,e,hx⟩:=hx
 rw [(sub_right hx hx).1 (by exact Int.sub_self (val x))]
 cases a<;>rfl
end
section
open PySem PySem.Float64
set_option exponentiation.threshold 3000
theorem Nr.mono {a b d e:Rat} (h:Nr a b d) (h':d<=e):Nr a b e:=by obtain ⟨h1,h2⟩:=h;exact ⟨by clear h2;grind -abstractProof,by clear h1;grind -abstractProof⟩
theorem Nr.trans {a b c d e:Rat} (h:Nr a b d) (h':Nr b c e):Nr a c (d+e):=by obtain ⟨h1,h2⟩:=h;obtain ⟨h3,h4⟩:=h';exact ⟨by grind -abstractProof,by grind -abstractProof⟩
theorem Nr.add {a b x y d e:Rat} (h:Nr a x d) (h':Nr b y e):Nr (a+b) (x+y) (d+e):=by obtain ⟨h1,h2⟩:=h;obtain ⟨h3,h4⟩:=h';exact ⟨by grind -abstractProof,by grind -abstractProof⟩
theorem Nr.sub {a b x y d e:Rat} (h:Nr a x d) (h':Nr b y e):Nr (a - b) (x - y) (d+e):=by obtain ⟨h1,h2⟩:=h;obtain ⟨h3,h4⟩:=h';exact ⟨by grind -abstractProof,by grind -abstractProof⟩
theorem Nr.self (a:Rat):Nr a a 0:=⟨by grind -abstractProof,by grind -abstractProof⟩
theorem lY {x v A E:Rat} (h1:-A<=x) (h2:x<=A) (h3:-E<=v) (h4:v<=E):-(A*E)<=x*v/\x*v<=A*E:=by
 have a:=Rat.mul_nonneg (show 0<=A - x by grind -abstractProof) (show 0<=E+v by grind -abstractProof)
 have b:=Rat.mul_nonneg (show 0<=A+x by grind -abstractProof) (show 0<=E - v by grind -abstractProof)
 have c:=Rat.mul_nonneg (show 0<=A - x by grind -abstractProof) (show 0<=E - v by grind -abstractProof)
 have d:=Rat.mul_nonneg (show 0<=A+x by grind -abstractProof) (show 0<=E+v by grind -abstractProof)
 clear h1 h2 h3 h4
 constructor
 ·clear a b;grind -abstractProof
 ·clear c d;grind -abstractProof
structure Ap (x:UInt64) (r:Rat) (n b:Nat):Prop where
 fn:Fn' x
 nr:Nr (rv x) r ((n:Rat)*eps)
 lo:-(b:Rat)<=r
 hi:r<=(b:Rat)
theorem wN {a b c d:Rat} (h:a<=b) (h':c<=d):a+c<=b+d:=by grind -abstractProof
theorem gG {n m:Nat} (h:n<=m):(n:Rat)<=(m:Rat):=Rat.natCast_le_natCast.mpr h
theorem Ce (n:Nat):0<=(n:Rat)*eps:=Rat.mul_nonneg Rat.natCast_nonneg (Rat.le_of_lt gJ)
theorem Ck {n:Nat} (h:n<=10000):(n:Rat)*eps<=1 / 16:=by
 refine Rat.le_trans (Rat.mul_le_mul_of_nonneg_right (gG h) (Rat.le_of_lt gJ)) ?_
 rw [ii];decide +kernel
theorem Ap.abs {x:UInt64} {r:Rat} {n b:Nat} (h:Ap x r n b) (k:n<=10000):-((b:Rat)+1 / 16)<=rv x/\rv x<=(b:Rat)+1 / 16:=by
 have:=Ck k
 obtain ⟨_,⟨h1,h2⟩,h3,h4⟩:=h
 constructor
 ·clear h2 h4;grind -abstractProof
 ·clear h1 h3;grind -abstractProof
theorem Ap.mono {x:UInt64} {r:Rat} {n m b:Nat} (h:Ap x r n b) (k:n<=m):Ap x r m b:=⟨h.fn,h.nr.mono (Rat.mul_le_mul_of_nonneg_right (gG k) (Rat.le_of_lt gJ)),h.lo,h.hi⟩
theorem Ap.bd {x:UInt64} {r:Rat} {n b c:Nat} (h:Ap x r n b) (lo:-(c:Rat)<=r) (hi:r<=(c:Rat)):Ap x r n c:=⟨h.fn,h.nr,lo,hi⟩
theorem Ap.eq {x:UInt64} {r s:Rat} {n b:Nat} (h:Ap x r n b) (e:r=s):Ap x s n b:=e▸h
theorem ua (n m:Nat):(n:Rat)*eps+(m:Rat)*eps+eps=((n+m+1:Nat):Rat)*eps:=by
 rw [Rat.natCast_add,Rat.natCast_add]
 have:((1:Nat):Rat)=1:=rfl
 rw [this];grind -abstractProof
theorem wP {a c:Rat} {b d:Nat} (h1:-((b:Rat)+1 / 16)<=a) (h2:a<=(b:Rat)+1 / 16) (h3:-((d:Rat)+1 / 16)<=c) (h4:c<=(d:Rat)+1 / 16) (k:b+d<=7):-8<a+c/\a+c<8:=by
 have k':=gG k
 rw [Rat.natCast_add] at k'
 have e:((7:Nat):Rat)=7:=rfl
 rw [e] at k'
 have e16:(16:Rat)*(1 / 16)=1:=by decide +kernel
 generalize (1:Rat) / 16=z at *
 constructor
 ·clear h2 h4;grind -abstractProof
 ·clear h1 h3;grind -abstractProof
theorem Ap.add {x y:UInt64} {r s:Rat} {n m b c:Nat} (h1:Ap x r n b) (h2:Ap y s m c) (k:b+c<=7) (kn:n<=10000) (km:m<=10000):Ap (Float64.add x y) (r+s) (n+m+1) (b+c):=by
 obtain ⟨a1,a2⟩:=h1.abs kn
 obtain ⟨a3,a4⟩:=h2.abs km
 obtain ⟨l1,l2⟩:=wP a1 a2 a3 a4 k
 obtain ⟨f,q⟩:=AQ h1.fn h2.fn l1 l2
 have e:=(q.trans (h1.nr.add h2.nr)).mono (Std.le_of_eq (show eps+((n:Rat)*eps+(m:Rat)*eps)=((n+m+1:Nat):Rat)*eps by rw [Rat.add_comm];exact ua n m))
 refine ⟨f,e,?_,?_⟩
 ·rw [Rat.natCast_add,Rat.neg_add];exact wN h1.lo h2.lo
 ·rw [Rat.natCast_add];exact wN h1.hi h2.hi
theorem Ap.sub {x y:UInt64} {r s:Rat} {n m b c:Nat} (h1:Ap x r n b) (h2:Ap y s m c) (k:b+c<=7) (kn:n<=10000) (km:m<=10000):Ap (Float64.sub x y) (r - s) (n+m+1) (b+c):=by
 obtain ⟨a1,a2⟩:=h1.abs kn
 obtain ⟨a3,a4⟩:=h2.abs km
 obtain ⟨l1,l2⟩:=wP a1 a2 (Rat.neg_le_neg a4) (by rw [<-Rat.neg_neg (a:=(c:Rat)+1 / 16)];exact Rat.neg_le_neg a3) k
 rw [<-Rat.sub_eq_add_neg] at l1 l2
 obtain ⟨f,q⟩:=An h1.fn h2.fn l1 l2
 have e:=(q.trans (h1.nr.sub h2.nr)).mono (Std.le_of_eq (show eps+((n:Rat)*eps+(m:Rat)*eps)=((n+m+1:Nat):Rat)*eps by rw [Rat.add_comm];exact ua n m))
 have a:=h1.lo;have b':=h1.hi;have c':=h2.lo;have d:=h2.hi
 refine ⟨f,e,?_,?_⟩
 ·rw [Rat.natCast_add];clear b' c';grind -abstractProof
 ·rw [Rat.natCast_add];clear a d;grind -abstractProof
theorem yU (n m b c:Nat):((b:Rat)+1)*((m:Rat)*eps)+(c:Rat)*((n:Rat)*eps)+eps=(((b+1)*m+c*n+1:Nat):Rat)*eps:=by
 simp only [Rat.natCast_add,Rat.natCast_add,Rat.natCast_mul,Rat.natCast_mul,Rat.natCast_add]
 have:((1:Nat):Rat)=1:=rfl
 rw [this];grind -abstractProof
theorem Ap.mul {x y:UInt64} {r s:Rat} {n m b c:Nat} (h1:Ap x r n b) (h2:Ap y s m c) (k:b*c<=6) (kb:b<=6) (kc:c<=6) (kn:n<=10000) (km:m<=10000):Ap (Float64.mul x y) (r*s) ((b+1)*m+c*n+1) (b*c):=by
 obtain ⟨a1,a2⟩:=h1.abs kn
 obtain ⟨a3,a4⟩:=h2.abs km
 obtain ⟨p1,p2⟩:=lY a1 a2 a3 a4
 have hb:((b:Rat)+1 / 16)*((c:Rat)+1 / 16)<8:=by
  have k1:=gG k
  have k2:=gG kb
  have k3:=gG kc
  rw [Rat.natCast_mul] at k1
  have e:((6:Nat):Rat)=6:=rfl
  rw [e] at k1 k2 k3
  have e16:(16:Rat)*(1 / 16)=1:=by decide +kernel
  generalize (1:Rat) / 16=z at *
  clear a1 a2 a3 a4 p1 p2 h1 h2
  have z1:=Rat.mul_le_mul_of_nonneg_right k2 (show 0<=z by grind -abstractProof)
  have z2:=Rat.mul_le_mul_of_nonneg_right k3 (show 0<=z by grind -abstractProof)
  have z3:=Rat.mul_le_mul_of_nonneg_right (show z<=1 by grind -abstractProof) (show 0<=z by grind -abstractProof)
  grind -abstractProof
 obtain ⟨f,q⟩:=Dd h1.fn h2.fn (by clear a1 a2 a3 a4 h1 h2 p2;grind -abstractProof) (Std.lt_of_le_of_lt p2 hb)
 obtain ⟨b1,b2⟩:=lY h1.lo h1.hi h2.lo h2.hi
 have key:Nr (rv x*rv y) (r*s) (((b:Rat)+1)*((m:Rat)*eps)+(c:Rat)*((n:Rat)*eps)):=by
  obtain ⟨u1,u2⟩:=h1.nr
  obtain ⟨v1,v2⟩:=h2.nr
  obtain ⟨w1,w2⟩:=lY (A:=(b:Rat)+1) (x:=rv x) (v:=rv y - s) (E:=(m:Rat)*eps) (by clear h1 h2 u1 u2 v1 v2 a3 a4 p1 p2 hb b1 b2;grind -abstractProof) (by clear h1 h2 u1 u2 v1 v2 a3 a4 p1 p2 hb b1 b2;grind -abstractProof) (by clear h1 h2 u1 u2 v2 a1 a2 a3 a4 p1 p2 hb b1 b2;grind -abstractProof) (by clear h1 h2 u1 u2 v1 a1 a2 a3 a4 p1 p2 hb b1 b2;grind -abstractProof)
  obtain ⟨w3,w4⟩:=lY (A:=(c:Rat)) (x:=s) (v:=rv x - r) (E:=(n:Rat)*eps) h2.lo h2.hi (by clear h1 h2 v1 v2 u2 a1 a2 a3 a4 p1 p2 hb b1 b2 w1 w2;grind -abstractProof) (by clear h1 h2 v1 v2 u1 a1 a2 a3 a4 p1 p2 hb b1 b2 w1 w2;grind -abstractProof)
  have e:rv x*rv y - r*s=rv x*(rv y - s)+s*(rv x - r):=by clear u1 u2 v1 v2 a1 a2 a3 a4 p1 p2 hb b1 b2 w1 w2 w3 w4;grind -abstractProof
  clear u1 u2 v1 v2 a1 a2 a3 a4 p1 p2 hb b1 b2 h1 h2 q f
  generalize rv x*(rv y - s)=A at *
  generalize s*(rv x - r)=B at *
  constructor
  ·clear w2 w4;grind -abstractProof
  ·clear w1 w3;grind -abstractProof
 have e:=(q.trans key).mono (Std.le_of_eq (show eps+(((b:Rat)+1)*((m:Rat)*eps)+(c:Rat)*((n:Rat)*eps))=(((b+1)*m+c*n+1:Nat):Rat)*eps by rw [Rat.add_comm];exact yU n m b c))
 exact ⟨f,e,by rw [Rat.natCast_mul];exact b1,by rw [Rat.natCast_mul];exact b2⟩
theorem Ap.exact {x:UInt64} {b:Nat} (hx:Fn' x) (lo:-(b:Rat)<=rv x) (hi:rv x<=(b:Rat)):Ap x (rv x) 0 b:=⟨hx,(Nr.self _).mono (Ce 0),lo,hi⟩
theorem Ap.div {x y:UInt64} {q:Rat} {b:Nat} (hx:Fn' x) (hy:Fn' y) (h0:rv y≠0) (hq:q*rv y=rv x) (lo:-(b:Rat)<=q) (hi:q<=(b:Rat)) (kb:b<=7):Ap (Float64.div x y) q 1 b:=by
 have e:rv x / rv y=q:=by rw [<-hq];exact Rat.mul_div_cancel h0
 have k:=gG kb
 have e7:((7:Nat):Rat)=7:=rfl
 rw [e7] at k
 obtain ⟨f,n⟩:=D3 hx hy h0 (by rw [e];clear hi hq e;grind -abstractProof) (by rw [e];clear lo hq e;grind -abstractProof)
 rw [e] at n
 exact ⟨f,n.mono (by have:((1:Nat):Rat)=1:=rfl
                     rw [this,Rat.one_mul];exact Rat.le_refl),lo,hi⟩
end
section
open PySem PySem.Float64
set_option exponentiation.threshold 3000
theorem Rat.div_bd {a b:Rat} (hb:0<b) (h0:0<=a) (h1:a<=b):0<=a / b/\a / b<=1:=by
 have h:a / b*b=a:=Rat.div_mul_cancel (by exact Ne.symm (Rat.ne_of_lt hb))
 generalize a / b=q at *
 constructor
 ·exact Rat.le_of_mul_le_mul_right (c:=b) (by grind -abstractProof) hb
 ·exact Rat.le_of_mul_le_mul_right (c:=b) (by grind -abstractProof) hb
theorem o5 {mx r rg:UInt64} {M i R:Int} (hm:Gd mx M) (hr:Gd r i) (hg:Gd rg R) (hR:0<R) (h0:i<=M) (h1:M - i<=R) (hR2:R<=524288):∃ q:Rat,q*(R:Rat)=(M:Rat) - (i:Rat)/\0<=q/\q<=1/\Ap (fN mx r rg) q 1 1:=by
 have hs:=hm.sub hr (by lia -abstractProof)
 have hRq:(0:Rat)<(R:Rat):=Rat.intCast_pos.mpr hR
 have hne:(R:Rat)≠0:=by clear hs hm hr hg;exact Ne.symm (Rat.ne_of_lt hRq)
 obtain ⟨q0,q1⟩:=Rat.div_bd hRq (a:=((M - i:Int):Rat)) (Rat.intCast_nonneg.mpr (by exact Int.sub_nonneg_of_le h0)) (Rat.intCast_le_intCast.mpr h1)
 have hq:((M - i:Int):Rat) / (R:Rat)*(R:Rat)=((M - i:Int):Rat):=Rat.div_mul_cancel hne
 have v1:=hs.rv
 have v2:=hg.rv
 generalize ((M - i:Int):Rat) / (R:Rat)=q at *
 refine ⟨q,by rw [hq,Rat.intCast_sub],q0,q1,Ap.div hs.1 hg.1 ?_ ?_ ?_ q1 (by simp)⟩
 ·rw [v2];clear hs hm hr hg hq q0 q1 v1 v2;grind -abstractProof
 ·rw [v1,v2,<-hq];clear hs hm hr hg hq q0 q1 v1 v2;grind -abstractProof
 ·exact Rat.le_trans (by rfl) q0
theorem qK {x:UInt64} {m:Nat} {e:Int} (h:decode x=.fin false m e):Fn' x:=⟨_,_,_,h⟩
theorem ub {x:UInt64} {n:Int} {d:Nat} (hd:0<d) (h:fv x*(d:Int)=n*(UN:Int)):rv x=(n:Rat) / (d:Rat):=by
 have h':=congrArg (fun z:Int=>(z:Rat)) h
 simp only [Rat.intCast_mul,Rat.intCast_natCast] at h'
 rw [cD] at h'
 have hU:=vm
 have hd':(0:Rat)<(d:Rat):=Rat.natCast_pos.mpr hd
 have e:(UN:Rat)=U:=rfl
 rw [e] at h'
 have:rv x*(d:Rat)=(n:Rat):=by grind -abstractProof
 grind -abstractProof
theorem f2:Fn' F2/\rv F2=2:=⟨qK (by kernel_rfl:decode F2=.fin false (2 ^ 52) (-51)),by rw [ub (n:=2) (d:=1) (by exact Nat.one_pos) (by decide +kernel)];grind -abstractProof⟩
theorem f4:Fn' F4/\rv F4=4:=⟨qK (by kernel_rfl:decode F4=.fin false (2 ^ 52) (-50)),by rw [ub (n:=4) (d:=1) (by exact Nat.one_pos) (by decide +kernel)];grind -abstractProof⟩
theorem f6:Fn' F6/\rv F6=6:=⟨qK (by kernel_rfl:decode F6=.fin false (3*2 ^ 51) (-50)),by rw [ub (n:=6) (d:=1) (by exact Nat.one_pos) (by decide +kernel)];grind -abstractProof⟩
structure jr (hue:UInt64) (t:Rat):Prop where
 fn:Fn' hue
 lo:0<=rv hue
 up:rv hue<1
 t0:0<=t
 t6:t<6
 near:Nr (6*rv hue) t (16*eps)
theorem AU {h:UInt64} {t:Rat} {n:Nat} (A:Ap h t 4 n) (kn:n<=6):Fn' (Float64.div h F6)/\Nr (6*rv (Float64.div h F6)) t (10*eps):=by
 have he:=gJ
 obtain ⟨a1,a2⟩:=A.abs (by simp)
 have k:=gG kn
 have e6:rv h / 6*6=rv h:=Rat.div_mul_cancel (by decide)
 have g:=D3 A.fn f6.1 (by rw [f6.2];decide)
 rw [f6.2] at g
 obtain ⟨n1,n2⟩:=A.nr
 have e5:((4:Nat):Rat)=4:=rfl
 have e7:((6:Nat):Rat)=6:=rfl
 rw [e5] at n1 n2
 rw [e7] at k
 have e16:(16:Rat)*(1 / 16)=1:=by decide +kernel
 generalize (1:Rat) / 16=z at *
 generalize rv h / 6=q at g e6
 clear A
 obtain ⟨g1,g2,g3⟩:=g (by clear n1 n2 a2 g;grind -abstractProof) (by clear n1 n2 a1 g;grind -abstractProof)
 clear a1 a2 k e16 g
 exact ⟨g1,by clear g3 n2;grind -abstractProof,by clear g2 n1;grind -abstractProof⟩
theorem qi {h:UInt64} {t:Rat} {b:Nat} (A:Ap h t 4 b) (h0:(1<=524288*t/\t<=5)\/(-1<=t/\524288*t<=-1)) (kb:b<=6):jr (dI (Float64.div h F6)) (if t<0 then t+6 else t):=by
 have he:=dB
 obtain ⟨g1,g2,g3⟩:=AU A kb
 obtain ⟨m1,⟨n,m2,m6⟩,m3,m4,m5⟩:=uB g1
 have hlt:tw 0 / tw 53<=eps:=by rw [ii];decide +kernel
 generalize tw 0 / tw 53=d0 at *
 clear A
 generalize Float64.div h F6=x at *
 rcases h0 with ⟨a,b⟩ | ⟨a,b⟩
 ·clear m2 m6 hlt
  have hx:0<=rv x/\rv x<1:=⟨by clear g3 b m3 m4 m5;grind -abstractProof,by clear g2 a m3 m4 m5;grind -abstractProof⟩
  have e:=m5 hx.1 hx.2
  rw [if_neg (by clear g2 g3 m3 m4 m5 e hx;grind -abstractProof)]
  exact ⟨m1,m3,by rw [e];exact hx.2,by clear g2 g3 m3 m4 m5 e hx;grind -abstractProof,by clear g2 g3 m3 m4 m5 e hx;exact Std.lt_of_le_of_lt b rfl,by rw [e];clear g3 hx m3 m4 m5 e;grind -abstractProof,by rw [e];clear g2 hx m3 m4 m5 e;grind -abstractProof⟩
 ·clear m5
  have hn1:n=-1:=by
   have c1:((n:Int):Rat)<((0:Int):Rat):=by simp only [Rat.intCast_zero];clear g2 m4 m2 a;grind -abstractProof
   have c2:((-2:Int):Rat)<((n:Int):Rat):=by rw [show ((-2:Int):Rat)=-2 from rfl];clear g3 m3 m6 b c1;grind -abstractProof
   have:=Rat.intCast_lt_intCast.mp c1
   have:=Rat.intCast_lt_intCast.mp c2
   lia -abstractProof
  subst hn1
  have en:((-1:Int):Rat)=-1:=rfl
  rw [en] at m2 m6
  rw [if_pos (by clear g2 g3 m2 m6 m3 m4;grind -abstractProof)]
  exact ⟨m1,m3,by clear g2 m2 m3 m4 a;grind -abstractProof,by clear g2 g3 m2 m6 m3 m4;grind -abstractProof,by clear g2 g3 m2 m6 m3 m4;grind -abstractProof,by clear g3 m6 m3 m4 a b;grind -abstractProof,by clear g2 m2 m3 m4 a b;grind -abstractProof⟩
theorem xk:jr (dI (Float64.div (zero false) F6)) 0:=by
 have e:dI (Float64.div (zero false) F6)=zero false:=by decide +kernel
 rw [e]
 have z:=io false
 have zr:rv (zero false)=0:=by unfold rv;simp only [z.2,Rat.intCast_zero,Rat.div_def,Rat.zero_mul]
 refine ⟨z.1,by rw [zr];rfl,by rw [zr];rfl,by rfl,by rfl,?_⟩
 have:=gJ
 rw [zr];unfold Nr;grind -abstractProof
theorem ap2:Ap F2 2 0 2:=(Ap.exact f2.1 (by rw [f2.2];rfl) (by rw [f2.2];rfl)).eq f2.2
theorem ap4:Ap F4 4 0 4:=(Ap.exact f4.1 (by rw [f4.2];rfl) (by rw [f4.2];rfl)).eq f4.2
theorem sO {R a b qa qb:Rat} {j k:Int} (hR:0<R) (hR2:R<=524288) (hne:j≠k) (e:(qb - qa)*R=(j:Rat) - (k:Rat)):1<=524288*(qb - qa)\/524288*(qb - qa)<=-1:=by
 generalize qb - qa=t at *
 rcases Int.lt_or_gt_of_ne hne with h | h
 ·right
  have q:=Rat.intCast_le_intCast.mpr (show j - k<=-1 by exact Int.sub_le_of_sub_le h)
  rw [Rat.intCast_sub,<-e] at q
  have q':t*R<=-1:=q
  have:t<0:=by
   refine Rat.not_le.mp fun z=>?_
   have:=Rat.mul_nonneg z (Rat.le_of_lt hR);clear e q h hne;grind -abstractProof
  have:=Rat.mul_le_mul_of_nonneg_left hR2 (show 0<=-t by clear e q q' h hne;grind -abstractProof)
  clear e q h hne hR;grind -abstractProof
 ·left
  have q:=Rat.intCast_le_intCast.mpr (show 1<=j - k by exact Int.le_sub_left_of_add_le h)
  rw [Rat.intCast_sub,<-e] at q
  have q':1<=t*R:=q
  have:0<t:=by
   refine Rat.not_le.mp fun z=>?_
   have:=Rat.mul_nonneg (show 0<=-t by clear e q q' h hne;exact Iff.mp Rat.le_neg_iff z) (Rat.le_of_lt hR);clear e q h hne;grind -abstractProof
  have:=Rat.mul_le_mul_of_nonneg_left hR2 (Rat.le_of_lt this)
  clear e q h hne hR;grind -abstractProof
theorem yc {x h:UInt64} {i j k M m R t:Rat} (W:Wheel i j k M m t) (H:jr x (if t<0 then t+6 else t)):∃ t,jr x t/\Wheel i j k M m t:=by
 refine ⟨_,H,?_⟩
 split
 ·have:=W.shift 1
  have e:t+6*((1:Int):Rat)=t+6:=by rw [show ((1:Int):Rat)=1 from rfl];simp
  rw [e] at this;exact this
 ·exact W
theorem yP {R a b c qa qb:Rat} (h1:qa*R=c - a) (h2:qb*R=c - b):R*(qb - qa)=a - b:=by grind -abstractProof
theorem Cm {r g b:UInt64} {i j k M m:Int} (hr:Gd r i) (hg:Gd g j) (hb:Gd b k) (hgb:j=k->g=b) (X:Mm i j k M m) (hM:Gd (mxF r g b) M) (hm:Gd (mnF r g b) m) (i0:0<=m) (i1:M<=524288) (hne:m<M) :
 ∃ t,jr (oH r g b) t/\Wheel (i:Rat) (j:Rat) (k:Rat) (M:Rat) (m:Rat) t:=by
 have hrg:Gd (rgF r g b) (M - m):=hM.sub hm (by clear X;omega)
 have hR0:0<M - m:=by clear X;exact Int.sub_pos_of_lt hne
 have hR1:M - m<=524288:=by clear X;lia -abstractProof
 have hRpos:(0:Rat)<((M - m:Int):Rat):=Rat.intCast_pos.mpr hR0
 have hRle:((M - m:Int):Rat)<=524288:=Rat.intCast_le_intCast.mpr hR1
 have hne':(m:Rat)<(M:Rat):=Rat.intCast_lt_intCast.mpr hne
 have E:=X.rim
 obtain ⟨qr,er,r0,r1,ar⟩:=o5 hM hr hrg hR0 X.iM (Int.sub_le_sub_left X.im M) hR1
 obtain ⟨qg,eg,g0,g1,ag⟩:=o5 hM hg hrg hR0 X.jM (Int.sub_le_sub_left X.jm M) hR1
 obtain ⟨qb,eb,b0,b1,ab⟩:=o5 hM hb hrg hR0 X.kM (Int.sub_le_sub_left X.km M) hR1
 have eR:((M - m:Int):Rat)=(M:Rat) - (m:Rat):=Rat.intCast_sub _ _
 have fr:feq r (mxF r g b)=decide (i=M):=hr.feq hM
 have fg:feq g (mxF r g b)=decide (j=M):=hg.feq hM
 delta oH vW wD
 rw [fr,fg]
 by_cases hi:i=M
 ·rw [decide_eq_true hi,cond_true]
  obtain ⟨W,w1,w2⟩:=pQ (t:=qb - qg) E hne' (Rat.intCast_inj.mpr hi) (by rw [<-eR];exact yP eg eb)
  by_cases hjk:j=k
  ·have:g=b:=hgb hjk
   subst this
   rw [wq ag.fn]
   have e0:qb - qg=0:=by
    have q:=yP eg eb
    rw [hjk] at q
    have:((M - m:Int):Rat)*(qb - qg)=0:=by rw [q];exact Rat.sub_self
    rcases Rat.mul_eq_zero.mp this with z | z
    ·rw [z] at hRpos;exact absurd hRpos (by simp)
    ·exact z
   rw [e0] at W
   exact ⟨0,xk,W⟩
  ·have hb2:=sO (a:=0) (b:=0) hRpos hRle hjk (by rw [Rat.mul_comm];exact yP eg eb)
   exact yc (h:=r) (R:=0) W (qi ((ab.sub ag (by simp) (by simp) (by simp)).mono (by simp:_<=4)) (by clear W E X er eg eb ar ag ab r0 r1 g0 g1 b0 b1;grind -abstractProof) (by decide))
 ·rw [decide_eq_false hi,cond_false]
  by_cases hj:j=M
  ·rw [decide_eq_true hj,cond_true]
   obtain ⟨W,w1,w2⟩:=pQ (i:=(j:Rat)) (j:=(k:Rat)) (k:=(i:Rat)) (t:=qr - qb) ⟨E.jM,E.kM,E.iM,E.jm,E.km,E.im,.inl (Rat.intCast_inj.mpr hj.symm),E.m.elim (fun h=>.inr (.inr h)) fun h=>h.elim .inl fun h=>.inr (.inl h)⟩ hne' (Rat.intCast_inj.mpr hj) (by rw [<-eR];exact yP eb er)
   have A:=((ap2.add ar (by simp) (by simp) (by simp)).sub ab (by simp) (by decide) (by simp)).mono (by decide:_<=4)
   have e:qr - qb+2=2+qr - qb:=by clear W E X er eg eb ar ag ab A;grind -abstractProof
   have W':=W.turn
   rw [e] at W'
   exact yc (h:=r) (R:=0) W' (qi A (by clear W W' E X er eg eb ar ag ab A r0 r1 g0 g1 b0 b1 hi hj fr fg hne' hRpos hRle;grind -abstractProof) (by decide))
  ·rw [decide_eq_false hj,cond_false]
   have hk:k=M:=by rcases X.M with h | h | h;exact absurd h.symm hi;exact absurd h.symm hj;exact h.symm
   obtain ⟨W,w1,w2⟩:=pQ (i:=(k:Rat)) (j:=(i:Rat)) (k:=(j:Rat)) (t:=qg - qr) ⟨E.kM,E.iM,E.jM,E.km,E.im,E.jm,.inl (Rat.intCast_inj.mpr hk.symm),E.m.elim (fun h=>.inr (.inl h)) fun h=>h.elim (fun h=>.inr (.inr h)) .inl⟩ hne' (Rat.intCast_inj.mpr hk) (by rw [<-eR];exact yP er eg)
   have A:=((ap4.add ag (by simp) (by simp) (by simp)).sub ar (by simp) (by decide) (by simp)).mono (by decide:_<=4)
   have e:qg - qr+2+2=4+qg - qr:=by clear W E X er eg eb ar ag ab A;grind -abstractProof
   have W':=W.turn.turn
   rw [e] at W'
   exact yc (h:=r) (R:=0) W' (qi A (by clear W W' E X er eg eb ar ag ab A r0 r1 g0 g1 b0 b1 hi hj fr fg hne' hRpos hRle;grind -abstractProof) (by decide))
end
section
open PySem PySem.Float64
set_option exponentiation.threshold 3000
theorem wc {e:Int} (h:0<=e):(e+1074).toNat=e.toNat+1074:=by lia -abstractProof
theorem sw {e:Int} (h:-1074<=e):(e+1074).toNat+(-e).toNat=1074\/0<=e:=by grind -abstractProof
theorem n9 {m:Nat} {e:Int} (he:-1074<=e):Float64.floorOf false m e=((m*2 ^ (e+1074).toNat / UN:Nat):Int):=by
 delta Float64.floorOf Float64.sgn UN
 by_cases h:e>=0
 ·rw [if_pos h,wc h,Nat.pow_add,<-Nat.mul_assoc,Nat.mul_div_cancel _ (Nat.two_pow_pos _)]
  dsimp
 ·rw [if_neg h]
  have e1:(e+1074).toNat+(-e).toNat=1074:=by rcases sw he with h1 | h1;exact h1;exact absurd h1 h
  have e2:2 ^ 1074=2 ^ (-e).toNat*2 ^ (e+1074).toNat:=by rw [<-Nat.pow_add,Nat.add_comm];exact congrArg _ e1.symm
  rw [e2,Nat.mul_div_mul_right _ _ (Nat.two_pow_pos _)]
  show Int.fdiv (m:Int) (2 ^ (-e).toNat)=_
  have e3:((2:Int) ^ (-e).toNat)=((2 ^ (-e).toNat:Nat):Int):=by simp only [Int.natCast_pow];rfl
  rw [e3,Int.fdiv_eq_ediv_of_nonneg _ (Int.natCast_nonneg _)]
  rfl
theorem zA {x:UInt64} (hx:Fn' x) (h0:0<=fv x):lA x=fv x / (UN:Int):=by
 obtain ⟨a,m,e,hx⟩:=hx
 have hv:fv x=Float64.sgn a (m*2 ^ (e+1074).toNat):=val_eq hx
 unfold lA
 rw [hx]
 show Float64.truncOf a m e=_
 cases a with
 | false =>
   show Float64.floorOf false m e=_
   rw [n9 (decode_ge hx),hv]
   exact Int.natCast_ediv _ _
 | true =>
   have hm:m*2 ^ (e+1074).toNat=0:=by
    have h1:(0:Int)<=-((m*2 ^ (e+1074).toNat:Nat):Int):=by rw [hv] at h0;exact h0
    generalize m*2 ^ (e+1074).toNat=z at *;lia -abstractProof
   show -Float64.floorOf (!true) m e=_
   rw [Bool.not_true,n9 (decode_ge hx),hv,hm]
   rfl
theorem xG {x:UInt64} (h:0<=rv x):0<=fv x:=by
 have:=cD x
 rw [<-Rat.intCast_le_intCast,this,Rat.intCast_zero]
 exact Rat.mul_nonneg h (Rat.le_of_lt iE)
theorem qj {x:UInt64} (hx:Fn' x) (h0:0<=rv x):((lA x:Int):Rat)<=rv x/\rv x<(lA x:Rat)+1/\0<=lA x:=by
 have n0:=xG h0
 have hU:=iE
 have hUn:=to
 rw [zA hx n0]
 have hd:=Int.mul_ediv_add_emod (fv x) (UN:Int)
 have h1:=Int.emod_nonneg (fv x) (b:=(UN:Int)) (by decide)
 have h2:=Int.emod_lt_of_pos (fv x) (b:=(UN:Int)) (by decide)
 have a1:fv x / (UN:Int)*(UN:Int)<=fv x:=by rw [Int.mul_comm];omega
 have a2:fv x<(fv x / (UN:Int)+1)*(UN:Int):=by rw [Int.add_mul,Int.one_mul,Int.mul_comm];omega
 have b1:=Rat.intCast_le_intCast.mpr a1
 have b2:=Rat.intCast_lt_intCast.mpr a2
 rw [Rat.intCast_mul,cD,Rat.intCast_natCast] at b1 b2
 have eU:((UN:Nat):Rat)=U:=rfl
 rw [eU] at b1 b2
 refine ⟨Rat.le_of_mul_le_mul_right (c:=U) b1 hU,?_,Int.ediv_nonneg n0 (by simp)⟩
 rw [Rat.intCast_add] at b2
 exact Rat.lt_of_mul_lt_mul_right (c:=U) b2 (Rat.le_of_lt hU)
theorem iW {i:Int} (h:i.natAbs<2 ^ 53):Fn' (Float64.ofInt i)/\rv (Float64.ofInt i)=(i:Rat):=by
 obtain ⟨h1,h2⟩:=rR h
 refine ⟨h1,?_⟩
 unfold rv
 simp only [h2,Rat.intCast_mul,Rat.intCast_natCast]
 have:=vm
 show (i:Rat)*U / U=_
 exact Rat.mul_div_cancel this
theorem qt {V u z d:Rat} (h0:0<=V) (h1:V<=1) (hd:0<=d) (h:Nr u z d):Nr (V*u) (V*z) d:=by
 have a1:=Rat.mul_le_mul_of_nonneg_left h.1 h0
 have a2:=Rat.mul_le_mul_of_nonneg_left h.2 h0
 have a3:=Rat.mul_le_mul_of_nonneg_right h1 hd
 unfold Nr;grind -abstractProof
end
section
open PySem PySem.Float64
set_option exponentiation.threshold 3000
noncomputable def Lit (a:UInt64) (mn R X d:Rat):Prop:=Fn' a/\∃ w,Tn X w/\Nr (rv a) (mn+R*w) d
theorem tw4:tw 4=16:=by rfl
theorem Es:tw 4 / tw 53=2*eps:=by rw [ii];decide +kernel
theorem DT {x y:UInt64} (hx:Fn' x) (hy:Fn' y) (h1:-16<rv x*rv y) (h2:rv x*rv y<16):Fn' (Float64.mul x y)/\Nr (rv (Float64.mul x y)) (rv x*rv y) (2*eps):=by
 have:=sH hx hy 4 (by simp) (by rw [tw4];exact h1) (by rw [tw4];exact h2)
 rw [Es] at this;exact this
theorem C5 {P F:Rat} {i d n c:Int} (hP:P=(i:Rat)+F) (h:i=d+6*n+2*c) (h0:0<=d) (h1:d<6) (f0:0<=F) (f1:F<=1):Tn (P - 2*(c:Rat)) (cw d F):=by
 have:=(Tn.at h0 h1 f0 f1).shift n
 have e:(d:Rat)+F+6*(n:Rat)=P - 2*(c:Rat):=by
  simp only [hP,h,Rat.intCast_add,Rat.intCast_add,Rat.intCast_mul,Rat.intCast_mul];grind -abstractProof
 rw [e] at this;exact this
theorem Cf {h:UInt64} (hh:Fn' h) (h0:0<=rv h) (h2:rv h<=2):Fn' (Float64.mul h F6)/\Nr (rv (Float64.mul h F6)) (6*rv h) (2*eps)/\0<=rv (Float64.mul h F6):=by
 have hp6:rv h*rv F6=6*rv h:=by rw [f6.2,Rat.mul_comm]
 obtain ⟨p1,p2⟩:=DT hh f6.1 (by rw [hp6];grind -abstractProof) (by rw [hp6];grind -abstractProof)
 rw [hp6] at p2
 have p0:0<=rv (Float64.mul h F6):=by
  by_cases hz:rv h=0
  ·have hf0:fv h=0:=by
    have:=cD h
    rw [hz,Rat.zero_mul] at this
    exact Rat.intCast_eq_zero_iff.mp this
   obtain ⟨a,m,e,hd⟩:=p1
   obtain ⟨b,n,f,hx⟩:=hh
   obtain ⟨b',n',f',hy⟩:=f6.1
   obtain ⟨q1,w,q2,q3,q4⟩:=d4 (k:=0) (mul_right hx hy) (Nat.two_pow_pos _) (by
    rw [show (Float64.val h).natAbs=0 from by rw [show Float64.val h=0 from hf0];rfl,Nat.zero_mul]
    exact Nat.mul_pos (Nat.two_pow_pos _) (Nat.two_pow_pos _)) (by simp)
   have e0:(Float64.val h).natAbs=0:=by rw [show Float64.val h=0 from hf0];rfl
   have hw:=q4 0
   rw [e0,Nat.zero_mul,V_zero,Nat.mul_zero] at hw
   have hw0:w=0:=by
    have:Float64.dist 0 0=0:=rfl
    rw [this] at hw
    have h5:2 ^ 1074*w=0:=by unfold Float64.dist at hw;lia -abstractProof
    rcases Nat.mul_eq_zero.mp h5 with h6 | h6
    ·exact absurd h6 (by have:=Nat.two_pow_pos 1074;decide)
    ·exact h6
   have:fv (Float64.mul h F6)=0:=by
    show Float64.val _=0
    rw [q2,hw0];cases (b != b')<;>rfl
   unfold rv;simp only [this,Rat.intCast_zero,Rat.div_def,Rat.zero_mul];exact Rat.le_refl
  ·have hpos:0<fv h:=by
    have h1:=xG h0
    have h2:fv h≠0:=fun q=>hz (by unfold rv;simp only [q,Rat.intCast_zero,Rat.div_def,Rat.zero_mul])
    exact Std.lt_of_le_of_ne h1 (id (Ne.symm h2))
   obtain ⟨b,n,f,hx⟩:=hh
   have hy:decode F6=.fin false (3*2 ^ 51) (-50):=by kernel_rfl
   have hb:b=false:=by
    have hv:fv h=Float64.sgn b (n*2 ^ (f+1074).toNat):=val_eq hx
    rw [hv] at hpos
    cases b with
    | false=>rfl
    | true =>
      have:(0:Int) < -((n*2 ^ (f+1074).toNat:Nat):Int):=hpos
      generalize n*2 ^ (f+1074).toNat=z at *;lia -abstractProof
   subst hb
   have hbd:(fv h).natAbs*(fv F6).natAbs<2 ^ 1074*2 ^ (53+1025):=by
    have hq:((fv h*fv F6:Int):Rat)=rv h*rv F6*U*((2 ^ 1074:Nat):Rat):=by
     rw [Rat.intCast_mul,cD,cD]
     show _=rv h*rv F6*U*U
     grind -abstractProof
    have:=ny (e:=4) (Nat.two_pow_pos 1074) hq (by rw [tw4,hp6];grind -abstractProof) (by rw [tw4,hp6];grind -abstractProof)
    rw [Int.natAbs_mul] at this
    exact this
   obtain ⟨q1,w,q2,q3,q4⟩:=d4 (k:=1025) (mul_right hx hy) (Nat.two_pow_pos _) hbd (by simp)
   have:fv (Float64.mul h F6)=(w:Int):=q2
   have hfv:=cD (Float64.mul h F6)
   rw [this] at hfv
   refine Rat.le_of_mul_le_mul_right (c:=U) ?_ iE
   rw [Rat.zero_mul,<-hfv]
   exact Rat.intCast_nonneg.mpr (Int.natCast_nonneg w)
 exact ⟨p1,p2,p0⟩
theorem ap1:Ap F1 1 0 1:=(Ap.exact tN (by rw [lz];rfl) (by rw [lz];rfl)).eq lz
theorem Do {A R q F:Rat} (h:A*q=R):A*(1 - q*F)=A - R*F:=by grind -abstractProof
theorem DZ {A R q:Rat} (h:A*q=R):A*(1 - q)=A - R:=by grind -abstractProof
theorem ED {A R F:Rat}:A - R*(1 - F)=A - R+R*F:=by grind -abstractProof
theorem EA {A R:Rat}:A=A - R+R*1:=by grind -abstractProof
theorem Em {A R:Rat}:A - R=A - R+R*0:=by grind -abstractProof
theorem Ep {A R F:Rat}:A - R*F=A - R+R*(1 - F):=by grind -abstractProof
theorem Lit.of {a:UInt64} {mn R X w r:Rat} {n b:Nat} (h:Ap a r n b) (e:r=mn+R*w) (k:n<=15) (t:Tn X w):Lit a mn R X (((15:Nat):Rat)*eps):=⟨h.fn,w,t,by rw [<-e];exact (h.mono k).nr⟩
theorem C7 {v s h:UInt64} {A q R:Rat} (av:Ap v A 0 1) (as:Ap s q 1 1) (hR:A*q=R) (hh:Fn' h) (h0:0<=rv h) (h2:rv h<=2) :
 Float64.isFinite (Float64.mul h F6)=true/\(dy h).natAbs<2 ^ 1023/\∃ P a0 a1 a2,Nr P (6*rv h) (2*eps)/\qE h s v=[a0,a1,a2]/\Lit a0 (A - R) R P (((15:Nat):Rat)*eps)/\Lit a1 (A - R) R (P - 2) (((15:Nat):Rat)*eps)/\Lit a2 (A - R) R (P - 4) (((15:Nat):Rat)*eps):=by
 obtain ⟨p1,p2,p0⟩:=Cf hh h0 h2
 obtain ⟨i1,i2,i3⟩:=qj p1 p0
 have i12:dy h<=13:=by
  have he:=dB
  have:((dy h:Int):Rat)<((14:Int):Rat):=by
   have e:((14:Int):Rat)=14:=rfl
   obtain ⟨_,p3⟩:=p2
   rw [e];unfold dy;clear i2 i3 av as hR;grind -abstractProof
  have:=Rat.intCast_lt_intCast.mp this;exact Iff.mpr Int.le_iff_lt_add_one this
 have i0:0<=dy h:=i3
 obtain ⟨o1,o2⟩:=iW (i:=dy h) (by lia -abstractProof)
 have i1':((dy h:Int):Rat)<=rv (Float64.mul h F6):=i1
 have i2':rv (Float64.mul h F6)<((dy h:Int):Rat)+1:=i2
 obtain ⟨F,eF⟩:∃ F,rv (Float64.mul h F6)=((dy h:Int):Rat)+F:=⟨rv (Float64.mul h F6) - ((dy h:Int):Rat),by clear av as;grind -abstractProof⟩
 have F0:0<=F:=by clear av as p2 i2' i1 i2;grind -abstractProof
 have F1':F<=1:=by clear av as p2 i1' i1 i2;grind -abstractProof
 have af:Ap (fF h) F 1 1:=by
  have eq:rv (Float64.mul h F6) - rv (Float64.ofInt (dy h))=F:=by rw [o2,eF];clear av as p2;grind -abstractProof
  obtain ⟨g1,g2⟩:=An p1 o1 (by rw [eq];clear av as p2 i1 i2 i1' i2' eF eq;grind -abstractProof) (by rw [eq];clear av as p2 i1 i2 i1' i2' eF eq;exact Std.lt_of_le_of_lt F1' rfl)
  rw [eq] at g2
  have e1:((1:Nat):Rat)=1:=rfl
  exact ⟨g1,by rw [e1,Rat.one_mul];exact g2,Rat.le_trans (by rfl) F0,F1'⟩
 have D:∀ {x y z:Nat},x<=y->y<=z->x<=z:=Nat.le_trans
 have hq:=(av.mul (ap1.sub (as.mul af (by decide) (by simp) (by simp) (by simp) (by simp)) (by decide) (by simp) (by decide)) (by decide) (by simp) (by decide) (by simp) (by decide)).eq (Do hR)
 have ag:=(ap1.sub af (by simp) (by simp) (by simp)).bd (c:=1) (by clear av as p2 i1 i2 i1' i2' eF hq;rw [show ((1:Nat):Rat)=1 from rfl];grind -abstractProof) (by clear av as p2 i1 i2 i1' i2' eF hq;rw [show ((1:Nat):Rat)=1 from rfl];grind -abstractProof)
 have ht:=(av.mul (ap1.sub (as.mul ag (by decide) (by simp) (by simp) (by simp) (by decide)) (by decide) (by simp) (by decide)) (by decide) (by simp) (by decide) (by simp) (by decide)).eq (Do hR)
 have hp:=(av.mul (ap1.sub as (by simp) (by simp) (by simp)) (by decide) (by simp) (by simp) (by simp) (by decide)).eq (DZ hR)
 have LV:=fun {X} (t:Tn X 1)=>Lit.of (R:=R) av EA (by simp) t
 have LP:=fun {X} (t:Tn X 0)=>Lit.of (R:=R) hp Em (by decide) t
 have LQ:=fun {X} (t:Tn X (1 - F))=>Lit.of hq Ep (by decide) t
 have LT:=fun {X} (t:Tn X F)=>Lit.of ht ED (by decide) t
 have T:∀ (d n c:Int),dy h=d+6*n+2*c->0<=d->d<6->Tn (rv (Float64.mul h F6) - 2*(c:Rat)) (cw d F):=fun d n c e d0 d1=>C5 eF e d0 d1 F0 F1'
 clear av as af hq ag ht hp i1 i2 i1' i2' o1 o2 eF F0 F1'
 refine ⟨p1.fin,Nat.lt_of_le_of_lt (show (dy h).natAbs<=13 by lia -abstractProof) (by simp),rv (Float64.mul h F6),?_⟩
 have hmod:(dy h).fmod 6=dy h % 6:=Int.fmod_eq_emod_of_nonneg _ (by simp)
 have hdm:=Int.mul_ediv_add_emod (dy h) 6
 have hlo:=Int.emod_nonneg (dy h) (b:=6) (by decide)
 have hhi:=Int.emod_lt_of_pos (dy h) (b:=6) (by simp)
 have c0:∀ x:Rat,x - 2*((0:Int):Rat)=x:=fun x=>by simp only [Rat.intCast_zero];grind -abstractProof
 have c1:∀ x:Rat,x - 2*((1:Int):Rat)=x - 2:=fun x=>by rw [show ((1:Int):Rat)=1 from rfl];simp
 have c2:∀ x:Rat,x - 2*((2:Int):Rat)=x - 4:=fun x=>by rw [show ((2:Int):Rat)=2 from rfl];grind -abstractProof
 unfold qE
 rw [hmod]
 generalize dy h % 6=d at *
 generalize dy h / 6=n at *
 have S:∀ (d' n' c:Int),n'=n - (d'+2*c - d) / 6->(d'+2*c - d) % 6=0->dy h=d'+6*n'+2*c:=fun d' n' c e1 e2=>by clear T i12 i0 hlo hhi;grind -abstractProof
 have T0:=fun d' n' e a b=>c0 _▸T d' n' 0 e a b
 have T1:=fun d' n' e a b=>c1 _▸T d' n' 1 e a b
 have T2:=fun d' n' e a b=>c2 _▸T d' n' 2 e a b
 have:d=0\/d=1\/d=2\/d=3\/d=4\/d=5:=by clear T T0 T1 T2 S hdm i12 i0;lia -abstractProof
 clear T hdm hlo hhi i12 i0 hmod
 rcases this with rfl | rfl | rfl | rfl | rfl | rfl
 ·exact ⟨_,_,_,p2,rfl,LV (T0 0 _ (S 0 _ 0 rfl rfl) (by simp) (by simp)),LT (T1 4 _ (S 4 _ 1 rfl rfl) (by simp) (by simp)),LP (T2 2 _ (S 2 _ 2 rfl rfl) (by simp) (by simp))⟩
 ·exact ⟨_,_,_,p2,rfl,LQ (T0 1 _ (S 1 _ 0 rfl rfl) (by simp) (by simp)),LV (T1 5 _ (S 5 _ 1 rfl rfl) (by simp) (by simp)),LP (T2 3 _ (S 3 _ 2 rfl rfl) (by simp) (by simp))⟩
 ·exact ⟨_,_,_,p2,rfl,LP (T0 2 _ (S 2 _ 0 rfl rfl) (by simp) (by simp)),LV (T1 0 _ (S 0 _ 1 rfl rfl) (by simp) (by simp)),LT (T2 4 _ (S 4 _ 2 rfl rfl) (by simp) (by simp))⟩
 ·exact ⟨_,_,_,p2,rfl,LP (T0 3 _ (S 3 _ 0 rfl rfl) (by simp) (by simp)),LQ (T1 1 _ (S 1 _ 1 rfl rfl) (by simp) (by simp)),LV (T2 5 _ (S 5 _ 2 rfl rfl) (by simp) (by simp))⟩
 ·exact ⟨_,_,_,p2,rfl,LT (T0 4 _ (S 4 _ 0 rfl rfl) (by simp) (by simp)),LP (T1 2 _ (S 2 _ 1 rfl rfl) (by simp) (by simp)),LV (T2 0 _ (S 0 _ 2 rfl rfl) (by simp) (by simp))⟩
 ·exact ⟨_,_,_,p2,rfl,LV (T0 5 _ (S 5 _ 0 rfl rfl) (by simp) (by simp)),LP (T1 3 _ (S 3 _ 1 rfl rfl) (by simp) (by simp)),LQ (T2 1 _ (S 1 _ 2 rfl rfl) (by simp) (by simp))⟩
end
section
open PySem PySem.Float64
set_option exponentiation.threshold 3000
theorem mj {x:UInt64} {m:Nat} {e:Int} {n:Int} {d:Nat} (hd:0<d) (h:decode x=.fin false m e) (hv:fv x*(d:Int)=n*(UN:Int)):Fn' x/\rv x*(d:Rat)=(n:Rat):=by
 refine ⟨qK h,?_⟩
 rw [ub hd hv]
 exact Rat.div_mul_cancel (by have:(0:Rat)<(d:Rat):=Rat.natCast_pos.mpr hd;exact Ne.symm (Rat.ne_of_lt this))
theorem f16:Fn' F16/\Nr (6*rv F16) 1 eps:=by
 obtain ⟨h,e⟩:=mj (x:=F16) (n:=6004799503160661) (d:=36028797018963968) (by simp) (by kernel_rfl:decode F16=.fin false 6004799503160661 (-55)) (by decide +kernel)
 have e1:((36028797018963968:Nat):Rat)=36028797018963968:=rfl
 have e2:((6004799503160661:Int):Rat)=6004799503160661:=rfl
 rw [e1,e2] at e
 have:=dB
 exact ⟨h,by unfold Nr;grind -abstractProof⟩
theorem f23:Fn' F23/\Nr (6*rv F23) 4 eps:=by
 obtain ⟨h,e⟩:=mj (x:=F23) (n:=6004799503160661) (d:=9007199254740992) (by simp) (by kernel_rfl:decode F23=.fin false 6004799503160661 (-53)) (by decide +kernel)
 have e1:((9007199254740992:Nat):Rat)=9007199254740992:=rfl
 have e2:((6004799503160661:Int):Rat)=6004799503160661:=rfl
 rw [e1,e2] at e
 have:=dB
 exact ⟨h,by unfold Nr;grind -abstractProof⟩
theorem f13:Fn' F13/\Nr (6*rv F13) 2 eps:=by
 obtain ⟨h,e⟩:=mj (x:=F13) (n:=6004799503160661) (d:=18014398509481984) (by simp) (by kernel_rfl:decode F13=.fin false 6004799503160661 (-54)) (by decide +kernel)
 have e1:((18014398509481984:Nat):Rat)=18014398509481984:=rfl
 have e2:((6004799503160661:Int):Rat)=6004799503160661:=rfl
 rw [e1,e2] at e
 have:=dB
 exact ⟨h,by unfold Nr;grind -abstractProof⟩
theorem fh:Fn' Fh/\2*rv Fh=1:=by
 obtain ⟨h,e⟩:=mj (x:=Fh) (n:=1) (d:=2) (by simp) (by kernel_rfl:decode Fh=.fin false (2 ^ 52) (-53)) (by decide +kernel)
 have e1:((2:Nat):Rat)=2:=rfl
 have e2:((1:Int):Rat)=1:=rfl
 rw [e1,e2] at e
 exact ⟨h,by grind -abstractProof⟩
theorem pS {x y:UInt64} (hx:Fn' x) (hy:Fn' y):lW x y=decide (rv x<rv y):=by
 rw [oY hx hy,decide_eq_decide]
 have hU:=iE
 have h1:=cD x
 have h2:=cD y
 rw [<-Rat.intCast_lt_intCast,h1,h2]
 exact ⟨fun h=>Rat.lt_of_mul_lt_mul_right h (Rat.le_of_lt hU),fun h=>Rat.mul_lt_mul_of_pos_right h hU⟩
theorem C2 {x y:UInt64} (hx:Fn' x) (hy:Fn' y):fle x y=decide (rv x<=rv y):=by
 have h:fle x y=decide (fv x<=fv y):=by
  unfold fle
  rw [sf hx hy]
  rcases Int.lt_trichotomy (fv x) (fv y) with h | h | h
  ·rw [Int.compare_eq_lt.mpr h,decide_eq_true (by exact Int.le_of_lt h)];rfl
  ·rw [h];simp
  ·rw [Int.compare_eq_gt.mpr h,decide_eq_false (by exact Iff.mpr Int.not_le h)];rfl
 have hU:=iE
 have h1:=cD x
 have h2:=cD y
 rw [h,decide_eq_decide,<-Rat.intCast_le_intCast,h1,h2]
 exact ⟨fun h=>Rat.le_of_mul_le_mul_right h hU,fun h=>Rat.mul_le_mul_of_nonneg_right h (Rat.le_of_lt hU)⟩
theorem ap6:Ap F6 6 0 6:=(Ap.exact f6.1 (by rw [f6.2];rfl) (by rw [f6.2];rfl)).eq f6.2
theorem Eg:∃ c:Rat,c*3=2/\Ap F23 c 1 1:=by
 have he:=dB
 obtain ⟨n1,n2⟩:=f23.2
 have e:(2 / 3:Rat)*3=2:=Rat.div_mul_cancel (by decide)
 generalize (2 / 3:Rat)=c at e
 have e1:((1:Nat):Rat)=1:=rfl
 exact ⟨c,e,f23.1,by rw [e1,Rat.one_mul];exact ⟨by clear n2;grind -abstractProof,by clear n1;grind -abstractProof⟩,by rw [e1];clear n1 n2;grind -abstractProof,by rw [e1];clear n1 n2;grind -abstractProof⟩
theorem DI {x:UInt64} {r:Rat} {b:Nat} (hx:Fn' x) (e:rv x=r) (lo:-(b:Rat)<=r) (hi:r<=(b:Rat)):Ap x r 0 b:=e▸Ap.exact hx (by rw [e];exact lo) (by rw [e];exact hi)
theorem Lit.end {z:UInt64} {mn R X Z u w:Rat} {n b:Nat} (A:Ap z (mn+R*u) n b) (k:n<=200) (r0:0<=R) (r1:R<=1) (hw:Tn X w) (h1:Nr u (tb Z) (8*eps)) (h2:Nr (tb Z) w (46*eps)):Lit z mn R X (1000*eps):=by
 have he:=gJ
 have h3:=qt r0 r1 (d:=54*eps) (by clear A h1 h2 k r0 r1;grind -abstractProof) ((h1.trans h2).mono (by clear A h1 h2 k r0 r1;grind -abstractProof))
 have h4:=(A.mono k).nr
 have e:((200:Nat):Rat)=200:=rfl
 rw [e] at h4
 refine ⟨A.fn,w,hw,?_⟩
 obtain ⟨a1,a2⟩:=h3
 obtain ⟨b1,b2⟩:=h4
 clear A h1 h2 k r0 r1
 exact ⟨by clear a2 b2;grind -abstractProof,by clear a1 b1;grind -abstractProof⟩
theorem DR {z e:Rat} (h0:0<=z) (he:0<=e) (h:6*z<=1+e):Nr (6*z) (tb (6*z - 2)) (8*e):=by delta Nr tb;grind -abstractProof
theorem CV {z e:Rat} (he:0<=e) (e1:8*e<=1) (h:1 - e<=6*z) (h2:6*z<=3):Nr 1 (tb (6*z - 2)) (8*e):=by delta Nr tb;grind -abstractProof
theorem zX {z e:Rat} (he:0<=e) (h:3<=6*z) (h2:6*z<=4+e):Nr (4 - 6*z) (tb (6*z - 2)) (8*e):=by delta Nr tb;grind -abstractProof
theorem DJ {z e:Rat} (he:0<=e) (e1:8*e<=1) (h:4 - e<=6*z):Nr 0 (tb (6*z - 2)) (8*e):=by delta Nr tb;grind -abstractProof
theorem ve1 {mn R z:Rat}:mn+R*z*6=mn+R*(6*z):=by grind -abstractProof
theorem ve2 {mn R:Rat}:mn+R=mn+R*1:=by simp
theorem ve3 {mn R z c:Rat} (h:c*3=2):mn+R*(c - z)*6=mn+R*(4 - 6*z):=by grind -abstractProof
theorem ve4 {mn R:Rat}:mn=mn+R*0:=by grind -abstractProof
theorem Eo {m1 m2 y:UInt64} {mn R X:Rat} (am:Ap m1 mn 13 1) (an:Ap m2 (mn+R) 8 1) (hy:Fn' y) (r0:0<=R) (r1:R<=1) (hX:Nr (6*rv y) (X+2) (40*eps)):Lit (vF m1 m2 y) mn R X (1000*eps):=by
 have he:=dB
 obtain ⟨q1,⟨n,q2⟩,q3,q4,_⟩:=uB hy
 have hlt:tw 0 / tw 53<=eps:=by rw [ii];decide +kernel
 have e1:((1:Nat):Rat)=1:=rfl
 obtain ⟨w,hw⟩:=Tn.ex X
 have hwn:Nr (tb (6*rv (dI y) - 2)) w (46*eps):=by
  have hZ:Tn (6*rv (dI y) - 2) (tb (6*rv (dI y) - 2)):=⟨0,6*rv (dI y) - 2,by rw [show ((0:Int):Rat)=0 from rfl];clear am an hX q2 q3 q4;exact ve4,by clear am an hX q2 q4;grind -abstractProof,by clear am an hX q2 q3;grind -abstractProof,rfl⟩
  refine Tn.near hZ (hw.shift (-n)) (by clear am an hX q2 q3 q4;grind -abstractProof) ?_
  simp only [Rat.intCast_neg]
  obtain ⟨x1,x2⟩:=hX
  obtain ⟨y1,y2⟩:=q2
  generalize tw 0 / tw 53=d0 at *
  clear am an hw hZ q3 q4
  exact ⟨by clear x2 y2;grind -abstractProof,by clear x1 y1;grind -abstractProof⟩
 clear q2 hX hlt
 have ad:=((an.sub am (by simp) (by simp) (by simp)).eq (show mn+R - mn=R by clear am an hw hwn;grind -abstractProof)).bd (c:=1) (by rw [e1];clear am an hw hwn;grind -abstractProof) (by rw [e1];exact r1)
 obtain ⟨g1,g2⟩:=f16.2
 have bh:=fh.2
 obtain ⟨k1,k2⟩:=f23.2
 unfold vF
 rw [pS q1 f16.1,pS q1 fh.1,pS q1 f23.1]
 have az:Ap (dI y) (rv (dI y)) 0 1:=Ap.exact q1 (by rw [e1];clear am an ad hw hwn;grind -abstractProof) (by rw [e1];exact q4)
 generalize dI y=z at *
 have e0:0<=eps:=Rat.le_of_lt gJ
 have e8:8*eps<=1:=by clear am an ad az hw hwn;grind -abstractProof
 by_cases c1:rv z<rv F16
 ·rw [decide_eq_true c1,cond_true]
  exact Lit.end ((am.add ((ad.mul az (by decide) (by simp) (by simp) (by simp) (by simp)).mul ap6 (by decide) (by decide) (by simp) (by decide) (by simp)) (by decide) (by simp) (by decide)).eq ve1) (by decide) r0 r1 hw (DR q3 e0 (by clear am an ad az hw hwn g1 k1 k2 bh;grind -abstractProof)) hwn
 ·rw [decide_eq_false c1,cond_false]
  by_cases c2:rv z<rv Fh
  ·rw [decide_eq_true c2,cond_true]
   exact Lit.end (an.eq ve2) (by simp) r0 r1 hw (CV e0 e8 (by clear am an ad az hw hwn g2 k1 k2 bh c2;grind -abstractProof) (by clear am an ad az hw hwn g1 g2 k1 k2 c1;grind -abstractProof)) hwn
  ·rw [decide_eq_false c2,cond_false]
   by_cases c3:rv z<rv F23
   ·rw [decide_eq_true c3,cond_true]
    obtain ⟨c,ec,ac⟩:=Eg
    have ay:=(ac.sub az (by simp) (by simp) (by simp)).bd (c:=1) (by rw [e1];clear am an ad az ac hw hwn g1 g2 k1 k2 c1 c2 c3;grind -abstractProof) (by rw [e1];clear am an ad az ac hw hwn g1 g2 k1 k2 c1 c2 c3;grind -abstractProof)
    exact Lit.end ((am.add ((ad.mul ay (by decide) (by simp) (by simp) (by simp) (by simp)).mul ap6 (by decide) (by decide) (by simp) (by decide) (by simp)) (by decide) (by simp) (by decide)).eq (ve3 ec)) (by decide) r0 r1 hw (zX e0 (by clear am an ad az ac ay hw hwn g1 g2 k1 k2 c1 c3;grind -abstractProof) (by clear am an ad az ac ay hw hwn g1 g2 k1 c1 c2;grind -abstractProof)) hwn
   ·rw [decide_eq_false c3,cond_false]
    exact Lit.end (am.eq ve4) (by simp) r0 r1 hw (DJ e0 e8 (by clear am an ad az hw hwn g1 g2 k2 c1 c2;grind -abstractProof)) hwn
theorem z0:Fn' 0/\rv 0=0:=⟨qK (by kernel_rfl:decode 0=.fin false 0 (-1074)),by unfold rv;simp only [show fv 0=0 from by decide +kernel,Rat.intCast_zero,Rat.div_def,Rat.zero_mul]⟩
theorem tA {s:UInt64} {q:Rat} (a:Ap s q 1 1) (h:1<=1048576*q):feq s 0=false:=by
 have he:=dB
 rw [yW a.fn z0.1]
 refine decide_eq_false fun hf=>?_
 have:rv s=0:=by unfold rv;rw [hf];exact z0.2
 obtain ⟨n1,n2⟩:=a.nr
 have e1:((1:Nat):Rat)=1:=rfl
 rw [e1] at n1
 clear a n2 hf;grind -abstractProof
theorem me1 {A B L q:Rat} (h1:L*2=A+B) (h2:q*(A+B)=A - B):L*(1+q)=A:=by grind -abstractProof
theorem me2 {A B L q:Rat} (h1:L*2=A+B) (h2:q*(2 - A - B)=A - B):L+q - L*q=A:=by grind -abstractProof
theorem me3 {A B L:Rat} (h1:L*2=A+B):2*L - A=B:=by grind -abstractProof
theorem D2 {mx mn rg:UInt64} {M m:Int} (hM:Gd mx M) (hm:Gd mn m) (m0:0<=m) (hne:m<M) (M1:M<=524288) {l s:UInt64} (hl:l=Float64.div (Float64.add mx mn) F2) (hrg:rg=Float64.sub mx mn)
 (hs:s=bif fle l Fh then Float64.div rg (Float64.add mx mn) else Float64.div rg (Float64.sub (Float64.sub F2 mx) mn)) {A B:Rat} (kA:A*524288=(M:Rat)) (kB:B*524288=(m:Rat)) :
 Float64.isZero (Float64.add mx mn)=false/\Float64.isZero (Float64.sub (Float64.sub F2 mx) mn)=false/\feq s 0=false/\Ap (m1F l s) B 13 1/\Ap (m2F l s) A 8 1:=by
 have hS:=hM.add hm (by omega)
 have h2:Gd F2 1048576:=⟨f2.1,by decide +kernel⟩
 have hT:=(h2.sub hM (by omega)).sub hm (by omega)
 have hR:Gd rg (M - m):=by rw [hrg];exact hM.sub hm (by omega)
 have wS:=hS.rv
 have wT:=hT.rv
 have wR:=hR.rv
 simp only [Rat.intCast_add,Rat.intCast_sub] at wS wT wR
 rw [show ((1048576:Int):Rat)=1048576 from rfl] at wT
 have q0:(0:Rat)<=(m:Rat):=Rat.intCast_nonneg.mpr m0
 have q1:(m:Rat)+1<=(M:Rat):=by
  have:=Rat.intCast_le_intCast.mpr (show m+1<=M by assumption)
  rw [Rat.intCast_add] at this;exact this
 have q2:(M:Rat)<=524288:=Rat.intCast_le_intCast.mpr M1
 refine ⟨by rw [hS.zero];exact decide_eq_false (by lia -abstractProof),by rw [hT.zero];exact decide_eq_false (by lia -abstractProof),?_⟩
 rw [<-kA,<-kB] at wS wT wR q1
 rw [<-kA] at q2
 rw [<-kB] at q0
 clear kA kB hrg
 replace wS:rv (Float64.add mx mn)=A+B:=by rw [wS];clear wT wR q0 q1 q2 hS hT hR h2 hM hm;grind -abstractProof
 replace wT:rv (Float64.sub (Float64.sub F2 mx) mn)=2 - A - B:=by rw [wT];clear wS wR q0 q1 q2 hS hT hR h2 hM hm;grind -abstractProof
 replace wR:rv rg=A - B:=by rw [wR];clear wS wT q0 q1 q2 hS hT hR h2 hM hm;grind -abstractProof
 clear h2 hM hm
 have lo:1<=524288*(A - B):=by clear wS wT wR q0 q2 hS hT hR;grind -abstractProof
 have a1:A<=1:=by clear wS wT wR q0 q1 hS hT hR lo;grind -abstractProof
 have b0:0<=B:=by clear wS wT wR q1 q2 hS hT hR lo;grind -abstractProof
 clear q0 q1 q2
 have e1:((1:Nat):Rat)=1:=rfl
 obtain ⟨L,hL⟩:∃ L:Rat,L*2=A+B:=⟨(A+B) / 2,Rat.div_mul_cancel (by decide)⟩
 have al:Ap l L 1 1:=by
  rw [hl]
  exact Ap.div hS.1 f2.1 (by rw [f2.2];decide) (by rw [f2.2,wS,hL]) (by rw [e1];clear hs hl wS wT wR hS hT hR;grind -abstractProof) (by rw [e1];clear hs hl wS wT wR hS hT hR;grind -abstractProof) (by simp)
 have bl:fle l Fh=decide (rv l<=rv Fh):=C2 al.fn fh.1
 have a2l:=ap2.mul al (by decide) (by simp) (by simp) (by simp) (by simp)
 have fine:∀ m2:UInt64,∀ b:Nat,Ap m2 A 8 b->b<=3->Ap (Float64.sub (Float64.mul F2 l) m2) B 13 1/\Ap m2 A 8 1:=fun m2 b g kb=>by
  have g':=g.bd (c:=1) (by rw [e1];clear hs hl wS wT wR hS hT hR al g a2l;grind -abstractProof) (by rw [e1];exact a1)
  exact ⟨((a2l.sub g' (by decide) (by decide) (by simp)).eq (me3 hL)).bd (by rw [e1];clear hs hl wS wT wR hS hT hR al g g' a2l;grind -abstractProof) (by rw [e1];clear hs hl wS wT wR hS hT hR al g g' a2l;grind -abstractProof),g'⟩
 have big:∀ q x:Rat,0<=q->x<=2->q*x=A - B->1<=1048576*q:=fun q x h0 h1 h2=>by
  have:=Rat.mul_le_mul_of_nonneg_left h1 h0
  clear hs hl wS wT wR hS hT hR al a2l;grind -abstractProof
 delta m1F m2F
 by_cases hc:rv l<=rv Fh
 ·rw [bl,decide_eq_true hc,cond_true] at hs
  rw [bl,decide_eq_true hc,cond_true]
  obtain ⟨b1,b2⟩:=Rat.div_bd (a:=A - B) (b:=A+B) (by clear hs hl wS wT wR hS hT hR al a2l;grind -abstractProof) (by clear hs hl wS wT wR hS hT hR al a2l;grind -abstractProof) (by clear hs hl wS wT wR hS hT hR al a2l;grind -abstractProof)
  have hq:(A - B) / (A+B)*(A+B)=A - B:=Rat.div_mul_cancel (by clear hs hl wS wT wR hS hT hR al a2l;grind -abstractProof)
  generalize (A - B) / (A+B)=q at *
  have as:Ap s q 1 1:=by
   rw [hs]
   exact Ap.div hR.1 hS.1 (by rw [wS];clear hs hl wS wT wR hS hT hR al a2l;grind -abstractProof) (by rw [wS,wR];exact hq) (Rat.le_trans (by rfl) b1) b2 (by simp)
  exact ⟨tA as (big q (A+B) b1 (by clear hs hl wS wT wR hS hT hR al a2l as hq;grind -abstractProof) hq),fine _ _ (((al.mul (ap1.add as (by simp) (by simp) (by simp)) (by decide) (by simp) (by simp) (by simp) (by decide)).eq (me1 hL hq)).mono (by decide)) (by decide)⟩
 ·rw [bl,decide_eq_false hc,cond_false] at hs
  rw [bl,decide_eq_false hc,cond_false]
  obtain ⟨b1,b2⟩:=Rat.div_bd (a:=A - B) (b:=2 - A - B) (by clear hs hl wS wT wR hS hT hR al a2l;grind -abstractProof) (by clear hs hl wS wT wR hS hT hR al a2l;grind -abstractProof) (by clear hs hl wS wT wR hS hT hR al a2l;grind -abstractProof)
  have hq:(A - B) / (2 - A - B)*(2 - A - B)=A - B:=Rat.div_mul_cancel (by clear hs hl wS wT wR hS hT hR al a2l;grind -abstractProof)
  generalize (A - B) / (2 - A - B)=q at *
  have as:Ap s q 1 1:=by
   rw [hs]
   exact Ap.div hR.1 hT.1 (by rw [wT];clear hs hl wS wT wR hS hT hR al a2l;grind -abstractProof) (by rw [wT,wR];exact hq) (Rat.le_trans (by decide +kernel) b1) b2 (by simp)
  exact ⟨tA as (big q (2 - A - B) b1 (by clear hs hl wS wT wR hS hT hR al a2l as hq;grind -abstractProof) hq),fine _ _ (((al.add as (by simp) (by simp) (by simp)).sub (al.mul as (by decide) (by simp) (by simp) (by simp) (by simp)) (by decide) (by simp) (by decide)).eq (me2 hL hq)) (by decide)⟩
end
section
open PySem PySem.Float64
set_option exponentiation.threshold 3000
theorem Lit.move {a:UInt64} {mn R X Y d e:Rat} (h:Lit a mn R X d) (r0:0<=R) (r1:R<=1) (e0:0<=e) (e1:e<=1) (hn:Nr X Y e):Lit a mn R Y (d+e):=by
 obtain ⟨h1,w,h2,h3⟩:=h
 obtain ⟨w',hw'⟩:=Tn.ex Y
 have:=qt r0 r1 e0 (Tn.near h2 hw' e1 hn)
 exact ⟨h1,w',hw',by unfold Nr at *;grind -abstractProof⟩
theorem Lit.part {a:UInt64} {mn R X d:Rat} {x m M:Int} (h:Lit a mn R X d) (hx:∃ w,Tn X w/\(x:Rat)=(m:Rat)+((M:Rat) - (m:Rat))*w) (e1:mn*524288=(m:Rat)) (e2:R*524288=(M:Rat) - (m:Rat)):Fn' a/\Nr (524288*rv a) (x:Rat) (524288*d):=by
 obtain ⟨h1,w,h2,h3⟩:=h
 obtain ⟨w',h4,h5⟩:=hx
 have:=h2.uniq h4
 subst this
 exact ⟨h1,by rw [h5,<-e2];unfold Nr at *;grind -abstractProof⟩
theorem Lit.mono {a:UInt64} {mn R X d e:Rat} (h:Lit a mn R X d) (k:d<=e):Lit a mn R X e:=⟨h.1,let ⟨w,h1,h2⟩:=h.2;⟨w,h1,h2.mono k⟩⟩
theorem y4 {M m:Int} (m0:0<=m) (hne:m<M) (M1:M<=524288):∃ A B:Rat,A*524288=(M:Rat)/\B*524288=(m:Rat)/\0<=B/\A<=1/\1<=524288*(A - B):=by
 have q0:(0:Rat)<=(m:Rat):=Rat.intCast_nonneg.mpr m0
 have q1:(m:Rat)+1<=(M:Rat):=by
  have:=Rat.intCast_le_intCast.mpr (show m+1<=M by assumption)
  rw [Rat.intCast_add] at this;exact this
 have q2:(M:Rat)<=524288:=Rat.intCast_le_intCast.mpr M1
 have kA:(M:Rat) / 524288*524288=(M:Rat):=Rat.div_mul_cancel (by decide)
 have kB:(m:Rat) / 524288*524288=(m:Rat):=Rat.div_mul_cancel (by decide)
 generalize (M:Rat) / 524288=A at *
 generalize (m:Rat) / 524288=B at *
 exact ⟨A,B,kA,kB,by clear q1 q2 kA;grind -abstractProof,by clear q0 q1 kB;grind -abstractProof,by clear q0 q2;grind -abstractProof⟩
theorem tY {x:UInt64} {i:Int} {A:Rat} (h:Gd x i) (k:A*524288=(i:Rat)):rv x=A:=by
 rw [h.rv,<-k];exact Rat.mul_div_cancel (by decide)
theorem ud {r g b:UInt64} {M m:Int} (hM:Gd (mxF r g b) M) (hm:Gd (mnF r g b) m) (m0:0<=m) (hne:m<M) (M1:M<=524288):Gd (rgF r g b) (M - m)/\feq (mnF r g b) (mxF r g b)=false/\Float64.isZero (mxF r g b)=false/\Float64.isZero (rgF r g b)=false:=by
 have hR:Gd (rgF r g b) (M - m):=hM.sub hm (by omega)
 exact ⟨hR,by rw [hm.feq hM];exact decide_eq_false (by exact Int.ne_of_lt hne),by rw [hM.zero];exact decide_eq_false (by lia -abstractProof),by rw [hR.zero];exact decide_eq_false (by lia -abstractProof)⟩
theorem mB {a b c:Rat}:(a - b)*c=a*c - b*c:=by grind -abstractProof
theorem By {X Y e:Rat} (c:Rat) (h:Nr X Y e):Nr (X - c) (Y - c) e:=by obtain ⟨h1,h2⟩:=h;exact ⟨by grind -abstractProof,by grind -abstractProof⟩
theorem xP {r g b h:UInt64} {M m:Int} {Y:Rat} (hM:Gd (mxF r g b) M) (hm:Gd (mnF r g b) m) (m0:0<=m) (hne:m<M) (M1:M<=524288) (hh:Fn' h) (h0:0<=rv h) (h2:rv h<=2) (hY:Nr (6*rv h) Y (40*eps)) :
 ∃ a0 a1 a2 mn R,mn*524288=(m:Rat)/\R*524288=(M:Rat) - (m:Rat)/\BA r g b h a0 a1 a2/\Lit a0 mn R Y (2000*eps)/\Lit a1 mn R (Y - 2) (2000*eps)/\Lit a2 mn R (Y - 4) (2000*eps):=by
 have he:=dB
 obtain ⟨hR,ne,zm,zr⟩:=ud hM hm m0 hne M1
 obtain ⟨A,B,kA,kB,b0,a1,lo⟩:=y4 m0 hne M1
 have vM:=tY hM kA
 have vR:rv (rgF r g b)=A - B:=tY hR (by rw [Rat.intCast_sub,<-kA,<-kB];exact mB)
 have e1:((1:Nat):Rat)=1:=rfl
 have A0:0<A:=by clear vM vR hM hm hR kA kB hY;grind -abstractProof
 have av:Ap (mxF r g b) A 0 1:=DI hM.1 vM (Rat.le_trans (by decide +kernel) (Rat.le_of_lt A0)) a1
 obtain ⟨q0,q1⟩:=Rat.div_bd (a:=A - B) A0 (by clear vM vR hM hm hR kA kB hY av;grind -abstractProof) (by clear vM vR hM hm hR kA kB hY av;grind -abstractProof)
 have hq:(A - B) / A*A=A - B:=Rat.div_mul_cancel (by clear vM vR hM hm hR kA kB hY av;grind -abstractProof)
 generalize (A - B) / A=q at *
 have as:Ap (Float64.div (rgF r g b) (mxF r g b)) q 1 1:=Ap.div hR.1 hM.1 (by rw [vM];clear vM vR hM hm hR kA kB hY av;grind -abstractProof) (by rw [vM,vR];exact hq) (Rat.le_trans (by decide +kernel) q0) q1 (by decide)
 obtain ⟨f1,f2,P,x0,x1,x2,g1,g2,g3,g4,g5⟩:=C7 av as (R:=A - B) (by rw [Rat.mul_comm];exact hq) hh h0 h2
 have hPY:=(g1.trans hY).mono (show 2*eps+40*eps<=50*eps by clear g1 hY g3 g4 g5 av as;grind -abstractProof)
 have r0:0<=A - B:=by clear vM vR hM hm hR kA kB hY av as g1 g3 g4 g5 hPY;grind -abstractProof
 have r1:A - B<=1:=by clear vM vR hM hm hR kA kB hY av as g1 g3 g4 g5 hPY;grind -abstractProof
 have eB:A - (A - B)=B:=by clear vM vR hM hm hR kA kB hY av as g1 g3 g4 g5 hPY hq;grind -abstractProof
 rw [eB] at g3 g4 g5
 have e15:((15:Nat):Rat)=15:=rfl
 have k1:0<=50*eps:=by clear vM vR hM hm hR kA kB hY av as g1 g3 g4 g5 hPY hq;grind -abstractProof
 have k2:50*eps<=1:=by clear vM vR hM hm hR kA kB hY av as g1 g3 g4 g5 hPY hq;grind -abstractProof
 have k3:((15:Nat):Rat)*eps+50*eps<=2000*eps:=by rw [e15];clear vM vR hM hm hR kA kB hY av as g1 g3 g4 g5 hPY hq;grind -abstractProof
 refine ⟨x0,x1,x2,B,A - B,kB,by rw [<-kA,<-kB];exact mB,⟨ne,zm,zr,tA as ?_,f1,f2,g2⟩,(g3.move r0 r1 k1 k2 hPY).mono k3,(g4.move r0 r1 k1 k2 (By 2 hPY)).mono k3,(g5.move r0 r1 k1 k2 (By 4 hPY)).mono k3⟩
 have:=Rat.mul_le_mul_of_nonneg_left a1 q0
 clear vM vR hM hm hR kA kB hY av as g1 g3 g4 g5 hPY
 grind -abstractProof
theorem CM {h:UInt64} {Y:Rat} (hh:Fn' h) (h0:-1<=rv h) (h2:rv h<=1) (hY:Nr (6*rv h) Y (30*eps)):Fn' (Float64.add h F13)/\Nr (6*rv (Float64.add h F13)) (Y+2) (40*eps)/\Fn' (Float64.sub h F13)/\Nr (6*rv (Float64.sub h F13)) (Y - 2) (40*eps):=by
 have he:=dB
 obtain ⟨g,b1,b2⟩:=f13
 obtain ⟨y1,y2⟩:=hY
 obtain ⟨u1,u2,u3⟩:=AQ hh g (by clear y1 y2;grind -abstractProof) (by clear y1 y2;grind -abstractProof)
 obtain ⟨w1,w2,w3⟩:=An hh g (by clear y1 y2 u2 u3;grind -abstractProof) (by clear y1 y2 u2 u3;grind -abstractProof)
 exact ⟨u1,⟨by clear u3 w2 w3 y2 b2;grind -abstractProof,by clear u2 w2 w3 y1 b1;grind -abstractProof⟩,w1,⟨by clear u2 u3 w3 y2 b1;grind -abstractProof,by clear u2 u3 w2 y1 b2;grind -abstractProof⟩⟩
theorem xy {r g b h:UInt64} {M m:Int} {Y:Rat} (hM:Gd (mxF r g b) M) (hm:Gd (mnF r g b) m) (m0:0<=m) (hne:m<M) (M1:M<=524288) (hh:Fn' h) (h0:-1<=rv h) (h2:rv h<=1) (hY:Nr (6*rv h) Y (30*eps)) :
 ∃ a0 a1 a2 mn R,mn*524288=(m:Rat)/\R*524288=(M:Rat) - (m:Rat)/\BI r g b h a0 a1 a2/\Lit a0 mn R Y (2000*eps)/\Lit a1 mn R (Y - 2) (2000*eps)/\Lit a2 mn R (Y - 4) (2000*eps):=by
 have he:=gJ
 obtain ⟨hR,ne,_,zr⟩:=ud hM hm m0 hne M1
 obtain ⟨A,B,kA,kB,b0,a1,lo⟩:=y4 m0 hne M1
 obtain ⟨c1,c2,c3,am,an⟩:=D2 hM hm m0 hne M1 (l:=iu r g b) (s:=jw r g b) (rg:=rgF r g b) rfl rfl rfl kA kB
 obtain ⟨u1,u2,w1,w2⟩:=CM hh h0 h2 hY
 have eA:B+(A - B)=A:=by clear hY kA kB am an u2 w2;grind -abstractProof
 rw [<-eA] at an
 have r0:0<=A - B:=by clear hY kA kB am an u2 w2;grind -abstractProof
 have r1:A - B<=1:=by clear hY kA kB am an u2 w2;grind -abstractProof
 have k:1000*eps<=2000*eps:=by clear hY kA kB am an u2 w2;grind -abstractProof
 have k4:30*eps<=40*eps:=by clear hY kA kB am an u2 w2;grind -abstractProof
 have V:=fun {y X} (g1:Fn' y) (g2:Nr (6*rv y) (X+2) (40*eps))=>(Eo am an g1 r0 r1 g2).mono k
 have y1:Y=Y - 2+2:=by clear hY kA kB am an u2 w2 V;exact Eq.symm Rat.sub_add_cancel
 have y2:Y - 2=Y - 4+2:=by clear hY kA kB am an u2 w2 V;grind -abstractProof
 exact ⟨_,_,_,B,A - B,kB,by rw [<-kA,<-kB];exact mB,⟨ne,fun _=>c1,fun _=>c2,zr,c3,rfl⟩,V u1 u2,V hh (by rw [<-y1];exact hY.mono k4),V w1 (by rw [<-y2];exact w2)⟩
theorem Ba:tw 21=2097152:=by rfl
theorem Bu:tw 21 / tw 53=262144*eps:=by rw [ii];decide +kernel
theorem AW {a:UInt64} {p s n:Nat} (ha:Fn' a) (hs:s*n=524288) (hp:p<=n) (h:Nr (524288*rv a) (((p*s:Nat):Int):Rat) (524288*(2000*eps))):Float64.isFinite (gv ((2*n:Nat):Int) a)=true/\jq ((2*n:Nat):Int) a=(p:Int):=by
 have he:=dB
 have hn1:n<=524288:=by
  rcases Nat.eq_zero_or_pos s with rfl | h
  ·rw [Nat.zero_mul] at hs;exact absurd hs (by decide)
  ·rw [<-hs];exact Nat.le_mul_of_pos_left n h
 have hn0:0<n:=by
  rcases Nat.eq_zero_or_pos n with rfl | h
  ·rw [Nat.mul_zero] at hs;exact absurd hs (by decide)
  ·exact h
 obtain ⟨o1,o2⟩:=iW (i:=((2*n:Nat):Int)) (by simp only [Int.natAbs_natCast];exact Nat.lt_of_le_of_lt (show 2*n<=1048576 by lia -abstractProof) (by simp))
 obtain ⟨i1,i2⟩:=iW (i:=1) (by simp)
 have hsn:(s:Rat)*(n:Rat)=524288:=by
  have:=congrArg (fun z:Nat=>(z:Rat)) hs
  simp only [Rat.natCast_mul] at this
  exact this
 have n0:(0:Rat)<(n:Rat):=Rat.natCast_pos.mpr hn0
 have s0:(0:Rat)<(s:Rat):=by
  have:0<s:=by
   rcases Nat.eq_zero_or_pos s with rfl | h
   ·rw [Nat.zero_mul] at hs;exact absurd hs (by decide)
   ·exact h
  exact Rat.natCast_pos.mpr this
 have n1:(n:Rat)<=524288:=Rat.natCast_le_natCast.mpr hn1
 have p0:(0:Rat)<=(p:Rat):=Rat.natCast_nonneg
 have p1:(p:Rat)<=(n:Rat):=Rat.natCast_le_natCast.mpr hp
 rw [Rat.intCast_natCast,Rat.natCast_mul] at h
 have hq:Nr (rv a*(n:Rat)) (p:Rat) (524288*(2000*eps)):=by
  have e:524288*rv a=(rv a*(n:Rat))*(s:Rat):=by rw [<-hsn];grind -abstractProof
  rw [e] at h
  have s1:(1:Rat)<=(s:Rat):=by
   have:1<=s:=by
    rcases Nat.eq_zero_or_pos s with rfl | h
    ·rw [Nat.zero_mul] at hs;exact absurd hs (by decide)
    ·exact h
   exact Rat.natCast_le_natCast.mpr this
  have d1:=Rat.mul_le_mul_of_nonneg_left s1 (show 0<=524288*(2000*eps) by grind -abstractProof)
  generalize rv a*(n:Rat)=y at *
  constructor
  ·refine Rat.le_of_mul_le_mul_right (c:=(s:Rat)) ?_ s0
   have:=h.1;grind -abstractProof
  ·refine Rat.le_of_mul_le_mul_right (c:=(s:Rat)) ?_ s0
   have:=h.2;grind -abstractProof
 have e2:rv a*rv (Float64.ofInt ((2*n:Nat):Int))=2*(rv a*(n:Rat)):=by
  rw [o2,Rat.intCast_natCast,Rat.natCast_mul]
  have:((2:Nat):Rat)=2:=rfl
  rw [this];grind -abstractProof
 generalize rv a*(n:Rat)=y at *
 obtain ⟨m1,m2⟩:=sH ha o1 21 (by simp) (by rw [Ba,e2];unfold Nr at *;grind -abstractProof) (by rw [Ba,e2];unfold Nr at *;grind -abstractProof)
 rw [e2,Bu] at m2
 have i3:((1:Int):Rat)=1:=rfl
 obtain ⟨a1,a2⟩:=sq m1 i1 21 (by simp) (by rw [Ba,i2,i3];unfold Nr at *;grind -abstractProof) (by rw [Ba,i2,i3];unfold Nr at *;grind -abstractProof)
 rw [i2,i3,Bu] at a2
 have a1':Fn' (gv ((2*n:Nat):Int) a):=a1
 refine ⟨a1'.fin,?_⟩
 have hv:2*(p:Rat)<rv (gv ((2*n:Nat):Int) a)/\rv (gv ((2*n:Nat):Int) a)<2*(p:Rat)+2:=by unfold gv;unfold Nr at *;grind -abstractProof
 obtain ⟨k1,k2,k3⟩:=qj a1' (by grind -abstractProof)
 unfold jq
 generalize lA (gv ((2*n:Nat):Int) a)=z at *
 have c1:((2*(p:Int) - 1:Int):Rat)<(z:Rat):=by
  simp only [Rat.intCast_sub,Rat.intCast_mul,Rat.intCast_natCast]
  have e:((2:Int):Rat)=2:=rfl
  rw [e,i3];grind -abstractProof
 have c2:(z:Rat)<((2*(p:Int)+2:Int):Rat):=by
  simp only [Rat.intCast_add,Rat.intCast_mul,Rat.intCast_natCast]
  have e:((2:Int):Rat)=2:=rfl
  rw [e];grind -abstractProof
 have d1:=Rat.intCast_lt_intCast.mp c1
 have d2:=Rat.intCast_lt_intCast.mp c2
 rw [Int.fdiv_eq_ediv_of_nonneg _ (by simp)]
 lia -abstractProof
end
section
open PySem PySem.Float64
set_option exponentiation.threshold 3000
theorem lh {i j k M m t:Rat} (W:Wheel i j k M m t) (hne:m<M) (hi:i=M) (hj:50*(j - m)<=49*(M - m)) (hk:50*(k - m)<=49*(M - m)):∃ n:Int,-49<=50*(t - 6*(n:Rat))/\50*(t - 6*(n:Rat))<=49:=by
 obtain ⟨⟨u,h1,e1⟩,⟨v,h2,e2⟩,⟨w,h3,e3⟩⟩:=W
 have hR:0<M - m:=by grind -abstractProof
 have u1:u=1:=by
  have:(M - m)*(u - 1)=0:=by grind -abstractProof
  rcases Rat.mul_eq_zero.mp this with h | h<;>grind -abstractProof
 have v1:50*v<=49:=Rat.le_of_mul_le_mul_left (c:=M - m) (by grind -abstractProof) hR
 have w1:50*w<=49:=Rat.le_of_mul_le_mul_left (c:=M - m) (by grind -abstractProof) hR
 obtain ⟨n,Y,rfl,y1,y2,y3⟩:=h1
 have hY:-1<=Y/\Y<=1:=by rw [u1] at y3;unfold tb at y3;grind -abstractProof
 refine ⟨n,?_⟩
 have e:Y+6*(n:Rat) - 6*(n:Rat)=Y:=by grind -abstractProof
 rw [e]
 by_cases hp:0<=Y
 ·have:Tn (Y - 2) Y:=⟨0,Y - 2,by grind -abstractProof,by grind -abstractProof,by grind -abstractProof,by unfold tb;grind -abstractProof⟩
  have h4:=this.shift n
  have e4:Y - 2+6*(n:Rat)=Y+6*(n:Rat) - 2:=by grind -abstractProof
  rw [e4] at h4
  have:=h4.uniq h2
  grind -abstractProof
 ·have:Tn (Y - 4) (-Y):=⟨-1,Y+2,by grind -abstractProof,by grind -abstractProof,by grind -abstractProof,by unfold tb;grind -abstractProof⟩
  have h4:=this.shift n
  have e4:Y - 4+6*(n:Rat)=Y+6*(n:Rat) - 4:=by grind -abstractProof
  rw [e4] at h4
  have:=h4.uniq h3
  grind -abstractProof
structure Good (a b c T:Nat) (lo mid top:Nat):Prop where
 lm:lo<=mid
 mt:mid<top
 tl:top<262144
 nr:50*mid<=49*top+lo
 au:a<=top
 bu:b<=top
 cu:c<=top
 al:lo<=a
 bl:lo<=b
 cl:lo<=c
 hit:a=lo\/b=lo\/c=lo
 T3:T<3
 t0:T=0->a=top/\b<=mid/\c<=mid
 t1:T=1->b=top/\c<=mid/\a<=mid
 t2:T=2->c=top/\a<=mid/\b<=mid
theorem Good.turn {a b c T lo mid top:Nat} (h:Good a b c T lo mid top):Good c a b ((T+1) % 3) lo mid top:=by
 obtain ⟨h0,h1,h2,h3,h4,h5,h6,h7,h8,h9,h10,h11,h12,h13,h14⟩:=h
 have m:T=0\/T=1\/T=2:=by clear h10 h12 h13 h14;lia -abstractProof
 refine ⟨h0,h1,h2,h3,h6,h4,h5,h9,h7,h8,?_,Nat.mod_lt _ (by decide),fun q=>?_,fun q=>?_,fun q=>?_⟩
 ·rcases h10 with h | h | h
  ·exact .inr (.inl h)
  ·exact .inr (.inr h)
  ·exact .inl h
 ·rcases m with rfl | rfl | rfl
  ·cases q
  ·cases q
  ·exact h14 rfl
 ·rcases m with rfl | rfl | rfl
  ·exact h12 rfl
  ·cases q
  ·cases q
 ·rcases m with rfl | rfl | rfl
  ·cases q
  ·exact h13 rfl
  ·cases q
theorem Good.top {a b c T lo mid top:Nat} (h:Good a b c T lo mid top):top=a\/top=b\/top=c:=by
 have m:T=0\/T=1\/T=2:=by have:=h.T3;clear h;lia -abstractProof
 rcases m with q | q | q
 ·exact .inl (h.t0 q).1.symm
 ·exact .inr (.inl (h.t1 q).1.symm)
 ·exact .inr (.inr (h.t2 q).1.symm)
theorem yw {i j k M m t:Rat} {T:Nat} (W:Wheel i j k M m t) (hne:m<M) (t0:0<=t) (t6:t<6) (hT:T<3)
 (h0:T=0->i=M/\50*(j - m)<=49*(M - m)/\50*(k - m)<=49*(M - m)) (h1:T=1->j=M/\50*(k - m)<=49*(M - m)/\50*(i - m)<=49*(M - m)) (h2:T=2->k=M/\50*(i - m)<=49*(M - m)/\50*(j - m)<=49*(M - m)) :
 ∃ n:Int,0<=n/\n<=1/\-49<=50*(t - 2*(((T:Int)+3*n:Int):Rat))/\50*(t - 2*(((T:Int)+3*n:Int):Rat))<=49:=by
 have key:∃ n:Int,-49<=50*(t - 2*(((T:Int)+3*n:Int):Rat))/\50*(t - 2*(((T:Int)+3*n:Int):Rat))<=49:=by
  have:T=0\/T=1\/T=2:=by lia -abstractProof
  rcases this with rfl | rfl | rfl
  ·obtain ⟨a,b,c⟩:=h0 rfl
   obtain ⟨n,x,y⟩:=lh W hne a b c
   have e:t - 2*((((0:Nat):Int)+3*n:Int):Rat)=t - 6*(n:Rat):=by rw [Rat.intCast_add,Rat.intCast_mul];grind -abstractProof
   exact ⟨n,by rw [e];exact x,by rw [e];exact y⟩
  ·obtain ⟨a,b,c⟩:=h1 rfl
   obtain ⟨n,x,y⟩:=lh W.turn.turn hne a b c
   have e:t - 2*((((1:Nat):Int)+3*(n - 1):Int):Rat)=t+2+2 - 6*(n:Rat):=by rw [Rat.intCast_add,Rat.intCast_mul,Rat.intCast_sub];grind -abstractProof
   exact ⟨n - 1,by rw [e];exact x,by rw [e];exact y⟩
  ·obtain ⟨a,b,c⟩:=h2 rfl
   obtain ⟨n,x,y⟩:=lh W.turn hne a b c
   have e:t - 2*((((2:Nat):Int)+3*(n - 1):Int):Rat)=t+2 - 6*(n:Rat):=by rw [Rat.intCast_add,Rat.intCast_mul,Rat.intCast_sub];grind -abstractProof
   exact ⟨n - 1,by rw [e];exact x,by rw [e];exact y⟩
 obtain ⟨n,x,y⟩:=key
 have hb:-1<((T:Int)+3*n:Int)/\((T:Int)+3*n:Int)<4:=by
  constructor
  ·refine Rat.intCast_lt_intCast.mp ?_
   have e:((-1:Int):Rat)=-1:=rfl
   rw [e];grind -abstractProof
  ·refine Rat.intCast_lt_intCast.mp ?_
   have e:((4:Int):Rat)=4:=rfl
   rw [e];grind -abstractProof
 exact ⟨n,by lia -abstractProof,by lia -abstractProof,x,y⟩
theorem yK {hue:UInt64} {t:Rat} {T:Nat} (H:jr hue t) (hT:T<3) {n:Int} (n0:0<=n) (n1:n<=1) (x:-49<=50*(t - 2*(((T:Int)+3*n:Int):Rat))) (y:50*(t - 2*(((T:Int)+3*n:Int):Rat))<=49) :
 Float64.isFinite (i4 hue)=true/\((lA (i4 hue)).fdiv 2).fmod 3=(T:Int):=by
 have he:=dB
 obtain ⟨o1,o2⟩:=iW (i:=6) (by decide)
 obtain ⟨i1,i2⟩:=iW (i:=1) (by decide)
 have e6:((6:Int):Rat)=6:=rfl
 have e1:((1:Int):Rat)=1:=rfl
 obtain ⟨hf,h0,h1,h2,h3,h4⟩:=H
 obtain ⟨m1,m2⟩:=Dd hf o1 (by rw [o2,e6];grind -abstractProof) (by rw [o2,e6];grind -abstractProof)
 rw [o2,e6] at m2
 obtain ⟨a1,a2⟩:=AQ m1 i1 (by rw [i2,e1];unfold Nr at *;grind -abstractProof) (by rw [i2,e1];unfold Nr at *;grind -abstractProof)
 rw [i2,e1] at a2
 have a1':Fn' (i4 hue):=a1
 have hv:Nr (rv (i4 hue)) (t+1) (20*eps):=by unfold i4;unfold Nr at *;grind -abstractProof
 obtain ⟨k1,k2,k3⟩:=qj a1' (by unfold Nr at *;grind -abstractProof)
 refine ⟨a1'.fin,?_⟩
 generalize lA (i4 hue)=z at *
 have c1:((2*((T:Int)+3*n) - 1:Int):Rat)<(z:Rat):=by
  rw [Rat.intCast_sub,Rat.intCast_mul]
  have e:((2:Int):Rat)=2:=rfl
  rw [e,e1];unfold Nr at *;grind -abstractProof
 have c2:(z:Rat)<((2*((T:Int)+3*n)+2:Int):Rat):=by
  rw [Rat.intCast_add,Rat.intCast_mul]
  have e:((2:Int):Rat)=2:=rfl
  rw [e];unfold Nr at *;grind -abstractProof
 have d1:=Rat.intCast_lt_intCast.mp c1
 have d2:=Rat.intCast_lt_intCast.mp c2
 rw [Int.fdiv_eq_ediv_of_nonneg _ (by decide),Int.fmod_eq_emod_of_nonneg _ (by decide)]
 omega
theorem Bc {hue:UInt64} {t:Rat} (H:jr hue t):(Float64.cmpInt hue 0==some .gt||Float64.cmpInt hue 0==some .eq)=true/\(Float64.cmpInt hue 1==some .lt)=true:=by
 obtain ⟨⟨a,m,e,hd⟩,h0,h1,_,_,_⟩:=H
 rw [cmpInt_right hd,cmpInt_right hd]
 have n0:=xG h0
 have n1:fv hue<(UN:Int):=by
  rw [<-Rat.intCast_lt_intCast,cD,Rat.intCast_natCast]
  have:=Rat.mul_lt_mul_of_pos_right h1 iE
  rw [Rat.one_mul] at this;exact this
 have e0:Float64.val hue=fv hue:=rfl
 rw [e0]
 constructor
 ·rw [Int.zero_mul]
  rcases Int.lt_or_eq_of_le n0 with h | h
  ·rw [Int.compare_eq_gt.mpr h];rfl
  ·rw [<-h];rfl
 ·rw [Int.one_mul]
  have e2:((2:Int) ^ 1074)=(UN:Int):=by decide +kernel
  rw [e2,Int.compare_eq_lt.mpr n1];rfl
theorem Dj:Fn' (ft 1 3)/\Nr (6*rv (ft 1 3)) 2 eps:=by
 have e:ft 1 3=F13:=by decide +kernel
 rw [e];exact f13
theorem Dv:Fn' (ft 2 3)/\Nr (6*rv (ft 2 3)) 4 eps:=by
 have e:ft 2 3=F23:=by decide +kernel
 rw [e];exact f23
theorem Cp {hue:UInt64} {t:Rat} (H:jr hue t):Fn' (Float64.add hue (ft 1 3))/\0<=rv (Float64.add hue (ft 1 3))/\rv (Float64.add hue (ft 1 3))<=2/\Nr (6*rv (Float64.add hue (ft 1 3))) (t+2) (40*eps):=by
 have he:=dB
 obtain ⟨f,lo,up,_,_,nr⟩:=H
 obtain ⟨g,a1,a2⟩:=Dj
 obtain ⟨n1,n2⟩:=nr
 obtain ⟨o1,o2,o3⟩:=AQ f g (by grind -abstractProof) (by grind -abstractProof)
 exact ⟨o1,by grind -abstractProof,by grind -abstractProof,by grind -abstractProof,by grind -abstractProof⟩
theorem Cv {hue:UInt64} {t:Rat} (H:jr hue t):Fn' (Float64.sub hue (ft 2 3))/\-1<=rv (Float64.sub hue (ft 2 3))/\rv (Float64.sub hue (ft 2 3))<=1/\Nr (6*rv (Float64.sub hue (ft 2 3))) (t+2+6*((-1:Int):Rat)) (30*eps):=by
 have he:=dB
 obtain ⟨f,lo,up,_,_,nr⟩:=H
 obtain ⟨g,a1,a2⟩:=Dv
 obtain ⟨n1,n2⟩:=nr
 obtain ⟨o1,o2,o3⟩:=An f g (by grind -abstractProof) (by grind -abstractProof)
 have e:((-1:Int):Rat)=-1:=rfl
 rw [e]
 exact ⟨o1,by grind -abstractProof,by grind -abstractProof,by grind -abstractProof,by grind -abstractProof⟩
theorem gi {x m M:Int} (hx:50*(x - m)<=49*(M - m)):50*((x:Rat) - (m:Rat))<=49*((M:Rat) - (m:Rat)):=by
 have:=Rat.intCast_le_intCast.mpr hx
 rw [Rat.intCast_mul,Rat.intCast_mul,Rat.intCast_sub,Rat.intCast_sub] at this
 exact this
theorem ou {x lo mid top:Nat} {m M:Int} (h:50*mid<=49*top+lo) (hx:x<=mid) (hM:M=2*(top:Int)) (hm:m=2*(lo:Int)):50*(((x*2:Nat):Int) - m)<=49*(M - m):=by lia -abstractProof
theorem ni {x top:Nat} {M:Int} (h:x=top) (hM:M=2*(top:Int)):(((x*2:Nat):Int):Rat)=(M:Rat):=Rat.intCast_inj.mpr (by lia -abstractProof)
theorem oP {a0:UInt64} {mn R X:Rat} {m M:Int} {p:Nat} (hp:p<262144) (hl:Lit a0 mn R X (2000*eps)) (hw:∃ w,Tn X w/\(((p*2:Nat):Int):Rat)=(m:Rat)+((M:Rat) - (m:Rat))*w) (e1:mn*524288=(m:Rat)) (e2:R*524288=(M:Rat) - (m:Rat)) :
 Float64.isFinite (gv 524288 a0)=true/\jq 524288 a0=(p:Int):=by
 obtain ⟨k1,k2⟩:=hl.part hw e1 e2
 exact AW (s:=2) (n:=262144) k1 (by decide) (Nat.le_of_lt hp) k2
theorem dbl (a:Nat):((a*2:Nat):Int)=2*(a:Int):=by rw [Int.natCast_mul,Int.mul_comm];rfl
theorem sB {a b:Nat} (h:a<=b):((a*2:Nat):Int)<=2*(b:Int):=by rw [<-dbl];exact Int.ofNat_le.mpr (Nat.mul_le_mul_right 2 h)
theorem sL {a b:Nat} (h:a<=b):2*(a:Int)<=((b*2:Nat):Int):=by rw [<-dbl];exact Int.ofNat_le.mpr (Nat.mul_le_mul_right 2 h)
theorem BX {a b c top lo:Nat} {M m:Int} (X:Mm ((a*2:Nat):Int) ((b*2:Nat):Int) ((c*2:Nat):Int) M m) (au:a<=top) (bu:b<=top) (cu:c<=top) (al:lo<=a) (bl:lo<=b) (cl:lo<=c) (ht:top=a\/top=b\/top=c) (hh:a=lo\/b=lo\/c=lo):M=2*(top:Int)/\m=2*(lo:Int):=by
 constructor
 ·refine Int.le_antisymm ?_ ?_
  ·rcases X.M with q | q | q
   ·rw [q];exact sB au
   ·rw [q];exact sB bu
   ·rw [q];exact sB cu
  ·rw [<-dbl]
   rcases ht with q | q | q
   ·rw [q];exact X.iM
   ·rw [q];exact X.jM
   ·rw [q];exact X.kM
 ·refine Int.le_antisymm ?_ ?_
  ·rw [<-dbl]
   rcases hh with q | q | q
   ·rw [<-q];exact X.im
   ·rw [<-q];exact X.jm
   ·rw [<-q];exact X.km
  ·rcases X.m with q | q | q
   ·rw [q];exact sL al
   ·rw [q];exact sL bl
   ·rw [q];exact sL cl
theorem zp {deep a b c T lo mid top:Nat} (h:Good a b c T lo mid top):∃ t,jr (oH (q18 a) (q18 b) (q18 c)) t/\(∃ n:Int,0<=n/\n<=1/\-49<=50*(t - 2*(((T:Int)+3*n:Int):Rat))/\50*(t - 2*(((T:Int)+3*n:Int):Rat))<=49)/\BY deep a b c (oH (q18 a) (q18 b) (q18 c)) c a b:=by
 have la:a<262144:=Nat.lt_of_le_of_lt h.au h.tl
 have lb:b<262144:=Nat.lt_of_le_of_lt h.bu h.tl
 have lc:c<262144:=Nat.lt_of_le_of_lt h.cu h.tl
 have gd:∀ x:Nat,x<262144->Gd (q18 x) ((x*2:Nat):Int):=fun x hx=>AA (n:=262144) (by decide) (Nat.le_of_lt hx)
 have ga:=gd a la
 have gb:=gd b lb
 have gc:=gd c lc
 obtain ⟨M,m,X,hM,hm⟩:=ga.mm gb gc
 obtain ⟨hM',hm'⟩:=BX X h.au h.bu h.cu h.al h.bl h.cl h.top h.hit
 have hlt:lo<top:=Nat.lt_of_le_of_lt h.lm h.mt
 have hne:m<M:=by rw [hM',hm'];clear X hM hm;lia -abstractProof
 have m0:0<=m:=by rw [hm'];clear X hM hm;lia -abstractProof
 have M1:M<=524288:=by rw [hM'];have:=h.tl;clear X hM hm;lia -abstractProof
 obtain ⟨t,H,W⟩:=Cm ga gb gc (fun q=>congrArg q18 (show c=b by clear X hM hm;lia -abstractProof).symm) X hM hm m0 M1 hne
 refine ⟨t,H,yw W (Rat.intCast_lt_intCast.mpr hne) H.t0 H.t6 h.T3 (fun q=>⟨ni (h.t0 q).1 hM',gi (ou h.nr (h.t0 q).2.1 hM' hm'),gi (ou h.nr (h.t0 q).2.2 hM' hm')⟩)
  (fun q=>⟨ni (h.t1 q).1 hM',gi (ou h.nr (h.t1 q).2.1 hM' hm'),gi (ou h.nr (h.t1 q).2.2 hM' hm')⟩) (fun q=>⟨ni (h.t2 q).1 hM',gi (ou h.nr (h.t2 q).2.1 hM' hm'),gi (ou h.nr (h.t2 q).2.2 hM' hm')⟩),la,lb,lc,rfl,?_⟩
 by_cases hd:deep=0
 ·obtain ⟨o1,o2,o3,hY⟩:=Cp H
  obtain ⟨a0,a1,a2,mn,R,e1,e2,tn,l0,l1,l2⟩:=xP hM hm m0 hne M1 o1 o2 o3 hY
  obtain ⟨f0,i0⟩:=oP lc l0 W.turn.i e1 e2
  obtain ⟨f1,i1⟩:=oP la l1 W.turn.j e1 e2
  obtain ⟨f2,i2⟩:=oP lb l2 W.turn.k e1 e2
  exact ⟨a0,a1,a2,fun _=>tn,fun q=>absurd hd q,f0,f1,f2,i0,i1,i2⟩
 ·obtain ⟨o1,o2,o3,hY⟩:=Cv H
  obtain ⟨a0,a1,a2,mn,R,e1,e2,tn,l0,l1,l2⟩:=xy hM hm m0 hne M1 o1 o2 o3 hY
  obtain ⟨f0,i0⟩:=oP lc l0 (W.turn.shift (-1)).i e1 e2
  obtain ⟨f1,i1⟩:=oP la l1 (W.turn.shift (-1)).j e1 e2
  obtain ⟨f2,i2⟩:=oP lb l2 (W.turn.shift (-1)).k e1 e2
  exact ⟨a0,a1,a2,fun q=>absurd q hd,fun _=>tn,f0,f1,f2,i0,i1,i2⟩
noncomputable def Bz (a b c hi T:Nat):Rec:=⟨a,b,c,hi,oH (q18 a) (q18 b) (q18 c),c,a,b,T⟩
theorem Co {deep a b c T hi lo mid top:Nat} (h:Good a b c T lo mid top) (hhi:hi=0\/hi=128):(Bz a b c hi T).Ok deep:=by
 obtain ⟨t,H,⟨n,n0,n1,x,y⟩,L⟩:=zp (deep:=deep) h
 obtain ⟨f,th⟩:=yK H h.T3 n0 n1 x y
 obtain ⟨lo,up⟩:=Bc H
 constructor
 ·exact L
 ·exact hhi
 ·exact f
 ·exact th
 ·exact lo
 ·exact up
 ·exact L.hc
 ·exact L.ha
 ·exact L.hb
theorem w6 {lo mid top t s:Nat} (h1:lo<=mid) (h2:mid<top) (h3:top<262144) (h4:50*mid<=49*top+lo) (ht:t<3) (hs:s<2) :
 Good (if 0=t then top else if 0=(t+1+s) % 3 then mid else lo) (if 1=t then top else if 1=(t+1+s) % 3 then mid else lo) (if 2=t then top else if 2=(t+1+s) % 3 then mid else lo) t lo mid top:=by
 have l:=Nat.le_of_lt h2
 have r:=Nat.le_refl
 have lt:=Nat.le_trans h1 l
 match t,ht,s,hs with
 | 0,_,0,_=>exact ⟨h1,h2,h3,h4,r _,l,lt,lt,h1,r _,.inr (.inr rfl),by decide,fun _=>⟨rfl,r _,h1⟩,fun q=>(nomatch q),fun q=>(nomatch q)⟩
 | 0,_,1,_=>exact ⟨h1,h2,h3,h4,r _,lt,l,lt,r _,h1,.inr (.inl rfl),by decide,fun _=>⟨rfl,h1,r _⟩,fun q=>(nomatch q),fun q=>(nomatch q)⟩
 | 1,_,0,_=>exact ⟨h1,h2,h3,h4,lt,r _,l,r _,lt,h1,.inl rfl,by decide,fun q=>(nomatch q),fun _=>⟨rfl,r _,h1⟩,fun q=>(nomatch q)⟩
 | 1,_,1,_=>exact ⟨h1,h2,h3,h4,l,r _,lt,h1,lt,r _,.inr (.inr rfl),by decide,fun q=>(nomatch q),fun _=>⟨rfl,h1,r _⟩,fun q=>(nomatch q)⟩
 | 2,_,0,_=>exact ⟨h1,h2,h3,h4,l,lt,r _,h1,r _,lt,.inr (.inl rfl),by decide,fun q=>(nomatch q),fun q=>(nomatch q),fun _=>⟨rfl,r _,h1⟩⟩
 | 2,_,1,_=>exact ⟨h1,h2,h3,h4,lt,l,r _,r _,h1,lt,.inl rfl,by decide,fun q=>(nomatch q),fun q=>(nomatch q),fun _=>⟨rfl,h1,r _⟩⟩
noncomputable def loN (h:Nat):Nat:=h / 6 % 40*3840+h % 64
noncomputable def yC (h:Nat):Nat:=loN h+h / 240 % 50*64
noncomputable def vj (h:Nat):Nat:=yC h+64+h / 12000*1280
theorem B9 {h:Nat} (hh:h<1000000):vj h<262144:=by
 have h1:h / 6 % 40<=39:=Nat.le_of_lt_succ (Nat.mod_lt _ (by decide))
 have h2:h % 64<=63:=Nat.le_of_lt_succ (Nat.mod_lt _ (by decide))
 have h3:h / 240 % 50<=49:=Nat.le_of_lt_succ (Nat.mod_lt _ (by decide))
 have h4:h / 12000<=83:=Nat.le_of_lt_succ (Nat.div_lt_of_lt_mul (Nat.lt_of_lt_of_le hh (by decide)))
 exact Nat.lt_of_le_of_lt (Nat.add_le_add (Nat.add_le_add_right (Nat.add_le_add (Nat.add_le_add (Nat.mul_le_mul_right 3840 h1) h2) (Nat.mul_le_mul_right 64 h3)) 64) (Nat.mul_le_mul_right 1280 h4)) (by decide)
theorem xZ (h:Nat):50*yC h<=49*vj h+loN h:=by
 have h3:h / 240 % 50<=49:=Nat.le_of_lt_succ (Nat.mod_lt _ (by decide))
 unfold vj yC
 generalize h / 240 % 50=x at *
 generalize h / 12000=y at *
 generalize loN h=z at *
 lia -abstractProof
theorem zU (h:Nat):yC h<vj h:=by unfold vj;lia -abstractProof
theorem rV {h:Nat} (hh:h<1000000):Good (ke h 0) (ke h 1) (ke h 2) (h % 3) (loN h) (yC h) (vj h) :=
 w6 (Nat.le_add_right _ _) (zU h) (B9 hh) (xZ h) (Nat.mod_lt _ (by decide)) (Nat.mod_lt _ (by decide))
end
section
noncomputable def nS (a b c:Nat):Nat->Nat × Nat × Nat
 | 0=>(a,b,c)
 | g+1=>((nS a b c g).2.2,(nS a b c g).1,(nS a b c g).2.1)
theorem qT {a b c T lo mid top:Nat} (h:Good a b c T lo mid top):∀ g,Good (nS a b c g).1 (nS a b c g).2.1 (nS a b c g).2.2 ((T+g) % 3) lo mid top
 | 0=>by have:=h.T3;rw [Nat.add_zero,Nat.mod_eq_of_lt this];exact h
 | g+1=>by
   have:=(qT h g).turn
   rw [show ((T+g) % 3+1) % 3=(T+(g+1)) % 3 from by exact Nat.mod_add_mod (T+g) 3 1] at this
   exact this
theorem AY (a b c:Nat):∀ (g:Nat),([0,1,2]:List Int).map (fun k:Int=>[a,b,c].getD ((k - (g:Int)).fmod 3).toNat 0)=[(nS a b c g).1,(nS a b c g).2.1,(nS a b c g).2.2]:=by
 intro g
 induction g with
 | zero =>
   exact rfl
 | succ g ih =>
   have h:=ih
   simp only [List.map_cons,List.map_nil,List.cons.injEq,and_true] at h ⊢
   have e:∀ i j:Int,i=j+1\/i+2=j->(i - ((g+1:Nat):Int)).fmod 3=(j - (g:Int)).fmod 3:=fun i j q=>by
    rw [Int.fmod_eq_emod_of_nonneg _ (by decide),Int.fmod_eq_emod_of_nonneg _ (by decide)]
    rcases q with q | q
    ·rw [show i - ((g+1:Nat):Int)=j - g by lia -abstractProof]
    ·rw [show j - (g:Int)=i - ((g+1:Nat):Int)+3 by lia -abstractProof,Int.add_emod_right]
   rw [e 0 2 (.inr rfl),e 1 0 (.inl rfl),e 2 1 (.inl rfl)]
   exact ⟨h.2.2,h.1,h.2.1⟩
theorem xD {a b c T lo mid top:Nat} (h:Good a b c T lo mid top):xb [a,b,c]=T:=by
 have ne:∀ {x},x<=mid->x≠top:=fun hx q=>Nat.lt_irrefl _ (Nat.lt_of_le_of_lt (q▸hx) h.mt)
 have hm:jY [a,b,c]=top:=by
  show max a (max b (max c 0))=top
  rw [Nat.max_zero]
  rcases h.top with q | q | q
  ·rw [<-q,Nat.max_eq_left (Nat.max_le.mpr ⟨h.bu,h.cu⟩)]
  ·rw [<-q,Nat.max_eq_left h.cu,Nat.max_eq_right h.au]
  ·rw [<-q,Nat.max_eq_right h.bu,Nat.max_eq_right h.au]
 unfold xb
 rw [hm]
 have m:T=0\/T=1\/T=2:=by have:=h.T3;clear h hm ne;lia -abstractProof
 rcases m with q | q | q
 ·rw [q,List.idxOf_cons,(h.t0 q).1,beq_self_eq_true];rfl
 ·obtain ⟨q1,q2,q3⟩:=h.t1 q
  rw [q,List.idxOf_cons,List.idxOf_cons,q1,beq_self_eq_true,beq_eq_false_iff_ne.mpr (ne q3)];rfl
 ·obtain ⟨q1,q2,q3⟩:=h.t2 q
  simp only [q,List.idxOf_cons,List.idxOf_cons,List.idxOf_cons,q1,beq_self_eq_true,beq_eq_false_iff_ne.mpr (ne q2),beq_eq_false_iff_ne.mpr (ne q3)];rfl
section
variable (m s:Nat) (hs:Nat->Nat)
noncomputable abbrev mH:List (List Nat):=R5.map fun x=>o8 (hs x)
noncomputable def jx:Nat->Nat->Int:=cU (iS (mH hs)) (psI m)
noncomputable def gN (n x:Nat):Nat:=(cV (jx m hs) n x).toNat
noncomputable def hiN:Nat->Nat->Nat
 | 0,x=>dw s x / 2*128
 | n+1,x=>if up1 (jx m hs) (iB m) n x=true then 128*((n+s / 12288 % 2) % 2) else hiN n x
noncomputable def ptN (n x:Nat):Nat × Nat × Nat:=nS (ke (hs x) 0) (ke (hs x) 1) (ke (hs x) 2) (gN m hs n x)
noncomputable def rcN (n x:Nat):Rec:=Bz (ptN m hs n x).1 (ptN m hs n x).2.1 (ptN m hs n x).2.2 (hiN m s hs n x) ((hs x % 3+gN m hs n x) % 3)
variable {m s hs}
theorem De (n x:Nat):hiN m s hs n x=0\/hiN m s hs n x=128:=by
 induction n with
 | zero=>show dw s x / 2*128=0\/dw s x / 2*128=128;unfold dw;generalize s / 4 ^ x=z;lia -abstractProof
 | succ n ih =>
   by_cases h:up1 (jx m hs) (iB m) n x=true
   ·have:hiN m s hs (n+1) x=128*((n+s / 12288 % 2) % 2):=if_pos h
    lia -abstractProof
   ·have:hiN m s hs (n+1) x=hiN m s hs n x:=if_neg h
    rw [this];exact ih
theorem Dp (hh:∀ x,x<5->hs x<1000000) (n deep:Nat) {x:Nat} (hx:x<5):(rcN m s hs n x).Ok deep:=Co (qT (rV (hh x hx)) _) (De n x)
theorem sP (hh:∀ x,x<5->hs x<1000000) {x:Nat} (hx:x<5):(iS (mH hs)).getD x 0=hs x % 3:=by
 have e:iS (mH hs)=R5.map fun x=>xb (o8 (hs x)):=by unfold iS;rw [List.map_map];rfl
 have t:=xD (rV (hh x hx))
 rw [e,<-t]
 clear t e
 revert x
 show ∀ x,x<5->_
 exact at5 rfl rfl rfl rfl rfl
theorem oW (hh:∀ x,x<5->hs x<1000000):Net (jx m hs) (iB m):=Ei fun x hx=>by rw [sP hh hx];exact Nat.mod_lt _ (by simp)
theorem A1 (hh:∀ x,x<5->hs x<1000000) {x y:Nat} (hx:x<5) (hy:y<5) (h:iB m x y=true):∃ q:Int,jx m hs x y=((hs y % 3:Nat):Int) - ((hs x % 3:Nat):Int)+3*q:=by
 have h':=h
 unfold iB at h'
 delta jx cU
 by_cases e:x=y
 ·subst e;rw [if_pos rfl];exact ⟨0,by simp⟩
 ·rw [if_neg e,if_pos h',sP hh hx,sP hh hy]
  have:=(oR _ (Nat.mod_lt (hs x) (by simp:0<3)) _ (Nat.mod_lt (hs y) (by simp:0<3))).2.2.2
  generalize ((((hs y % 3:Nat):Int) - ((hs x % 3:Nat):Int)+1).fmod 3 - 1)=z at *
  rw [Int.fmod_eq_emod_of_nonneg _ (by simp)] at this
  exact ⟨(z - (((hs y % 3:Nat):Int) - ((hs x % 3:Nat):Int))) / 3,by grind -abstractProof⟩
theorem ik (hh:∀ x,x<5->hs x<1000000) {n:Nat} (hn:n<=4) {x:Nat} (hx:x<5):((gN m hs n x:Nat):Int)=cV (jx m hs) n x:=by
 have:=(mr (oW (m:=m) hh) n hn).lo x hx
 unfold gN;exact Int.toNat_of_nonneg this
theorem Eu (n:Nat) {j:Nat} (hj:j<5):((R5.map (rcN m s hs n)).map Rec.t).getD j 0=(hs j % 3+gN m hs n j) % 3:=by
 revert j
 show ∀ j,j<5->_
 exact at5 rfl rfl rfl rfl rfl
theorem DD {x:Nat} (hx:x<5) {j:Nat} (h:j∈(dK (fE m) 5).getD x []):j<5:=by
 have hl:=i7 (fE m) 5
 have:(dK (fE m) 5).getD x []∈dK (fE m) 5:=by
  rw [List.getD_eq_getElem?_getD,List.getElem?_eq_getElem (by exact Nat.lt_of_lt_of_eq hx (id (Eq.symm hl)))];exact List.getElem_mem _
 have ha:∀ nb∈dK (fE m) 5,nb.length<100/\∀ i∈nb,i<5:=by rw [nE];exact xY _ (Nat.mod_lt _ (by simp))
 exact (ha _ this).2 j h
theorem yA (hh:∀ x,x<5->hs x<1000000) {n:Nat} (hn:n<=4) {x:Nat} (hx:x<5):iY (R5.map (rcN m s hs n)) ((dK (fE m) 5).getD x []) (rcN m s hs n x)=up1 (jx m hs) (iB m) n x:=by
 have I:=mr (oW (m:=m) hh) n hn
 have step:∀ j,j<5->iB m x j=true->((((R5.map (rcN m s hs n)).map Rec.t).getD j 0==((rcN m s hs n x).t+1) % 3)=true↔jx m hs x j+cV (jx m hs) n j - cV (jx m hs) n x=1):=fun j hj ht=>by
  obtain ⟨q,hq⟩:=A1 hh hx hj ht
  have near:=I.near x j hx hj ht
  rw [Eu n hj,beq_iff_eq,show (rcN m s hs n x).t=(hs x % 3+gN m hs n x) % 3 from rfl]
  rw [<-ik hh hn hx,<-ik hh hn hj] at near ⊢
  rw [hq] at near ⊢
  rw [Nat.mod_add_mod (hs x % 3+gN m hs n x) 3 1]
  clear I hh hn hx hj ht hq
  generalize hs j % 3=b at *
  generalize hs x % 3=a at *
  generalize gN m hs n x=e at *
  generalize gN m hs n j=f at *
  lia -abstractProof
 rw [Bool.eq_iff_iff,up1_iff]
 unfold iY
 rw [List.any_eq_true]
 constructor
 ·rintro ⟨j,hj,h⟩
  have hj5:=DD hx hj
  have ht:=(yD m x j hx hj5).mp hj
  exact ⟨j,hj5,ht,(step j hj5 ht).mp h⟩
 ·rintro ⟨j,hj5,ht,h⟩
  exact ⟨j,(yD m x j hx hj5).mpr ht,(step j hj5 ht).mpr h⟩
theorem zL (hh:∀ x,x<5->hs x<1000000) {n:Nat} (hn:n<=3) {x:Nat} (hx:x<5):hG ((n+s / 12288 % 2) % 2) (R5.map (rcN m s hs n)) (dK (fE m) 5) x (rcN m s hs n x)=(rcN m s hs (n+1) x).word:=by
 have st:=oF (oW (m:=m) hh) (show n<=4 by exact Nat.le_succ_of_le hn) (mr (oW hh) n (Nat.le_trans (by assumption) (by decide))) hx
 unfold hG
 rw [yA hh (Nat.le_trans (by assumption) (by decide)) hx]
 by_cases h:up1 (jx m hs) (iB m) n x=true
 ·rw [if_pos h,<-ik hh (by exact Nat.succ_le_succ hn) hx,<-ik hh (Nat.le_trans (by assumption) (by decide)) hx] at st
  have eg:gN m hs (n+1) x=gN m hs n x+1:=by exact Eq.symm ((fun {m n} ↦ Iff.mp Int.ofNat_inj) (id (Eq.symm st)))
  have eh:hiN m s hs (n+1) x=128*((n+s / 12288 % 2) % 2):=if_pos h
  rw [h,cond_true]
  delta rcN ptN
  rw [eg,eh]
  rfl
 ·rw [if_neg h,<-ik hh (by lia -abstractProof) hx,<-ik hh (by lia -abstractProof) hx] at st
  have eg:gN m hs (n+1) x=gN m hs n x:=by exact Iff.mp Int.ofNat_inj st
  have eh:hiN m s hs (n+1) x=hiN m s hs n x:=if_neg h
  rw [Bool.not_eq_true] at h
  rw [h,cond_false]
  delta rcN ptN
  rw [eg,eh]
theorem kG (hh:∀ x,x<5->hs x<1000000) {n:Nat} (hn:n<=3):du ((n+s / 12288 % 2) % 2) (dK (fE m) 5) (R5.map (rcN m s hs n)) 5=(R5.map (rcN m s hs (n+1))).map Rec.word:=by
 have h:=fun x hx=>zL (m:=m) (s:=s) hh hn (x:=x) hx
 unfold du
 show [hG _ _ _ 0 (rcN m s hs n 0),hG _ _ _ 1 (rcN m s hs n 1),hG _ _ _ 2 (rcN m s hs n 2),hG _ _ _ 3 (rcN m s hs n 3),hG _ _ _ 4 (rcN m s hs n 4)]=_
 simp only [h 0 (by decide),h 1 (by decide),h 2 (by decide),h 3 (by decide),h 4 (by decide)]
 rfl
theorem kx (hh:∀ x,x<5->hs x<1000000) {n:Nat} (hn:n<=4):(R5.map (rcN m s hs n)).map Rec.rowN=iI (mH hs) (R5.map (cV (jx m hs) n)):=by
 unfold iI
 rw [List.map_map]
 refine List.map_congr_left fun x hx=>?_
 have hx5:=gY hx
 show [(ptN m hs n x).1,(ptN m hs n x).2.1,(ptN m hs n x).2.2]=_
 unfold ptN
 rw [<-AY]
 unfold nh
 have e1:(mH hs).getD x []=[ke (hs x) 0,ke (hs x) 1,ke (hs x) 2]:=by
  clear hx
  revert x
  show ∀ x,x<5->_
  exact at5 rfl rfl rfl rfl rfl
 have e2:(R5.map (cV (jx m hs) n)).getD x 0=((gN m hs n x:Nat):Int):=by
  rw [ik hh hn hx5]
  clear e1 hx
  revert x
  show ∀ x,x<5->_
  exact at5 rfl rfl rfl rfl rfl
 rw [e1,e2]
theorem sT (hh:∀ x,x<5->hs x<1000000):uH m s (mH hs):=by
 have ok:∀ n deep,∀ r∈R5.map (rcN m s hs n),r.Ok deep:=fun n deep r hr=>by
  obtain ⟨x,hx,rfl⟩:=List.mem_map.mp hr
  exact Dp hh n deep (gY hx)
 have e0:s / 12288 % 2 % 2=(0+s / 12288 % 2) % 2:=by rw [Nat.zero_add]
 refine ⟨R5.map (rcN m s hs 0),R5.map (rcN m s hs 1),R5.map (rcN m s hs 2),R5.map (rcN m s hs 3),R5.map (rcN m s hs 4),⟨rfl,rfl,rfl,rfl,rfl,ok 0 _,ok 1 _,ok 2 _,ok 3 _,fun r hr=>?_,?_,kG hh (by simp),kG hh (by simp),kG hh (by simp)⟩,?_,?_⟩
 ·have o:=ok 4 0 r hr
  exact ⟨o.look.ha,o.look.hb,o.look.hc,o.hi⟩
 ·rw [e0];exact kG hh (by simp)
 ·have g0:∀ x,gN m hs 0 x=0:=fun x=>rfl
  show [_,_,_,_,_]=[_,_,_,_,_]
  rfl
 ·have:dc m (mH hs)=[0,1,2,3,4].map fun n=>R5.map (cV (jx m hs) n):=sV _
  rw [this,kx hh (by simp),kx hh (by simp),kx hh (by simp),kx hh (by simp),kx hh (by simp)]
  rfl
end
end
section
theorem za (l:List Int) (k:Nat):ai l k<1000000:=by
 unfold ai
 have:=Int.fmod_nonneg_of_pos (baseL.getD k 0+(bX (bX l none (some 60) none) (some (k:Int)) none (some 7)).sum) (show (0:Int)<1000000 by simp)
 have:=Int.fmod_lt_of_pos (baseL.getD k 0+(bX (bX l none (some 60) none) (some (k:Int)) none (some 7)).sum) (show (0:Int)<1000000 by simp)
 exact (Int.toNat_lt (by assumption)).mpr (by assumption)
theorem BW (l:List Int):iX (ai l 5) (ai l 6) (aQ l) :=
 vN (at5 (List.cons_ne_nil _ _) (List.cons_ne_nil _ _) (List.cons_ne_nil _ _) (List.cons_ne_nil _ _) (List.cons_ne_nil _ _)) (sT (hs:=ai l) fun x _=>za l x)
theorem B1 {l:List Int} (hl:l.length<=63):(bX l none (some 60) none).length<=1000:=by
 unfold bX
 refine Nat.le_trans (List.length_filterMap_le _ _) ?_
 show (PySem.sliceRange 0 (max 0 (min 60 (l.length:Int))) 1).length<=1000
 have:max 0 (min 60 (l.length:Int))=((min 60 l.length:Nat):Int):=by lia -abstractProof
 rw [this]
 have h60:min 60 l.length<=60:=Nat.min_le_left _ _
 generalize min 60 l.length=n at *
 unfold PySem.sliceRange
 rw [List.length_map,List.length_range,if_pos (by exact Int.one_pos)]
 split<;>lia -abstractProof
end
section
open PySem PySem.W PyProof.Rows
theorem qJ {α:Type}:∀ {ps:List Str} {vals:List α} {x:Str},ps.length=vals.length->x∈ps->((ps.zip vals).lookup x).isSome=true
 | [],_,_,_,h=>nomatch h
 | p::ps,[],_,h,_=>nomatch h
 | p::ps,v::vals,x,h,hx=>by
   simp only [List.zip_cons_cons,List.lookup_cons]
   cases e:x==p with
   | true=>rfl
   | false =>
     rcases List.mem_cons.mp hx with rfl | hx
     ·simp at e
     ·exact qJ (by simpa using h) hx
theorem rj {α:Type}:∀ {ps:List Str} {vals:List α} {l:List (Str × α)},ps.Nodup->ps.length=vals.length->(∀ x∈ps,l.lookup x=(ps.zip vals).lookup x)->ps.filterMap (fun n=>(l.lookup n).map (n,·))=ps.zip vals
 | [],_,_,_,_,_=>rfl
 | p::ps,[],_,_,h,_=>nomatch h
 | p::ps,v::vals,l,hn,h,hl=>by
   obtain ⟨n1,n2⟩:=List.nodup_cons.mp hn
   rw [List.filterMap_cons,hl p (.head _),List.zip_cons_cons,List.lookup_cons,beq_self_eq_true]
   simp only [Option.map_some]
   rw [rj n2 (by simpa using h) fun x hx=>?_]
   rw [hl x (.tail _ hx),List.zip_cons_cons,List.lookup_cons,beq_eq_false_iff_ne.mpr (fun q=>n1 (by rw [<-q];exact hx))]
noncomputable def rA (p:Arguments) (ps:List Str):Bool:=p.posonlyargs.isEmpty&&p.kwonlyargs.isEmpty&&p.vararg.isNone&&p.kwarg.isNone&&decide (p.args.map (·.arg)=ps)
theorem rL {α:Type} {c:Prop} [Decidable c] {x y r:α} (h:¬ c) (e:y=r):(if c then x else y)=r:=(if_neg h).trans e
theorem yo {β γ δ:Type} {z:List γ} {s:β} {f:γ->β->Sem (ForInStep β)} {g:β->Sem δ} {r:Sem δ} (h:z=[]) (e:g s=r):(forIn z s f >>= g)=r:=by subst h;exact e
theorem tV {fd:FuncData} {ps:List Str} (h:rA fd.params ps=true) (hn:ps.Nodup) (hd:fd.defaults=.none) {vals:List Value} (hl:vals.length=ps.length):bindArgs fd ⟨vals,[]⟩=pure (ps.zip vals):=by
 obtain ⟨n,qn,⟨po,ar,va,ko,kd,kw,df⟩,bd,sc,gl,cl,d,kwd,doc,pm,an,co,ct,bl⟩:=fd
 unfold rA at h
 simp only [Bool.and_eq_true,List.isEmpty_iff,Option.isNone_iff_eq_none,decide_eq_true_eq] at h hd
 obtain ⟨⟨⟨⟨rfl,rfl⟩,rfl⟩,rfl⟩,hp⟩:=h
 subst hd
 subst hp
 refine rL (fun q=>Nat.lt_irrefl _ (Nat.lt_of_lt_of_eq (of_decide_eq_true (Bool.and_eq_true_iff.mp q).1) hl)) (rL (fun q=>Bool.noConfusion ((congrArg (fun l=>!(List.isEmpty l)) (List.filter_eq_nil_iff.mpr fun x hx=>?_)).symm.trans q)) ?_)
 ·have s:=qJ hl.symm (List.mem_of_mem_take hx)
  exact fun q=>Bool.false_ne_true ((congrArg Option.isSome (Option.isNone_iff_eq_none.mp q)).symm.trans s)
 ·have hz:∀ (l:List Str) (i j:Nat),(l.drop i).zip (([]:List Value).drop j)=[]:=fun l i j=>by rw [List.drop_nil,List.zip_nil_right]
  refine yo (hz _ _ _) ?_
  exact congrArg (fun l=>(pure l:Sem (List (Str × Value)))) ((congrArg (List.filterMap fun n=>(((ar.map fun x=>x.arg).zip vals).lookup n).map (n,·)) (List.append_nil (ar.map fun x=>x.arg))).trans (rj hn hl.symm fun x _=>rfl))
noncomputable def Dr (sc:Scope) (ps:List Str):Bool:=decide (sc.kind=.function)&&!sc.isCoroutine&&!sc.isGenerator&&decide (sc.names.map (·.1)).Nodup&&ps.all (fun x=>iG (kindIn sc x))&&decide ps.Nodup&&sc.names.all fun p=>decide (p.2≠.free)
noncomputable def lZ:Data->Option (Array Value)
 | .fields vs=>some vs
 | _=>none
noncomputable def ue:Data->Option FuncData
 | .func fd=>some fd
 | _=>none
noncomputable def AD:Value->Option Str
 | .str q _=>some q
 | _=>none
noncomputable def wW:Value->Option Addr
 | .ref c=>some c
 | _=>none
noncomputable def uV:Value->Bool
 | .none=>true
 | _=>false
noncomputable def sy:FuncBody->Option (List Stmt)
 | .stmts b=>some b
 | _=>none
theorem sR {d:Data} {vs:Array Value} (h:lZ d=some vs):d=.fields vs:=by unfold lZ at h;split at h<;>cases h;rfl
theorem qu {d:Data} {fd:FuncData} (h:ue d=some fd):d=.func fd:=by unfold ue at h;split at h<;>cases h;rfl
theorem uE {v:Value} {q:Str} (h:AD v=some q):∃ t,v=.str q t:=by unfold AD at h;split at h<;>cases h;exact ⟨_,rfl⟩
theorem pk {v:Value} {c:Addr} (h:wW v=some c):v=.ref c:=by unfold wW at h;split at h<;>cases h;rfl
theorem yz {v:Value} (h:uV v=true):v=.none:=by
 unfold uV at h
 split at h
 ·rfl
 ·cases h
theorem wt {d:FuncBody} {b:List Stmt} (h:sy d=some b):d=.stmts b:=by unfold sy at h;split at h<;>cases h;rfl
noncomputable def mX (h:Heap) (c:Addr):Option Str:=(h.get? c).bind fun o=>(lZ o.data).bind fun vs=>(vs[1]?:Option Value).bind AD
theorem vc {h:Heap} {c:Addr} {q:Str} (e:mX h c=some q):h.CodeRec (.ref c) q:=by
 obtain ⟨o,ho,e⟩:=Option.bind_eq_some_iff.mp e
 obtain ⟨vs,hd,e⟩:=Option.bind_eq_some_iff.mp e
 obtain ⟨v,hv,e⟩:=Option.bind_eq_some_iff.mp e
 obtain ⟨t,rfl⟩:=uE e
 exact ⟨c,o,vs,t,rfl,ho,sR hd,hv⟩
noncomputable def mJ (h:Heap) (tab a:Addr) (ps:List Str):Option (List Stmt × Scope):=(h.get? a).bind fun o=>(ue o.data).bind fun fd=>(sy fd.body).bind fun b=>(wW fd.code).bind fun c =>
 bif (uV fd.defaults&&(a != tab&&(c != tab&&(fd.closure.isEmpty&&(fd.globals==mainGlobals&&(fd.builtins==builtinsNs&&(rA fd.params ps&&(decide (mX h c=some fd.qualname)&&Dr fd.scope ps)))))))) then some (b,fd.scope) else none
theorem eO {a b:Bool} (h:(a&&b)=true):a=true/\b=true:=Bool.and_eq_true_iff.mp h
theorem zH {sc:Scope} (h:(sc.names.all fun p=>decide (p.2≠.free))=true) (x:Str):kindIn sc x≠some .free:=fun q=>by
 unfold kindIn at q
 have:∀ l:List (Str × NameKind),(l.all fun p=>decide (p.2≠.free))=true->l.lookup x≠some .free:=fun l=>by
  induction l with
  | nil=>intro _ q;cases q
  | cons p l ih =>
    intro h q
    rw [List.all_cons,Bool.and_eq_true] at h
    rw [List.lookup_cons] at q
    split at q
    ·lia -abstractProof
    ·exact ih h.2 q
 exact this _ h q
theorem mh {C:Cx} {h:Heap} {a:Addr} {ps:List Str} {b:List Stmt} {sc:Scope} (hk:∀ b o,h.get? b=some o->C.base.get? b=some o) (e:mJ h C.tab a ps=some (b,sc)):tu C a ps sc b/\Fn C (.ref a):=by
 obtain ⟨o,ho,e⟩:=Option.bind_eq_some_iff.mp e
 obtain ⟨fd,hd,e⟩:=Option.bind_eq_some_iff.mp e
 obtain ⟨b',h1,e⟩:=Option.bind_eq_some_iff.mp e
 obtain ⟨c,h2,e⟩:=Option.bind_eq_some_iff.mp e
 cases ht:(uV fd.defaults&&(a != C.tab&&(c != C.tab&&(fd.closure.isEmpty&&(fd.globals==mainGlobals&&(fd.builtins==builtinsNs&&(rA fd.params ps&&(decide (mX h c=some fd.qualname)&&Dr fd.scope ps)))))))) with
 | false=>rw [ht] at e;cases e
 | true =>
   rw [ht] at e
   cases e
   have t:=eO ht
   have t2:=eO t.2
   have t3:=eO t2.2
   have t4:=eO t3.2
   have t5:=eO t4.2
   have t6:=eO t5.2
   have t7:=eO t6.2
   have t8:=eO t7.2
   have n1:a≠C.tab:=bne_iff_ne.mp t2.1
   have hd':=qu hd
   obtain ⟨s1,s2⟩:=eO t8.2
   obtain ⟨s3,s4⟩:=eO s1
   obtain ⟨s5,s6⟩:=eO s3
   obtain ⟨s7,s8⟩:=eO s5
   obtain ⟨s9,s10⟩:=eO s7
   obtain ⟨s11,s12⟩:=eO s9
   have f1:fd.scope.isCoroutine=false:=by cases q:fd.scope.isCoroutine with | false=>rfl | true=>rw [q] at s12;cases s12
   have f2:fd.scope.isGenerator=false:=by cases q:fd.scope.isGenerator with | false=>rfl | true=>rw [q] at s10;cases s10
   refine ⟨⟨⟨o,fd,c,hk _ _ ho,n1,hd',wt h1,rfl,List.isEmpty_iff.mp t4.1,beq_iff_eq.mp t5.1,beq_iff_eq.mp t6.1,pk h2,bne_iff_ne.mp t3.1,?_,fun vals hl=>tV t7.1 (of_decide_eq_true s4) (yz t.1) hl⟩,of_decide_eq_true s11,f1,f2,of_decide_eq_true s8,List.all_eq_true.mp s6,of_decide_eq_true s4,zH s2⟩,.fn a o fd (hk _ _ ho) n1 hd'⟩
   rw [pk h2]
   exact (vc (of_decide_eq_true t8.1)).keeps hk
noncomputable def DP:Stmt->Option (Str × List Str × List Stmt × Scope)
 | .FunctionDef name prm body _ _ _ sc _ _ _=>some (name,prm.args.map (·.arg),body,sc)
 | _=>none
noncomputable def lF (p:Program):List (Str × List Str × List Stmt × Scope):=p.main.body.filterMap DP
noncomputable def eP (p:Program):List (Str × List Str × List Stmt × Scope):=(p.main.body.filterMap fun
 | .ClassDef _ _ _ body _ _ _ _ _ _ _=>some (body.filterMap DP)
 | _=>none).flatten
noncomputable def adr (h:Heap) (x:Str):Addr:=match h.nsMap mainGlobals x with
 | some (.ref a)=>a
 | _=>0
end
section
open PySem PySem.W PyProof.Rows
noncomputable def B0:Value->Option Int
 | .int k _=>some k
 | _=>none
theorem zY {v:Value} {k:Int} (h:B0 v=some k):∃ t,v=.int k t:=by unfold B0 at h;split at h<;>cases h;exact ⟨_,rfl⟩
noncomputable def hH:List DictEntry->Option (List (Int × List Nat))
 | []=>some []
 | e::r=>(B0 e.key).bind fun k=>(AD e.val).bind fun s=>bif e.hash==hashInt k then (hH r).map ((k,nm s)::·) else none
theorem jo {e:DictEntry} {r:List DictEntry} {l:List (Int × List Nat)} (h:hH (e::r)=some l):∃ k t s u l',e.key=.int k t/\e.val=.str s u/\e.hash=hashInt k/\hH r=some l'/\l=(k,nm s)::l':=by
 obtain ⟨k,hk,h⟩:=Option.bind_eq_some_iff.mp h
 obtain ⟨s,hv,h⟩:=Option.bind_eq_some_iff.mp h
 obtain ⟨t,ht⟩:=zY hk
 obtain ⟨u,hu⟩:=uE hv
 cases hh:(e.hash==hashInt k) with
 | false=>rw [hh] at h;cases h
 | true =>
   rw [hh,cond_true] at h
   obtain ⟨l',h1,h2⟩:=Option.map_eq_some_iff.mp h
   exact ⟨k,t,s,u,l',ht,hu,beq_iff_eq.mp hh,h1,h2.symm⟩
theorem oB:∀ {es:List DictEntry} {l:List (Int × List Nat)},hH es=some l->(∀ e∈es,∃ k,Value.isInt k e.key=true/\e.hash=hashInt k)/\(∀ k,(es.find? fun e=>Value.isInt k e.key).map (·.val)=vA (l.map (·.1)) (es.map (·.val)) k)
 | [],l,h=>by cases h;exact ⟨fun e he=>(nomatch he),fun k=>rfl⟩
 | e::r,l,h=>by
   obtain ⟨k,t,s,u,l',h1,h2,h3,h4,rfl⟩:=jo h
   obtain ⟨i1,i2⟩:=oB h4
   refine ⟨fun e' he=>?_,fun k'=>?_⟩
   ·rcases List.mem_cons.mp he with rfl | he
    ·exact ⟨k,by rw [h1];exact W.isInt_self k t,h3⟩
    ·exact i1 e' he
   ·rw [List.find?_cons,h1]
    show Option.map _ (match Value.isInt k' (.int k t) with | true=>some e | false=>_)=_
    unfold vA
    rw [List.map_cons,List.map_cons,List.zip_cons_cons,List.lookup_cons]
    have e1:Value.isInt k' (.int k t)=(k==k'):=rfl
    rw [e1]
    by_cases q:k=k'
    ·subst q;simp
    ·rw [beq_eq_false_iff_ne.mpr q,beq_eq_false_iff_ne.mpr (Ne.symm q)];exact i2 k'
theorem oz {C:Cx} {X:Wld} {n:Nat} {h:Heap}:∀ {es:List DictEntry} {l:List (Int × List Nat)},hH es=some l->VsRel C X n h (aC (l.map (·.2))) (es.map (·.val))
 | [],l,e=>by cases e;exact .nil
 | e::r,l,q=>by
   obtain ⟨k,t,s,u,l',h1,h2,h3,h4,rfl⟩:=jo q
   rw [List.map_cons,List.map_cons]
   refine .cons ?_ (oz h4)
   exact ⟨u,by assumption⟩
noncomputable def kq (h:Heap) (tab:Addr) (x:Str):Option (List (Int × List Nat)):=match h.nsMap mainGlobals x with
 | some (.ref p)=>(match h.get? p with
   | some ⟨.type t,none,.dict es _,sl⟩=>bif t == "dict"&&sl.isEmpty&&p != sysModules&&p != tab then hH es.toList else none
   | _=>none)
 | _=>none
theorem vt {C:Cx} {h:Heap} {x:Str} {l:List (Int × List Nat)} (e:kq h C.tab x=some l):∃ p,h.nsMap mainGlobals x=some (.ref p) /\
 ∀ X n h',(∀ b o,h.get? b=some o->b≠C.tab->X.Z b/\h'.get? b=some o)->VRel C X n h' (.dict (l.map (·.1)) (aC (l.map (·.2)))) (.ref p):=by
 unfold kq at e
 split at e
 ·rename_i p hp
  split at e
  ·rename_i t es ep sl ho
   cases ht:(t == "dict"&&sl.isEmpty&&p != sysModules&&p != C.tab) with
   | false=>rw [ht] at e;cases e
   | true =>
     rw [ht,cond_true] at e
     simp only [Bool.and_eq_true,beq_iff_eq,bne_iff_ne] at ht
     obtain ⟨⟨⟨t1,t2⟩,t3⟩,t4⟩:=ht
     refine ⟨p,hp,fun X n h' hk=>?_⟩
     obtain ⟨z,g⟩:=hk p _ ho t4
     obtain ⟨k1,k2⟩:=oB e
     refine ⟨p,es.toList.map (·.val),rfl,z,t3,⟨_,es,ep,g,⟨by rw [t1],rfl,Array.isEmpty_iff.mp t2⟩,rfl,fun e' he=>k1 e' (Array.mem_toList_iff.mpr he),fun k=>?_⟩,oz e⟩
     unfold findBy
     rw [<-Array.find?_toList]
     exact k2 k
  ·cases e
 ·cases e
noncomputable def uU (h:Heap) (x:Str):Option UInt64:=match h.nsMap mainGlobals x with
 | some (.float b _)=>some b
 | _=>none
theorem xn {h:Heap} {x:Str} {b:UInt64} (e:uU h x=some b):∃ t,h.nsMap mainGlobals x=some (.float b t):=by
 unfold uU at e
 split at e
 ·rename_i b' t hb
  cases e
  exact ⟨t,hb⟩
 ·cases e
noncomputable def pU (h:Heap):Option (Addr × Str):=(h.get? (adr h "_law_lexer")).bind fun o=>(ue o.data).bind fun fd=>(wW fd.code).bind fun c=>some (c,fd.qualname)
noncomputable def v9 (h:Heap):Addr:=match pU h with | some (c,_)=>c | none=>0
noncomputable def et (h:Heap):Addr:=(((h.get? (v9 h)).bind fun o=>(lZ o.data).bind fun vs=>(vs[11]?:Option Value).bind wW)).getD 0
noncomputable def yi (h:Heap) (tab:Addr) (n:Nat):Frag:=(List.range n).filterMap fun a=>bif a==tab then none else (h.get? a).map (a,·)
noncomputable def aT (h:Heap):Frag:=yi h (et h) h.objs.size
theorem qO {f:Addr->Option Obj} {a:Addr} {o:Obj}:∀ {l:List Nat},(l.filterMap fun a=>(f a).map (a,·)).lookup a=some o->f a=some o:=by
 intro l
 induction l with
 | nil =>
   intro e
   cases e
 | cons b l ih =>
   intro e
   rw [List.filterMap_cons] at e
   cases hb:f b with
   | none=>rw [hb] at e;exact ih e
   | some o' =>
     rw [hb] at e
     dsimp only [Option.map_some,List.lookup_cons] at e
     split at e
     ·rename_i q
      rw [beq_iff_eq.mp q,hb];exact e
     ·exact ih e
theorem uc {h:Heap} {a:Addr} {o:Obj} (e:(aT h).lookup a=some o):a≠et h/\h.get? a=some o:=by
 unfold aT yi at e
 have:(fun a=>bif a==et h then none else (h.get? a).map (a,·))=fun a=>((bif a==et h then none else h.get? a:Option Obj)).map (a,·):=by
  funext a;cases a==et h<;>rfl
 rw [this] at e
 have:=qO e
 cases q:a==et h with
 | true=>rw [q] at this;cases this
 | false=>rw [q] at this;exact ⟨beq_eq_false_iff_ne.mp q,this⟩
end
section
open PySem PySem.W PyProof.Rows
set_option maxRecDepth 100000
noncomputable def gy (h:Heap):Addr:=adr h "_netrclex"
noncomputable def Bq:Option (Option Value)->Addr
 | some (some (.ref a))=>a
 | _=>0
noncomputable def me:Option (Option Value)->Bool
 | some (some (.ref _))=>true
 | _=>false
theorem sS {r:Option (Option Value)} (h:me r=true):r=some (some (.ref (Bq r))):=by
 unfold me at h
 split at h
 ·rfl
 ·cases h
noncomputable def od:Option Value->Bool
 | some (.ref _)=>true
 | _=>false
theorem wF {h:Heap} {x:Str} (e:od (h.nsMap mainGlobals x)=true):h.nsMap mainGlobals x=some (.ref (adr h x)):=by
 unfold adr
 unfold od at e
 split at e
 ·rename_i a q;rw [q]
 ·cases e
noncomputable def fL (h:Heap) (x:Str):Addr:=Bq (findIn (aT h) (.ref (gy h)) x)
noncomputable def bfL:List (Nm × Bf):=[(oK,.sum),(Br,.len),(jp,.max),(u6,.min),(aO,.range),(j6,.int),(ut,.chr),(u5,.ord),(lK,.hex),(nC,.list),(jD,.iter),(nL,.next),(qC,.sorted)]
noncomputable def fltL:List (Nm × UInt64):=[(gQ,F13),(gP,F16),(fq,F23)]
noncomputable def zG (h:Heap):Bool:=match h.nsMap mainGlobals "__builtins__" with
 | some (.ref bm)=>(match h.get? bm with
   | some ⟨.type t,some d,.plain,_⟩=>bm != builtinsNs&&bm != mainGlobals&&bm != et h&&t == "module"&&d==builtinsNs
   | _=>false)
 | _=>false
theorem Bb {h:Heap} (e:zG h=true):h.BuiltinsAt (h.nsMap mainGlobals) (et h):=by
 unfold zG at e
 split at e
 ·rename_i bm hb
  split at e
  ·rename_i t d sl ho
   simp only [Bool.and_eq_true,beq_iff_eq,bne_iff_ne] at e
   obtain ⟨⟨⟨⟨e1,e2⟩,e3⟩,e4⟩,e5⟩:=e
   exact ⟨bm,_,hb,e1,e2,e3,ho,by rw [e4],by rw [e5],rfl⟩
  ·cases e
 ·cases e
noncomputable def uk:Str := "_law_lexer.<locals>.<lambda>"
noncomputable def sQ (h:Heap):Bool:=match pU h with
 | some (_,q)=>decide ((q ++ ".<locals>.") ++ "<lambda>"=uk)
 | none=>false
noncomputable def CZ (p:Program) (h:Heap):Bool :=
 plainGet (aT h) (gy h) default&&hasDictIn (aT h) (gy h)&&plainOver (aT h) (gy h)&&makesIn (aT h) (gy h)&&keepIn (aT h) (.ref (gy h)) &&
 codeHdIn (aT h) (v9 h) (et h)&&sQ h&&zG h&&mainGlobals != et h&&builtinsNs != et h&&cStatics != et h&&h.isNs mainGlobals&&h.isNs builtinsNs&&h.isNs cStatics&&(h.nsMap cStatics "sys.recursionlimit").isNone &&
 (eP p).all (fun d=>me (findIn (aT h) (.ref (gy h)) d.1)&&isFn (aT h) (.ref (fL h d.1)))&&od (h.nsMap mainGlobals "_netrclex")&&(lF p).all fun d=>od (h.nsMap mainGlobals d.1)
noncomputable abbrev Data:Type:=List (Option (List Stmt × Scope)) × List (Option (List Stmt × Scope)) × Option (List (Int × List Nat)) × List (Option UInt64) × List (Option Value × Option Value) × List (Option (Option Value)) × Option Bool × Option Value × List (Option (Option Value) × Option (Option Value)) × Option Obj × Bool
noncomputable def pg (p:Program) (h:Heap):Data :=
 ((lF p).map (fun d=>mJ h (et h) (adr h d.1) d.2.1),(eP p).map (fun d=>mJ h (et h) (fL h d.1) d.2.1),kq h (et h) "COMPILER_FLAG_NAMES",fltL.map (fun x=>uU h (ao x.1)),
  bfL.map (fun b=>(h.nsMap mainGlobals (ao b.1),h.nsMap builtinsNs (ao b.1))),[findIn (aT h) (.ref (gy h)) "__setattr__",specialIn (aT h) (.ref (fL h "_read_char")) "__get__"],takesIn (aT h) (.ref (fL h "_read_char")),
  typeIn (aT h) (.ref (fL h "__init__")),[aR,aM,cj,d5].map (fun x=>(findIn (aT h) (.ref (gy h)) x,takerIn (aT h) (gy h) x)),h.get? (et h),CZ p h)
noncomputable def pT (p:Program):Data :=
 ((lF p).map (fun d=>some (d.2.2.1,d.2.2.2)),(eP p).map (fun d=>some (d.2.2.1,d.2.2.2)),some (flagKeys.zip wordsL),fltL.map (fun x=>some x.2),
  bfL.map (fun b=>(none,some b.2.val)),[some (some (.builtin "object.__setattr__")),some (some (.builtin "function.__get__"))],some false,some (.type "function"),[aR,aM,cj,d5].map (fun _=>(some none,some none)),some (tabObj #[]),true)
noncomputable def fy (p:Program):Hook where
 α:=Data
 obs:=fun s=>pg p s.heap
 val:=fun _=>pT p
 says:=fun _ h'=>∃ h:Heap,pg p h=pT p/\∀ b o,h.get? b=some o->h'.get? b=some o
 of:=fun w s e=>⟨s.heap,e,fun _ _ q=>q⟩
 keeps:=fun w h h' x k=>let ⟨h0,e,q⟩:=x;⟨h0,e,fun b o g=>k _ _ (q b o g)⟩
structure Lam where
 P:Arguments
 B:Expr
 S:Scope
noncomputable def tS (p:Program) (h:Heap):Loc:=(lF p).map (fun d=>(nm d.1,V.fn (adr h d.1)))++((ba,kr)::(gM,.fn (gy h))::(fltL.map (fun x=>(x.1,V.flt x.2))++bfL.map fun b=>(b.1,V.bf b.2)))
noncomputable def ek (p:Program) (w:World) (h h':Heap) (os:OsState) (L:Lam):Cx :=
 { prog:=p,w:=w,mg:=h.nsMap mainGlobals,mb:=h.nsMap builtinsNs,base:=h',os:=os,gens:=#[],tab:=et h,cod:=v9 h,glob:=Mine.get (tS p h),K:=aT h,cls:=gy h,rc:=fL h "_read_char",
   lamP:=L.P,lamB:=L.B,lamS:=L.S,lamN := "<lambda>",lamQ:=uk }
section
variable {p:Program} {w:World} {h h':Heap} {os:OsState} {L:Lam} (e:pg p h=pT p) (hk:∀ b o,h.get? b=some o->h'.get? b=some o)
theorem AF:∀ {l:Loc} {x:Nm} {v:V},Mine.get l x=some v->(x,v)∈l:=by
 intro l
 induction l with
 | nil =>
   intro _ _ q
   exact nomatch q
 | cons hd0 r ih =>
   intro x v q
   obtain ⟨y,u⟩:=hd0
   rw [Mine.get] at q
   cases hq:eqn y x with
   | true=>rw [hq,cond_true] at q;cases q;rw [eqn_iff.mp hq];exact .head _
   | false=>rw [hq,cond_false] at q;exact .tail _ (ih q)
theorem kJ {α β:Type} {f g:α->β} {l:List α} (q:l.map f=l.map g):∀ x∈l,f x=g x:=List.map_inj_left.mp q
include e
theorem Ef:CZ p h=true:=(Prod.mk.inj (Prod.mk.inj (Prod.mk.inj (Prod.mk.inj (Prod.mk.inj (Prod.mk.inj (Prod.mk.inj (Prod.mk.inj (Prod.mk.inj (Prod.mk.inj e).2).2).2).2).2).2).2).2).2).2
theorem xg:∀ d∈lF p,mJ h (et h) (adr h d.1) d.2.1=some (d.2.2.1,d.2.2.2):=kJ (Prod.mk.inj e).1
theorem rJ:∀ d∈eP p,mJ h (et h) (fL h d.1) d.2.1=some (d.2.2.1,d.2.2.2):=kJ (Prod.mk.inj (Prod.mk.inj e).2).1
theorem zt:kq h (et h) "COMPILER_FLAG_NAMES"=some (flagKeys.zip wordsL):=(Prod.mk.inj (Prod.mk.inj (Prod.mk.inj e).2).2).1
theorem zu:∀ x∈fltL,uU h (ao x.1)=some x.2:=kJ (Prod.mk.inj (Prod.mk.inj (Prod.mk.inj (Prod.mk.inj e).2).2).2).1
theorem Cw:∀ b∈bfL,(h.nsMap mainGlobals (ao b.1),h.nsMap builtinsNs (ao b.1))=((none:Option Value),some b.2.val):=kJ (Prod.mk.inj (Prod.mk.inj (Prod.mk.inj (Prod.mk.inj (Prod.mk.inj e).2).2).2).2).1
structure BP (p:Program) (h:Heap):Prop where
 plain:plainGet (aT h) (gy h) default=true
 hasDict:hasDictIn (aT h) (gy h)=true
 over:plainOver (aT h) (gy h)=true
 makes:makesIn (aT h) (gy h)=true
 keep:keepIn (aT h) (.ref (gy h))=true
 code:codeHdIn (aT h) (v9 h) (et h)=true
 qual:sQ h=true
 bm:zG h=true
 ng:mainGlobals≠et h
 nb:builtinsNs≠et h
 ns:cStatics≠et h
 gns:h.isNs mainGlobals=true
 bns:h.isNs builtinsNs=true
 sns:h.isNs cStatics=true
 lim:h.nsMap cStatics "sys.recursionlimit"=none
 meths:∀ d∈eP p,me (findIn (aT h) (.ref (gy h)) d.1)=true/\isFn (aT h) (.ref (fL h d.1))=true
 cls:od (h.nsMap mainGlobals "_netrclex")=true
 fns:∀ d∈lF p,od (h.nsMap mainGlobals d.1)=true
theorem lg:BP p h:=by
 have b:=Ef e
 unfold CZ at b
 simp only [Bool.and_eq_true,bne_iff_ne,ne_eq,List.all_eq_true,Option.isNone_iff_eq_none] at b
 obtain ⟨⟨⟨⟨⟨⟨⟨⟨⟨⟨⟨⟨⟨⟨⟨⟨⟨b1,b2⟩,b3⟩,b4⟩,b5⟩,b6⟩,b7⟩,b8⟩,b9⟩,b10⟩,b11⟩,b12⟩,b13⟩,b14⟩,b15⟩,b16⟩,b17⟩,b18⟩:=b
 exact ⟨b1,b2,b3,b4,b5,b6,b7,b8,b9,b10,b11,b12,b13,b14,b15,b16,b17,b18⟩
include hk
theorem cok:COk (ek p w h h' os L):=by
 have B:=lg e
 refine ⟨(Heap.Ns.of_isNs B.gns).keeps hk,(Heap.Ns.of_isNs B.bns).keeps hk,B.ng,B.nb,B.ns,⟨_,(Heap.Ns.of_isNs B.sns).keeps hk,B.lim⟩,fun x v q=>?_⟩
 have hm:=AF q
 rcases List.mem_append.mp hm with hm | hm
 ·obtain ⟨d,hd,q⟩:=List.mem_map.mp hm
  cases q
  exact ⟨_,.inl (by rw [aK];exact wF (B.fns d hd)),fun X n h0 _=>by rfl⟩
 ·rcases List.mem_cons.mp hm with hm | hm
  ·cases hm
   obtain ⟨a,h1,h2⟩:=vt (C:=ek p w h h' os L) (zt e)
   refine ⟨_,.inl h1,fun X n h0 k=>?_⟩
   exact h2 X n h0 fun b o g ne=>k b o (hk _ _ g) ne
  ·rcases List.mem_cons.mp hm with hm | hm
   ·cases hm
    exact ⟨_,.inl (wF B.cls),fun X n h0 _=>by exact Eq.refl _⟩
   ·rcases List.mem_append.mp hm with hm | hm
    ·obtain ⟨d,hd,q⟩:=List.mem_map.mp hm
     cases q
     obtain ⟨t,ht⟩:=xn (zu e d hd)
     exact ⟨_,.inl ht,fun X n h0 _=>by exact ⟨t,rfl⟩⟩
    ·obtain ⟨d,hd,q⟩:=List.mem_map.mp hm
     cases q
     obtain ⟨g1,g2⟩:=Prod.mk.inj (Cw e d hd)
     exact ⟨_,.inr ⟨g1,g2⟩,fun X n h0 _=>by rfl⟩
omit hk
theorem ll (hk:∀ b o,h.get? b=some o->h'.get? b=some o):(aT h).In h':=fun a o q=>hk _ _ (uc q).2
end
end
section
open PySem PySem.W PyProof.Rows
set_option maxRecDepth 1000000
set_option maxHeartbeats 8000000
noncomputable abbrev pw:Program:=PySem.Challenge.pw_rs0107_01
noncomputable def qw:Program:=view pw [29]
noncomputable def jO:List Str:=["ONE_THIRD", "ONE_SIXTH", "TWO_THIRD", "rgb_to_hls", "hls_to_rgb", "_v", "rgb_to_hsv", "hsv_to_rgb", "COMPILER_FLAG_NAMES", "pretty_flags", "_parse_varint", "_netrclex", "_law_name", "_law_word", "_law_written", "_law_lexer", "_law_parts", "_law_colour", "_law_text", "_law_names", "_law_looked", "_law_round", "_law_run", "_law_joined", "_law_gains"]
noncomputable def zj (p:Program) (w:World) (N:Nat) (s₀:Shared):Option Shared :=
 match s₀.heap.isNs mainGlobals&&s₀.gens.size==0 with
 | true=>(PySem.W.Fast.tw14082659384304107361 PySem.treeTable p w s₀.heap.objs.size (s₀.heap.nsMap mainGlobals "__annotations__") N s₀ (topStub p)).bind fun s₁=>match staticsOk (importedModules p.main.body) s₀.heap s₁.heap&&namesBound p s₁.heap&&gensDone s₁&&laidKept s₀.heap s₁.heap with
    | true=>some s₁
    | false=>none
 | false=>none
theorem uA (p w N s):topFrom PySem.treeTable p w N s=zj p w N s:=by
 delta topFrom zj
 rw [PySem.W.Fast.te14082659384304107361]
 rfl
noncomputable def xB (p:Program) (w:World) (N:Nat):Option Shared :=
 (PySem.W.Fast.tw10274390034422433532 PySem.treeTable (PySem.W.opening p) w N (PySem.W.Fast.tw1435165496053646825 (PySem.W.opening p)).1 (PySem.W.Fast.tw1435165496053646825 (PySem.W.opening p)).2).bind (PySem.W.Fast.tw14289696077712309145 p)
theorem xK (p w N):fencedOpening PySem.treeTable p w N=xB p w N:=by
 delta fencedOpening xB
 rw [PySem.W.Fast.te10274390034422433532,PySem.W.Fast.te1435165496053646825,PySem.W.Fast.te14289696077712309145]
noncomputable def xt (s:Shared):Bool:=true
theorem D9:LeftO pw qw jO xt (fy pw).obs (fy pw).val 2500:=by
 refine LeftO.of_split "special-get-raises" fun w=>?_
 rw [xK,PySem.W.Fast.te4187177175401517315,funext (uA pw (w.withFollow "special-get-raises" false) 2500),funext (uA pw (w.withFollow "special-get-raises" true) 2500)]
 show ((xB pw w 2500).map fun s₀=>(((zj pw (w.withFollow "special-get-raises" false) 2500 s₀).map fun s=>(PySem.W.Fast.tw4187177175401517315 qw jO (importedModules pw.main.body) xt true s,pg pw s.heap)),((zj pw (w.withFollow "special-get-raises" true) 2500 s₀).map fun s=>(PySem.W.Fast.tw4187177175401517315 qw jO (importedModules pw.main.body) xt true s,pg pw s.heap)))) =
  some (some (openGood qw jO,pT pw),some (openGood qw jO,pT pw))
 kernel_rfl
end
section
open PySem PySem.W PyProof.Rows
set_option maxRecDepth 100000
section
variable {p:Program} {w:World} {h h':Heap} {os:OsState} {L:Lam} (e:pg p h=pT p) (hk:∀ b o,h.get? b=some o->h'.get? b=some o)
include e
theorem nu:([findIn (aT h) (.ref (gy h)) "__setattr__",specialIn (aT h) (.ref (fL h "_read_char")) "__get__"],takesIn (aT h) (.ref (fL h "_read_char")),typeIn (aT h) (.ref (fL h "__init__")),[aR,aM,cj,d5].map (fun x=>(findIn (aT h) (.ref (gy h)) x,takerIn (aT h) (gy h) x)),h.get? (et h)) =
 ([some (some (Value.builtin "object.__setattr__")),some (some (.builtin "function.__get__"))],some false,some (Value.type "function"),[aR,aM,cj,d5].map (fun _=>((some none:Option (Option Value)),(some none:Option (Option Value)))),some (tabObj #[])):=by
 have q:=(Prod.mk.inj (Prod.mk.inj (Prod.mk.inj (Prod.mk.inj (Prod.mk.inj e).2).2).2).2).2
 obtain ⟨q1,q⟩:=Prod.mk.inj q
 obtain ⟨q2,q⟩:=Prod.mk.inj q
 obtain ⟨q3,q⟩:=Prod.mk.inj q
 obtain ⟨q4,q⟩:=Prod.mk.inj q
 simp only [q1,q2,q3,q4,(Prod.mk.inj q).1]
theorem pY:h.get? (et h)=some (tabObj #[]):=(Prod.mk.inj (Prod.mk.inj (Prod.mk.inj (Prod.mk.inj (nu e)).2).2).2).2
include hk
theorem DX (hm:∃ d∈eP p,d.1=("_read_char" : Str)):LexOk (ek p w h h' os L):=by
 have B:=lg e
 have T:=nu e
 obtain ⟨T1,T⟩:=Prod.mk.inj T
 obtain ⟨T2,T⟩:=Prod.mk.inj T
 obtain ⟨T3,T⟩:=Prod.mk.inj T
 have T4:=(Prod.mk.inj T).1
 obtain ⟨T1a,T1b⟩:=List.cons.inj T1
 have T1b:=(List.cons.inj T1b).1
 obtain ⟨d,hd,hdn⟩:=hm
 obtain ⟨m1,m2⟩:=B.meths d hd
 rw [hdn] at m1 m2
 refine ⟨ll e hk,?_,B.plain,T1a,B.hasDict,B.over,B.makes,sS m1,m2,T1b,T2,fun x hx=>Prod.mk.inj (kJ T4 x hx)⟩
 cases q:(aT h).lookup (et h) with
 | none=>exact q
 | some o=>exact absurd rfl (uc q).1
theorem cZ {j:Nat} {n:Nm} {P:List Nm} {T:List St} (hj:((lF p)[j]?).map (fun d=>(nm d.1,d.2.1.map nm,mapO (cm 30 d.2.2.2) d.2.2.1))=some (n,P,some T)) (hg:Mine.get (tS p h) n=some (.fn (adr h (ao n)))):DefAt (ek p w h h' os L) n P T:=by
 obtain ⟨d,hd,q⟩:=Option.map_eq_some_iff.mp hj
 obtain ⟨q1,q⟩:=Prod.mk.inj q
 obtain ⟨q2,q3⟩:=Prod.mk.inj q
 have hs:=mh (C:=ek p w h h' os L) hk (xg e d (List.mem_of_getElem? hd))
 have hx:d.1=ao n:=by exact StrLaws.mk_of_toList q1
 rw [hx] at hs
 exact ⟨⟨_,hg,⟨_,_,_,30,hs.1,q3,q2⟩,hs.2⟩⟩
theorem rP {j:Nat} {n:Nm} {P:List Nm} {T:List St} (hj:((eP p)[j]?).map (fun d=>(nm d.1,d.2.1.map nm,mapO (cm 30 d.2.2.2) d.2.2.1))=some (n,P,some T)):Def (ek p w h h' os L) (fL h (ao n)) P T /\
 findIn (aT h) (.ref (gy h)) (ao n)=some (some (.ref (fL h (ao n))))/\isFn (aT h) (.ref (fL h (ao n)))=true:=by
 have B:=lg e
 obtain ⟨d,hd,q⟩:=Option.map_eq_some_iff.mp hj
 obtain ⟨q1,q⟩:=Prod.mk.inj q
 obtain ⟨q2,q3⟩:=Prod.mk.inj q
 have hs:=mh (C:=ek p w h h' os L) hk (rJ e d (List.mem_of_getElem? hd))
 have hx:d.1=ao n:=by exact StrLaws.mk_of_toList q1
 have hm:=B.meths d (List.mem_of_getElem? hd)
 rw [hx] at hs hm
 exact ⟨⟨⟨_,_,_,30,hs.1,q3,q2⟩,hs.2⟩,sS hm.1,hm.2⟩
theorem uI {j:Nat} {n:Nm} {P:List Nm} {T:List St} (hj:((eP p)[j]?).map (fun d=>(nm d.1,d.2.1.map nm,mapO (cm 30 d.2.2.2) d.2.2.1))=some (n,P,some T)) (hd:j2 (ao n)=true):pO (ek p w h h' os L) n P T:=by
 obtain ⟨h1,h2,h3⟩:=rP (w:=w) (os:=os) (L:=L) e hk hj
 exact ⟨⟨_,ao n,fz n,hd,h2,h3,h1⟩⟩
theorem Dc {P:List Nm} {T:List St} (d:Def (ek p w h h' os L) (fL h "_read_char") P T):RcAt (ek p w h h' os L):=by
 cases d.fn with
 | fn _ o fd ho ha hd=>exact ⟨⟨o,fd,ho,ha,hd⟩⟩
theorem wJ {j:Nat} {sc:Scope} {q:Nat->Pos} {prm:Arguments} {sc0:Scope} {j':Nat} {scI:Scope} {pI:Nat->Pos}
 (hj:(lF p)[j]?=some (("_law_lexer" : Str),[fb],[
   .Assign [.Name bJ (q 0)] (.Call (.Name "list" (q 1)) [.Name fb (q 2)] [] (q 3)) (q 4),
   .Assign [.Name bW (q 5)] (.Lambda prm (.Constant .none 0 (q 6)) sc0 (q 7)) (q 8),
   .Assign [.Attribute (.Name bW (q 9)) ca (q 10)] (.Lambda L.P L.B L.S (q 11)) (q 12),
   .Return (some (.Call (.Name nU (q 13)) [.Name bW (q 14)] [] (q 15))) (q 16)],sc))
 (s1:kindIn sc bJ=some .cell) (s2:kindIn sc fb=some .local) (s3:kindIn sc bW=some .local) (s4:kindIn sc "list"=some .globalImplicit) (s5:kindIn sc nU=some .globalImplicit) (s6:sc0.names=[]) (s7:∀ env,defaultsOf prm env=([],[]))
 (hI:(eP p)[j']?=some (("__init__" : Str),[eL,sFp],j4 pI,scI)) (i1:kindIn scI eL=some .local) (i2:kindIn scI sFp=some .local) (hL:∀ env,defaultsOf L.P env=([],[]))
 (hg:Mine.get (tS p h) dR=some (.fn (adr h "_law_lexer"))) (hc:Mine.get (tS p h) gM=some (.fn (gy h))):∃ a,(ek p w h h' os L).glob dR=some (.fn a)/\jU (ek p w h h' os L) a:=by
 have B:=lg e
 have hs:=mh (C:=ek p w h h' os L) hk (xg e _ (List.mem_of_getElem? hj))
 have hsI:=mh (C:=ek p w h h' os L) hk (rJ e _ (List.mem_of_getElem? hI))
 have hm:=B.meths _ (List.mem_of_getElem? hI)
 have T3:=(Prod.mk.inj (Prod.mk.inj (Prod.mk.inj (nu e)).2).2).1
 refine ⟨_,hg,⟨⟨sc,q,prm,sc0,hs.1,s1,s2,s3,s4,s5,s6,s7⟩,hs.2,?_,⟨_,scI,pI,sS hm.1,T3,hsI.1,i1,i2⟩,rfl,hL,?_,hc,B.keep⟩⟩
 ·have hq:=B.qual
  have hcd:=B.code
  unfold sQ at hq
  cases hl:pU h with
  | none=>rw [hl] at hq;cases hq
  | some cq =>
    obtain ⟨c,qn⟩:=cq
    rw [hl] at hq
    have hlc:v9 h=c:=by unfold v9;rw [hl]
    rw [hlc] at hcd
    obtain ⟨o,ho,hl⟩:=Option.bind_eq_some_iff.mp hl
    obtain ⟨fd,hd,hl⟩:=Option.bind_eq_some_iff.mp hl
    obtain ⟨c',hc',hl⟩:=Option.bind_eq_some_iff.mp hl
    cases hl
    exact ⟨o,fd,_,hk _ _ ho,qu hd,pk hc',codeHd_of_K (ll e hk) hcd,of_decide_eq_true hq⟩
 ·obtain ⟨bm,o,h1,h2,h3,h4,h5,h6⟩:=Bb B.bm
  exact ⟨bm,o,h1,h2,h3,h4,hk _ _ h5,h6⟩
omit e hk
theorem Ct {l:Nat} (hB:L.B=mq ⟨l,47,l,51⟩ ⟨l,56,l,61⟩ ⟨l,65,l,66⟩ ⟨l,56,l,66⟩ ⟨l,47,l,66⟩ ⟨l,32,l,36⟩ ⟨l,32,l,40⟩ ⟨l,41,l,42⟩ ⟨l,32,l,43⟩ ⟨l,72,l,74⟩ ⟨l,32,l,74⟩)
 (hS:L.S={ kind:=.function,names:=[(fB,.local),(bJ,.free)],isGenerator:=false,isCoroutine:=false,more:=[] }) (hP:rA L.P [fB]=true):lP (ek p w h h' os L) :=
 ⟨⟨_,_,_,_,_,_,_,_,_,_,_,hB,rfl⟩,hS,fun cl pm c ct v=>tV (ps:=[fB]) hP (by decide) rfl rfl⟩
end
end
section
open PySem PySem.W PyProof.Rows
set_option maxRecDepth 1000000
noncomputable def xh:Nm:=[108,97,119]
noncomputable def at162:List Pos:=[⟨163,4,163,8⟩,⟨163,11,163,15⟩,⟨163,16,163,20⟩,⟨163,11,163,21⟩,⟨163,4,163,21⟩,⟨164,4,164,10⟩,⟨164,21,164,25⟩,⟨164,13,164,25⟩,⟨164,4,164,25⟩,⟨165,4,165,10⟩,⟨165,4,165,15⟩,⟨165,18,165,74⟩,⟨165,4,165,74⟩,⟨166,11,166,20⟩,⟨166,21,166,27⟩,⟨166,11,166,28⟩,⟨166,4,166,28⟩]
noncomputable def at111:List Pos:=[⟨112,8,112,12⟩,⟨112,8,112,19⟩,⟨112,22,112,23⟩,⟨112,8,112,23⟩,⟨113,8,113,12⟩,⟨113,8,113,21⟩,⟨113,24,113,26⟩,⟨113,8,113,26⟩,⟨114,8,114,12⟩,⟨114,8,114,23⟩,⟨114,26,114,35⟩,⟨114,8,114,35⟩,⟨115,8,115,12⟩,⟨115,8,115,21⟩,⟨115,24,115,26⟩,⟨115,8,115,26⟩]
noncomputable def wL:Pos:=⟨0,0,0,0⟩
noncomputable def DW:Arguments:={ posonlyargs:=[],args:=[],vararg:=none,kwonlyargs:=[],kw_defaults:=[],kwarg:=none,defaults:=[] }
noncomputable def sc0:Scope:={ kind:=.function,names:=[],isGenerator:=false,isCoroutine:=false,more:=[] }
noncomputable def k7:Lam where
 P:={ posonlyargs:=[],args:=[{ arg:=fB,annotation:=none,pos:=⟨165,25,165,30⟩ }],vararg:=none,kwonlyargs:=[],kw_defaults:=[],kwarg:=none,defaults:=[] }
 B:=mq ⟨165,47,165,51⟩ ⟨165,56,165,61⟩ ⟨165,65,165,66⟩ ⟨165,56,165,66⟩ ⟨165,47,165,66⟩ ⟨165,32,165,36⟩ ⟨165,32,165,40⟩ ⟨165,41,165,42⟩ ⟨165,32,165,43⟩ ⟨165,72,165,74⟩ ⟨165,32,165,74⟩
 S:={ kind:=.function,names:=[(fB,.local),(bJ,.free)],isGenerator:=false,isCoroutine:=false,more:=[] }
noncomputable def D1:Scope:={ kind:=.function,names:=[(fb,.local),(bW,.local),(bJ,.cell),("list",.globalImplicit),(nU,.globalImplicit)],isGenerator:=false,isCoroutine:=false,more:=[] }
noncomputable def BZ:Scope:={ kind:=.function,names:=[(eL,.local),(sFp,.local)],isGenerator:=false,isCoroutine:=false,more:=[] }
section
variable {w:World} {h h':Heap} {os:OsState} (e:pg pw h=pT pw) (hk:∀ b o,h.get? b=some o->h'.get? b=some o)
include e hk
theorem bi1:Bi (ek pw w h h' os k7):=by
 refine ⟨?_,?_,?_,?_,?_,?_,?_,?_,?_,?_,?_,?_,?_⟩<;>kernel_rfl
theorem yX:oZ (ek pw w h h' os k7) where
 H:=cok e hk
 B:=bi1 e hk
 third:=by kernel_rfl
 sixth:=by kernel_rfl
 two:=by kernel_rfl
 v:=cZ (j:=2) (n:=wo) (P:=P_v) (T:=T_v) e hk (by kernel_rfl) (by kernel_rfl)
 hsv:=cZ (j:=3) (n:=f7) (P:=kj) (T:=T_rgb_to_hsv) e hk (by kernel_rfl) (by kernel_rfl)
 hls:=cZ (j:=0) (n:=fP) (P:=kC) (T:=T_rgb_to_hls) e hk (by kernel_rfl) (by kernel_rfl)
 rgbv:=cZ (j:=4) (n:=fS) (P:=kN) (T:=T_hsv_to_rgb) e hk (by kernel_rfl) (by kernel_rfl)
 rgbl:=cZ (j:=1) (n:=fQ) (P:=j8) (T:=T_hls_to_rgb) e hk (by kernel_rfl) (by kernel_rfl)
theorem AO:LexOk (ek pw w h h' os k7):=DX e hk ⟨_,List.mem_of_getElem? (by kernel_rfl:(eP pw)[1]?=some (((eP pw)[1]?).getD default)),by kernel_rfl⟩
theorem xm:Def (ek pw w h h' os k7) (fL h "_read_char") c7 T_read_char:=(rP (j:=1) (n:=cM) (P:=c7) (T:=T_read_char) e hk (by kernel_rfl)).1
theorem Er:Lex (ek pw w h h' os k7) where
 G:=⟨cok e hk,AO e hk,Ct (l:=165) rfl rfl (by kernel_rfl),xm e hk,Dc e hk (xm e hk)⟩
 it:=(bi1 e hk).iter
 gt:=uI (j:=2) (n:=bc) (P:=c6) (T:=T_get_token) e hk (by kernel_rfl) (by kernel_rfl)
 pt:=uI (j:=3) (n:=de) (P:=fO) (T:=T_push_token) e hk (by kernel_rfl) (by kernel_rfl)
theorem xl:hV (ek pw w h h' os k7) where
 H:=cok e hk
 B:=bi1 e hk
 word:=cZ (j:=8) (n:=cc) (P:=jz) (T:=T_law_word) e hk (by kernel_rfl) (by kernel_rfl)
 written:=cZ (j:=9) (n:=bw) (P:=gU) (T:=T_law_written) e hk (by kernel_rfl) (by kernel_rfl)
theorem z8:ip (ek pw w h h' os k7) where
 L:=Er e hk
 W:=xl e hk
 K:=yX e hk
 pv:=cZ (j:=6) (n:=bA) (P:=cY) (T:=T_parse_varint) e hk (by kernel_rfl) (by kernel_rfl)
 parts:=cZ (j:=11) (n:=bP) (P:=fu) (T:=T_law_parts) e hk (by kernel_rfl) (by kernel_rfl)
 looked:=cZ (j:=15) (n:=dm) (P:=fU) (T:=T_law_looked) e hk (by kernel_rfl) (by kernel_rfl)
 round:=cZ (j:=16) (n:=dd) (P:=iO) (T:=T_law_round) e hk (by kernel_rfl) (by kernel_rfl)
 names:=cZ (j:=14) (n:=db) (P:=iV) (T:=T_law_names) e hk (by kernel_rfl) (by kernel_rfl)
theorem B5:∃ a,(ek pw w h h' os k7).glob dR=some (.fn a)/\jU (ek pw w h h' os k7) a :=
 wJ (j:=10) (sc:=D1) (q:=fun k=>at162.getD k wL) (prm:=DW) (sc0:=sc0) (j':=0) (scI:=BZ) (pI:=fun k=>at111.getD k wL) e hk (by kernel_rfl) (by rfl) (by rfl) (by rfl) (by rfl) (by rfl) rfl (fun _=>rfl) (by kernel_rfl) (by rfl) (by rfl) (fun _=>rfl) (by kernel_rfl) (by kernel_rfl)
theorem DL:ej (ek pw w h h' os k7) where
 D:=z8 e hk
 run:=cZ (j:=17) (n:=fm) (P:=lC) (T:=T_law_run) e hk (by kernel_rfl) (by kernel_rfl)
 joined:=cZ (j:=18) (n:=cy) (P:=fY) (T:=T_law_joined) e hk (by kernel_rfl) (by kernel_rfl)
 gains:=cZ (j:=19) (n:=dZ) (P:=iL) (T:=T_law_gains) e hk (by kernel_rfl) (by kernel_rfl)
 colour:=cZ (j:=12) (n:=dq) (P:=iA) (T:=T_law_colour) e hk (by kernel_rfl) (by kernel_rfl)
 name:=cZ (j:=7) (n:=eG) (P:=jC) (T:=T_law_name) e hk (by kernel_rfl) (by kernel_rfl)
 text:=cZ (j:=13) (n:=eE) (P:=jB) (T:=T_law_text) e hk (by kernel_rfl) (by kernel_rfl)
 flags:=cZ (j:=5) (n:=cC) (P:=gx) (T:=T_pretty_flags) e hk (by kernel_rfl) (by kernel_rfl)
 dict:=by kernel_rfl
 lexer:=B5 e hk
theorem CY:DefAt (ek pw w h h' os k7) xh sM T_law1:=cZ (j:=20) (n:=xh) (P:=sM) (T:=T_law1) e hk (by kernel_rfl) (by kernel_rfl)
end
end
section
open PySem PySem.W PyProof.Rows
set_option maxRecDepth 100000
theorem oL {P:Params} {h:Heap} {R:WRecords}:∀ {vs:List Value} {xs:List WData},WellAll P h vs xs->(∀ d∈xs,WShape.has R d .int=true)->∃ l:List Int,l.length=xs.length/\∀ (C:Cx) (X:Wld) (n:Nat) (h':Heap),VsRel C X n h' (zs l) vs
 | _,_,.nil,_=>⟨[],rfl,fun C X n h'=>.nil⟩
 | _,_,.cons (d:=d) w ws,hx=>by
   obtain ⟨l,h1,h2⟩:=oL ws fun d hd=>hx d (.tail _ hd)
   obtain ⟨i,rfl⟩:=hasW_int (hx d (.head _))
   cases w with
   | int _ t=>exact ⟨i::l,by simp [h1],fun C X n h'=>.cons (by exact ⟨t,rfl⟩) (h2 C X n h')⟩
noncomputable def B7:Sto:=⟨0,fun _=>none⟩
noncomputable def zS (tab:Addr) (h:Heap):Wld:=⟨fun _=>0,fun _=>0,fun _=>0,fun b=>(∃ o,h.get? b=some o)/\b≠tab⟩
theorem DN {p:Program} {w:World} {h:Heap} {L:Lam} {s:Shared} (e:pg p h=pT p) (hk:∀ b o,h.get? b=some o->s.heap.get? b=some o) (hg:s.gens=#[]):SRel (ek p w h s.heap s.os L) B7 (zS (et h) s.heap) s where
 base:=fun b o q _=>q
 tab:=⟨#[],hk _ _ (pY e),trivial,fun pos cv q=>by cases q⟩
 zb:=fun b o q ne=>⟨⟨o,q⟩,ne⟩
 zl:=fun b z=>z.1
 os:=rfl
 gens:=hg
 lt:=fun l o q=>nomatch q
 obj:=fun l o q=>nomatch q
 apart:=fun l l' o o' b q=>nomatch q
 zw:=fun b hw z=>by
  rcases hw with rfl | ⟨l,o,q,_⟩
  ·exact z.2 rfl
  ·cases q
 wl:=fun b hw=>by
  rcases hw with rfl | ⟨l,o,q,_⟩
  ·exact ⟨_,hk _ _ (pY e)⟩
  ·cases q
theorem Ad {h h':Heap} {a:Addr} {m:Str->Option Value} (hn:h.isNs a=true) (hk:∀ b o,h.get? b=some o->h'.get? b=some o) (hm:h'.Ns a m) (x:Str):m x=h.nsMap a x:=by
 obtain ⟨o,es,ep,g,d,_,f⟩:=(Heap.Ns.of_isNs hn).keeps hk
 obtain ⟨o',es',ep',g',d',_,f'⟩:=hm
 rw [g] at g';cases g'
 rw [d] at d';cases d'
 rw [<-f',<-f]
theorem yk {K:Frag} {h:Heap} {c P:Addr} (X:CodeHd h c P):isCodeTable h P:=by
 obtain ⟨o,vs,file,tf,flags,tg,inF,text,tt,h1,h2,h3,h4,_⟩:=X
 exact ⟨c,o,vs,h1,h2,h3,h4⟩
theorem ym {p:Program} {w:World} {h:Heap} {L:Lam} {s₁:Shared} {fa:Addr} {l:List Int} {vals:List Value} {k:Nat} {n:Nm} {σ':Sto} (e:pg p h=pT p) (hk:∀ b o,h.get? b=some o->s₁.heap.get? b=some o) (hg:s₁.gens=#[])
 (hc:Calls (ek p w h s₁.heap s₁.os L) k n [.list (zs l)] B7 (.bool true) σ') (hk9:k<=400) (hfa:(ek p w h s₁.heap s₁.os L).glob n=some (.fn fa)) (hv:VsRel (ek p w h s₁.heap s₁.os L) (zS (et h) s₁.heap) 0 s₁.heap [.list (zs l)] vals)
 {Q:Value->Shared->Prop} {E:Value->Shared->Prop} (hQ:∀ s',OldK s₁.heap s'.heap->s'.os=s₁.os->s'.gens=#[]->Q (.bool true) s'):wpAny (model p w) callerA (PySem.call (.ref fa) vals) Q E s₁:=by
 obtain ⟨a,g,_,hf⟩:=hc.ex
 rw [hfa] at g
 cases g
 refine hf callerA (zS (et h) s₁.heap) s₁ vals ⟨by show 301+k<=900;lia -abstractProof,by show 4+20*k<=9000;lia -abstractProof,rfl⟩ (DN e hk hg) hv Q E fun v X' s' S' ev r=>?_
 subst r
 have hK:OldK s₁.heap s'.heap:=by
  have key:∀ b o,s₁.heap.get? b=some o->asItWas s₁.heap s'.heap b o:=fun b o q=>by
   by_cases hb:b=et h
   ·subst hb
    rw [hk _ _ (pY e)] at q
    cases q
    obtain ⟨ps,t1,_⟩:=S'.tab
    refine .inr (.inl ⟨yk (K:=aT h) (codeHd_of_K (ll e hk) (lg e).code),rfl,#[],ps,rfl,?_⟩)
    rw [Array.empty_append]
    exact t1
   ·refine .inl (ev.keep b o q (fun hw=>?_) fun hp=>hp)
    rcases hw with hw | ⟨l,o,q,_⟩
    ·exact hb hw
    ·cases q
  exact ⟨key,fun b o q=>by
   rcases key b o q with h1 | ⟨_,_,vs,more,_,h1⟩ | ⟨_,_,⟨o',es,n,h1,_⟩,_⟩
   ·exact ⟨_,h1⟩
   ·exact ⟨_,h1⟩
   ·exact ⟨_,h1⟩⟩
 exact hQ s' hK S'.os S'.gens
theorem Cb {P:Params} {h:Heap} {R:WRecords} {cl:Str->Option Addr} {args:List WData} {vals:List Value} (hh:WShape.hasAll R args [.list .int]=true) (hw:WellAll P h vals args) :
 ∃ xs l,args=[.list xs]/\l.length=xs.length/\∀ (C:Cx) (X:Wld) (n:Nat),(∀ a o,h.get? a=some o->o.cls≠.none->X.Z a)->VsRel C X n h [.list (zs l)] vals:=by
 obtain ⟨d,r,rfl,h1,h2⟩:=hasAllW_cons hh
 obtain rfl:=hasAllW_nil h2
 obtain ⟨xs,rfl,h3⟩:=hasW_list h1
 cases hw with
 | cons w ws =>
   cases ws
   cases w with
   | list g wa =>
     obtain ⟨l,q1,q2⟩:=oL (R:=R) wa fun d hd=>hasItemsW_at h3 d hd
     exact ⟨xs,l,rfl,q1,fun C X n hz=>.cons (by exact ⟨_,_,0,rfl,hz _ _ g (fun q=>by cases q),g,by exact q2 C X n h⟩) .nil⟩
end
section
open PySem PySem.W PyProof.Rows
set_option maxRecDepth 1000000
set_option maxHeartbeats 8000000
noncomputable abbrev row1:OpenRow:=PySem.Challenge.rw_rs0107_01.row
noncomputable def Dh:DefRec:=match defOf qw row1.name with
 | some (d,_)=>d
 | none=>⟨"",DW,[],sc0,wL⟩
theorem Ai {args:List WData} (h:row1.toRowW.claim.pre args=true):∀ xs,args=[.list xs]->xs.length<=63:=by
 rintro xs rfl
 have h2:=(pre_splitW h).2
 rcases Nat.lt_or_ge 63 xs.length with q | q
 ·exfalso
  have:WTm.holds (row1.toRowW).records (row1.toRowW).pre { args:=[.list xs] }=false:=by
   show (match (match (match (less? (.int 63) (.int ((xs.length:Nat):Int))).map WData.bool with | some (.bool b)=>some (WData.bool (!b)) | _=>none) with | some (.bool false)=>some (WData.bool false) | some (.bool true)=>_ | _=>none) with | some (.bool true)=>true | _=>false)=false
   have e:less? (.int 63) (.int ((xs.length:Nat):Int))=some (decide ((63:Int)<((xs.length:Nat):Int))):=rfl
   rw [e,decide_eq_true (by omega)]
   rfl
  rw [this] at h2;cases h2
 ·exact q
theorem Dt:WalkO qw jO (fun _ _=>True) (fy pw).says row1.toRowW Dh [] (fun f vs=>PySem.call f vs):=by
 intro w s₀ s₁ mg mb G Y fa o pm cd doc dV kV ho hd hcd hD hmg hg args vals as hpre hlay hrd hwl hlo
 obtain ⟨h,he,hk⟩:=Y
 obtain ⟨xs,l,rfl,hl,hv⟩:=Cb (R:=row1.toRowW.records) (cl:=classAt s₀.heap) (pre_splitW hpre).1 hwl
 have hlen:l.length<=63:=hl▸Ai hpre xs rfl
 have hz:∀ a o,s₁.heap.get? a=some o->o.cls≠.none->(zS (et h) s₁.heap).Z a:=fun a o q hc=>⟨⟨o,q⟩,fun ht=>by
  rw [ht,hk _ _ (pY he)] at q;cases q;exact hc rfl⟩
 obtain ⟨σ',hc⟩:=BO (C:=ek pw w h s₁.heap s₁.os k7) (k:=10) (σ:=B7) (DL he hk) (CY he hk) hlen (B1 hlen) (BW l)
 have hfa:(ek pw w h s₁.heap s₁.os k7).glob xh=some (.fn fa):=by
  have h1:mg "law"=h.nsMap mainGlobals "law":=Ad (lg he).gns hk G.T.g "law"
  have h2:mg "law"=some (.ref fa):=hmg
  rw [h1] at h2
  have h3:adr h "law"=fa:=by unfold adr;rw [h2]
  rw [<-h3]
  kernel_rfl
 refine ym he hk hg hc (by decide) hfa (hv _ _ _ hz) fun s' hK hos hgs=>?_
 exact ⟨.inl ⟨.bool true,.bool true,[],rfl,fun cls=>rfl,.bool true,by kernel_rfl,fun _=>⟨List.nodup_nil,fun a ha=>nomatch ha⟩⟩,hK,hos,.of_eq hgs⟩
theorem D5 (said:row1.wellSaid=true):row1.Holds :=
 holds_open (q:=qw) (loose:=jO) (Xt:=xt) (XP:=fun _ _=>True) (Yf:=(fy pw).obs) (Ya:=(fy pw).val) (YP:=(fy pw).says) (d:=Dh) (kwd:=[]) (N:=2500) D9 (fy pw).of (fy pw).keeps (fun _ _=>trivial) (fun _ _ _ _ _=>trivial)
  (by kernel_rfl) (by kernel_rfl) (by kernel_rfl) (fun _ _=>recFacts_nil rfl) (by rfl) said (by decide +kernel) ⟨rfl,rfl,rfl,rfl,rfl,by decide +kernel⟩ ⟨[.list []],by decide +kernel,by decide +kernel⟩ Dt
noncomputable abbrev law1:OpenLaw:=PySem.Challenge.rw_rs0107_01
theorem CE:law1.row.wellSaid=true:=by decide +kernel
theorem CA:(decide (law1.foot<=(behindTheImports law1.prog).length)&&law1.footing.all footLine&&noClassBlock law1.prog law1.footing&&law1.most.all (fun n=>decide (63<=n))&&law1.bound.all (fun n=>decide (2 ^ 63<=n))&&noRoadLSs { strict:=true,foot:=some law1.bound',writes:=law1.writes,may:=law1.may } law1.footing)=true:=by decide +kernel
theorem C0:(defStands law1.about law1.above&&law1.namesIt&&(["type", "isinstance", "issubclass", "getattr", "hasattr"]:List Str).all (fun n=>law1.about != [n])&&law1.bound'.all (fun n=>!builtinNamed n||law1.about==[n]||!law1.reads n))=true:=by decide +kernel
theorem Cy:((!law1.writes||(law1.prog.main.body.flatMap importedNames).all fun n=>!law1.reads n)&&(law1.prog.main.body.flatMap importedNames).all (fun n=>!law1.reads n||(drawsOf n law1.prog.main.body).all fun mn=>mn.2 != ("attrgetter" : Str)&&mn.2 != ("methodcaller" : Str)) &&
 namesMeet law1.prog law1.footing (fun sc n=>(!(["type", "isinstance", "issubclass", "getattr", "hasattr"]:List Str).contains n||sc.names.lookup n==some .globalImplicit)&&(law1.may != some n||sc.kind==.module||sc.names.lookup n==some .globalImplicit)))=true:=by decide +kernel
theorem B4:(law1.own.contains law1.name&&law1.own.eraseDups.length==law1.own.length&&law1.own.all (fun n=>!builtinNamed n))=true:=by decide +kernel
theorem CC:(namesMeet law1.prog law1.above (fun _ n=>!law1.own.contains n)&&namesMeet law1.prog law1.footing fun sc n=>sc.kind==.module||sc.names.lookup n != some .globalExplicit)=true:=by decide +kernel
theorem Dn:law1.wellSaid=true:=by
 have b:=CA
 have c:=C0
 have d:=Cy
 have e:=B4
 have f:=CC
 simp only [Bool.and_eq_true] at b c d e f
 unfold OpenLaw.wellSaid
 simp only [Bool.and_eq_true]
 exact ⟨⟨⟨⟨⟨⟨⟨⟨⟨⟨⟨⟨⟨⟨⟨⟨⟨⟨CE,b.1.1.1.1.1⟩,b.1.1.1.1.2⟩,b.1.1.1.2⟩,b.1.1.2⟩,b.1.2⟩,b.2⟩,c.1.1.1⟩,c.1.1.2⟩,c.1.2⟩,c.2⟩,d.1.1⟩,d.1.2⟩,d.2⟩,e.1.1⟩,e.1.2⟩,e.2⟩,f.1⟩,f.2⟩
end
end Mine
set_option maxRecDepth 100000 in
set_option maxHeartbeats 8000000 in
theorem PySem.Challenge.cw_rs0107_01_holds : PySem.Challenge.rw_rs0107_01.Holds := by
 exact PySem.W.holds_law Mine.Dn Mine.D5
