import PyProof.Rows.All
import Wide.All
import OpenK.AllK
import Wide.FinOn
import KE.KLam
import KE.KBoundM
import Flt.RightSqrt
import Lean
import PySem.Challenge.RW_rs0107_02
set_option Elab.async false
set_option genSizeOf false
set_option genInjectivity false
set_option genCtorIdx false
set_option linter.unusedVariables false
set_option linter.unusedSimpArgs false
namespace Mine
section
open PySem PyProof.Rows
theorem via {P:Prop} (k:∀ R:Prop,(P->R)->R):P:=k P id
theorem szl {n:Nat} (h:Nat.ble n 1000000=true):n<=sizeLine:=by rw [sizeLine_eq];exact Nat.le_trans (Nat.le_of_ble_eq_true h) (by simp)
theorem lt0 {P:Nat->Prop} (j:Nat) (h:j<0):P j:=absurd h (Nat.not_lt_zero j)
theorem ltS {P:Nat->Prop} {n:Nat} (h0:P 0) (h:∀ j,j<n->P (j+1)) (j:Nat) (hj:j<n+1):P j:=by
 cases j with
 | zero=>exact h0
 | succ j=>exact h j (Nat.lt_of_succ_lt_succ hj)
theorem at3 {P:Nat->Prop} (h0:P 0) (h1:P 1) (h2:P 2):∀ j,j<3->P j:=ltS h0 (ltS (P:=fun j=>P (j+1)) h1 (ltS (P:=fun j=>P (j+1+1)) h2 lt0))
theorem at4 {P:Nat->Prop} (h0:P 0) (h1:P 1) (h2:P 2) (h3:P 3):∀ j,j<4->P j:=ltS h0 (at3 (P:=fun j=>P (j+1)) h1 h2 h3)
theorem at5 {P:Nat->Prop} (h0:P 0) (h1:P 1) (h2:P 2) (h3:P 3) (h4:P 4):∀ j,j<5->P j:=ltS h0 (at4 (P:=fun j=>P (j+1)) h1 h2 h3 h4)
theorem at6 {P:Nat->Prop} (h0:P 0) (h1:P 1) (h2:P 2) (h3:P 3) (h4:P 4) (h5:P 5):∀ j,j<6->P j:=ltS h0 (at5 (P:=fun j=>P (j+1)) h1 h2 h3 h4 h5)
theorem at7 {P:Nat->Prop} (h0:P 0) (h1:P 1) (h2:P 2) (h3:P 3) (h4:P 4) (h5:P 5) (h6:P 6):∀ j,j<7->P j:=ltS h0 (at6 (P:=fun j=>P (j+1)) h1 h2 h3 h4 h5 h6)
theorem Bu {P:Nat->Prop} (h0:P 0) (h1:P 1) (h2:P 2) (h3:P 3) (h4:P 4) (h5:P 5) (h6:P 6) (h7:P 7) (h8:P 8) (h9:P 9):∀ j,j<10->P j:=ltS h0 (ltS (P:=fun j=>P (j+1)) h1 (ltS (P:=fun j=>P (j+1+1)) h2 (at7 (P:=fun j=>P (j+1+1+1)) h3 h4 h5 h6 h7 h8 h9)))
theorem rI {n j:Nat} (h:j<n):n - j=n - (j+1)+1:=(Nat.succ_pred_eq_of_pos (Nat.sub_pos_of_lt h)).symm
theorem vT {α:Type} {n:Nat} {l:List α} (h:l.length=n+1):∃ a r,l=a::r/\r.length=n:=by
 cases l with
 | nil=>cases h
 | cons a r=>exact ⟨a,r,rfl,Nat.succ.inj h⟩
theorem B6 {α:Type} {l:List α} (h:l.length=2):∃ a b,l=[a,b]:=by
 obtain ⟨a,r,rfl,h1⟩:=vT h
 obtain ⟨b,r,rfl,h2⟩:=vT h1
 rw [List.eq_nil_of_length_eq_zero h2]
 exact ⟨a,b,rfl⟩
theorem Dw {α:Type} {l:List α} (h:l.length=3):∃ a b c,l=[a,b,c]:=by
 obtain ⟨a,r,rfl,h1⟩:=vT h
 obtain ⟨b,c,rfl⟩:=B6 h1
 exact ⟨a,b,c,rfl⟩
noncomputable abbrev Nm:=List Nat
noncomputable def eqn:Nm->Nm->Bool
 | [],[]=>true
 | a::l,b::m=>Nat.beq a b&&eqn l m
 | _,_=>false
theorem eqn_iff {x:Nm}:∀ {y:Nm},eqn x y=true↔x=y:=by
 induction x with
 | nil =>
   intro y
   cases y with
   | nil=>exact ⟨fun _=>rfl,fun _=>rfl⟩
   | cons b m=>exact ⟨fun h=>(nomatch h),fun h=>(nomatch h)⟩
 | cons a l ih =>
   intro y
   cases y with
   | nil=>exact ⟨fun h=>(nomatch h),fun h=>(nomatch h)⟩
   | cons b m =>
     refine ⟨fun h=>?_,fun h=>?_⟩
     ·obtain ⟨h1,h2⟩:=Bool.and_eq_true_iff.mp h
      rw [Nat.eq_of_beq_eq_true h1,ih.mp h2]
     ·obtain ⟨h1,h2⟩:=List.cons.inj h
      exact Bool.and_eq_true_iff.mpr ⟨by rw [h1];exact Nat.beq_refl _,ih.mpr h2⟩
theorem jR (x:Nm):eqn x x=true:=eqn_iff.mpr rfl
theorem iS {x y:Nm} (h:x≠y):eqn x y=false:=by
 cases e:eqn x y with
 | false=>rfl
 | true=>exact absurd (eqn_iff.mp e) h
noncomputable abbrev ao (x:List Nat):Str:=⟨x.toArray⟩
noncomputable def nm (x:Str):Nm:=x.cps.toList
theorem aP (x:Str):ao (nm x)=x:=by cases x;simp [ao,nm]
theorem fk (x:Nm):nm (ao x)=x:=by dsimp [ao,nm]
theorem om {x y:Nm} (h:ao x=ao y):x=y:=by rw [<-fk x,h,fk]
theorem f9 {x y:Str} (h:nm x=nm y):x=y:=by exact str_of_list h
set_option genCtorIdx true in
inductive Bf where
 | sum | len | max | min | range | int | chr | ord | hex | list | iter | next | sorted
noncomputable def Bf.val:Bf->Value
 | .sum=>.builtin "sum" | .len=>.builtin "len" | .max=>.builtin "max" | .min=>.builtin "min"
 | .range=>.type "range" | .int=>.type "int" | .chr=>.builtin "chr" | .ord=>.builtin "ord" | .hex=>.builtin "hex"
 | .list=>.type "list" | .iter=>.builtin "iter" | .next=>.builtin "next" | .sorted=>.builtin "sorted"
inductive V where
 | none | bool (b:Bool) | int (i:Int) | flt (x:UInt64) | str (s:List Nat)
 | tup (vs:List V) | list (vs:List V) | dict (ks:List Int) (vs:List V)
 | rng (lo hi:Int) | loc (l:Nat) | fn (k:Nat) | bf (b:Bf) | flu (x:UInt64)
noncomputable def V.ctorIdx (e:V):Nat:=V.casesOn (motive_1:=fun _=>Nat) e 0 (fun _=>1) (fun _=>2) (fun _=>3) (fun _=>4) (fun _=>5) (fun _=>6) (fun _ _=>7) (fun _ _=>8) (fun _=>9) (fun _=>10) (fun _=>11) (fun _=>12)
inductive O where
 | list (vs:List V)
 | liter (vs:List V)
 | lexer (lf:Nat) (line:Int) (pb:Nat)
 | citer (lx:Nat) (live:Bool)
structure Sto where
 next:Nat
 get:Nat->Option O
noncomputable def Sto.set (σ:Sto) (l:Nat) (o:O):Sto:=⟨σ.next,fun k=>if k=l then some o else σ.get k⟩
noncomputable def Sto.del (σ:Sto) (l:Nat):Sto:=⟨σ.next,fun k=>if k=l then none else σ.get k⟩
noncomputable def Sto.new (σ:Sto) (o:O):Sto:=⟨σ.next+1,fun k=>if k=σ.next then some o else σ.get k⟩
noncomputable abbrev Loc:=List (Nm × V)
noncomputable def get:Loc->Nm->Option V
 | [],_=>none
 | (y,u)::r,x=>bif eqn y x then some u else get r x
noncomputable def put:Loc->Nm->V->Loc
 | [],x,v=>[(x,v)]
 | (y,u)::r,x,v=>bif eqn y x then (y,v)::r else (y,u)::put r x v
noncomputable def del:Loc->Nm->Loc
 | [],_=>[]
 | (y,u)::r,x=>bif eqn y x then del r x else (y,u)::del r x
theorem gX (x y:Nm) (u:V) (r:Loc):get ((x,u)::r) y=if y=x then some u else get r y:=by
 by_cases h:y=x
 ·subst h
  rw [if_pos rfl]
  exact congrArg (fun b=>bif b then some u else get r y) (jR y)
 ·rw [if_neg h]
  exact congrArg (fun b=>bif b then some u else get r y) (iS (Ne.symm h))
theorem cg (ρ:Loc) (x:Nm) (v:V) (y:Nm):get (put ρ x v) y=if y=x then some v else get ρ y:=by
 induction ρ with
 | nil=>exact gX x y v []
 | cons p r ih =>
   obtain ⟨z,u⟩:=p
   have e:put ((z,u)::r) x v=bif eqn z x then (z,v)::r else (z,u)::put r x v:=rfl
   rw [e,gX z y u r]
   by_cases hx:z=x
   ·subst hx
    rw [jR,cond_true,gX]
    by_cases h:y=z
    ·rw [if_pos h,if_pos h]
    ·rw [if_neg h,if_neg h,if_neg h]
   ·rw [iS hx,cond_false,gX,ih]
    by_cases h:y=z
    ·rw [if_pos h,if_pos h,if_neg (fun q=>hx (h.symm.trans q))]
    ·rw [if_neg h,if_neg h]
theorem un (ρ:Loc) (x y:Nm):get (del ρ x) y=if y=x then none else get ρ y:=by
 induction ρ with
 | nil=>exact (ite_self _).symm
 | cons p r ih =>
   obtain ⟨z,u⟩:=p
   have e:del ((z,u)::r) x=bif eqn z x then del r x else (z,u)::del r x:=rfl
   rw [e,gX z y u r]
   by_cases hx:z=x
   ·subst hx
    rw [jR,cond_true,ih]
    by_cases h:y=z
    ·rw [if_pos h,if_pos h]
    ·rw [if_neg h,if_neg h,if_neg h]
   ·rw [iS hx,cond_false,gX,ih]
    by_cases h:y=z
    ·rw [if_pos h,if_pos h,if_neg (fun q=>hx (h.symm.trans q))]
    ·rw [if_neg h,if_neg h]
inductive Ex where
 | cNone | cBool (b:Bool) | cInt (i:Int) | cFlt (x:UInt64) | cStr (s:List Nat)
 | var (x:Nm) | glob (x:Nm)
 | bin (op:Operator) (a b:Ex)
 | neg (a:Ex) | not (a:Ex)
 | boolop (op:BoolOp) (l:List Ex)
 | cmp (a:Ex) (ops:List CmpOp) (l:List Ex)
 | ite (t a b:Ex)
 | list (l:List Ex) | tup (l:List Ex)
 | sub (a i:Ex)
 | slice (a:Ex) (l:List (Option Ex))
 | call (f:Ex) (l:List Ex)
 | meth (o:Ex) (m:Nm) (l:List Ex)
 | attr (o:Ex) (m:Nm)
 | comp (elt:Ex) (ts:List (List Nm)) (its:List Ex) (ifs:List (List Ex)) (own:List Nm)
 | dcomp (k v:Ex) (t:Nm) (it:Ex) (own:List Nm)
 | lam (x:Nm) (a:Ex)
 | lam0 (a:Ex)
noncomputable def Ex.ctorIdx (e:Ex):Nat:=Ex.casesOn (motive_1:=fun _=>Nat) e 0 (fun _=>1) (fun _=>2) (fun _=>3) (fun _=>4) (fun _=>5) (fun _=>6) (fun _ _ _=>7) (fun _=>8) (fun _=>9) (fun _ _=>10) (fun _ _ _=>11) (fun _ _ _=>12) (fun _=>13) (fun _=>14) (fun _ _=>15) (fun _ _=>16) (fun _ _=>17) (fun _ _ _=>18) (fun _ _=>19) (fun _ _ _ _ _=>20) (fun _ _ _ _ _=>21) (fun _ _=>22) (fun _=>23)
inductive St where
 | assign (xs:List Nm) (tup:Bool) (e:Ex)
 | setattr (o:Ex) (m:Nm) (e:Ex)
 | aug (x:Nm) (op:Operator) (e:Ex)
 | augattr (o:Ex) (m:Nm) (op:Operator) (e:Ex)
 | ifs (t:Ex) (a b:List St)
 | for_ (xs:List Nm) (it:Ex) (a b:List St)
 | while_ (t:Ex) (a:List St)
 | ret (e:Ex) | brk | cont | expr (e:Ex)
inductive Fl where
 | next | brk | cont | ret (v:V)
noncomputable def Fl.ctorIdx (e:Fl):Nat:=Fl.casesOn (motive:=fun _=>Nat) e 0 1 2 (fun _=>3)
end
section
open PySem PyProof.Rows
noncomputable def mapO {α β:Type} (f:α->Option β):List α->Option (List β)
 | []=>some []
 | a::l=>(f a).bind fun b=>(mapO f l).bind fun m=>some (b::m)
theorem bn {α:Type} {a:α} {P:Prop} (h:none=some a):P:=nomatch h
noncomputable def rZ (e:Expr):Option (Str × Pos):=if h:e.ctorIdx=23 then PySem.Expr.Name.elim (motive_1:=fun _=>Option (Str × Pos)) e h fun x p=>some (x,p) else none
noncomputable def CT (e:Expr):Option (List Expr × Nat × Pos):=if h:e.ctorIdx=25 then PySem.Expr.Tuple.elim (motive_1:=fun _=>Option (List Expr × Nat × Pos)) e h fun l k p=>some (l,k,p) else none
noncomputable def lr (e:Expr):Option (Expr × Str × Pos):=if h:e.ctorIdx=20 then PySem.Expr.Attribute.elim (motive_1:=fun _=>Option (Expr × Str × Pos)) e h fun o m p=>some (o,m,p) else none
noncomputable def pZ (e:Expr):Option (Option Expr × Option Expr × Option Expr × Pos):=if h:e.ctorIdx=26 then PySem.Expr.Slice.elim (motive_1:=fun _=>Option (Option Expr × Option Expr × Option Expr × Pos)) e h fun a b c p=>some (a,b,c,p) else none
theorem ow {e:Expr} {x:Str} {p:Pos} (h:rZ e=some (x,p)):e=.Name x p:=by
 by_cases hi:e.ctorIdx=23
 ·have h:=(dif_pos hi).symm.trans h
  revert h
  exact PySem.Expr.Name.elim (motive_1:=fun e=>∀ hi,PySem.Expr.Name.elim (motive_1:=fun _=>Option (Str × Pos)) e hi (fun x p=>some (x,p))=some (x,p)->e=.Name x p) e hi (fun _ _ _ h=>congrArg (fun q:Str × Pos=>Expr.Name q.1 q.2) (Option.some.inj h)) hi
 ·exact bn ((dif_neg hi).symm.trans h)
theorem yR {e:Expr} {l:List Expr} {k:Nat} {p:Pos} (h:CT e=some (l,k,p)):e=.Tuple l k p:=by
 by_cases hi:e.ctorIdx=25
 ·have h:=(dif_pos hi).symm.trans h
  revert h
  exact PySem.Expr.Tuple.elim (motive_1:=fun e=>∀ hi,PySem.Expr.Tuple.elim (motive_1:=fun _=>Option (List Expr × Nat × Pos)) e hi (fun l k p=>some (l,k,p))=some (l,k,p)->e=.Tuple l k p) e hi (fun _ _ _ _ h=>congrArg (fun q:List Expr × Nat × Pos=>Expr.Tuple q.1 q.2.1 q.2.2) (Option.some.inj h)) hi
 ·exact bn ((dif_neg hi).symm.trans h)
theorem k6 {e o:Expr} {m:Str} {p:Pos} (h:lr e=some (o,m,p)):e=.Attribute o m p:=by
 by_cases hi:e.ctorIdx=20
 ·have h:=(dif_pos hi).symm.trans h
  revert h
  exact PySem.Expr.Attribute.elim (motive_1:=fun e=>∀ hi,PySem.Expr.Attribute.elim (motive_1:=fun _=>Option (Expr × Str × Pos)) e hi (fun o m p=>some (o,m,p))=some (o,m,p)->e=.Attribute o m p) e hi (fun _ _ _ _ h=>congrArg (fun q:Expr × Str × Pos=>Expr.Attribute q.1 q.2.1 q.2.2) (Option.some.inj h)) hi
 ·exact bn ((dif_neg hi).symm.trans h)
theorem tL {e:Expr} {a b c:Option Expr} {p:Pos} (h:pZ e=some (a,b,c,p)):e=.Slice a b c p:=by
 by_cases hi:e.ctorIdx=26
 ·have h:=(dif_pos hi).symm.trans h
  revert h
  exact PySem.Expr.Slice.elim (motive_1:=fun e=>∀ hi,PySem.Expr.Slice.elim (motive_1:=fun _=>Option (Option Expr × Option Expr × Option Expr × Pos)) e hi (fun a b c p=>some (a,b,c,p))=some (a,b,c,p)->e=.Slice a b c p) e hi (fun _ _ _ _ _ h=>congrArg (fun q:Option Expr × Option Expr × Option Expr × Pos=>Expr.Slice q.1 q.2.1 q.2.2.1 q.2.2.2) (Option.some.inj h)) hi
 ·exact bn ((dif_neg hi).symm.trans h)
noncomputable def zz:Const->Option Ex
 | .none=>some .cNone
 | .bool b=>some (.cBool b)
 | .int i=>some (.cInt i)
 | .float x=>some (.cFlt x)
 | .str s=>some (.cStr (nm s))
 | _=>none
noncomputable def kindIn (sc:Scope) (x:Str):Option NameKind:=sc.names.lookup x
noncomputable def qK:Option NameKind->Bool
 | some .local | some .cell | some .free=>true
 | _=>false
noncomputable def iv:Option NameKind->Bool
 | some .local | some .cell=>true
 | _=>false
noncomputable def cV (x:Str):Bool:=x==("__debug__" : Str)||x==("__classdict__" : Str)
noncomputable def l4 (sc:Scope) (x:Str):Option Ex :=
 if cV x then none else
 if qK (kindIn sc x) then some (.var (nm x)) else
 if kindIn sc x=some .globalImplicit then some (.glob (nm x)) else none
noncomputable def fA (sc:Scope) (e:Expr):Option Nm:=(rZ e).bind fun q=>if cV q.1 then none else if iv (kindIn sc q.1) then some (nm q.1) else none
noncomputable def xi (sc:Scope) (e:Expr):Option (Str × Pos)->Option (List Nm)
 | some _=>(fA sc e).map fun y=>[y]
 | none=>(CT e).bind fun q=>(mapO (fA sc) q.1).bind fun ys=>if 2<=ys.length then some ys else none
noncomputable def ca (sc:Scope) (e:Expr):Option (List Nm):=xi sc e (rZ e)
noncomputable def eu (e:Expr):Bool:=if h:e.ctorIdx=16 then PySem.Expr.Call.elim (motive_1:=fun _=>Bool) e h fun f as ks _=>(rZ f).isSome&&as.isEmpty&&ks.isEmpty else false
noncomputable def eX (sc sc':Scope):Bool :=
 sc'.kind==.function&&!sc'.isGenerator&&!sc'.isCoroutine&&decide ((sc'.names.map (·.1)).Nodup) &&
 sc'.names.all (fun p=>p.2 != .free||((kindIn sc p.1==some .cell||kindIn sc p.1==some .free)&&!cV p.1))
noncomputable def dW (sc:Scope):List Nm:=sc.names.filterMap fun p=>if iv (some p.2) then some (nm p.1) else none
noncomputable def ge (e:Expr):Bool:=e.ctorIdx != 7
noncomputable def sK (er:Expr->Option Ex):Option Expr->Option (Option Ex)
 | none=>some none
 | some e=>(er e).bind fun x=>some (some x)
set_option linter.unusedVariables false
noncomputable def D4 (er:Expr->Option Ex) (x:Expr):UnaryOp->Option Ex
 | .USub=>(er x).bind fun a=>some (.neg a)
 | .Not=>(er x).bind fun a=>some (.not a)
 | _=>none
noncomputable def xh (er:Expr->Option Ex) (v i:Expr):Option (Option Expr × Option Expr × Option Expr × Pos)->Option Ex
 | some q=>(er v).bind fun a=>(mapO (sK er) [q.1,q.2.1,q.2.2.1]).bind fun l=>some (.slice a l)
 | none=>(er v).bind fun a=>(er i).bind fun b=>some (.sub a b)
noncomputable def sJ (er:Expr->Option Ex) (as:List Expr) (p:Pos) (f:Expr):Option (Expr × Str × Pos)->Option Ex
 | some q=>if eu q.1||!(q.2.2.endLine==p.line&&decide (as.length<29)) then none else (er q.1).bind fun a=>(mapO er as).bind fun l=>some (.meth a (nm q.2.1) l)
 | none=>(er f).bind fun a=>(mapO er as).bind fun l=>some (.call a l)
noncomputable def BO (er er':Expr->Option Ex) (sc sc':Scope) (elt:Expr):List Comprehension->Option Ex
 | []=>none
 | g::gs=>(er g.iter).bind fun it=>(mapO (fun g:Comprehension=>er' g.iter) gs).bind fun its =>
   (mapO (fun g:Comprehension=>ca sc' g.target) (g::gs)).bind fun ts =>
   (mapO (fun g:Comprehension=>mapO er' g.ifs) (g::gs)).bind fun ifs =>
   (er' elt).bind fun a=>some (.comp a ts (it::its) ifs (dW sc'))
noncomputable def BP (er er':Expr->Option Ex) (sc sc':Scope) (k v:Expr):List Comprehension->Option Ex
 | [g]=>if g.ifs.isEmpty&&g.is_async==0&&ge g.iter then (fA sc' g.target).bind fun y=>(er g.iter).bind fun it=>(er' k).bind fun k=>(er' v).bind fun v=>some (.dcomp k v y it (dW sc')) else none
 | _=>none
noncomputable def aB:Nat->Scope->Expr->Option Ex
 | 0,_,_=>none
 | n+1,sc,e=>match e with
   | .Constant c _ _=>zz c
   | .Name x _=>l4 sc x
   | .BinOp l op r _=>(aB n sc l).bind fun a=>(aB n sc r).bind fun b=>some (.bin op a b)
   | .UnaryOp op x _=>D4 (aB n sc) x op
   | .BoolOp op vs _=>(mapO (aB n sc) vs).bind fun l=>some (.boolop op l)
   | .Compare l ops cs _=>(aB n sc l).bind fun a=>(mapO (aB n sc) cs).bind fun m=>some (.cmp a ops m)
   | .IfExp t a b _=>(aB n sc t).bind fun t'=>(aB n sc a).bind fun a'=>(aB n sc b).bind fun b'=>some (.ite t' a' b')
   | .List es _=>(mapO (aB n sc) es).bind fun l=>some (.list l)
   | .Tuple es _ _=>(mapO (aB n sc) es).bind fun l=>some (.tup l)
   | .Subscript v i _=>xh (aB n sc) v i (pZ i)
   | .Call f as ks p=>if ks.isEmpty then sJ (aB n sc) as p f (lr f) else none
   | .Attribute o m _=>if eu o then none else (aB n sc o).bind fun a=>some (.attr a (nm m))
   | .ListComp elt gens sc' _=>if eX sc sc'&&gens.all (fun g=>g.is_async==0&&ge g.iter) then BO (aB n sc) (aB n sc') sc sc' elt gens else none
   | .DictComp k v gens sc' _=>if eX sc sc' then BP (aB n sc) (aB n sc') sc sc' k v gens else none
   | _=>none
noncomputable def xg (sc:Scope) (n:Nat) (e:Expr):Option (Expr × Str × Pos)->Option (Ex->St)
 | some q=>if eu q.1 then none else (aB n sc q.1).map fun a e=>.setattr a (nm q.2.1) e
 | none=>(ca sc e).map fun xs e=>.assign xs (decide (xs.length≠1)) e
noncomputable def qp (sc:Scope) (n:Nat) (e:Expr):Option (Ex->St):=xg sc n e (lr e)
noncomputable def Dg:Option (List Expr × Nat × Pos)->Bool
 | some q=>q.1.all (constantsAlone 8)
 | none=>false
noncomputable def jI (e:Expr):Bool:=Dg (CT e)
noncomputable def BN (er:Expr->Option Ex) (sc:Scope) (op:Operator) (v e:Expr):Option (Expr × Str × Pos)->Option St
 | some q=>(er q.1).bind fun a=>(er v).bind fun e=>some (.augattr a (nm q.2.1) op e)
 | none=>(fA sc e).bind fun y=>(er v).bind fun e=>some (.aug y op e)
noncomputable def A6 (er:Expr->Option Ex) (sc:Scope) (op:Operator) (v e:Expr):Option St:=BN er sc op v e (lr e)
noncomputable def kN (e:Ex):Bool:=e.ctorIdx==20||e.ctorIdx==21
noncomputable def noComp (e:Expr):Bool:=(PySem.swapsWith.match_1 (fun _=>Option Scope) e (fun _ _ s _=>some s) (fun _ _ s _=>some s) (fun _ _ _ s _=>some s) fun _=>none).isNone
noncomputable def Dp (sc:Scope) (n:Nat) (v:Expr):List Expr->Option St
 | [t]=>if jI v then none else (qp sc n t).bind fun k=>(aB n sc v).bind fun e=>if kN e||noComp v then some (k e) else none
 | _=>none
noncomputable def bT:Nat->Scope->Stmt->Option St
 | 0,_,_=>none
 | n+1,sc,s=>match s with
   | .Assign ts v _=>Dp sc n v ts
   | .AugAssign t op v _=>A6 (aB n sc) sc op v t
   | .If t a b _=>(aB n sc t).bind fun t=>(mapO (bT n sc) a).bind fun a=>(mapO (bT n sc) b).bind fun b=>some (.ifs t a b)
   | .For t it a b _=>if ge it then (ca sc t).bind fun xs=>(aB n sc it).bind fun it=>(mapO (bT n sc) a).bind fun a=>(mapO (bT n sc) b).bind fun b=>some (.for_ xs it a b) else none
   | .While t a b _=>if b.isEmpty then (aB n sc t).bind fun t=>(mapO (bT n sc) a).bind fun a=>some (.while_ t a) else none
   | .Return o _=>o.bind fun e=>(aB n sc e).bind fun e=>some (.ret e)
   | .Break _=>some .brk
   | .Continue _=>some .cont
   | .Expr e _=>if noComp e then (aB n sc e).bind fun e=>some (.expr e) else none
   | _=>none
end
section
open PySem PyProof.Rows
structure Cx where
 prog:Program
 w:World
 mg:Str->Option Value
 mb:Str->Option Value
 base:Heap
 os:OsState
 gens:Array GenState
 tab:Addr
 cod:Addr
 glob:Nm->Option V
 K:PySem.W.Frag
 cls:Addr
 rc:Addr
 lamP:Arguments
 lamB:Expr
 lamS:Scope
 lamN:Str
 lamQ:Str
structure Wld where
 φ:Nat->Addr
 ψ:Nat->Addr
 χ:Nat->Addr
 Z:Addr->Prop
noncomputable abbrev cW (items:Array Value) (k:Nat):Obj:={ cls:=.type "list",data:=.seq items k }
noncomputable abbrev yI (items:Array Value) (k:Nat):Obj:={ cls:=.type "tuple",data:=.seq items k }
noncomputable def wB (ks:List Int) (as:List Value) (k:Int):Option Value:=(ks.zip as).lookup k
mutual
noncomputable def VRel (C:Cx) (X:Wld) (n:Nat) (h:Heap):V->Value->Prop
 | .none,a=>a=.none
 | .bool b,a=>a=.bool b
 | .int i,a=>∃ t,a=.int i t
 | .flt x,a=>∃ t,a=.float x t
 | .str s,a=>∃ t,a=.str (ao s) t
 | .tup vs,a=>∃ p items k,a=.ref p/\X.Z p/\h.get? p=some (yI items k)/\VsRel C X n h vs items.toList
 | .list vs,a=>∃ p items k,a=.ref p/\X.Z p/\h.get? p=some (cW items k)/\VsRel C X n h vs items.toList
 | .dict ks vs,a=>∃ p as,a=.ref p/\X.Z p/\p≠sysModules/\h.MapOf (intKind C.prog C.w) p (wB ks as)/\VsRel C X n h vs as
 | .rng lo hi,a=>∃ p t u v,a=.ref p/\X.Z p/\IsRange h p lo hi 1 t u v
 | .loc l,a=>l<n/\a=.ref (X.φ l)
 | .fn k,a=>a=.ref k
 | .bf b,a=>a=b.val
 | .flu x,a=>∃ t,(t==0)=false/\a=.float x t
noncomputable def VsRel (C:Cx) (X:Wld) (n:Nat) (h:Heap):List V->List Value->Prop
 | [],as=>as=[]
 | v::vs,as=>∃ a r,as=a::r/\VRel C X n h v a/\VsRel C X n h vs r
end
theorem VsRel.mono {C:Cx} {X X':Wld} {n n':Nat} {h h':Heap} (hk:∀ b o,X.Z b->h.get? b=some o->h'.get? b=some o) (hz:∀ b,X.Z b->X'.Z b) (hn:n<=n') (hf:∀ l,l<n->X'.φ l=X.φ l) {vs:List V}:∀ {as:List Value},VsRel C X n h vs as->VsRel C X' n' h' vs as:=fun {as} =>
 V.rec_1 (motive_1:=fun v=>∀ a,VRel C X n h v a->VRel C X' n' h' v a) (motive_2:=fun vs=>∀ as,VsRel C X n h vs as->VsRel C X' n' h' vs as)
  (fun _ r=>r) (fun _ _ r=>r) (fun _ _ r=>r) (fun _ _ r=>r) (fun _ _ r=>r)
  (fun _ ih _ r=>r.imp fun _ r=>r.imp fun _ r=>r.imp fun _ r=>⟨r.1,hz _ r.2.1,hk _ _ r.2.1 r.2.2.1,ih _ r.2.2.2⟩)
  (fun _ ih _ r=>r.imp fun _ r=>r.imp fun _ r=>r.imp fun _ r=>⟨r.1,hz _ r.2.1,hk _ _ r.2.1 r.2.2.1,ih _ r.2.2.2⟩)
  (fun _ _ ih _ r=>r.imp fun _ r=>r.imp fun _ r=>⟨r.1,hz _ r.2.1,r.2.2.1,r.2.2.2.1.imp fun _ g=>g.imp fun _ g=>g.imp fun _ g=>⟨hk _ _ r.2.1 g.1,g.2⟩,ih _ r.2.2.2.2⟩)
  (fun _ _ _ r=>r.imp fun _ r=>r.imp fun _ r=>r.imp fun _ r=>r.imp fun _ r=>⟨r.1,hz _ r.2.1,hk _ _ r.2.1 r.2.2⟩)
  (fun _ _ r=>⟨Nat.lt_of_lt_of_le r.1 hn,r.2.trans (congrArg Value.ref (hf _ r.1).symm)⟩)
  (fun _ _ r=>r) (fun _ _ r=>r) (fun _ _ r=>r) (fun _ r=>r)
  (fun _ _ i1 i2 _ r=>r.imp fun _ r=>r.imp fun _ r=>⟨r.1,i1 _ r.2.1,i2 _ r.2.2⟩) vs as
theorem VRel.mono {C:Cx} {X X':Wld} {n n':Nat} {h h':Heap} (hk:∀ b o,X.Z b->h.get? b=some o->h'.get? b=some o) (hz:∀ b,X.Z b->X'.Z b) (hn:n<=n') (hf:∀ l,l<n->X'.φ l=X.φ l) {v:V} {a:Value} (r:VRel C X n h v a):VRel C X' n' h' v a:=by
 have q:VsRel C X n h [v] [a]:=⟨a,[],rfl,r,rfl⟩
 obtain ⟨_,_,e,r,_⟩:=VsRel.mono hk hz hn hf q
 obtain ⟨rfl,_⟩:=List.cons.inj e
 exact r
theorem VsRel.nil {C X n h}:VsRel C X n h [] []:=by rfl
theorem VsRel.cons {C X n h v vs a as} (r1:VRel C X n h v a) (r2:VsRel C X n h vs as):VsRel C X n h (v::vs) (a::as):=by
 exact ⟨a,as,rfl,r1,r2⟩
theorem VsRel.inv_cons {C X n h v vs as} (r:VsRel C X n h (v::vs) as):∃ a q,as=a::q/\VRel C X n h v a/\VsRel C X n h vs q:=by
 exact r
theorem VsRel.inv_nil {C X n h as} (r:VsRel C X n h [] as):as=[]:=r
theorem VsRel.length {C X n h} {vs:List V}:∀ {as:List Value},VsRel C X n h vs as->as.length=vs.length:=by
 induction vs with
 | nil=>intro as r;rw [r.inv_nil];rfl
 | cons v vs ih=>intro as r;obtain ⟨a,q,rfl,_,r2⟩:=r;exact congrArg (·+1) (ih r2)
theorem VsRel.app {C X n h} {vs us:List V} {as bs:List Value} (r:VsRel C X n h vs as) (r':VsRel C X n h us bs):VsRel C X n h (vs++us) (as++bs):=by
 induction vs generalizing as with
 | nil=>rw [r.inv_nil];exact r'
 | cons v vs ih=>obtain ⟨a,q,rfl,r1,r2⟩:=r;exact .cons r1 (ih r2)
theorem VsRel.get {C X n h} {vs:List V}:∀ {as:List Value} (i:Nat) {v:V},VsRel C X n h vs as->vs[i]?=some v->∃ a,as[i]?=some a/\VRel C X n h v a:=by
 induction vs with
 | nil=>intro _ _ _ _ e;exact bn e
 | cons u us ih =>
   intro as i v r e
   obtain ⟨a,q,rfl,r1,r2⟩:=r
   cases i with
   | zero=>exact ⟨a,rfl,Option.some.inj e▸r1⟩
   | succ j=>exact ih j r2 e
theorem VsRel.getA {C X n h} {vs:List V}:∀ {as:List Value} (i:Nat) {a:Value},VsRel C X n h vs as->as[i]?=some a->∃ v,vs[i]?=some v/\VRel C X n h v a:=by
 induction vs with
 | nil=>intro as i a r e;rw [r.inv_nil] at e;exact bn e
 | cons u us ih =>
   intro as i a r e
   obtain ⟨a',q,rfl,r1,r2⟩:=r
   cases i with
   | zero=>exact ⟨u,rfl,Option.some.inj e▸r1⟩
   | succ j=>exact ih j r2 e
noncomputable def foot (X:Wld) (l:Nat):O->List Addr
 | .list _=>[X.φ l]
 | .liter _=>[X.φ l]
 | .lexer ..=>[X.ψ l]
 | .citer ..=>[X.φ l]
noncomputable def Wr (C:Cx) (σ:Sto) (X:Wld) (b:Addr):Prop:=b=C.tab\/∃ l o,σ.get l=some o/\b∈foot X l o
end
section
open PySem PyProof.Rows
noncomputable abbrev aS:Str := "lineno"
noncomputable abbrev aN:Str := "instream"
noncomputable abbrev bZ:Str := "whitespace"
noncomputable abbrev dN:Str := "pushback"
noncomputable abbrev bQ:Str := "read"
noncomputable abbrev bC:Str := "left"
noncomputable abbrev white:Str := "\n\t\r "
inductive StreamAt (C:Cx) (X:Wld) (h:Heap) (f:Addr) (left:Addr):Prop
 | mk (o:Obj) (fd:FuncData) (df g cell c:Addr) (hs:Int) (tk:Tok) (k:Nat) (pm ctv:Value) (z1:X.Z f) (g1:h.get? f=some o) (e1:o.cls=.type "function") (e2:o.dict=some df) (e3:o.data=.func fd)
   (z2:X.Z df) (g2:h.get? df=some (PySem.W.dictOf [⟨hs,.str bQ tk,.ref g⟩] k)) (z3:X.Z g) (g3:h.get? g=some (PySem.W.kla_obj C.lamN C.lamQ C.lamP C.lamB C.lamS [(bC,cell)] pm c ctv))
   (z4:X.Z cell) (g4:h.IsCell cell (some (.ref left))) (z5:X.Z c) (g5:h.CodeRec (.ref c) C.lamQ)
set_option genInjectivity false in
set_option genSizeOf false in
structure LD where
 h1:Int
 h2:Int
 h3:Int
 h4:Int
 t1:Tok
 t2:Tok
 t3:Tok
 t4:Tok
 t5:Tok
 t6:Tok
 k:Nat
noncomputable abbrev j3 (d:LD) (line:Int) (f pb:Addr):Obj :=
 PySem.W.dictOf [⟨d.h1,.str aS d.t1,.int line d.t5⟩,⟨d.h2,.str aN d.t2,.ref f⟩,⟨d.h3,.str bZ d.t3,.str white d.t6⟩,⟨d.h4,.str dN d.t4,.ref pb⟩] d.k
structure LexAt (C:Cx) (X:Wld) (n:Nat) (h:Heap) (l:Nat) (lf:Nat) (line:Int) (pb:Nat):Prop where
 hlf:lf<n
 hpb:pb<n
 zi:X.Z (X.φ l)
 inst:h.get? (X.φ l)=some (PySem.W.instObj C.cls (X.ψ l))
 dict:∃ d f,h.get? (X.ψ l)=some (j3 d line f (X.φ pb))/\StreamAt C X h f (X.φ lf)
noncomputable abbrev jK (bm:Addr) (t:Tok):Obj:={ cls:=.type "callable_iterator",data:=.fields #[.ref bm,.str Str.empty t,.bool false] }
noncomputable abbrev qi:Obj:={ cls:=.type "callable_iterator",data:=.fields #[.none,.none,.bool true] }
noncomputable def ORel (C:Cx) (X:Wld) (n:Nat) (h:Heap) (l:Nat):O->Prop
 | .list vs=>∃ items k,h.get? (X.φ l)=some (cW items k)/\VsRel C X n h vs items.toList
 | .liter vs=>∃ p i items k,h.IsListIter (X.φ l) p i/\X.Z p/\h.get? p=some (cW items k)/\VsRel C X n h vs (items.toList.drop i)/\i<=items.size
 | .lexer lf line pb=>LexAt C X n h l lf line pb
 | .citer lx true=>lx<n/\∃ bm t,h.get? (X.φ l)=some (jK bm t)/\X.Z bm/\h.get? bm=some (PySem.W.methodObj (.ref C.rc) (.ref (X.φ lx)))
 | .citer lx false=>lx<n/\h.get? (X.φ l)=some qi
noncomputable def TabOk (C:Cx) (X:Wld) (h:Heap) (ps:Array Value):Prop:=TriplesOk ps.toList/\∀ pos cv,codeAmong pos ps.toList=some cv->∃ c,cv=.ref c/\X.Z c/\h.CodeRec (.ref c) C.lamQ
theorem kG {h h':Heap} {c:Addr} {q:Str} (r:h.CodeRec (.ref c) q) (k:∀ o,h.get? c=some o->h'.get? c=some o):h'.CodeRec (.ref c) q:=by
 obtain ⟨a,o,vs,t,e,g,q⟩:=r
 cases e
 exact ⟨c,o,vs,t,rfl,k _ g,q⟩
theorem TabOk.mono {C X X' h h' ps} (r:TabOk C X h ps) (hk:∀ b o,X.Z b->h.get? b=some o->h'.get? b=some o) (hz:∀ b,X.Z b->X'.Z b):TabOk C X' h' ps :=
 ⟨r.1,fun pos cv e=>let ⟨c,e1,z,g⟩:=r.2 pos cv e;⟨c,e1,hz _ z,kG g fun _=>hk _ _ z⟩⟩
theorem StreamAt.mono {C X X' h h' f left} (r:StreamAt C X h f left) (hk:∀ b o,X.Z b->h.get? b=some o->h'.get? b=some o) (hz:∀ b,X.Z b->X'.Z b):StreamAt C X' h' f left:=by
 cases r with
 | mk o fd df g cell c hs tk k pm ctv z1 g1 e1 e2 e3 z2 g2 z3 g3 z4 g4 z5 g5 =>
   exact .mk o fd df g cell c hs tk k pm ctv (hz _ z1) (hk _ _ z1 g1) e1 e2 e3 (hz _ z2) (hk _ _ z2 g2) (hz _ z3) (hk _ _ z3 g3) (hz _ z4) (g4.imp fun _ q=>⟨hk _ _ z4 q.1,q.2⟩) (hz _ z5) (kG g5 fun _=>hk _ _ z5)
structure SRel (C:Cx) (σ:Sto) (X:Wld) (s:Shared):Prop where
 base:∀ b o,C.base.get? b=some o->b≠C.tab->s.heap.get? b=some o
 tab:∃ ps,s.heap.get? C.tab=some (PySem.W.tabObj ps)/\TabOk C X s.heap ps
 zb:∀ b o,C.base.get? b=some o->b≠C.tab->X.Z b
 zl:∀ b,X.Z b->∃ o,s.heap.get? b=some o
 os:s.os=C.os
 gens:s.gens=C.gens
 lt:∀ l o,σ.get l=some o->l<σ.next
 obj:∀ l o,σ.get l=some o->ORel C X σ.next s.heap l o
 apart:∀ l l' o o' b,σ.get l=some o->σ.get l'=some o'->b∈foot X l o->b∈foot X l' o'->l=l'
 zw:∀ b,Wr C σ X b->¬ X.Z b
 wl:∀ b,Wr C σ X b->∃ o,s.heap.get? b=some o
structure Evo (C:Cx) (P:Addr->Prop) (σ:Sto) (X:Wld) (s:Shared) (σ':Sto) (X':Wld) (s':Shared):Prop where
 size:s.heap.objs.size<=s'.heap.objs.size
 keep:∀ b o,s.heap.get? b=some o->¬ Wr C σ X b->¬ P b->s'.heap.get? b=some o
 zm:∀ b,X.Z b->X'.Z b
 zn:∀ b,X'.Z b->X.Z b\/s.heap.objs.size<=b\/Wr C σ X b
 wn:∀ b,Wr C σ' X' b->Wr C σ X b\/s.heap.objs.size<=b
 nx:σ.next<=σ'.next
 ph:∀ l,l<σ.next->X'.φ l=X.φ l/\X'.ψ l=X.ψ l/\X'.χ l=X.χ l
theorem Evo.refl {C P σ X s}:Evo C P σ X s σ X s:=⟨Nat.le_refl _,fun _ _ e _ _=>e,fun _ z=>z,fun _ z=>.inl z,fun _ w=>.inl w,Nat.le_refl _,fun _ _=>⟨rfl,rfl,rfl⟩⟩
theorem Evo.comp {C P P1 P2 σ X s σ1 X1 s1 σ2 X2 s2} (e1:Evo C P1 σ X s σ1 X1 s1) (e2:Evo C P2 σ1 X1 s1 σ2 X2 s2) (p1:∀ b,P1 b->P b) (p2:∀ b,b<s.heap.objs.size->P2 b->P b):Evo C P σ X s σ2 X2 s2 where
 size:=Nat.le_trans e1.size e2.size
 keep:=fun b o e nw np=>e2.keep b o (e1.keep b o e nw fun h=>np (p1 b h)) (fun w=>(e1.wn b w).elim nw fun h=>Nat.lt_irrefl _ (Nat.lt_of_lt_of_le (Heap.lt_size e) h)) fun h=>np (p2 b (Heap.lt_size e) h)
 zm:=fun b z=>e2.zm b (e1.zm b z)
 zn:=fun b z=>by
  rcases e2.zn b z with z | h | w
  ·exact e1.zn b z
  ·exact .inr (.inl (Nat.le_trans e1.size h))
  ·exact (e1.wn b w).elim (fun w=>.inr (.inr w)) fun h=>.inr (.inl h)
 wn:=fun b w=>by
  rcases e2.wn b w with w | h
  ·exact e1.wn b w
  ·exact .inr (Nat.le_trans e1.size h)
 nx:=Nat.le_trans e1.nx e2.nx
 ph:=fun l hl=>by
  obtain ⟨a1,a2,a3⟩:=e1.ph l hl
  obtain ⟨b1,b2,b3⟩:=e2.ph l (Nat.lt_of_lt_of_le hl e1.nx)
  exact ⟨b1.trans a1,b2.trans a2,b3.trans a3⟩
theorem Evo.trans {C P σ X s σ1 X1 s1 σ2 X2 s2} (e1:Evo C P σ X s σ1 X1 s1) (e2:Evo C P σ1 X1 s1 σ2 X2 s2):Evo C P σ X s σ2 X2 s2:=e1.comp e2 (fun _ h=>h) fun _ _ h=>h
theorem Evo.weak {C P P' σ X s σ1 X1 s1} (e1:Evo C P σ X s σ1 X1 s1) (h:∀ b,P b->P' b):Evo C P' σ X s σ1 X1 s1:=e1.comp (P2:=P') .refl h fun _ _ h=>h
noncomputable abbrev NoP:Addr->Prop:=fun _=>False
theorem Evo.of0 {C P σ X s σ1 X1 s1} (e1:Evo C NoP σ X s σ1 X1 s1):Evo C P σ X s σ1 X1 s1:=e1.weak fun _ h=>h.elim
theorem Evo.zkeep {C P σ X s σ' X' s'} (e:Evo C P σ X s σ' X' s') (S:SRel C σ X s) (hP:∀ b,P b->¬ X.Z b):∀ b o,X.Z b->s.heap.get? b=some o->s'.heap.get? b=some o :=
 fun b o z g=>e.keep b o g (fun w=>S.zw b w z) fun p=>hP b p z
theorem Evo.rel {C P σ X s σ' X' s' v a} (e:Evo C P σ X s σ' X' s') (S:SRel C σ X s) (hP:∀ b,P b->¬ X.Z b) (r:VRel C X σ.next s.heap v a):VRel C X' σ'.next s'.heap v a :=
 r.mono (e.zkeep S hP) e.zm e.nx fun l hl=>(e.ph l hl).1
theorem Evo.rels {C P σ X s σ' X' s' v a} (e:Evo C P σ X s σ' X' s') (S:SRel C σ X s) (hP:∀ b,P b->¬ X.Z b) (r:VsRel C X σ.next s.heap v a):VsRel C X' σ'.next s'.heap v a :=
 r.mono (e.zkeep S hP) e.zm e.nx fun l hl=>(e.ph l hl).1
theorem ORel.mono {C X X' n n' h h' l o} (r:ORel C X n h l o) (hk:∀ b o,X.Z b->h.get? b=some o->h'.get? b=some o) (hw:∀ b o',b∈foot X l o->h.get? b=some o'->h'.get? b=some o')
 (hz:∀ b,X.Z b->X'.Z b) (hn:n<=n') (hf:∀ l,l<n->X'.φ l=X.φ l/\X'.ψ l=X.ψ l/\X'.χ l=X.χ l) (hl:l<n):ORel C X' n' h' l o:=by
 have hf1:∀ l,l<n->X'.φ l=X.φ l:=fun l hl=>(hf l hl).1
 have a1:=(hf l hl).1
 have a2:=(hf l hl).2.1
 have one:∀ b:Addr,b∈[b]:=fun _=>.head _
 cases o with
 | list vs=>exact r.imp fun _ r=>r.imp fun _ r=>⟨by rw [a1];exact hw _ _ (one _) r.1,r.2.mono hk hz hn hf1⟩
 | liter vs=>exact r.imp fun _ r=>r.imp fun _ r=>r.imp fun _ r=>r.imp fun _ r=>⟨by rw [a1];exact r.1.at fun o e=>hw _ o (one _) e,hz _ r.2.1,hk _ _ r.2.1 r.2.2.1,r.2.2.2.1.mono hk hz hn hf1,r.2.2.2.2⟩
 | lexer lf line pb =>
   exact ⟨Nat.lt_of_lt_of_le r.hlf hn,Nat.lt_of_lt_of_le r.hpb hn,by rw [a1];exact hz _ r.zi,by rw [a1,a2];exact hk _ _ r.zi r.inst,r.dict.imp fun _ r'=>r'.imp fun _ r'=>⟨by rw [a2,hf1 _ r.hpb];exact hw _ _ (one _) r'.1,by rw [hf1 _ r.hlf];exact r'.2.mono hk hz⟩⟩
 | citer lx live =>
   cases live with
   | true=>exact ⟨Nat.lt_of_lt_of_le r.1 hn,r.2.imp fun _ q=>q.imp fun _ q=>⟨by rw [a1];exact hw _ _ (one _) q.1,hz _ q.2.1,by rw [hf1 _ r.1];exact hk _ _ q.2.1 q.2.2⟩⟩
   | false=>exact ⟨Nat.lt_of_lt_of_le r.1 hn,by rw [a1];exact hw _ _ (one _) r.2⟩
structure Grow (s s':Shared):Prop where
 keep:∀ b o,s.heap.get? b=some o->s'.heap.get? b=some o
 size:s.heap.objs.size<=s'.heap.objs.size
 os:s'.os=s.os
 gens:s'.gens=s.gens
theorem Grow.toks {s:Shared} (t:Nat):Grow s { s with toks:=t }:=⟨fun _ _ e=>e,Nat.le_refl _,rfl,rfl⟩
theorem Grow.push {s:Shared} (o:Obj):Grow s { s with heap:=s.heap.push o }:=⟨fun _ _ e=>Heap.get?_push_of_some _ e,by rw [Heap.size_push];lia -abstractProof,rfl,rfl⟩
theorem Grow.pusht {s:Shared} (o:Obj) (t:Nat):Grow s { s with heap:=s.heap.push o,toks:=t }:=⟨fun _ _ e=>Heap.get?_push_of_some _ e,by show _<=(s.heap.push o).objs.size;rw [Heap.size_push];lia -abstractProof,rfl,rfl⟩
noncomputable def Wld.more (X:Wld) (N:Addr->Prop):Wld:={ X with Z:=fun b=>X.Z b\/N b }
theorem SRel.grow {C σ X s s'} (S:SRel C σ X s) (G:Grow s s') (N:Addr->Prop) (hN:∀ b,N b->s.heap.objs.size<=b/\∃ o,s'.heap.get? b=some o) :
 SRel C σ (X.more N) s'/\Evo C NoP σ X s σ (X.more N) s':=by
 refine ⟨⟨fun b o e n=>G.keep _ _ (S.base b o e n),S.tab.imp fun ps t=>⟨G.keep _ _ t.1,t.2.mono (fun b o _ e=>G.keep b o e) fun b z=>.inl z⟩,fun b o e n=>.inl (S.zb b o e n),fun b z=>?_,G.os.trans S.os,G.gens.trans S.gens,S.lt,fun l o e=>?_,fun l l' o o' b e e' m m'=>?_,fun b w z=>?_,fun b w=>?_⟩,
  ⟨G.size,fun b o e _ _=>G.keep b o e,fun b z=>.inl z,fun b z=>z.imp id fun n=>.inl (hN b n).1,fun b w=>.inl w,Nat.le_refl _,fun l _=>⟨rfl,rfl,rfl⟩⟩⟩
 ·exact z.elim (fun z=>(S.zl b z).imp fun o e=>G.keep _ _ e) fun n=>(hN b n).2
 ·exact (S.obj l o e).mono (fun b o _ e=>G.keep b o e) (fun b o _ e=>G.keep b o e) (fun b z=>.inl z) (Nat.le_refl _) (fun _ _=>⟨rfl,rfl,rfl⟩) (S.lt l o e)
 ·exact S.apart l l' o o' b e e' m m'
 ·rcases z with z | n
  ·exact S.zw b w z
  ·obtain ⟨o,e⟩:=S.wl b w
   exact Nat.lt_irrefl _ (Nat.lt_of_lt_of_le (Heap.lt_size e) (hN b n).1)
 ·obtain ⟨o,e⟩:=S.wl b w;exact ⟨o,G.keep _ _ e⟩
theorem SRel.grow0 {C σ X s s'} (S:SRel C σ X s) (G:Grow s s'):SRel C σ X s'/\Evo C NoP σ X s σ X s':=by
 obtain ⟨a,b⟩:=S.grow G (fun _=>False) (fun _ h=>h.elim)
 have e:X.more (fun _=>False)=X:=by
  obtain ⟨f1,f2,f3,f4⟩:=X
  simp [Wld.more]
 rw [e] at a b
 exact ⟨a,b⟩
noncomputable def Pl (env:Env) (b:Addr):Prop:=b=env.locals\/∃ x,env.cells.lookup x=some b
structure Frm (C:Cx) (env:Env) (sc:Scope) (ρ:Loc) (X:Wld) (n:Nat) (h:Heap):Prop where
 kind:env.scope.kind=.function
 kl:∀ x,kindIn sc x=some .local->env.kindOf x=some .local
 kc:∀ x,kindIn sc x=some .cell->env.kindOf x=some .cell
 kf:∀ x,kindIn sc x=some .free->env.kindOf x=some .free\/env.kindOf x=some .cell
 kg:∀ x,kindIn sc x=some .globalImplicit->env.kindOf x=some .globalImplicit
 gl:env.globals=mainGlobals
 bt:env.builtins=builtinsNs
 ns:∃ m,h.Ns env.locals m/\∀ x v,get ρ x=some v->kindIn sc (ao x)=some .local->∃ a,m (ao x)=some a/\VRel C X n h v a
 cl:∀ x,(kindIn sc x=some .cell\/kindIn sc x=some .free)->∃ c,env.cells.lookup x=some c
 cv:∀ x v,get ρ x=some v->(kindIn sc (ao x)=some .cell\/kindIn sc (ao x)=some .free)->∃ c a,env.cells.lookup (ao x)=some c/\h.IsCell c (some a)/\VRel C X n h v a
 live:∀ x c,env.cells.lookup x=some c->∃ v,h.IsCell c v
 apart:∀ x y c,env.cells.lookup x=some c->env.cells.lookup y=some c->x=y
 ne:∀ x c,env.cells.lookup x=some c->c≠env.locals
structure Rel (C:Cx) (env:Env) (sc:Scope) (ρ:Loc) (σ:Sto) (X:Wld) (s:Shared):Prop where
 S:SRel C σ X s
 F:Frm C env sc ρ X σ.next s.heap
 pz:∀ b,Pl env b->¬ X.Z b
 pw:∀ b,Pl env b->¬ Wr C σ X b
theorem Frm.pl {C env sc ρ X n h} (F:Frm C env sc ρ X n h) {b:Addr} (p:Pl env b):∃ o,h.get? b=some o:=by
 rcases p with rfl | ⟨x,e⟩
 ·obtain ⟨m,⟨o,_,_,ho,_⟩,_⟩:=F.ns;exact ⟨o,ho⟩
 ·obtain ⟨v,o,ho,_⟩:=F.live x b e;exact ⟨o,ho⟩
theorem Frm.mono {C env sc ρ ρ' X X' n n' h h'} (F:Frm C env sc ρ X n h) (hp:∀ b o,Pl env b->h.get? b=some o->h'.get? b=some o) (hk:∀ b o,X.Z b->h.get? b=some o->h'.get? b=some o)
 (hz:∀ b,X.Z b->X'.Z b) (hn:n<=n') (hf:∀ l,l<n->X'.φ l=X.φ l) (hr:∀ x v,get ρ' x=some v->get ρ x=some v):Frm C env sc ρ' X' n' h' where
 kind:=F.kind
 kl:=F.kl
 kc:=F.kc
 kf:=F.kf
 kg:=F.kg
 gl:=F.gl
 bt:=F.bt
 ns:=by
  obtain ⟨m,hm,q⟩:=F.ns
  refine ⟨m,hm.at' fun o e=>hp _ o (.inl rfl) e,fun x v e k=>?_⟩
  obtain ⟨a,e1,r⟩:=q x v (hr x v e) k
  exact ⟨a,e1,r.mono hk hz hn hf⟩
 cl:=F.cl
 cv:=fun x v e k=>by
  obtain ⟨c,a,e1,⟨o,g,d⟩,r⟩:=F.cv x v (hr x v e) k
  exact ⟨c,a,e1,⟨o,hp _ _ (.inr ⟨_,e1⟩) g,d⟩,r.mono hk hz hn hf⟩
 live:=fun x c e=>by
  obtain ⟨v,o,g,d⟩:=F.live x c e
  exact ⟨v,o,hp _ _ (.inr ⟨_,e⟩) g,d⟩
 apart:=F.apart
 ne:=F.ne
theorem Rel.evo {C env sc ρ σ X s σ' X' s' P} (R:Rel C env sc ρ σ X s) (S':SRel C σ' X' s') (e:Evo C P σ X s σ' X' s') (hP:∀ b,Pl env b->¬ P b) (hPz:∀ b,P b->¬ X.Z b):Rel C env sc ρ σ' X' s' where
 S:=S'
 F:=R.F.mono (fun b o p g=>e.keep b o g (R.pw b p) (hP b p)) (e.zkeep R.S hPz) e.zm e.nx (fun l hl=>(e.ph l hl).1) fun _ _ h=>h
 pz:=fun b p z=>by
  obtain ⟨o,g⟩:=R.F.pl p
  rcases e.zn b z with z | h | w
  ·exact R.pz b p z
  ·exact Nat.lt_irrefl _ (Nat.lt_of_lt_of_le (Heap.lt_size g) h)
  ·exact R.pw b p w
 pw:=fun b p w=>by
  obtain ⟨o,g⟩:=R.F.pl p
  rcases e.wn b w with w | h
  ·exact R.pw b p w
  ·exact Nat.lt_irrefl _ (Nat.lt_of_lt_of_le (Heap.lt_size g) h)
theorem Rel.evo0 {C env sc ρ σ X s σ' X' s'} (R:Rel C env sc ρ σ X s) (S':SRel C σ' X' s') (e:Evo C NoP σ X s σ' X' s'):Rel C env sc ρ σ' X' s':=R.evo S' e (fun _ _ h=>h) fun _ h=>h.elim
theorem Rel.less {C env sc ρ ρ' σ X s} (R:Rel C env sc ρ σ X s) (hr:∀ x v,get ρ' x=some v->get ρ x=some v):Rel C env sc ρ' σ X s :=
 ⟨R.S,R.F.mono (fun _ _ _ e=>e) (fun _ _ _ e=>e) (fun _ z=>z) (Nat.le_refl _) (fun _ _=>rfl) hr,R.pz,R.pw⟩
structure Room (k:Nat) (A:Around):Prop where
 depth:A.depth+k<=900
 units:A.units+20*k<=9000
 handled:A.handled=none
theorem Room.mono {k k' A} (r:Room k A) (h:k'<=k):Room k' A:=⟨Nat.le_trans (Nat.add_le_add_left h _) r.depth,Nat.le_trans (Nat.add_le_add_left (Nat.mul_le_mul_left _ h) _) r.units,r.handled⟩
noncomputable def EvE (C:Cx) (k:Nat) (e':Ex) (ρ:Loc) (σ:Sto) (v:V) (σ':Sto):Prop :=
 ∀ (n:Nat) (sc:Scope) (e:Expr),aB n sc e=some e'->∀ (A:Around) (env:Env) (X:Wld) (s:Shared),Room k A->Rel C env sc ρ σ X s ->
   ∀ (Q:Value->Shared->Prop) (E:Value->Shared->Prop),(∀ a X' s',Rel C env sc ρ σ' X' s'->Evo C (Pl env) σ X s σ' X' s'->VRel C X' σ'.next s'.heap v a->Q a s') ->
     wpAny (model C.prog C.w) A (eval e env) Q E s
noncomputable def EvT (C:Cx) (k:Nat) (e':Ex) (ρ:Loc) (σ:Sto) (b:Bool) (σ':Sto):Prop :=
 ∀ (n:Nat) (sc:Scope) (e:Expr),aB n sc e=some e'->∀ (A:Around) (env:Env) (X:Wld) (s:Shared),Room k A->Rel C env sc ρ σ X s ->
   ∀ (Q:Bool->Shared->Prop) (E:Value->Shared->Prop),(∀ X' s',Rel C env sc ρ σ' X' s'->Evo C (Pl env) σ X s σ' X' s'->Q b s') ->
     wpAny (model C.prog C.w) A (isTrue e env (eval e env)) Q E s
noncomputable def EvL (C:Cx) (k:Nat) (es':List Ex) (ρ:Loc) (σ:Sto) (vs:List V) (σ':Sto):Prop :=
 ∀ (n:Nat) (sc:Scope) (es:List Expr),mapO (aB n sc) es=some es'->∀ (A:Around) (env:Env) (X:Wld) (s:Shared) (pos:Pos),Room k A->Rel C env sc ρ σ X s ->
   ∀ (Q:List Value->Shared->Prop) (E:Value->Shared->Prop),(∀ as X' s',Rel C env sc ρ σ' X' s'->Evo C (Pl env) σ X s σ' X' s'->VsRel C X' σ'.next s'.heap vs as->Q as s') ->
     wpAny (model C.prog C.w) A (spliced (backTo pos (starEach es env))) Q E s
noncomputable def FnOk (C:Cx) (k:Nat) (f:Value) (vs:List V) (σ:Sto) (v:V) (σ':Sto):Prop :=
 ∀ (A:Around) (X:Wld) (s:Shared) (as:List Value),Room k A->SRel C σ X s->VsRel C X σ.next s.heap vs as ->
   ∀ (Q:Value->Shared->Prop) (E:Value->Shared->Prop),(∀ a X' s',SRel C σ' X' s'->Evo C NoP σ X s σ' X' s'->VRel C X' σ'.next s'.heap v a->Q a s') ->
     wpAny (model C.prog C.w) A (call f as) Q E s
noncomputable def k7 (C:Cx) (X:Wld) (n:Nat) (h:Heap):Fl->Flow->Prop
 | .next,.next=>True
 | .brk,.brk=>True
 | .cont,.cont=>True
 | .ret v,.ret a=>VRel C X n h v a
 | _,_=>False
noncomputable def ExS (C:Cx) (k:Nat) (t':St) (ρ:Loc) (σ:Sto) (f:Fl) (ρ':Loc) (σ':Sto):Prop :=
 ∀ (n:Nat) (sc:Scope) (t:Stmt),bT n sc t=some t'->∀ (A:Around) (env:Env) (X:Wld) (s:Shared),Room k A->Rel C env sc ρ σ X s ->
   ∀ (Q:Flow->Shared->Prop) (E:Value->Shared->Prop),(∀ g X' s',Rel C env sc ρ' σ' X' s'->Evo C (Pl env) σ X s σ' X' s' ->
     k7 C X' σ'.next s'.heap f g->Q g s') ->
     wpAny (model C.prog C.w) A (exec t env) Q E s
noncomputable def ExL (C:Cx) (k:Nat) (ts':List St) (ρ:Loc) (σ:Sto) (f:Fl) (ρ':Loc) (σ':Sto):Prop :=
 ∀ (n:Nat) (sc:Scope) (ts:List Stmt),mapO (bT n sc) ts=some ts'->∀ (A:Around) (env:Env) (X:Wld) (s:Shared),Room k A->Rel C env sc ρ σ X s ->
   ∀ (Q:Flow->Shared->Prop) (E:Value->Shared->Prop),(∀ g X' s',Rel C env sc ρ' σ' X' s'->Evo C (Pl env) σ X s σ' X' s' ->
     k7 C X' σ'.next s'.heap f g->Q g s') ->
     wpAny (model C.prog C.w) A (execs ts env) Q E s
end
section
open PySem PyProof.Rows
theorem b2 {α β γ:Type} {x:Option α} {y:Option β} {f:α->β->γ} {c:γ} (h:(x.bind fun a=>y.bind fun b=>some (f a b))=some c):∃ a b,x=some a/\y=some b/\f a b=c:=by
 cases x with
 | none=>cases h
 | some a=>cases y with
   | none=>cases h
   | some b=>exact ⟨a,b,rfl,rfl,Option.some.inj h⟩
theorem b1 {α γ:Type} {x:Option α} {f:α->γ} {c:γ} (h:(x.bind fun a=>some (f a))=some c):∃ a,x=some a/\f a=c:=by
 cases x with
 | none=>cases h
 | some a=>exact ⟨a,rfl,Option.some.inj h⟩
theorem cE {α β:Type} {f:α->Option β} {l:List α} (h:mapO f l=some []):l=[]:=by
 cases l with
 | nil=>rfl
 | cons a l=>obtain ⟨b,m,_,_,h⟩:=b2 h;cases h
theorem aM {α β:Type} {f:α->Option β} {l:List α} {b:β} {m:List β} (h:mapO f l=some (b::m)):∃ a r,l=a::r/\f a=some b/\mapO f r=some m:=by
 cases l with
 | nil=>cases h
 | cons a l=>obtain ⟨b',m',e1,e2,h⟩:=b2 h;cases h;exact ⟨a,l,rfl,e1,e2⟩
noncomputable abbrev A7 (n:Nat) (sc:Scope):Option Expr->Option (Option Ex):=sK (aB n sc)
inductive A1 (sc:Scope):Expr->Prop | mk (k p):A1 sc (.Constant .none k p)
inductive AU (sc:Scope) (b:Bool):Expr->Prop | mk (k p):AU sc b (.Constant (.bool b) k p)
inductive C3 (sc:Scope) (i:Int):Expr->Prop | mk (k p):C3 sc i (.Constant (.int i) k p)
inductive C2 (sc:Scope) (x:UInt64):Expr->Prop | mk (k p):C2 sc x (.Constant (.float x) k p)
inductive C5 (sc:Scope) (s:List Nat):Expr->Prop | mk (x k p) (hn:nm x=s):C5 sc s (.Constant (.str x) k p)
inductive C9 (sc:Scope) (y:Nm):Expr->Prop | mk (x p) (hb:cV x=false) (hv:qK (kindIn sc x)=true) (hn:nm x=y):C9 sc y (.Name x p)
inductive AX (sc:Scope) (y:Nm):Expr->Prop | mk (x p) (hb:cV x=false) (hv:kindIn sc x=some .globalImplicit) (hn:nm x=y):AX sc y (.Name x p)
inductive C0 (sc:Scope) (op:Operator) (a b:Ex):Expr->Prop | mk (n l r p) (h1:aB n sc l=some a) (h2:aB n sc r=some b):C0 sc op a b (.BinOp l op r p)
inductive IUn (sc:Scope) (op:UnaryOp) (a:Ex):Expr->Prop | mk (n x p) (h:aB n sc x=some a):IUn sc op a (.UnaryOp op x p)
inductive tN (sc:Scope) (op:BoolOp) (l:List Ex):Expr->Prop | mk (n vs p) (h:mapO (aB n sc) vs=some l):tN sc op l (.BoolOp op vs p)
inductive C1 (sc:Scope) (a:Ex) (ops:List CmpOp) (m:List Ex):Expr->Prop | mk (n l cs p) (h1:aB n sc l=some a) (h2:mapO (aB n sc) cs=some m):C1 sc a ops m (.Compare l ops cs p)
inductive C4 (sc:Scope) (t' a' b':Ex):Expr->Prop | mk (n t a b p) (h1:aB n sc t=some t') (h2:aB n sc a=some a') (h3:aB n sc b=some b'):C4 sc t' a' b' (.IfExp t a b p)
inductive AY (sc:Scope) (l:List Ex):Expr->Prop | mk (n es p) (h:mapO (aB n sc) es=some l):AY sc l (.List es p)
inductive C7 (sc:Scope) (l:List Ex):Expr->Prop | mk (n es k p) (h:mapO (aB n sc) es=some l):C7 sc l (.Tuple es k p)
inductive wG (sc:Scope) (a:Ex) (l:List (Option Ex)):Expr->Prop | mk (n v lo hi st p p') (h1:aB n sc v=some a) (h2:mapO (A7 n sc) [lo,hi,st]=some l):wG sc a l (.Subscript v (.Slice lo hi st p') p)
inductive C6 (sc:Scope) (a b:Ex):Expr->Prop | mk (n v i p) (hs:pZ i=none) (h1:aB n sc v=some a) (h2:aB n sc i=some b):C6 sc a b (.Subscript v i p)
inductive AZ (sc:Scope) (a:Ex) (y:Nm) (l:List Ex):Expr->Prop
 | mk (n o m p' as p) (hs:eu o=false) (hp:(p'.endLine==p.line)=true) (hl:as.length<29) (h1:aB n sc o=some a) (h2:mapO (aB n sc) as=some l) (hn:nm m=y):AZ sc a y l (.Call (.Attribute o m p') as [] p)
inductive AV (sc:Scope) (a:Ex) (l:List Ex):Expr->Prop | mk (n f as p) (hf:lr f=none) (h1:aB n sc f=some a) (h2:mapO (aB n sc) as=some l):AV sc a l (.Call f as [] p)
inductive AT (sc:Scope) (a:Ex) (y:Nm):Expr->Prop | mk (n o m p) (hs:eu o=false) (h1:aB n sc o=some a) (hn:nm m=y):AT sc a y (.Attribute o m p)
inductive AW (sc:Scope) (a:Ex) (ts:List (List Nm)) (its:List Ex) (ifs:List (List Ex)) (own:List Nm):Expr->Prop
 | mk (n elt g gs sc' p it its') (hs:eX sc sc'=true) (hg:((g::gs).all fun g=>g.is_async==0&&ge g.iter)=true) (h1:aB n sc g.iter=some it)
    (h2:mapO (fun g:Comprehension=>aB n sc' g.iter) gs=some its') (h3:mapO (fun g:Comprehension=>ca sc' g.target) (g::gs)=some ts)
    (h4:mapO (fun g:Comprehension=>mapO (aB n sc') g.ifs) (g::gs)=some ifs) (h5:aB n sc' elt=some a) (he:its=it::its') (ho:own=dW sc'):AW sc a ts its ifs own (.ListComp elt (g::gs) sc' p)
inductive wF (sc:Scope) (k' v':Ex) (y:Nm) (it':Ex) (own:List Nm):Expr->Prop
 | mk (n k v g sc' p) (hs:eX sc sc'=true) (hi:g.ifs=[]) (ha:g.is_async=0) (hn:ge g.iter=true) (h0:fA sc' g.target=some y) (h1:aB n sc g.iter=some it') (h2:aB n sc' k=some k')
    (h3:aB n sc' v=some v') (ho:own=dW sc'):wF sc k' v' y it' own (.DictComp k v [g] sc' p)
noncomputable def CX (sc:Scope) (e:Expr):Ex->Prop
 | .cNone=>A1 sc e | .cBool b=>AU sc b e | .cInt i=>C3 sc i e | .cFlt x=>C2 sc x e | .cStr s=>C5 sc s e
 | .var y=>C9 sc y e | .glob y=>AX sc y e | .bin op a b=>C0 sc op a b e | .neg a=>IUn sc .USub a e | .not a=>IUn sc .Not a e
 | .boolop op l=>tN sc op l e | .cmp a ops m=>C1 sc a ops m e | .ite t a b=>C4 sc t a b e | .list l=>AY sc l e | .tup l=>C7 sc l e
 | .slice a l=>wG sc a l e | .sub a b=>C6 sc a b e | .meth a y l=>AZ sc a y l e | .call a l=>AV sc a l e | .attr a y=>AT sc a y e
 | .comp a ts its ifs own=>AW sc a ts its ifs own e | .dcomp k v y it own=>wF sc k v y it own e | _=>False
theorem kR {c:Bool} {α:Type} {x:Option α} {y:α} (h:(if c=true then none else x)=some y):c=false/\x=some y:=by
 cases c with
 | true=>cases h
 | false=>exact ⟨rfl,h⟩
theorem jB {c:Bool} {α:Type} {x:Option α} {y:α} (h:(if c=true then x else none)=some y):c=true/\x=some y:=by
 cases c with
 | false=>cases h
 | true=>exact ⟨rfl,h⟩
theorem uG {c:Bool} (h:(!c)=false):c=true:=by
 cases c with
 | true=>rfl
 | false=>cases h
theorem erI {n sc e e'} (h:aB n sc e=some e'):CX sc e e':=by
 cases n with
 | zero=>exact bn h
 | succ n =>
   cases e with
   | Constant c k p =>
     cases c with
     | none=>cases h;exact .mk k p
     | bool b=>cases h;exact .mk k p
     | int i=>cases h;exact .mk k p
     | float x=>cases h;exact .mk k p
     | str s=>cases h;exact .mk s k p rfl
     | _=>exact bn h
   | Name x p =>
     obtain ⟨hb,h⟩:=kR (c:=cV x) h
     cases hv:qK (kindIn sc x) with
     | true =>
       rw [hv] at h
       cases h;exact .mk x p hb hv rfl
     | false =>
       rw [hv] at h
       by_cases hk:kindIn sc x=some .globalImplicit
       ·have h2:some (Ex.glob (nm x))=some e':=(if_pos hk).symm.trans h
        cases h2;exact .mk x p hb hk rfl
       ·have h2:none=some e':=(if_neg hk).symm.trans h
        cases h2
   | BinOp l op r p=>obtain ⟨a,b,h1,h2,rfl⟩:=b2 h;exact .mk n l r p h1 h2
   | UnaryOp op x p =>
     cases op with
     | USub=>obtain ⟨a,h1,rfl⟩:=b1 h;exact IUn.mk n x p h1
     | Not=>obtain ⟨a,h1,rfl⟩:=b1 h;exact IUn.mk n x p h1
     | _=>exact bn h
   | BoolOp op vs p=>obtain ⟨a,h1,rfl⟩:=b1 h;exact .mk n vs p h1
   | Compare l ops cs p=>obtain ⟨a,b,h1,h2,rfl⟩:=b2 h;exact .mk n l cs p h1 h2
   | IfExp t a b p =>
     obtain ⟨t',h1,h⟩:=Option.bind_eq_some_iff.mp h
     obtain ⟨a',b',h2,h3,rfl⟩:=b2 h
     exact .mk n t a b p h1 h2 h3
   | List es p=>obtain ⟨a,h1,rfl⟩:=b1 h;exact .mk n es p h1
   | Tuple es k p=>obtain ⟨a,h1,rfl⟩:=b1 h;exact .mk n es k p h1
   | Subscript v i p =>
     cases hsl:pZ i with
     | some q =>
       obtain ⟨a,b,h1,h2,rfl⟩:=b2 ((congrArg (xh (aB n sc) v i) hsl).symm.trans h)
       rw [tL hsl];exact .mk n v _ _ _ p _ h1 h2
     | none =>
       obtain ⟨a,b,h1,h2,rfl⟩:=b2 ((congrArg (xh (aB n sc) v i) hsl).symm.trans h)
       exact .mk n v _ p hsl h1 h2
   | Call f as ks p =>
     cases ks with
     | cons _ _=>exact bn h
     | nil =>
       cases hi:lr f with
       | some q =>
         obtain ⟨hs,h⟩:=kR (c:=eu q.1||!(q.2.2.endLine==p.line&&decide (as.length<29))) ((congrArg (sJ (aB n sc) as p f) hi).symm.trans h)
         obtain ⟨a,b,h1,h2,rfl⟩:=b2 h
         obtain ⟨s1,s2⟩:=Bool.or_eq_false_iff.mp hs
         obtain ⟨s3,s4⟩:=Bool.and_eq_true_iff.mp (uG s2)
         rw [k6 hi]
         exact .mk n q.1 q.2.1 q.2.2 as p s1 s3 (of_decide_eq_true s4) h1 h2 rfl
       | none =>
         obtain ⟨a,b,h1,h2,rfl⟩:=b2 ((congrArg (sJ (aB n sc) as p f) hi).symm.trans h)
         exact .mk n _ as p hi h1 h2
   | Attribute o m p =>
     obtain ⟨hs,h⟩:=kR (c:=eu o) h
     obtain ⟨a,h1,rfl⟩:=b1 h
     exact .mk n o m p hs h1 rfl
   | ListComp elt gens sc' p =>
     obtain ⟨hc,h⟩:=jB (c:=eX sc sc'&&gens.all (fun g=>g.is_async==0&&ge g.iter)) h
     obtain ⟨hc1,hc2⟩:=Bool.and_eq_true_iff.mp hc
     cases gens with
     | nil=>exact bn h
     | cons g gs =>
       obtain ⟨it,h1,h⟩:=Option.bind_eq_some_iff.mp h
       obtain ⟨its,h2,h⟩:=Option.bind_eq_some_iff.mp h
       obtain ⟨ts,h3,h⟩:=Option.bind_eq_some_iff.mp h
       obtain ⟨ifs,a,h4,h5,rfl⟩:=b2 h
       exact .mk n elt g gs sc' p it its hc1 hc2 h1 h2 h3 h4 h5 rfl rfl
   | DictComp k v gens sc' p =>
     obtain ⟨hc,h⟩:=jB (c:=eX sc sc') h
     match gens with
     | []=>exact bn h
     | _::_::_=>exact bn h
     | [g] =>
       obtain ⟨hd,h⟩:=jB (c:=g.ifs.isEmpty&&g.is_async==0&&ge g.iter) h
       obtain ⟨hd,d3⟩:=Bool.and_eq_true_iff.mp hd
       obtain ⟨d1,d2⟩:=Bool.and_eq_true_iff.mp hd
       obtain ⟨y,h0,h⟩:=Option.bind_eq_some_iff.mp h
       obtain ⟨it,h1,h⟩:=Option.bind_eq_some_iff.mp h
       obtain ⟨k',v',h2,h3,rfl⟩:=b2 h
       exact .mk n k v g sc' p hc (List.isEmpty_iff.mp d1) (beq_iff_eq.mp d2) d3 h0 h1 h2 h3 rfl
   | _=>exact bn h
end
section
open PySem PyProof.Rows
structure COk (C:Cx):Prop where
 g:C.base.Ns mainGlobals C.mg
 b:C.base.Ns builtinsNs C.mb
 ng:mainGlobals≠C.tab
 nb:builtinsNs≠C.tab
 ns:cStatics≠C.tab
 nolimit:C.base.NoLimit
 glob:∀ x v,C.glob x=some v->∃ a,(C.mg (ao x)=some a\/(C.mg (ao x)=none/\C.mb (ao x)=some a)) /\
  ∀ X n h,(∀ b o,C.base.get? b=some o->b≠C.tab->X.Z b/\h.get? b=some o)->VRel C X n h v a
theorem SRel.ns {C σ X s a m} (S:SRel C σ X s) (h:C.base.Ns a m) (ha:a≠C.tab):s.heap.Ns a m :=
 let ⟨o,es,ep,g,r⟩:=h;⟨o,es,ep,S.base _ _ g ha,r⟩
theorem SRel.nolimit {C σ X s} (H:COk C) (S:SRel C σ X s):s.heap.NoLimit:=let ⟨mc,h,r⟩:=H.nolimit;⟨mc,S.ns h H.ns,r⟩
theorem Rel.grown {C env sc ρ σ X s s'} (R:Rel C env sc ρ σ X s) (G:Grow s s'):Rel C env sc ρ σ X s'/\Evo C (Pl env) σ X s σ X s':=by
 obtain ⟨S',e⟩:=R.S.grow0 G
 exact ⟨R.evo0 S' e,e.of0⟩
section
variable {C:Cx} {k:Nat} {ρ:Loc} {σ:Sto}
theorem au {i:Int}:EvE C k (.cInt i) ρ σ (.int i) σ:=by
 intro n sc e h A env X s rm R Q E hQ
 cases erI h
 obtain ⟨R',ev⟩:=R.grown (Grow.toks (s.toks+1))
 exact wpAny_Constant_int (hQ _ X _ R' ev ⟨_,rfl⟩)
theorem bU {x:UInt64}:EvE C k (.cFlt x) ρ σ (.flt x) σ:=by
 intro n sc e h A env X s rm R Q E hQ
 cases erI h
 obtain ⟨R',ev⟩:=R.grown (Grow.toks (s.toks+1))
 have:wpAny (model C.prog C.w) A (mkFloat x) Q E s:=wpAny_mkFloat (hQ _ X _ R' ev ⟨_,rfl⟩)
 exact this
theorem bA {x:List Nat}:EvE C k (.cStr x) ρ σ (.str x) σ:=by
 intro n sc e h A env X s rm R Q E hQ
 cases erI h
 rename_i y kk p hn
 subst hn
 obtain ⟨R',ev⟩:=R.grown (Grow.toks (s.toks+1))
 exact wpAny_Constant_str (hQ _ X _ R' ev ⟨_,congrArg (Value.str · _) (aP _).symm⟩)
theorem nE {x:Str} (h:cV x=false):(x==("__debug__" : Str))=false:=(Bool.or_eq_false_iff.mp h).1
theorem By {x:Str} (h:cV x=false):(x==("__classdict__" : Str))=false:=(Bool.or_eq_false_iff.mp h).2
theorem ux {A:Around} {env:Env} {sc:Scope} {X:Wld} {s:Shared} {x:Str} {v:V} {Q:Value->Shared->Prop} {E:Value->Shared->Prop} (F:Frm C env sc ρ X σ.next s.heap) (hb:cV x=false) (hv:qK (kindIn sc x)=true)
 (hg:get ρ (nm x)=some v) (hQ:∀ a,VRel C X σ.next s.heap v a->Q a s):wpAny (model C.prog C.w) A (loadName env x) Q E s:=by
 have hx:ao (nm x)=x:=aP x
 cases hk:kindIn sc x with
 | none=>rw [hk] at hv;cases hv
 | some kd =>
   cases kd with
   | «local» =>
     obtain ⟨m,hm,q⟩:=F.ns
     obtain ⟨a,e,r⟩:=q _ _ hg (by rw [hx];exact hk)
     rw [hx] at e
     exact wpAny_loadName_local F.kind (F.kl x hk) hm e (hQ a r)
   | cell =>
     obtain ⟨c,a,e,hc,r⟩:=F.cv _ _ hg (by rw [hx];exact .inl hk)
     rw [hx] at e
     exact wpAny_loadName_cell F.kind (F.kc x hk) e hc (hQ a r)
   | free =>
     obtain ⟨c,a,e,hc,r⟩:=F.cv _ _ hg (by rw [hx];exact .inr hk)
     rw [hx] at e
     rcases F.kf x hk with q | q
     ·exact wpAny_loadName_free F.kind q e hc (hQ a r) (By hb)
     ·exact wpAny_loadName_cell F.kind q e hc (hQ a r)
   | globalExplicit=>rw [hk] at hv;cases hv
   | globalImplicit=>rw [hk] at hv;cases hv
theorem aa {x:Nm} {v:V} (hg:get ρ x=some v):EvE C k (.var x) ρ σ v σ:=by
 intro n sc e h A env X s rm R Q E hQ
 cases erI h
 rename_i y p hb hv hn
 subst hn
 exact wpAny_Name (ux R.F hb hv hg fun a r=>hQ a X s R .refl r) (nE hb)
theorem et (H:COk C) {x:Nm} {v:V} (hg:C.glob x=some v):EvE C k (.glob x) ρ σ v σ:=by
 intro n sc e h A env X s rm R Q E hQ
 cases erI h
 rename_i y p hb hk hn
 subst hn
 refine wpAny_Name ?_ (nE hb)
 obtain ⟨a,ha,hr⟩:=H.glob _ _ hg
 rw [aP] at ha
 have hr':VRel C X σ.next s.heap v a:=hr _ _ _ fun b o e nt=>⟨R.S.zb b o e nt,R.S.base b o e nt⟩
 have hkind:=R.F.kg y hk
 have hl:loadName env y=loadGlobal env y:=by
  unfold loadName
  simp only [Env.blockKind,R.F.kind,hkind,ScopeKind.isAnnotationScope,Bool.false_and,Bool.false_eq_true,if_false]
 rw [hl]
 unfold loadGlobal
 rw [R.F.gl,R.F.bt]
 refine wpAny_bind (wpAny_nsGet (R.S.ns H.g H.ng) ?_)
 rcases ha with e1 | ⟨e1,e2⟩
 ·rw [e1];exact wpAny_pure (hQ a X s R .refl hr')
 ·rw [e1]
  refine wpAny_bind (wpAny_nsGet (R.S.ns H.b H.nb) ?_)
  rw [e2];exact wpAny_pure (hQ a X s R .refl hr')
end
noncomputable def Op2 (C:Cx) (k:Nat) (t:Value->Value->Sem Value) (va vb:V) (σ:Sto) (v:V) (σ':Sto):Prop :=
 ∀ (A:Around) (X:Wld) (s:Shared) (a b:Value),Room k A->SRel C σ X s->VRel C X σ.next s.heap va a->VRel C X σ.next s.heap vb b ->
   ∀ (Q:Value->Shared->Prop) (E:Value->Shared->Prop),(∀ r X' s',SRel C σ' X' s'->Evo C NoP σ X s σ' X' s'->VRel C X' σ'.next s'.heap v r->Q r s')->wpAny (model C.prog C.w) A (t a b) Q E s
noncomputable def Op1 (C:Cx) (k:Nat) (t:Value->Sem Value) (va:V) (σ:Sto) (v:V) (σ':Sto):Prop :=
 ∀ (A:Around) (X:Wld) (s:Shared) (a:Value),Room k A->SRel C σ X s->VRel C X σ.next s.heap va a ->
   ∀ (Q:Value->Shared->Prop) (E:Value->Shared->Prop),(∀ r X' s',SRel C σ' X' s'->Evo C NoP σ X s σ' X' s'->VRel C X' σ'.next s'.heap v r->Q r s')->wpAny (model C.prog C.w) A (t a) Q E s
noncomputable def Tru (C:Cx) (v:V) (σ:Sto) (b:Bool):Prop :=
 ∀ (A:Around) (X:Wld) (s:Shared) (a:Value),SRel C σ X s->VRel C X σ.next s.heap v a->∀ (Q:Bool->Shared->Prop) (E:Value->Shared->Prop),(∀ t,Q b { s with toks:=t })->wpAny (model C.prog C.w) A (truthy a) Q E s
section
variable {C:Cx} {k:Nat} {ρ:Loc} {σ σ1 σ2 σ3:Sto}
theorem ak {op:Operator} {a b:Ex} {va vb v:V} (h1:EvE C k a ρ σ va σ1) (h2:EvE C k b ρ σ1 vb σ2) (h3:Op2 C k (binaryOp op) va vb σ2 v σ3):EvE C k (.bin op a b) ρ σ v σ3:=by
 intro n sc e h A env X s rm R Q E hQ
 cases erI h
 rename_i n l r p e1 e2
 refine wpAny_BinOp (h1 _ _ _ e1 A env X s rm R _ _ fun x X1 s1 R1 v1 r1=>h2 _ _ _ e2 A env X1 s1 rm R1 _ _ fun y X2 s2 R2 v2 r2=>?_)
 exact h3 A X2 s2 x y rm R2.S (v2.rel R1.S R1.pz r1) r2 _ _ fun z X3 s3 S3 v3 r3=>hQ z X3 s3 (R2.evo0 S3 v3) ((v1.trans v2).trans v3.of0) r3
theorem xo {a:Ex} {va v:V} (h1:EvE C k a ρ σ va σ1) (h3:Op1 C k (unaryOp .USub) va σ1 v σ2):EvE C k (.neg a) ρ σ v σ2:=by
 intro n sc e h A env X s rm R Q E hQ
 cases erI h
 rename_i n x p e1
 refine wpAny_UnaryOp (h1 _ _ _ e1 A env X s rm R _ _ fun x X1 s1 R1 v1 r1=>?_)
 exact h3 A X1 s1 x rm R1.S r1 _ _ fun z X3 s3 S3 v3 r3=>hQ z X3 s3 (R1.evo0 S3 v3) (v1.trans v3.of0) r3
theorem kF {op:CmpOp} {n:Nat} {sc:Scope} {e:Expr} {e':Ex} (h:aB n sc e=some e'):behindInMarks op e=false:=by
 cases n with
 | zero=>cases h
 | succ n=>cases e<;>first | rfl | (cases h;done)
theorem oJ {op:CmpOp} {a b:Ex} {va vb v:V} (h1:EvE C k a ρ σ va σ1) (h2:EvE C k b ρ σ1 vb σ2) (h3:Op2 C k (compareOp op) va vb σ2 v σ3):EvE C k (.cmp a [op] [b]) ρ σ v σ3:=by
 intro n sc e h A env X s rm R Q E hQ
 cases erI h
 rename_i n l cs p e1 e2
 obtain ⟨c,r,rfl,e4,e3⟩:=aM e2
 obtain rfl:=cE e3
 have hm:behindInMarks op c=false:=kF e4
 refine wpAny_Compare1 (h1 _ _ _ e1 A env X s rm R _ _ fun x X1 s1 R1 v1 r1=>h2 _ _ _ e4 A env X1 s1 rm R1 _ _ fun y X2 s2 R2 v2 r2=>?_) hm
 exact h3 A X2 s2 x y rm R2.S (v2.rel R1.S R1.pz r1) r2 _ _ fun z X3 s3 S3 v3 r3=>hQ z X3 s3 (R2.evo0 S3 v3) ((v1.trans v2).trans v3.of0) r3
theorem fV {t a b:Ex} {c:Bool} {v:V} (h1:EvT C k t ρ σ c σ1) (h2:c=true->EvE C k a ρ σ1 v σ2) (h3:c=false->EvE C k b ρ σ1 v σ2):EvE C k (.ite t a b) ρ σ v σ2:=by
 intro n sc e h A env X s rm R Q E hQ
 cases erI h
 rename_i n t a b p e1 e2 e3
 refine wpAny_IfExp (h1 _ _ _ e1 A env X s rm R _ _ fun X1 s1 R1 v1=>?_)
 cases c with
 | true=>exact h2 rfl _ _ _ e2 A env X1 s1 rm R1 _ _ fun y X2 s2 R2 v2 r2=>hQ y X2 s2 R2 (v1.trans v2) r2
 | false=>exact h3 rfl _ _ _ e3 A env X1 s1 rm R1 _ _ fun y X2 s2 R2 v2 r2=>hQ y X2 s2 R2 (v1.trans v2) r2
theorem ai:EvL C k [] ρ σ [] σ:=by
 intro n sc es h A env X s pos rm R Q E hQ
 obtain rfl:=cE h
 exact wpAny_items_nil (hQ [] X s R .refl .nil)
theorem cT {n sc e e'} (h:aB n sc e=some e') (rest:List Expr) (env:Env):starEach (e::rest) env=(false,eval e env)::starEach rest env:=by
 cases n with
 | zero=>cases h
 | succ n=>cases e<;>first | rfl | (cases h;done)
theorem ah {a:Ex} {l:List Ex} {v:V} {vs:List V} (h1:EvE C k a ρ σ v σ1) (h2:EvL C k l ρ σ1 vs σ2):EvL C k (a::l) ρ σ (v::vs) σ2:=by
 intro n sc es h A env X s pos rm R Q E hQ
 obtain ⟨e,r,rfl,e1,e2⟩:=aM h
 refine wpAny_items_cons (h1 _ _ _ e1 A env X s rm R _ _ fun x X1 s1 R1 v1 r1=>h2 _ _ _ e2 A env X1 s1 pos rm R1 _ _ fun ys X2 s2 R2 v2 r2=>?_) (cT e1 r env)
 exact hQ _ X2 s2 R2 (v1.trans v2) (.cons (v2.rel R1.S R1.pz r1) r2)
theorem SRel.newList {A:Around} {X:Wld} {s:Shared} {as:List Value} {vs:List V} {Q:Value->Shared->Prop} {E:Value->Shared->Prop} (S:SRel C σ X s) (r:VsRel C X σ.next s.heap vs as) (hl:vs.length<=sizeLine)
 (hQ:∀ a X' s',SRel C σ X' s'->Evo C NoP σ X s σ X' s'->VRel C X' σ.next s'.heap (.list vs) a->Q a s'):wpAny (model C.prog C.w) A (newList as) Q E s:=by
 have hlen:as.toArray.size<=sizeLine:=by rw [List.size_toArray,r.length];exact hl
 obtain ⟨S',e⟩:=S.grow (Grow.push (cW as.toArray 0)) (fun b=>b=s.heap.objs.size) (by rintro b rfl;exact ⟨Nat.le_refl _,_,Heap.get?_push_size _ rfl⟩)
 refine wpAny_newObj_type (hQ _ _ _ S' e ?_) hlen
 exact ⟨_,_,_,rfl,.inr rfl,Heap.get?_push_size _ rfl,by exact e.rels S (fun _ h=>h.elim) r⟩
theorem SRel.newTuple {A:Around} {X:Wld} {s:Shared} {as:List Value} {vs:List V} {Q:Value->Shared->Prop} {E:Value->Shared->Prop} (S:SRel C σ X s) (r:VsRel C X σ.next s.heap vs as) (hl:vs.length<=sizeLine)
 (hQ:∀ a X' s',SRel C σ X' s'->Evo C NoP σ X s σ X' s'->VRel C X' σ.next s'.heap (.tup vs) a->Q a s'):wpAny (model C.prog C.w) A (newTuple as) Q E s:=by
 have hlen:as.toArray.size<=sizeLine:=by rw [List.size_toArray,r.length];exact hl
 obtain ⟨S',e⟩:=S.grow (Grow.push (yI as.toArray 0)) (fun b=>b=s.heap.objs.size) (by rintro b rfl;exact ⟨Nat.le_refl _,_,Heap.get?_push_size _ rfl⟩)
 refine wpAny_newObj_type (hQ _ _ _ S' e ?_) hlen
 exact ⟨_,_,_,rfl,.inr rfl,Heap.get?_push_size _ rfl,by exact e.rels S (fun _ h=>h.elim) r⟩
theorem cu {l:List Ex} {vs:List V} (h1:EvL C k l ρ σ vs σ1) (hl:vs.length<=sizeLine):EvE C k (.list l) ρ σ (.list vs) σ1:=by
 intro n sc e h A env X s rm R Q E hQ
 cases erI h
 rename_i n es p e1
 refine List_ (h1 _ _ _ e1 A env X s _ rm R _ _ fun as X1 s1 R1 v1 r1=>?_)
 exact R1.S.newList r1 hl fun a X2 s2 S2 v2 r2=>hQ a X2 s2 (R1.evo0 S2 v2) (v1.trans v2.of0) r2
theorem ib {l:List Ex} {vs:List V} (h1:EvL C k l ρ σ vs σ1) (hl:vs.length<=sizeLine):EvE C k (.tup l) ρ σ (.tup vs) σ1:=by
 intro n sc e h A env X s rm R Q E hQ
 cases erI h
 rename_i n es kk p e1
 refine Tuple_ (h1 _ _ _ e1 A env X s _ rm R _ _ fun as X1 s1 R1 v1 r1=>?_)
 exact R1.S.newTuple r1 hl fun a X2 s2 S2 v2 r2=>hQ a X2 s2 (R1.evo0 S2 v2) (v1.trans v2.of0) r2
end
end
section
open PySem PyProof.Rows
noncomputable def pL (e:Ex):Bool:=!(e.ctorIdx==9||e.ctorIdx==10||e.ctorIdx==11||e.ctorIdx==12)
section
variable {C:Cx} {k:Nat} {ρ:Loc} {σ σ1 σ2 σ3 σ4:Sto}
theorem rP {n:Nat} {sc:Scope} {e:Expr} {e':Ex} {env:Env} (hp:pL e'=true) (h:aB n sc e=some e'):isTrue e env (eval e env)=(do let v <-eval e env;standAt e.pos;holding [v] (truthy v)):=by
 cases n with
 | zero=>exact bn h
 | succ n =>
   cases e with
   | UnaryOp op x p=>cases op<;>first | rfl | exact bn h | (obtain ⟨a,h1,rfl⟩:=b1 h;cases hp)
   | BoolOp op vs p=>obtain ⟨a,h1,rfl⟩:=b1 h;cases hp
   | Compare l ops cs p=>obtain ⟨a,b,h1,h2,rfl⟩:=b2 h;cases hp
   | IfExp t a b p =>
     obtain ⟨t',h1,h⟩:=Option.bind_eq_some_iff.mp h
     obtain ⟨a',b',h2,h3,rfl⟩:=b2 h
     cases hp
   | _=>first | rfl | exact bn h
theorem gC {e':Ex} {v:V} {b:Bool} (hp:pL e'=true) (h1:EvE C k e' ρ σ v σ1) (h2:Tru C v σ1 b):EvT C k e' ρ σ b σ1:=by
 intro n sc e h A env X s rm R Q E hQ
 have he:isTrue e env (eval e env)=(do let v <-eval e env;standAt e.pos;holding [v] (truthy v)):=rP hp h
 refine wpAny_isTrue_value (h1 _ _ _ h A env X s rm R _ _ fun a X1 s1 R1 v1 r1=>?_) he
 exact h2 A X1 s1 a R1.S r1 _ _ fun t=>let ⟨R2,v2⟩:=R1.grown (Grow.toks t);hQ X1 _ R2 (v1.trans v2)
theorem oO {a:Ex} {b:Bool} (h1:EvT C k a ρ σ b σ1):EvT C k (.not a) ρ σ (!b) σ1:=by
 intro n sc e h A env X s rm R Q E hQ
 cases erI h
 rename_i n x p e1
 exact wpAny_isTrue_Not (h1 _ _ _ e1 A env X s rm R _ _ hQ)
theorem aH {op:CmpOp} {a b:Ex} {va vb v:V} {c:Bool} (h1:EvE C k a ρ σ va σ1) (h2:EvE C k b ρ σ1 vb σ2) (h3:Op2 C k (compareOp op) va vb σ2 v σ3) (h4:Tru C v σ3 c):EvT C k (.cmp a [op] [b]) ρ σ c σ3:=by
 intro n sc e h A env X s rm R Q E hQ
 cases erI h
 rename_i n l cs p e1 e2
 obtain ⟨c,r,rfl,e4,e3⟩:=aM e2
 obtain rfl:=cE e3
 have hm:behindInMarks op c=false:=kF e4
 refine wpAny_isTrue_Compare1 (h1 _ _ _ e1 A env X s rm R _ _ fun x X1 s1 R1 v1 r1=>h2 _ _ _ e4 A env X1 s1 rm R1 _ _ fun y X2 s2 R2 v2 r2=>?_) hm
 exact h3 A X2 s2 x y rm R2.S (v2.rel R1.S R1.pz r1) r2 _ _ fun z X3 s3 S3 v3 r3=>h4 A X3 s3 z S3 r3 _ _ fun t=>let ⟨R4,v4⟩:=(R2.evo0 S3 v3).grown (Grow.toks t);hQ X3 _ R4 (((v1.trans v2).trans v3.of0).trans v4)
theorem xr {x y:Ex} {c b:Bool} (h1:EvT C k x ρ σ c σ1) (h2:c=true->EvT C k y ρ σ1 b σ2) (h3:c=false->b=false/\σ2=σ1):EvT C k (.boolop .And [x,y]) ρ σ b σ2:=by
 intro n sc e h A env X s rm R Q E hQ
 cases erI h
 rename_i n vs p e1
 obtain ⟨x,r,rfl,e2,e3⟩:=aM e1
 obtain ⟨y,r,rfl,e4,e5⟩:=aM e3
 obtain rfl:=cE e5
 refine wpAny_isTrue_BoolOp (wpAny_allTrue_And_cons (h1 _ _ _ e2 A env X s rm R _ _ fun X1 s1 R1 v1=>?_))
 cases c with
 | true =>
   refine wpAny_allTrue_And_cons (h2 rfl _ _ _ e4 A env X1 s1 rm R1 _ _ fun X2 s2 R2 v2=>?_)
   cases b with
   | true=>exact wpAny_allTrue_And_nil (hQ X2 s2 R2 (v1.trans v2))
   | false=>exact hQ X2 s2 R2 (v1.trans v2)
 | false=>obtain ⟨rfl,rfl⟩:=h3 rfl;exact hQ X1 s1 R1 v1
theorem zG {x y:Ex} {c b:Bool} (h1:EvT C k x ρ σ c σ1) (h2:c=false->EvT C k y ρ σ1 b σ2) (h3:c=true->b=true/\σ2=σ1):EvT C k (.boolop .Or [x,y]) ρ σ b σ2:=by
 intro n sc e h A env X s rm R Q E hQ
 cases erI h
 rename_i n vs p e1
 obtain ⟨x,r,rfl,e2,e3⟩:=aM e1
 obtain ⟨y,r,rfl,e4,e5⟩:=aM e3
 obtain rfl:=cE e5
 refine wpAny_isTrue_BoolOp (wpAny_allTrue_Or_cons (h1 _ _ _ e2 A env X s rm R _ _ fun X1 s1 R1 v1=>?_))
 cases c with
 | false =>
   refine wpAny_allTrue_Or_cons (h2 rfl _ _ _ e4 A env X1 s1 rm R1 _ _ fun X2 s2 R2 v2=>?_)
   cases b with
   | false=>exact wpAny_allTrue_Or_nil (hQ X2 s2 R2 (v1.trans v2))
   | true=>exact hQ X2 s2 R2 (v1.trans v2)
 | true=>obtain ⟨rfl,rfl⟩:=h3 rfl;exact hQ X1 s1 R1 v1
theorem zB {x y:Ex} {c:Bool} {va v:V} (h1:EvE C k x ρ σ va σ1) (ht:Tru C va σ1 c) (h2:c=true->EvE C k y ρ σ1 v σ2) (h3:c=false->v=va/\σ2=σ1):EvE C k (.boolop .And [x,y]) ρ σ v σ2:=by
 intro n sc e h A env X s rm R Q E hQ
 cases erI h
 rename_i n vs p e1
 obtain ⟨x,r,rfl,e2,e3⟩:=aM e1
 obtain ⟨y,r,rfl,e4,e5⟩:=aM e3
 obtain rfl:=cE e5
 refine wpAny_And2 (h1 _ _ _ e2 A env X s rm R _ _ fun a X1 s1 R1 v1 r1=>ht A X1 s1 a R1.S r1 _ _ fun t=>?_)
 obtain ⟨R1',v1'⟩:=R1.grown (Grow.toks t)
 have v1:=v1.trans v1'
 cases c with
 | true=>exact h2 rfl _ _ _ e4 A env X1 _ rm R1' _ _ fun b X2 s2 R2 v2 r2=>hQ b X2 s2 R2 (v1.trans v2) r2
 | false=>obtain ⟨rfl,rfl⟩:=h3 rfl;exact hQ a X1 _ R1' v1 r1
theorem xp {x y:Ex} {c:Bool} {va v:V} (h1:EvE C k x ρ σ va σ1) (ht:Tru C va σ1 c) (h2:c=false->EvE C k y ρ σ1 v σ2) (h3:c=true->v=va/\σ2=σ1):EvE C k (.boolop .Or [x,y]) ρ σ v σ2:=by
 intro n sc e h A env X s rm R Q E hQ
 cases erI h
 rename_i n vs p e1
 obtain ⟨x,r,rfl,e2,e3⟩:=aM e1
 obtain ⟨y,r,rfl,e4,e5⟩:=aM e3
 obtain rfl:=cE e5
 refine wpAny_Or2 (h1 _ _ _ e2 A env X s rm R _ _ fun a X1 s1 R1 v1 r1=>ht A X1 s1 a R1.S r1 _ _ fun t=>?_)
 obtain ⟨R1',v1'⟩:=R1.grown (Grow.toks t)
 have v1:=v1.trans v1'
 cases c with
 | false=>exact h2 rfl _ _ _ e4 A env X1 _ rm R1' _ _ fun b X2 s2 R2 v2 r2=>hQ b X2 s2 R2 (v1.trans v2) r2
 | true=>obtain ⟨rfl,rfl⟩:=h3 rfl;exact hQ a X1 _ R1' v1 r1
theorem yq {M:Model} {A:Around} {E:Value->Shared->Prop} {s:Shared} {vs keep:List Value} {Q:Unit->Shared->Prop} (h:Q () s):wpAny M A (release vs keep) Q E s:=fun Γ p _=>by
 rw [Sem.wp_release];exact h
theorem xu {op1 op2:CmpOp} {x y z:Ex} {vx vy vz:V} {c b:Bool} (h1:EvE C k x ρ σ vx σ1) (h2:EvE C k y ρ σ1 vy σ2) (h3:Op2 C k (compareOp op1) vx vy σ2 (.bool c) σ2)
 (h4:c=true->EvE C k z ρ σ2 vz σ2) (h5:c=true->Op2 C k (compareOp op2) vy vz σ2 (.bool b) σ2) (h6:c=false->b=false):EvT C k (.cmp x [op1,op2] [y,z]) ρ σ b σ2:=by
 intro n sc e h A env X s rm R Q E hQ
 cases erI h
 rename_i n l cs p e1 e2
 obtain ⟨ye,r,rfl,e4,e3⟩:=aM e2
 obtain ⟨ze,r,rfl,e6,e5⟩:=aM e3
 obtain rfl:=cE e5
 have hm:markedEach [op1,op2] [ye,ze] (evalEach [ye,ze] env)=[eval ye env,eval ze env]:=by
  show eval ye env::[markedBehindIn op2 ze (eval ze env)]=_
  rw [markedBehindIn_of_false (kF e6)]
 rw [arm_isTrue_Compare,hm]
 refine wpAny_bind (h1 _ _ _ e1 A env X s rm R _ _ fun a X1 s1 R1 v1 r1=>?_)
 refine wpAny_bind (wpAny_holding (h2 _ _ _ e4 A env X1 s1 rm R1 _ _ fun a2 X2 s2 R2 v2 r2=>wpAny_bind (wpAny_standAt (wpAny_bind (wpAny_holding ?_)))))
 refine h3 A X2 s2 a a2 rm R2.S (v2.rel R1.S R1.pz r1) r2 _ _ fun q X3 s3 S3 v3 r3=>?_
 obtain rfl:q=.bool c:=r3
 have R3:=R2.evo0 S3 v3
 refine wpAny_bind (yq (wpAny_bind (wpAny_holding (wpAny_truthy_bool ?_))))
 cases c with
 | false =>
   obtain rfl:=h6 rfl
   exact wpAny_pure (hQ X3 s3 R3 ((v1.trans v2).trans v3.of0))
 | true =>
   refine wpAny_bind (wpAny_holding (h4 rfl _ _ _ e6 A env X3 s3 rm R3 _ _ fun a4 X4 s4 R4 v4 r4=>wpAny_bind (wpAny_standAt (wpAny_bind (wpAny_operating ?_)))))
   refine h5 rfl A X4 s4 a2 a4 rm R4.S (v4.rel R3.S R3.pz (v3.rel R2.S (fun _ h=>h.elim) r2)) r4 _ _ fun q X5 s5 S5 v5 r5=>?_
   obtain rfl:q=.bool b:=r5
   exact wpAny_holding (wpAny_truthy_bool (hQ X5 s5 (R4.evo0 S5 v5) ((((v1.trans v2).trans v3.of0).trans v4).trans v5.of0)))
end
end
section
open PySem PyProof.Rows
noncomputable def nD (C:Cx) (v:V) (σ:Sto) (T:String):Prop:=∀ (X:Wld) (s:Shared) (a:Value),SRel C σ X s->VRel C X σ.next s.heap v a->s.TypeIs a T
noncomputable def jH (C:Cx) (k:Nat) (va:V) (lo hi st:Option Int) (σ:Sto) (v:V):Prop :=
 ∀ (A:Around) (X:Wld) (s:Shared) (a:Value) (sl:Addr) (vl vu vs:Value),Room k A->SRel C σ X s->VRel C X σ.next s.heap va a->s.heap.IsSliceOf sl vl vu vs->IsPart vl lo->IsPart vu hi->IsPart vs st ->
   ∀ (Q:Value->Shared->Prop) (E:Value->Shared->Prop),(∀ r X' s',SRel C σ X' s'->Evo C NoP σ X s σ X' s'->VRel C X' σ.next s'.heap v r->Q r s')->wpAny (model C.prog C.w) A (getItem a (.ref sl)) Q E s
noncomputable def EvO (C:Cx) (k:Nat) (ρ:Loc) (σ:Sto):Option Ex->Option Int->Prop
 | none,none=>True
 | some e,some i=>EvE C k e ρ σ (.int i) σ
 | _,_=>False
inductive Fn (C:Cx):Value->Prop
 | bi (id):Fn C (.builtin id)
 | ty (T):Fn C (.type T)
 | fn (a o fd) (ho:C.base.get? a=some o) (ha:a≠C.tab) (hd:o.data=.func fd):Fn C (.ref a)
noncomputable def wD (C:Cx) (vo:V) (σ:Sto) (name:Nm) (f:Value):Prop :=
 ∀ (A:Around) (X:Wld) (s:Shared) (a:Value) (pl:Sem Bool),SRel C σ X s->VRel C X σ.next s.heap vo a->∀ (Q:Value × List Value->Shared->Prop) (E:Value->Shared->Prop),Q (f,[a]) s ->
   wpAny (model C.prog C.w) A (getMethod a (ao name) pl) Q E s
section
variable {C:Cx} {k:Nat} {ρ:Loc} {σ σ1 σ2 σ3 σ4:Sto}
theorem tv {n:Nat} {sc:Scope} {e:Expr} {e':Ex} {x y:Value} (h:aB n sc e=some e'):subscripted e false x y=operate [x,y] (getItem x y):=by
 cases n with
 | zero=>cases h
 | succ n=>cases e<;>first | rfl | (cases h;done)
theorem mf {a i:Ex} {va vi v:V} {T id:String} (h1:EvE C k a ρ σ va σ1) (h2:EvE C k i ρ σ1 vi σ2) (hT:nD C va σ2 T) (hl:typeLookup (.type T) "__getitem__"=pure (some (.builtin id)))
 (h3:Op2 C k getItem va vi σ2 v σ3):EvE C k (.sub a i) ρ σ v σ3:=by
 intro n sc e h A env X s rm R Q E hQ
 cases erI h
 rename_i n ve ie p hs e1 e2
 refine Subscript_ (h1 _ _ _ e1 A env X s rm R _ _ fun x X1 s1 R1 v1 r1=>h2 _ _ _ e2 A env X1 s1 rm R1 _ _ fun y X2 s2 R2 v2 r2=>?_)
 have r1':=v2.rel R1.S R1.pz r1
 refine tail_any (hT X2 s2 x R2.S r1') hl (h3 A X2 s2 x y rm R2.S r1' r2 _ _ fun z X3 s3 S3 v3 r3=>hQ z X3 s3 (R2.evo0 S3 v3) ((v1.trans v2).trans v3.of0) r3) (ops:=[x,y]) ?_
 exact tv e2
theorem mh {A:Around} {n:Nat} {sc:Scope} {env:Env} {X:Wld} {s:Shared} {o:Option Expr} {o':Option Ex} {i:Option Int} {Q:Value->Shared->Prop} {E:Value->Shared->Prop} (he:A7 n sc o=some o') (h:EvO C k ρ σ o' i) (rm:Room k A) (R:Rel C env sc ρ σ X s)
 (hQ:∀ a X' s',Rel C env sc ρ σ X' s'->Evo C (Pl env) σ X s σ X' s'->IsPart a i->Q a s'):wpAny (model C.prog C.w) A (evalPart o env) Q E s:=by
 cases o with
 | none =>
   cases he
   cases i with
   | none=>simp only [evalPart_none];exact wpAny_pure (hQ _ X s R .refl .none)
   | some i=>exact h.elim
 | some e =>
   simp only [sK,Option.bind_eq_some_iff,Option.some.injEq] at he
   obtain ⟨e',he,rfl⟩:=he
   cases i with
   | none=>exact h.elim
   | some i =>
     simp only [evalPart_some]
     refine (h:EvE C k e' ρ σ (.int i) σ) _ _ _ he A env X s rm R _ _ fun a X1 s1 R1 v1 r1=>?_
     obtain ⟨t,rfl⟩:∃ t,a=.int i t:=r1
     exact hQ _ X1 s1 R1 v1 (.int i t)
theorem gV {a:Ex} {lo hi st:Option Ex} {il ih is:Option Int} {va v:V} {T id:String} (h1:EvE C k a ρ σ va σ1) (hlo:EvO C k ρ σ1 lo il) (hhi:EvO C k ρ σ1 hi ih) (hst:EvO C k ρ σ1 st is)
 (hT:nD C va σ1 T) (hl:typeLookup (.type T) "__getitem__"=pure (some (.builtin id))) (h3:jH C k va il ih is σ1 v):EvE C k (.slice a [lo,hi,st]) ρ σ v σ1:=by
 intro n sc e h A env X s rm R Q E hQ
 cases erI h
 rename_i n ve le he se p p' e1 e2
 obtain ⟨_,_,q,e3,e2⟩:=aM e2;cases q
 obtain ⟨_,_,q,e4,e2⟩:=aM e2;cases q
 obtain ⟨_,_,q,e5,e2⟩:=aM e2;cases q
 refine Subscript_ (h1 _ _ _ e1 A env X s rm R _ _ fun x X1 s1 R1 v1 r1=>wpAny_Slice (mh e3 hlo rm R1 fun a1 X2 s2 R2 v2 p1=>mh e4 hhi rm R2 fun a2 X3 s3 R3 v3 p2=>mh e5 hst rm R3 fun a3 X4 s4 R4 v4 p3=>?_))
 have r4:=v4.rel R3.S R3.pz (v3.rel R2.S R2.pz (v2.rel R1.S R1.pz r1))
 obtain ⟨S5,v5⟩:=R4.S.grow0 (Grow.push { cls:=.type "slice",data:=.fields #[a1,a2,a3] })
 have R5:=R4.evo0 S5 v5
 have r5:=v5.rel R4.S (fun _ h=>h.elim) r4
 refine tail_any (hT X4 _ x S5 r5) hl (h3 A X4 _ x _ _ _ _ rm S5 r5 (Heap.IsSliceOf.new _ _ _ _) p1 p2 p3 _ _ fun z X6 s6 S6 v6 r6=>hQ z X6 s6 (R5.evo0 S6 v6) (((((v1.trans v2).trans v3).trans v4).trans v5.of0).trans v6.of0) r6) (ops:=match se with | none=>[.ref s4.heap.objs.size,x] | some _=>[x,.ref s4.heap.objs.size]) ?_
 cases se<;>rfl
theorem py {n sc} {env:Env} {pos:Pos}:∀ {es:List Expr} {es':List Ex},mapO (aB n sc) es=some es'->(backTo pos (starEach es env)).any (·.1)=false
 | [],_,_=>rfl
 | e::es,es',h=>by
   obtain ⟨e',es'',h1,h2,_⟩:=b2 h
   rw [cT h1]
   show (false||(backTo pos (starEach es env)).any (·.1))=false
   rw [py h2];rfl
theorem lC {A:Around} {n sc} {env:Env} {pos:Pos} {f:Value} {es:List Expr} {es':List Ex} {s:Shared} {Q:Args->Shared->Prop} {E:Value->Shared->Prop} (h:mapO (aB n sc) es=some es')
 (hq:wpAny (model C.prog C.w) A (spliced (backTo pos (starEach es env))) (fun vs s'=>Q ⟨vs,[]⟩ s') E s):wpAny (model C.prog C.w) A (evalArgs f true (backTo pos (starEach es env)) []) Q E s:=by
 cases es with
 | nil =>
   show wpAny _ A (evalArgs f true [] []) Q E s
   unfold evalArgs
   show wpAny _ A (spliced [] >>= _) Q E s
   refine wpAny_bind (wpAny_mono hq (fun vs s' h'=>?_) fun _ _ x=>x)
   refine wpAny_holding ?_
   exact wpAny_bind (wpAny_pure (wpAny_bind (wpAny_pure (wpAny_pure h'))))
 | cons e es =>
   obtain ⟨e',es'',h1,h2,_⟩:=b2 h
   rw [cT h1] at hq ⊢
   exact Calls.evalArgs_plain hq
theorem wW {A:Around} {n sc} {env:Env} {pos:Pos} {f:Value} {first:List Value} {es:List Expr} {es':List Ex} {s:Shared} {Q:Value->Shared->Prop} {E:Value->Shared->Prop} (hf:Fn C f) (h:mapO (aB n sc) es=some es')
 (hq:wpAny (model C.prog C.w) A (spliced (backTo pos (starEach es env))) (fun vs s'=>(∃ σ X,SRel C σ X s')/\wpAny (model C.prog C.w) A (call f (first++vs)) Q E s') E s) :
 wpAny (model C.prog C.w) A (callWith pos f first (backTo pos (starEach es env)) []) Q E s:=by
 cases hf with
 | bi id=>exact Calls.callWith_builtin (py h) (lC h (wpAny_mono hq (fun _ _ x=>x.2) fun _ _ x=>x))
 | ty T=>exact PySem.callWith_type (py h) (lC h (wpAny_mono hq (fun _ _ x=>x.2) fun _ _ x=>x))
 | fn a o fd ho ha hd =>
   refine Calls.callWith_function (o:=o) (fd:=fd) (lC h (wpAny_mono hq (fun vs s' x=>?_) fun _ _ x=>x))
   obtain ⟨⟨σ,X,S⟩,x⟩:=x
   exact ⟨⟨S.base _ _ ho ha,hd⟩,x⟩
theorem oI {f:Ex} {l:List Ex} {vf v:V} {fv:Value} {vs:List V} (h1:EvE C k f ρ σ vf σ1) (hv:∀ X n h a,VRel C X n h vf a->a=fv) (hf:Fn C fv) (h2:EvL C k l ρ σ1 vs σ2) (h3:FnOk C k fv vs σ2 v σ3) :
 EvE C k (.call f l) ρ σ v σ3:=by
 intro n sc e h A env X s rm R Q E hQ
 cases erI h
 rename_i n fe as p hne e1 e2
 have he:eval (.Call fe as [] p) env=(do callWith p (<-eval fe env) [] (backTo p (starEach as env)) (backToKw p (keywordEach [] env))):=by
  cases fe<;>first | rfl | exact bn hne.symm
 rw [he]
 refine wpAny_bind (h1 _ _ _ e1 A env X s rm R _ _ fun x X1 s1 R1 v1 r1=>?_)
 obtain rfl:=hv _ _ _ _ r1
 refine wW hf e2 (h2 _ _ _ e2 A env X1 s1 p rm R1 _ _ fun as X2 s2 R2 v2 r2=>⟨⟨_,_,R2.S⟩,?_⟩)
 exact h3 A X2 s2 as rm R2.S r2 _ _ fun z X3 s3 S3 v3 r3=>hQ z X3 s3 (R2.evo0 S3 v3) ((v1.trans v2).trans v3.of0) r3
theorem gR {o:Expr} {name:Str} {env:Env} {t:Sem Value} (h:eu o=false):attributeBase o name env t=t:=by
 cases o with
 | Call f a k p =>
   cases f with
   | Name x q =>
     cases a with
     | nil =>
       cases k with
       | nil=>cases h
       | cons _ _=>exact Eq.refl t
     | cons _ _=>exact Eq.refl t
   | _=>exact Eq.refl t
 | _=>exact Eq.refl t
theorem dq {o:Ex} {m:Nm} {l:List Ex} {vo v:V} {fv:Value} {vs:List V} (h1:EvE C k o ρ σ vo σ1) (hm:wD C vo σ1 m fv) (hf:Fn C fv) (h2:EvL C k l ρ σ1 vs σ2) (h3:FnOk C k fv (vo::vs) σ2 v σ3) :
 EvE C k (.meth o m l) ρ σ v σ3:=by
 intro n sc e h A env X s rm R Q E hQ
 cases erI h
 rename_i n oe m p' as p hs hp hlen e1 e2 hn
 subst hn
 have hform:methodCallForm (as.length+([]:List Keyword).length) (backTo p (starEach as env)) (backToKw p (keywordEach [] env))=true:=by
  have h0:(backTo p (starEach as env)).all (fun x=>!x.1)=true:=by
   rw [List.all_eq_true]
   intro x hx
   have:=py (pos:=p) (env:=env) e2
   rw [List.any_eq_false] at this
   exact Iff.mpr bi_not (this x hx)
  unfold methodCallForm
  rw [h0]
  rw [show backToKw p (keywordEach [] env)=[] from rfl]
  simp
  exact Nat.lt_succ_of_lt hlen
 have hpos:methodCallPos true oe env p' p=pure p:=by unfold methodCallPos;exact if_pos hp
 rw [arm_eval_Call,gR hs]
 refine wpAny_bind (h1 _ _ _ e1 A env X s rm R _ _ fun x X1 s1 R1 v1 r1=>wpAny_bind (wpAny_standAt ?_))
 unfold methodCall
 rw [hform]
 refine wpAny_bind (wpAny_holding ?_)
 show wpAny _ A (getMethod x m _) _ _ s1
 have hm':=hm A X1 s1 x (do return (<-importBound oe env).getD true) R1.S r1
 rw [aP] at hm'
 refine hm' _ _ (wpAny_bind (wpAny_of_eq hpos ?_))
 refine wW hf e2 (h2 _ _ _ e2 A env X1 s1 p rm R1 _ _ fun as X2 s2 R2 v2 r2=>⟨⟨_,_,R2.S⟩,?_⟩)
 exact h3 A X2 s2 (x::as) rm R2.S (.cons (v2.rel R1.S R1.pz r1) r2) _ _ fun z X3 s3 S3 v3 r3=>hQ z X3 s3 (R2.evo0 S3 v3) ((v1.trans v2).trans v3.of0) r3
end
end
section
open PySem PyProof.Rows
theorem rX (h:Heap) (a:Addr) (f:Obj->Obj):(h.update a f).objs.size=h.objs.size:=(Heap.SameBut.update h a f).1
theorem kU {M:Model} {Γ:Ctx} {p:Pos} {t:Sem Fin} {fs:List Frame} {s s':Shared} {e:End} (h:Runs M Γ p t fs s e s'):s.heap.objs.size<=s'.heap.objs.size:=by
 induction h<;>(try simp only [Shared.setGen,Heap.size_push,rX] at *)<;>lia -abstractProof
theorem pQ {M:Model} {Γ:Ctx} {p:Pos} {s s':Shared} {r:Result} (h:Returns M Γ p s r s'):s.heap.objs.size<=s'.heap.objs.size:=kU h
theorem tC {M:Model} {Γ:Ctx} {p:Pos} {g:Nat} {r:Resume} {s s':Shared} {res:GenResult} (h:Wakes M Γ p g r s res s'):s.heap.objs.size<=s'.heap.objs.size:=by
 unfold Wakes at h
 split at h
 ·exact h.elim
 ·split at h
  ·obtain ⟨e₁,s₁,hr,_,_,rfl⟩:=h;exact (kU hr:(s.setGen g .running).heap.objs.size<=s₁.heap.objs.size)
  ·rw [h.2];exact Nat.le_refl _
  ·rw [h.2];exact Nat.le_refl _
 ·obtain ⟨e₁,s₁,hr,_,_,rfl⟩:=h;exact (kU hr:(s.setGen g .running).heap.objs.size<=s₁.heap.objs.size)
 ·rw [h.2];exact Nat.le_refl _
 ·rw [h.2];exact Nat.le_refl _
theorem AP {α:Type} (M:Model) (Γ:Ctx) (n:Nat) (t:Sem α):∀ (Q:α->Pos->Shared->Prop) (E:Value->Pos->Shared->Prop) (p:Pos) (s:Shared),n<=s.heap.objs.size->Sem.wp M Γ t Q E p s ->
 Sem.wp M Γ t (fun a p' s'=>n<=s'.heap.objs.size/\Q a p' s') (fun e p' s'=>n<=s'.heap.objs.size/\E e p' s') p s:=by
 induction t with
 | pure a=>intro Q E p s hn h;exact ⟨hn,h⟩
 | raise e=>intro Q E p s hn h;exact ⟨hn,h⟩
 | unsupported _=>intro Q E p s _ h;exact h
 | finish _=>intro Q E p s _ h;exact h
 | rule _ k ih=>intro Q E p s hn h;exact ih () Q E p s hn h
 | «at» p' k ih=>intro Q E p s hn h;exact ih () Q E p' s hn h
 | load a _ k ih=>intro Q E p s hn h;obtain ⟨o,ho,h⟩:=h;exact ⟨o,ho,ih o Q E p s hn h⟩
 | update a _ f k ih=>intro Q E p s hn h;exact ⟨h.1,ih () Q E p _ (by show n<=(s.heap.update a f).objs.size;rw [rX];exact hn) h.2⟩
 | loadIfAlive a k ih=>intro Q E p s hn h;exact ih _ Q E p s hn h
 | point _ k ih=>intro Q E p s hn h;exact ih () Q E p s hn h
 | register _ _=>intro Q E p s _ h;exact h
 | alloc o k ih=>intro Q E p s hn h;exact ih _ Q E p _ (by show n<=(s.heap.push o).objs.size;rw [Heap.size_push];exact Nat.le_add_right_of_le hn) h
 | fresh k ih=>intro Q E p s hn h;exact ih _ Q E p _ hn h
 | ask k ih=>intro Q E p s hn h;exact ih _ Q E p s hn h
 | choose src m k ih=>intro Q E p s hn h;exact ⟨h.1,ih _ Q E p _ hn h.2⟩
 | os q _ k ih=>intro Q E p s hn h;exact ih _ Q E p _ hn h
 | call c hd _ _ k ih=>intro Q E p s hn h;obtain ⟨r,s',hr,h⟩:=h;exact ⟨r,s',hr,ih r Q E p s' (Nat.le_trans hn (pQ hr)) h⟩
 | handled own k ih=>intro Q E p s hn h;exact ih _ Q E p s hn h
 | genState g k ih=>intro Q E p s hn h;obtain ⟨st,hs,h⟩:=h;exact ⟨st,hs,ih _ Q E p s hn h⟩
 | newGen c k ih=>intro Q E p s hn h;exact ih _ Q E p _ hn h
 | resume g r _ k ih=>intro Q E p s hn h;obtain ⟨res,s',hw,h⟩:=h;exact ⟨res,s',hw,ih res Q E p s' (Nat.le_trans hn (tC hw)) h⟩
 | yield _ _ _ _=>intro Q E p s _ h;exact h
 | stack k ih=>intro Q E p s hn h;exact ih _ Q E p s hn h
 | fork _ _=>intro Q E p s _ h;exact h
 | thread k ih=>intro Q E p s hn h;exact ih _ Q E p s hn h
 | await _ _ _ _ _=>intro Q E p s _ h;exact h
theorem bL {α:Type} {M:Model} {A:Around} {s:Shared} {t:Sem α} {Q:α->Shared->Prop} {E:Value->Shared->Prop}
 (h:wpAny M A t (fun a s'=>s.heap.objs.size<=s'.heap.objs.size->Q a s') E s):wpAny M A t Q E s :=
 fun Γ p hΓ=>Sem.wp_mono M Γ t (fun _ _ _ x=>x.2 x.1) (fun _ _ _ x=>x.2) p s (AP M Γ s.heap.objs.size t _ _ p s (Nat.le_refl _) (h Γ p hΓ))
end
section
open PySem PyProof.Rows
theorem SRel.priv {C σ X s s'} (S:SRel C σ X s) (P:Addr->Prop) (hz:∀ b,P b->¬ X.Z b) (hw:∀ b,P b->¬ Wr C σ X b) (keep:∀ b o,¬ P b->s.heap.get? b=some o->s'.heap.get? b=some o)
 (size:s.heap.objs.size<=s'.heap.objs.size) (os:s'.os=s.os) (gens:s'.gens=s.gens):SRel C σ X s'/\Evo C P σ X s σ X s':=by
 have kz:∀ b o,X.Z b->s.heap.get? b=some o->s'.heap.get? b=some o:=fun b o z e=>keep b o (fun p=>hz b p z) e
 have kw:∀ b o,Wr C σ X b->s.heap.get? b=some o->s'.heap.get? b=some o:=fun b o w e=>keep b o (fun p=>hw b p w) e
 refine ⟨⟨fun b o e n=>kz _ _ (S.zb b o e n) (S.base b o e n),S.tab.imp fun ps t=>⟨kw _ _ (.inl rfl) t.1,t.2.mono kz fun _ z=>z⟩,S.zb,fun b z=>(S.zl b z).imp fun o e=>kz _ _ z e,os.trans S.os,gens.trans S.gens,S.lt,fun l o e=>?_,S.apart,S.zw,
  fun b w=>(S.wl b w).imp fun o e=>kw _ _ w e⟩,⟨size,fun b o e _ np=>keep b o np e,fun _ z=>z,fun _ z=>.inl z,fun _ w=>.inl w,Nat.le_refl _,fun _ _=>⟨rfl,rfl,rfl⟩⟩⟩
 exact (S.obj l o e).mono kz (fun b o' m g=>kw b o' (.inr ⟨l,o,e,m⟩) g) (fun _ z=>z) (Nat.le_refl _) (fun _ _=>⟨rfl,rfl,rfl⟩) (S.lt l o e)
section
variable {C:Cx} {k:Nat} {ρ:Loc} {σ:Sto}
theorem o9 {kd:Option NameKind} (h:iv kd=true):kd=some .local\/kd=some .cell:=by
 cases kd with
 | none=>cases h
 | some x=>cases x<;>first | exact .inl rfl | exact .inr rfl | cases h
theorem fR {A:Around} {env:Env} {sc:Scope} {X:Wld} {s:Shared} {x:Str} {v:V} {a:Value} {Q:Unit->Shared->Prop} {E:Value->Shared->Prop} (R:Rel C env sc ρ σ X s) (hk:iv (kindIn sc x)=true)
 (r:VRel C X σ.next s.heap v a) (hQ:∀ X' s',Rel C env sc (put ρ (nm x) v) σ X' s'->Evo C (Pl env) σ X s σ X' s'->Q () s'):wpAny (model C.prog C.w) A (storeName env x a) Q E s:=by
 have hx:ao (nm x)=x:=aP x
 have hname:∀ y:Nm,ao y=x↔y=nm x:=fun y=>⟨fun e=>by exact om e,fun e=>by rw [e,hx]⟩
 rcases o9 hk with hk | hk
 ·obtain ⟨m,hm,q⟩:=R.F.ns
  refine wpAny_storeName_local (R.F.kl x hk) hm (fun h' hn hs=>?_) (by rw [R.F.kind];rfl)
  obtain ⟨S',e⟩:=R.S.priv (s':={ s with heap:=h',toks:=s.toks+1 }) (fun b=>b=env.locals) (fun b h=>by subst h;exact R.pz _ (.inl rfl)) (fun b h=>by subst h;exact R.pw _ (.inl rfl))
   (fun b o nb g=>(hs.2 b nb).trans g) (Nat.le_of_eq hs.1.symm) rfl rfl
  have ev:Evo C (Pl env) σ X s σ X { s with heap:=h',toks:=s.toks+1 }:=e.weak fun b h=>.inl h
  have vr:∀ {v a},VRel C X σ.next s.heap v a->VRel C X σ.next h' v a:=fun r=>e.rel R.S (fun b h=>by subst h;exact R.pz _ (.inl rfl)) r
  have cell:∀ {c w},c≠env.locals->s.heap.IsCell c w->h'.IsCell c w:=fun hc ⟨o,g,d⟩=>⟨o,(hs.2 _ hc).trans g,d⟩
  refine hQ X _ ⟨S',⟨R.F.kind,R.F.kl,R.F.kc,R.F.kf,R.F.kg,R.F.gl,R.F.bt,⟨_,hn,fun y u e1 ky=>?_⟩,R.F.cl,fun y u e1 ky=>?_,fun y c e1=>?_,R.F.apart,R.F.ne⟩,R.pz,R.pw⟩ ev
  ·rw [cg] at e1
   by_cases hy:y=nm x
   ·subst hy
    rw [if_pos rfl] at e1
    cases e1
    exact ⟨a,by exact if_pos hx,vr r⟩
   ·rw [if_neg hy] at e1
    obtain ⟨a',e2,r2⟩:=q y u e1 ky
    exact ⟨a',by rw [if_neg (fun h=>hy ((hname y).mp h))];exact e2,vr r2⟩
  ·rw [cg] at e1
   by_cases hy:y=nm x
   ·subst hy
    rw [hx,hk] at ky
    rcases ky with h | h<;>cases h
   ·rw [if_neg hy] at e1
    obtain ⟨c,a',e2,hc,r2⟩:=R.F.cv y u e1 ky
    exact ⟨c,a',e2,cell (R.F.ne _ _ e2) hc,vr r2⟩
  ·obtain ⟨w,hc⟩:=R.F.live y c e1
   exact ⟨w,cell (R.F.ne _ _ e1) hc⟩
 ·obtain ⟨c,hc⟩:=R.F.cl x (.inl hk)
  obtain ⟨w0,hw0⟩:=R.F.live x c hc
  refine wpAny_storeName_cell R.F.kind (R.F.kc x hk) hc hw0 fun h' hc' hs=>?_
  have pc:Pl env c:=.inr ⟨x,hc⟩
  obtain ⟨S',e⟩:=R.S.priv (s':={ s with heap:=h' }) (fun b=>b=c) (fun b h=>by subst h;exact R.pz _ pc) (fun b h=>by subst h;exact R.pw _ pc)
   (fun b o nb g=>(hs.2 b nb).trans g) (Nat.le_of_eq hs.1.symm) rfl rfl
  have ev:Evo C (Pl env) σ X s σ X { s with heap:=h' }:=e.weak fun b h=>by subst h;exact pc
  have vr:∀ {v a},VRel C X σ.next s.heap v a->VRel C X σ.next h' v a:=fun r=>e.rel R.S (fun b h=>by subst h;exact R.pz _ pc) r
  refine hQ X _ ⟨S',⟨R.F.kind,R.F.kl,R.F.kc,R.F.kf,R.F.kg,R.F.gl,R.F.bt,?_,R.F.cl,fun y u e1 ky=>?_,fun y c' e1=>?_,R.F.apart,R.F.ne⟩,R.pz,R.pw⟩ ev
  ·obtain ⟨m,hm,q⟩:=R.F.ns
   refine ⟨m,hm.sameBut hs (Ne.symm (R.F.ne _ _ hc)),fun y u e1 ky=>?_⟩
   rw [cg] at e1
   by_cases hy:y=nm x
   ·subst hy;rw [hx,hk] at ky;cases ky
   ·rw [if_neg hy] at e1
    obtain ⟨a',e2,r2⟩:=q y u e1 ky
    exact ⟨a',e2,vr r2⟩
  ·rw [cg] at e1
   by_cases hy:y=nm x
   ·subst hy
    rw [if_pos rfl] at e1
    cases e1
    exact ⟨c,a,by rw [hx];exact hc,hc',vr r⟩
   ·rw [if_neg hy] at e1
    obtain ⟨c2,a',e2,hc2,r2⟩:=R.F.cv y u e1 ky
    refine ⟨c2,a',e2,?_,vr r2⟩
    obtain ⟨o,g,d⟩:=hc2
    exact ⟨o,(hs.2 _ fun q=>hy ((hname y).mp (R.F.apart _ _ c (q▸e2) hc))).trans g,d⟩
  ·by_cases hcc:c'=c
   ·subst hcc;exact ⟨_,hc'⟩
   ·obtain ⟨w,o,g,d⟩:=R.F.live y c' e1
    exact ⟨w,o,(hs.2 _ hcc).trans g,d⟩
noncomputable def bg:Loc->List Nm->List V->Loc
 | ρ,x::xs,v::vs=>bg (put ρ x v) xs vs
 | ρ,_,_=>ρ
noncomputable def iV:V->Option (List V)
 | .tup vs=>some vs
 | .list vs=>some vs
 | _=>none
noncomputable def ci (ρ:Loc) (xs:List Nm) (v:V):Option Loc :=
 match xs with
 | [x]=>some (put ρ x v)
 | xs=>(iV v).bind fun vs=>bif Nat.beq vs.length xs.length then some (bg ρ xs vs) else none
theorem na {ρ ρ':Loc} {xs:List Nm} {v:V} (h:((iV v).bind fun vs=>bif Nat.beq vs.length xs.length then some (bg ρ xs vs) else none)=some ρ'):∃ vs,iV v=some vs/\vs.length=xs.length/\ρ'=bg ρ xs vs:=by
 obtain ⟨vs,hi,hc⟩:=Option.bind_eq_some_iff.mp h
 cases hl:Nat.beq vs.length xs.length with
 | false=>rw [hl] at hc;cases hc
 | true=>rw [hl] at hc;exact ⟨vs,hi,Nat.eq_of_beq_eq_true hl,(Option.some.inj hc).symm⟩
theorem nF {ρ ρ':Loc} {xs:List Nm} {v:V} (h:2<=xs.length) (hb:ci ρ xs v=some ρ'):∃ vs,iV v=some vs/\vs.length=xs.length/\ρ'=bg ρ xs vs:=by
 cases xs with
 | nil=>cases h
 | cons x xs =>
   cases xs with
   | nil=>exact absurd h (Nat.not_succ_le_self 1)
   | cons y ys=>exact na hb
theorem dF {sc:Scope} {e:Expr} {y:Nm} (h:fA sc e=some y):∃ x p,e=.Name x p/\cV x=false/\iv (kindIn sc x)=true/\y=nm x:=by
 obtain ⟨⟨x,p⟩,h1,h⟩:=Option.bind_eq_some_iff.mp h
 obtain ⟨hb,h⟩:=kR h
 obtain ⟨ho,h⟩:=jB h
 exact ⟨x,p,ow h1,hb,ho,(Option.some.inj h).symm⟩
theorem fK {sc:Scope} {e:Expr} {xs:List Nm} (h:ca sc e=some xs):(∃ x p y,e=.Name x p/\fA sc e=some y/\xs=[y])\/∃ l k p,e=.Tuple l k p/\mapO (fA sc) l=some xs/\2<=xs.length:=by
 cases hq:rZ e with
 | some q =>
   obtain ⟨y,h1,h2⟩:=Option.map_eq_some_iff.mp ((congrArg (xi sc e) hq).symm.trans h)
   exact .inl ⟨q.1,q.2,y,ow hq,h1,h2.symm⟩
 | none =>
   obtain ⟨q,h1,h2⟩:=Option.bind_eq_some_iff.mp ((congrArg (xi sc e) hq).symm.trans h)
   obtain ⟨ys,h2,h3⟩:=Option.bind_eq_some_iff.mp h2
   by_cases hl:2<=ys.length
   ·rw [if_pos hl] at h3;cases h3;exact .inr ⟨q.1,q.2.1,q.2.2,yR h1,h2,hl⟩
   ·rw [if_neg hl] at h3;cases h3
theorem xR {A:Around} {env:Env} {sc:Scope} {E:Value->Shared->Prop} (elts:List Expr):∀ {ys:List Nm} {vs:List V} {as:List Value} {ρ:Loc} {X:Wld} {s:Shared} {Q:Unit->Shared->Prop},mapO (fA sc) elts=some ys->Rel C env sc ρ σ X s ->
 VsRel C X σ.next s.heap vs as->vs.length=ys.length->(∀ X' s',Rel C env sc (bg ρ ys vs) σ X' s'->Evo C (Pl env) σ X s σ X' s'->Q () s')->wpAny (model C.prog C.w) A (assignInOrder ((assignEach elts env).map (·.2)) as) Q E s:=by
 induction elts with
 | nil =>
   intro ys vs as ρ X s Q h R r hl hQ
   obtain rfl:=Option.some.inj h
   obtain rfl:=List.eq_nil_of_length_eq_zero hl
   exact wpAny_pure (hQ X s R .refl)
 | cons e elts ih =>
   intro ys vs as ρ X s Q h R r hl hQ
   obtain ⟨y,ys',h1,h2,rfl⟩:=b2 h
   obtain ⟨v,vs,rfl,hl⟩:=vT hl
   obtain ⟨x,p,rfl,hb,ho,rfl⟩:=dF h1
   obtain ⟨a,as',rfl,r1,r2⟩:=r
   refine wpAny_bind (wpAny_holding (wpAny_assign_Name (fR R ho r1 fun X1 s1 R1 v1=>?_)))
   exact ih h2 R1 (v1.rels R.S R.pz r2) (by assumption) fun X2 s2 R2 v2=>hQ X2 s2 R2 (v1.trans v2)
theorem xa {n:Nat} {sc:Scope} {env:Env} {elts:List Expr}:∀ {ys:List Nm},mapO (fA sc) elts=some ys->(assignEach elts env).length=ys.length/\(assignEach elts env).findIdx? (·.1)=none:=by
 induction elts with
 | nil=>intro ys h;obtain rfl:=Option.some.inj h;exact ⟨rfl,rfl⟩
 | cons e elts ih =>
   intro ys h
   obtain ⟨y,ys',h1,h2,rfl⟩:=b2 h
   obtain ⟨x,p,rfl,hb,ho,rfl⟩:=dF h1
   obtain ⟨a,b⟩:=ih h2
   refine ⟨congrArg (·+1) a,?_⟩
   show ((false,assign (.Name x p) env)::assignEach elts env).findIdx? (·.1)=none
   rw [List.findIdx?_cons]
   simp only [b]
   rfl
theorem nj {A:Around} {X:Wld} {s:Shared} {v:V} {a:Value} {vs:List V} {Q:List Value->Shared->Prop} {E:Value->Shared->Prop} (hh:A.handled=none) (S:SRel C σ X s) (r:VRel C X σ.next s.heap v a) (hi:iV v=some vs)
 (hQ:∀ as s',Grow s s'->VsRel C X σ.next s'.heap vs as->Q as s'):wpAny (model C.prog C.w) A (unpackItems a vs.length none) Q E s:=by
 have fin:∀ (items:Array Value) (h':Heap),VsRel C X σ.next s.heap vs items.toList->Heap.ExtBut s.heap.objs.size s.heap h'->s.heap.objs.size<=h'.objs.size->Q items.toList { s with heap:=h' }:=fun items h' r he hs=>by
  have G:Grow s { s with heap:=h' }:=⟨fun b o e=>he b o (Nat.ne_of_lt (Heap.lt_size e)) e,hs,rfl,rfl⟩
  exact hQ _ _ G (r.mono (fun b o _ e=>G.keep b o e) (fun _ z=>z) (Nat.le_refl _) fun _ _=>rfl)
 cases v with
 | tup us =>
   cases hi
   obtain ⟨p,items,kk,rfl,z,g,q⟩:=r
   have e:vs.length=items.size:=by rw [<-q.length];dsimp
   rw [e]
   exact bL (wpAny_unpackItems_tuple hh ⟨_,g,rfl,_,rfl⟩ fun h' he hs=>fin _ _ q he hs)
 | list us =>
   cases hi
   obtain ⟨p,items,kk,rfl,z,g,q⟩:=r
   have e:vs.length=items.size:=by rw [<-q.length];dsimp
   rw [e]
   exact bL (PySem.W.kun_itemsOf hh ⟨_,g,rfl,_,rfl⟩ fun h' he hs=>fin _ _ q he hs)
 | _=>cases hi
theorem asg {A:Around} {env:Env} {sc:Scope} {X:Wld} {s:Shared} {t:Expr} {xs:List Nm} {v:V} {a:Value} {ρ':Loc} {Q:Unit->Shared->Prop} {E:Value->Shared->Prop} (hh:A.handled=none) (ht:ca sc t=some xs) (hb:ci ρ xs v=some ρ') (R:Rel C env sc ρ σ X s)
 (r:VRel C X σ.next s.heap v a) (hQ:∀ X' s',Rel C env sc ρ' σ X' s'->Evo C (Pl env) σ X s σ X' s'->Q () s'):wpAny (model C.prog C.w) A (assign t env a) Q E s:=by
 rcases fK ht with ⟨x,p,y,rfl,h1,rfl⟩ | ⟨l,kk,p,rfl,h1,h2⟩
 ·obtain ⟨x',p',e,hbn,ho,rfl⟩:=dF h1
  cases e
  cases hb
  exact wpAny_assign_Name (fR R ho r hQ)
 ·obtain ⟨e1,e2⟩:=xa (n:=0) (env:=env) h1
  obtain ⟨vs,hi,hl,rfl⟩:=nF h2 hb
  simp only [arm_assign_Tuple]
  refine wpAny_bind (wpAny_standAt ?_)
  unfold unpack
  rw [e1,e2,<-hl]
  refine wpAny_bind (wpAny_holding (nj hh R.S r hi fun as s1 G r1=>?_))
  obtain ⟨R1,v1⟩:=R.grown G
  exact xR l h1 R1 r1 hl fun X2 s2 R2 v2=>hQ X2 s2 R2 (v1.trans v2)
end
end
section
open PySem PyProof.Rows
noncomputable def fresh (ρ:Loc):List Nm->Bool
 | []=>true
 | x::xs=>(get ρ x).isNone&&fresh ρ xs
theorem vJ {ρ:Loc} {y:Nm} {xs:List Nm} (h:fresh ρ xs=true) (hy:y∈xs):get ρ y=none:=by
 induction xs with
 | nil=>cases hy
 | cons x xs ih =>
   obtain ⟨h1,h2⟩:=Bool.and_eq_true_iff.mp h
   rcases List.mem_cons.mp hy with rfl | hy
   ·exact Option.isNone_iff_eq_none.mp h1
   ·exact ih h2 hy
theorem pM {y:Nm} {xs:List Nm} (h:y∉xs):∀ (vs:List V) (ρ:Loc),get (bg ρ xs vs) y=get ρ y:=by
 induction xs with
 | nil=>intro vs ρ;cases vs<;>rfl
 | cons x xs ih =>
   intro vs ρ
   cases vs with
   | nil=>rfl
   | cons v vs=>exact (ih (fun q=>h (.tail _ q)) vs (put ρ x v)).trans ((cg ρ x v y).trans (if_neg fun q=>h (by rw [q];exact .head _)))
theorem gS {ρ ρ1:Loc} {xs:List Nm} {v:V} (hb:ci ρ xs v=some ρ1) (hf:fresh ρ xs=true):∀ x u,get ρ x=some u->get ρ1 x=some u:=by
 intro x u e
 have hx:x∉xs:=fun q=>bn ((vJ hf q).symm.trans e)
 have tl:(∃ vs,iV v=some vs/\vs.length=xs.length/\ρ1=bg ρ xs vs)->get ρ1 x=some u:=fun ⟨vs,_,_,q⟩=>by rw [q,pM hx];exact e
 cases xs with
 | nil=>exact tl (na hb)
 | cons y ys =>
   cases ys with
   | nil=>rw [<-Option.some.inj hb,cg,if_neg (fun q=>hx (by rw [q];exact .head _))];exact e
   | cons z zs=>exact tl (na hb)
noncomputable def cb (lo:Int):Nat->List V
 | 0=>[]
 | n+1=>.int lo::cb (lo+1) n
noncomputable def c7:V->Option (List V)
 | .list vs=>some vs
 | .tup vs=>some vs
 | .rng lo hi=>some (cb lo (hi - lo).toNat)
 | .str s=>some (s.map fun c=>.str [c])
 | _=>none
theorem lz (lo:Int) (n:Nat):(cb lo n).length=n:=by
 induction n generalizing lo with
 | zero=>rfl
 | succ n ih=>exact congrArg (·+1) (ih (lo+1))
theorem o7 (n:Nat):∀ (lo:Int) (j:Nat),j<n->(cb lo n)[j]?=some (.int (lo+j)):=by
 induction n with
 | zero=>intro lo j h;cases h
 | succ n ih =>
   intro lo j h
   cases j with
   | zero=>exact congrArg (fun i=>some (V.int i)) (Int.add_zero lo).symm
   | succ j=>exact (ih (lo+1) j (Nat.lt_of_succ_lt_succ h)).trans (congrArg (fun i=>some (V.int i)) (by lia -abstractProof))
noncomputable def fy:V->Bool
 | .rng lo hi=>Builtin.Range.small lo hi 1
 | _=>true
structure Itr (C:Cx) (X:Wld) (n0:Nat) (A:Around) (vs:List V) (s:Shared) (I:Addr) (fp:List Addr) (n:Nat) (P:Nat->Value->Prop) (St:Nat->Heap->Prop):Prop where
 W:Walks C.prog C.w A I fp [I] n P St
 st:St 0 s.heap
 len:vs.length=n
 val:∀ j a,j<n->P j a->∃ u,vs[j]?=some u/\VRel C X n0 s.heap u a
 own:∀ j t v s' (Q:Unit->Shared->Prop) (E:Value->Shared->Prop),St j s'.heap->Q () s'->wpAny (model C.prog C.w) A (letOwnedTupleGo t (.ref I) v) Q E s'
 mem:I∈fp
 zs:∀ b∈fp,b=I\/X.Z b
theorem lot {P:Sem Unit->Prop} {t:Expr} {it v:Value} {p:Pos} (h1:P (letOwnedTupleGo (.List [] p) it v)) (h2:P (pure ())):P (letOwnedTupleGo t it v):=by
 cases t<;>first | exact h2 | exact h1
theorem gi {M:Model} {A:Around} {E:Value->Shared->Prop} {s:Shared} {t:Expr} {I:Addr} {v:Value} {o:Obj} {T:String} {fs:Array Value} {Q:Unit->Shared->Prop} (ho:s.heap.get? I=some o) (hc:o.cls=.type T) (hd:o.data=.fields fs)
 (hT:["enumerate", "zip", "dict_itemiterator", "dict_reverseitemiterator", "odict_iterator", "itertools.zip_longest", "itertools.pairwise"].contains T=false) (h:Q () s):wpAny M A (letOwnedTupleGo t (.ref I) v) Q E s:=by
 refine lot (P:=fun t=>wpAny M A t Q E s) (p:=default) ?_ (wpAny_pure h)
 unfold letOwnedTupleGo
 cases v<;>first
  | exact wpAny_pure h
  | (refine wpAny_bind (wpAny_load ho ?_)
     rw [hc,hd]
     simp only [hT,Bool.false_and,Bool.false_eq_true,if_false]
     exact wpAny_pure h)
section
variable {C:Cx} {k:Nat} {ρ:Loc} {σ:Sto}
theorem mw {A:Around} {X:Wld} {s:Shared} {src:V} {a:Value} {vs:List V} {Q:Value->Shared->Prop} {E:Value->Shared->Prop} (hA:A.handled=none) (S:SRel C σ X s) (r:VRel C X σ.next s.heap src a) (hi:c7 src=some vs) (hsm:fy src=true)
 (hQ:∀ I fp n P St s',Grow s s'->s.heap.objs.size<=I->(∃ o,s'.heap.get? I=some o)->Itr C X σ.next A vs s' I fp n P St->Q (.ref I) s'):wpAny (model C.prog C.w) A (pyIter a) Q E s:=by
 cases src with
 | list us =>
   cases hi
   obtain ⟨p,items,kk,rfl,z,g,q⟩:=r
   have hl:s.heap.IsList p items:=⟨_,g,rfl,_,rfl⟩
   have hne:p≠s.heap.objs.size:=Nat.ne_of_lt (Heap.lt_size g)
   refine wpAny_pyIter_list hl (hQ _ [s.heap.objs.size,p] items.size _ _ _ (Grow.push _) (Nat.le_refl _) ⟨_,Heap.get?_push_size _ rfl⟩
    ⟨Walks.list hA _ p hne items,⟨⟨_,Heap.get?_push_size _ rfl,rfl,rfl⟩,hl.push _⟩,by rw [<-q.length];dsimp,fun j a hj hP=>?_,fun j t v s' Q E st hq=>?_,by exact List.mem_cons_self,fun b hb=>?_⟩)
   ·have hP':items.toList[j]?=some a:=by simpa using hP
    obtain ⟨u,e,r⟩:=q.getA j hP'
    exact ⟨u,e,r.mono (fun b o _ e=>Heap.get?_push_of_some _ e) (fun _ z=>z) (Nat.le_refl _) fun _ _=>rfl⟩
   ·obtain ⟨o,ho,hc,hd⟩:=st.1
    exact gi ho hc hd (by rfl) hq
   ·simp only [List.mem_cons,List.not_mem_nil,or_false] at hb
    rcases hb with rfl | rfl
    ·exact .inl rfl
    ·exact .inr z
 | tup us =>
   cases hi
   obtain ⟨p,items,kk,rfl,z,g,q⟩:=r
   have hl:s.heap.IsTuple p items:=⟨_,g,rfl,_,rfl⟩
   have hne:p≠s.heap.objs.size:=Nat.ne_of_lt (Heap.lt_size g)
   refine wpAny_pyIter_tuple hl (hQ _ [s.heap.objs.size,p] items.size _ _ _ (Grow.push _) (Nat.le_refl _) ⟨_,Heap.get?_push_size _ rfl⟩
    ⟨Walks.tuple hA _ p hne items,⟨⟨_,Heap.get?_push_size _ rfl,rfl,rfl⟩,hl.push _⟩,by rw [<-q.length];dsimp,fun j a hj hP=>?_,fun j t v s' Q E st hq=>?_,by exact List.mem_cons_self,fun b hb=>?_⟩)
   ·have hP':items.toList[j]?=some a:=by simpa using hP
    obtain ⟨u,e,r⟩:=q.getA j hP'
    exact ⟨u,e,r.mono (fun b o _ e=>Heap.get?_push_of_some _ e) (fun _ z=>z) (Nat.le_refl _) fun _ _=>rfl⟩
   ·obtain ⟨o,ho,hc,hd⟩:=st.1
    exact gi ho hc hd (by rfl) hq
   ·simp only [List.mem_cons,List.not_mem_nil,or_false] at hb
    rcases hb with rfl | rfl
    ·exact .inl rfl
    ·exact .inr z
 | rng lo hi' =>
   cases hi
   obtain ⟨p,t,u,v,rfl,z,g⟩:=r
   refine wpAny_pyIter_range g hsm (hQ _ [s.heap.objs.size] (hi' - lo).toNat _ _ _ (Grow.push _) (Nat.le_refl _) ⟨_,Heap.get?_push_size _ rfl⟩
    ⟨Walks.range hA _ lo 1 _,?_,lz _ _,fun j a hj hP=>?_,fun j t v s' Q E st hq=>?_,by simp,fun b hb=>?_⟩)
   ·show IsRangeIter _ _ _ _ _
    have e:Builtin.Range.rangeSize lo hi' 1=((hi' - lo).toNat:Int):=by
     unfold Builtin.Range.rangeSize
     simp
     grind -abstractProof
    rw [e]
    simpa using Heap.get?_push_size _ rfl
   ·obtain ⟨t,rfl⟩:=hP
    exact ⟨_,o7 _ _ _ hj,⟨_,by rw [Int.mul_one]⟩⟩
   ·exact gi st rfl rfl (by rfl) hq
   ·simp only [List.mem_cons,List.not_mem_nil,or_false] at hb
    exact .inl hb
 | str cs =>
   cases hi
   obtain ⟨t,rfl⟩:∃ t,a=.str (ao cs) t:=r
   have val:∀ j a,j<(ao cs).cps.size->SignAt (ao cs) j a->∃ u,(cs.map fun c=>V.str [c])[j]?=some u/\∀ h,VRel C X σ.next h u a:=fun j a hj ⟨c,u,e,h⟩=>by
    subst h
    have e':cs[j]?=some c:=by simpa using e
    exact ⟨.str [c],by simp [e'],fun h=>⟨_,rfl⟩⟩
   cases ha:(ao cs).cps.all (·<128)
   ·refine wpAny_pyIter_wide ha (hQ _ [s.heap.objs.size] (ao cs).cps.size _ _ _ (Grow.push _) (Nat.le_refl _) ⟨_,Heap.get?_push_size _ rfl⟩
     ⟨Walks.strWide hA _ _ t,⟨_,Heap.get?_push_size _ rfl,rfl,rfl⟩,by simp,fun j a hj hP=>let ⟨u,e,r⟩:=val j a hj hP;⟨u,e,r _⟩,fun j t v s' Q E st hq=>?_,by simp,fun b hb=>?_⟩)
    ·obtain ⟨o,ho,hc,hd⟩:=st
     exact gi ho hc hd (by rfl) hq
    ·simp only [List.mem_cons,List.not_mem_nil,or_false] at hb
     exact .inl hb
   ·refine wpAny_pyIter_ascii ha (hQ _ [s.heap.objs.size] (ao cs).cps.size _ _ _ (Grow.push _) (Nat.le_refl _) ⟨_,Heap.get?_push_size _ rfl⟩
     ⟨Walks.strAscii hA _ _ t,⟨_,Heap.get?_push_size _ rfl,rfl,rfl⟩,by simp,fun j a hj hP=>let ⟨u,e,r⟩:=val j a hj hP;⟨u,e,r _⟩,fun j t v s' Q E st hq=>?_,by simp,fun b hb=>?_⟩)
    ·obtain ⟨o,ho,hc,hd⟩:=st
     exact gi ho hc hd (by rfl) hq
    ·simp only [List.mem_cons,List.not_mem_nil,or_false] at hb
     exact .inl hb
 | _=>cases hi
end
end
section
open PySem PyProof.Rows
noncomputable def wC (C:Cx) (k:Nat):List Ex->Loc->Sto->Bool->Sto->Prop
 | [],_,σ,b,σ'=>b=true/\σ'=σ
 | [c],ρ,σ,b,σ'=>EvT C k c ρ σ b σ'
 | _,_,_,_,_=>False
inductive CompR (C:Cx) (k:Nat) (elt:Ex):List (List Nm)->List Ex->List (List Ex)->Loc->Sto->List V->List V->Sto->Prop
 | nil {t ts its cs ifs ρ σ}:CompR C k elt (t::ts) its (cs::ifs) ρ σ [] [] σ
 | skip {t ts its cs ifs ρ ρ1 σ σ1 σ2 v vs out} (hb:ci ρ t v=some ρ1) (hf:fresh ρ t=true) (ht:wC C k cs ρ1 σ false σ1) (hr:CompR C k elt (t::ts) its (cs::ifs) ρ σ1 vs out σ2) :
    CompR C k elt (t::ts) its (cs::ifs) ρ σ (v::vs) out σ2
 | emit {t cs ρ ρ1 σ σ1 σ2 σ3 v vs u out} (hb:ci ρ t v=some ρ1) (hf:fresh ρ t=true) (ht:wC C k cs ρ1 σ true σ1) (he:EvE C k elt ρ1 σ1 u σ2) (hr:CompR C k elt [t] [] [cs] ρ σ2 vs out σ3) :
    CompR C k elt [t] [] [cs] ρ σ (v::vs) (u::out) σ3
 | inner {t t2 ts it its cs cs2 ifs ρ ρ1 σ σ1 σ2 σ3 σ4 v vs src vs2 out2 out} (hb:ci ρ t v=some ρ1) (hf:fresh ρ t=true) (ht:wC C k cs ρ1 σ true σ1) (hi:EvE C k it ρ1 σ1 src σ2)
    (hs:c7 src=some vs2) (hsm:fy src=true) (h2:CompR C k elt (t2::ts) its (cs2::ifs) ρ1 σ2 vs2 out2 σ3) (hr:CompR C k elt (t::t2::ts) (it::its) (cs::cs2::ifs) ρ σ3 vs out σ4) :
    CompR C k elt (t::t2::ts) (it::its) (cs::cs2::ifs) ρ σ (v::vs) (out2++out) σ4
theorem ki {e:Expr} {env:Env} (h:ge e=true) (x:Value):foldedSetIterable e env x=pure x:=by
 cases e<;>first | exact Eq.refl (pure x) | cases h
noncomputable def jN (elt:Expr) (gens:List Comprehension) (scope:Scope) (pos:Pos) (d:Nat) (it acc:Value) (env:Env) (ok:Bool):Sem Fin:=do
 if ok then
  match gens[d+1]? with
  | some g'=>do
    let x <-eval g'.iter env
    standAt g'.iter.pos
    let x <-if g'.is_async != 0 then foldedIterable g'.iter x else foldedSetIterable g'.iter env x
    let _ <-runOwn (.compStart (.ListComp elt gens scope pos) (d+1) (<-holding [x] (if g'.is_async != 0 then asyncIter x else pyIter x)) acc env) env
  | none=>(do let _ <-call (.builtin "list.append") [acc,<-eval elt env])
 again (.compLoop (.ListComp elt gens scope pos) d it acc env)
theorem k9 (elt:Expr) (gens:List Comprehension) (scope:Scope) (pos:Pos) (d:Nat) (it acc:Value) (env:Env) (g:Comprehension) (hg:gens[d]?=some g) (ha:g.is_async=0) :
 compTurn (.ListComp elt gens scope pos) d it acc env=(do
  standAt g.iter.pos
  match <-pyNext it with
  | none=>pure (.done .next)
  | some v =>
    letOwnedTupleGo g.target it v
    assign g.target env v
    let ok <-forIn g.ifs true fun c r=>if r=true then do let ok <-isTrue c env (eval c env);pure (ForInStep.yield ok) else pure (ForInStep.yield r)
    jN elt gens scope pos d it acc env ok):=by
 unfold compTurn
 simp only [hg,ha]
 rfl
end
section
open PySem PyProof.Rows
section
variable {C:Cx} {k:Nat}
theorem lY {A:Around} {R:Result->Shared->Prop} {s:Shared} {elt:Expr} {gens:List Comprehension} {scope:Scope} {pos:Pos} {d:Nat} {it acc:Value} {env:Env} {g:Comprehension} (hg:gens[d]?=some g) (ha:g.is_async=0)
 (h0:codeAny (model C.prog C.w) A (.compLoop (.ListComp elt gens scope pos) d it acc env) R s)
 (h:wpAny (model C.prog C.w) A (pyIter it) (fun it' s'=>codeAny (model C.prog C.w) A (.compLoop (.ListComp elt gens scope pos) d it' acc env) R s') (notedBy (model C.prog C.w) A env fun x s'=>R (.error x) s') s) :
 codeAny (model C.prog C.w) A (.compStart (.ListComp elt gens scope pos) d it acc env) R s:=by
 refine codeAny_of_tree ?_
 show wpAny _ A ((compStart (.ListComp elt gens scope pos) d it acc env).onRaise (fun x=>do noteFrame x env;standAt theWindowsPlace)) _ _ s
 refine wpAny_notedAt ?_
 unfold compStart
 rw [show clausesOf (.ListComp elt gens scope pos)=gens from rfl]
 simp only [hg,ha,Option.elim]
 show wpAny _ A (ask >>= _) _ _ s
 refine wpAny_bind (wpAny_askSetting (wpAny_ite ?_))
 split
 ·first
   | exact wpAny_bind (wpAny_pure (wpAny_pure (And.intro rfl h0)))
   | exact wpAny_pure (And.intro rfl h0)
 ·exact wpAny_bind (wpAny_rule (wpAny_bind (wpAny_standAt (wpAny_bind (wpAny_mono h (fun it' s' h'=>wpAny_pure (And.intro rfl h')) fun _ _ x=>x)))))
theorem yF {A:Around} {n:Nat} {sc:Scope} {env:Env} {X:Wld} {s:Shared} {ρ:Loc} {σ σ':Sto} {cs:List Expr} {cs':List Ex} {b:Bool} {Q:Bool->Shared->Prop} {E:Value->Shared->Prop} (he:mapO (aB n sc) cs=some cs') (h:wC C k cs' ρ σ b σ') (rm:Room k A) (R:Rel C env sc ρ σ X s)
 (hQ:∀ X' s',Rel C env sc ρ σ' X' s'->Evo C (Pl env) σ X s σ' X' s'->Q b s') :
 wpAny (model C.prog C.w) A (forIn cs true fun c r=>if r=true then do let ok <-isTrue c env (eval c env);pure (ForInStep.yield ok) else pure (ForInStep.yield r)) Q E s:=by
 cases cs' with
 | nil =>
   obtain rfl:=cE he
   obtain ⟨rfl,rfl⟩:=h
   exact wpAny_tests_nil (hQ X s R .refl)
 | cons c' r' =>
   cases r' with
   | nil =>
     obtain ⟨c,r,rfl,e1,e2⟩:=aM he
     obtain rfl:=cE e2
     exact wpAny_tests_one ((h:EvT C k c' ρ σ b σ') _ _ _ e1 A env X s rm R _ _ hQ)
   | cons _ _=>exact h.elim
structure Priv (C:Cx) (env:Env) (σ:Sto) (X:Wld) (s:Shared) (b:Addr):Prop where
 w:¬ Wr C σ X b
 p:¬ Pl env b
 z:¬ X.Z b
 live:b<s.heap.objs.size
theorem Priv.evo {env:Env} {P:Addr->Prop} {σ:Sto} {X:Wld} {s:Shared} {σ':Sto} {X':Wld} {s':Shared} {b:Addr} (h:Priv C env σ X s b) (e:Evo C P σ X s σ' X' s'):Priv C env σ' X' s' b:=by
 have nlt:¬ s.heap.objs.size<=b:=Nat.not_le.mpr h.live
 refine ⟨fun w=>(e.wn b w).elim h.w nlt,h.p,fun z=>?_,Nat.lt_of_lt_of_le h.live e.size⟩
 rcases e.zn b z with q | q | q
 ·exact h.z q
 ·exact nlt q
 ·exact h.w q
theorem oA {A:Around} {E:Value->Shared->Prop} {s:Shared} {D:Addr} {ys:Array Value} {y:Value} {Q:Value->Shared->Prop} (hl:s.heap.PlainList D ys) (hQ:∀ h',h'.PlainList D (ys.push y)->Heap.SameBut D s.heap h'->Q .none { s with heap:=h' }) (hsz:ys.size<=sizeLine) :
 wpAny (model C.prog C.w) A (call (.builtin "list.append") [.ref D,y]) Q E s:=wpAny_list_append_plain (hsz:=hsz) hl hQ
structure WI (C:Cx) (A:Around) (env:Env) (sc:Scope) (ρ:Loc) (I:Addr) (N:Addr->Prop) (fp:List Addr) (n:Nat) (P:Nat->Value->Prop) (St:Nat->Heap->Prop) (σ:Sto) (X:Wld) (s:Shared) (i:Nat) (vs:List V):Prop where
 R:Rel C env sc ρ σ X s
 W:Walks C.prog C.w A I fp [I] n P St
 st:St i s.heap
 len:i+vs.length=n
 val:∀ j a,i+j<n->P (i+j) a->∃ u,vs[j]?=some u/\VRel C X σ.next s.heap u a
 own:∀ j t v s' (Q:Unit->Shared->Prop) (E:Value->Shared->Prop),St j s'.heap->Q () s'->wpAny (model C.prog C.w) A (letOwnedTupleGo t (.ref I) v) Q E s'
 fps:∀ b∈fp,¬ Wr C σ X b/\¬ Pl env b/\¬ N b/\b<s.heap.objs.size
 mem:I∈fp
 z:¬ X.Z I
section
variable {A:Around} {env:Env} {sc:Scope} {ρ ρ':Loc} {I:Addr} {N:Addr->Prop} {fp:List Addr} {n:Nat} {P:Nat->Value->Prop} {St:Nat->Heap->Prop} {σ σ':Sto} {X X':Wld} {s s':Shared} {i:Nat} {v:V} {vs:List V}
theorem WI.move {Q:Addr->Prop} (h:WI C A env sc ρ I N fp n P St σ X s i vs) (e:Evo C Q σ X s σ' X' s') (q:∀ b∈fp,¬ Q b) (qz:∀ b,Q b->¬ X.Z b) (R':Rel C env sc ρ' σ' X' s'):WI C A env sc ρ' I N fp n P St σ' X' s' i vs where
 R:=R'
 W:=h.W
 st:=h.W.frame _ _ _ h.st fun b hb o g=>e.keep b o g (h.fps b hb).1 (q b hb)
 len:=h.len
 val:=fun j a hj hp=>(h.val j a hj hp).imp fun _ u=>⟨u.1,e.rel h.R.S qz u.2⟩
 own:=h.own
 fps:=fun b hb=>⟨fun w=>(e.wn b w).elim (h.fps b hb).1 (Nat.not_le.mpr (h.fps b hb).2.2.2),(h.fps b hb).2.1,(h.fps b hb).2.2.1,Nat.lt_of_lt_of_le (h.fps b hb).2.2.2 e.size⟩
 mem:=h.mem
 z:=(Priv.evo ⟨(h.fps I h.mem).1,(h.fps I h.mem).2.1,h.z,(h.fps I h.mem).2.2.2⟩ e).z
theorem Itr.wi {s0:Shared} (R0:Rel C env sc ρ σ X s0) (R:Rel C env sc ρ' σ X s) (hI:s0.heap.objs.size<=I) (hIl:∃ o,s.heap.get? I=some o) (t:Itr C X σ.next A vs s I fp n P St) (hz:∀ b,N b->¬ X.Z b) (hn:¬ N I):WI C A env sc ρ' I N fp n P St σ X s 0 vs:=by
 have new:∀ {o},¬ s0.heap.get? I=some o:=fun g=>Nat.lt_irrefl _ (Nat.lt_of_lt_of_le (Heap.lt_size g) hI)
 refine ⟨R,t.W,t.st,(Nat.zero_add _).trans t.len,fun j a=>by rw [Nat.zero_add];exact t.val j a,t.own,fun b hb=>?_,t.mem,fun z=>(R0.S.zl _ z).elim fun _=>new⟩
 rcases t.zs b hb with rfl | z
 ·exact ⟨fun w=>(R0.S.wl _ w).elim fun _=>new,fun p=>(R0.F.pl p).elim fun _=>new,hn,hIl.elim fun _=>Heap.lt_size⟩
 ·exact ⟨fun w=>R.S.zw b w z,fun p=>R.pz b p z,fun q=>hz b q z,(R.S.zl b z).elim fun _=>Heap.lt_size⟩
theorem WI.pl (h:WI C A env sc ρ I N fp n P St σ X s i vs) (e:Evo C (Pl env) σ X s σ' X' s') (R':Rel C env sc ρ' σ' X' s'):WI C A env sc ρ' I N fp n P St σ' X' s' i vs:=h.move e (fun b hb=>(h.fps b hb).2.1) h.R.pz R'
theorem WI.turn {h':Heap} {tk:Nat} (h:WI C A env sc ρ I N fp n P St σ X s i vs) (hk:∀ b o,b∉[I]->s.heap.get? b=some o->h'.get? b=some o) (hs:s.heap.objs.size<=h'.objs.size) :
 Rel C env sc ρ σ X { s with heap:=h',toks:=tk }/\Evo C (fun b=>b=I) σ X s σ X { s with heap:=h',toks:=tk }:=by
 have fI:=h.fps I h.mem
 have iz:∀ b,b=I->¬ X.Z b:=fun b q=>by rw [q];exact h.z
 obtain ⟨S1,e1⟩:=h.R.S.priv (s':={ s with heap:=h',toks:=tk }) (fun b=>b=I) iz (fun b q=>by rw [q];exact fI.1) (fun b o nb g=>hk b o (notIn_one nb) g) hs rfl rfl
 exact ⟨h.R.evo S1 e1 (fun b p q=>fI.2.1 (by rw [<-q];exact p)) iz,e1⟩
theorem WI.iz (h:WI C A env sc ρ I N fp n P St σ X s i vs):∀ b,b=I->¬ X.Z b:=fun b q=>by rw [q];exact h.z
theorem WI.next {h':Heap} {tk:Nat} (h:WI C A env sc ρ I N fp n P St σ X s i (v::vs)) (st':St (i+1) h') (hk:∀ b o,b∉[I]->s.heap.get? b=some o->h'.get? b=some o) (hs:s.heap.objs.size<=h'.objs.size) :
 WI C A env sc ρ I N fp n P St σ X { s with heap:=h',toks:=tk } (i+1) vs/\Evo C (fun b=>b=I) σ X s σ X { s with heap:=h',toks:=tk }:=by
 obtain ⟨R1,e1⟩:=h.turn (tk:=tk) hk hs
 refine ⟨⟨R1,h.W,st',(Nat.succ_add_eq_add_succ i vs.length).trans h.len,fun j a hj hp=>?_,h.own,fun b hb=>?_,h.mem,h.z⟩,e1⟩
 ·rw [Nat.succ_add_eq_add_succ] at hj hp
  exact (h.val (j+1) a hj hp).imp fun _ u=>⟨u.1,e1.rel h.R.S h.iz u.2⟩
 ·exact ⟨(h.fps b hb).1,(h.fps b hb).2.1,(h.fps b hb).2.2.1,Nat.lt_of_lt_of_le (h.fps b hb).2.2.2 hs⟩
theorem WI.take {target:Expr} {xs:List Nm} {ρ1:Loc} {Q:Option Value->Shared->Prop} {E:Value->Shared->Prop} (h:WI C A env sc ρ I N fp n P St σ X s i (v::vs)) (hh:A.handled=none) (ht:ca sc target=some xs) (hb:ci ρ xs v=some ρ1)
 (hQ:∀ a X1 s1,Evo C (fun b=>b=I) σ X s σ X1 s1->WI C A env sc ρ I N fp n P St σ X1 s1 (i+1) vs ->
   (∀ (Q':Unit->Shared->Prop) (E':Value->Shared->Prop),(∀ X2 s2,Rel C env sc ρ1 σ X2 s2->Evo C (Pl env) σ X1 s1 σ X2 s2->Q' () s2)->wpAny (model C.prog C.w) A (do letOwnedTupleGo target (.ref I) a;assign target env a) Q' E' s1)->Q (some a) s1) :
 wpAny (model C.prog C.w) A (pyNext (.ref I)) Q E s:=by
 have hin:i<n:=by rw [<-h.len];exact Nat.lt_add_of_pos_right (Nat.succ_pos _)
 refine bL (h.W.item i s _ _ hin h.st fun a h' tk hP st' hk hs=>?_)
 obtain ⟨u,hu,ru⟩:=h.val 0 a hin hP
 obtain rfl:v=u:=Option.some.inj hu
 obtain ⟨L1,e1⟩:=h.next (tk:=tk) st' hk hs
 exact hQ a X _ e1 L1 fun Q' E' hq=>wpAny_bind (h.own _ _ _ _ _ _ st' (asg hh ht hb L1.R (e1.rel h.R.S h.iz ru) hq))
end
structure LI (C:Cx) (A:Around) (cenv:Env) (sc:Scope) (ρ:Loc) (I D:Addr) (fp:List Addr) (n:Nat) (P:Nat->Value->Prop) (St:Nat->Heap->Prop) (σ:Sto) (X:Wld) (s:Shared) (i:Nat) (vs:List V) (ys:Array Value) (outs:List V):Prop where
 w:WI C A cenv sc ρ I (fun b=>b=D) fp n P St σ X s i vs
 pd:Priv C cenv σ X s D
 l:s.heap.PlainList D ys
 os:VsRel C X σ.next s.heap outs ys.toList
noncomputable abbrev LP (cenv:Env) (I D:Addr):Addr->Prop:=fun b=>Pl cenv b\/b=D\/b=I
section
variable {A:Around} {cenv:Env} {sc:Scope} {ρ:Loc} {I D:Addr} {fp:List Addr} {n:Nat} {P:Nat->Value->Prop} {St:Nat->Heap->Prop} {σ σ':Sto} {X X':Wld} {s s':Shared} {i:Nat} {v:V} {vs outs:List V} {ys:Array Value}
theorem LI.pl (h:LI C A cenv sc ρ I D fp n P St σ X s i vs ys outs) (e:Evo C (Pl cenv) σ X s σ' X' s') (R':Rel C cenv sc ρ σ' X' s'):LI C A cenv sc ρ I D fp n P St σ' X' s' i vs ys outs :=
 ⟨h.w.pl e R',h.pd.evo e,h.l.imp fun _ g=>e.keep _ _ g h.pd.w h.pd.p,e.rels h.w.R.S h.w.R.pz h.os⟩
theorem LI.app {h5:Heap} {u:V} {y:Value} (h:LI C A cenv sc ρ I D fp n P St σ X s i vs ys outs) (l:h5.PlainList D (ys.push y)) (hs:Heap.SameBut D s.heap h5) (r:VRel C X σ.next s.heap u y) :
 LI C A cenv sc ρ I D fp n P St σ X { s with heap:=h5 } i vs (ys.push y) (outs++[u])/\Evo C (fun b=>b=D) σ X s σ X { s with heap:=h5 }:=by
 have dz:∀ b,b=D->¬ X.Z b:=fun b q=>by rw [q];exact h.pd.z
 obtain ⟨S5,e5⟩:=h.w.R.S.priv (s':={ s with heap:=h5 }) (fun b=>b=D) dz (fun b q=>by rw [q];exact h.pd.w) (fun b o nb g=>(hs.2 b nb).trans g) (Nat.le_of_eq hs.1.symm) rfl rfl
 refine ⟨⟨h.w.move e5 (fun b hb=>(h.w.fps b hb).2.2.1) dz (h.w.R.evo S5 e5 (fun b p q=>by rw [q] at p;exact h.pd.p p) dz),h.pd.evo e5,l,?_⟩,e5⟩
 rw [Array.toList_push]
 exact (e5.rels h.w.R.S dz h.os).app (.cons (e5.rel h.w.R.S dz r) .nil)
theorem LI.zP (h:LI C A cenv sc ρ I D fp n P St σ X s i vs ys outs):∀ b,LP cenv I D b->¬ X.Z b:=fun b q=>by
 rcases q with q | q | q
 ·exact h.w.R.pz b q
 ·rw [q];exact h.pd.z
 ·rw [q];exact h.w.z
theorem LI.turn (h:LI C A cenv sc ρ I D fp n P St σ X s i vs ys outs) (e:Evo C (fun b=>b=I) σ X s σ X' s'):Priv C cenv σ X' s' D/\s'.heap.PlainList D ys/\VsRel C X' σ.next s'.heap outs ys.toList :=
 ⟨h.pd.evo e,h.l.imp fun _ g=>e.keep _ _ g h.pd.w (Ne.symm (h.w.fps I h.w.mem).2.2.1),e.rels h.w.R.S h.w.iz h.os⟩
end
theorem Dc {A:Around} {m:Sem Unit} {m':Sem Unit} {β:Type} {f:Sem β} {Q:β->Shared->Prop} {E:Value->Shared->Prop} {s:Shared} (h:wpAny (model C.prog C.w) A (do m;m') (fun _ s'=>wpAny (model C.prog C.w) A f Q E s') E s):wpAny (model C.prog C.w) A (do m;m';f) Q E s:=by
 have e:(do m;m';f:Sem β)=((do m;m':Sem Unit) >>= fun _=>f):=(bind_assoc _ _ _).symm
 rw [e];exact wpAny_bind h
theorem mu {α β:Type} {f:Comprehension->Option α} {g:Comprehension->Option β} {gens:List Comprehension} {d:Nat} {t:α} {ts:List α} {c:β} {cs:List β} (h1:mapO f (gens.drop d)=some (t::ts)) (h3:mapO g (gens.drop d)=some (c::cs)) :
 ∃ g0,gens[d]?=some g0/\f g0=some t/\g g0=some c/\mapO f (gens.drop (d+1))=some ts/\mapO g (gens.drop (d+1))=some cs:=by
 obtain ⟨g0,gs,e,a1,a2⟩:=aM h1
 obtain ⟨g1,gs',e',b1,b2⟩:=aM h3
 obtain ⟨rfl,rfl⟩:=List.cons.inj (e.symm.trans e')
 have e2:gens.drop (d+1)=gs:=by rw [<-List.tail_drop,e];rfl
 refine ⟨g0,?_,a1,b1,by rw [e2];exact a2,by rw [e2];exact b2⟩
 rw [<-List.head?_drop,e];rfl
theorem jh {A:Around} {cenv:Env} {n0:Nat} {sc:Scope} {eltE:Expr} {gens:List Comprehension} {scp:Scope} {pos:Pos} {d:Nat} {g:Comprehension} {t:List Nm} {cs:List Ex} {ρ ρ1:Loc} {I D:Addr} {fp:List Addr} {n:Nat} {P:Nat->Value->Prop} {St:Nat->Heap->Prop} {σ σ1:Sto} {X:Wld} {s:Shared} {i:Nat}
 {v:V} {vs outs:List V} {ys:Array Value} {b:Bool} {R:Result->Shared->Prop} (hg:gens[d]?=some g) (hga:g.is_async=0) (htg:ca sc g.target=some t) (hifs:mapO (aB n0 sc) g.ifs=some cs) (hb:ci ρ t v=some ρ1) (hf:fresh ρ t=true) (ht:wC C k cs ρ1 σ b σ1) (rm:Room k A)
 (h:LI C A cenv sc ρ I D fp n P St σ X s i (v::vs) ys outs)
 (hQ:∀ X3 s3,Rel C cenv sc ρ1 σ1 X3 s3->Evo C (LP cenv I D) σ X s σ1 X3 s3->LI C A cenv sc ρ I D fp n P St σ1 X3 s3 (i+1) vs ys outs ->
   wpAny (model C.prog C.w) A (jN eltE gens scp pos d (.ref I) (.ref D) cenv b) (fun fin s'=>match fin with | .done f=>R (.ok f) s' | .again c'=>c'.quiet=true/\codeAny (model C.prog C.w) A c' R s') (notedBy (model C.prog C.w) A cenv fun e s'=>R (.error e) s') s3) :
 codeAny (model C.prog C.w) A (.compLoop (.ListComp eltE gens scp pos) d (.ref I) (.ref D) cenv) R s:=by
 refine codeAny_of_tree ?_
 show wpAny _ A ((compTurn (.ListComp eltE gens scp pos) d (.ref I) (.ref D) cenv).onRaise (fun x=>do noteFrame x cenv;theTreesLotGoes x)) _ _ s
 refine wpAny_noted ?_
 rw [k9 _ _ _ _ _ _ _ _ g hg hga]
 refine wpAny_bind (wpAny_standAt (wpAny_bind (h.w.take rm.handled htg hb fun a X1 s1 e1 w1 asn=>?_)))
 show wpAny _ A (do letOwnedTupleGo g.target (.ref I) a;assign g.target cenv a;_) _ _ s1
 obtain ⟨p1,p2,p3⟩:=h.turn e1
 refine Dc (asn _ _ fun X2 s2 R2 e2=>wpAny_bind (yF hifs ht rm R2 fun X3 s3 R3 e3=>?_))
 exact hQ X3 s3 R3 (e1.comp (e2.trans e3) (fun b q=>.inr (.inr q)) fun b _ q=>.inl q) (LI.pl ⟨w1,p1,p2,p3⟩ (e2.trans e3) (R3.less (gS hb hf)))
theorem vp {elt:Ex} {ts its ifs ρ σ vs out σ'} (h:CompR C k elt ts its ifs ρ σ vs out σ'):∀ (n0:Nat) (sc:Scope) (eltE:Expr) (gens:List Comprehension) (scp:Scope) (pos:Pos) (d:Nat),aB n0 sc eltE=some elt ->
 mapO (fun g:Comprehension=>ca sc g.target) (gens.drop d)=some ts->mapO (fun g:Comprehension=>aB n0 sc g.iter) (gens.drop (d+1))=some its->mapO (fun g:Comprehension=>mapO (aB n0 sc) g.ifs) (gens.drop d)=some ifs ->
 (∀ g∈gens,g.is_async=0/\ge g.iter=true) ->
 ∀ (A:Around) (cenv:Env) (X:Wld) (s:Shared) (I D:Addr) (fp:List Addr) (n i:Nat) (P:Nat->Value->Prop) (St:Nat->Heap->Prop) (ys:Array Value) (outs:List V) (R:Result->Shared->Prop),
 Room k A->LI C A cenv sc ρ I D fp n P St σ X s i vs ys outs->outs.length+out.length<=sizeLine ->
 (∀ X' s' ys',Rel C cenv sc ρ σ' X' s'->Evo C (LP cenv I D) σ X s σ' X' s'->s'.heap.PlainList D ys'->VsRel C X' σ'.next s'.heap (outs++out) ys'.toList->R (.ok .next) s') ->
 codeAny (model C.prog C.w) A (.compLoop (.ListComp eltE gens scp pos) d (.ref I) (.ref D) cenv) R s:=by
 induction h with
 | @nil t ts its cs ifs ρ σ =>
   intro n0 sc eltE gens scp pos d h0 h1 h2 h3 hasy A cenv X s I D fp n i P St ys outs R rm L hsz hR
   obtain ⟨g,hg,_⟩:=mu h1 h3
   refine codeAny_of_tree ?_
   show wpAny _ A ((compTurn (.ListComp eltE gens scp pos) d (.ref I) (.ref D) cenv).onRaise (fun x=>do noteFrame x cenv;theTreesLotGoes x)) _ _ s
   refine wpAny_noted ?_
   rw [k9 _ _ _ _ _ _ _ _ g hg (hasy g (List.mem_of_getElem? hg)).1]
   obtain rfl:=L.w.len
   refine wpAny_bind (wpAny_standAt (wpAny_bind (bL (L.w.W.done s _ _ L.w.st fun h' tk hk hs=>?_))))
   obtain ⟨R1,e⟩:=L.w.turn (tk:=tk) hk hs
   refine wpAny_pure (hR X _ ys R1 (e.weak fun b q=>.inr (.inr q)) (L.turn e).2.1 ?_)
   rw [List.append_nil]
   exact (L.turn e).2.2
 | @skip t ts its cs ifs ρ ρ1 σ σ1 σ2 v vs out hb hf ht hr ih =>
   intro n0 sc eltE gens scp pos d h0 h1 h2 h3 hasy A cenv X s I D fp n i P St ys outs R rm L hsz hR
   obtain ⟨g,hg,htg,hifs,_⟩:=mu h1 h3
   refine jh hg (hasy g (List.mem_of_getElem? hg)).1 htg hifs hb hf ht rm L fun X3 s3 R3 e3 L3=>wpAny_pure ⟨rfl,?_⟩
   exact ih n0 sc eltE gens scp pos d h0 h1 h2 h3 hasy A cenv X3 s3 I D fp n (i+1) P St ys outs R rm L3 hsz fun X4 s4 ys4 R4 e4=>hR X4 s4 ys4 R4 (e3.trans e4)
 | @emit t cs ρ ρ1 σ σ1 σ2 σ3 v vs u0 out hb hf ht he hr ih =>
   intro n0 sc eltE gens scp pos d h0 h1 h2 h3 hasy A cenv X s I D fp n i P St ys outs R rm L hsz hR
   obtain ⟨g,hg,htg,hifs,_⟩:=mu h1 h3
   refine jh hg (hasy g (List.mem_of_getElem? hg)).1 htg hifs hb hf ht rm L fun X3 s3 R3 e3 L3=>?_
   have hnone:gens[d+1]?=none:=by rw [<-List.head?_drop,cE h2];rfl
   unfold jN
   rw [if_pos rfl,hnone]
   refine wpAny_bind (wpAny_bind (he _ _ _ h0 A cenv X3 s3 rm R3 _ _ fun y X4 s4 R4 e4 r4=>?_))
   have L4:=L3.pl e4 (R4.less (gS hb hf))
   have hys:ys.size<=sizeLine:=by
    have e1:=L.os.length
    rw [Array.length_toList] at e1
    rw [e1]
    exact Nat.le_trans (Nat.le_add_right _ _) hsz
   refine wpAny_bind (oA L4.l (fun h5 l5 hs5=>?_) hys)
   obtain ⟨L5,e5⟩:=L4.app l5 hs5 r4
   refine wpAny_pure (wpAny_pure ⟨rfl,?_⟩)
   refine ih n0 sc eltE gens scp pos d h0 h1 h2 h3 hasy A cenv X4 _ I D fp n (i+1) P St _ (outs++[u0]) R rm L5 ?_ fun X6 s6 ys6 R6 e6 l6 r6=>hR X6 s6 ys6 R6 ((e3.comp (e4.comp e5 (P:=LP cenv I D) (fun _ q=>.inl q) fun b _ q=>.inr (.inl q)) (fun _ q=>q) fun _ _ q=>q).trans e6) l6 ?_
   ·rw [List.length_append,Nat.add_assoc,Nat.add_comm [u0].length];exact hsz
   ·rw [List.append_assoc] at r6;exact r6
 | @inner t t2 ts it its cs cs2 ifs ρ ρ1 σ σ1 σ2 σ3 σ4 v vs src vs2 out2 out hb hf ht hi hs2 hsm h2' hr ih2 ih =>
   intro n0 sc eltE gens scp pos d h0 h1 h2 h3 hasy A cenv X s I D fp n i P St ys outs R rm L hsz hR
   obtain ⟨g,hg,htg,hifs,h1',h3'⟩:=mu h1 h3
   obtain ⟨g2,hg2,_,hit2,_,h2r⟩:=mu h1' h2
   obtain ⟨hga2,hns2⟩:=hasy g2 (List.mem_of_getElem? hg2)
   refine jh hg (hasy g (List.mem_of_getElem? hg)).1 htg hifs hb hf ht rm L fun X3 s3 R3 e3 L3=>?_
   unfold jN
   rw [if_pos rfl,hg2]
   simp only [hga2,ki hns2]
   refine wpAny_bind (hi _ _ _ hit2 A cenv X3 s3 rm R3 _ _ fun y X4 s4 R4 e4 r4=>wpAny_bind (wpAny_standAt ?_))
   refine wpAny_bind (wpAny_pure (wpAny_bind (wpAny_holding ?_)))
   refine mw rm.handled R4.S r4 hs2 hsm fun I2 fp2 n2 P2 St2 s5 G5 hI2 hI2l itr=>?_
   obtain ⟨R5,e5⟩:=R4.grown G5
   have L5:=(L3.pl e4 (R4.less (gS hb hf))).pl e5 (R5.less (gS hb hf))
   have e15:Evo C (LP cenv I D) σ X s σ2 X4 s5:=e3.comp (e4.trans e5) (fun _ q=>q) fun b _ q=>.inl q
   have Dlt:D<s4.heap.objs.size:=Nat.lt_of_lt_of_le L3.pd.live e4.size
   have L2:LI C A cenv sc ρ1 I2 D fp2 n2 P2 St2 σ2 X4 s5 0 vs2 ys outs:=⟨itr.wi R4 R5 hI2 hI2l (fun b q=>by rw [q];exact L5.pd.z) fun q=>Nat.lt_irrefl _ (Nat.lt_of_lt_of_le Dlt (q▸hI2)),L5.pd,L5.l,L5.os⟩
   refine wpAny_bind (wpAny_runOwn ?_)
   have loop:codeAny (model C.prog C.w) A (.compLoop (.ListComp eltE gens scp pos) (d+1) (.ref I2) (.ref D) cenv) (fun r s'=>match r with
    | .ok _=>wpAny (model C.prog C.w) A (again (.compLoop (.ListComp eltE gens scp pos) d (.ref I) (.ref D) cenv)) (fun fin s'=>match fin with | .done f=>R (.ok f) s' | .again c'=>c'.quiet=true/\codeAny (model C.prog C.w) A c' R s') (notedBy (model C.prog C.w) A cenv fun e s'=>R (.error e) s') s'
    | .error e=>cameBackBy (model C.prog C.w) A cenv (notedBy (model C.prog C.w) A cenv fun e s'=>R (.error e) s') e s') s5:=by
    rw [List.length_append] at hsz
    refine ih2 n0 sc eltE gens scp pos (d+1) h0 h1' h2r h3' hasy A cenv X4 s5 I2 D fp2 n2 0 P2 St2 ys outs _ rm L2 (Nat.le_trans (Nat.add_le_add_left (Nat.le_add_right _ _) _) hsz) fun X6 s6 ys6 R6 e6 l6 r6=>wpAny_pure ⟨rfl,?_⟩
    have L6:LI C A cenv sc ρ I D fp n P St σ3 X6 s6 (i+1) vs ys6 (outs++out2):=⟨L5.w.move e6 (fun b hbf q=>by
     rcases q with q | q | q
     ·exact (L5.w.fps b hbf).2.1 q
     ·exact (L5.w.fps b hbf).2.2.1 q
     ·exact Nat.lt_irrefl _ (Nat.lt_of_lt_of_le (Nat.lt_of_lt_of_le (L3.w.fps b hbf).2.2.2 e4.size) (q▸hI2))) L2.zP (R6.less (gS hb hf)),L5.pd.evo e6,l6,r6⟩
    refine ih n0 sc eltE gens scp pos d h0 h1 h2 h3 hasy A cenv X6 s6 I D fp n (i+1) P St ys6 (outs++out2) R rm L6 (by rw [List.length_append,Nat.add_assoc];exact hsz) fun X7 s7 ys7 R7 e7 l7 r7=>hR X7 s7 ys7 R7 ((e15.comp e6 (fun _ q=>q) fun b hb q=>?_).trans e7) l7 (by rw [List.append_assoc] at r7;exact r7)
    rcases q with q | q | q
    ·exact .inl q
    ·exact .inr (.inl q)
    ·exact absurd hb (Nat.not_lt.mpr (Nat.le_trans e3.size (Nat.le_trans e4.size (q▸hI2))))
   exact lY hg2 hga2 loop (itr.W.self 0 _ _ _ itr.st loop)
end
end
section
open PySem PyProof.Rows
noncomputable def eJ (env:Env):List (Str × NameKind)->List (Str × Addr)->List (Str × Addr)
 | [],acc=>acc
 | (x,kd)::r,acc=>if kd==.free then (match env.cells.lookup x with | some c=>eJ env r ((x,c)::acc) | none=>eJ env r acc) else eJ env r acc
theorem sy {env:Env} {sc':Scope} (h:∀ p∈sc'.names,p.2=.free->∃ c,env.cells.lookup p.1=some c):closureFor sc' env=pure (eJ env sc'.names []):=by
 unfold closureFor
 have key:∀ (names:List (Str × NameKind)) (acc:List (Str × Addr)),(∀ p∈names,p.2=.free->∃ c,env.cells.lookup p.1=some c) ->
  (forIn names acc fun (x:Str × NameKind) (r:List (Str × Addr))=>(match x with
    | (name,kind)=>if (kind==.free)=true then do let a <-cellOf env name;pure (ForInStep.yield ((name,a)::r)) else pure (ForInStep.yield r):Sem (ForInStep (List (Str × Addr)))))=(pure (eJ env names acc):Sem (List (Str × Addr))):=by
  intro names
  induction names with
  | nil=>intro acc _;rfl
  | cons p r ih =>
    intro acc hp
    obtain ⟨x,kd⟩:=p
    rw [List.forIn_cons]
    have ih':=fun acc=>ih acc fun q hq=>hp q (.tail _ hq)
    by_cases hk:kd=.free
    ·subst hk
     obtain ⟨c,hc⟩:=hp (x,.free) (.head _) rfl
     have hcl:cellOf env x=pure c:=by unfold cellOf;rw [hc]
     simp only [hcl]
     show (forIn r ((x,c)::acc) _:Sem _)=_
     simp only [ih']
     simp [eJ,hc]
    ·have hb:(kd==NameKind.free)=false:=by simpa using hk
     simp only [hb]
     show (forIn r acc _:Sem _)=_
     simp only [ih']
     simp [eJ,hb]
 have:=key sc'.names [] h
 simp only [bind_pure_comp] at this ⊢
 first
  | (rw [this];rfl)
  | (simp only [this];rfl)
  | exact this
theorem sx {env:Env} {x:Str}:∀ (names:List (Str × NameKind)) (acc:List (Str × Addr)),(names.map (·.1)).Nodup->(eJ env names acc).lookup x=if names.lookup x=some .free/\(env.cells.lookup x).isSome then env.cells.lookup x else acc.lookup x:=by
 intro names
 induction names with
 | nil =>
   intro acc _
   dsimp [eJ]
 | cons hd0 r ih =>
   intro acc hnd
   obtain ⟨y,kd⟩:=hd0
   rw [List.map_cons,List.nodup_cons] at hnd
   have hy:∀ z,(z==y)=true->r.lookup z=none:=fun z hz=>by
    have:z=y:=by simpa using hz
    subst this
    cases h:r.lookup z with
    | none=>rfl
    | some k=>exact absurd (List.mem_map_of_mem (f:=(·.1)) (mem_of_lookup h)) hnd.1
   dsimp only [eJ]
   by_cases hk:kd=.free
   ·subst hk
    simp only [beq_self_eq_true,if_true]
    cases hc:env.cells.lookup y with
    | none =>
      simp only
      rw [ih acc hnd.2,List.lookup_cons]
      cases hx:x==y with
      | false=>rfl
      | true =>
        have:x=y:=by simpa using hx
        subst this
        simp [hc]
    | some c =>
      simp only
      rw [ih _ hnd.2]
      cases hx:x==y with
      | false=>simp only [List.lookup_cons,hx]
      | true =>
        have:x=y:=by simpa using hx
        subst this
        rw [hy x hx]
        simp [List.lookup_cons,hc]
   ·have hb:(kd==NameKind.free)=false:=by simpa using hk
    simp only [hb,Bool.false_eq_true,if_false]
    rw [ih acc hnd.2,List.lookup_cons]
    cases hx:x==y with
    | false=>rfl
    | true =>
      rw [hy x hx]
      simp [hk]
structure u7 (names:List (Str × NameKind)) (h:Heap) (acc:List (Str × Addr)):Prop where
 old:∀ x,names.lookup x≠some .cell->(cellsFrom h.objs.size names acc).lookup x=acc.lookup x
 new:∀ x,names.lookup x=some .cell->∃ c,(cellsFrom h.objs.size names acc).lookup x=some c/\h.objs.size<=c/\(pushCells h names).IsCell c none
 inj:(∀ x c,acc.lookup x=some c->c<h.objs.size)->(∀ x y c,acc.lookup x=some c->acc.lookup y=some c->x=y)->∀ x y c,(cellsFrom h.objs.size names acc).lookup x=some c->(cellsFrom h.objs.size names acc).lookup y=some c->x=y
 size:h.objs.size<=(pushCells h names).objs.size
theorem lW:∀ (names:List (Str × NameKind)) (h:Heap) (acc:List (Str × Addr)),(names.map (·.1)).Nodup->u7 names h acc:=by
 intro names
 induction names with
 | nil =>
   intro h acc _
   exact ⟨fun _ _=>rfl,fun x e=>by contradiction,fun _ i=>i,Nat.le_refl _⟩
 | cons hd0 r ih =>
   intro h acc hnd
   obtain ⟨y,kd⟩:=hd0
   rw [List.map_cons,List.nodup_cons] at hnd
   have hy:r.lookup y=none:=by
    cases h:r.lookup y with
    | none=>rfl
    | some k=>exact absurd (List.mem_map_of_mem (f:=(·.1)) (mem_of_lookup h)) hnd.1
   by_cases hk:kd=.cell
   ·subst hk
    have ih:=ih (h.push { cls:=.type "cell",data:=.cell none }) ((y,h.objs.size)::acc) hnd.2
    have e1:cellsFrom h.objs.size ((y,.cell)::r) acc=cellsFrom (h.push { cls:=.type "cell",data:=.cell none }).objs.size r ((y,h.objs.size)::acc):=by
     rw [Heap.size_push];rfl
    have e2:pushCells h ((y,.cell)::r)=pushCells (h.push { cls:=.type "cell",data:=.cell none }) r:=rfl
    refine ⟨fun x hx=>?_,fun x hx=>?_,fun hlt hinj=>?_,?_⟩
    ·rw [e1]
     rw [List.lookup_cons] at hx
     cases hxy:x==y with
     | true=>rw [hxy] at hx;exact absurd rfl hx
     | false =>
       rw [hxy] at hx
       simp only [ih.old x hx,List.lookup_cons,hxy]
    ·rw [e1,e2]
     rw [List.lookup_cons] at hx
     cases hxy:x==y with
     | true =>
       have:x=y:=by simpa using hxy
       subst this
       refine ⟨h.objs.size,?_,Nat.le_refl _,⟨_,pushCells_keeps r _ _ _ (Heap.get?_push_size _ rfl),rfl⟩⟩
       rw [ih.old x (by rw [hy];decide),List.lookup_cons,hxy]
     | false =>
       rw [hxy] at hx
       obtain ⟨c,a1,a2,a3⟩:=ih.new x hx
       exact ⟨c,a1,Nat.le_trans (by rw [Heap.size_push];simp) a2,a3⟩
    ·rw [e1]
     refine ih.inj (fun x c e=>?_) fun x z c ex ez=>?_
     ·rw [Heap.size_push]
      rw [List.lookup_cons] at e
      cases hxy:x==y with
      | true=>rw [hxy] at e;cases e;exact Nat.lt_succ_self _
      | false=>rw [hxy] at e;exact Nat.lt_succ_of_lt (hlt x c e)
     ·rw [List.lookup_cons] at ex ez
      cases hxy:x==y with
      | true =>
        rw [hxy] at ex
        cases ex
        cases hzy:z==y with
        | true=>rw [beq_iff_eq.mp hxy,beq_iff_eq.mp hzy]
        | false=>rw [hzy] at ez;exact absurd (hlt z _ ez) (Nat.lt_irrefl _)
      | false =>
        rw [hxy] at ex
        cases hzy:z==y with
        | true=>rw [hzy] at ez;cases ez;exact absurd (hlt x _ ex) (Nat.lt_irrefl _)
        | false=>rw [hzy] at ez;exact hinj x z c ex ez
    ·rw [e2];exact Nat.le_trans (by rw [Heap.size_push];simp) ih.size
   ·have ih:=ih h acc hnd.2
    have hb:(kd==NameKind.cell)=false:=by simpa using hk
    have e1:cellsFrom h.objs.size ((y,kd)::r) acc=cellsFrom h.objs.size r acc:=by rw [cellsFrom,hb];rfl
    have e2:pushCells h ((y,kd)::r)=pushCells h r:=by rw [pushCells,hb];rfl
    refine ⟨fun x hx=>?_,fun x hx=>?_,?_,?_⟩
    ·rw [e1]
     refine ih.old x ?_
     rw [List.lookup_cons] at hx
     cases hxy:x==y with
     | true=>have:x=y:=by simpa using hxy
             subst this;rw [hy];decide
     | false=>rw [hxy] at hx;exact hx
    ·rw [e1,e2]
     rw [List.lookup_cons] at hx
     cases hxy:x==y with
     | true=>rw [hxy] at hx;exact absurd (Option.some.inj hx) hk
     | false=>rw [hxy] at hx;exact ih.new x hx
    ·rw [e1];exact ih.inj
    ·rw [e2];exact ih.size
theorem w6 {C:Cx} {A:Around} {E:Value->Shared->Prop} {s:Shared} {scope:Scope} {globals:Addr} {closure:List (Str × Addr)} {qual:Str} {env:Env} {Q:Env->Shared->Prop}
 (hQ:Q (newEnv scope s.heap.objs.size globals (cellsFrom (s.heap.objs.size+1) scope.names closure) qual none .none (some env) builtinsNs) { s with heap:=pushCells (s.heap.push { cls:=.type "dict",data:=.dict #[] }) scope.names }) :
 wpAny (model C.prog C.w) A (newFunctionEnv scope globals closure [] qual none .none (some env)) Q E s:=by
 simp only [newFunctionEnv,Option.isSome_some,if_true]
 refine wpAny_bind (wpAny_alloc ?_)
 refine wpAny_bind (wpAny_layCells _ (fun name kind cells=>by cases hkc:kind==NameKind.cell<;>dsimp [hkc]) _ _ _ _ ?_)
 rw [show ({ s with heap:=s.heap.push { cls:=.type "dict",data:=.dict #[] } }:Shared).heap.objs.size=s.heap.objs.size+1 from Heap.size_push ..]
 exact wpAny_bind (wpAny_pure (wpAny_pure hQ))
end
section
open PySem PyProof.Rows
noncomputable def ft (ρ:Loc):List Nm->Loc
 | []=>ρ
 | x::xs=>ft (del ρ x) xs
theorem mv:∀ (xs:List Nm) (ρ:Loc) (y:Nm) (v:V),get (ft ρ xs) y=some v->get ρ y=some v/\y∉xs:=by
 intro xs
 induction xs with
 | nil =>
   intro _ _ _ h
   exact ⟨h,by simp⟩
 | cons x xs ih =>
   intro ρ y v h
   obtain ⟨h1,h2⟩:=ih _ y v h
   rw [un] at h1
   by_cases hy:y=x
   ·rw [if_pos hy] at h1;cases h1
   ·rw [if_neg hy] at h1
    exact ⟨h1,fun q=>(List.mem_cons.mp q).elim hy h2⟩
theorem w8:∀ (xs:List Nm) (ρ:Loc) (y:Nm) (v:V),get ρ y=some v->y∉xs->get (ft ρ xs) y=some v:=by
 intro xs
 induction xs with
 | nil =>
   intro _ _ _ h _
   exact h
 | cons x xs ih =>
   intro ρ y v h hn
   exact ih _ y v (by rw [un,if_neg (fun q=>hn (by rw [q];exact .head _))];exact h) fun q=>hn (.tail _ q)
theorem re {sc sc':Scope} (h:eX sc sc'=true):sc'.kind=.function/\(sc'.names.map (·.1)).Nodup/\∀ x,kindIn sc' x=some .free->(kindIn sc x=some .cell\/kindIn sc x=some .free):=by
 unfold eX at h
 simp only [Bool.and_eq_true,decide_eq_true_eq,beq_iff_eq,List.all_eq_true] at h
 obtain ⟨⟨⟨⟨h1,_⟩,_⟩,h4⟩,h5⟩:=h
 refine ⟨h1,h4,fun x hx=>?_⟩
 have:=h5 (x,.free) (mem_of_lookup hx)
 simp at this
 exact this.1
theorem fN {y:Str} {kd:NameKind}:∀ {l:List (Str × NameKind)},(l.map (·.1)).Nodup->(y,kd)∈l->l.lookup y=some kd
 | (z,kz)::l,hn,h=>by
   rw [List.map_cons,List.nodup_cons] at hn
   rw [List.lookup_cons]
   rcases List.mem_cons.mp h with q | q
   ·cases q;simp
   ·have hyz:(y==z)=false:=by
     rw [beq_eq_false_iff_ne]
     rintro rfl
     exact hn.1 (List.mem_map_of_mem (f:=(·.1)) q)
    rw [hyz]
    exact fN hn.2 q
theorem uK {sc':Scope} {x:Str} (h:iv (kindIn sc' x)=true):nm x∈dW sc':=by
 unfold kindIn at h
 cases hk:sc'.names.lookup x with
 | none=>rw [hk] at h;cases h
 | some kd =>
   rw [hk] at h
   exact List.mem_filterMap.mpr ⟨(x,kd),mem_of_lookup hk,by exact if_pos h⟩
theorem mV {P:Str->NameKind->Bool}:∀ (names:List (Str × NameKind)) (x:Str),(names.map fun (n,kd)=>if P n kd=true then (n,NameKind.cell) else (n,kd)).lookup x=(names.lookup x).map fun kd=>if P x kd=true then .cell else kd:=by
 intro names
 induction names with
 | nil =>
   intro _
   exact rfl
 | cons hd0 r ih =>
   intro x
   obtain ⟨n,kd⟩:=hd0
   have ih:=ih x
   show List.lookup x ((if P n kd=true then (n,NameKind.cell) else (n,kd))::_)=_
   cases hx:x==n with
   | true =>
     have:x=n:=by simpa using hx
     subst this
     by_cases hp:P x kd=true
     ·simp [hp]
     ·simp [hp]
   | false =>
     by_cases hp:P n kd=true
     ·rw [if_pos hp];simp only [List.lookup_cons,hx];exact ih
     ·rw [if_neg hp];simp only [List.lookup_cons,hx];exact ih
section
variable {C:Cx} {k:Nat} {ρ:Loc}
theorem wM {env cenv:Env} {sc sc':Scope} {ρ0:Loc} {σ σ':Sto} {X X':Wld} {s s':Shared} {P:Addr->Prop} (R:Rel C env sc ρ σ X s) (R':Rel C cenv sc' ρ0 σ' X' s') (e:Evo C P σ X s σ' X' s')
 (hP:∀ b,b<s.heap.objs.size->P b->∃ x,kindIn sc' x=some .free/\cenv.cells.lookup x=some b/\env.cells.lookup x=some b) (hρ:∀ x v,kindIn sc' x=some .free->get ρ (nm x)=some v->get ρ0 (nm x)=some v):Rel C env sc ρ σ' X' s':=by
 have zlt:∀ b,X.Z b->b<s.heap.objs.size:=fun b z=>(R.S.zl b z).elim fun _ g=>Heap.lt_size g
 have hPz:∀ b,P b->¬ X.Z b:=fun b p z=>by
  obtain ⟨x,_,_,q⟩:=hP b (zlt b z) p
  exact R.pz b (.inr ⟨x,q⟩) z
 have zk:=e.zkeep R.S hPz
 have vr:∀ {v a},VRel C X σ.next s.heap v a->VRel C X' σ'.next s'.heap v a:=fun r=>e.rel R.S hPz r
 have keepP:∀ b o,Pl env b->¬ P b->s.heap.get? b=some o->s'.heap.get? b=some o:=fun b o p np g=>e.keep b o g (R.pw b p) np
 have hL:¬ P env.locals:=fun p=>by
  obtain ⟨o,g⟩:=R.F.pl (.inl rfl)
  obtain ⟨x,_,_,q⟩:=hP _ (Heap.lt_size g) p
  exact R.F.ne x _ q rfl
 refine ⟨R'.S,⟨R.F.kind,R.F.kl,R.F.kc,R.F.kf,R.F.kg,R.F.gl,R.F.bt,?_,R.F.cl,fun x v e1 ky=>?_,fun x c e1=>?_,R.F.apart,R.F.ne⟩,fun b p z=>?_,fun b p w=>?_⟩
 ·obtain ⟨m,hm,q⟩:=R.F.ns
  refine ⟨m,hm.at' fun o g=>keepP _ _ (.inl rfl) hL g,fun x v e1 ky=>?_⟩
  obtain ⟨a,e2,r⟩:=q x v e1 ky
  exact ⟨a,e2,vr r⟩
 ·obtain ⟨c,a,e2,⟨o,g,d⟩,r⟩:=R.F.cv x v e1 ky
  by_cases hp:P c
  ·obtain ⟨y,k1,k2,k3⟩:=hP c (Heap.lt_size g) hp
   have hxy:=R.F.apart _ _ _ e2 k3
   have e1':get ρ (nm y)=some v:=by rw [<-hxy,fk];exact e1
   obtain ⟨c',a',q1,q2,q3⟩:=R'.F.cv (nm y) v (hρ y v k1 e1') (by rw [aP];exact .inr k1)
   rw [aP,k2] at q1
   cases q1
   exact ⟨c,a',e2,q2,q3⟩
  ·exact ⟨c,a,e2,⟨o,keepP _ _ (.inr ⟨_,e2⟩) hp g,d⟩,vr r⟩
 ·obtain ⟨w,o,g,d⟩:=R.F.live x c e1
  by_cases hp:P c
  ·obtain ⟨y,k1,k2,k3⟩:=hP c (Heap.lt_size g) hp
   exact R'.F.live y c k2
  ·exact ⟨w,o,keepP _ _ (.inr ⟨_,e1⟩) hp g,d⟩
 ·obtain ⟨o,g⟩:=R.F.pl p
  rcases e.zn b z with z | h | w
  ·exact R.pz b p z
  ·exact Nat.lt_irrefl _ (Nat.lt_of_lt_of_le (Heap.lt_size g) h)
  ·exact R.pw b p w
 ·obtain ⟨o,g⟩:=R.F.pl p
  rcases e.wn b w with w | h
  ·exact R.pw b p w
  ·exact Nat.lt_irrefl _ (Nat.lt_of_lt_of_le (Heap.lt_size g) h)
theorem SRel.freeze {σ:Sto} {X:Wld} {s:Shared} (S:SRel C σ X s) {D:Addr} (hw:¬ Wr C σ X D) (hl:∃ o,s.heap.get? D=some o):SRel C σ (X.more (·=D)) s:=by
 exact ⟨S.base,(S.tab.imp fun ps t=>⟨t.1,t.2.mono (fun _ _ _ e=>e) fun _ z=>.inl z⟩),fun b o e n=>.inl (S.zb b o e n),fun b z=>z.elim (S.zl b) fun q=>by subst q;exact hl,S.os,S.gens,S.lt,
  fun l o e=>(S.obj l o e).mono (fun _ _ _ e=>e) (fun _ _ _ e=>e) (fun _ z=>.inl z) (Nat.le_refl _) (fun _ _=>⟨rfl,rfl,rfl⟩) (S.lt l o e),
  fun l l' o o' b e e' m m'=>S.apart l l' o o' b e e' m m',fun b w z=>z.elim (S.zw b w) fun q=>by subst q;exact hw w,fun b w=>S.wl b w⟩
theorem Evo.freeze {P:Addr->Prop} {σ σ':Sto} {X X':Wld} {s s':Shared} (e:Evo C P σ X s σ' X' s') {D:Addr} (hD:s.heap.objs.size<=D):Evo C P σ X s σ' (X'.more (·=D)) s':=by
 exact ⟨e.size,e.keep,fun b z=>.inl (e.zm b z),fun b z=>z.elim (e.zn b) fun q=>by subst q;exact .inr (.inl hD),fun b w=>e.wn b w,e.nx,e.ph⟩
theorem Wr_more {σ:Sto} {X:Wld} {N:Addr->Prop} {b:Addr}:Wr C σ (X.more N) b↔Wr C σ X b:=Iff.rfl
theorem sB {σ σ1 σ2:Sto} {A:Around} {n:Nat} {sc sc':Scope} {env:Env} {X:Wld} {s:Shared} {eE:Expr} {g:Comprehension} {gs:List Comprehension} {pos:Pos} {it:Ex} {src v:V} {vs:List V} {o0:Obj} {newAcc:Sem Value}
 {use:Option (Value->Sem Unit)} {Q:Value->Shared->Prop} {E:Value->Shared->Prop}
 (hfr:o0.isFreed=false) (hs:eX sc sc'=true) (hcl:clausesOf eE=g::gs) (hga:ge g.iter=true) (e1:aB n sc g.iter=some it)
 (hnew:∀ (s:Shared) (Q:Value->Shared->Prop) (E:Value->Shared->Prop),Q (.ref s.heap.objs.size) { s with heap:=s.heap.push o0 }->wpAny (model C.prog C.w) A newAcc Q E s)
 (hst:∀ (I D:Addr) (cenv:Env) (s:Shared) (R:Result->Shared->Prop),codeAny (model C.prog C.w) A (.compLoop eE 0 (.ref I) (.ref D) cenv) R s->wpAny (model C.prog C.w) A (pyIter (.ref I)) (fun it' s'=>codeAny (model C.prog C.w) A (.compLoop eE 0 it' (.ref D) cenv) R s') (notedBy (model C.prog C.w) A cenv fun x s'=>R (.error x) s') s->codeAny (model C.prog C.w) A (.compStart eE 0 (.ref I) (.ref D) cenv) R s)
 (h1:EvE C k it ρ σ src σ1) (hsi:c7 src=some vs) (hsm:fy src=true)
 (hloop:∀ (cenv:Env) (X1:Wld) (s':Shared) (I D:Addr) (fp:List Addr) (m:Nat) (P:Nat->Value->Prop) (St:Nat->Heap->Prop) (R:Result->Shared->Prop),WI C A cenv sc' (ft ρ (dW sc')) I (fun b=>b=D) fp m P St σ1 X1 s' 0 vs->Priv C cenv σ1 X1 s' D->s'.heap.get? D=some o0->s.heap.objs.size<=D ->
   (∀ X' s'',Rel C cenv sc' (ft ρ (dW sc')) σ2 X' s''->Evo C (LP cenv I D) σ1 X1 s' σ2 X' s''->(∃ o,s''.heap.get? D=some o)->VRel C (X'.more (·=D)) σ2.next s''.heap v (.ref D)->R (.ok .next) s'')->codeAny (model C.prog C.w) A (.compLoop eE 0 (.ref I) (.ref D) cenv) R s')
 (rm:Room k A) (R:Rel C env sc ρ σ X s)
 (hQ:∀ (D Cn:Addr) X' s',Rel C env sc ρ σ2 X' s'->Evo C (Pl env) σ X s σ2 X' s'->VRel C X' σ2.next s'.heap v (.ref D)->Priv C env σ2 X' s' Cn->(∃ m,s'.heap.Ns Cn m)->s.heap.objs.size<=Cn ->
   compPost (model C.prog C.w) A E use Q (.ref D) Cn (.ok .next) s') :
 wpAny (model C.prog C.w) A (comprehension eE sc' env pos newAcc false (eval g.iter env) use) Q E s:=by
 obtain ⟨hkind,hnd,hfree⟩:=re hs
 have hset:∀ x,foldedSetIterable g.iter env x=pure x:=ki hga
 have hnames:∀ x∈sc'.names,x.2=.local->sc'.names.lookup x.1=some .local:=fun x hx hl=>by
  obtain ⟨y,kd⟩:=x
  cases hl
  exact fN hnd hx
 have hclo:closureFor sc' env=pure (eJ env sc'.names []):=sy fun q hq hf=>by
  obtain ⟨y,kd⟩:=q
  cases hf
  exact R.F.cl y (hfree y (fN hnd hq))
 refine wpAny_comprehension_free (g:=g) (gs:=gs) hcl hset hclo hkind hnames (h1 _ _ _ e1 A env X s rm R _ _ fun x X1 s1 R1 v1 r1=>?_)
 refine mw rm.handled R1.S r1 hsi hsm fun I fp m P St s2 G2 hI hIl itr=>?_
 obtain ⟨R2,v2⟩:=R1.grown G2
 refine hnew _ _ _ (w6 (C:=C) ?_)
 have hDz:s2.heap.objs.size=s2.heap.objs.size:=rfl
 generalize hD:s2.heap.objs.size=D at hDz ⊢
 let H3:Heap:=s2.heap.push o0
 have hH3:H3=s2.heap.push o0:=rfl
 have hL:H3.objs.size=D+1:=by rw [hH3,Heap.size_push,hD]
 let H4:Heap:=H3.push { cls:=.type "dict",data:=.dict #[] }
 have hH4:H4=H3.push { cls:=.type "dict",data:=.dict #[] }:=rfl
 have hH4s:H4.objs.size=D+2:=by rw [hH4,Heap.size_push,hL]
 let H5:Heap:=pushCells H4 sc'.names
 have CS:=lW sc'.names H4 (eJ env sc'.names []) hnd
 have hclk:∀ y,(eJ env sc'.names []).lookup y=if kindIn sc' y=some .free/\(env.cells.lookup y).isSome then env.cells.lookup y else none:=fun y=>sx _ _ hnd
 have hcl1:∀ y c,(eJ env sc'.names []).lookup y=some c->kindIn sc' y=some .free/\env.cells.lookup y=some c:=fun y c h=>by
  rw [hclk] at h
  split at h
  ·rename_i q;exact ⟨q.1,h⟩
  ·cases h
 have hcl2:∀ y c,kindIn sc' y=some .free->env.cells.lookup y=some c->(eJ env sc'.names []).lookup y=some c:=fun y c h1 h2=>by
  rw [hclk,if_pos ⟨h1,by rw [h2];rfl⟩];exact h2
 have envlt:∀ b:Nat,Pl env b->b<s2.heap.objs.size:=fun b p=>(R2.F.pl p).elim fun _ g=>Heap.lt_size g
 have G5:Grow s2 { s2 with heap:=H5 }:=⟨fun b o e=>pushCells_keeps _ _ _ _ (Heap.get?_push_of_some _ (Heap.get?_push_of_some _ e)),by
  show s2.heap.objs.size<=H5.objs.size
  exact Nat.le_trans (by rw [hH4s,hD];simp) CS.size,rfl,rfl⟩
 obtain ⟨R5,v5⟩:=R2.grown G5
 have lD:H5.get? D=some o0:=pushCells_keeps _ _ _ _ (Heap.get?_push_of_some _ (by rw [<-hD];exact Heap.get?_push_size _ hfr))
 have nsL:H5.Ns (D+1) fun _=>none:=by
  have:=Heap.Ns.new H3 (.type "dict")
  rw [hL] at this
  exact this.keeps (pushCells_keeps _ _)
 let cells:=cellsFrom (D+2) sc'.names (eJ env sc'.names [])
 have hcells:cells=cellsFrom H4.objs.size sc'.names (eJ env sc'.names []):=by rw [hH4s]
 let cenv:Env:={ newEnv sc' (D+1) env.globals cells env.qual none .none (some env) builtinsNs with scope:=relabel sc' env }
 have hkO:∀ y,cenv.kindOf y=(sc'.names.lookup y).map fun kd=>if (kd==.free&&env.scope.kind==.function&&env.kindOf y==some .cell)=true then .cell else kd:=fun y=>mV (P:=fun n kd=>kd==.free&&env.scope.kind==.function&&env.kindOf n==some .cell) sc'.names y
 have zlt:∀ b:Nat,X1.Z b->b<s2.heap.objs.size:=fun b z=>(R2.S.zl b z).elim fun _ g=>Heap.lt_size g
 have wlt:∀ b:Nat,Wr C σ1 X1 b->b<s2.heap.objs.size:=fun b w=>(R2.S.wl b w).elim fun _ g=>Heap.lt_size g
 have cellsCase:∀ (y:Str) (c:Nat),cells.lookup y=some c->(kindIn sc' y=some .free/\env.cells.lookup y=some c)\/(kindIn sc' y=some .cell/\D+2<=c/\H5.IsCell c none):=fun y c h=>by
  by_cases hk:sc'.names.lookup y=some .cell
  ·obtain ⟨c',a1,a2,a3⟩:=CS.new y hk
   rw [hcells,a1] at h
   cases h
   exact .inr ⟨hk,by rw [<-hH4s];exact a2,a3⟩
  ·rw [hcells,CS.old y hk] at h
   exact .inl (hcl1 y c h)
 have Fc:Frm C cenv sc' (ft ρ (dW sc')) X1 σ1.next H5:=by
  refine ⟨hkind,fun y hy=>?_,fun y hy=>?_,fun y hy=>?_,fun y hy=>?_,R.F.gl,R.F.bt,⟨_,nsL,fun y v e ky=>?_⟩,fun y hy=>?_,fun y v e ky=>?_,fun y c e=>?_,fun y z c e e'=>?_,fun y c e=>?_⟩
  ·rw [hkO,show sc'.names.lookup y=some .local from hy];rfl
  ·rw [hkO,show sc'.names.lookup y=some .cell from hy];rfl
  ·rw [hkO,show sc'.names.lookup y=some .free from hy]
   simp only [Option.map_some]
   split
   ·exact .inr rfl
   ·exact .inl rfl
  ·rw [hkO,show sc'.names.lookup y=some .globalImplicit from hy];rfl
  ·exact absurd (uK (x:=ao y) (by rw [ky];rfl)) (by rw [fk];exact (mv _ _ _ _ e).2)
  ·rcases hy with hy | hy
   ·obtain ⟨c,a1,_⟩:=CS.new y hy
    exact ⟨c,by show cells.lookup y=_;rw [hcells];exact a1⟩
   ·obtain ⟨c,hc⟩:=R.F.cl y (hfree y hy)
    refine ⟨c,?_⟩
    show cells.lookup y=_
    rw [hcells,CS.old y (by rw [show sc'.names.lookup y=some .free from hy];decide)]
    exact hcl2 y c hy hc
  ·rcases ky with ky | ky
   ·exact absurd (uK (x:=ao y) (by rw [ky];rfl)) (by rw [fk];exact (mv _ _ _ _ e).2)
   ·obtain ⟨c,a,q1,q2,q3⟩:=R5.F.cv y v (mv _ _ _ _ e).1 (hfree _ ky)
    refine ⟨c,a,?_,q2,q3⟩
    show cells.lookup (ao y)=_
    rw [hcells,CS.old _ (by rw [show sc'.names.lookup (ao y)=some .free from ky];decide)]
    exact hcl2 _ c ky q1
  ·rcases cellsCase y c e with ⟨_,h⟩ | ⟨_,_,h⟩
   ·exact R5.F.live y c h
   ·exact ⟨_,h⟩
  ·have:=CS.inj (fun x c h=>by
    have:=envlt c (.inr ⟨x,(hcl1 x c h).2⟩)
    rw [hH4s];exact Nat.lt_of_lt_of_le this (by exact Nat.le.intro (congrFun (congrArg HAdd.hAdd hD) 2))) (fun x y c h h'=>R.F.apart x y c (hcl1 x c h).2 (hcl1 y c h').2)
   rw [<-hcells] at this
   exact this y z c e e'
  ·rcases cellsCase y c e with ⟨_,h⟩ | ⟨_,h,_⟩
   ·have:=envlt c (.inr ⟨y,h⟩)
    exact Nat.ne_of_lt (Nat.lt_of_lt_of_le this (by show s2.heap.objs.size<=D+1;exact Nat.le.intro (congrFun (congrArg HAdd.hAdd hD) 1)))
   ·exact Nat.ne_of_gt (Nat.lt_of_lt_of_le (Nat.lt_succ_self (D+1)) h)
 have plC:∀ b:Nat,Pl cenv b->D+1<=b\/(∃ y,kindIn sc' y=some .free/\cells.lookup y=some b/\env.cells.lookup y=some b):=fun b p=>by
  rcases p with p | ⟨y,e⟩
  ·exact .inl (Nat.le_of_eq p.symm)
  ·rcases cellsCase y b e with ⟨h1,h2⟩ | ⟨_,h,_⟩
   ·exact .inr ⟨y,h1,e,h2⟩
   ·exact .inl (by exact Nat.le_of_succ_le h)
 have Rc:Rel C cenv sc' (ft ρ (dW sc')) σ1 X1 { s2 with heap:=H5 }:=by
  refine ⟨R5.S,Fc,fun b p z=>?_,fun b p w=>?_⟩
  ·rcases plC b p with h | ⟨y,_,_,h⟩
   ·have:=zlt b z;lia -abstractProof
   ·exact R5.pz b (.inr ⟨y,h⟩) z
  ·rcases plC b p with h | ⟨y,_,_,h⟩
   ·have:=wlt b w;lia -abstractProof
   ·exact R5.pw b (.inr ⟨y,h⟩) w
 have nPl:∀ b:Nat,b<=D->s2.heap.objs.size<=b\/¬ Pl env b->¬ Pl cenv b:=fun b hb hn p=>by
  rcases plC b p with h | ⟨y,_,_,h⟩
  ·lia -abstractProof
  ·rcases hn with hn | hn
   ·have:=envlt b (.inr ⟨y,h⟩);lia -abstractProof
   ·exact hn (.inr ⟨y,h⟩)
 have w:=itr.wi (N:=fun _=>False) R1 R2 hI hIl (fun _ h=>h.elim) id
 have s5le:s2.heap.objs.size<=H5.objs.size:=G5.size
 have Dlt:D<H5.objs.size:=Heap.lt_size lD
 have hfp:∀ b∈fp,¬ Wr C σ1 X1 b/\¬ Pl cenv b/\b≠D/\b<H5.objs.size:=fun b hb=>by
  have f:=w.fps b hb
  have l:=f.2.2.2
  rw [hD] at l
  exact ⟨f.1,nPl b (Nat.le_of_lt l) (.inr f.2.1),Nat.ne_of_lt l,Nat.lt_of_lt_of_le f.2.2.2 s5le⟩
 have hDp:Priv C cenv σ1 X1 { s2 with heap:=H5 } D:=⟨fun w=>by have:=wlt D w;lia -abstractProof,nPl D (Nat.le_refl _) (.inl (Nat.le_of_eq hD)),fun z=>by have:=zlt D z;lia -abstractProof,Dlt⟩
 have st5:St 0 H5:=itr.W.frame _ _ _ itr.st fun b _ o g=>G5.keep b o g
 have loop:codeAny (model C.prog C.w) A (.compLoop eE 0 (.ref I) (.ref D) cenv) (compPost (model C.prog C.w) A E use Q (.ref D) (D+1)) { s2 with heap:=H5 }:=by
  refine hloop cenv X1 _ I D fp m P St _ ⟨Rc,itr.W,st5,(Nat.zero_add _).trans itr.len,fun j a hj hp=>?_,itr.own,hfp,itr.mem,w.z⟩ hDp lD (hD▸Nat.le_trans v1.size G2.size) fun X6 s6 R6 v6 l6 r6=>?_
  ·exact (w.val j a hj hp).imp fun u q=>⟨q.1,q.2.mono (fun b o _ g=>G5.keep b o g) (fun _ z=>z) (Nat.le_refl _) fun _ _=>rfl⟩
  ·have s1le:s1.heap.objs.size<=s2.heap.objs.size:=G2.size
   have s0le:s.heap.objs.size<=s1.heap.objs.size:=v1.size
   have g2:=(R1.S.grow0 G2).2
   have g5:=(R2.S.grow0 G5).2
   have v16:Evo C (fun b=>Pl cenv b\/b=D\/b=I) σ1 X1 s1 σ2 X6 s6:=((g2.trans g5).of0).trans v6
   have hP:∀ b:Nat,b<s1.heap.objs.size->(Pl cenv b\/b=D\/b=I)->∃ x,kindIn sc' x=some .free/\cenv.cells.lookup x=some b/\env.cells.lookup x=some b:=fun b hb q=>by
    rcases q with q | q | q
    ·rcases plC b q with h | h
     ·grind -abstractProof
     ·exact h
    ·grind -abstractProof
    ·subst q;exact absurd hb (Nat.not_lt.mpr hI)
   have R7:Rel C env sc ρ σ2 X6 s6:=wM R1 R6 v16 hP fun x v hx e=>w8 _ _ _ _ e fun q=>by
    obtain ⟨⟨y,kd⟩,hy,h⟩:=List.mem_filterMap.mp q
    split at h
    ·rename_i ho
     have hyx:y=x:=f9 (Option.some.inj h)
     subst hyx
     have:=fN hnd hy
     rw [show sc'.names.lookup y=some .free from hx] at this
     cases this
     cases ho
    ·cases h
   have v17:Evo C (Pl env) σ X s σ2 X6 s6:=v1.comp v16 (fun _ q=>q) fun b hb q=>by
    obtain ⟨x,_,_,h⟩:=hP b (Nat.lt_of_lt_of_le hb s0le) q
    exact .inr ⟨x,h⟩
   have hD6:=hDp.evo v6
   have S8:=R7.S.freeze hD6.w l6
   have v18:=v17.freeze (D:=D) (by rw [<-hD];exact Nat.le_trans s0le s1le)
   have R8:Rel C env sc ρ σ2 (X6.more (·=D)) s6:=by
    refine ⟨S8,R7.F.mono (fun _ _ _ e=>e) (fun _ _ _ e=>e) (fun _ z=>.inl z) (Nat.le_refl _) (fun _ _=>rfl) (fun _ _ h=>h),fun b p z=>?_,fun b p w=>R7.pw b p w⟩
    rcases z with z | z
    ·exact R7.pz b p z
    ·have:=envlt b p
     subst z
     exact absurd hD (Nat.ne_of_gt this)
   refine hQ D (D+1) _ s6 R8 v18 r6 ⟨fun w=>R6.pw (D+1) (.inl rfl) w,fun p=>by have:=envlt _ p;lia -abstractProof,fun z=>?_,?_⟩ ?_ ?_
   ·rcases z with z | z
    ·exact R6.pz (D+1) (.inl rfl) z
    ·exact absurd z (Nat.succ_ne_self D)
   ·obtain ⟨o,g⟩:=R6.F.pl (.inl rfl)
    exact Heap.lt_size g
   ·obtain ⟨m,h,_⟩:=R6.F.ns;exact ⟨m,h⟩
   ·show s.heap.objs.size<=D+1
    lia -abstractProof
 have fin:∀ z,z=D+1->codeAny (model C.prog C.w) A (.compStart eE 0 (.ref I) (.ref D) { newEnv sc' z env.globals (cellsFrom (z+1) sc'.names (eJ env sc'.names [])) env.qual none .none (some env) builtinsNs with scope:=relabel sc' env })
  (compPost (model C.prog C.w) A E use Q (.ref D) z) { s2 with heap:=H5 }:=by
  rintro z rfl
  exact hst I D cenv _ _ loop (itr.W.self 0 _ _ _ st5 loop)
 exact fin _ hL
theorem nH {σ σ1 σ2:Sto} {A:Around} {n:Nat} {sc sc':Scope} {env:Env} {X:Wld} {s:Shared} {eltE:Expr} {g:Comprehension} {gs:List Comprehension} {pos p:Pos} {elt it:Ex} {its:List Ex} {ts:List (List Nm)} {ifs:List (List Ex)} {src:V} {vs out:List V}
 {use:Option (Value->Sem Unit)} {Q:Value->Shared->Prop} {E:Value->Shared->Prop}
 (hs:eX sc sc'=true) (hg:((g::gs).all fun g=>g.is_async==0&&ge g.iter)=true) (e1:aB n sc g.iter=some it)
 (e2:mapO (fun g:Comprehension=>aB n sc' g.iter) gs=some its) (e3:mapO (fun g:Comprehension=>ca sc' g.target) (g::gs)=some ts)
 (e4:mapO (fun g:Comprehension=>mapO (aB n sc') g.ifs) (g::gs)=some ifs) (e5:aB n sc' eltE=some elt)
 (h1:EvE C k it ρ σ src σ1) (hsi:c7 src=some vs) (hsm:fy src=true) (hc:CompR C k elt ts its ifs (ft ρ (dW sc')) σ1 vs out σ2) (hlen:out.length<=sizeLine) (rm:Room k A) (R:Rel C env sc ρ σ X s)
 (hQ:∀ (D Cn:Addr) X' s',Rel C env sc ρ σ2 X' s'->Evo C (Pl env) σ X s σ2 X' s'->VRel C X' σ2.next s'.heap (.list out) (.ref D)->Priv C env σ2 X' s' Cn->(∃ m,s'.heap.Ns Cn m)->s.heap.objs.size<=Cn ->
   compPost (model C.prog C.w) A E use Q (.ref D) Cn (.ok .next) s') :
 wpAny (model C.prog C.w) A (comprehension (.ListComp eltE (g::gs) sc' p) sc' env pos (newList []) false (eval g.iter env) use) Q E s:=by
 have hasy:∀ g'∈g::gs,g'.is_async=0/\ge g'.iter=true:=fun g' hm=>by
  obtain ⟨a,b⟩:=Bool.and_eq_true_iff.mp (List.all_eq_true.mp hg g' hm)
  exact ⟨beq_iff_eq.mp a,b⟩
 refine sB (o0:={ cls:=.type "list",dict:=none,data:=.seq ([]:List Value).toArray }) rfl hs rfl (hasy g (.head _)).2 e1 (fun s Q E h=>wpAny_newObj_type h (by show ([]:List Value).toArray.size<=sizeLine;decide)) (fun I D cenv s R l i=>lY rfl (hasy g (.head _)).1 l i) h1 hsi hsm
  (fun cenv X1 s' I D fp m P St R' w pd gD hD h=>?_) rm R hQ
 refine vp hc n sc' eltE (g::gs) sc' p 0 e5 e3 e2 e4 hasy A cenv X1 s' I D fp m 0 P St #[] [] R' rm ⟨w,pd,⟨0,gD⟩,.nil⟩ (by simp only [List.length_nil,Nat.zero_add];exact hlen) fun X6 s6 ys6 R6 v6 l6 r6=>?_
 obtain ⟨kk,g6⟩:=l6
 exact h X6 s6 R6 v6 ⟨_,g6⟩ ⟨D,ys6,kk,rfl,.inr rfl,g6,VsRel.mono (X:=X6) (X':=X6.more (·=D)) (fun _ _ _ e=>e) (fun _ z=>Or.inl z) (Nat.le_refl _) (fun _ _=>rfl) (by simpa using r6)⟩
end
end
section
open PySem PyProof.Rows
section
variable {C:Cx} {k:Nat} {ρ:Loc} {σ σ1 σ2:Sto}
theorem Rel.last {env:Env} {sc:Scope} {X:Wld} {s:Shared} {b:Addr} {h':Heap} (R:Rel C env sc ρ σ X s) (p:Priv C env σ X s b) (hs:Heap.SameBut b s.heap h'):Rel C env sc ρ σ X { s with heap:=h' }/\Evo C (fun c=>c=b) σ X s σ X { s with heap:=h' }:=by
 obtain ⟨S',e⟩:=R.S.priv (s':={ s with heap:=h' }) (fun c=>c=b) (fun c q=>by subst q;exact p.z) (fun c q=>by subst q;exact p.w) (fun c o nb g=>(hs.2 c nb).trans g) (Nat.le_of_eq hs.1.symm) rfl rfl
 exact ⟨R.evo S' e (fun c q h=>by subst h;exact p.p q) fun c q=>by subst q;exact p.z,e⟩
inductive CompOk (C:Cx) (k:Nat):Ex->Loc->Sto->V->Sto->Prop
 | mk (elt ts it its ifs own src vs out ρ σ σ1 σ') (h1:EvE C k it ρ σ src σ1) (h2:c7 src=some vs) (h3:fy src=true) (h4:CompR C k elt ts its ifs (ft ρ own) σ1 vs out σ') (h5:out.length<=sizeLine):CompOk C k (.comp elt ts (it::its) ifs own) ρ σ (.list out) σ'
theorem lc {g:Comprehension} {gs:List Comprehension} (h:((g::gs).all fun g=>g.is_async==0&&ge g.iter)=true):firstAsync (g::gs)=false:=by
 cases g
 exact congrArg (fun b=>!b) (Bool.and_eq_true_iff.mp (Bool.and_eq_true_iff.mp h).1).1
theorem mo {g:Comprehension} {gs:List Comprehension} {env:Env}:firstIter (g::gs) env=eval g.iter env:=by cases g;rfl
theorem fJ {elt it:Ex} {its:List Ex} {ts:List (List Nm)} {ifs:List (List Ex)} {own:List Nm} {src:V} {vs out:List V} (h1:EvE C k it ρ σ src σ1) (hsi:c7 src=some vs) (hsm:fy src=true) (hc:CompR C k elt ts its ifs (ft ρ own) σ1 vs out σ2)
 (hlen:out.length<=sizeLine):CompOk C k (.comp elt ts (it::its) ifs own) ρ σ (.list out) σ2:=⟨_,_,_,_,_,_,_,_,_,_,_,_,_,h1,hsi,hsm,hc,hlen⟩
theorem CompOk.ev {e':Ex} {v:V} (h:CompOk C k e' ρ σ v σ2):EvE C k e' ρ σ v σ2:=by
 obtain ⟨elt,ts,it,its,ifs,own,src,vs,out,ρ,σ,σ1,σ2,h1,hsi,hsm,hc,hlen⟩:=h
 intro n sc e h A env X s rm R Q E hQ
 cases erI h
 rename_i n eltE g gs sc' p it' its' hs hg e1 e2 e3 e4 e5 he ho
 cases he
 subst ho
 rw [eval_ListComp,lc hg,mo]
 refine nH (n:=n) hs hg e1 e2 e3 e4 e5 h1 hsi hsm hc hlen rm R fun D Cn X' s' R' v' r' pr ns hn=>?_
 obtain ⟨m,hm⟩:=ns
 refine ⟨m,hm,fun h' hsb=>?_⟩
 obtain ⟨R2,v2⟩:=R'.last pr hsb
 have hpz:∀ b,b=Cn->¬ X'.Z b:=fun b q=>by subst q;exact pr.z
 refine hQ _ X' _ R2 (v'.comp v2 (fun _ q=>q) fun b hb q=>?_) (v2.rel R'.S hpz r')
 subst q
 exact absurd hb (Nat.not_lt.mpr hn)
inductive JAssign (sc:Scope) (xs:List Nm) (tp:Bool) (e:Ex):Stmt->Prop | mk (n t v p) (hsw:jI v=false) (hsc:(kN e||noComp v)=true) (ht:ca sc t=some xs) (hk:tp=decide (xs.length≠1)) (h:aB n sc v=some e):JAssign sc xs tp e (.Assign [t] v p)
inductive JSet (sc:Scope) (a:Ex) (y:Nm) (e:Ex):Stmt->Prop | mk (n o m p' v p) (hs:eu o=false) (h1:aB n sc o=some a) (h:aB n sc v=some e) (hn:nm m=y):JSet sc a y e (.Assign [.Attribute o m p'] v p)
inductive JAug (sc:Scope) (y:Nm) (op:Operator) (e:Ex):Stmt->Prop | mk (n x p' v p) (hb:cV x=false) (ho:iv (kindIn sc x)=true) (h:aB n sc v=some e) (hn:nm x=y):JAug sc y op e (.AugAssign (.Name x p') op v p)
inductive JAugattr (sc:Scope) (a:Ex) (y:Nm) (op:Operator) (e:Ex):Stmt->Prop | mk (n o m p' v p) (h1:aB n sc o=some a) (h:aB n sc v=some e) (hn:nm m=y):JAugattr sc a y op e (.AugAssign (.Attribute o m p') op v p)
inductive JIf (sc:Scope) (t':Ex) (a' b':List St):Stmt->Prop | mk (n t a b p) (h1:aB n sc t=some t') (h2:mapO (bT n sc) a=some a') (h3:mapO (bT n sc) b=some b'):JIf sc t' a' b' (.If t a b p)
inductive JFor (sc:Scope) (xs:List Nm) (it':Ex) (a' b':List St):Stmt->Prop
 | mk (n t it a b p) (hs:ge it=true) (h0:ca sc t=some xs) (h1:aB n sc it=some it') (h2:mapO (bT n sc) a=some a') (h3:mapO (bT n sc) b=some b'):JFor sc xs it' a' b' (.For t it a b p)
inductive JWhile (sc:Scope) (t':Ex) (a':List St):Stmt->Prop | mk (n t a p) (h1:aB n sc t=some t') (h2:mapO (bT n sc) a=some a'):JWhile sc t' a' (.While t a [] p)
inductive JRet (sc:Scope) (e':Ex):Stmt->Prop | mk (n e p) (h1:aB n sc e=some e'):JRet sc e' (.Return (some e) p)
inductive JBrk (sc:Scope):Stmt->Prop | mk (p):JBrk sc (.Break p)
inductive JCont (sc:Scope):Stmt->Prop | mk (p):JCont sc (.Continue p)
inductive JExpr (sc:Scope) (e':Ex):Stmt->Prop | mk (n e p) (hsc:noComp e=true) (h1:aB n sc e=some e'):JExpr sc e' (.Expr e p)
noncomputable def Da (sc:Scope) (t:Stmt):St->Prop
 | .assign xs tp e=>JAssign sc xs tp e t | .setattr a y e=>JSet sc a y e t | .aug y op e=>JAug sc y op e t | .augattr a y op e=>JAugattr sc a y op e t
 | .ifs t' a b=>JIf sc t' a b t | .for_ xs it a b=>JFor sc xs it a b t | .while_ t' a=>JWhile sc t' a t | .ret e=>JRet sc e t | .brk=>JBrk sc t | .cont=>JCont sc t | .expr e=>JExpr sc e t
theorem yZ {n:Nat} {sc:Scope} {t:Expr} {kf:Ex->St} (h:qp sc n t=some kf):(∃ xs,ca sc t=some xs/\∀ e,kf e=.assign xs (decide (xs.length≠1)) e)\/∃ o m p' a,t=.Attribute o m p'/\eu o=false/\aB n sc o=some a/\∀ e,kf e=.setattr a (nm m) e:=by
 cases hq:lr t with
 | some q =>
   obtain ⟨hs,h1⟩:=kR (c:=eu q.1) ((congrArg (xg sc n t) hq).symm.trans h)
   obtain ⟨a,h3,rfl⟩:=Option.map_eq_some_iff.mp h1
   exact .inr ⟨q.1,q.2.1,q.2.2,a,k6 hq,hs,h3,fun _=>rfl⟩
 | none =>
   obtain ⟨xs,h3,rfl⟩:=Option.map_eq_some_iff.mp ((congrArg (xg sc n t) hq).symm.trans h)
   exact .inl ⟨xs,h3,fun _=>rfl⟩
theorem y0 {n:Nat} {sc:Scope} {op:Operator} {v t:Expr} {t':St} (h:A6 (aB n sc) sc op v t=some t'):(∃ y e,fA sc t=some y/\aB n sc v=some e/\t'=.aug y op e)\/∃ o m p' a e,t=.Attribute o m p'/\aB n sc o=some a/\aB n sc v=some e/\t'=.augattr a (nm m) op e:=by
 cases hq:lr t with
 | some q =>
   obtain ⟨a,e,h1,h2,rfl⟩:=b2 ((congrArg (BN (aB n sc) sc op v t) hq).symm.trans h)
   exact .inr ⟨q.1,q.2.1,q.2.2,a,e,k6 hq,h1,h2,rfl⟩
 | none =>
   obtain ⟨y,e,h1,h2,rfl⟩:=b2 ((congrArg (BN (aB n sc) sc op v t) hq).symm.trans h)
   exact .inl ⟨y,e,h1,h2,rfl⟩
theorem stI {n:Nat} {sc:Scope} {t:Stmt} {t':St} (h:bT n sc t=some t'):Da sc t t':=by
 cases n with
 | zero=>exact bn h
 | succ n =>
   cases t with
   | Assign ts v p =>
     match ts with
     | []=>exact bn h
     | _::_::_=>exact bn h
     | [tg] =>
       obtain ⟨hsw,h⟩:=kR (c:=jI v) h
       obtain ⟨kf,h1,h⟩:=Option.bind_eq_some_iff.mp h
       obtain ⟨e,h2,h⟩:=Option.bind_eq_some_iff.mp h
       obtain ⟨hsc,h⟩:=jB h
       cases h
       rcases yZ h1 with ⟨xs,q1,q2⟩ | ⟨o,m,p',a,rfl,q1,q2,q3⟩
       ·rw [q2];exact JAssign.mk n _ v p hsw hsc q1 rfl h2
       ·rw [q3];exact JSet.mk n o m p' v p q1 q2 h2 rfl
   | AugAssign tg op v p =>
     rcases y0 h with ⟨y,e,h1,h2,rfl⟩ | ⟨o,m,p',a,e,rfl,h1,h2,rfl⟩
     ·obtain ⟨x,p,q,hb,ho,rfl⟩:=dF h1
      subst q
      exact JAug.mk n _ _ v _ hb ho h2 rfl
     ·exact JAugattr.mk n o m p' v p h1 h2 rfl
   | If c a b p =>
     obtain ⟨y,h1,h⟩:=Option.bind_eq_some_iff.mp h
     obtain ⟨e,f,h2,h3,rfl⟩:=b2 h
     exact JIf.mk n c a b p h1 h2 h3
   | For tg it a b p =>
     obtain ⟨hs,h⟩:=jB (c:=ge it) h
     obtain ⟨xs,h0,h⟩:=Option.bind_eq_some_iff.mp h
     obtain ⟨y,h1,h⟩:=Option.bind_eq_some_iff.mp h
     obtain ⟨e,f,h2,h3,rfl⟩:=b2 h
     exact JFor.mk n tg it a b p hs h0 h1 h2 h3
   | While c a b p =>
     cases b with
     | cons _ _=>exact bn h
     | nil =>
       obtain ⟨y,e,h1,h2,rfl⟩:=b2 h
       exact JWhile.mk n c a p h1 h2
   | Return o p =>
     cases o with
     | none=>exact bn h
     | some e =>
       obtain ⟨y,h1,rfl⟩:=b1 h
       exact JRet.mk n e p h1
   | Break p=>cases h;exact JBrk.mk p
   | Continue p=>cases h;exact JCont.mk p
   | Expr e p =>
     obtain ⟨hsc,h⟩:=jB h
     obtain ⟨y,h1,rfl⟩:=b1 h
     exact JExpr.mk n e p hsc h1
   | _=>exact bn h
end
end
section
open PySem PyProof.Rows
section
variable {C:Cx} {k:Nat} {ρ ρ' ρ1 ρ2:Loc} {σ σ1 σ2 σ3:Sto}
theorem m8 {e:Expr} (h:noComp e=true) (t:Option Expr) (line:Nat) (env:Env):swapsWith e t line env=pure false:=by
 unfold swapsWith
 unfold noComp at h
 generalize PySem.swapsWith.match_1 _ e _ _ _ _=o at h ⊢
 cases o with
 | none=>rfl
 | some _=>cases h
theorem wv (e:Expr) (x:Str) (px:Pos) (line:Nat) (env:Env):swapsWith e (some (.Name x px)) line env=pure false\/swapsWith e (some (.Name x px)) line env=pure true:=by
 unfold swapsWith
 generalize PySem.swapsWith.match_1 _ e _ _ _ _=o
 cases o with
 | none=>exact .inl rfl
 | some s =>
   dsimp only
   generalize (_&&_:Bool)=b
   cases b
   ·exact .inl rfl
   ·exact .inr rfl
theorem ww (e:Expr) (elts:List Expr) (kk:Nat) (p:Pos) (line:Nat) (env:Env):swapsWith e (some (.Tuple elts kk p)) line env=pure false:=by
 unfold swapsWith
 generalize PySem.swapsWith.match_1 _ e _ _ _ _=o
 cases o<;>rfl
theorem eD2 {a b:Str} (h:[a,b].eraseDups.length=2):a≠b:=by
 rintro rfl
 simp [List.eraseDups_cons] at h
theorem eD3 {a b c:Str} (h:[a,b,c].eraseDups.length=3):a≠b/\a≠c/\b≠c:=by
 refine ⟨?_,?_,?_⟩
 ·rintro rfl
  by_cases hc:c=a<;>simp [List.eraseDups_cons,hc] at h
 ·rintro rfl
  by_cases hc:b=a<;>simp [List.eraseDups_cons,hc] at h
 ·rintro rfl
  by_cases hc:b=a<;>simp [List.eraseDups_cons,hc] at h
theorem vY {sc:Scope} {env:Env} {line:Nat} {f:Expr->Option Str} (hf:∀ x p,f (.Name x p)=if env.kindOf x==some .local&&p.line==line then some x else none):∀ {elts:List Expr} {ys:List Nm},mapO (fA sc) elts=some ys->(elts.filterMap f).length=elts.length ->
 ys=(elts.filterMap f).map nm/\∀ x∈elts.filterMap f,env.kindOf x=some .local:=by
 intro elts
 induction elts with
 | nil =>
   intro ys h _
   cases h;exact ⟨rfl,fun x hx=>by cases hx⟩
 | cons e elts ih =>
   intro ys h hl
   obtain ⟨y,ys',h1,h2,h⟩:=b2 h
   cases h
   obtain ⟨x,p,rfl,hb,ho,rfl⟩:=dF h1
   have hle:=List.length_filterMap_le f elts
   rw [List.filterMap_cons,hf] at hl
   by_cases hc:(env.kindOf x==some .local&&p.line==line)=true
   ·rw [if_pos hc] at hl
    simp only [List.length_cons] at hl
    obtain ⟨a,b⟩:=ih h2 (by lia -abstractProof)
    rw [List.filterMap_cons,hf,if_pos hc]
    refine ⟨by simp [a],fun z hz=>?_⟩
    rcases List.mem_cons.mp hz with rfl | hz
    ·simpa using (Bool.and_eq_true_iff.mp hc).1
    ·exact b z hz
   ·rw [if_neg hc] at hl
    simp only [List.length_cons] at hl
    lia -abstractProof
theorem AE {elts:List Expr} {kk:Nat} {p:Pos} {v:Expr} {env:Env} (h:v.ctorIdx≠25):swappedStores [.Tuple elts kk p] v env=pure none:=by
 cases v<;>first | exact Eq.refl (pure none) | exact absurd rfl h
theorem pD {α:Type} {c:Bool} {x y:α} {P:α->Prop} (h1:P x) (h2:c=false->P y):P (if c=true then x else y):=by
 cases c with
 | true=>exact h1
 | false=>exact h2 rfl
theorem rN {elts:List Expr} {kk:Nat} {p:Pos} {v:Expr} {env:Env} {sc:Scope} {ys:List Nm} {Q:Sem (Option (List Str))->Prop} (he:mapO (fA sc) elts=some ys) (hb:jI v=false) (h0:Q (pure none))
 (h1:∀ names:List Str,ys=names.map nm->(names.length=2\/names.length=3)->names.eraseDups.length=names.length->(∀ x∈names,env.kindOf x=some .local)->Q (pure (some names))):Q (swappedStores [.Tuple elts kk p] v env):=by
 by_cases hi:v.ctorIdx=25
 ·revert hb
  refine PySem.Expr.Tuple.elim (motive_1:=fun v=>jI v=false->Q (swappedStores [.Tuple elts kk p] v env)) v hi fun vs k2 p2 hb=>?_
  refine pD h0 fun a1=>pD h0 fun _=>pD h0 fun a3=>pD h0 fun _=>?_
  rw [show vs.all (constantsAlone 8)=false from hb]
  obtain ⟨a3,a4⟩:=Bool.or_eq_false_iff.mp a3
  have b3:=beq_iff_eq.mp (uG a3)
  obtain ⟨q1,q2⟩:=vY (by exact fun x p=>rfl) he b3
  refine h1 _ q1 ?_ (beq_iff_eq.mp (uG a4)) q2
  rw [b3]
  obtain ⟨a1,_⟩:=Bool.or_eq_false_iff.mp a1
  obtain ⟨a1,_⟩:=Bool.or_eq_false_iff.mp a1
  exact (Bool.or_eq_true_iff.mp (uG a1)).imp beq_iff_eq.mp beq_iff_eq.mp
 ·rw [AE hi];exact h0
end
end
section
open PySem PyProof.Rows
section
variable {C:Cx} {k:Nat} {ρ ρ' ρ1 ρ2:Loc} {σ σ1 σ2 σ3:Sto}
theorem B1 {A:Around} {env:Env} {sc:Scope} {E:Value->Shared->Prop} (names:List Str):∀ {vs:List V} {as:List Value} {ρ:Loc} {X:Wld} {s:Shared} {Q:Unit->Shared->Prop},(∀ x∈names,iv (kindIn sc x)=true)->Rel C env sc ρ σ X s ->
 VsRel C X σ.next s.heap vs as->vs.length=names.length->(∀ X' s',Rel C env sc (bg ρ (names.map nm) vs) σ X' s'->Evo C (Pl env) σ X s σ X' s'->Q () s')->wpAny (model C.prog C.w) A (assignInOrder (names.map fun n=>bindName env n) as) Q E s:=by
 induction names with
 | nil =>
   intro vs as ρ X s Q h R r hl hQ
   obtain rfl:=List.eq_nil_of_length_eq_zero hl
   exact wpAny_pure (hQ X s R .refl)
 | cons x names ih =>
   intro vs as ρ X s Q h R r hl hQ
   obtain ⟨v,vs,rfl,hl⟩:=vT hl
   obtain ⟨a,as',rfl,r1,r2⟩:=r
   refine wpAny_bind (wpAny_holding (wpAny_bindName (fR R (h x (.head _)) r1 fun X1 s1 R1 v1=>?_)))
   exact ih (fun y hy=>h y (.tail _ hy)) R1 (v1.rels R.S R.pz r2) (by assumption) fun X2 s2 R2 v2=>hQ X2 s2 R2 (v1.trans v2)
theorem VsRel.reverse {X:Wld} {n:Nat} {h:Heap} {vs:List V}:∀ {as:List Value},VsRel C X n h vs as->VsRel C X n h vs.reverse as.reverse:=by
 induction vs with
 | nil=>intro _ r;rw [r.inv_nil];exact .nil
 | cons v vs ih =>
   intro as r
   obtain ⟨a,q,rfl,r1,r2⟩:=r
   rw [List.reverse_cons,List.reverse_cons]
   exact (ih r2).app (.cons r1 .nil)
theorem yC {names:List Str} {vs:List V} (hl:vs.length=names.length) (h23:names.length=2\/names.length=3) (hd:names.eraseDups.length=names.length) (ρ:Loc) (y:Nm) (v:V)
 (h:get (bg ρ (names.map nm) vs) y=some v):get (bg ρ (names.reverse.map nm) vs.reverse) y=some v:=by
 rcases h23 with q | q
 ·obtain ⟨a,b,rfl⟩:=B6 q
  obtain ⟨u,w,rfl⟩:=B6 (hl.trans q)
  have hne:=eD2 hd
  have hn:nm a≠nm b:=fun q=>hne (f9 q)
  replace h:get (put (put ρ (nm a) u) (nm b) w) y=some v:=h
  show get (put (put ρ (nm b) w) (nm a) u) y=some v
  simp only [cg] at h ⊢
  by_cases h1:y=nm a<;>by_cases h2:y=nm b<;>simp_all
 ·obtain ⟨a,b,c,rfl⟩:=Dw q
  obtain ⟨u,w,x,rfl⟩:=Dw (hl.trans q)
  clear q
  obtain ⟨n1,n2,n3⟩:=eD3 hd
  have m1:nm a≠nm b:=fun q=>n1 (f9 q)
  have m2:nm a≠nm c:=fun q=>n2 (f9 q)
  have m3:nm b≠nm c:=fun q=>n3 (f9 q)
  replace h:get (put (put (put ρ (nm a) u) (nm b) w) (nm c) x) y=some v:=h
  show get (put (put (put ρ (nm c) x) (nm b) w) (nm a) u) y=some v
  simp only [cg] at h ⊢
  by_cases h1:y=nm a<;>by_cases h2:y=nm b<;>by_cases h3:y=nm c<;>simp_all
theorem oQ (t v:Expr) (p:Pos) (env:Env) (h:swapsWith v (some t) p.line env=pure false):exec (.Assign [t] v p) env=(do
 standAt p
 let x <-eval v env
 assignStores env x (<-swappedStores [t] v env) ((assignEach [t] env).map (·.2))):=by
 have e:exec (.Assign [t] v p) env=(do
  standAt p
  if <-swapsWith v (some t) p.line env then do
   evalThenUse v env fun v=>assignAll v ((assignEach [t] env).map (·.2))
   pure .next
  else do
   let x <-eval v env
   assignStores env x (<-swappedStores [t] v env) ((assignEach [t] env).map (·.2))):=rfl
 rw [e,h];rfl
theorem Ch {sc:Scope} {x:Str} {elts:List Expr}:∀ {ys:List Nm},mapO (fA sc) elts=some ys->nm x∈ys->iv (kindIn sc x)=true:=by
 induction elts with
 | nil=>intro ys h hm;cases h;cases hm
 | cons e elts ih =>
   intro ys h hm
   obtain ⟨y,ys',q1,q2,q⟩:=b2 h
   cases q
   obtain ⟨z,pz,rfl,_,ho,rfl⟩:=dF q1
   rcases List.mem_cons.mp hm with q | q
   ·rw [f9 q];exact ho
   ·exact ih q2 q
theorem aj {xs:List Nm} {tp:Bool} {e:Ex} {v:V} (h1:EvE C k e ρ σ v σ1) (hb:ci ρ xs v=some ρ') (hc:tp=false->kN e=false):ExS C k (.assign xs tp e) ρ σ .next ρ' σ1:=by
 intro n sc t h A env X s rm R Q E hQ
 cases stI h
 rename_i n t ve p hsw hnc ht hk e1
 rcases fK ht with ⟨x,px,y,rfl,h2,rfl⟩ | ⟨elts,kk,pt,rfl,h2,hl2⟩
 ·obtain ⟨x',p',q,hbn,ho,rfl⟩:=dF h2
  cases q
  have hc':kN e=false:=hc (by rw [hk];rfl)
  refine wpAny_Assign_Name (h1 _ _ _ e1 A env X s rm R _ _ fun a X1 s1 R1 v1 r1=>?_) (m8 (by rw [hc'] at hnc;exact hnc) _ _ _)
  cases hb
  exact fR R1 ho r1 fun X2 s2 R2 v2=>hQ _ X2 s2 R2 (v1.trans v2) trivial
 ·rw [oQ _ _ _ _ (ww _ _ _ _ _ _)]
  refine wpAny_bind (wpAny_standAt (wpAny_bind (h1 _ _ _ e1 A env X s rm R _ _ fun a X1 s1 R1 v1 r1=>?_)))
  refine wpAny_bind (rN (Q:=fun t=>wpAny _ A t _ _ _) h2 hsw ?_ fun names hys h23 hd hloc=>?_)
  ·refine wpAny_pure ?_
   show wpAny _ A (do assignAll a [assign (.Tuple elts kk pt) env];pure .next) Q E s1
   refine wpAny_bind ?_
   show wpAny _ A (assign (.Tuple elts kk pt) env a) _ _ s1
   exact asg rm.handled ht hb R1 r1 fun X2 s2 R2 v2=>wpAny_pure (hQ _ X2 s2 R2 (v1.trans v2) trivial)
  ·refine wpAny_pure ?_
   obtain ⟨vs,hi,hl',rfl⟩:=nF hl2 hb
   have hlen:vs.length=names.length:=by rw [hl',hys,List.length_map]
   show wpAny _ A (do
    rule "assign.swapped-stores"
    let items <-unpackItems a names.length none
    assignInOrder (names.reverse.map fun n=>bindName env n) items.reverse
    pure .next) Q E s1
   refine wpAny_bind (wpAny_rule (wpAny_bind ?_))
   rw [<-hlen]
   refine nj rm.handled R1.S r1 hi fun as s2 G r2=>?_
   obtain ⟨R2,v2⟩:=R1.grown G
   refine wpAny_bind (B1 names.reverse (fun x hx=>Ch h2 (by rw [hys];exact List.mem_map_of_mem (List.mem_reverse.mp hx))) R2 r2.reverse (by simpa using hlen) fun X3 s3 R3 v3=>wpAny_pure (hQ _ X3 s3 (R3.less fun y u hy=>?_) ((v1.trans v2).trans v3) trivial))
   rw [hys] at hy
   exact yC hlen h23 hd ρ y u hy
theorem d6 {x:Nm} {e:Ex} {v:V} (h1:CompOk C k e ρ σ v σ1):ExS C k (.assign [x] false e) ρ σ .next (put ρ x v) σ1:=by
 intro n sc t h A env X s rm R Q E hQ
 cases stI h
 rename_i n t ve p hsw hnc ht hk e1
 rcases fK ht with ⟨xx,px,y,rfl,h2,q⟩ | ⟨elts,kk,pt,_,_,h2⟩
 ·cases q
  obtain ⟨x',p',q,hbn,ho,rfl⟩:=dF h2
  cases q
  rcases wv ve xx px p.line env with hs | hs
  ·refine wpAny_Assign_Name (h1.ev _ _ _ e1 A env X s rm R _ _ fun a X1 s1 R1 v1 r1=>?_) hs
   exact fR R1 ho r1 fun X2 s2 R2 v2=>hQ _ X2 s2 R2 (v1.trans v2) trivial
  ·rw [exec_Assign_Name_used _ _ _ _ hs]
   obtain ⟨elt,ts,it,its,ifs,own,src,vs,out,ρ,σ,σ0,σ1,q1,hsi,hsm,hcr,hlen⟩:=h1
   cases erI e1
   rename_i n eltE g gs sc' pp it' its' hsc hg e2 e3 e4 e6 e5 he ho
   cases he
   subst ho
   refine wpAny_bind (wpAny_standAt (wpAny_bind ?_))
   show wpAny _ A (do let _ <-comprehension (.ListComp eltE (g::gs) sc' pp) sc' env (firstIterPos (g::gs) pp) (newList []) (firstAsync (g::gs)) (firstIter (g::gs) env) (some (assign (.Name xx px) env))) _ _ s
   rw [lc hg,mo]
   refine wpAny_bind (nH (n:=n) (use:=some (assign (.Name xx px) env)) hsc hg e2 e3 e4 e6 e5 q1 hsi hsm hcr hlen rm R fun D Cn X' s' R' v' r' pr ns hn=>?_)
   obtain ⟨m,hm⟩:=ns
   show wpAny _ A (assign (.Name xx px) env (.ref D)) _ _ s'
   refine wpAny_assign_Name (fR R' ho r' fun X2 s2 R2 v2=>?_)
   have pr2:=pr.evo v2
   refine ⟨m,hm.at' fun o g=>v2.keep _ _ g pr.w pr.p,fun h' hsb=>wpAny_pure (wpAny_pure ?_)⟩
   obtain ⟨R3,v3⟩:=R2.last pr2 hsb
   refine hQ _ X2 _ R3 ((v'.trans v2).comp v3 (fun _ q=>q) fun b hb q=>?_) trivial
   subst q
   exact absurd hb (Nat.not_lt.mpr hn)
 ·exact absurd h2 (Nat.not_succ_le_self 1)
end
end
section
open PySem PyProof.Rows
noncomputable def Fl.after (P:Prop) (f:Fl) (ρ':Loc) (σ':Sto) (ρ2:Loc) (σ2:Sto):Fl->Prop
 | .next=>P
 | .cont=>P
 | .brk=>f=.next/\ρ'=ρ2/\σ'=σ2
 | .ret u=>f=.ret u/\ρ'=ρ2/\σ'=σ2
noncomputable def ForR (C:Cx) (k:Nat) (xs:List Nm) (body orelse:List St) (ρ:Loc) (σ:Sto) (vs:List V) (f:Fl) (ρ':Loc) (σ':Sto):Prop:=match vs with
 | []=>ExL C k orelse ρ σ f ρ' σ'
 | v::vs=>∃ ρ1 g ρ2 σ2,ci ρ xs v=some ρ1/\ExL C k body ρ1 σ g ρ2 σ2/\Fl.after (ForR C k xs body orelse ρ2 σ2 vs f ρ' σ') f ρ' σ' ρ2 σ2 g
section
variable {C:Cx} {k:Nat} {xs:List Nm} {body orelse:List St} {ρ ρ1 ρ2 ρ3:Loc} {σ σ2 σ3:Sto} {v u:V} {vs:List V} {f:Fl}
theorem ForR.done (h:ExL C k orelse ρ σ f ρ2 σ2):ForR C k xs body orelse ρ σ [] f ρ2 σ2:=h
theorem ForR.step (hb:ci ρ xs v=some ρ1) (h1:ExL C k body ρ1 σ .next ρ2 σ2) (h2:ForR C k xs body orelse ρ2 σ2 vs f ρ3 σ3):ForR C k xs body orelse ρ σ (v::vs) f ρ3 σ3:=⟨_,.next,_,_,hb,h1,h2⟩
theorem ForR.cont (hb:ci ρ xs v=some ρ1) (h1:ExL C k body ρ1 σ .cont ρ2 σ2) (h2:ForR C k xs body orelse ρ2 σ2 vs f ρ3 σ3):ForR C k xs body orelse ρ σ (v::vs) f ρ3 σ3:=⟨_,.cont,_,_,hb,h1,h2⟩
theorem ForR.brk (hb:ci ρ xs v=some ρ1) (h1:ExL C k body ρ1 σ .brk ρ2 σ2):ForR C k xs body orelse ρ σ (v::vs) .next ρ2 σ2:=⟨_,.brk,_,_,hb,h1,rfl,rfl,rfl⟩
theorem ForR.ret (hb:ci ρ xs v=some ρ1) (h1:ExL C k body ρ1 σ (.ret u) ρ2 σ2):ForR C k xs body orelse ρ σ (v::vs) (.ret u) ρ2 σ2:=⟨_,.ret u,_,_,hb,h1,rfl,rfl,rfl⟩
end
inductive kE (C:Cx) (k:Nat) (t:Ex) (body:List St):Loc->Sto->Fl->Loc->Sto->Prop
 | done {ρ σ σ1} (h:EvT C k t ρ σ false σ1):kE C k t body ρ σ .next ρ σ1
 | step {ρ σ σ1 ρ2 σ2 f ρ3 σ3} (h:EvT C k t ρ σ true σ1) (h1:ExL C k body ρ σ1 .next ρ2 σ2) (h2:kE C k t body ρ2 σ2 f ρ3 σ3):kE C k t body ρ σ f ρ3 σ3
section
variable {C:Cx} {k:Nat} {ρ ρ' ρ1 ρ2:Loc} {σ σ1 σ2 σ3:Sto}
theorem aE:ExL C k [] ρ σ .next ρ σ:=by
 intro n sc ts h A env X s rm R Q E hQ
 obtain rfl:=cE h
 exact wpAny_execs_nil (hQ _ X s R .refl trivial)
theorem aq {t:St} {ts:List St} {f:Fl} (h1:ExS C k t ρ σ .next ρ1 σ1) (h2:ExL C k ts ρ1 σ1 f ρ2 σ2):ExL C k (t::ts) ρ σ f ρ2 σ2:=by
 intro n sc ts h A env X s rm R Q E hQ
 obtain ⟨t,r,rfl,e1,e2⟩:=aM h
 refine wpAny_execs_cons (h1 _ _ _ e1 A env X s rm R _ _ fun g X1 s1 R1 v1 fr=>?_)
 cases g<;>first
  | exact h2 _ _ _ e2 A env X1 s1 rm R1 _ _ fun g X2 s2 R2 v2 fr2=>hQ g X2 s2 R2 (v1.trans v2) fr2
  | exact fr.elim
noncomputable def jn:Fl->Bool
 | .next=>false
 | _=>true
theorem aZ {t:St} {ts:List St} {f:Fl} (h1:ExS C k t ρ σ f ρ1 σ1) (hf:jn f=true):ExL C k (t::ts) ρ σ f ρ1 σ1:=by
 intro n sc ts h A env X s rm R Q E hQ
 obtain ⟨t,r,rfl,e1,e2⟩:=aM h
 refine wpAny_execs_cons (h1 _ _ _ e1 A env X s rm R _ _ fun g X1 s1 R1 v1 fr=>?_)
 cases f<;>cases g<;>first
  | exact hQ _ X1 s1 R1 v1 fr
  | exact fr.elim
  | cases hf
theorem fu {e:Ex} {v:V} (h1:EvE C k e ρ σ v σ1):ExS C k (.ret e) ρ σ (.ret v) ρ σ1:=by
 intro n sc t h A env X s rm R Q E hQ
 cases stI h
 rename_i n e p e1
 exact wpAny_Return_some (h1 _ _ _ e1 A env X s rm R _ _ fun a X1 s1 R1 v1 r1=>hQ _ X1 s1 R1 v1 r1)
theorem BQ:ExS C k .brk ρ σ .brk ρ σ:=by
 intro n sc t h A env X s rm R Q E hQ
 cases stI h
 exact wpAny_Break (hQ _ X s R .refl trivial)
theorem zH:ExS C k .cont ρ σ .cont ρ σ:=by
 intro n sc t h A env X s rm R Q E hQ
 cases stI h
 exact wpAny_Continue (hQ _ X s R .refl trivial)
theorem gE {e:Ex} (h1:EvE C k e ρ σ .none σ1) (_:kN e=false):ExS C k (.expr e) ρ σ .next ρ σ1:=by
 intro n sc t h A env X s rm R Q E hQ
 cases stI h
 rename_i n e p hsc e1
 refine wpAny_Expr (h1 _ _ _ e1 A env X s rm R _ _ fun a X1 s1 R1 v1 r1=>?_) (by unfold interactive;rw [R.F.kind];rfl) (m8 hsc _ _ _)
 have:a=.none:=r1
 subst this
 exact hQ _ X1 s1 R1 v1 trivial
theorem ji {x:Nm} {op:Operator} {e:Ex} {v0 v1 v:V} (hg:get ρ x=some v0) (h1:EvE C k e ρ σ v1 σ1) (h2:Op2 C k (inplaceOp op) v0 v1 σ1 v σ2):ExS C k (.aug x op e) ρ σ .next (put ρ x v) σ2:=by
 intro n sc t h A env X s rm R Q E hQ
 cases stI h
 rename_i n y p' ve p hb ho e1 hn
 subst hn
 have hv:qK (kindIn sc y)=true:=by rcases o9 ho with q | q<;>rw [q]<;>rfl
 refine wpAny_AugAssign_Name (ux R.F hb hv hg fun a0 r0=>h1 _ _ _ e1 A env X s rm R _ _ fun a1 X1 s1 R1 w1 r1=>?_)
 refine h2 A X1 s1 a0 a1 rm R1.S (w1.rel R.S R.pz r0) r1 _ _ fun a2 X2 s2 S2 w2 r2=>?_
 exact fR (R1.evo0 S2 w2) ho r2 fun X3 s3 R3 w3=>hQ _ X3 s3 R3 ((w1.trans w2.of0).trans w3) trivial
theorem cD {t:Ex} {a b:List St} {c:Bool} {f:Fl} (h1:EvT C k t ρ σ c σ1) (h2:c=true->ExL C k a ρ σ1 f ρ2 σ2) (h3:c=false->ExL C k b ρ σ1 f ρ2 σ2):ExS C k (.ifs t a b) ρ σ f ρ2 σ2:=by
 intro n sc t h A env X s rm R Q E hQ
 cases stI h
 rename_i n te ae be p e1 e2 e3
 refine wpAny_If (h1 _ _ _ e1 A env X s rm R _ _ fun X1 s1 R1 v1=>?_)
 cases c with
 | true=>exact h2 rfl _ _ _ e2 A env X1 s1 rm R1 _ _ fun g X2 s2 R2 v2 fr=>hQ g X2 s2 R2 (v1.trans v2) fr
 | false=>exact h3 rfl _ _ _ e3 A env X1 s1 rm R1 _ _ fun g X2 s2 R2 v2 fr=>hQ g X2 s2 R2 (v1.trans v2) fr
theorem fW (target:Expr) (it:Value) (body orelse:List Stmt) (env:Env):forTurn target it body orelse env=(do
 standAt target.pos
 match <-(pyNext it).onRaise (fun _=>standAt { target.pos with line:=0 }) with
 | none=>again (.block orelse env)
 | some v =>
   letOwnedTupleGo target it v
   assign target env v
   match <-execs body env with
   | .next | .cont=>again (.forLoop target it body orelse env)
   | .brk=>pure (.done .next)
   | .ret v=>pure (.done (.ret v))):=rfl
theorem qd {A:Around} {R:Result->Shared->Prop} {s:Shared} {ts:List Stmt} {env:Env} (h:wpAny (model C.prog C.w) A (execs ts env) (fun f s'=>R (.ok f) s') (notedBy (model C.prog C.w) A env fun e s'=>R (.error e) s') s):codeAny (model C.prog C.w) A (.block ts env) R s:=by
 refine codeAny_of_tree ?_
 show wpAny _ A (do return Fin.done (<-(execs ts env).onRaise (fun x=>do noteFrame x env;theTreesLotGoes x)):Sem Fin) _ _ s
 exact wpAny_bind (wpAny_mono (wpAny_noted h) (fun f s' q=>wpAny_pure q) fun _ _ q=>q)
noncomputable def uj (target:Expr) (it:Value) (body orelse:List Stmt) (env:Env):Flow->Sem Fin
 | .next | .cont=>again (.forLoop target it body orelse env)
 | .brk=>pure (.done .next)
 | .ret v=>pure (.done (.ret v))
theorem vI {A:Around} {env:Env} {n0:Nat} {sc:Scope} {target:Expr} {bodyE orelseE:List Stmt} {xs:List Nm} {body:List St} {ρ ρ1 ρ2:Loc} {I:Addr} {N:Addr->Prop} {fp:List Addr} {n:Nat} {P:Nat->Value->Prop} {St:Nat->Heap->Prop} {σ σ2:Sto} {X:Wld} {s:Shared} {i:Nat}
 {v:V} {vs:List V} {fl:Fl} {R:Result->Shared->Prop} (ht:ca sc target=some xs) (hb:mapO (bT n0 sc) bodyE=some body) (hbd:ci ρ xs v=some ρ1) (h1:ExL C k body ρ1 σ fl ρ2 σ2) (rm:Room k A) (w:WI C A env sc ρ I N fp n P St σ X s i (v::vs))
 (hQ:∀ g X3 s3,Rel C env sc ρ2 σ2 X3 s3->Evo C (fun b=>Pl env b\/b=I) σ X s σ2 X3 s3->k7 C X3 σ2.next s3.heap fl g->WI C A env sc ρ2 I N fp n P St σ2 X3 s3 (i+1) vs ->
   wpAny (model C.prog C.w) A (uj target (.ref I) bodyE orelseE env g) (fun fin s'=>match fin with | .done f=>R (.ok f) s' | .again c'=>c'.quiet=true/\codeAny (model C.prog C.w) A c' R s') (notedBy (model C.prog C.w) A env fun e s'=>R (.error e) s') s3) :
 codeAny (model C.prog C.w) A (.forLoop target (.ref I) bodyE orelseE env) R s:=by
 refine codeAny_of_tree ?_
 show wpAny _ A ((forTurn target (.ref I) bodyE orelseE env).onRaise (fun x=>do noteFrame x env;theTreesLotGoes x)) _ _ s
 refine wpAny_noted ?_
 rw [fW]
 refine wpAny_bind (wpAny_standAt (wpAny_bind (wpAny_onRaise (w.take rm.handled ht hbd fun a X1 s1 e1 w1 asn=>?_))))
 exact Dc (asn _ _ fun X2 s2 R2 e2=>wpAny_bind (h1 _ _ _ hb A env X2 s2 rm R2 _ _ fun g X3 s3 R3 e3 fr=>hQ g X3 s3 R3 (e1.comp (e2.trans e3) (fun b q=>.inr q) fun b _ q=>.inl q) fr (w1.pl (e2.trans e3) R3)))
theorem sR {X:Wld} {n:Nat} {h:Heap} {g0 f:Fl} {g:Flow} {P:Prop} {ρ' ρ2:Loc} {σ' σ2:Sto} {T:Flow->Prop} (fr:k7 C X n h g0 g) (h2:Fl.after P f ρ' σ' ρ2 σ2 g0) (a:P->T .next) (b:P->T .cont) (c:f=.next/\ρ'=ρ2/\σ'=σ2->T .brk)
 (d:∀ u w,f=.ret u/\ρ'=ρ2/\σ'=σ2->VRel C X n h u w->T (.ret w)):T g:=by
 cases g0<;>cases g<;>first
  | exact fr.elim
  | exact a h2
  | exact b h2
  | exact c h2
  | exact d _ _ h2 fr
theorem xG {xs:List Nm} {body orelse:List St} {vs:List V}:∀ {ρ:Loc} {σ:Sto} {f:Fl} {ρ':Loc} {σ':Sto},ForR C k xs body orelse ρ σ vs f ρ' σ'->∀ {n0:Nat} {sc:Scope} {target:Expr} {bodyE orelseE:List Stmt},ca sc target=some xs->mapO (bT n0 sc) bodyE=some body->mapO (bT n0 sc) orelseE=some orelse ->
 ∀ {A:Around} {env:Env} {X:Wld} {s:Shared} {I:Addr} {N:Addr->Prop} {fp:List Addr} {n i:Nat} {P:Nat->Value->Prop} {St:Nat->Heap->Prop} {R:Result->Shared->Prop},Room k A->WI C A env sc ρ I N fp n P St σ X s i vs ->
 (∀ g X' s',Rel C env sc ρ' σ' X' s'->Evo C (fun b=>Pl env b\/b=I) σ X s σ' X' s'->k7 C X' σ'.next s'.heap f g->R (.ok g) s') ->
 codeAny (model C.prog C.w) A (.forLoop target (.ref I) bodyE orelseE env) R s:=by
 induction vs with
 | nil =>
   intro ρ σ f ρ' σ' h n0 sc target bodyE orelseE ht hb ho A env X s I N fp n i P St R rm w hR
   refine codeAny_of_tree ?_
   show wpAny _ A ((forTurn target (.ref I) bodyE orelseE env).onRaise (fun x=>do noteFrame x env;theTreesLotGoes x)) _ _ s
   refine wpAny_noted ?_
   rw [fW]
   obtain rfl:=w.len
   refine wpAny_bind (wpAny_standAt (wpAny_bind (wpAny_onRaise (bL (w.W.done s _ _ w.st fun h' tk hk hs=>wpAny_pure ⟨rfl,?_⟩)))))
   obtain ⟨R1,e⟩:=w.turn (tk:=tk) hk hs
   exact qd (h _ _ _ ho A env X _ rm R1 _ _ fun g X2 s2 R2 v2 fr=>hR g X2 s2 R2 (e.comp v2 (fun _ q=>.inr q) fun _ _ q=>.inl q) fr)
 | cons v vs ih =>
   intro ρ σ f ρ' σ' h n0 sc target bodyE orelseE ht hb ho A env X s I N fp n i P St R rm w hR
   obtain ⟨ρ1,g0,ρ2,σ2,hbd,h1,h2⟩:=h
   refine vI ht hb hbd h1 rm w fun g X3 s3 R3 e3 fr w3=>?_
   have key:Fl.after (ForR C k xs body orelse ρ2 σ2 vs f ρ' σ') f ρ' σ' ρ2 σ2 .next->codeAny (model C.prog C.w) A (.forLoop target (.ref I) bodyE orelseE env) R s3:=fun h2=>ih h2 ht hb ho rm w3 fun g X4 s4 R4 e4=>hR g X4 s4 R4 (e3.trans e4)
   refine sR fr h2 (T:=fun g=>wpAny (model C.prog C.w) A (uj target (.ref I) bodyE orelseE env g) _ _ s3) (fun h=>wpAny_pure ⟨rfl,key h⟩) (fun h=>wpAny_pure ⟨rfl,key h⟩) (fun h=>wpAny_pure (hR _ X3 s3 ?_ ?_ ?_)) fun u w h r=>wpAny_pure (hR _ X3 s3 ?_ ?_ ?_)
   ·rw [h.2.1,h.2.2];exact R3
   ·rw [h.2.2];exact e3
   ·rw [h.1];trivial
   ·rw [h.2.1,h.2.2];exact R3
   ·rw [h.2.2];exact e3
   ·rw [h.1,h.2.2];exact r
theorem jj {xs:List Nm} {it:Ex} {body orelse:List St} {src:V} {vs:List V} {f:Fl} (h1:EvE C k it ρ σ src σ1) (hsi:c7 src=some vs) (hsm:fy src=true) (h2:ForR C k xs body orelse ρ σ1 vs f ρ' σ2):ExS C k (.for_ xs it body orelse) ρ σ f ρ' σ2:=by
 intro n sc t h A env X s rm R Q E hQ
 cases stI h
 rename_i n t ite a b p hs ht e1 e2 e3
 have he:exec (.For t ite a b p) env=(do
  standAt p
  let x <-foldedSetIterable ite env (<-eval ite env)
  standAt ite.pos
  runOwn (.forLoop t (<-holding [x] (pyIter x)) a b env) env):=rfl
 rw [he]
 refine wpAny_bind (wpAny_standAt (wpAny_bind (h1 _ _ _ e1 A env X s rm R _ _ fun x X1 s1 R1 v1 r1=>?_)))
 rw [ki hs]
 refine wpAny_bind (wpAny_pure (wpAny_bind (wpAny_standAt (wpAny_bind (wpAny_holding ?_)))))
 refine mw rm.handled R1.S r1 hsi hsm fun I fp m P St s2 G2 hI hIl itr=>?_
 obtain ⟨R2,v2⟩:=R1.grown G2
 refine wpAny_runOwn (xG h2 ht e2 e3 rm (itr.wi (N:=fun _=>False) R1 R2 hI hIl (fun _ h=>h.elim) id) fun g X3 s3 R3 v3 fr=>?_)
 refine hQ g X3 s3 R3 ((v1.trans v2).comp v3 (fun _ q=>q) fun b hb q=>q.elim id fun q=>?_) fr
 rw [q] at hb
 exact absurd (Nat.lt_of_lt_of_le hb v1.size) (Nat.not_lt.mpr hI)
theorem tH {t:Ex} {body:List St} {ρ:Loc} {σ:Sto} {f:Fl} {ρ':Loc} {σ':Sto} (h:kE C k t body ρ σ f ρ' σ'):∀ (n0:Nat) (sc:Scope) (tE:Expr) (bodyE:List Stmt),aB n0 sc tE=some t->mapO (bT n0 sc) bodyE=some body ->
 ∀ (A:Around) (env:Env) (X:Wld) (s:Shared) (R:Result->Shared->Prop),Room k A->Rel C env sc ρ σ X s ->
 (∀ g X' s',Rel C env sc ρ' σ' X' s'->Evo C (Pl env) σ X s σ' X' s'->k7 C X' σ'.next s'.heap f g->R (.ok g) s') ->
 codeAny (model C.prog C.w) A (.whileLoop tE bodyE [] env) R s:=by
 induction h with
 | @done ρ σ σ1 h =>
   intro n0 sc tE bodyE ht hb A env X s R rm RR hR
   refine codeAny_of_tree ?_
   show wpAny _ A ((whileTurn tE bodyE [] env).onRaise (fun x=>do noteFrame x env;theTreesLotGoes x)) _ _ s
   refine wpAny_noted ?_
   unfold whileTurn
   refine wpAny_bind (h _ _ _ ht A env X s rm RR _ _ fun X1 s1 R1 v1=>?_)
   exact wpAny_bind (wpAny_execs_nil (wpAny_pure (hR _ X1 s1 R1 v1 trivial)))
 | @step ρ σ σ1 ρ2 σ2 f ρ3 σ3 h h1 h2 ih =>
   intro n0 sc tE bodyE ht hb A env X s R rm RR hR
   refine codeAny_of_tree ?_
   show wpAny _ A ((whileTurn tE bodyE [] env).onRaise (fun x=>do noteFrame x env;theTreesLotGoes x)) _ _ s
   refine wpAny_noted ?_
   unfold whileTurn
   refine wpAny_bind (h _ _ _ ht A env X s rm RR _ _ fun X1 s1 R1 v1=>?_)
   refine wpAny_bind (h1 _ _ _ hb A env X1 s1 rm R1 _ _ fun g X2 s2 R2 v2 fr=>?_)
   cases g<;>try exact fr.elim
   exact wpAny_pure ⟨rfl,ih n0 sc tE bodyE ht hb A env X2 s2 R rm R2 fun g X3 s3 R3 v3 fr=>hR g X3 s3 R3 ((v1.trans v2).trans v3) fr⟩
theorem xv {t:Ex} {body:List St} {f:Fl} (h:kE C k t body ρ σ f ρ' σ1):ExS C k (.while_ t body) ρ σ f ρ' σ1:=by
 intro n sc t h' A env X s rm R Q E hQ
 cases stI h'
 rename_i n te a p e1 e2
 exact wpAny_While (tH h n sc te a e1 e2 A env X s _ rm R hQ)
end
end
section
open PySem PyProof.Rows
noncomputable def yr:Fl->V
 | .ret v=>v
 | _=>.none
structure sd (C:Cx) (a:Addr) (ps:List Str) (sc:Scope) (body:List Stmt):Prop where
 ex:∃ o fd c,C.base.get? a=some o/\a≠C.tab/\o.data=.func fd/\fd.body=.stmts body/\fd.scope=sc/\fd.closure=[]/\fd.globals=mainGlobals/\fd.builtins=builtinsNs/\fd.code=.ref c/\c≠C.tab/\C.base.CodeRec fd.code fd.qualname /\
  (∀ vals:List Value,vals.length=ps.length->bindArgs fd ⟨vals,[]⟩=pure (ps.zip vals))
 kind:sc.kind=.function
 co:sc.isCoroutine=false
 gen:sc.isGenerator=false
 nd:(sc.names.map (·.1)).Nodup
 own:∀ x∈ps,iv (kindIn sc x)=true
 pnd:ps.Nodup
 nofree:∀ x,kindIn sc x≠some .free
theorem yb {x:Str} {v:Value} {r:List (Str × Value)} (h:x∉r.map (·.1)):r.lookup x=none:=by
 cases e:r.lookup x with
 | none=>rfl
 | some u=>exact absurd (List.mem_map_of_mem (f:=(·.1)) (mem_of_lookup e)) h
theorem vg {kindOf:Str->Option NameKind} {x:Str} (binds:List (Str × Value)):∀ (m:Str->Option Value),(binds.map (·.1)).Nodup->bindL kindOf binds m x=if kindOf x=some .local then ((binds.lookup x).or (m x)) else m x:=by
 induction binds with
 | nil=>intro m _;exact (ite_self _).symm
 | cons b r ih =>
   obtain ⟨n,v⟩:=b
   intro m hn
   obtain ⟨hn1,hn2⟩:=List.nodup_cons.mp hn
   refine (ih _ hn2).trans ?_
   rw [List.lookup_cons]
   by_cases hx:x=n
   ·subst hx
    rw [yb (v:=v) hn1]
    by_cases hk:kindOf x=some .local<;>simp [hk]
   ·rw [beq_eq_false_iff_ne.mpr hx]
    by_cases hk:kindOf n=some .local<;>simp [hk,hx]
theorem vd {kindOf:Str->Option NameKind} {x:Str} (binds:List (Str × Value)):∀ (m:Str->Option Value),(binds.map (·.1)).Nodup->bindC kindOf binds m x=if kindOf x=some .local then m x else ((binds.lookup x).or (m x)):=by
 induction binds with
 | nil=>intro m _;exact (ite_self _).symm
 | cons b r ih =>
   obtain ⟨n,v⟩:=b
   intro m hn
   obtain ⟨hn1,hn2⟩:=List.nodup_cons.mp hn
   refine (ih _ hn2).trans ?_
   rw [List.lookup_cons]
   by_cases hx:x=n
   ·subst hx
    rw [yb (v:=v) hn1]
    by_cases hk:kindOf x=some .local<;>simp [hk]
   ·rw [beq_eq_false_iff_ne.mpr hx]
    by_cases hk:kindOf n=some .local<;>simp [hk,hx]
theorem mO {C:Cx} {X:Wld} {n:Nat} {h:Heap} {x:Str} {v:V} {ps:List Str}:∀ {vs:List V} {as:List Value} {ρ:Loc},ps.Nodup->vs.length=ps.length->VsRel C X n h vs as->get (bg ρ (ps.map nm) vs) (nm x)=some v->(get ρ (nm x)=some v/\x∉ps)\/∃ a,(ps.zip as).lookup x=some a/\VRel C X n h v a:=by
 induction ps with
 | nil=>intro vs as ρ _ hl _ e;cases vs with
   | nil=>exact .inl ⟨e,List.not_mem_nil⟩
   | cons _ _=>cases hl
 | cons p ps ih =>
   intro vs as ρ hn hl r e
   cases vs with
   | nil=>cases hl
   | cons v' vs =>
     obtain ⟨a,q,rfl,r1,r2⟩:=r.inv_cons
     obtain ⟨hn1,hn2⟩:=List.nodup_cons.mp hn
     simp only [List.zip_cons_cons,List.lookup_cons]
     by_cases hx:x=p
     ·subst hx
      rw [beq_self_eq_true]
      rcases ih (ρ:=put ρ (nm x) v') hn2 (Nat.succ.inj hl) r2 e with ⟨e1,_⟩ | ⟨b,e1,_⟩
      ·rw [cg,if_pos rfl] at e1
       exact .inr ⟨a,rfl,Option.some.inj e1▸r1⟩
      ·exact absurd (List.of_mem_zip (mem_of_lookup e1)).1 hn1
     ·rw [beq_eq_false_iff_ne.mpr hx]
      refine (ih (ρ:=put ρ (nm p) v') hn2 (Nat.succ.inj hl) r2 e).imp (fun h=>?_) id
      rw [cg,if_neg (fun q=>hx (f9 q))] at h
      exact ⟨h.1,fun q=>(List.mem_cons.mp q).elim hx h.2⟩
theorem yS {ps:List Str} {as:List Value} (h:as.length=ps.length):(ps.zip as).map (·.1)=ps:=List.map_fst_zip (Nat.le_of_eq h.symm)
noncomputable def FnOkC (C:Cx) (k:Nat) (f:Value) (vs:List V) (σ:Sto) (v:V) (σ':Sto):Prop :=
 ∀ (A:Around) (X:Wld) (s:Shared) (as:List Value),Room k A->SRel C σ X s->VsRel C X σ.next s.heap vs as ->
   ∀ (R:Result->Shared->Prop),(∀ a X' s',SRel C σ' X' s'->Evo C NoP σ X s σ' X' s'->VRel C X' σ'.next s'.heap v a->R (.ok (.ret a)) s') ->
     codeAny (model C.prog C.w) A (.call f ⟨as,[]⟩) R s
theorem FnOkC.fn {C:Cx} {k:Nat} {f:Value} {vs:List V} {σ:Sto} {v:V} {σ':Sto} (h:FnOkC C k f vs σ v σ'):FnOk C k f vs σ v σ' :=
 fun A X s as rm S r Q E hQ=>wpAny_call (h A X s as rm S r _ hQ)
noncomputable def CW (C:Cx) (a:Addr) (env:Env):Prop:=∃ o fd,C.base.get? a=some o/\o.data=.func fd/\env.code=fd.code/\env.qual=fd.qualname ++ ".<locals>."
noncomputable def Dq:Flow->Value
 | .ret v=>v
 | _=>.none
theorem sV {C:Cx} (H:COk C) {k:Nat} {σ:Sto} {a:Addr} {ps:List Str} {sc:Scope} {body:List Stmt} {vs:List V} (hf:sd C a ps sc body) (hl:vs.length=ps.length) {A:Around} {X:Wld} {s:Shared} {as:List Value} {R0:Result->Shared->Prop}
 (rm:Room (k+1) A) (S:SRel C σ X s) (r:VsRel C X σ.next s.heap vs as)
 (hx:∀ (A:Around) (env:Env) (s1:Shared),CW C a env->Room k A->Grow s s1->(∀ b,Pl env b->s.heap.objs.size<=b)->Rel C env sc (bg [] (ps.map nm) vs) σ X s1->∀ (Q:Flow->Shared->Prop) (E:Value->Shared->Prop),
   (∀ g s',R0 (.ok (.ret (Dq g))) s'->Q g s')->wpAny (model C.prog C.w) A (execs body env) Q E s1):codeAny (model C.prog C.w) A (.call (.ref a) ⟨as,[]⟩) R0 s:=by
 obtain ⟨⟨o,fd,c,ho,hat,hd,hb,rfl,hclo,hgl,hbt,hcode,hct,hcr,hbind⟩,hkind,hco,hgen,hnd,hown,hpnd,hnofree⟩:=hf
 have hal:as.length=ps.length:=by rw [r.length];exact hl
 have hcr':s.heap.CodeRec fd.code fd.qualname:=by
  obtain ⟨a1,o1,v1,t1,e1,e2,e3⟩:=hcr
  exact ⟨a1,o1,v1,t1,e1,S.base _ _ e2 (by rw [hcode] at e1;cases e1;exact hct),e3⟩
 have CS:=lW fd.scope.names (s.heap.push { cls:=.type "frame",data:=.dict #[] }) [] hnd
 have hsz:(s.heap.push { cls:=.type "frame",data:=.dict #[] }).objs.size=s.heap.objs.size+1:=Heap.size_push ..
 have hcells:cellsFrom (s.heap.push { cls:=.type "frame",data:=.dict #[] }).objs.size fd.scope.names []=cellsFrom (s.heap.objs.size+1) fd.scope.names []:=by rw [hsz]
 refine (codeAny_call_cells (binds:=ps.zip as) (by have:=rm.depth;show A.depth<1000;lia -abstractProof) (S.base _ _ ho hat) hd (S.nolimit H) hcr' hb (hbind as hal) hclo (fun y hy=>?_) (fun s₁ IC=>?_) hco hgen hkind)
 ·have hy1:y.1∈ps:=(List.of_mem_zip (a:=y.1) (b:=y.2) hy).1
  rcases o9 (hown y.1 hy1) with q | q
  ·exact .inl q
  ·obtain ⟨c',e1,_⟩:=CS.new y.1 q
   exact .inr ⟨q,by rw [<-hcells,e1];rfl⟩
 ·obtain ⟨⟨hsame,hns,hkeep,hfresh⟩,hcell,hapart,habove⟩:=IC
  obtain ⟨h₁,tk,rfl⟩:=hsame
  let env:=callEnvC fd s.heap.objs.size a
  have hLlt:s.heap.objs.size<h₁.objs.size:=by
   obtain ⟨o,_,_,g,_⟩:=hns
   exact Heap.lt_size g
  have G:Grow s { s with heap:=h₁,toks:=tk }:=⟨hkeep,Nat.le_of_lt hLlt,rfl,rfl⟩
  obtain ⟨S1,e1⟩:=S.grow0 G
  have r1:VsRel C X σ.next h₁ vs as:=e1.rels S (fun _ h=>h.elim) r
  have hkO:∀ y,env.kindOf y=kindIn fd.scope y:=fun y=>rfl
  have hcl:env.cells=cellsFrom (s.heap.objs.size+1) fd.scope.names []:=rfl
  have hkeys:((ps.zip as).map (·.1)).Nodup:=by rw [yS hal];exact hpnd
  have cellLk:∀ y c,env.cells.lookup y=some c->kindIn fd.scope y=some .cell:=fun y c e=>by
   by_cases hk:fd.scope.names.lookup y=some .cell
   ·exact hk
   ·have:=CS.old y hk
    rw [hcells,<-hcl,e] at this
    cases this
  have F:Frm C env fd.scope (bg [] (ps.map nm) vs) X σ.next h₁:=by
   refine ⟨hkind,fun y hy=>hy,fun y hy=>hy,fun y hy=>.inl hy,fun y hy=>hy,hgl,hbt,⟨_,hns,fun y v e ky=>?_⟩,fun y hy=>?_,fun y v e ky=>?_,fun y c e=>⟨_,hcell y c e⟩,fun y z c e e'=>?_,fun y c e=>Nat.ne_of_gt (habove y c (mem_of_lookup e))⟩
   ·rw [<-fk y] at e
    rcases mO hpnd hl r1 e with ⟨h,_⟩ | ⟨a',h1,h2⟩
    ·cases h
    ·refine ⟨a',?_,h2⟩
     rw [vg _ _ hkeys,if_pos (show env.kindOf (ao y)=some .local from ky),h1]
     rfl
   ·rcases hy with hy | hy
    ·obtain ⟨c',e1,_⟩:=CS.new y hy
     exact ⟨c',by rw [hcl,<-hcells];exact e1⟩
    ·exact absurd hy (hnofree y)
   ·rw [<-fk y] at e
    rcases mO hpnd hl r1 e with ⟨h,_⟩ | ⟨a',h1,h2⟩
    ·cases h
    ·rcases ky with ky | ky
     ·obtain ⟨c',q1,_⟩:=CS.new (ao y) ky
      rw [hcells,<-hcl] at q1
      refine ⟨c',a',q1,?_,h2⟩
      have:=hcell _ _ q1
      rw [vd _ _ hkeys,if_neg (by rw [show env.kindOf (ao y)=some .cell from ky];decide),h1] at this
      exact this
     ·exfalso
      have:ao y∈ps:=(List.of_mem_zip (mem_of_lookup h1)).1
      have:=hown _ this
      rw [ky] at this
      cases this
   ·exact name_of_addr hapart (mem_of_lookup e) (mem_of_lookup e')
  have plge:∀ b,Pl env b->s.heap.objs.size<=b:=fun b p=>by
   rcases p with p | ⟨y,e⟩
   ·exact Nat.le_of_eq p.symm
   ·exact Nat.le_of_lt (habove y b (mem_of_lookup e))
  have zlt:∀ b,X.Z b->b<s.heap.objs.size:=fun b z=>(S.zl b z).elim fun _ g=>Heap.lt_size g
  have wlt:∀ b,Wr C σ X b->b<s.heap.objs.size:=fun b w=>(S.wl b w).elim fun _ g=>Heap.lt_size g
  have R1:Rel C env fd.scope (bg [] (ps.map nm) vs) σ X { s with heap:=h₁,toks:=tk } :=
   ⟨S1,F,fun b p z=>Nat.lt_irrefl _ (Nat.lt_of_lt_of_le (zlt b z) (plge b p)),fun b p w=>Nat.lt_irrefl _ (Nat.lt_of_lt_of_le (wlt b w) (plge b p))⟩
  have rm':Room k (A.deeper env):=⟨by have:=rm.depth;show A.depth+1+k<=900;lia -abstractProof,by have:=rm.units;show A.units+3+20*k<=9000;lia -abstractProof,rm.handled⟩
  exact hx (A.deeper env) env _ ⟨o,fd,ho,hd,rfl,rfl⟩ rm' G plge R1 _ _ fun g s' h=>by cases g<;>exact h
theorem zR {C:Cx} (H:COk C) {k:Nat} {σ σ':Sto} {a:Addr} {ps:List Str} {sc:Scope} {body:List Stmt} {body':List St} {vs:List V} {f:Fl} {ρ':Loc} {n0:Nat} (hf:sd C a ps sc body) (he:mapO (bT n0 sc) body=some body') (hl:vs.length=ps.length)
 (hx:ExL C k body' (bg [] (ps.map nm) vs) σ f ρ' σ'):FnOkC C (k+1) (.ref a) vs σ (yr f) σ' :=
 fun A X s as rm S r R0 hQ=>sV H hf hl rm S r fun A' env s1 _ rm' G pl R Q E hq=>hx _ _ _ he A' env X s1 rm' R Q E fun g X' s' R' v fr=>hq g s' (by
  have v3:=(S.grow0 G).2.comp (P:=NoP) v (fun _ h=>h) fun b hb p=>Nat.lt_irrefl _ (Nat.lt_of_lt_of_le hb (pl b p))
  cases f<;>cases g<;>first
   | exact fr.elim
   | exact hQ _ X' s' R'.S v3 fr
   | exact hQ _ X' s' R'.S v3 (Eq.refl _))
mutual
noncomputable def below (n:Nat):V->Prop
 | .loc l=>l<n
 | .tup vs=>belows n vs
 | .list vs=>belows n vs
 | .dict _ vs=>belows n vs
 | _=>True
noncomputable def belows (n:Nat):List V->Prop
 | []=>True
 | v::vs=>below n v/\belows n vs
end
theorem VsRel.belows {C:Cx} {X:Wld} {n:Nat} {h:Heap} {vs:List V}:∀ {as:List Value},VsRel C X n h vs as->Mine.belows n vs:=fun {as} =>
 V.rec_1 (motive_1:=fun v=>∀ a,VRel C X n h v a->Mine.below n v) (motive_2:=fun vs=>∀ as,VsRel C X n h vs as->Mine.belows n vs)
  (fun _ _=>trivial) (fun _ _ _=>trivial) (fun _ _ _=>trivial) (fun _ _ _=>trivial) (fun _ _ _=>trivial)
  (fun _ ih _ r=>by obtain ⟨_,_,_,_,_,_,q⟩:=r;exact ih _ q) (fun _ ih _ r=>by obtain ⟨_,_,_,_,_,_,q⟩:=r;exact ih _ q) (fun _ _ ih _ r=>by obtain ⟨_,_,_,_,_,_,q⟩:=r;exact ih _ q)
  (fun _ _ _ _=>trivial) (fun _ _ r=>r.1) (fun _ _ _=>trivial) (fun _ _ _=>trivial) (fun _ _ _=>trivial) (fun _ _=>trivial)
  (fun _ _ i1 i2 _ r=>by obtain ⟨a,q,_,r1,r2⟩:=r;exact ⟨i1 _ r1,i2 _ r2⟩) vs as
theorem VsRel.shrink {C:Cx} {X:Wld} {n n':Nat} {h:Heap} {vs:List V}:∀ {as:List Value},VsRel C X n h vs as->Mine.belows n' vs->VsRel C X n' h vs as:=fun {as} =>
 V.rec_1 (motive_1:=fun v=>∀ a,VRel C X n h v a->Mine.below n' v->VRel C X n' h v a) (motive_2:=fun vs=>∀ as,VsRel C X n h vs as->Mine.belows n' vs->VsRel C X n' h vs as)
  (fun _ r _=>r) (fun _ _ r _=>r) (fun _ _ r _=>r) (fun _ _ r _=>r) (fun _ _ r _=>r)
  (fun _ ih _ r b=>r.imp fun _ r=>r.imp fun _ r=>r.imp fun _ r=>⟨r.1,r.2.1,r.2.2.1,ih _ r.2.2.2 b⟩)
  (fun _ ih _ r b=>r.imp fun _ r=>r.imp fun _ r=>r.imp fun _ r=>⟨r.1,r.2.1,r.2.2.1,ih _ r.2.2.2 b⟩)
  (fun _ _ ih _ r b=>r.imp fun _ r=>r.imp fun _ r=>⟨r.1,r.2.1,r.2.2.1,r.2.2.2.1,ih _ r.2.2.2.2 b⟩)
  (fun _ _ _ r _=>r) (fun _ _ r b=>⟨b,r.2⟩) (fun _ _ r _=>r) (fun _ _ r _=>r) (fun _ _ r _=>r) (fun _ r _=>r)
  (fun _ _ i1 i2 _ r b=>r.imp fun _ r=>r.imp fun _ r=>⟨r.1,i1 _ r.2.1 b.1,i2 _ r.2.2 b.2⟩) vs as
theorem VRel.shrink {C:Cx} {X:Wld} {n n':Nat} {h:Heap} {v:V} {a:Value} (r:VRel C X n h v a) (b:Mine.below n' v):VRel C X n' h v a:=by
 have q:VsRel C X n h [v] [a]:=⟨a,[],rfl,r,rfl⟩
 obtain ⟨_,_,e,r,_⟩:=VsRel.shrink q (show Mine.belows n' [v] from ⟨b,trivial⟩)
 obtain ⟨rfl,_⟩:=List.cons.inj e
 exact r
noncomputable def belowO (n:Nat):O->Prop
 | .list vs=>belows n vs
 | .liter vs=>belows n vs
 | .lexer a _ p=>a<n/\p<n
 | .citer l _=>l<n
end
section
open PySem PyProof.Rows
theorem below.mono {n m:Nat} {v:V} (h:n<=m):below n v->below m v :=
 V.rec (motive_1:=fun v=>below n v->below m v) (motive_2:=fun vs=>belows n vs->belows m vs)
  id (fun _=>id) (fun _=>id) (fun _=>id) (fun _=>id) (fun _ ih=>ih) (fun _ ih=>ih) (fun _ _ ih=>ih) (fun _ _=>id) (fun _ b=>Nat.lt_of_lt_of_le b h) (fun _=>id) (fun _=>id) (fun _=>id) id (fun _ _ i1 i2 b=>⟨i1 b.1,i2 b.2⟩) v
theorem belows.mono {n m:Nat} {vs:List V} (h:n<=m) (b:belows n vs):belows m vs:=below.mono (v:=.tup vs) h b
theorem belowO.mono {n m:Nat} {o:O} (h:n<=m) (b:belowO n o):belowO m o:=by
 cases o with
 | list vs=>exact belows.mono h b
 | liter vs=>exact belows.mono h b
 | lexer a i p=>exact ⟨Nat.lt_of_lt_of_le b.1 h,Nat.lt_of_lt_of_le b.2 h⟩
 | citer l lv=>exact Nat.lt_of_lt_of_le b h
theorem ORel.below {C X n h l o} (r:ORel C X n h l o):belowO n o:=by
 cases o with
 | list vs=>exact r.elim fun _ r=>r.elim fun _ r=>r.2.belows
 | liter vs=>exact r.elim fun _ r=>r.elim fun _ r=>r.elim fun _ r=>r.elim fun _ r=>r.2.2.2.1.belows
 | lexer a i p=>exact ⟨r.hlf,r.hpb⟩
 | citer l lv=>cases lv<;>exact r.1
theorem ORel.shrink {C X n n' h l o} (r:ORel C X n h l o) (b:belowO n' o):ORel C X n' h l o:=by
 cases o with
 | list vs=>exact r.imp fun _ r=>r.imp fun _ r=>⟨r.1,r.2.shrink b⟩
 | liter vs=>exact r.imp fun _ r=>r.imp fun _ r=>r.imp fun _ r=>r.imp fun _ r=>⟨r.1,r.2.1,r.2.2.1,r.2.2.2.1.shrink b,r.2.2.2.2⟩
 | lexer a i p=>exact ⟨b.1,b.2,r.zi,r.inst,r.dict⟩
 | citer l lv=>cases lv<;>exact ⟨b,r.2⟩
structure Sub (σ σ' σ'':Sto):Prop where
 h1:σ.next<=σ''.next
 h2:σ''.next<=σ'.next
 sub:∀ l o,σ''.get l=some o->σ'.get l=some o/\(σ.get l=some o\/(l<σ''.next/\belowO σ''.next o))
theorem SRel.drop {C σ X s σ' X' s' σ''} {P:Addr->Prop} (S:SRel C σ X s) (S':SRel C σ' X' s') (e:Evo C P σ X s σ' X' s') (b:Sub σ σ' σ''):SRel C σ'' X' s'/\Evo C P σ X s σ'' X' s':=by
 have wr:∀ b',Wr C σ'' X' b'->Wr C σ' X' b':=fun b' w=>w.imp id fun ⟨l,o,g,m⟩=>⟨l,o,(b.sub l o g).1,m⟩
 refine ⟨⟨S'.base,S'.tab,S'.zb,S'.zl,S'.os,S'.gens,fun l o g=>?_,fun l o g=>?_,fun l l' o o' b' g g' m m'=>S'.apart l l' o o' b' (b.sub l o g).1 (b.sub l' o' g').1 m m',fun b' w=>S'.zw b' (wr b' w),fun b' w=>S'.wl b' (wr b' w)⟩,
  ⟨e.size,e.keep,e.zm,e.zn,fun b' w=>e.wn b' (wr b' w),b.h1,e.ph⟩⟩
 ·rcases (b.sub l o g).2 with q | q
  ·exact Nat.lt_of_lt_of_le (S.lt l o q) b.h1
  ·exact q.1
 ·refine (S'.obj l o (b.sub l o g).1).shrink ?_
  rcases (b.sub l o g).2 with q | q
  ·exact (S.obj l o q).below.mono b.h1
  ·exact q.2
theorem FnOk.drop {C k f vs σ v σ' σ''} (h:FnOk C k f vs σ v σ') (b:Sub σ σ' σ'') (hb:below σ''.next v):FnOk C k f vs σ v σ'':=by
 intro A X s as rm S r Q E hQ
 refine h A X s as rm S r Q E fun a X' s' S' e' r'=>?_
 obtain ⟨S2,e2⟩:=S.drop S' e' b
 exact hQ a X' s' S2 e2 (r'.shrink hb)
theorem Sub.old {σ σ':Sto} (h:σ.next<=σ'.next) (g:∀ l o,σ.get l=some o->σ'.get l=some o):Sub σ σ' σ:=⟨Nat.le_refl _,h,fun l o e=>⟨g l o e,.inl e⟩⟩
mutual
inductive Frz (l:Nat) (vs:List V):V->V->Prop
 | refl (v):Frz l vs v v
 | hit:Frz l vs (.loc l) (.list vs)
 | list {us us'} (h:yU l vs us us'):Frz l vs (.list us) (.list us')
inductive yU (l:Nat) (vs:List V):List V->List V->Prop
 | nil:yU l vs [] []
 | cons {u u' us us'} (h:Frz l vs u u') (t:yU l vs us us'):yU l vs (u::us) (u'::us')
end
section
variable {C:Cx} {k:Nat} {ρ ρ':Loc} {σ σ':Sto}
theorem SRel.tab_foot {X:Wld} {s:Shared} (S:SRel C σ X s) {l:Nat} {o:O} (e:σ.get l=some o):C.tab∉foot X l o:=fun m=>by
 obtain ⟨ps,g,_⟩:=S.tab
 have r:=S.obj l o e
 have key:∀ b,C.tab∈[b]->∀ ob,s.heap.get? b=some ob->ob=PySem.W.tabObj ps:=fun b m ob g'=>by rw [<-List.mem_singleton.mp m,g] at g';exact (Option.some.inj g').symm
 cases o with
 | list vs=>obtain ⟨items,k,g',_⟩:=r;exact nomatch key _ m _ g'
 | liter vs=>obtain ⟨p,i,items,k,⟨o',g',h1,h2⟩,_⟩:=r;rw [key _ m _ g'] at h1;exact nomatch h1
 | lexer lf line pb=>obtain ⟨d,f,g',_⟩:=r.dict;exact nomatch key _ m _ g'
 | citer lx b=>cases b with
   | true=>obtain ⟨_,bm,t,g',_⟩:=r;exact nomatch key _ m _ g'
   | false=>exact nomatch key _ m _ r.2
theorem SRel.frz {X:Wld} {s:Shared} {l:Nat} {vs:List V} (S:SRel C σ X s) (hl:σ.get l=some (.list vs)):SRel C (σ.del l) (X.more (·=X.φ l)) s/\Evo C NoP σ X s (σ.del l) (X.more (·=X.φ l)) s:=by
 have gd:∀ l' o,(σ.del l).get l'=some o->σ.get l'=some o/\l'≠l:=fun l' o e=>by
  dsimp only [Sto.del] at e
  split at e
  ·cases e
  ·exact ⟨e,by assumption⟩
 have wr:∀ b,Wr C (σ.del l) (X.more (·=X.φ l)) b->Wr C σ X b/\b≠X.φ l:=fun b w=>by
  rcases Wr_more.mp w with w | ⟨l',o,g,m⟩
  ·exact ⟨.inl w,fun q=>S.tab_foot hl (List.mem_singleton.mpr (w.symm.trans q))⟩
  ·obtain ⟨g,hn⟩:=gd _ _ g
   exact ⟨.inr ⟨l',o,g,m⟩,fun q=>hn (S.apart _ _ _ _ _ g hl m (List.mem_singleton.mpr q))⟩
 have wl:Wr C σ X (X.φ l):=.inr ⟨l,_,hl,List.mem_singleton.mpr rfl⟩
 refine ⟨⟨S.base,(S.tab.imp fun ps t=>⟨t.1,t.2.mono (fun _ _ _ e=>e) fun _ z=>.inl z⟩),fun b o e n=>.inl (S.zb b o e n),fun b z=>z.elim (S.zl b) fun q=>by subst q;exact S.wl _ wl,S.os,S.gens,fun l' o e=>S.lt l' o (gd _ _ e).1,
  fun l' o e=>(S.obj l' o (gd _ _ e).1).mono (fun _ _ _ e=>e) (fun _ _ _ e=>e) (fun _ z=>.inl z) (Nat.le_refl _) (fun _ _=>⟨rfl,rfl,rfl⟩) (S.lt l' o (gd _ _ e).1),
  fun l1 l2 o o' b e e' m m'=>S.apart l1 l2 o o' b (gd _ _ e).1 (gd _ _ e').1 m m',fun b w z=>z.elim (S.zw b (wr b w).1) (wr b w).2,fun b w=>S.wl b (wr b w).1⟩,
  ⟨Nat.le_refl _,fun _ _ e _ _=>e,fun _ z=>.inl z,fun b z=>z.imp id fun q=>.inr (by subst q;exact wl),fun b w=>.inl (wr b w).1,Nat.le_refl _,fun _ _=>⟨rfl,rfl,rfl⟩⟩⟩
theorem ul {X:Wld} {s:Shared} {l:Nat} {vs:List V} (S:SRel C σ X s) (hl:σ.get l=some (.list vs)) {v v':V} {a:Value} (f:Frz l vs v v'):VRel C X σ.next s.heap v a->VRel C (X.more (·=X.φ l)) σ.next s.heap v' a :=
 Frz.rec (motive_1:=fun v v' _=>∀ a,VRel C X σ.next s.heap v a->VRel C (X.more (·=X.φ l)) σ.next s.heap v' a) (motive_2:=fun us us' _=>∀ as,VsRel C X σ.next s.heap us as->VsRel C (X.more (·=X.φ l)) σ.next s.heap us' as)
  (fun _ _ r=>r.mono (X':=X.more (·=X.φ l)) (fun _ _ _ e=>e) (fun _ z=>Or.inl z) (Nat.le_refl _) fun _ _=>rfl)
  (fun _ r=>by
    obtain ⟨_,rfl⟩:=r
    exact (S.obj l _ hl).elim fun items o=>o.elim fun k o=>⟨_,items,k,rfl,.inr rfl,o.1,o.2.mono (X':=X.more (·=X.φ l)) (fun _ _ _ e=>e) (fun _ z=>Or.inl z) (Nat.le_refl _) fun _ _=>rfl⟩)
  (fun _ ih _ r=>r.imp fun _ r=>r.imp fun _ r=>r.imp fun _ r=>⟨r.1,.inl r.2.1,r.2.2.1,ih _ r.2.2.2⟩)
  (fun _ r=>by rw [r.inv_nil];exact .nil)
  (fun _ _ i1 i2 _ r=>r.imp fun _ r=>r.imp fun _ r=>⟨r.1,i1 _ r.2.1,i2 _ r.2.2⟩) f a
theorem ExL.frz {ts:List St} {f:Fl} {l:Nat} {vs:List V} {ρ1 ρ2:Loc} {σ2:Sto} (hl:σ.get l=some (.list vs)) (hρ:∀ x v',get ρ1 x=some v'->∃ v,get ρ x=some v/\Frz l vs v v') (h:ExL C k ts ρ1 (σ.del l) f ρ2 σ2):ExL C k ts ρ σ f ρ2 σ2:=by
 intro n sc ts he A env X s rm R Q E hQ
 obtain ⟨S1,e1⟩:=R.S.frz hl
 have R1:Rel C env sc ρ1 (σ.del l) (X.more (·=X.φ l)) s:=by
  have R0:=R.evo0 S1 e1
  refine ⟨S1,⟨R0.F.kind,R0.F.kl,R0.F.kc,R0.F.kf,R0.F.kg,R0.F.gl,R0.F.bt,?_,R0.F.cl,fun x v' e kd=>?_,R0.F.live,R0.F.apart,R0.F.ne⟩,R0.pz,R0.pw⟩
  ·obtain ⟨m,hm,q⟩:=R.F.ns
   refine ⟨m,hm,fun x v' e kd=>?_⟩
   obtain ⟨v,e2,hf⟩:=hρ x v' e
   obtain ⟨a,e3,r⟩:=q x v e2 kd
   exact ⟨a,e3,ul R.S hl hf r⟩
  ·obtain ⟨v,e2,hf⟩:=hρ x v' e
   obtain ⟨c,a,e3,hc,r⟩:=R.F.cv x v e2 kd
   exact ⟨c,a,e3,hc,ul R.S hl hf r⟩
 exact h _ _ _ he A env _ s rm R1 Q E fun g X' s' R' e' fr=>hQ g X' s' R' (e1.of0.trans e') fr
noncomputable def Wld.add (X:Wld) (l:Nat) (a b:Addr) (N:Addr->Prop):Wld:=⟨fun i=>if i=l then a else X.φ i,fun i=>if i=l then b else X.ψ i,X.χ,fun c=>X.Z c\/N c⟩
theorem SRel.newSeal {X X':Wld} {s s':Shared} {P:Addr->Prop} {o:O} (S:SRel C σ' X' s') (e:Evo C P σ X s σ' X' s') (a b:Addr) (N:Addr->Prop) (hN:∀ c,N c->s.heap.objs.size<=c/\(∃ ob,s'.heap.get? c=some ob)/\¬ Wr C σ' X' c)
 (hf:∀ c∈foot (X'.add σ'.next a b N) σ'.next o,s.heap.objs.size<=c/\(∃ ob,s'.heap.get? c=some ob)/\¬ N c/\¬ X'.Z c/\¬ Wr C σ' X' c) (hO:ORel C (X'.add σ'.next a b N) (σ'.next+1) s'.heap σ'.next o) :
 SRel C (σ'.new o) (X'.add σ'.next a b N) s'/\Evo C P σ X s (σ'.new o) (X'.add σ'.next a b N) s':=by
 have hph:∀ l,l<σ'.next->(X'.add σ'.next a b N).φ l=X'.φ l/\(X'.add σ'.next a b N).ψ l=X'.ψ l/\(X'.add σ'.next a b N).χ l=X'.χ l:=fun l hl=>by simp [Wld.add,Nat.ne_of_lt hl]
 have hft:∀ l o',l<σ'.next->foot (X'.add σ'.next a b N) l o'=foot X' l o':=fun l o' hl=>by
  obtain ⟨q1,q2,_⟩:=hph l hl
  cases o'<;>simp [foot,q1,q2]
 have gn:∀ l o',(σ'.new o).get l=some o'->(l=σ'.next/\o'=o)\/(l<σ'.next/\σ'.get l=some o'):=fun l o' e=>by
  dsimp only [Sto.new] at e
  split at e
  ·cases e;exact .inl ⟨by assumption,rfl⟩
  ·exact .inr ⟨S.lt _ _ e,e⟩
 have wr:∀ c,Wr C (σ'.new o) (X'.add σ'.next a b N) c->Wr C σ' X' c\/c∈foot (X'.add σ'.next a b N) σ'.next o:=fun c w=>by
  rcases w with w | ⟨l,o',e,m⟩
  ·exact .inl (.inl w)
  ·rcases gn _ _ e with ⟨rfl,rfl⟩ | ⟨hl,e⟩
   ·exact .inr m
   ·rw [hft _ _ hl] at m;exact .inl (.inr ⟨l,o',e,m⟩)
 refine ⟨⟨S.base,S.tab.imp fun ps t=>⟨t.1,t.2.mono (fun _ _ _ e=>e) fun b z=>.inl z⟩,fun c ob e n=>.inl (S.zb c ob e n),fun c z=>z.elim (S.zl c) fun n=>(hN c n).2.1,S.os,S.gens,fun l o' e=>?_,fun l o' e=>?_,fun l l' o1 o2 c e e' m m'=>?_,fun c w z=>?_,fun c w=>?_⟩,
  ⟨e.size,e.keep,fun c z=>.inl (e.zm c z),fun c z=>z.elim (e.zn c) fun n=>.inr (.inl (hN c n).1),fun c w=>(wr c w).elim (e.wn c) fun m=>.inr (hf c m).1,Nat.le_trans e.nx (Nat.le_succ _),fun l hl=>?_⟩⟩
 ·show l<σ'.next+1
  rcases gn _ _ e with ⟨rfl,_⟩ | ⟨hl,_⟩<;>lia -abstractProof
 ·rcases gn _ _ e with ⟨rfl,rfl⟩ | ⟨hl,e⟩
  ·exact hO
  ·exact (S.obj l o' e).mono (fun _ _ _ e=>e) (fun _ _ _ e=>e) (fun b z=>.inl z) (Nat.le_succ _) hph hl
 ·rcases gn _ _ e with ⟨q1,q2⟩ | ⟨hl,e1⟩<;>rcases gn _ _ e' with ⟨q3,q4⟩ | ⟨hl',e2⟩
  ·rw [q1,q3]
  ·rw [hft _ _ hl'] at m'
   rw [q1,q2] at m
   exact absurd (.inr ⟨_,_,e2,m'⟩) (hf c m).2.2.2.2
  ·rw [hft _ _ hl] at m
   rw [q3,q4] at m'
   exact absurd (.inr ⟨_,_,e1,m⟩) (hf c m').2.2.2.2
  ·rw [hft _ _ hl] at m;rw [hft _ _ hl'] at m';exact S.apart _ _ _ _ c e1 e2 m m'
 ·rcases wr c w with w | m<;>rcases z with z | n
  ·exact S.zw c w z
  ·exact (hN c n).2.2 w
  ·exact (hf c m).2.2.2.1 z
  ·exact (hf c m).2.2.1 n
 ·rcases wr c w with w | m
  ·exact S.wl c w
  ·exact (hf c m).2.1
 ·obtain ⟨a1,a2,a3⟩:=hph l (Nat.lt_of_lt_of_le hl e.nx)
  obtain ⟨b1,b2,b3⟩:=e.ph l hl
  exact ⟨a1.trans b1,a2.trans b2,a3.trans b3⟩
theorem SRel.newO {X:Wld} {s s':Shared} {o:O} (S:SRel C σ X s) (G:Grow s s') (a b:Addr) (N:Addr->Prop) (hN:∀ c,N c->s.heap.objs.size<=c/\∃ ob,s'.heap.get? c=some ob)
 (hf:∀ c∈foot (X.add σ.next a b N) σ.next o,s.heap.objs.size<=c/\(∃ ob,s'.heap.get? c=some ob)/\¬ N c) (hO:ORel C (X.add σ.next a b N) (σ.next+1) s'.heap σ.next o) :
 SRel C (σ.new o) (X.add σ.next a b N) s'/\Evo C NoP σ X s (σ.new o) (X.add σ.next a b N) s':=by
 obtain ⟨S',e⟩:=S.grow0 G
 have lt:∀ {c ob},s.heap.get? c=some ob->¬ s.heap.objs.size<=c:=fun g=>Nat.not_le.mpr (Heap.lt_size g)
 exact S'.newSeal e a b N (fun c n=>⟨(hN c n).1,(hN c n).2,fun w=>(S.wl c w).elim fun _ g=>lt g (hN c n).1⟩)
  (fun c m=>⟨(hf c m).1,(hf c m).2.1,(hf c m).2.2,fun z=>(S.zl c z).elim fun _ g=>lt g (hf c m).1,fun w=>(S.wl c w).elim fun _ g=>lt g (hf c m).1⟩) hO
theorem SRel.setO {X:Wld} {s s':Shared} {l:Nat} {o o':O} (S:SRel C σ X s) (hl:σ.get l=some o) (hf:foot X l o'=foot X l o) (keep:∀ b ob,b∉foot X l o->s.heap.get? b=some ob->s'.heap.get? b=some ob)
 (live:∀ b∈foot X l o,∃ ob,s'.heap.get? b=some ob) (size:s.heap.objs.size<=s'.heap.objs.size) (os:s'.os=s.os) (gens:s'.gens=s.gens) (hO:ORel C X σ.next s'.heap l o') :
 SRel C (σ.set l o') X s'/\Evo C NoP σ X s (σ.set l o') X s':=by
 have wl:∀ b∈foot X l o,Wr C σ X b:=fun b m=>.inr ⟨l,o,hl,m⟩
 have kz:∀ b ob,X.Z b->s.heap.get? b=some ob->s'.heap.get? b=some ob:=fun b ob z e=>keep b ob (fun m=>S.zw b (wl b m) z) e
 have gn:∀ l' o1,(σ.set l o').get l'=some o1->(l'=l/\o1=o')\/(l'≠l/\σ.get l'=some o1):=fun l' o1 e=>by
  dsimp only [Sto.set] at e
  split at e
  ·cases e;exact .inl ⟨by assumption,rfl⟩
  ·exact .inr ⟨by assumption,e⟩
 have wr:∀ b,Wr C (σ.set l o') X b->Wr C σ X b:=fun b w=>by
  rcases w with w | ⟨l',o1,e,m⟩
  ·exact .inl w
  ·rcases gn _ _ e with ⟨rfl,rfl⟩ | ⟨_,e⟩
   ·rw [hf] at m;exact wl b m
   ·exact .inr ⟨l',o1,e,m⟩
 refine ⟨⟨fun b ob e n=>kz _ _ (S.zb b ob e n) (S.base b ob e n),S.tab.imp fun ps t=>⟨keep _ _ (S.tab_foot hl) t.1,t.2.mono kz fun b z=>z⟩,S.zb,fun b z=>(S.zl b z).imp fun ob e=>kz _ _ z e,os.trans S.os,gens.trans S.gens,fun l' o1 e=>?_,fun l' o1 e=>?_,fun l1 l2 o1 o2 b e e' m m'=>?_,fun b w=>S.zw b (wr b w),fun b w=>?_⟩,
  ⟨size,fun b ob e nw _=>keep b ob (fun m=>nw (wl b m)) e,fun _ z=>z,fun _ z=>.inl z,fun b w=>.inl (wr b w),Nat.le_refl _,fun _ _=>⟨rfl,rfl,rfl⟩⟩⟩
 ·rcases gn _ _ e with ⟨rfl,rfl⟩ | ⟨_,e⟩
  ·exact S.lt _ _ hl
  ·exact S.lt _ _ e
 ·rcases gn _ _ e with ⟨rfl,rfl⟩ | ⟨hn,e⟩
  ·exact hO
  ·exact (S.obj l' o1 e).mono kz (fun b ob m g=>keep b ob (fun m2=>hn (S.apart _ _ _ _ b e hl m m2)) g) (fun _ z=>z) (Nat.le_refl _) (fun _ _=>⟨rfl,rfl,rfl⟩) (S.lt l' o1 e)
 ·rcases gn _ _ e with ⟨q1,q2⟩ | ⟨h1,e1⟩<;>rcases gn _ _ e' with ⟨q3,q4⟩ | ⟨h2,e2⟩
  ·rw [q1,q3]
  ·rw [q1,q2,hf] at m;rw [q1];exact S.apart _ _ _ _ b hl e2 m m'
  ·rw [q3,q4,hf] at m';rw [q3];exact S.apart _ _ _ _ b e1 hl m m'
  ·exact S.apart _ _ _ _ b e1 e2 m m'
 ·by_cases m:b∈foot X l o
  ·exact live b m
  ·obtain ⟨ob,e⟩:=S.wl b (wr b w);exact ⟨ob,keep b ob m e⟩
end
end
section
open PySem PyProof.Rows
section
variable {C:Cx} {k:Nat} {ρ ρ':Loc} {σ σ' σ1:Sto}
theorem SRel.newLoc {A:Around} {X:Wld} {s:Shared} {as:List Value} {vs:List V} {Q:Value->Shared->Prop} {E:Value->Shared->Prop} (S:SRel C σ X s) (r:VsRel C X σ.next s.heap vs as) (hl:vs.length<=sizeLine)
 (hQ:∀ a X' s',SRel C (σ.new (.list vs)) X' s'->Evo C NoP σ X s (σ.new (.list vs)) X' s'->VRel C X' (σ.next+1) s'.heap (.loc σ.next) a->Q a s'):wpAny (model C.prog C.w) A (PySem.newList as) Q E s:=by
 have hlen:as.toArray.size<=sizeLine:=by rw [List.size_toArray,r.length];exact hl
 have hg:(s.heap.push (cW as.toArray 0)).get? s.heap.objs.size=some (cW as.toArray 0):=Heap.get?_push_size _ rfl
 have hφ:(X.add σ.next s.heap.objs.size 0 (fun _=>False)).φ σ.next=s.heap.objs.size:=by simp [Wld.add]
 obtain ⟨S',e⟩:=S.newO (o:=.list vs) (Grow.push (cW as.toArray 0)) s.heap.objs.size 0 (fun _=>False) (fun _ h=>h.elim)
  (fun c m=>by
    simp only [foot,List.mem_singleton] at m
    rw [hφ] at m
    subst m
    exact ⟨Nat.le_refl _,⟨_,hg⟩,fun h=>h⟩)
  (by
    refine ⟨_,0,by rw [hφ];exact hg,?_⟩
    refine (r.mono (fun b o _ e=>Heap.get?_push_of_some _ e) (fun _ z=>Or.inl z) (Nat.le_succ _) fun l hl=>?_)
    simp [Wld.add,Nat.ne_of_lt hl])
 refine wpAny_newObj_type (hQ _ _ _ S' e ?_) hlen
 exact ⟨Nat.lt_succ_self _,by rw [hφ]⟩
theorem jT {l:List Ex} {vs:List V} (h1:EvL C k l ρ σ vs σ1) (hl:vs.length<=sizeLine):EvE C k (.list l) ρ σ (.loc σ1.next) (σ1.new (.list vs)):=by
 intro n sc e h A env X s rm R Q E hQ
 cases erI h
 rename_i n es p e1
 refine List_ (h1 _ _ _ e1 A env X s _ rm R _ _ fun as X1 s1 R1 v1 r1=>?_)
 exact R1.S.newLoc r1 hl fun a X2 s2 S2 v2 r2=>hQ a X2 s2 (R1.evo0 S2 v2) (v1.trans v2.of0) r2
theorem SRel.turnList {X:Wld} {s:Shared} {l:Nat} {vs us:List V} {items its:Array Value} {kk k':Nat} {h':Heap} {t:Nat} (S:SRel C σ X s) (hl:σ.get l=some (.list vs)) (hg:s.heap.get? (X.φ l)=some (cW items kk)) (hs:Heap.SameBut (X.φ l) s.heap h')
 (hg':h'.get? (X.φ l)=some (cW its k')) (hr:VsRel C X σ.next s.heap us its.toList):SRel C (σ.set l (.list us)) X { s with heap:=h',toks:=t }/\Evo C NoP σ X s (σ.set l (.list us)) X { s with heap:=h',toks:=t }:=by
 have nz:¬ X.Z (X.φ l):=S.zw _ (.inr ⟨l,_,hl,by simp [foot]⟩)
 refine S.setO (o':=.list us) hl rfl (fun b ob nb e=>(hs.2 b (by exact List.ne_of_not_mem_cons nb)).trans e) (fun b m=>by simp only [foot,List.mem_singleton] at m;subst m;exact ⟨_,hg'⟩) (Nat.le_of_eq hs.1.symm) rfl rfl ?_
 exact ⟨its,k',hg',hr.mono (fun b o z e=>(hs.2 b (fun q=>nz (q▸z))).trans e) (fun _ z=>z) (Nat.le_refl _) fun _ _=>rfl⟩
theorem ny {l:Nat} {vs:List V} (hl:σ.get l=some (.list vs)):nD C (.loc l) σ "list":=by
 intro X s a S r
 obtain ⟨_,rfl⟩:=r
 obtain ⟨items,kk,g,q⟩:=S.obj l _ hl
 exact ⟨_,g,rfl⟩
theorem dG {l:Nat} {vs:List V} {name:Nm} {id:String} (hl:σ.get l=some (.list vs)) (slot:Slot "list" (ao name) id) (hty:typeOf (.builtin id)=pure (.type "method_descriptor")):wD C (.loc l) σ name (.builtin id):=by
 intro A X s a pl S r Q E hQ
 obtain ⟨_,rfl⟩:=r
 obtain ⟨items,kk,g,q⟩:=S.obj l _ hl
 exact getMethod_builtin ⟨_,g,rfl⟩ PySem.F.plainAttrs_list slot hty (fun a e=>by cases e;exact ⟨_,g,rfl⟩) hQ
theorem iT {l:Nat} {vs:List V} {v:V} (hl:σ.get l=some (.list vs)) (hz:vs.length<=sizeLine):FnOk C k (.builtin "list.append") [.loc l,v] σ .none (σ.set l (.list (vs++[v]))):=by
 intro A X s as rm S r Q E hQ
 obtain ⟨a,q,rfl,r1,r2⟩:=r.inv_cons
 obtain ⟨b,q,rfl,r3,r4⟩:=r2.inv_cons
 rw [r4.inv_nil]
 obtain ⟨_,rfl⟩:=r1
 obtain ⟨items,kk,g,q⟩:=S.obj l _ hl
 have hs:items.size<=sizeLine:=by rw [<-Array.length_toList,q.length];exact hz
 refine call_meets PySem.F.slot_list_append ⟨_,g,rfl⟩ PySem.F.entry_list_append (PySem.F.args_list_append_2 _ _) (PySem.list_append _ items kk b hs) ⟨g,?_⟩
 obtain ⟨S',e'⟩:=S.turnList (t:=s.toks) (us:=vs++[v]) hl g (Heap.SameBut.update ..) (PySem.IsL.update g fun x=>x.push b) (by rw [Array.toList_push];exact q.app (.cons r3 .nil))
 exact hQ _ X _ S' e' (by rfl)
theorem uh {l:Nat} {vs:List V} {v:V} (hl:σ.get l=some (.list (v::vs))) (hz:vs.length<sizeLine):FnOk C k (.builtin "list.pop") [.loc l,.int 0] σ v (σ.set l (.list vs)):=by
 intro A X s as rm S r Q E hQ
 obtain ⟨a,q,rfl,r1,r2⟩:=r.inv_cons
 obtain ⟨b,q,rfl,r3,r4⟩:=r2.inv_cons
 rw [r4.inv_nil]
 obtain ⟨_,rfl⟩:=r1
 obtain ⟨t,rfl⟩:=r3
 obtain ⟨items,kk,g,q⟩:=S.obj l _ hl
 obtain ⟨y,ys,hy,q1,q2⟩:=q.inv_cons
 obtain ⟨itl⟩:=items
 simp only at hy
 subst hy
 have hs:(y::ys).toArray.size<=sizeLine:=by rw [List.size_toArray,q.length];exact hz
 refine call_meets PySem.F.slot_list_pop ⟨_,g,rfl⟩ PySem.F.entry_list_pop (PySem.F.args_list_pop_2 _ _) (PySem.MeetsSeq.list_pop_at _ _ kk 0 t 0 y (by rfl) (by simp [seqIndex?]) (by rfl) hs) ⟨g,?_⟩
 obtain ⟨S',e'⟩:=S.turnList (t:=s.toks) (us:=vs) hl g (Heap.SameBut.update ..) (PySem.IsL.update g fun xs=>xs.eraseIdxIfInBounds 0) (by
  have:=PySem.W.kl_erase [] ys y
  simp only [List.nil_append,List.length_nil] at this
  rw [this]
  exact q2)
 exact hQ _ X _ S' e' (e'.rel S (fun _ h=>h.elim) q1)
theorem iP {l:Nat} {vs:List V} (hl:σ.get l=some (.list vs)) (hz:vs.length<2 ^ 63):Tru C (.loc l) σ (!vs.isEmpty):=by
 intro A X s a S r Q E hQ
 obtain ⟨_,rfl⟩:=r
 obtain ⟨items,kk,g,q⟩:=S.obj l _ hl
 have hn:items.size=vs.length:=by rw [<-Array.length_toList,q.length]
 have he:items.isEmpty=vs.isEmpty:=by
  rw [Array.isEmpty,hn]
  cases vs<;>rfl
 have:=wpAny_truthy_list (prog:=C.prog) (w:=C.w) (A:=A) (E:=E) (s:=s) (Q:=Q) (items:=items) ⟨_,g,rfl,kk,rfl⟩ (by lia -abstractProof) (by rw [he];exact hQ _)
 exact this
theorem lp {i:Int} {n j:Nat} (h:(0<=i/\i=j)\/(i<0/\i+n=j)) (hj:j<n):seqIndex? i n=some j:=by
 have key:∀ z:Int,z=(j:Int)->(if (decide (0<=z)&&decide (z<(n:Int)))=true then some z.toNat else none)=some j:=fun z hz=>by
  rw [hz,if_pos (Bool.and_eq_true_iff.mpr ⟨decide_eq_true (Int.natCast_nonneg j),decide_eq_true (Int.ofNat_lt.mpr hj)⟩),Int.toNat_natCast]
 rcases h with ⟨h0,h1⟩ | ⟨h0,h1⟩
 ·exact key _ (by rw [if_neg (Int.not_lt.mpr h0)];exact h1)
 ·exact key _ (by rw [if_pos h0];exact h1)
noncomputable def idx (vs:List V) (i:Int):Option V:=(seqIndex? i vs.length).bind fun j=>vs[j]?
theorem iE {A:Around} {X:Wld} {s:Shared} {p:Addr} {items:Array Value} {kk:Nat} {vs:List V} {v:V} {i:Int} {t:Tok} {Q:Value->Shared->Prop} {E:Value->Shared->Prop} (g:s.heap.get? p=some (cW items kk)) (q:VsRel C X σ.next s.heap vs items.toList)
 (hv:idx vs i=some v) (hlo:-2 ^ 63<=i) (hhi:i<2 ^ 63) (hQ:∀ a,VRel C X σ.next s.heap v a->Q a s):wpAny (model C.prog C.w) A (getItem (.ref p) (.int i t)) Q E s:=by
 obtain ⟨j,hj,hg⟩:=Option.bind_eq_some_iff.mp hv
 obtain ⟨a,ha,ra⟩:=q.get j hg
 have hn:items.size=vs.length:=by rw [<-Array.length_toList,q.length]
 have hx:items[j]?=some a:=by rw [<-Array.getElem?_toList];exact ha
 have hl:s.heap.IsList p items:=⟨_,g,rfl,kk,rfl⟩
 unfold seqIndex? at hj
 by_cases h0:i<0
 ·simp only [h0,if_true] at hj
  split at hj
  ·rename_i hc
   simp only [Bool.and_eq_true,decide_eq_true_eq] at hc
   cases hj
   exact wpAny_getItem_list_neg hl (by omega) (by rw [hn];lia -abstractProof) hlo (by rw [hn];exact hx) (hQ a ra)
  ·cases hj
 ·simp only [h0,if_false] at hj
  split at hj
  ·cases hj
   exact wpAny_getItem_list hl (by exact Iff.mp Int.not_lt h0) hhi hx (hQ a ra)
  ·cases hj
theorem ke {vs:List V} {v:V} {i:Int} (hv:idx vs i=some v) (hlo:-2 ^ 63<=i) (hhi:i<2 ^ 63):Op2 C k getItem (.list vs) (.int i) σ v σ:=by
 intro A X s a b rm S r1 r2 Q E hQ
 obtain ⟨p,items,kk,rfl,z,g,q⟩:=r1
 obtain ⟨t,rfl⟩:=r2
 exact iE g q hv hlo hhi fun a ra=>hQ a X s S .refl ra
theorem rf {l:Nat} {vs:List V} {v:V} {i:Int} (hl:σ.get l=some (.list vs)) (hv:idx vs i=some v) (hlo:-2 ^ 63<=i) (hhi:i<2 ^ 63):Op2 C k getItem (.loc l) (.int i) σ v σ:=by
 intro A X s a b rm S r1 r2 Q E hQ
 obtain ⟨_,rfl⟩:=r1
 obtain ⟨t,rfl⟩:=r2
 obtain ⟨items,kk,g,q⟩:=S.obj l _ hl
 exact iE g q hv hlo hhi fun a ra=>hQ a X s S .refl ra
theorem rh {vs:List V} {v:V} {i:Int} (hv:idx vs i=some v) (hlo:-2 ^ 63<=i) (hhi:i<2 ^ 63):Op2 C k getItem (.tup vs) (.int i) σ v σ:=by
 intro A X s a b rm S r1 r2 Q E hQ
 obtain ⟨p,items,kk,rfl,z,g,q⟩:=r1
 obtain ⟨t,rfl⟩:=r2
 obtain ⟨j,hj,hg⟩:=Option.bind_eq_some_iff.mp hv
 obtain ⟨a,ha,ra⟩:=q.get j hg
 have hn:items.size=vs.length:=by rw [<-Array.length_toList,q.length]
 exact PySem.P.getItem_tuple (n:=kk) g hlo hhi (by rw [hn];exact hj) (by rw [<-Array.getElem?_toList];exact ha) (hQ a X s S .refl ra)
theorem d7 {vs:List V}:nD C (.list vs) σ "list":=by
 intro X s a S r
 obtain ⟨p,items,kk,rfl,z,g,q⟩:=r
 exact ⟨_,g,rfl⟩
theorem vN {vs:List V}:nD C (.tup vs) σ "tuple":=by
 intro X s a S r
 obtain ⟨p,items,kk,rfl,z,g,q⟩:=r
 exact ⟨_,g,rfl⟩
theorem nQ {x:List Nat}:nD C (.str x) σ "str":=by
 intro X s a S r
 obtain ⟨t,rfl⟩:=r
 exact typeIs_str s _ t
end
end
section
open PySem PyProof.Rows
section
variable {C:Cx} {k:Nat} {σ:Sto} {f:Value->Value->Sem Value} {g:Value->Sem Value} {a b r:Int} {x y z:UInt64} {c:Bool}
theorem ej {X:Wld} {s:Shared} (S:SRel C σ X s) (t:Nat):SRel C σ X { s with toks:=t }/\Evo C NoP σ X s σ X { s with toks:=t }:=S.grow0 (Grow.toks t)
theorem gh (h:∀ (A:Around) (s:Shared) (t u:Tok) (Q E:Value->Shared->Prop),Room k A->Q (.int r s.toks) { s with toks:=s.toks+1 }->wpAny (model C.prog C.w) A (f (.int a t) (.int b u)) Q E s):Op2 C k f (.int a) (.int b) σ (.int r) σ:=by
 intro A X s p q rm S r1 r2 Q E hQ
 obtain ⟨t,rfl⟩:=r1
 obtain ⟨u,rfl⟩:=r2
 obtain ⟨S',e⟩:=ej S (s.toks+1)
 exact h A s t u Q E rm (hQ _ X _ S' e ⟨_,rfl⟩)
theorem pE (h:∀ (A:Around) (s:Shared) (t u:Tok) (Q E:Value->Shared->Prop),Room k A->Q (.bool c) s->wpAny (model C.prog C.w) A (f (.int a t) (.int b u)) Q E s):Op2 C k f (.int a) (.int b) σ (.bool c) σ:=by
 intro A X s p q rm S r1 r2 Q E hQ
 obtain ⟨t,rfl⟩:=r1
 obtain ⟨u,rfl⟩:=r2
 exact h A s t u Q E rm (hQ _ X _ S .refl (by rfl))
theorem Ce (h:∀ (A:Around) (s:Shared) (t u:Tok) (Q E:Value->Shared->Prop),Room k A->Q (.float z s.toks) { s with toks:=s.toks+1 }->wpAny (model C.prog C.w) A (f (.int a t) (.int b u)) Q E s):Op2 C k f (.int a) (.int b) σ (.flt z) σ:=by
 intro A X s p q rm S r1 r2 Q E hQ
 obtain ⟨t,rfl⟩:=r1
 obtain ⟨u,rfl⟩:=r2
 obtain ⟨S',e⟩:=ej S (s.toks+1)
 exact h A s t u Q E rm (hQ _ X _ S' e ⟨_,rfl⟩)
theorem mM (h:∀ (A:Around) (s:Shared) (t u:Tok) (Q E:Value->Shared->Prop),Room k A->Q (.float z s.toks) { s with toks:=s.toks+1 }->wpAny (model C.prog C.w) A (f (.float x t) (.float y u)) Q E s):Op2 C k f (.flt x) (.flt y) σ (.flt z) σ:=by
 intro A X s p q rm S r1 r2 Q E hQ
 obtain ⟨t,rfl⟩:=r1
 obtain ⟨u,rfl⟩:=r2
 obtain ⟨S',e⟩:=ej S (s.toks+1)
 exact h A s t u Q E rm (hQ _ X _ S' e ⟨_,rfl⟩)
theorem ta (h:∀ (A:Around) (s:Shared) (t u:Tok) (Q E:Value->Shared->Prop),Room k A->Q (.bool c) s->wpAny (model C.prog C.w) A (f (.float x t) (.float y u)) Q E s):Op2 C k f (.flt x) (.flt y) σ (.bool c) σ:=by
 intro A X s p q rm S r1 r2 Q E hQ
 obtain ⟨t,rfl⟩:=r1
 obtain ⟨u,rfl⟩:=r2
 exact h A s t u Q E rm (hQ _ X _ S .refl (by rfl))
theorem tc (h:∀ (A:Around) (s:Shared) (t u:Tok) (Q E:Value->Shared->Prop),Room k A->Q (.float z s.toks) { s with toks:=s.toks+1 }->wpAny (model C.prog C.w) A (f (.float x t) (.int b u)) Q E s):Op2 C k f (.flt x) (.int b) σ (.flt z) σ:=by
 intro A X s p q rm S r1 r2 Q E hQ
 obtain ⟨t,rfl⟩:=r1
 obtain ⟨u,rfl⟩:=r2
 obtain ⟨S',e⟩:=ej S (s.toks+1)
 exact h A s t u Q E rm (hQ _ X _ S' e ⟨_,rfl⟩)
theorem yh (h:∀ (A:Around) (s:Shared) (t u:Tok) (Q E:Value->Shared->Prop),Room k A->Q (.bool c) s->wpAny (model C.prog C.w) A (f (.float x t) (.int b u)) Q E s):Op2 C k f (.flt x) (.int b) σ (.bool c) σ:=by
 intro A X s p q rm S r1 r2 Q E hQ
 obtain ⟨t,rfl⟩:=r1
 obtain ⟨u,rfl⟩:=r2
 exact h A s t u Q E rm (hQ _ X _ S .refl (by rfl))
theorem Cd (h:∀ (A:Around) (s:Shared) (t u:Tok) (Q E:Value->Shared->Prop),Room k A->Q (.bool c) s->wpAny (model C.prog C.w) A (f (.int a t) (.float y u)) Q E s):Op2 C k f (.int a) (.flt y) σ (.bool c) σ:=by
 intro A X s p q rm S r1 r2 Q E hQ
 obtain ⟨t,rfl⟩:=r1
 obtain ⟨u,rfl⟩:=r2
 exact h A s t u Q E rm (hQ _ X _ S .refl (by rfl))
theorem gQ:Op2 C k (binaryOp .Add) (.int a) (.int b) σ (.int (a+b)) σ:=gh fun _ _ _ _ _ _ _ h=>PySem.P.add_int h
theorem jy:Op2 C k (binaryOp .Sub) (.int a) (.int b) σ (.int (a - b)) σ:=gh fun _ _ _ _ _ _ _ h=>PySem.P.sub_int h
theorem iI (hm:IntMulOk a b):Op2 C k (binaryOp .Mult) (.int a) (.int b) σ (.int (a*b)) σ:=gh fun _ _ _ _ _ _ _ h=>PySem.P.mul_int h hm
theorem iW (hb:b≠0) (hp:b.natAbs.log2<9000):Op2 C k (binaryOp .FloorDiv) (.int a) (.int b) σ (.int (a.fdiv b)) σ:=gh fun _ _ _ _ _ _ _ h=>floordiv_int hb h (.inl (PyProof.noPylong_of_log2 hp))
theorem gJ (hb:b≠0):Op2 C k (binaryOp .Mod) (.int a) (.int b) σ (.int (a.fmod b)) σ:=gh fun _ _ _ _ _ _ _ h=>mod_int' hb h
theorem yi (hn:0<=b) (hn2:b<=1000000) (ha:a.natAbs<2 ^ 64):Op2 C k (binaryOp .Pow) (.int a) (.int b) σ (.int (a ^ b.toNat)) σ:=gh fun _ _ _ _ _ _ _ h=>pow_int_small hn hn2 ha h
theorem Cf (hn:0<=b) (hn2:b<=1000000) (ha:a.natAbs<2 ^ 64):Op2 C k (binaryOp .LShift) (.int a) (.int b) σ (.int (a*2 ^ b.toNat)) σ:=gh fun _ _ _ _ _ _ _ h=>lshift_int_small hn hn2 ha h
theorem kS:Op2 C k (binaryOp .BitAnd) (.int a) (.int b) σ (.int (Builtin.bitAnd a b)) σ:=gh fun _ _ _ _ _ _ _ h=>and_int h
theorem Ab (hn:0<=b) (hn2:b<=1000000) (ha:a.natAbs<2 ^ 64):Op2 C k (inplaceOp .LShift) (.int a) (.int b) σ (.int (a*2 ^ b.toNat)) σ:=gh fun _ _ _ _ _ _ _ h=>ilshift_int_small hn hn2 ha h
theorem B3:Op2 C k (inplaceOp .BitOr) (.int a) (.int b) σ (.int (Builtin.bitOr a b)) σ:=gh fun _ _ _ _ _ _ _ h=>ior_int h
theorem Ac:Op2 C k (inplaceOp .BitXor) (.int a) (.int b) σ (.int (Builtin.bitXor a b)) σ:=gh fun _ _ _ _ _ _ _ h=>ixor_int h
theorem tW:Op2 C k (compareOp .Eq) (.int a) (.int b) σ (.bool (a==b)) σ:=pE fun _ _ _ _ _ _ _ h=>PySem.P.eq_int h
theorem Dj:Op2 C k (compareOp .Lt) (.int a) (.int b) σ (.bool (decide (a<b))) σ:=pE fun _ _ _ _ _ _ _ h=>PySem.P.lt_int h
theorem A5:Op2 C k (compareOp .Gt) (.int a) (.int b) σ (.bool (decide (a > b))) σ:=pE fun _ _ _ _ _ _ _ h=>PySem.P.gt_int h
theorem Di:Op2 C k (compareOp .GtE) (.int a) (.int b) σ (.bool (decide (a>=b))) σ:=pE fun _ _ _ _ _ _ _ h=>PySem.P.ge_int h
theorem uJ:Op1 C k (unaryOp .USub) (.int a) σ (.int (-a)) σ:=by
 intro A X s p rm S r1 Q E hQ
 obtain ⟨t,rfl⟩:=r1
 obtain ⟨S',e⟩:=ej S (s.toks+1)
 exact PySem.P.neg_int (hQ _ X _ S' e ⟨_,rfl⟩)
theorem iZ:Tru C (.int a) σ (a != 0):=by
 intro A X s p S r1 Q E hQ
 obtain ⟨t,rfl⟩:=r1
 exact PySem.P.truthy_int (hQ s.toks)
theorem aF:Tru C (.bool c) σ c:=by
 intro A X s p S r1 Q E hQ
 subst r1
 exact wpAny_truthy_bool (hQ s.toks)
theorem eV:Op2 C k (binaryOp .Add) (.flt x) (.flt y) σ (.flt (Float64.add x y)) σ:=mM fun _ _ _ _ _ _ _ h=>AutoFloatOps.add_0 h
theorem bE:Op2 C k (binaryOp .Sub) (.flt x) (.flt y) σ (.flt (Float64.sub x y)) σ:=mM fun _ _ _ _ _ _ _ h=>AutoFloatOps.sub_0 h
theorem dt:Op2 C k (binaryOp .Mult) (.flt x) (.flt y) σ (.flt (Float64.mul x y)) σ:=mM fun _ _ _ _ _ _ _ h=>AutoFloatOps.mul_0 h
theorem d5 (hy:Float64.isZero y=false):Op2 C k (binaryOp .Div) (.flt x) (.flt y) σ (.flt (Float64.div x y)) σ:=mM fun _ _ _ _ _ _ _ h=>AutoFloatOps.truediv_1 (by simp [hy]) h
theorem zX (hy:Float64.isZero y=false):Op2 C k (binaryOp .Mod) (.flt x) (.flt y) σ (.flt (Float64.divmod x y).2) σ:=mM fun _ _ _ _ _ _ _ h=>AutoFloatOps.mod_1 (by simp [hy]) h
theorem mr (hb:b.natAbs<2 ^ 1023):Op2 C k (binaryOp .Mult) (.flt x) (.int b) σ (.flt (Float64.mul x (Float64.ofInt b))) σ:=tc fun _ _ _ _ _ _ _ h=>mul_fi_fits hb h
theorem qH (hb:b.natAbs<2 ^ 1023):Op2 C k (binaryOp .Add) (.flt x) (.int b) σ (.flt (Float64.add x (Float64.ofInt b))) σ:=tc fun _ _ _ _ _ _ _ h=>add_fi_fits hb h
theorem xF (hb:b.natAbs<2 ^ 1023):Op2 C k (binaryOp .Sub) (.flt x) (.int b) σ (.flt (Float64.sub x (Float64.ofInt b))) σ:=tc fun _ _ _ _ _ _ _ h=>sub_fi_fits hb h
noncomputable def dP (a b:Int):UInt64:=Float64.ofFrac (decide (a<0) != decide (b<0)) a.natAbs b.natAbs
theorem mL (hb:b≠0) (ha:a.natAbs<2 ^ 1023):Op2 C k (binaryOp .Div) (.int a) (.int b) σ (.flt (dP a b)) σ:=Ce fun _ _ _ _ _ _ rm h=>PySem.Flt.div_ii_fits rm.handled ha (fun q=>absurd q hb) fun _ _=>h
noncomputable def fle (x y:UInt64):Bool:=Float64.cmp x y==some .lt||Float64.cmp x y==some .eq
theorem gL:Op2 C k (compareOp .Eq) (.flt x) (.flt y) σ (.bool (Float64.cmp x y==some .eq)) σ:=ta fun _ _ _ _ _ _ _ h=>AutoFloatOps.eq_0 h
theorem sM:Op2 C k (compareOp .Lt) (.flt x) (.flt y) σ (.bool (Float64.cmp x y==some .lt)) σ:=ta fun _ _ _ _ _ _ _ h=>AutoFloatOps.lt_0 h
theorem xw:Op2 C k (compareOp .LtE) (.flt x) (.flt y) σ (.bool (fle x y)) σ:=ta fun _ _ _ _ _ _ _ h=>AutoFloatOps.le_0 h
theorem zI:Op2 C k (compareOp .Lt) (.flt x) (.int b) σ (.bool (Float64.cmpInt x b==some .lt)) σ:=yh fun _ _ _ _ _ _ _ h=>lt_fi h
theorem zJ:Op2 C k (compareOp .NotEq) (.flt x) (.int b) σ (.bool (Float64.cmpInt x b != some .eq)) σ:=yh fun _ _ _ _ _ _ _ h=>ne_fi h
theorem z9:Op2 C k (compareOp .LtE) (.int a) (.flt y) σ (.bool (Float64.cmpInt y a==some .gt||Float64.cmpInt y a==some .eq)) σ:=Cd fun _ _ _ _ _ _ _ h=>le_if h
end
end
section
open PySem PyProof.Rows
section
variable {C:Cx} {k:Nat} {σ:Sto} {x y:List Nat} {a b:Int}
theorem k0 (x y:List Nat):ao x++ao y=ao (x++y):=by
 show (⟨x.toArray++y.toArray⟩:Str)=⟨(x++y).toArray⟩
 simp
theorem a7 (x:List Nat):(ao x).length=x.length:=by
 show x.toArray.size=_
 rfl
theorem ri {f:Value->Value->Sem Value} {v:V} (h:∀ (A:Around) (s:Shared) (t u:Tok) (Q E:Value->Shared->Prop),Room k A->(∀ r k',(∀ X n h,VRel C X n h v r)->Q r { s with toks:=k' })->wpAny (model C.prog C.w) A (f (.str (ao x) t) (.str (ao y) u)) Q E s) :
 Op2 C k f (.str x) (.str y) σ v σ:=by
 intro A X s p q rm S r1 r2 Q E hQ
 obtain ⟨t,rfl⟩:=r1
 obtain ⟨u,rfl⟩:=r2
 refine h A s t u Q E rm fun r k' hr=>?_
 obtain ⟨S',e⟩:=ej S k'
 exact hQ _ X _ S' e (hr _ _ _)
theorem qc {A:Around} {s:Shared} {t u:Tok} {Q:Value->Shared->Prop} (hlen:(x++y).length<=16777216) (h:∀ r k',(∀ X n h,VRel C X n h (.str (x++y)) r)->Q r { s with toks:=k' }) :
 (if (ao x).length==0 then Made.val (.str (ao y) u) else if (ao y).length==0 then Made.val (.str (ao x) t) else Made.str (ao x++ao y)).post Q s:=by
 split
 ·rename_i h0
  rw [a7] at h0
  have:x=[]:=by simpa using h0
  subst this
  exact h _ s.toks fun _ _ _=>⟨_,rfl⟩
 ·split
  ·rename_i h0
   rw [a7] at h0
   have:y=[]:=by simpa using h0
   subst this
   exact h _ s.toks fun _ _ _=>⟨_,by rw [List.append_nil]⟩
  ·rw [k0]
   refine ⟨?_,h _ _ fun _ _ _=>⟨_,rfl⟩⟩
   rw [a7]
   exact hlen
theorem fQ (hlen:(x++y).length<=16777216):Op2 C k (binaryOp .Add) (.str x) (.str y) σ (.str (x++y)) σ:=ri fun A s t u Q E rm h=>PySem.P.add_str (qc (A:=A) hlen h)
theorem kj (hlen:(x++y).length<=16777216):Op2 C k (inplaceOp .Add) (.str x) (.str y) σ (.str (x++y)) σ:=ri fun A s t u Q E rm h=>PySem.P.iadd_str (qc (A:=A) hlen h)
theorem kZ:Op2 C k (compareOp .Eq) (.str x) (.str y) σ (.bool (x==y)) σ:=ri fun A s t u Q E rm h=>PySem.P.eq_str (h _ s.toks fun _ _ _=>Eq.refl _)
theorem Cw:Op2 C k (compareOp .NotEq) (.str x) (.str y) σ (.bool (x != y)) σ:=ri fun A s t u Q E rm h=>PySem.P.ne_str (h _ s.toks fun _ _ _=>Eq.refl _)
theorem yw {c:Nat}:Op2 C k (compareOp .In) (.str [c]) (.str x) σ (.bool (decide (c∈x))) σ:=ri fun A s t u Q E rm h=>by
 refine PySem.P.in_str ?_
 have:=StrLaws.found_one (ao x) c
 simp only [ao] at this ⊢
 rw [this]
 exact h _ s.toks fun _ _ _=>Eq.refl _
end
end
section
open PySem PyProof.Rows
section
variable {C:Cx} {k:Nat} {σ:Sto} {x y:List Nat} {a b:Int} {vs:List V}
theorem rj {i:Int} {c:Nat} (hc:(seqIndex? i x.length).bind (x[·]?)=some c) (hlo:-2 ^ 63<=i) (hhi:i<2 ^ 63):Op2 C k getItem (.str x) (.int i) σ (.str [c]) σ:=by
 intro A X s p q rm S r1 r2 Q E hQ
 obtain ⟨t,rfl⟩:=r1
 obtain ⟨u,rfl⟩:=r2
 obtain ⟨S',e⟩:=ej S (s.toks+1)
 refine PySem.P.getItem_str (c:=c) (by simp;exact And.symm ⟨hhi,hlo⟩) ?_ (hQ _ X _ S' e ⟨_,rfl⟩)
 rw [a7]
 simpa using hc
theorem Ay {n:Nat} (hn:x.length*n<=16777216) (hn2:n<1000000) (hx:x.length<1000000):Op2 C k (binaryOp .Mult) (.str x) (.int n) σ (.str (List.replicate n x).flatten) σ:=by
 intro A X s p q rm S r1 r2 Q E hQ
 obtain ⟨t,rfl⟩:=r1
 obtain ⟨u,rfl⟩:=r2
 have hok:MulOk (ao x) (n:Int):=by
  refine ⟨by simp;lia -abstractProof,fun h1 _=>?_,fun _ _=>?_⟩
  ·rw [a7]
   have h2:(1:Int)<=n:=by exact Iff.mp Int.not_lt h1
   have h3:(1000000:Int)*n<=2 ^ 63 - 1:=by lia -abstractProof
   have h4:(1000000:Int)<=(2 ^ 63 - 1) / n:=(Int.le_ediv_iff_mul_le (by assumption)).mpr h3
   lia -abstractProof
  ·rw [a7]
   have e:((n:Int)).toNat=n:=by rfl
   rw [e]
   simp only [Builtin.Str.tooLong,decide_eq_false_iff_not,sizeLine_eq]
   exact Iff.mpr Nat.not_lt hn
 refine PySem.SB.mul hok fun t' k'=>?_
 obtain ⟨S',e⟩:=ej S k'
 refine hQ _ X _ S' e ?_
 refine ⟨t',?_⟩
 congr 1
 unfold Txt.mul
 split
 ·have:n=0:=by lia -abstractProof
  subst this
  rfl
 ·rename_i h1
  split
  ·rename_i h2
   simp only [Bool.or_eq_true,beq_iff_eq,a7] at h2
   rcases h2 with h2 | h2
   ·have:n=1:=by lia -abstractProof
    subst this
    simp
   ·have:x=[]:=by simpa using h2
    subst this
    simp
  ·have key:∀ (m:Nat) (acc:Array Nat),(List.replicate m x.toArray).foldl (·++·) acc=acc++((List.replicate m x).flatten).toArray:=by
    intro m
    induction m with
    | zero=>intro acc;rfl
    | succ m ih=>intro acc;simp only [List.replicate_succ,List.foldl_cons,ih,List.replicate_succ,List.flatten_cons];simp
   have e:((n:Int)).toNat=n:=by rfl
   rw [e]
   show (⟨(List.replicate n x.toArray).foldl (·++·) #[]⟩:Str)=_
   rw [key]
   simp
end
end
section
open PySem PyProof.Rows
set_option maxRecDepth 100000
section
variable {C:Cx} {k:Nat} {σ:Sto} {x y:List Nat} {a b:Int} {vs:List V}
theorem AL (hx:x.length<2 ^ 63):Tru C (.str x) σ (!x.isEmpty):=by
 intro A X s p S r1 Q E hQ
 obtain ⟨t,rfl⟩:=r1
 refine PySem.P.truthy_str (by rw [a7];lia -abstractProof) ?_
 have:(((ao x).length:Int) != 0)=!x.isEmpty:=by
  rw [a7]
  cases x<;>simp<;>lia -abstractProof
 rw [this]
 exact hQ _
theorem ui {f:Value} {v u:V} (h:∀ (A:Around) (s:Shared) (r:Value) (Q E:Value->Shared->Prop),Room k A->(∃ X n h,VRel C X n h v r)->(∀ q k',(∀ X n h,VRel C X n h u q)->Q q { s with toks:=k' })->wpAny (model C.prog C.w) A (call f [r]) Q E s):FnOk C k f [v] σ u σ:=by
 intro A X s as rm S r Q E hQ
 obtain ⟨p,q,rfl,r1,r2⟩:=r.inv_cons
 rw [r2.inv_nil]
 refine h A s p Q E rm ⟨_,_,_,r1⟩ fun q k' hq=>?_
 obtain ⟨S',e⟩:=ej S k'
 exact hQ _ X _ S' e (hq _ _ _)
theorem BW {c:Nat}:FnOk C k (.builtin "ord") [.str [c]] σ (.int c) σ:=ui fun A s r Q E rm ⟨X,n,h,hr⟩ hq=>by
 obtain ⟨t,rfl⟩:=hr
 exact PySem.P.ord_of_char (hq _ _ fun _ _ _=>⟨_,rfl⟩)
theorem BS {c:Nat} (hc:c<=1114111):FnOk C k (.builtin "chr") [.int c] σ (.str [c]) σ:=ui fun A s r Q E rm ⟨X,n,h,hr⟩ hq=>by
 obtain ⟨t,rfl⟩:=hr
 refine PySem.P.chr_of_int (by simp;exact Nat.ToInt.of_le rfl rfl hc) (hq _ _ fun _ _ _=>⟨_,rfl⟩)
noncomputable def hexOf (i:Int):List Nat:=nm (PySem.baseText "0x" 16 i)
theorem xC (hl:(hexOf a).length<=sizeLine):FnOk C k (.builtin "hex") [.int a] σ (.str (hexOf a)) σ:=ui fun A s r Q E rm ⟨X,n,h,hr⟩ hq=>by
 obtain ⟨t,rfl⟩:=hr
 refine PySem.P.hex_of_int (hq _ _ fun _ _ _=>⟨_,by rw [hexOf,aP]⟩) ?_
 rw [<-aP (PySem.baseText "0x" 16 a),a7]
 exact hl
theorem kO {v:Value} {o:Option Int} (h:IsPart v o):∃ p:Option (Int × Tok),v=partValue p/\p.map (·.1)=o:=by
 cases h with
 | none=>exact ⟨none,rfl,rfl⟩
 | int i t=>exact ⟨some (i,t),rfl,rfl⟩
noncomputable def pV (x:List Nat) (lo hi st:Option Int):List Nat:=(Builtin.Str.strSliceIndices lo hi (st.getD 1) x.length).filterMap (x[·]?)
theorem n6 {lo hi st:Option Int} {r:List Nat} (h0:st.getD 1≠0) (hr:pV x lo hi st=r) (hfull:st.getD 1=1->r.length=x.length->r=x) (hlen:r.length<=16777216)
 (hidx:(Builtin.Str.strSliceIndices lo hi (st.getD 1) x.length).length=r.length):jH C k (.str x) lo hi st σ (.str r):=by
 intro A X s p sl vl vu vs rm S r1 hs pl pu ps Q E hQ
 obtain ⟨t,rfl⟩:=r1
 obtain ⟨p1,rfl,e1⟩:=kO pl
 obtain ⟨p2,rfl,e2⟩:=kO pu
 obtain ⟨p3,rfl,e3⟩:=kO ps
 refine wpAny_getItem_str_slice (l:=p1) (u:=p2) (st:=p3) hs (by rw [e3];exact beq_int_false h0) ?_
 have hp:slicePicked (ao x) p1 p2 p3=Builtin.Str.strSliceIndices lo hi (st.getD 1) x.length:=by
  unfold slicePicked
  simp only [e1,e2,e3,a7]
 unfold sliceMade
 rw [hp,e3,a7]
 split
 ·rename_i hc
  simp only [Bool.and_eq_true,beq_iff_eq] at hc
  rw [hidx] at hc
  have:=hfull hc.1 hc.2
  subst this
  exact hQ _ X _ S .refl ⟨_,rfl⟩
 ·obtain ⟨S',e⟩:=ej S (s.toks+1)
  have he:(⟨((Builtin.Str.strSliceIndices lo hi (st.getD 1) x.length).filterMap ((ao x).cps[·]?)).toArray⟩:Str)=ao r:=by
   rw [<-hr]
   simp [pV]
  rw [he]
  refine ⟨?_,hQ _ X _ S' e ⟨_,rfl⟩⟩
  rw [a7]
  exact hlen
theorem gW {name:Nm} {id:String} (slot:Slot "str" (ao name) id) (hty:typeOf (.builtin id)=pure (.type "method_descriptor")):wD C (.str x) σ name (.builtin id):=by
 intro A X s p pl S r Q E hQ
 obtain ⟨t,rfl⟩:=r
 exact getMethod_builtin (typeIs_str _ _ _) PySem.F.plainAttrs_str slot hty (fun a e=>by cases e) hQ
noncomputable def cx (sep:List Nat):List (List Nat)->List Nat
 | []=>[]
 | [x]=>x
 | x::y::r=>x++sep++cx sep (y::r)
noncomputable def a9 (l:List (List Nat)):List V:=l.map .str
theorem yQ {X:Wld} {n:Nat} {h:Heap}:∀ {l:List (List Nat)} {as:List Value},VsRel C X n h (a9 l) as->∃ m:List (Str × Tok),as=strValues m/\m.map (·.1)=l.map ao:=by
 intro l
 induction l with
 | nil =>
   intro as r
   exact ⟨[],by rw [VsRel.inv_nil r];rfl,rfl⟩
 | cons x l ih =>
   intro as r
   obtain ⟨p,q,rfl,r1,r2⟩:=VsRel.inv_cons (vs:=a9 l) (v:=.str x) r
   obtain ⟨t,rfl⟩:=r1
   obtain ⟨m,rfl,e⟩:=ih r2
   exact ⟨(ao x,t)::m,rfl,by simp [e]⟩
theorem my (sep:List Nat):∀ l:List (List Nat),Str.join (ao sep) (l.map ao)=ao (cx sep l)
 | []=>rfl
 | [x]=>rfl
 | x::y::r=>by
   have ih:=my sep (y::r)
   simp only [List.map_cons] at ih ⊢
   rw [Str.join,ih,k0,k0,cx]
   ·intro h;cases h
noncomputable def dQ:List (List Nat)->Nat
 | []=>0
 | x::l=>x.length+dQ l
theorem kr:∀ l:List (List Nat),((l.map ao).map (·.length)).sum=dQ l
 | []=>rfl
 | x::l=>by simp only [List.map_cons,List.sum_cons,dQ,a7];rw [kr l]
theorem lI {sep:List Nat} {l:List (List Nat)} (hl:dQ l+l.length*sep.length<=sizeLine):FnOk C k (.builtin "str.join") [.str sep,.list (a9 l)] σ (.str (cx sep l)) σ:=by
 intro A X s as rm S r Q E hQ
 obtain ⟨p,q,rfl,r1,r2⟩:=r.inv_cons
 obtain ⟨p',q,rfl,r3,r4⟩:=r2.inv_cons
 rw [r4.inv_nil]
 obtain ⟨t,rfl⟩:=r1
 obtain ⟨D,items,kk,rfl,z,g,rr⟩:=r3
 obtain ⟨m,e,e2⟩:=yQ rr
 have hi:items=(strValues m).toArray:=by exact array_of_toList e
 have key:=kr l
 refine PySem.SC.join (l:=m) (texts:=l.map ao) ⟨_,g,rfl,kk,by rw [<-hi]⟩ e2 ?_ fun t' k'=>?_
 ·unfold JoinOk
  rw [StrLaws.joinTotal]
  rw [key]
  rw [Builtin.Str.tooLong,Bool.not_eq_true',decide_eq_false_iff_not,List.length_map,a7]
  exact Iff.mpr Nat.not_lt hl
 ·obtain ⟨S',e'⟩:=ej S k'
  refine hQ _ X _ S' e' ?_
  refine ⟨t',?_⟩
  show Value.str (Builtin.Str.glued _ _) t'=_
  rw [StrLaws.glued_eq_join,my]
theorem xB {c:List Nat}:FnOk C k (.builtin "str.count") [.str x,.str c] σ (.int (Txt.count (ao x) (ao c))) σ:=by
 intro A X s as rm S r Q E hQ
 obtain ⟨p,q,rfl,r1,r2⟩:=r.inv_cons
 obtain ⟨p',q,rfl,r3,r4⟩:=r2.inv_cons
 rw [r4.inv_nil]
 obtain ⟨t,rfl⟩:=r1
 obtain ⟨u,rfl⟩:=r3
 obtain ⟨S',e'⟩:=ej S (s.toks+1)
 exact PySem.SC.count (hQ _ X _ S' e' ⟨_,rfl⟩)
theorem rW {X:Wld} {n:Nat} {h:Heap}:∀ {l:List (List Nat)} {m:List (Str × Tok)},m.map (·.1)=l.map ao->VsRel C X n h (a9 l) (strValues m)
 | [],[],_=>.nil
 | x::l,(y,t)::m,e=>by
   simp only [List.map_cons,List.cons.injEq] at e
   obtain ⟨rfl,e⟩:=e
   exact .cons ⟨_,rfl⟩ (rW e)
theorem xD {sep:List Nat} {l:List (List Nat)} (hs:sep≠[]) (hx:x.length+2<=sizeLine) (hl:Txt.split (ao x) (ao sep)=l.map ao):FnOk C k (.builtin "str.split") [.str x,.str sep] σ (.list (a9 l)) σ:=by
 intro A X s as rm S r Q E hQ
 obtain ⟨p,q,rfl,r1,r2⟩:=r.inv_cons
 obtain ⟨p',q,rfl,r3,r4⟩:=r2.inv_cons
 rw [r4.inv_nil]
 obtain ⟨t,rfl⟩:=r1
 obtain ⟨u,rfl⟩:=r3
 have hn:(Builtin.Str.partsBetween (ao x) (Builtin.Str.occurrences (ao x) (ao sep) 0 (ao x).length ((ao x).length+1)) (ao sep).length).length<=sizeLine:=by
  have e1:=StrLaws.occ_length_le (ao x) (ao sep) 0 (ao x).length ((ao x).length+1)
  rw [length_partsBetween]
  have e2:=a7 x
  exact fits_base_add e1 hx
 have hx':(ao x).length<=sizeLine:=by rw [a7];exact Nat.le_of_add_right_le hx
 have hy:((ao sep).length==0)=false:=by rw [a7];simpa using hs
 have hlen:l.length<=sizeLine:=by
  have e1:(Txt.split (ao x) (ao sep)).length=l.length:=by rw [hl];simp
  rw [<-e1]
  unfold Txt.split
  split
  ·show 1<=sizeLine;decide
  ·split
   ·show 1<=sizeLine;decide
   ·exact hn
 have fin:∀ (m:List (Str × Tok)) (k':Nat),m.map (·.1)=Txt.split (ao x) (ao sep)->Q (.ref s.heap.objs.size) { s with heap:=s.heap.push { cls:=.type "list",data:=.seq (strValues m).toArray },toks:=k' }:=fun m k' em=>by
  obtain ⟨S',e⟩:=S.grow (Grow.pusht (cW (strValues m).toArray 0) k') (fun b=>b=s.heap.objs.size) (by rintro b rfl;exact ⟨Nat.le_refl _,_,Heap.get?_push_size _ rfl⟩)
  refine hQ _ _ _ S' e ?_
  exact ⟨_,_,_,rfl,.inr rfl,Heap.get?_push_size _ rfl,by exact rW (em.trans hl)⟩
 cases h1:(decide ((ao x).length<(ao sep).length)||decide (Builtin.Str.strKind (ao x)<Builtin.Str.strKind (ao sep)))
 ·cases hf:(Builtin.Str.occurrences (ao x) (ao sep) 0 (ao x).length ((ao x).length+1)).isEmpty
  ·refine call_meets PySem.F.slot_str_split (typeIs_str _ _ _) PySem.F.entry_str_split (PySem.F.args_str_split_2 _ _) (meets_str_split_sep (ao x) (ao sep) t u h1 hy hf hx' hn) ?_
   show wants Q E _ { s with toks:=_,heap:=s.heap.push { cls:=.type "list",data:=.seq (strsFrom s.toks (Builtin.Str.partsBetween (ao x) (Builtin.Str.occurrences (ao x) (ao sep) 0 (ao x).length ((ao x).length+1)) (ao sep).length)).toArray } }
   rw [strsFrom_eq]
   exact fin (numbered s.toks _) _ ((numbered_texts _ _).trans ((if_neg (ne_true_of_eq_false h1)).trans (if_neg (ne_true_of_eq_false hf))).symm)
  ·exact call_meets PySem.F.slot_str_split (typeIs_str _ _ _) PySem.F.entry_str_split (PySem.F.args_str_split_2 _ _) (meets_str_split_not_found (ao x) (ao sep) t u h1 hy hf)
    (fin [(ao x,t)] s.toks ((if_neg (ne_true_of_eq_false h1)).trans (if_pos hf)).symm)
 ·exact call_meets PySem.F.slot_str_split (typeIs_str _ _ _) PySem.F.entry_str_split (PySem.F.args_str_split_2 _ _) (meets_str_split_cannot_occur (ao x) (ao sep) t u h1)
   (fin [(ao x,t)] s.toks (if_pos h1).symm)
end
end
section
open PySem PyProof.Rows PySem.SeqAt
noncomputable def okD:Nat->V->Bool
 | 0,_=>false
 | n+1,v=>match v with
   | .int _ | .bool _=>true
   | .str x=>PyData.strOk (ao x)
   | .list vs | .tup vs=>vs.all (okD n)
   | _=>false
section
variable {C:Cx} {k:Nat} {σ:Sto} {X:Wld} {s:Shared} {n0:Nat}
theorem mU {h:Heap}:∀ (n:Nat) (v:V),okD n v=true->∃ d:PyData,d.canLay0=true/\d.depth<=n/\∀ (X:Wld) (n0:Nat) (a:Value),VRel C X n0 h v a->∃ as,Reads h a d as
 | 0,v,e=>by cases e
 | n+1,v,e=>by
   have rec_:∀ vs:List V,vs.all (okD n)=true->∃ ds:List PyData,PyData.canLayAll0 ds=true/\PyData.depthAll ds<=n/\∀ (X:Wld) (n0:Nat) (as:List Value),VsRel C X n0 h vs as->∃ bs,ReadsAll h as ds bs:=by
    intro vs
    induction vs with
    | nil=>intro _;exact ⟨[],rfl,Nat.zero_le _,fun X n0 as r=>⟨[],by rw [r.inv_nil];exact .nil⟩⟩
    | cons v vs ih =>
      intro e
      rw [List.all_cons,Bool.and_eq_true] at e
      obtain ⟨d,c1,c2,c3⟩:=mU n v e.1
      obtain ⟨ds,d1,d2,d3⟩:=ih e.2
      refine ⟨d::ds,by simp [PyData.canLayAll0,c1,d1],by simp only [PyData.depthAll];exact Nat.max_le_of_le_of_le c2 d2,fun X n0 as r=>?_⟩
      obtain ⟨a,q,rfl,r1,r2⟩:=r.inv_cons
      obtain ⟨b1,q1⟩:=c3 X n0 a r1
      obtain ⟨b2,q2⟩:=d3 X n0 q r2
      exact ⟨_,.cons q1 q2⟩
   cases v with
   | int i=>exact ⟨.int i,rfl,Nat.zero_le _,fun X n0 a r=>by obtain ⟨t,rfl⟩:=r;exact ⟨_,.int _ _⟩⟩
   | bool i=>exact ⟨.bool i,rfl,Nat.zero_le _,fun X n0 a r=>by subst r;exact ⟨_,.bool _⟩⟩
   | str x=>exact ⟨.str (ao x),by exact e,Nat.zero_le _,fun X n0 a r=>by obtain ⟨t,rfl⟩:=r;exact ⟨_,.str _ _⟩⟩
   | list vs =>
     obtain ⟨ds,d1,d2,d3⟩:=rec_ vs (by exact e)
     refine ⟨.list ds,by exact d1,by simp only [PyData.depth];exact Nat.add_le_add_right d2 1,fun X n0 a r=>?_⟩
     obtain ⟨p,items,kk,rfl,z,g,q⟩:=r
     obtain ⟨bs,qq⟩:=d3 X n0 _ q
     exact ⟨_,.list g rfl rfl qq⟩
   | tup vs =>
     obtain ⟨ds,d1,d2,d3⟩:=rec_ vs (by exact e)
     refine ⟨.tuple ds,by exact d1,by simp only [PyData.depth];lia -abstractProof,fun X n0 a r=>?_⟩
     obtain ⟨p,items,kk,rfl,z,g,q⟩:=r
     obtain ⟨bs,qq⟩:=d3 X n0 _ q
     exact ⟨_,.tuple g rfl rfl qq⟩
   | _=>contradiction
theorem jx {v:V} (h:okD 60 v=true):Op2 C k (compareOp .Eq) v v σ (.bool true) σ:=by
 intro A X s a b rm S r1 r2 Q E hQ
 have hu:=rm.units
 obtain ⟨d,c1,c2,c3⟩:=mU (C:=C) (h:=s.heap) 60 v h
 obtain ⟨as,q1⟩:=c3 _ _ _ r1
 obtain ⟨bs,q2⟩:=c3 _ _ _ r2
 have hs:shaped d=true:=by unfold shaped;rw [c1];simpa using Nat.le_trans c2 (by simp)
 exact eq_dataH q1 q2 hs hs (by simp only [cLine_is];lia -abstractProof) (by rw [eqv_refl d c1];exact hQ _ X s S .refl (by rfl))
theorem ip {v:V} (h:okD 60 v=true):Op2 C k (compareOp .NotEq) v v σ (.bool false) σ:=by
 intro A X s a b rm S r1 r2 Q E hQ
 have hu:=rm.units
 refine via fun _ g0=>?_
 obtain ⟨d,c1,c2,c3⟩:=mU (C:=C) (h:=s.heap) 60 v h
 obtain ⟨as,q1⟩:=c3 _ _ _ r1
 obtain ⟨bs,q2⟩:=c3 _ _ _ r2
 refine g0 ?_
 have hs:shaped d=true:=by unfold shaped;rw [c1];simpa using Nat.le_trans c2 (by simp)
 exact ne_dataH q1 q2 hs hs (by simp only [cLine_is];lia -abstractProof) (by rw [eqv_refl d c1];exact hQ _ X s S .refl (by rfl))
open Classical in
noncomputable def zs (l:List Int):List V:=l.map .int
theorem oj (x y:List Nat):(ao x==ao y)=(x==y):=by
 rw [Bool.eq_iff_iff,beq_iff_eq,beq_iff_eq];exact ⟨om,fun h=>by rw [h]⟩
noncomputable abbrev pr (p:Int × Int):V:=.tup [.int p.1,.int p.2]
end
end
section
open PySem PyProof.Rows PySem.SeqAt PySem.Flt
section
variable {C:Cx} {k:Nat} {σ:Sto} {X:Wld} {s:Shared} {n0:Nat}
theorem SRel.kept (S:SRel C σ X s) {h':Heap} (tk:Nat) (hk:∀ b o,s.heap.get? b=some o->h'.get? b=some o) (hs:s.heap.objs.size<=h'.objs.size) :
 SRel C σ X { s with heap:=h',toks:=tk }/\Evo C NoP σ X s σ X { s with heap:=h',toks:=tk }:=S.grow0 ⟨hk,hs,rfl,rfl⟩
theorem CV {h:Heap}:∀ {l:List Int} {as:List Value},VsRel C X n0 h (zs l) as->∃ xs:List (Int × Tok),as=xs.map (fun p=>Value.int p.1 p.2)/\xs.map (·.1)=l:=by
 intro l
 induction l with
 | nil =>
   intro as r
   exact ⟨[],by rw [VsRel.inv_nil r];rfl,rfl⟩
 | cons i l ih =>
   intro as r
   obtain ⟨a,q,rfl,r1,r2⟩:=VsRel.inv_cons (v:=.int i) (vs:=zs l) r
   obtain ⟨t,rfl⟩:=r1
   obtain ⟨xs,rfl,e⟩:=ih r2
   exact ⟨(i,t)::xs,rfl,by simp [e]⟩
theorem nn {h:Heap} {l:List Int} {items:Array Value} (r:VsRel C X n0 h (zs l) items.toList):∃ xs:Array (Int × Tok),items=intItems xs/\xs.toList.map (·.1)=l:=by
 obtain ⟨xs,e1,e2⟩:=CV r
 refine ⟨xs.toArray,?_,by omega⟩
 rw [<-Array.toArray_toList (xs:=items),e1]
 simp [intItems]
theorem sW {l:List Int}:FnOk C k (.builtin "sum") [.list (zs l)] σ (.int l.sum) σ:=by
 intro A X s as rm S r Q E hQ
 obtain ⟨a,q,rfl,r1,r2⟩:=r.inv_cons
 rw [r2.inv_nil]
 obtain ⟨p,items,kk,rfl,z,g,rr⟩:=r1
 obtain ⟨xs,rfl,el⟩:=nn rr
 refine bL (sum_intListG rm.handled ⟨_,g,rfl,kk,rfl⟩ fun h' tk t' hk hs=>?_)
 obtain ⟨S',e⟩:=S.kept tk hk hs
 refine hQ _ X _ S' e ?_
 rw [preSum_eq,List.take_of_length_le (by simp),el]
 exact ⟨_,rfl⟩
noncomputable def tM:List Int->Int
 | []=>0
 | a::l=>l.foldl max a
theorem j0:∀ (l:List Int) (a:Int),a<=l.foldl max a/\∀ b∈l,b<=l.foldl max a:=by
 intro l
 induction l with
 | nil =>
   intro a
   exact ⟨Int.le_refl _,fun b h=>(nomatch h)⟩
 | cons c l ih =>
   intro a
   obtain ⟨h1,h2⟩:=ih (max a c)
   refine ⟨by simp only [List.foldl_cons];grind -abstractProof,fun b hb=>?_⟩
   rcases List.mem_cons.mp hb with rfl | hb
   ·simp only [List.foldl_cons];grind -abstractProof
   ·exact h2 b hb
theorem nv:∀ (l:List Int) (a:Int),l.foldl max a=a\/l.foldl max a∈l:=by
 intro l
 induction l with
 | nil =>
   intro a
   exact .inl rfl
 | cons c l ih =>
   intro a
   simp only [List.foldl_cons]
   rcases ih (max a c) with h | h
   ·rw [h]
    rcases Int.le_total a c with q | q
    ·rw [Int.max_eq_right q];exact .inr (.head _)
    ·rw [Int.max_eq_left q];exact .inl rfl
   ·exact .inr (.tail _ h)
theorem AS {l:List Int}:∀ b∈l,b<=tM l:=by
 cases l with
 | nil=>intro b h;cases h
 | cons a l =>
   intro b hb
   rcases List.mem_cons.mp hb with rfl | hb
   ·exact (j0 l b).1
   ·exact (j0 l a).2 b hb
theorem yT {l:List Int} (h:l≠[]):tM l∈l:=by
 cases l with
 | nil=>exact absurd rfl h
 | cons a l=>rcases nv l a with q | q<;>simp [tM,q]
theorem u6 {l:List Int} {m:Int} (hm:m∈l) (h:∀ b∈l,b<=m):tM l=m :=
 Int.le_antisymm (h _ (yT (List.ne_nil_of_mem hm))) (AS m hm)
theorem zT {l:List Int} (hl:l≠[]):FnOk C k (.builtin "max") [.list (zs l)] σ (.int (tM l)) σ:=by
 intro A X s as rm S r Q E hQ
 obtain ⟨a,q,rfl,r1,r2⟩:=r.inv_cons
 rw [r2.inv_nil]
 obtain ⟨p,items,kk,rfl,z,g,rr⟩:=r1
 obtain ⟨xs,rfl,el⟩:=nn rr
 have hn:0<xs.size:=by
  have:xs.size=l.length:=by rw [<-el];simp
  rw [this];exact List.length_pos_iff.mpr hl
 refine bL (max_intList rm.handled ⟨_,g,rfl,kk,rfl⟩ hn fun v h' tk hv hk hs=>?_)
 obtain ⟨S',e⟩:=S.kept tk hk hs
 refine hQ _ X _ S' e ?_
 obtain ⟨t,rfl⟩:=intItems_at hv
 obtain ⟨g1,g2⟩:=argBest_gt (numAt xs) (xs.size - 1)
 have hna:∀ j,j<xs.size->l[j]?=some (numAt xs j):=fun j hj=>by
  rw [<-el]
  simp [numAt,hj]
 have:tM l=numAt xs (argBest (fun i j=>decide (numAt xs i > numAt xs j)) (xs.size - 1)):=by
  refine u6 (List.mem_of_getElem? (hna _ (by exact Nat.lt_of_le_pred hn g1))) fun b hb=>?_
  obtain ⟨j,hj⟩:=List.mem_iff_getElem?.mp hb
  have hj':j<xs.size:=by
   have:xs.size=l.length:=by rw [<-el];simp
   rw [this]
   exact (List.getElem?_eq_some_iff.mp hj).1
  rw [hna j hj'] at hj
  cases hj
  exact g2 j (by exact Iff.mpr (Nat.le_sub_one_iff_lt hn) hj')
 rw [this]
 exact ⟨_,rfl⟩
theorem zU {a b:Int}:FnOk C k (.builtin "max") [.int a,.int b] σ (.int (max a b)) σ:=by
 intro A X s as rm S r Q E hQ
 obtain ⟨p,q,rfl,r1,r2⟩:=r.inv_cons
 obtain ⟨p2,q,rfl,r3,r4⟩:=r2.inv_cons
 rw [r4.inv_nil]
 obtain ⟨t,rfl⟩:=r1
 obtain ⟨u,rfl⟩:=r3
 refine bL (max_two_num rm.handled (.int _ _) (.int _ _) fun h' tk hk hs=>?_)
 obtain ⟨S',e⟩:=S.kept tk hk hs
 refine hQ _ X _ S' e ?_
 have:ltV (.int a t) (.int b u)=decide (a<b):=rfl
 rw [this]
 by_cases h:a<b
 ·rw [Int.max_eq_right (Int.le_of_lt h),decide_eq_true h];exact ⟨_,rfl⟩
 ·rw [Int.max_eq_left (Int.not_lt.mp h),decide_eq_false h];exact ⟨_,rfl⟩
theorem uf {a b:Int}:FnOk C k (.builtin "min") [.int a,.int b] σ (.int (min a b)) σ:=by
 intro A X s as rm S r Q E hQ
 obtain ⟨p,q,rfl,r1,r2⟩:=r.inv_cons
 obtain ⟨p2,q,rfl,r3,r4⟩:=r2.inv_cons
 rw [r4.inv_nil]
 obtain ⟨t,rfl⟩:=r1
 obtain ⟨u,rfl⟩:=r3
 refine bL (min_two_num rm.handled (.int _ _) (.int _ _) fun h' tk hk hs=>?_)
 obtain ⟨S',e⟩:=S.kept tk hk hs
 refine hQ _ X _ S' e ?_
 have:ltV (.int b u) (.int a t)=decide (b<a):=rfl
 rw [this]
 by_cases h:b<a
 ·rw [Int.min_eq_right (Int.le_of_lt h),decide_eq_true h];exact ⟨_,rfl⟩
 ·rw [Int.min_eq_left (Int.not_lt.mp h),decide_eq_false h];exact ⟨_,rfl⟩
noncomputable def dd (x y:UInt64):Bool:=Float64.cmp x y==some .lt
noncomputable def oT (x y:UInt64):UInt64:=if dd x y then y else x
noncomputable def oU (x y:UInt64):UInt64:=if dd y x then y else x
theorem oh {A:Around} {a b c:Value} {E:Value->Shared->Prop} {op:CmpOp} {bt:Nat->Nat->Bool} {Q:Value->Shared->Prop} (hh:A.handled=none) (hc:CmpOf C.prog C.w A.in1 op (fun i v=>(#[a,b,c]:Array Value)[i]?=some v) bt)
 (h:∀ h' tk v,(#[a,b,c]:Array Value)[argBest bt 2]?=some v->(∀ b o,s.heap.get? b=some o->h'.get? b=some o)->Q v { s with heap:=h',toks:=tk }) :
 wpAny (model C.prog C.w) A.in1 (pyIter (.ref s.heap.objs.size)) (fun it s₂=>∃ I fp wr n P St bt,it=.ref I/\Walks C.prog C.w A.in1 I fp wr n P St/\St 0 s₂.heap/\(∀ b∈fp,b<s₂.heap.objs.size)/\0<n/\CmpOf C.prog C.w A.in1 op P bt /\
  ∀ v h' tk,P (argBest bt (n - 1)) v->(∀ b o,b∉wr->s₂.heap.get? b=some o->h'.get? b=some o)->Q v { s₂ with heap:=h',toks:=tk }) E
  { s with heap:=s.heap.push { cls:=.type "tuple",data:=.seq #[a,b,c] } }:=by
 have hT:(s.heap.push { cls:=.type "tuple",data:=.seq #[a,b,c] }).IsTuple s.heap.objs.size #[a,b,c]:=⟨_,Heap.get?_push_size _ rfl,rfl,0,rfl⟩
 have hsz:(s.heap.push { cls:=.type "tuple",data:=.seq #[a,b,c] }).objs.size=s.heap.objs.size+1:=Heap.size_push ..
 refine wpAny_pyIter_tuple hT ⟨_,[_,s.heap.objs.size],[_],_,_,_,bt,rfl,Walks.tuple (A:=A.in1) hh _ s.heap.objs.size (by rw [hsz];exact Nat.ne_of_lt (Nat.lt_succ_self _)) #[a,b,c],
  ⟨⟨_,Heap.get?_push_size _ rfl,rfl,rfl⟩,hT.push _⟩,fun c hc=>?_,by exact size_pos_of_not_empty rfl,hc,fun v h' tk hP hk=>h h' tk v hP fun c o e=>?_⟩
 ·show c<((s.heap.push _).push _).objs.size
  rw [Heap.size_push,hsz]
  rcases List.mem_cons.mp hc with rfl | hc
  ·rw [hsz];exact Nat.lt_succ_self _
  ·rcases List.mem_cons.mp hc with rfl | hc
   ·exact Nat.lt_succ_of_lt (Nat.lt_succ_self _)
   ·cases hc
 ·refine hk c o (fun hm=>?_) (Heap.get?_push_of_some _ (Heap.get?_push_of_some _ e))
  rcases List.mem_cons.mp hm with e1 | hm
  ·have:=Heap.lt_size e;rw [e1,hsz] at this;exact Nat.lt_irrefl _ (Nat.lt_of_succ_lt this)
  ·cases hm
theorem lJ {x y z:UInt64}:FnOk C k (.builtin "max") [.flt x,.flt y,.flt z] σ (.flt (oT (oT x y) z)) σ:=by
 intro A X s as rm S r Q E hQ
 obtain ⟨p,q,rfl,r1,r2⟩:=r.inv_cons
 obtain ⟨p2,q,rfl,r3,r4⟩:=r2.inv_cons
 obtain ⟨p3,q,rfl,r5,r6⟩:=r4.inv_cons
 rw [r6.inv_nil]
 obtain ⟨t,rfl⟩:=r1
 obtain ⟨u,rfl⟩:=r3
 obtain ⟨v,rfl⟩:=r5
 have hnum:∀ w∈(#[.float x t,.float y u,.float z v]:Array Value),NumV w:=by simp [NumV.float]
 refine bL (call_max_three ?_)
 refine oh (C:=C) (s:=s) (Q:=fun v s'=>s.heap.objs.size<=s'.heap.objs.size->Q v s') rm.handled (cmpOf_gt _ hnum) fun h' tk w hw hk=>?_
 intro hs
 obtain ⟨S',e⟩:=S.kept tk hk hs
 refine hQ _ X _ S' e ?_
 simp only [argBest] at hw
 have e1:ltV (.float x t) (.float y u)=dd x y:=rfl
 have e2:ltV (.float x t) (.float z v)=dd x z:=rfl
 have e3:ltV (.float y u) (.float z v)=dd y z:=rfl
 simp only [Array.getD_eq_getD_getElem?] at hw
 simp at hw
 rw [e1] at hw
 unfold oT
 by_cases h1:dd x y=true
 ·rw [if_pos h1] at hw ⊢
  simp only [List.getElem?_cons_succ,List.getElem?_cons_zero,Option.getD_some,e3] at hw
  by_cases h2:dd y z=true
  ·rw [if_pos h2] at hw ⊢;simp at hw;subst hw;exact ⟨_,rfl⟩
  ·rw [if_neg h2] at hw ⊢;simp at hw;subst hw;exact ⟨_,rfl⟩
 ·rw [if_neg h1] at hw ⊢
  simp only [List.getElem?_cons_succ,List.getElem?_cons_zero,Option.getD_some,e2] at hw
  by_cases h2:dd x z=true
  ·rw [if_pos h2] at hw ⊢;simp at hw;subst hw;exact ⟨_,rfl⟩
  ·rw [if_neg h2] at hw ⊢;simp at hw;subst hw;exact ⟨_,rfl⟩
theorem lK {x y z:UInt64}:FnOk C k (.builtin "min") [.flt x,.flt y,.flt z] σ (.flt (oU (oU x y) z)) σ:=by
 intro A X s as rm S r Q E hQ
 obtain ⟨p,q,rfl,r1,r2⟩:=r.inv_cons
 obtain ⟨p2,q,rfl,r3,r4⟩:=r2.inv_cons
 obtain ⟨p3,q,rfl,r5,r6⟩:=r4.inv_cons
 rw [r6.inv_nil]
 obtain ⟨t,rfl⟩:=r1
 obtain ⟨u,rfl⟩:=r3
 obtain ⟨v,rfl⟩:=r5
 have hnum:∀ w∈(#[.float x t,.float y u,.float z v]:Array Value),NumV w:=by simp [NumV.float]
 refine bL (call_min_three ?_)
 refine oh (C:=C) (s:=s) (Q:=fun v s'=>s.heap.objs.size<=s'.heap.objs.size->Q v s') rm.handled (cmpOf_lt _ hnum) fun h' tk w hw hk=>?_
 intro hs
 obtain ⟨S',e⟩:=S.kept tk hk hs
 refine hQ _ X _ S' e ?_
 simp only [argBest] at hw
 have e1:ltV (.float y u) (.float x t)=dd y x:=rfl
 have e2:ltV (.float z v) (.float x t)=dd z x:=rfl
 have e3:ltV (.float z v) (.float y u)=dd z y:=rfl
 simp only [Array.getD_eq_getD_getElem?] at hw
 simp at hw
 rw [e1] at hw
 unfold oU
 by_cases h1:dd y x=true
 ·rw [if_pos h1] at hw ⊢
  simp only [List.getElem?_cons_succ,List.getElem?_cons_zero,Option.getD_some,e3] at hw
  by_cases h2:dd z y=true
  ·rw [if_pos h2] at hw ⊢;simp at hw;subst hw;exact ⟨_,rfl⟩
  ·rw [if_neg h2] at hw ⊢;simp at hw;subst hw;exact ⟨_,rfl⟩
 ·rw [if_neg h1] at hw ⊢
  simp only [List.getElem?_cons_succ,List.getElem?_cons_zero,Option.getD_some,e2] at hw
  by_cases h2:dd z x=true
  ·rw [if_pos h2] at hw ⊢;simp at hw;subst hw;exact ⟨_,rfl⟩
  ·rw [if_neg h2] at hw ⊢;simp at hw;subst hw;exact ⟨_,rfl⟩
theorem BT {x:UInt64} {sg:Bool} {m:Nat} {e:Int} (hd:Float64.decode x=.fin sg m e):FnOk C k (.type "int") [.flt x] σ (.int (Float64.truncOf sg m e)) σ:=ui fun A s r Q E rm ⟨X,n,h,hr⟩ hq=>by
 obtain ⟨t,rfl⟩:=hr
 exact call_int_float hd (hq _ _ fun _ _ _=>⟨_,rfl⟩)
theorem bo {a:Int}:FnOk C k (.type "range") [.int a] σ (.rng 0 a) σ:=by
 intro A X s as rm S r Q E hQ
 obtain ⟨p,q,rfl,r1,r2⟩:=r.inv_cons
 rw [r2.inv_nil]
 obtain ⟨t,rfl⟩:=r1
 refine call_range_1 ?_
 obtain ⟨S',e⟩:=S.grow (Grow.pusht (s:=s) { cls:=.type "range",data:=.fields #[.int 0 s.toks,.int a t,.int 1 (s.toks+1)] } (s.toks+1+1)) (fun b=>b=s.heap.objs.size) (by rintro b rfl;exact ⟨Nat.le_refl _,_,Heap.get?_push_size _ rfl⟩)
 refine hQ _ _ _ S' e ?_
 exact ⟨_,_,_,_,rfl,.inr rfl,Heap.get?_push_size _ rfl⟩
theorem BU {vs:List V} (hl:vs.length<2 ^ 63):FnOk C k (.builtin "len") [.list vs] σ (.int vs.length) σ:=by
 intro A X s as rm S r Q E hQ
 obtain ⟨p,q,rfl,r1,r2⟩:=r.inv_cons
 rw [r2.inv_nil]
 obtain ⟨p,items,kk,rfl,z,g,rr⟩:=r1
 have hn:items.size=vs.length:=by rw [<-Array.length_toList,rr.length]
 refine Calls.call_len_list ⟨_,g,rfl,kk,rfl⟩ (by rw [hn];exact Iff.mp Int.lt_toNat hl) ?_
 obtain ⟨S',e⟩:=ej S (s.toks+1+1)
 exact hQ _ X _ S' e ⟨_,by rw [hn]⟩
theorem ll {vs us:List V} (hl:vs.length+us.length<=sizeLine):Op2 C k (binaryOp .Add) (.list vs) (.list us) σ (.list (vs++us)) σ:=by
 intro A X s a b rm S r1 r2 Q E hQ
 obtain ⟨p,items,kk,rfl,z,g,q1⟩:=r1
 obtain ⟨p2,items2,kk2,rfl,z2,g2,q2⟩:=r2
 have hn1:items.size=vs.length:=by rw [<-Array.length_toList,q1.length]
 have hn2:items2.size=us.length:=by rw [<-Array.length_toList,q2.length]
 refine concat_meets ⟨_,g,rfl⟩ ⟨_,g2,rfl⟩ noFill_list_add seq_list_add PySem.F.slot_list_add PySem.F.entry_list_add (PySem.F.args_list_add_2 _ _) (list_addW p p2 items items2 kk kk2 none none #[] #[] (by rw [hn1,hn2];exact hl)) ⟨g,g2,?_⟩
 obtain ⟨S',e⟩:=S.grow (Grow.push (cW (items++items2) 0)) (fun b=>b=s.heap.objs.size) (by rintro b rfl;exact ⟨Nat.le_refl _,_,Heap.get?_push_size _ rfl⟩)
 refine hQ _ _ _ S' e ?_
 exact ⟨_,_,_,rfl,.inr rfl,Heap.get?_push_size _ rfl,by simpa using e.rels S (fun _ h=>h.elim) (q1.app q2)⟩
end
end
section
open PySem PyProof.Rows PySem.SeqAt PySem.Flt
section
variable {C:Cx} {k:Nat} {σ:Sto} {X:Wld} {s:Shared} {n0:Nat}
noncomputable def ck {α:Type} (x:List α) (lo hi st:Option Int):List α :=
 (sliceRange (sliceBounds lo hi st x.length).1 (sliceBounds lo hi st x.length).2.1 (sliceBounds lo hi st x.length).2.2).filterMap (x[·]?)
theorem ro {h:Heap} {vs:List V} {as:List Value} (r:VsRel C X n0 h vs as):∀ js:List Nat,VsRel C X n0 h (js.filterMap (vs[·]?)) (js.filterMap (as[·]?))
 | []=>.nil
 | j::js=>by
   have ih:=ro r js
   cases hv:vs[j]? with
   | none =>
     have:as[j]?=none:=by rw [List.getElem?_eq_none_iff] at hv ⊢;rw [r.length];exact hv
     simpa [hv,this] using ih
   | some v =>
     obtain ⟨a,ha,ra⟩:=r.get j hv
     simpa [hv,ha] using VsRel.cons ra ih
theorem iq {vs:List V} {lo hi st:Option Int} {r:List V} (h0:st≠some 0) (hr:ck vs lo hi st=r) (hl:vs.length<=sizeLine):jH C k (.list vs) lo hi st σ (.list r):=by
 intro A X s p sl vl vu vk rm S r1 hs pl pu ps Q E hQ
 obtain ⟨p,items,kk,rfl,z,g,q⟩:=r1
 have hn:items.size=vs.length:=by rw [<-Array.length_toList,q.length]
 refine wpAny_getItem_list_slice (hsz:=by rw [hn];exact hl) ⟨_,g,rfl,kk,rfl⟩ hs pl pu ps h0 ?_
 obtain ⟨S',e⟩:=S.grow (Grow.push (cW (slicePick items lo hi st) 0)) (fun b=>b=s.heap.objs.size) (by rintro b rfl;exact ⟨Nat.le_refl _,_,Heap.get?_push_size _ rfl⟩)
 refine hQ _ _ _ S' e ?_
 refine ⟨_,_,_,rfl,.inr rfl,Heap.get?_push_size _ rfl,e.rels S (fun _ h=>h.elim) ?_⟩
 subst hr
 delta slicePick ck
 rw [hn]
 simpa using ro q _
theorem n5 {α β:Type} (f:α->β) (x:List α) (lo hi st:Option Int):ck (x.map f) lo hi st=(ck x lo hi st).map f:=by
 unfold ck
 rw [List.length_map,List.map_filterMap]
 congr 1
 funext j
 exact List.getElem?_map
theorem rG {l:List Int} {lo hi st:Option Int} (h0:st≠some 0) (hl:l.length<=sizeLine):jH C k (.list (zs l)) lo hi st σ (.list (zs (ck l lo hi st))) :=
 iq h0 (n5 _ _ _ _ _) (by simpa [zs] using hl)
theorem zS {vs:List V}:FnOk C k (.builtin "iter") [.list vs] σ (.loc σ.next) (σ.new (.liter vs)):=by
 intro A X s as rm S r Q E hQ
 obtain ⟨a,q,rfl,r1,r2⟩:=r.inv_cons
 rw [r2.inv_nil]
 obtain ⟨p,items,kk,rfl,z,g,rr⟩:=r1
 refine Calls.call_function_entry (by rfl) (by rfl) PySem.W.kdk_entry_iter (PySem.W.kdk_args_iter _) ?_
 unfold Builtin.«iter»
 refine wpAny_bind (m:=someArgs "iter" 1 2 _) (wpAny_of_eq (a:=[Value.ref p]) (by first | rfl | kernel_rfl) ?_)
 show wpAny _ _ (pyIter (.ref p) >>= _) _ _ _
 refine wpAny_bind (wpAny_pyIter_list ⟨_,g,rfl,kk,rfl⟩ ?_)
 refine wpAny_pure ⟨_,rfl,?_⟩
 have hφ:(X.add σ.next s.heap.objs.size 0 (fun _=>False)).φ σ.next=s.heap.objs.size:=by simp [Wld.add]
 have hg:(s.heap.push { cls:=.type "list_iterator",data:=.fields #[.ref p,.int 0 0] }).get? s.heap.objs.size=some { cls:=.type "list_iterator",data:=.fields #[.ref p,.int 0 0] }:=Heap.get?_push_size _ rfl
 obtain ⟨S',e⟩:=S.newO (o:=.liter vs) (Grow.push { cls:=.type "list_iterator",data:=.fields #[.ref p,.int 0 0] }) s.heap.objs.size 0 (fun _=>False) (fun _ h=>h.elim)
  (fun c m=>by
    simp only [foot,List.mem_singleton] at m
    rw [hφ] at m
    subst m
    exact ⟨Nat.le_refl _,⟨_,hg⟩,fun h=>h⟩)
  ⟨p,0,items,kk,by rw [hφ];exact ⟨_,hg,rfl,rfl⟩,.inl z,Heap.get?_push_of_some _ g,by
    rw [List.drop_zero]
    exact rr.mono (X':=X.add σ.next s.heap.objs.size 0 (fun _=>False)) (fun b o _ e=>Heap.get?_push_of_some _ e) (fun _ z=>.inl z) (Nat.le_succ _) fun l hl=>by simp [Wld.add,Nat.ne_of_lt hl],Nat.zero_le _⟩
 refine hQ _ _ _ S' e ?_
 dsimp only [Sto.new]
 exact ⟨Nat.lt_succ_self _,by rw [hφ]⟩
end
end
section
open PySem PyProof.Rows PySem.SeqAt PySem.Flt
section
variable {C:Cx} {k:Nat} {σ:Sto} {X:Wld} {s:Shared} {n0:Nat}
theorem pU {A:Around} {E:Value->Shared->Prop} {it l:Addr} {i:Nat} {items} {x:Value} {Q:Option Value->Shared->Prop} (hit:s.heap.IsListIter it l i)
 (hl:s.heap.IsList l items) (hx:items[i]?=some x)
 (hQ:∀ h',h'.IsListIter it l (i+1)->Heap.SameBut it s.heap h'->Q (some x) { s with heap:=h' }) :
 wpAny (model C.prog C.w) A (callSpecial? (.ref it) (Str.ofString "__next__")) Q E s:=by
 refine via fun _ g0=>?_
 obtain ⟨o,ho,hc,hd⟩:=id hit
 obtain ⟨ol,hol,_,nl,hdl⟩:=hl
 refine g0 ?_
 refine wpAny_callSpecial?_slot (name:=Str.ofString "__next__") hit.typeIs slot_listiter_next
  (wpAny_call_entry slot_listiter_next hit.typeIs entry_listiter_next ?_ (args_listiter_next _))
 show wpAny _ _ (field (.ref it) 0 >>= _) _ _ s
 refine wpAny_bind (wpAny_field ho hd (x:=.ref l) rfl ?_)
 show wpAny _ _ (if (Value.ref l==Value.none)=true then _ else _) _ _ s
 rw [if_neg (show ¬ ((Value.ref l==Value.none)=true) from Bool.false_ne_true)]
 show wpAny _ _ (field (.ref it) 1 >>= _) _ _ s
 refine wpAny_bind (wpAny_field ho hd (x:=.int i 0) rfl ?_)
 show wpAny _ _ (seqItems? (.ref l) >>= _) _ _ s
 refine wpAny_bind (wpAny_seqItems hol hdl ?_)
 simp only [Int.toNat_natCast,hx]
 refine wpAny_bind (wpAny_setField ho hd (by simp) (wpAny_pure ⟨x,rfl,hQ _ ?_ (Heap.SameBut.update ..)⟩))
 exact ⟨_,Heap.get?_update_self _ ho (Obj.isFreed_of_fields (Obj.data_mapFields hd _)),(Obj.cls_mapFields ..).trans hc,by
  rw [Obj.data_mapFields hd];rfl⟩
theorem SRel.turnIter {X:Wld} {s:Shared} {l:Nat} {vs us:List V} {h':Heap} {tk:Nat} {p:Addr} {i:Nat} {items:Array Value} {kk:Nat} (S:SRel C σ X s) (hl:σ.get l=some (.liter vs)) (hs:Heap.SameBut (X.φ l) s.heap h') (z:X.Z p)
 (hi:h'.IsListIter (X.φ l) p i) (g:s.heap.get? p=some (cW items kk)) (hr:VsRel C X σ.next s.heap us (items.toList.drop i)) (hsz:i<=items.size) :
 SRel C (σ.set l (.liter us)) X { s with heap:=h',toks:=tk }/\Evo C NoP σ X s (σ.set l (.liter us)) X { s with heap:=h',toks:=tk }:=by
 have nz:¬ X.Z (X.φ l):=S.zw _ (.inr ⟨l,_,hl,by simp [foot]⟩)
 have kz:∀ b o,X.Z b->s.heap.get? b=some o->h'.get? b=some o:=fun b o z e=>(hs.2 b (fun q=>nz (q▸z))).trans e
 obtain ⟨o',ho',_⟩:=id hi
 refine S.setO (o':=.liter us) hl rfl (fun b ob nb e=>(hs.2 b (by exact List.ne_of_not_mem_cons nb)).trans e) (fun b m=>by simp only [foot,List.mem_singleton] at m;subst m;exact ⟨_,ho'⟩) (Nat.le_of_eq hs.1.symm) rfl rfl ?_
 exact ⟨p,i,items,kk,hi,z,kz _ _ z g,hr.mono kz (fun _ z=>z) (Nat.le_refl _) fun _ _=>rfl,hsz⟩
theorem ug {l:Nat} {v:V} {vs:List V} (hl:σ.get l=some (.liter (v::vs))):FnOk C k (.builtin "next") [.loc l] σ v (σ.set l (.liter vs)):=by
 intro A X s as rm S r Q E hQ
 obtain ⟨a,q,rfl,r1,r2⟩:=r.inv_cons
 rw [r2.inv_nil]
 obtain ⟨_,rfl⟩:=r1
 obtain ⟨p,i,items,kk,hit,z,g,rr,hsz⟩:=S.obj l _ hl
 obtain ⟨x,q,ex,rx,rq⟩:=rr.inv_cons
 have hx:items[i]?=some x:=by
  rw [<-Array.getElem?_toList]
  have:(items.toList.drop i)[0]?=some x:=by rw [ex];rfl
  simpa using this
 refine Calls.call_function_entry (by rfl) (by rfl) PySem.W.kdk_entry_next (PySem.W.kdk_args_next _) ?_
 unfold Builtin.«next»
 refine wpAny_bind (m:=someArgs "next" 1 2 _) (wpAny_of_eq (a:=[Value.ref (X.φ l)]) (by first | rfl | kernel_rfl) ?_)
 dsimp only
 refine wpAny_bind (wpAny_specialOf (name:=Str.ofString "__next__") hit.typeIs slot_listiter_next.lookup ?_)
 refine wpAny_ite_split (fun hab=>absurd hab (by decide)) (fun _=>?_)
 refine wpAny_bind (pU hit ⟨_,g,rfl,kk,rfl⟩ hx fun h' hit' hs=>?_)
 have hlt:i<items.size:=(Array.getElem?_eq_some_iff.mp hx).1
 obtain ⟨S',e⟩:=S.turnIter (tk:=s.toks) (us:=vs) (i:=i+1) hl hs z hit' g (by
  have:items.toList.drop (i+1)=q:=by
   have e2:=congrArg (List.drop 1) ex
   simpa [List.drop_drop] using e2
  rw [this];exact rq) (by assumption)
 exact wpAny_pure ⟨_,rfl,hQ _ X _ S' e (e.rel S (fun _ h=>h.elim) rx)⟩
end
end
section
open PySem PyProof.Rows PySem.SeqAt PySem.Flt
set_option maxRecDepth 100000
section
variable {C:Cx} {k:Nat} {σ:Sto} {X:Wld} {s:Shared} {n0:Nat}
theorem shift {prog:Program} {w:World} {A:Around} {I:Addr} {fp wr:List Addr} {G:Array GenState->Array GenState->Prop} {n:Nat} {P:Nat->Value->Prop} {St:Nat->Shared->Prop} (W:WalksS prog w A I fp wr G n P St) (i:Nat) (hi:i<=n) :
 WalksS prog w A I fp wr G (n - i) (fun j=>P (i+j)) (fun j=>St (i+j)) where
 sub:=W.sub
 grefl:=W.grefl
 gtrans:=W.gtrans
 frame:=fun j=>W.frame (i+j)
 item:=fun j s Q E hj hs hQ=>W.item (i+j) s Q E (by exact Nat.add_lt_of_lt_sub' hj) hs hQ
 done:=fun s Q E hs hQ=>W.done s Q E ((show i+(n - i)=n by exact Nat.add_sub_of_le hi)▸hs) hQ
 self:=fun j=>W.self (i+j)
theorem vD {A:Around} {I:Addr} {fp wr:List Addr} {G:Array GenState->Array GenState->Prop} {n:Nat} {P:Nat->Value->Prop} {St:Nat->Shared->Prop} {R:Result->Shared->Prop} (W:WalksS C.prog C.w A.in1 I fp wr G n P St) (hT:∀ i s,St i s->s.TypeIs (.ref I) "list_iterator") (S:Addr) (res:Value) (c₀:Nat) (hst:St 0 s) (hSf:S∉fp) (hI:I∈fp)
 (hS:s.heap.get? S=some { cls:=.type "list",data:=.seq #[] c₀ })
 (hR:∀ s' acc' c',Moved (S::wr) G s s'->s'.heap.get? S=some { cls:=.type "list",dict:=none,data:=.seq acc' c',slots:=#[] }->ItemsOf P acc' n->R (.ok (.ret res)) s') (hn:n<=sizeLine) :
 wpAny (model C.prog C.w) A.in1 (Builtin.List.listExtendWith (.ref S) (.ref I) res)
  (fun fin s'=>match fin with | .done f=>R (.ok f) s' | .again c'=>c'.quiet=true/\codeAny (model C.prog C.w) A c' R s') (fun e s'=>R (.error e) s') s:=by
 have hSI:S≠I:=fun e=>hSf (e▸hI)
 unfold Builtin.List.listExtendWith
 refine wpAny_bind (wpAny_typeOf (hT 0 _ hst) ?_)
 have h1:Builtin.List.listSameRef (.ref S) (.ref I)=false:=by simp [Builtin.List.listSameRef,hSI]
 rw [if_neg (by rw [h1];decide)]
 refine wpAny_bind (W.self 0 _ _ _ hst ?_)
 refine wpAny_bind (wpAny_holding ?_)
 unfold Builtin.List.listLengthHint
 refine wpAny_bind (wpAny_specialOf (hT 0 _ hst) PySem.F.nolen_li ?_)
 show wpAny _ A.in1 (specialOf (Value.ref I) (Str.ofString "__length_hint__") >>= _) _ _ _
 refine wpAny_bind (wpAny_specialOf (hT 0 _ hst) PySem.F.hint_li ?_)
 (generalize hid:("list_iterator.__length_hint__" : String)=id0;(fail_if_success (clear hid id0));wp_delta;rw [show splitId id0=some ("list_iterator", "__length_hint__") from by subst hid;rfl];subst hid)
 refine wpAny_bind (wpAny_isInstance (b:=true) (hT 0 _ hst) (by rw [isSubtype_type];kernel_rfl) ?_)
 refine wpAny_pure ?_
 rw [if_neg (by decide)]
 exact wpAny_pure ⟨plainId_quiet PySem.F.plain_extend_loop _,codeAny_extend_loopS W hn _ hSf _ n 0 _ _ _ rfl (Nat.zero_le _) hst hS (ItemsOf.nil P) hR⟩
theorem oF {A:Around} {E:Value->Shared->Prop} {I:Addr} {fp wr:List Addr} {G:Array GenState->Array GenState->Prop} {n:Nat} {P:Nat->Value->Prop} {St:Nat->Shared->Prop} {Q:Value->Shared->Prop} (W:WalksS C.prog C.w A.in1.in1 I fp wr G n P St) (hT:∀ i s,St i s->s.TypeIs (.ref I) "list_iterator") (hst:St 0 s) (hfp:∀ b∈fp,b<s.heap.objs.size) (hI:I∈fp)
 (hQ:∀ s' acc' c',Moved (s.heap.objs.size::wr) G { s with heap:=s.heap.push { cls:=.type "list",data:=.seq #[] } } s' ->
   s'.heap.get? s.heap.objs.size=some { cls:=.type "list",dict:=none,data:=.seq acc' c',slots:=#[] }->ItemsOf P acc' n->Q (.ref s.heap.objs.size) s') (hn:n<=sizeLine) :
 wpAny (model C.prog C.w) A (call (.type "list") [.ref I]) Q E s:=by
 have hSf:s.heap.objs.size∉fp:=fun hm=>Nat.lt_irrefl _ (hfp _ hm)
 refine callType_codes (Q₁:=fun obj s₁=>obj=.ref s.heap.objs.size/\s₁={ s with heap:=s.heap.push { cls:=.type "list",data:=.seq #[] } }) PySem.F.called_list (PySem.F.typeCall_list_1 _) PySem.F.entry_list_init
  (code_list_new _ ⟨rfl,rfl⟩) fun obj s₁ h₁=>?_
 obtain ⟨rfl,rfl⟩:=h₁
 have hS:(s.heap.push { cls:=.type "list",data:=.seq #[] }).get? s.heap.objs.size=some { cls:=.type "list",data:=.seq #[] }:=Heap.get?_push_size _ rfl
 have hst':=W.frame 0 s (s.heap.push { cls:=.type "list",data:=.seq #[] }) s.toks hst (Nat.le_refl _) fun b _ o e=>Heap.get?_push_of_some _ e
 refine ⟨⟨_,hS,rfl⟩,PySem.F.args_list_init_2 _ _,?_⟩
 show wpAny _ A.in1.in1 (do let old <-Builtin.List.listItems (.ref s.heap.objs.size);Builtin.List.listUpdate (.ref s.heap.objs.size) (fun _=>#[]);letGo old.toList.reverse;Builtin.List.listExtendWith (.ref s.heap.objs.size) (.ref I) .none) _ _ _
 refine wpAny_bind ?_
 unfold Builtin.List.listItems
 refine wpAny_bind (wpAny_seqItems hS rfl (wpAny_pure ?_))
 show wpAny _ A.in1.in1 (updateSeq s.heap.objs.size (fun _=>#[]) >>= fun _=>letGo (#[]:Array Value).toList.reverse >>= fun _=>Builtin.List.listExtendWith (.ref s.heap.objs.size) (.ref I) .none) _ _ _
 refine wpAny_bind (wpAny_updateSeq hS rfl ?_)
 have hS₂:=Heap.get?_update_self (Obj.mapSeq (fun _=>(#[]:Array Value))) hS rfl
 have oth:∀ b o,b≠s.heap.objs.size->(s.heap.push { cls:=.type "list",data:=.seq #[] }).get? b=some o->((s.heap.push { cls:=.type "list",data:=.seq #[] }).update s.heap.objs.size (Obj.mapSeq (fun _=>(#[]:Array Value)))).get? b=some o :=
  fun b o hb e=>(Heap.get?_update_other _ _ (Ne.symm hb)).trans e
 refine wpAny_bind (wpAny_letGo ?_)
 refine vD (A:=A.in1) W hT s.heap.objs.size .none _ (W.frame 0 _ _ s.toks hst' (Nat.le_refl _) fun b hb o e=>oth b o (fun h=>hSf (h▸hb)) e) hSf hI hS₂ (fun s' acc' c' hm hS' hacc=>?_) hn
 exact ⟨rfl,hQ s' acc' c' (Moved.trans W.gtrans ((Moved.refl W.grefl).then_heap (Nat.le_refl _) fun b o hb e=>oth b o (fun h=>hb (h▸List.mem_cons_self)) e) hm) hS' hacc⟩
theorem jO {l l':Nat} {o:O} (e:(σ.del l).get l'=some o):σ.get l'=some o/\l'≠l:=by
 simp only [Sto.del] at e
 split at e
 ·cases e
 ·exact ⟨e,by assumption⟩
theorem SRel.gone {X:Wld} {s s':Shared} {l:Nat} {o:O} (S:SRel C σ X s) (hl:σ.get l=some o) (ht:C.tab∉foot X l o) (keep:∀ b ob,b∉foot X l o->s.heap.get? b=some ob->s'.heap.get? b=some ob)
 (size:s.heap.objs.size<=s'.heap.objs.size) (os:s'.os=s.os) (gens:s'.gens=s.gens) (N:Addr->Prop) (hN:∀ b,N b->s.heap.objs.size<=b/\∃ o,s'.heap.get? b=some o) :
 SRel C (σ.del l) (X.more N) s'/\Evo C NoP σ X s (σ.del l) (X.more N) s':=by
 have wl:∀ b∈foot X l o,Wr C σ X b:=fun b m=>.inr ⟨l,o,hl,m⟩
 have kz:∀ b ob,X.Z b->s.heap.get? b=some ob->s'.heap.get? b=some ob:=fun b ob z e=>keep b ob (fun m=>S.zw b (wl b m) z) e
 have wr:∀ b,Wr C (σ.del l) (X.more N) b->Wr C σ X b/\b∉foot X l o:=fun b w=>by
  rcases Wr_more.mp w with w | ⟨l',o',e,m⟩
  ·exact ⟨.inl w,fun m=>ht (w▸m)⟩
  ·obtain ⟨e,hne⟩:=jO e
   exact ⟨.inr ⟨l',o',e,m⟩,fun m'=>hne (S.apart l' l o' o b e hl m m')⟩
 have kw:∀ b ob,Wr C (σ.del l) (X.more N) b->s.heap.get? b=some ob->s'.heap.get? b=some ob:=fun b ob w e=>keep b ob (wr b w).2 e
 refine ⟨⟨fun b ob e n=>kz _ _ (S.zb b ob e n) (S.base b ob e n),(S.tab.imp fun ps t=>⟨kw _ _ (.inl rfl) t.1,t.2.mono kz fun _ z=>.inl z⟩),fun b ob e n=>.inl (S.zb b ob e n),fun b z=>z.elim (fun z=>(S.zl b z).imp fun ob e=>kz _ _ z e) fun n=>(hN b n).2,
  os.trans S.os,gens.trans S.gens,fun l' o' e=>S.lt l' o' (jO e).1,fun l' o' e=>?_,fun l1 l2 o1 o2 b e e' m m'=>S.apart l1 l2 o1 o2 b (jO e).1 (jO e').1 (by cases o1<;>exact m) (by cases o2<;>exact m'),fun b w z=>?_,fun b w=>(S.wl b (wr b w).1).imp fun ob e=>kw _ _ w e⟩,
  ⟨size,fun b ob e nw _=>keep b ob (fun m=>nw (wl b m)) e,fun b z=>.inl z,fun b z=>z.imp id fun n=>.inl (hN b n).1,fun b w=>.inl (wr b w).1,Nat.le_refl _,fun _ _=>⟨rfl,rfl,rfl⟩⟩⟩
 ·obtain ⟨e,hne⟩:=jO e
  refine (S.obj l' o' e).mono kz (fun b ob m g=>keep b ob (fun m'=>hne (S.apart l' l o' o b e hl m m')) g) (fun b z=>.inl z) (Nat.le_refl _) (fun _ _=>⟨rfl,rfl,rfl⟩) (S.lt l' o' e)
 ·rcases z with z | n
  ·exact S.zw b (wr b w).1 z
  ·obtain ⟨ob,e⟩:=S.wl b (wr b w).1
   exact Nat.lt_irrefl _ (Nat.lt_of_lt_of_le (Heap.lt_size e) (hN b n).1)
theorem mW {P:Nat->Value->Prop} {h:Heap} {vs:List V}:∀ {acc:List Value},acc.length=vs.length->(∀ (j:Nat) (a:Value),acc[j]?=some a->∃ u:V,vs[j]?=some u/\VRel C X n0 h u a)->VsRel C X n0 h vs acc:=by
 induction vs with
 | nil=>intro acc e _;rw [List.eq_nil_of_length_eq_zero e];exact .nil
 | cons v vs ih =>
   intro acc e f
   obtain ⟨a,acc,rfl,e2⟩:=vT e
   obtain ⟨u,e1,r⟩:=f 0 a rfl
   exact .cons (Option.some.inj e1▸r) (ih e2 fun j b hb=>f (j+1) b hb)
theorem qE {l:Nat} {vs:List V} (hl:σ.get l=some (.liter vs)) (hz:vs.length<=sizeLine):FnOk C k (.type "list") [.loc l] σ (.list vs) (σ.del l):=by
 intro A X s as rm S r Q E hQ
 obtain ⟨a,q,rfl,r1,r2⟩:=r.inv_cons
 rw [r2.inv_nil]
 obtain ⟨_,rfl⟩:=r1
 obtain ⟨p,i,items,kk,hit,z,g,rr,hsz⟩:=S.obj l _ hl
 have hl':s.heap.IsList p items:=⟨_,g,rfl,kk,rfl⟩
 have hne:p≠X.φ l:=fun e=>S.zw _ (.inr ⟨l,_,hl,by simp [foot]⟩) (e▸z)
 have hlen:items.size - i=vs.length:=by rw [<-rr.length];simp
 have W:=shift (Walks.list (prog:=C.prog) (w:=C.w) (A:=A.in1.in1) rm.handled (X.φ l) p hne items).toS i hsz
 obtain ⟨oi,hoi,hci,hdi⟩:=id hit
 refine bL (oF W (fun j s st=>st.1.typeIs) ⟨hit,hl'⟩ (fun b hb=>?_) (by exact List.mem_cons_self) (fun s' acc' c' hm hS' hacc hs=>?_) (by rw [hlen];exact hz))
 ·simp only [List.mem_cons,List.not_mem_nil,or_false] at hb
  rcases hb with rfl | rfl
  ·exact Heap.lt_size hoi
  ·exact Heap.lt_size g
 ·have keep:∀ b ob,b∉foot X l (.liter vs)->s.heap.get? b=some ob->s'.heap.get? b=some ob:=fun b ob nb e=>hm.heap b ob (fun hmem=>by
   simp only [List.mem_cons,List.not_mem_nil,or_false] at hmem
   rcases hmem with q | q
   ·exact Nat.lt_irrefl _ (q▸Heap.lt_size e)
   ·exact nb (by simp [foot,q])) (Heap.get?_push_of_some _ e)
  have ht:C.tab∉foot X l (.liter vs):=fun m=>by
   simp only [foot,List.mem_singleton] at m
   obtain ⟨ps,e,_⟩:=S.tab
   rw [m,hoi] at e
   cases e
   cases hci
  obtain ⟨S',e⟩:=S.gone hl ht keep hs hm.os hm.gens (fun b=>b=s.heap.objs.size) (by rintro b rfl;exact ⟨Nat.le_refl _,_,hS'⟩)
  refine hQ _ _ _ S' e ?_
  have kz:∀ b ob,X.Z b->s.heap.get? b=some ob->s'.heap.get? b=some ob:=fun b ob z e=>keep b ob (fun m=>S.zw b (.inr ⟨l,_,hl,m⟩) z) e
  refine ⟨_,acc',c',rfl,.inr rfl,hS',(mW (P:=fun _ _=>True) ?_ ?_:VsRel C (X.more fun b=>b=s.heap.objs.size) σ.next s'.heap vs acc'.toList)⟩
  ·rw [Array.length_toList,hacc.1,hlen]
  ·intro j a ha
   have hP:=hacc.2 j a (by simpa using ha)
   have:(items.toList.drop i)[j]?=some a:=by
    rw [List.getElem?_drop]
    have:items[i+j]?=some a:=hP
    simpa using this
   obtain ⟨u,e1,r⟩:=rr.getA j this
   exact ⟨u,e1,r.mono (X':=X.more fun b=>b=s.heap.objs.size) kz (fun _ z=>.inl z) (Nat.le_refl _) fun _ _=>rfl⟩
end
end
section
open PySem PyProof.Rows PySem.SeqAt PySem.Flt
set_option maxRecDepth 100000
section
variable {C:Cx} {k:Nat} {σ:Sto} {X:Wld} {s:Shared} {n0:Nat}
noncomputable def cS (x:List Nat):List V:=x.map fun c=>.str [c]
theorem sT {x:List Nat} (hx:x.length<=sizeLine):FnOk C k (.type "list") [.str x] σ (.loc σ.next) (σ.new (.list (cS x))):=by
 intro A X s as rm S r Q E hQ
 obtain ⟨a,q,rfl,r1,r2⟩:=r.inv_cons
 rw [r2.inv_nil]
 obtain ⟨t,rfl⟩:=r1
 refine bL (call_list_str (hn:=by rw [<-Array.length_toList];exact hx) rm.handled (ao x) t fun h' tk acc c' hk hS hacc hs=>?_)
 have hφ:(X.add σ.next s.heap.objs.size 0 (fun _=>False)).φ σ.next=s.heap.objs.size:=by simp [Wld.add]
 have hlen:acc.toList.length=x.length:=by rw [Array.length_toList,hacc.1];exact a7 x
 obtain ⟨S',e⟩:=S.newO (o:=.list (cS x)) (⟨hk,hs,rfl,rfl⟩:Grow s { s with heap:=h',toks:=tk }) s.heap.objs.size 0 (fun _=>False) (fun _ h=>h.elim)
  (fun c m=>by
    simp only [foot,List.mem_singleton] at m
    rw [hφ] at m
    subst m
    exact ⟨Nat.le_refl _,⟨_,hS⟩,fun h=>h⟩)
  ⟨acc,c',by rw [hφ];exact hS,mW (P:=fun _ _=>True) (by simp [cS,hlen]) fun j a ha=>by
    obtain ⟨c,u,e,h⟩:=hacc.2 j a (by simpa using ha)
    subst h
    have e':x[j]?=some c:=by simpa using e
    exact ⟨.str [c],by simp [cS,e'],⟨_,rfl⟩⟩⟩
 refine hQ _ _ _ S' e ?_
 dsimp only [Sto.new]
 exact ⟨Nat.lt_succ_self _,by rw [hφ]⟩
end
end
section
open PySem PyProof.Rows PySem.SeqAt PySem.Flt
section
variable {C:Cx} {k:Nat} {σ:Sto} {X:Wld} {s:Shared} {n0:Nat}
noncomputable def atK (ks:List Int) (vs:List V) (i:Int):Option V:=(ks.zip vs).lookup i
theorem u5 {h:Heap} {i:Int}:∀ {ks:List Int} {vs:List V} {as:List Value},VsRel C X n0 h vs as->(atK ks vs i=none/\wB ks as i=none)\/∃ v a,atK ks vs i=some v/\wB ks as i=some a/\VRel C X n0 h v a
 | [],vs,as,_=>.inl ⟨rfl,rfl⟩
 | _::_,[],as,r=>by rw [r.inv_nil];exact .inl ⟨rfl,rfl⟩
 | j::ks,v::vs,as,r=>by
   obtain ⟨a,q,rfl,r1,r2⟩:=r.inv_cons
   have ih:=u5 (i:=i) (ks:=ks) r2
   unfold atK wB at ih ⊢
   simp only [List.zip_cons_cons,List.zip_cons_cons,List.lookup_cons,List.lookup_cons]
   cases i==j with
   | true=>exact .inr ⟨v,a,rfl,rfl,r1⟩
   | false=>exact ih
theorem isInt_self (i:Int) (t:Tok):(intKind C.prog C.w).is i (.int i t)=true:=by exact intKind_is (Cx.prog C) (Cx.w C) i t
theorem DN {p:Addr} (h:p≠sysModules):(p==sysModules)=false:=beq_eq_false_iff_ne.mpr h
theorem vL {ks:List Int} {vs:List V} {name:Nm} {id:String} (slot:Slot "dict" (ao name) id) (hty:typeOf (.builtin id)=pure (.type "method_descriptor")):wD C (.dict ks vs) σ name (.builtin id):=by
 intro A X s a pl S r Q E hQ
 obtain ⟨p,as,rfl,z,np,g,q⟩:=r
 exact getMethod_builtin g.typeIs PySem.F.plainAttrs_dict slot hty g.noDict hQ
theorem sS {ks:List Int} {vs:List V} {i:Int} {d:V}:FnOk C k (.builtin "dict.get") [.dict ks vs,.int i,d] σ ((atK ks vs i).getD d) σ:=by
 intro A X s as rm S r Q E hQ
 obtain ⟨a,q,rfl,r1,r2⟩:=r.inv_cons
 obtain ⟨b,q,rfl,r3,r4⟩:=r2.inv_cons
 obtain ⟨c,q,rfl,r5,r6⟩:=r4.inv_cons
 rw [r6.inv_nil]
 obtain ⟨p,as,rfl,z,np,g,rr⟩:=r1
 obtain ⟨t,rfl⟩:=r3
 obtain ⟨S',e⟩:=ej S (s.toks+1)
 refine call_meetsIn PySem.F.slot_dict_get g.typeIs PySem.F.entry_dict_get (PySem.F.args_dict_get_3 _ _ _) (meets_dict_get_default (intKind C.prog C.w) p (isInt_self i t) (DN np) c) ⟨_,g,?_⟩
 rcases u5 (i:=i) (ks:=ks) rr with ⟨e1,e2⟩ | ⟨v,a,e1,e2,r⟩
 ·rw [e2];exact hQ _ X _ S' e (by rw [e1];exact r5)
 ·rw [e2];exact hQ _ X _ S' e (by rw [e1];exact r)
end
end
section
open PySem PyProof.Rows PySem.SeqAt PySem.Flt
set_option maxRecDepth 100000
open PySem.W (findIn typeIn clsIn findObj plainGet hasDictIn plainOver makesIn takerIn isFn instObj InstAt dictOf getL)
structure LexOk (C:Cx):Prop where
 inb:C.K.In C.base
 nt:C.K.lookup C.tab=none
 plain:plainGet C.K C.cls default=true
 sa:findIn C.K (.ref C.cls) "__setattr__"=some (some (.builtin "object.__setattr__"))
 hd:hasDictIn C.K C.cls=true
 over:plainOver C.K C.cls=true
 makes:makesIn C.K C.cls=true
 rc:findIn C.K (.ref C.cls) "_read_char"=some (some (.ref C.rc))
 rcf:isFn C.K (.ref C.rc)=true
 rcg:PySem.W.specialIn C.K (.ref C.rc) "__get__"=some (some (.builtin "function.__get__"))
 rct:PySem.W.takesIn C.K (.ref C.rc)=some false
 dat:∀ x∈[aS,aN,bZ,dN],findIn C.K (.ref C.cls) x=some none/\takerIn C.K C.cls x=some none
section
variable {C:Cx} {k:Nat} {ρ:Loc} {σ σ1:Sto} {X:Wld} {s:Shared} {n0:Nat} {lx lf pb:Nat} {line:Int}
theorem LexOk.kin (L:LexOk C) (S:SRel C σ X s):C.K.In s.heap:=fun a o e=>S.base a o (L.inb a o e) (fun q=>by rw [q,L.nt] at e;cases e)
theorem LexAt.instAt (A:LexAt C X n0 s.heap lx lf line pb):∃ d f,InstAt s.heap (X.φ lx) (instObj C.cls (X.ψ lx)) C.cls (some (j3 d line f (X.φ pb)))/\StreamAt C X s.heap f (X.φ lf):=by
 obtain ⟨d,f,g,st⟩:=A.dict
 exact ⟨d,f,⟨A.inst,rfl,rfl,g⟩,st⟩
noncomputable def jo (d:LD) (line:Int) (f pb:Addr) (x:Str):Option (Option Value):=getL x [⟨d.h1,.str aS d.t1,.int line d.t5⟩,⟨d.h2,.str aN d.t2,.ref f⟩,⟨d.h3,.str bZ d.t3,.str white d.t6⟩,⟨d.h4,.str dN d.t4,.ref pb⟩]
theorem j4 (L:LexOk C) (S:SRel C σ X s) (hl:σ.get lx=some (.lexer lf line pb)) {A:Around} {E:Value->Shared->Prop} {x:Str} {val:LD->Addr->Value} {Q:Value->Shared->Prop} (hx:x∈[aS,aN,bZ,dN])
 (hv:∀ d f,jo d line f (X.φ pb) x=some (some (val d f))) (h:∀ d f,StreamAt C X s.heap f (X.φ lf)->PySem.W.handedIn (val d f)=true/\Q (val d f) { s with toks:=s.toks+1 }) {expr:Bool}:wpAny (model C.prog C.w) A (getAttr (.ref (X.φ lx)) x expr) Q E s:=by
 refine via fun _ g0=>?_
 obtain ⟨d,f,I,st⟩:=LexAt.instAt (S.obj lx _ hl)
 refine g0 ?_
 exact PySem.W.get_value (L.kin S) I (PySem.W.plainGet_of L.plain).1 (PySem.W.findObj_own L.hd (L.dat x hx).1 rfl (hv d f)) (h d f st).1 (h d f st).2
theorem oH {a:Ex} {name:Nm} {vo v:V} (h1:EvE C k a ρ σ vo σ1)
 (h2:∀ (A:Around) (X:Wld) (s:Shared) (o:Value),Room k A->SRel C σ1 X s->VRel C X σ1.next s.heap vo o->∀ (Q:Value->Shared->Prop) (E:Value->Shared->Prop),(∀ r X' s',SRel C σ1 X' s'->Evo C NoP σ1 X s σ1 X' s'->VRel C X' σ1.next s'.heap v r->Q r s')->wpAny (model C.prog C.w) A (getAttr o (ao name) true) Q E s):EvE C k (.attr a name) ρ σ v σ1:=by
 intro n sc e h A env X s rm R Q E hQ
 cases erI h
 rename_i n oe m p hs e1 hn
 subst hn
 rw [arm_eval_Attribute,gR hs]
 refine wpAny_bind (h1 _ _ _ e1 A env X s rm R _ _ fun x X1 s1 R1 v1 r1=>wpAny_bind (wpAny_standAt (wpAny_bind (wpAny_holding ?_))))
 have h2':=h2 A X1 s1 x rm R1.S r1
 rw [aP] at h2'
 refine h2' _ _ fun r X2 s2 S2 v2 r2=>wpAny_bind (wpAny_letTemporaryGo (wpAny_pure (hQ r X2 s2 (R1.evo0 S2 v2) (v1.trans v2.of0) r2)))
theorem iG {d:LD} {f pb:Addr}:jo d line f pb aS=some (some (.int line d.t5)):=by kernel_rfl
theorem vV {d:LD} {f pb:Addr}:jo d line f pb aN=some (some (.ref f)):=by kernel_rfl
theorem pf {d:LD} {f pb:Addr}:jo d line f pb bZ=some (some (.str white d.t6)):=by kernel_rfl
theorem qO {d:LD} {f pb:Addr}:jo d line f pb dN=some (some (.ref pb)):=by kernel_rfl
theorem vB (L:LexOk C) {a:Ex} (h1:EvE C k a ρ σ (.loc lx) σ1) (hl:σ1.get lx=some (.lexer lf line pb)):EvE C k (.attr a (nm aS)) ρ σ (.int line) σ1:=oH h1 fun A X s o rm S r Q E hQ=>by
 obtain ⟨_,rfl⟩:=r
 rw [aP]
 refine j4 L S hl (by exact List.mem_cons_self) (fun _ _=>iG) fun _ _ _=>?_
 obtain ⟨S',ev⟩:=ej S (s.toks+1)
 exact ⟨rfl,hQ _ X _ S' ev ⟨_,rfl⟩⟩
theorem xq (L:LexOk C) {a:Ex} (h1:EvE C k a ρ σ (.loc lx) σ1) (hl:σ1.get lx=some (.lexer lf line pb)):EvE C k (.attr a (nm bZ)) ρ σ (.str (nm white)) σ1:=oH h1 fun A X s o rm S r Q E hQ=>by
 obtain ⟨_,rfl⟩:=r
 rw [aP]
 refine j4 L S hl (by decide) (fun _ _=>pf) fun _ _ _=>?_
 obtain ⟨S',ev⟩:=ej S (s.toks+1)
 exact ⟨rfl,hQ _ X _ S' ev ⟨_,congrArg (Value.str · _) (aP _).symm⟩⟩
theorem zE (L:LexOk C) {a:Ex} (h1:EvE C k a ρ σ (.loc lx) σ1) (hl:σ1.get lx=some (.lexer lf line pb)):EvE C k (.attr a (nm dN)) ρ σ (.loc pb) σ1:=oH h1 fun A X s o rm S r Q E hQ=>by
 obtain ⟨_,rfl⟩:=r
 rw [aP]
 have hp:=LexAt.hpb (S.obj lx _ hl)
 refine j4 L S hl (by decide) (fun _ _=>qO) fun _ _ _=>?_
 obtain ⟨S',ev⟩:=ej S (s.toks+1)
 exact ⟨rfl,hQ _ X _ S' ev ⟨hp,rfl⟩⟩
noncomputable def ka (x:Str):Bool:=x != aS&&x != aN&&x != bZ&&x != dN
theorem lh {d:LD} {f pb:Addr} {x:Str} (hx:ka x=true):jo d line f pb x=some none:=by
 simp only [ka,Bool.and_eq_true,bne_iff_ne,ne_eq] at hx
 obtain ⟨⟨⟨a,b⟩,c⟩,e⟩:=hx
 have q1:(Value.str aS d.t1).isStr x=false:=by simpa [Value.isStr] using Ne.symm a
 have q2:(Value.str aN d.t2).isStr x=false:=by simpa [Value.isStr] using Ne.symm b
 have q3:(Value.str bZ d.t3).isStr x=false:=by simpa [Value.isStr] using Ne.symm c
 have q4:(Value.str dN d.t4).isStr x=false:=by simpa [Value.isStr] using Ne.symm e
 delta jo getL
 simp only [List.find?_cons,q1,q2,q3,q4,List.find?_nil,List.any_cons,List.any_nil]
 rfl
theorem qJ (L:LexOk C) (hl:σ.get lx=some (.lexer lf line pb)) {x:Str} {f:Addr} (hx:ka x=true) (hf:findIn C.K (.ref C.cls) x=some (some (.ref f))) (ht:isFn C.K (.ref f)=true):wD C (.loc lx) σ (nm x) (.ref f):=by
 intro A X s a pl S r Q E hQ
 obtain ⟨_,rfl⟩:=r
 rw [aP]
 obtain ⟨d,f',I,st⟩:=LexAt.instAt (S.obj lx _ hl)
 refine PySem.W.method_fn (L.kin S) I (PySem.W.plainGet_of L.plain).1 (PySem.W.plainGet_of L.plain).2 hf (beq_iff_eq.mp ht) ?_ hQ
 show (PySem.W.lookIn x _).map _=_
 simp only [PySem.W.lookIn_dict]
 rw [show getL x _=some none from lh hx]
 rfl
end
end
section
open PySem PyProof.Rows PySem.SeqAt PySem.Flt
set_option maxRecDepth 100000
open PySem.W (findIn typeIn clsIn findObj plainGet hasDictIn plainOver makesIn takerIn isFn instObj InstAt dictOf getL)
section
variable {C:Cx} {k:Nat} {ρ:Loc} {σ σ1:Sto} {X:Wld} {s:Shared} {n0:Nat} {lx lf pb:Nat} {line:Int}
noncomputable abbrev sRc:Str := "_read_char"
noncomputable abbrev x5:Nm:=nm "iter"
theorem sI:entryFor table "iter"=some Builtin.«iter»:=entryFor_of_fast (by kernel_rfl)
theorem sn (a b:Value):argsOk "iter" ⟨[a,b],[]⟩:=by unfold argsOk;kernel_rfl
theorem pg:typeLookup (.type "method") "__call__"=pure (some (.builtin "method.__call__")):=by rw [typeLookup_type,builtinLookup_eq_fast];kernel_rfl
theorem Dt (L:LexOk C) (S:SRel C σ X s) (hl:σ.get lx=some (.lexer lf line pb)) {A:Around} {E:Value->Shared->Prop} {Q:Value->Shared->Prop}
 (hQ:Q (.ref s.heap.objs.size) { s with heap:=s.heap.push (PySem.W.methodObj (.ref C.rc) (.ref (X.φ lx))),toks:=s.toks+1 }) {expr:Bool}:wpAny (model C.prog C.w) A (getAttr (.ref (X.φ lx)) sRc expr) Q E s:=by
 refine via fun _ g0=>?_
 obtain ⟨d,f,I,st⟩:=LexAt.instAt (S.obj lx _ hl)
 refine g0 ?_
 have hf:findObj C.K C.cls (some (j3 d line f (X.φ pb))) sRc=some (.bind (.builtin "function.__get__") (.ref C.rc)) :=
  PySem.W.findObj_fn L.hd L.rc L.rcg L.rct (by kernel_rfl) (by
   simp only [PySem.W.lookIn_dict]
   exact lh (by kernel_rfl))
 refine PySem.W.get_bind (L.kin S) I (PySem.W.plainGet_of L.plain).1 hf (PySem.W.plainGet_of L.plain).2 (wpAny_call ?_)
 exact PySem.W.fn_get (s:={ s with toks:=s.toks+1 }) (L.kin S:C.K.In s.heap) (beq_iff_eq.mp L.rcf) (PySem.W.handed_on rfl hQ)
theorem vA (H:COk C) (L:LexOk C) {a:Ex} (hg:C.glob x5=some (.bf .iter)) (ha:EvE C k a ρ σ (.loc lx) σ) (hl:σ.get lx=some (.lexer lf line pb)) :
 EvE C k (.call (.glob x5) [.attr a (nm sRc),.cStr []]) ρ σ (.loc σ.next) (σ.new (.citer lx true)):=by
 intro n sc e h A env X s rm R Q E hQ
 cases erI h
 rename_i n fe as p hne e1 e2
 have he:eval (.Call fe as [] p) env=(do callWith p (<-eval fe env) [] (backTo p (starEach as env)) (backToKw p (keywordEach [] env))):=by
  cases fe<;>first | rfl | exact bn hne.symm
 rw [he]
 refine wpAny_bind (et (k:=k) (ρ:=ρ) H hg _ _ _ e1 A env X s rm R _ _ fun x X1 s1 R1 v1 r1=>?_)
 have hx:x=.builtin "iter":=by exact r1
 subst hx
 refine wW (.bi "iter") e2 ?_
 obtain ⟨ea,r,rfl,e3,e4⟩:=aM e2
 obtain ⟨es,r,rfl,e5,e6⟩:=aM e4
 obtain rfl:=cE e6
 refine wpAny_items_cons ?_ (cT e3 _ env)
 cases erI e3
 rename_i n' oe m p' hs e7 hm
 have hm:=f9 hm
 subst hm
 rw [arm_eval_Attribute,gR hs]
 refine wpAny_bind (ha _ _ _ e7 A env X1 s1 rm R1 _ _ fun o X2 s2 R2 v2 r2=>wpAny_bind (wpAny_standAt (wpAny_bind (wpAny_holding ?_))))
 obtain ⟨hlx,rfl⟩:=r2
 refine Dt L R2.S hl ?_
 refine wpAny_bind (wpAny_letTemporaryGo ?_)
 refine wpAny_pure ?_
 obtain ⟨S3,e3'⟩:=R2.S.grow (Grow.pusht (s:=s2) (PySem.W.methodObj (.ref C.rc) (.ref (X2.φ lx))) (s2.toks+1)) (fun b=>b=s2.heap.objs.size) (by rintro b rfl;exact ⟨Nat.le_refl _,_,Heap.get?_push_size _ rfl⟩)
 have R3:=R2.evo0 S3 e3'
 refine wpAny_items_cons (bA (k:=k) (ρ:=ρ) _ _ _ e5 A env _ _ rm R3 _ _ fun t X4 s4 R4 v4 r4=>?_) (cT e5 _ env)
 refine wpAny_items_nil ⟨⟨_,_,R4.S⟩,?_⟩
 obtain ⟨tk,rfl⟩:∃ tk,t=.str (ao []) tk:=r4
 have hb:s4.heap.get? s2.heap.objs.size=some (PySem.W.methodObj (.ref C.rc) (.ref (X2.φ lx))):=v4.zkeep R3.S R3.pz _ _ (.inr rfl) (Heap.get?_push_size _ rfl)
 have zb:X4.Z s2.heap.objs.size:=v4.zm _ (.inr rfl)
 have hφ4:X4.φ lx=X2.φ lx:=(v4.ph lx hlx).1.trans ((e3'.ph lx hlx).1)
 show wpAny _ A (call (.builtin "iter") [.ref s2.heap.objs.size,.str (ao []) tk]) _ _ s4
 refine Calls.call_function_entry (by rfl) (by rfl) sI (sn _ _) ?_
 unfold Builtin.«iter»
 refine wpAny_bind (m:=someArgs "iter" 1 2 _) (wpAny_of_eq (a:=[Value.ref s2.heap.objs.size,.str (ao []) tk]) (by first | rfl | kernel_rfl) ?_)
 dsimp only
 refine wpAny_bind (wpAny_specialOf (name:=Str.ofString "__call__") ⟨_,hb,rfl⟩ pg ?_)
 refine wpAny_ite_split (fun hab=>absurd hab (by decide)) (fun _=>?_)
 refine wpAny_bind (wpAny_rule (wpAny_bind (wpAny_newObj_type (wpAny_pure ⟨_,rfl,?_⟩))))
 have hφ:(X4.add σ.next s4.heap.objs.size 0 (fun _=>False)).φ σ.next=s4.heap.objs.size:=by simp [Wld.add]
 have hlt:=R4.S.lt lx _ hl
 have hg4:(s4.heap.push (jK s2.heap.objs.size tk)).get? s4.heap.objs.size=some (jK s2.heap.objs.size tk):=Heap.get?_push_size _ rfl
 obtain ⟨S5,e5'⟩:=R4.S.newO (o:=.citer lx true) (Grow.push (jK s2.heap.objs.size tk)) s4.heap.objs.size 0 (fun _=>False) (fun _ h=>h.elim)
  (fun c m=>by
    simp only [foot,List.mem_singleton] at m
    rw [hφ] at m
    subst m
    exact ⟨Nat.le_refl _,⟨_,hg4⟩,fun h=>h⟩)
  ⟨Nat.lt_succ_of_lt hlt,s2.heap.objs.size,tk,by rw [hφ];exact hg4,.inl zb,by
    rw [show (X4.add σ.next s4.heap.objs.size 0 (fun _=>False)).φ lx=X2.φ lx from by simp only [Wld.add,if_neg (Nat.ne_of_lt hlt)];exact hφ4]
    exact Heap.get?_push_of_some _ hb⟩
 refine hQ _ _ _ (R4.evo0 S5 e5') ((((v1.trans v2).trans e3'.of0).trans v4).trans e5'.of0) ?_
 dsimp only [Sto.new]
 exact ⟨Nat.lt_succ_self _,by rw [hφ]⟩
end
end
section
open PySem PyProof.Rows PySem.SeqAt PySem.Flt
set_option maxRecDepth 100000
section
variable {C:Cx} {k:Nat} {ρ:Loc} {σ σ1 σ2:Sto} {X:Wld} {s:Shared} {n0:Nat} {lx lf pb l:Nat} {line:Int}
theorem slot_ci:Slot "callable_iterator" "__next__" "callable_iterator.__next__" :=
 .of (owner := "callable_iterator") (n := "__next__") (by rw [typeLookup_type,builtinLookup_eq_fast];kernel_rfl) (by rfl) (by rfl) (by rfl)
  (by first | exact .inl (by rfl) | exact .inr (by decide +kernel)) (by rw [isSubtype_type];kernel_rfl)
theorem lZ:entryFor table "callable_iterator.__next__"=some Builtin.«callable_iterator.__next__»:=entryFor_of_fast (by kernel_rfl)
theorem oB (a:Value):argsOk "callable_iterator.__next__" ⟨[a],[]⟩:=by unfold argsOk;kernel_rfl
theorem nG {M:Model} {A:Around} {E:Value->Shared->Prop} {f:Value} {pos:List Value} {Q:Value->Shared->Prop} (hc:codeAny M A (.call f ⟨pos,[]⟩) (fun r s'=>match r with | .ok (.ret v)=>Q v s' | .ok _=>False | .error e=>E e s') s):wpAny M A (callBorrowed f pos) Q E s:=fun Γ p hΓ=>by
 unfold callBorrowed
 rw [Sem.wp]
 refine wpCode_mono ?_ (hc _ p rfl (hΓ.enter (.call f ⟨pos,[]⟩) none p (by intro x;cases x)))
 intro r s' h
 cases r with
 | error e=>exact h
 | ok f=>cases f<;>first | exact h | exact h.elim
theorem Room.in1 {A:Around} (r:Room (k+1) A):Room k A.in1:=⟨by have:=r.depth;show A.depth+k<=900;exact Nat.le_of_succ_le this,by have:=r.units;simp only [units_in1];lia -abstractProof,r.handled⟩
theorem oD {M:Model} {A:Around} {E:Value->Shared->Prop} {bm f:Addr} {self:Value} {o:Obj} {fd:FuncData} {Q:Bool->Shared->Prop} (hb:s.heap.get? bm=some (PySem.W.methodObj (.ref f) self)) (hf:s.heap.get? f=some o) (hd:o.data=.func fd)
 (hQ:Q true s):wpAny M A (borrowsExactly (.ref bm)) Q E s:=by
 unfold borrowsExactly
 refine wpAny_bind (wpAny_load hb ?_)
 dsimp only
 rw [if_pos (by rfl)]
 show wpAny M A (load f >>= _) Q E s
 refine wpAny_bind (wpAny_load hf ?_)
 rw [hd]
 exact wpAny_pure hQ
noncomputable def ix (C:Cx) (k:Nat) (l:Nat) (σ:Sto) (r:Option V) (σ':Sto):Prop :=
 ∀ (A:Around) (X:Wld) (s:Shared),Room k A->SRel C σ X s->∀ (Q:Option Value->Shared->Prop) (E:Value->Shared->Prop),
   (∀ a X' s',SRel C σ' X' s'->Evo C NoP σ X s σ' X' s'->(match r,a with | none,none=>True | some v,some a=>VRel C X' σ'.next s'.heap v a | _,_=>False)->Q a s')->wpAny (model C.prog C.w) A (pyNext (.ref (X.φ l))) Q E s
structure yW (C:Cx):Prop where
 ex:∃ o fd,C.base.get? C.rc=some o/\C.rc≠C.tab/\o.data=.func fd
theorem v7 (Rc:yW C) {c:Nat} (hl:σ.get l=some (.citer lx true)) (h:FnOkC C k (.ref C.rc) [.loc lx] σ (.str [c]) σ1) (hl1:σ1.get l=some (.citer lx true)):ix C (k+1) l σ (some (.str [c])) σ1:=by
 intro A X s rm S Q E hQ
 refine via fun _ g0=>?_
 obtain ⟨ol,hrc,hrt,fd⟩:∃ o,C.base.get? C.rc=some o/\C.rc≠C.tab/\∃ fd,o.data=.func fd:=let ⟨o,fd,a,b,c⟩:=Rc.ex;⟨o,a,b,fd,c⟩
 obtain ⟨fd,hfd⟩:=fd
 obtain ⟨hlx,bm,t,g,z,gb⟩:=S.obj l _ hl
 refine g0 ?_
 unfold pyNext
 refine wpAny_bind (wpAny_attempt (wpAny_callSpecial?_slot (name:=Str.ofString "__next__") (⟨_,g,rfl⟩:s.TypeIs (.ref (X.φ l)) "callable_iterator") slot_ci
  (wpAny_call_entry slot_ci ⟨_,g,rfl⟩ lZ ?_ (oB _))))
 unfold Builtin.«callable_iterator.__next__»
 refine wpAny_bind (m:=slotArgs "__next__" 0 _) (wpAny_of_eq (a:=(Value.ref (X.φ l),([]:List Value))) (by first | rfl | kernel_rfl) ?_)
 dsimp only
 refine wpAny_bind (wpAny_field g rfl (x:=.bool false) rfl ?_)
 rw [if_neg (by decide)]
 refine wpAny_bind (wpAny_field g rfl (x:=.ref bm) rfl ?_)
 refine wpAny_bind (wpAny_attempt ?_)
 unfold callOutOfASlot
 refine wpAny_bind (oD gb (S.base _ _ hrc hrt) hfd ?_)
 rw [if_pos rfl]
 refine nG (PySem.W.method_call gb (A:=A.in1) ?_)
 refine h A.in1 X s [.ref (X.φ lx)] rm.in1 S (.cons ⟨hlx,rfl⟩ .nil) _ fun r X1 s1 S1 v1 r1=>?_
 refine via fun _ g0=>?_
 obtain ⟨t1,rfl⟩:∃ t,r=.str (ao [c]) t:=r1
 obtain ⟨hlx1,bm1,t',g1,z1,gb1⟩:=S1.obj l _ hl1
 refine g0 ?_
 have hφ:X1.φ l=X.φ l:=(v1.ph l (S.lt l _ hl)).1
 rw [hφ] at g1
 show wpAny _ A.in1 (field (.ref (X.φ l)) 2 >>= _) _ _ s1
 refine wpAny_bind (wpAny_field g1 rfl (x:=.bool false) rfl ?_)
 rw [if_neg (by decide)]
 refine wpAny_bind (wpAny_field g1 rfl (x:=.str Str.empty t') rfl ?_)
 refine wpAny_bind (wpAny_holding ?_)
 refine EqAt.str_str (A:=A.in1) (s:=s1) _ _ _ _ _ _ _ _ ?_
 have:(Str.empty==ao [c])=false:=by
  rw [show Str.empty=ao [] from rfl,oj];rfl
 rw [this]
 skip
 rw [if_pos (by rfl)]
 exact wpAny_pure ⟨_,rfl,wpAny_pure (hQ _ X1 s1 S1 v1 ⟨_,rfl⟩)⟩
theorem x9 (Rc:yW C) (hl:σ.get l=some (.citer lx true)) (h:FnOkC C k (.ref C.rc) [.loc lx] σ (.str []) σ1) (hl1:σ1.get l=some (.citer lx true)):ix C (k+1) l σ none (σ1.set l (.citer lx false)):=by
 intro A X s rm S Q E hQ
 refine via fun _ g0=>?_
 obtain ⟨ol,hrc,hrt,fd,hfd⟩:∃ o,C.base.get? C.rc=some o/\C.rc≠C.tab/\∃ fd,o.data=.func fd:=let ⟨o,fd,a,b,c⟩:=Rc.ex;⟨o,a,b,fd,c⟩
 obtain ⟨hlx,bm,t,g,z,gb⟩:=S.obj l _ hl
 refine g0 ?_
 unfold pyNext
 refine bL (wpAny_bind (wpAny_attempt (wpAny_callSpecial?_slot (name:=Str.ofString "__next__") (⟨_,g,rfl⟩:s.TypeIs (.ref (X.φ l)) "callable_iterator") slot_ci
  (wpAny_call_entry slot_ci ⟨_,g,rfl⟩ lZ ?_ (oB _)))))
 unfold Builtin.«callable_iterator.__next__»
 refine wpAny_bind (m:=slotArgs "__next__" 0 _) (wpAny_of_eq (a:=(Value.ref (X.φ l),([]:List Value))) (by first | rfl | kernel_rfl) ?_)
 dsimp only
 refine wpAny_bind (wpAny_field g rfl (x:=.bool false) rfl ?_)
 rw [if_neg (by decide)]
 refine wpAny_bind (wpAny_field g rfl (x:=.ref bm) rfl ?_)
 refine wpAny_bind (wpAny_attempt ?_)
 unfold callOutOfASlot
 refine wpAny_bind (oD gb (S.base _ _ hrc hrt) hfd ?_)
 rw [if_pos rfl]
 refine nG (PySem.W.method_call gb (A:=A.in1) ?_)
 refine h A.in1 X s [.ref (X.φ lx)] rm.in1 S (.cons ⟨hlx,rfl⟩ .nil) _ fun r X1 s1 S1 v1 r1=>?_
 refine via fun _ g0=>?_
 obtain ⟨t1,rfl⟩:∃ t,r=.str (ao []) t:=r1
 obtain ⟨hlx1,bm1,t',g1,z1,gb1⟩:=S1.obj l _ hl1
 refine g0 ?_
 have hφ:X1.φ l=X.φ l:=(v1.ph l (S.lt l _ hl)).1
 rw [hφ] at g1
 show wpAny _ A.in1 (field (.ref (X.φ l)) 2 >>= _) _ _ s1
 refine wpAny_bind (wpAny_field g1 rfl (x:=.bool false) rfl ?_)
 rw [if_neg (by decide)]
 refine wpAny_bind (wpAny_field g1 rfl (x:=.str Str.empty t') rfl ?_)
 refine wpAny_bind (wpAny_holding ?_)
 refine EqAt.str_str (A:=A.in1) (s:=s1) _ _ _ _ _ _ _ _ ?_
 have:(Str.empty==ao [])=true:=by
  rw [show Str.empty=ao [] from rfl,oj];rfl
 rw [this]
 rw [if_neg (by decide)]
 refine wpAny_bind (wpAny_rule (wpAny_bind ?_))
 wp_delta
 refine wpAny_bind (wpAny_field g1 rfl (x:=.ref bm1) rfl ?_)
 refine wpAny_bind ?_
 unfold slotLetsGo
 refine wpAny_bind (oD gb1 (S1.base _ _ hrc hrt) hfd ?_)
 rw [if_pos rfl]
 refine wpAny_pure ?_
 have upd:∀ (h:Heap) (fs:Array Value) (i:Nat) (v:Value),h.get? (X.φ l)=some { cls:=.type "callable_iterator",data:=.fields fs } ->
  (h.update (X.φ l) (Obj.mapFields (·.setIfInBounds i v))).get? (X.φ l)=some { cls:=.type "callable_iterator",data:=.fields (fs.setIfInBounds i v) }:=fun h fs i v e =>
  Heap.get?_update_self _ e rfl
 refine wpAny_bind (wpAny_setField g1 rfl (by exact size_pos_of_not_empty rfl) ?_)
 have g2:=upd s1.heap _ 0 .none g1
 refine wpAny_bind (wpAny_setField g2 rfl (by exact Nat.le_of_ble_eq_true rfl) ?_)
 have g3:=upd _ _ 1 .none g2
 refine wpAny_setField g3 rfl (by exact Nat.lt_add_one 2) ?_
 have g4:=upd _ _ 2 (.bool true) g3
 generalize hh:(((s1.heap.update (X.φ l) (Obj.mapFields (·.setIfInBounds 0 .none))).update (X.φ l) (Obj.mapFields (·.setIfInBounds 1 .none))).update (X.φ l) (Obj.mapFields (·.setIfInBounds 2 (.bool true))))=h4 at g4
 have sb:Heap.SameBut (X.φ l) s1.heap h4:=by
  subst hh
  refine ⟨by simp [Heap.size_update],fun b hb=>?_⟩
  rw [Heap.get?_update_other _ _ (Ne.symm hb),Heap.get?_update_other _ _ (Ne.symm hb),Heap.get?_update_other _ _ (Ne.symm hb)]
 rw [show ({ s1 with heap:=_ }:Shared)={ s1 with heap:=h4 } from by rfl]
 show wpAny _ A.in1 (do raiseNew (<-newExc (.type "StopIteration") [])) _ _ _
 refine wpAny_bind ?_
 simp only [newExc,newTuple]
 refine wpAny_bind (wpAny_newObj_type ?_ (by size_fits))
 refine wpAny_bind (m:=firstArgMember _ _) (wpAny_of_eq (a:=Value.none) (by first | rfl | (simp only [firstArgMember];rfl)) ?_)
 refine wpAny_newObj_type ?_ (by size_fits)
 dsimp only [raiseNew]
 refine wpAny_bind (wpAny_handled ?_)
 rw [show A.in1.handled=none from rm.handled]
 refine wpAny_bind (wpAny_pure (wpAny_throw ?_))
 refine wpAny_bind (wpAny_isInstance (T := "StopIteration") (b:=true) ⟨_,Heap.get?_push_size _ rfl,rfl⟩ isSubtype_stop ?_)
 refine wpAny_pure fun hs=>?_
 have g5:h4.get? (X1.φ l)=some qi:=by rw [hφ];exact g4
 refine via fun _ g0=>?_
 obtain ⟨S5,e5⟩:=S1.setO (o:=.citer lx true) (o':=.citer lx false) (s':={ s1 with heap:=(h4.push { cls:=.type "tuple",data:=.seq #[] }).push { cls:=.type "StopIteration",data:=.fields (#[.ref h4.objs.size,.none,.none,.none,.bool false,.none]++ownMembersOf (.type "StopIteration") []) } }) hl1 rfl
  (fun b ob nb e=>Heap.get?_push_of_some _ (Heap.get?_push_of_some _ ((sb.2 b (by simpa [foot,hφ] using nb)).trans e)))
  (fun b m=>by simp only [foot,List.mem_singleton] at m;subst m;exact ⟨_,Heap.get?_push_of_some _ (Heap.get?_push_of_some _ g5)⟩)
  (by show _<=((h4.push _).push _).objs.size;rw [Heap.size_push,Heap.size_push,sb.1];omega) rfl rfl
  ⟨hlx1,Heap.get?_push_of_some _ (Heap.get?_push_of_some _ g5)⟩
 refine g0 ?_
 exact hQ _ X1 _ S5 (v1.trans e5) trivial
end
end
section
open PySem PyProof.Rows PySem.SeqAt PySem.Flt
set_option maxRecDepth 100000
noncomputable def o8 (σ:Sto) (l:Nat):Prop:=∃ lx b,σ.get l=some (.citer lx b)
inductive ox (C:Cx) (k:Nat) (l:Nat) (xs:List Nm) (body orelse:List St):Loc->Sto->Fl->Loc->Sto->Prop
 | done {ρ σ σ1 f ρ' σ'} (hn:ix C k l σ none σ1) (h:ExL C k orelse ρ σ1 f ρ' σ'):ox C k l xs body orelse ρ σ f ρ' σ'
 | step {ρ ρ1 ρ2 ρ3 σ σ1 σ2 σ3 v f g} (hn:ix C k l σ (some v) σ1) (hc:o8 σ1 l) (hb:ci ρ xs v=some ρ1) (h1:ExL C k body ρ1 σ1 g ρ2 σ2) (hg:g=.next\/g=.cont) (h2:ox C k l xs body orelse ρ2 σ2 f ρ3 σ3):ox C k l xs body orelse ρ σ f ρ3 σ3
 | ret {ρ ρ1 ρ2 σ σ1 σ2 v u} (hn:ix C k l σ (some v) σ1) (hc:o8 σ1 l) (hb:ci ρ xs v=some ρ1) (h1:ExL C k body ρ1 σ1 (.ret u) ρ2 σ2):ox C k l xs body orelse ρ σ (.ret u) ρ2 σ2
section
variable {C:Cx} {k:Nat} {l:Nat}
theorem rl {M:Model} {A:Around} {E:Value->Shared->Prop} {s:Shared} {X:Wld} {σ:Sto} {t:Expr} {v:Value} {a:Addr} {Q:Unit->Shared->Prop} (S:SRel C σ X s) (hc:o8 σ l) (ha:X.φ l=a) (h:Q () s):wpAny M A (letOwnedTupleGo t (.ref a) v) Q E s:=by
 subst ha
 obtain ⟨lx,b,hl⟩:=hc
 have r:=S.obj l _ hl
 cases b with
 | true=>obtain ⟨_,bm,tk,g,_⟩:=r;exact gi g rfl rfl (by rfl) h
 | false=>obtain ⟨_,g⟩:=r;exact gi g rfl rfl (by rfl) h
theorem BX {xs:List Nm} {body orelse:List St} {ρ:Loc} {σ:Sto} {f:Fl} {ρ':Loc} {σ':Sto} (h:ox C k l xs body orelse ρ σ f ρ' σ') :
 ∀ (n0:Nat) (sc:Scope) (target:Expr) (bodyE orelseE:List Stmt),ca sc target=some xs->mapO (bT n0 sc) bodyE=some body->mapO (bT n0 sc) orelseE=some orelse ->
 ∀ (A:Around) (env:Env) (X:Wld) (s:Shared) (a:Addr) (R:Result->Shared->Prop),Room k A->Rel C env sc ρ σ X s->X.φ l=a->l<σ.next ->
 (∀ g X' s',Rel C env sc ρ' σ' X' s'->Evo C (Pl env) σ X s σ' X' s'->k7 C X' σ'.next s'.heap f g->R (.ok g) s') ->
 codeAny (model C.prog C.w) A (.forLoop target (.ref a) bodyE orelseE env) R s:=by
 induction h with
 | @done ρ σ σ1 f ρ' σ' hn h =>
   intro n0 sc target bodyE orelseE ht hb ho A env X s a R rm RR ha hl hR
   refine codeAny_of_tree ?_
   show wpAny _ A ((forTurn target (.ref a) bodyE orelseE env).onRaise (fun x=>do noteFrame x env;theTreesLotGoes x)) _ _ s
   refine wpAny_noted ?_
   rw [fW]
   subst ha
   refine wpAny_bind (wpAny_standAt (wpAny_bind (wpAny_onRaise (hn A X s rm RR.S _ _ fun r X1 s1 S1 e1 hr=>?_))))
   cases r with
   | some r=>exact hr.elim
   | none =>
     refine wpAny_pure ⟨rfl,?_⟩
     exact qd (h _ _ _ ho A env X1 _ rm (RR.evo0 S1 e1) _ _ fun g X2 s2 R2 v2 fr=>hR g X2 s2 R2 (e1.of0.trans v2) fr)
 | @step ρ ρ1 ρ2 ρ3 σ σ1 σ2 σ3 v f g0 hn hc hbd h1 hg h2 ih =>
   intro n0 sc target bodyE orelseE ht hb ho A env X s a R rm RR ha hl hR
   refine codeAny_of_tree ?_
   show wpAny _ A ((forTurn target (.ref a) bodyE orelseE env).onRaise (fun x=>do noteFrame x env;theTreesLotGoes x)) _ _ s
   refine wpAny_noted ?_
   rw [fW]
   subst ha
   refine wpAny_bind (wpAny_standAt (wpAny_bind (wpAny_onRaise (hn A X s rm RR.S _ _ fun r X1 s1 S1 e1 hr=>?_))))
   cases r with
   | none=>exact hr.elim
   | some r =>
     have hφ1:=(e1.ph l hl).1
     have R1:=RR.evo0 S1 e1
     refine wpAny_bind (rl S1 hc hφ1 (wpAny_bind (asg rm.handled ht hbd R1 hr fun X2 s2 R2 e2=>wpAny_bind (h1 _ _ _ hb A env X2 s2 rm R2 _ _ fun g X3 s3 R3 e3 fr=>?_))))
     have e123:=(e1.of0.trans e2).trans e3
     have hφ3:=(e123.ph l hl).1
     have key:=ih n0 sc target bodyE orelseE ht hb ho A env X3 s3 (X.φ l) R rm R3 hφ3 (Nat.lt_of_lt_of_le hl e123.nx) fun g X4 s4 R4 e4 fr4=>hR g X4 s4 R4 (e123.trans e4) fr4
     rcases hg with rfl | rfl<;>cases g<;>first
      | exact fr.elim
      | exact wpAny_pure ⟨rfl,key⟩
 | @ret ρ ρ1 ρ2 σ σ1 σ2 v u hn hc hbd h1 =>
   intro n0 sc target bodyE orelseE ht hb ho A env X s a R rm RR ha hl hR
   refine codeAny_of_tree ?_
   show wpAny _ A ((forTurn target (.ref a) bodyE orelseE env).onRaise (fun x=>do noteFrame x env;theTreesLotGoes x)) _ _ s
   refine wpAny_noted ?_
   rw [fW]
   subst ha
   refine wpAny_bind (wpAny_standAt (wpAny_bind (wpAny_onRaise (hn A X s rm RR.S _ _ fun r X1 s1 S1 e1 hr=>?_))))
   cases r with
   | none=>exact hr.elim
   | some r =>
     have hφ1:=(e1.ph l hl).1
     have R1:=RR.evo0 S1 e1
     refine wpAny_bind (rl S1 hc hφ1 (wpAny_bind (asg rm.handled ht hbd R1 hr fun X2 s2 R2 e2=>wpAny_bind (h1 _ _ _ hb A env X2 s2 rm R2 _ _ fun g X3 s3 R3 e3 fr=>?_))))
     have e123:=(e1.of0.trans e2).trans e3
     cases g<;>first
      | exact fr.elim
      | exact wpAny_pure (hR _ X3 s3 R3 e123 fr)
theorem kq:Slot "callable_iterator" "__iter__" "callable_iterator.__iter__" :=
 .of (owner := "callable_iterator") (n := "__iter__") (by rw [typeLookup_type,builtinLookup_eq_fast];kernel_rfl) (by rfl) (by rfl) (by rfl)
  (by first | exact .inl (by rfl) | exact .inr (by decide +kernel)) (by rw [isSubtype_type];kernel_rfl)
theorem nu:entryFor table "callable_iterator.__iter__"=some Builtin.«dict_keyiterator.__iter__» :=
 entryFor_alias (id' := "dict_keyiterator.__iter__") (by kernel_rfl) rfl (by decide +kernel) (by kernel_rfl)
theorem oC (a:Value):argsOk "callable_iterator.__iter__" ⟨[a],[]⟩:=by unfold argsOk;kernel_rfl
theorem zo {σ:Sto} {X:Wld} {s:Shared} (S:SRel C σ X s) (hc:o8 σ l):s.TypeIs (.ref (X.φ l)) "callable_iterator":=by
 obtain ⟨lx,b,hl⟩:=hc
 have r:=S.obj l _ hl
 cases b with
 | true=>obtain ⟨_,bm,tk,g,_⟩:=r;exact ⟨_,g,rfl⟩
 | false=>obtain ⟨_,g⟩:=r;exact ⟨_,g,rfl⟩
theorem Ad {σ:Sto} {X:Wld} {s:Shared} {A:Around} {E:Value->Shared->Prop} {Q:Value->Shared->Prop} (S:SRel C σ X s) (hc:o8 σ l) (h:Q (.ref (X.φ l)) s):wpAny (model C.prog C.w) A (pyIter (.ref (X.φ l))) Q E s:=by
 have ht:=zo S hc
 refine wpAny_pyIter_slot ht kq (wpAny_call_entry kq ht nu ?_ (oC _))
 show wpAny _ _ (ret (.ref (X.φ l))) _ _ s
 exact wpAny_pure ⟨_,rfl, "callable_iterator",_,ht,slot_ci.lookup,h⟩
theorem qC {xs:List Nm} {it:Ex} {body orelse:List St} {f:Fl} {ρ ρ':Loc} {σ σ1 σ2:Sto} (h1:EvE C k it ρ σ (.loc l) σ1) (hc:o8 σ1 l) (h2:ox C k l xs body orelse ρ σ1 f ρ' σ2):ExS C k (.for_ xs it body orelse) ρ σ f ρ' σ2:=by
 intro n sc t h A env X s rm R Q E hQ
 cases stI h
 rename_i n t ite a b p hs ht e1 e2 e3
 have he:exec (.For t ite a b p) env=(do
  standAt p
  let x <-foldedSetIterable ite env (<-eval ite env)
  standAt ite.pos
  runOwn (.forLoop t (<-holding [x] (pyIter x)) a b env) env):=rfl
 rw [he]
 refine wpAny_bind (wpAny_standAt (wpAny_bind (h1 _ _ _ e1 A env X s rm R _ _ fun x X1 s1 R1 v1 r1=>?_)))
 rw [ki hs]
 obtain ⟨hl,rfl⟩:=r1
 refine wpAny_bind (wpAny_pure (wpAny_bind (wpAny_standAt (wpAny_bind (wpAny_holding (Ad R1.S hc ?_))))))
 exact wpAny_runOwn (BX h2 n sc t a b ht e2 e3 A env X1 s1 _ _ rm R1 rfl hl fun g X3 s3 R3 v3 fr=>hQ g X3 s3 R3 (v1.trans v3) fr)
end
end
section
open PySem PyProof.Rows PySem.SeqAt PySem.Flt
set_option maxRecDepth 100000
open PySem.W (findIn typeIn clsIn findObj plainGet hasDictIn plainOver makesIn takerIn isFn instObj InstAt dictOf getL putL putN lookIn)
section
variable {C:Cx} {k:Nat} {ρ:Loc} {σ σ1:Sto} {X:Wld} {s:Shared} {n0:Nat} {lx lf pb:Nat} {line:Int}
theorem mR (name:Str) (hsh:Int) (key v:Value):∀ es:List DictEntry,(putL name hsh key v es).length<=es.length+1
 | []=>Nat.le_refl _
 | e::r=>by
   have ih:=mR name hsh key v r
   dsimp only [putL]
   split
   ·simp
   ·simp only [List.length_cons];exact Nat.add_le_add_right ih 1
theorem Ao {A:Around} {K:PySem.W.Frag} {x cl dx:Addr} {es:List DictEntry} {n:Nat} {name:Str} {v:Value} {tk:Tok} {R:Result->Shared->Prop} (Xk:K.In s.heap)
 (hx:s.heap.get? x=some (instObj cl dx)) (hd:s.heap.get? dx=some (dictOf es n)) (hp:plainOver K cl=true) (ht:takerIn K cl name=some none) (hh:hasDictIn K cl=true) (hl:(getL name es).isSome=true) (hz:es.length<=100)
 (h:∀ h',Heap.SameBut dx s.heap h'->h'.get? dx=some (dictOf (putL name (PyData.keyHash C.w.params name) (.str name s.toks) v es) (putN name es n))->R (.ok (.ret .none)) { s with heap:=h',toks:=s.toks+1 }) :
 codeAny (model C.prog C.w) A (.call (.builtin "object.__setattr__") ⟨[.ref x,.str name tk,v],[]⟩) R s:=by
 have I:InstAt s.heap x (instObj cl dx) cl (some (dictOf es n)):=⟨hx,rfl,rfl,hd⟩
 refine PySem.W.osa_open (r:=none) Xk I hp ht fun b=>?_
 obtain ⟨cd,hc,hd'⟩:=PySem.W.any_some hh
 refine wpAny_bind (wpAny_pure (wpAny_bind (wpAny_bind (wpAny_loadPart hx (wpAny_bind ((PySem.W.looks_clsIn Xk hc).here ?_))))))
 rw [hd']
 refine wpAny_pure (a:=some dx) (wpAny_bind (wpAny_pure (wpAny_bind ?_)))
 unfold nsSet
 refine wpAny_bind (wpAny_bind (wpAny_askSetting (wpAny_pure (wpAny_bind (wpAny_mkText (wpAny_bind (wpAny_loadPart hd ?_)))))))
 have c:(!es.toArray.any (·.key.isStr name)&&es.toArray.any (·.refKey))=false:=by
  unfold getL at hl
  rw [List.any_toArray,List.any_toArray]
  split at hl
  ·rename_i en he
   rw [List.any_eq_true.mpr ⟨en,List.mem_of_find?_eq_some he,List.find?_some he⟩];rfl
  ·split at hl
   ·cases hl
   ·rename_i z;rw [Bool.not_eq_true] at z;rw [z,Bool.and_false]
 dsimp only
 rw [aRefKeyMayBeTheName_at,c]
 have hu:=Heap.get?_update_self (Obj.putName name (PyData.keyHash C.w.params name) (.str name s.toks) v) hd (by rw [PySem.W.putName_dict];rfl)
 rw [PySem.W.putName_dict] at hu
 refine wpAny_updatePart hd ?_
 refine wpAny_bind (wpAny_lookBehind hu (pastItsLine_dict (by have:=mR name (PyData.keyHash C.w.params name) (.str name s.toks) v es;rw [List.size_toArray,sizeLine_eq];lia -abstractProof)) ?_)
 exact wpAny_pure (h _ (Heap.SameBut.update ..) hu)
theorem rD {A:Around} {E:Value->Shared->Prop} {K:PySem.W.Frag} {x cl dx:Addr} {es:List DictEntry} {n:Nat} {name:Str} {v:Value} {Q:Unit->Shared->Prop} (Xk:K.In s.heap) (hs:findIn K (.ref cl) "__setattr__"=some (some (.builtin "object.__setattr__")))
 (hx:s.heap.get? x=some (instObj cl dx)) (hd:s.heap.get? dx=some (dictOf es n)) (hp:plainOver K cl=true) (ht:takerIn K cl name=some none) (hh:hasDictIn K cl=true) (hl:(getL name es).isSome=true) (hz:es.length<=100)
 (h:∀ h',Heap.SameBut dx s.heap h'->h'.get? dx=some (dictOf (putL name (PyData.keyHash C.w.params name) (.str name (s.toks+1)) v es) (putN name es n))->Q () { s with heap:=h',toks:=s.toks+1+1 }) :
 wpAny (model C.prog C.w) A (setAttr (.ref x) name v) Q E s :=
 PySem.W.set_plain Xk (show InstAt s.heap x (instObj cl dx) cl (some (dictOf es n)) from ⟨hx,rfl,rfl,hd⟩) hs (Ao (s:={ s with toks:=s.toks+1 }) Xk hx hd hp ht hh hl hz h)
theorem yL (S:SRel C σ X s) (hl:σ.get lx=some (.lexer lf line pb)) {h':Heap} {tk:Nat} {line':Int} {d:LD} {f:Addr} (st:StreamAt C X s.heap f (X.φ lf)) (hs:Heap.SameBut (X.ψ lx) s.heap h')
 (hg:h'.get? (X.ψ lx)=some (j3 d line' f (X.φ pb))):SRel C (σ.set lx (.lexer lf line' pb)) X { s with heap:=h',toks:=tk }/\Evo C NoP σ X s (σ.set lx (.lexer lf line' pb)) X { s with heap:=h',toks:=tk }:=by
 have A:=S.obj lx _ hl
 have nz:¬ X.Z (X.ψ lx):=S.zw _ (.inr ⟨lx,_,hl,by simp [foot]⟩)
 have kz:∀ b o,X.Z b->s.heap.get? b=some o->h'.get? b=some o:=fun b o z e=>(hs.2 b (fun q=>nz (q▸z))).trans e
 refine S.setO (o':=.lexer lf line' pb) hl rfl (fun b ob nb e=>(hs.2 b (by exact List.ne_of_not_mem_cons nb)).trans e) (fun b m=>by simp only [foot,List.mem_singleton] at m;subst m;exact ⟨_,hg⟩) (Nat.le_of_eq hs.1.symm) rfl rfl ?_
 exact ⟨LexAt.hlf A,LexAt.hpb A,LexAt.zi A,kz _ _ (LexAt.zi A) (Mine.LexAt.inst A),d,f,hg,st.mono kz fun _ z=>z⟩
theorem vC (L:LexOk C) {a:Ex} {d:Int} (h1:EvE C k a ρ σ (.loc lx) σ) (hl:σ.get lx=some (.lexer lf line pb)):ExS C k (.augattr a (nm aS) .Add (.cInt d)) ρ σ .next ρ (σ.set lx (.lexer lf (line+d) pb)):=by
 intro n sc t h A env X s rm R Q E hQ
 cases stI h
 rename_i n' oe m p' ve p e1 e2 hm
 have hm:=f9 hm
 subst hm
 refine wpAny_AugAssign_AttributeAny (h1 _ _ _ e1 A env X s rm R _ _ fun o X1 s1 R1 v1 r1=>?_)
 obtain ⟨hlx,rfl⟩:=r1
 refine j4 L R1.S hl (by exact List.mem_cons_self) (fun _ _=>iG) fun _ _ _=>?_
 obtain ⟨R2,v2⟩:=R1.grown (Grow.toks (s1.toks+1))
 refine ⟨rfl,au (k:=k) (ρ:=ρ) _ _ _ e2 A env X1 _ rm R2 _ _ fun u X3 s3 R3 v3 r3=>?_⟩
 obtain ⟨t7,rfl⟩:∃ t,u=.int d t:=r3
 refine PySem.P.iadd_int ?_
 obtain ⟨R4,v4⟩:=R3.grown (Grow.toks (s3.toks+1))
 obtain ⟨g,f',I,st'⟩:=LexAt.instAt (R4.S.obj lx _ hl)
 have hline:=fun (v:Value)=>(show putL aS (PyData.keyHash C.w.params aS) (.str aS (s3.toks+1+1)) v [⟨g.h1,.str aS g.t1,.int line g.t5⟩,⟨g.h2,.str aN g.t2,.ref f'⟩,⟨g.h3,.str bZ g.t3,.str white g.t6⟩,⟨g.h4,.str dN g.t4,.ref (X3.φ pb)⟩]=[⟨g.h1,.str aS g.t1,v⟩,⟨g.h2,.str aN g.t2,.ref f'⟩,⟨g.h3,.str bZ g.t3,.str white g.t6⟩,⟨g.h4,.str dN g.t4,.ref (X3.φ pb)⟩] from by
  rw [putL];exact List.toList_toArray)
 have hφ:X3.φ lx=X1.φ lx:=(v3.ph lx hlx).1
 rw [<-hφ]
 refine rD (L.kin R4.S) L.sa (Mine.LexAt.inst (R4.S.obj lx _ hl)) I.dict L.over (L.dat aS (by exact List.mem_cons_self)).2 L.hd (by rw [show getL aS _=_ from iG];rfl) (by exact Nat.le_of_ble_eq_true rfl) fun h' hsb hg=>?_
 rw [hline] at hg
 obtain ⟨S5,v5⟩:=yL (tk:=s3.toks+1+1+1) (d:=⟨g.h1,g.h2,g.h3,g.h4,g.t1,g.t2,g.t3,g.t4,s3.toks,g.t6,putN aS [⟨g.h1,.str aS g.t1,.int line g.t5⟩,⟨g.h2,.str aN g.t2,.ref f'⟩,⟨g.h3,.str bZ g.t3,.str white g.t6⟩,⟨g.h4,.str dN g.t4,.ref (X3.φ pb)⟩] g.k⟩) (line':=line+d) R4.S hl st' hsb hg
 exact hQ _ X3 _ (R4.evo0 S5 v5) ((((v1.trans v2).trans v3).trans v4).trans v5.of0) trivial
end
end
section
open PySem PyProof.Rows PySem.SeqAt PySem.Flt
set_option maxRecDepth 100000
open PySem.W (findIn typeIn clsIn findObj plainGet hasDictIn plainOver makesIn takerIn isFn instObj InstAt dictOf getL putL putN lookIn)
section
variable {C:Cx} {k:Nat} {ρ:Loc} {σ σ1:Sto} {X:Wld} {s:Shared} {n0:Nat} {lx lf pb:Nat} {line:Int}
theorem Ba:typeLookup (.type "function") "__getattribute__"=pure (some (.builtin "object.__getattribute__")):=by rw [typeLookup_type,builtinLookup_eq_fast];kernel_rfl
theorem zW:typeLookup (.type "function") "__getattr__"=pure none:=by rw [typeLookup_type,builtinLookup_eq_fast];kernel_rfl
theorem kJ:typeLookup (.type "function") bQ=pure none:=by rw [typeLookup_type,builtinLookup_eq_fast];kernel_rfl
theorem slot_fn_ga:Slot "function" "__getattribute__" "object.__getattribute__" :=
 .of (owner := "object") (n := "__getattribute__") (by rw [typeLookup_type,builtinLookup_eq_fast];kernel_rfl) (by rfl) (by rfl) (by rfl)
  (by first | exact .inl (by rfl) | exact .inr (by decide +kernel)) (by rw [isSubtype_type];kernel_rfl)
theorem xK {A:Around} {E:Value->Shared->Prop} {f df g:Addr} {o:Obj} {fd:FuncData} {hs:Int} {tk:Tok} {kk:Nat} {Q:Value->Shared->Prop} {expr:Bool} (hf:s.heap.get? f=some o) (hc:o.cls=.type "function") (hdi:o.dict=some df) (hda:o.data=.func fd)
 (hd:s.heap.get? df=some (dictOf [⟨hs,.str bQ tk,.ref g⟩] kk)) (h:Q (.ref g) { s with toks:=s.toks+1 }):wpAny (model C.prog C.w) A (getAttr (.ref f) bQ expr) Q E s:=by
 obtain ⟨cls,dict,data,sl⟩:=o
 dsimp only at hc hdi hda
 subst hc hdi hda
 obtain ⟨hp,g',d,t,os⟩:=s
 dsimp only at hf hd
 have hT:∀ t',(⟨hp,g',d,t',os⟩:Shared).TypeIs (.ref f) "function":=fun _=>⟨_,hf,rfl⟩
 have hlk:=Ba
 have hbind:=slot_fn_ga.bind (.ref f)
 delta getAttr getAttrBy
 refine wpAny_bind (wpAny_mkText (wpAny_holding (wpAny_bind (wpAny_typeOf (hT _) (wpAny_bind (wpAny_of_eq hlk ?_))))))
 show wpAny _ _ (getAttrByItsOwn (.ref f) (.str bQ t) (.type "function") (.builtin "object.__getattribute__") true expr) _ _ _
 delta getAttrByItsOwn hookBefore callGetattribute boundAndCalled
 refine wpAny_bind (wpAny_of_eq (show (if onTheHeap (.type "function") then typeLookup (.type "function") "__getattr__" else pure none)=pure none from rfl) ?_)
 refine wpAny_bind (wpAny_attempt (wpAny_holding ?_))
 rw [show (expr&&onTheHeap (.builtin "object.__getattribute__"))=false from by cases expr<;>rfl]
 rw [if_neg (by decide)]
 refine wpAny_bind (wpAny_of_eq hbind ?_)
 refine wpAny_mono (Q:=fun v s'=>v=.ref g/\s'=⟨hp,g',d,t+1,os⟩) (E:=fun _ _=>False)
  (wpAny_call_entry slot_fn_ga (hT _) PySem.F.entry_object_getattribute ?_ (PySem.F.args_object_getattribute_2 _ _)) (fun v s' hv=>?_) fun _ _ z=>z.elim
 ·unfold Builtin.«object.__getattribute__»
  refine wpAny_bind (m:=slotArgs "__getattribute__" 1 _) (wpAny_of_eq (a:=(Value.ref f,[Value.str bQ t])) (by first | rfl | kernel_rfl) ?_)
  dsimp only
  refine wpAny_bind (wpAny_pure (wpAny_bind (wpAny_typeOf (hT _) ?_)))
  refine wpAny_bind ?_
  unfold Builtin.ObjectAttr.find
  refine wpAny_bind (wpAny_of_eq kJ ?_)
  refine wpAny_bind (m:=Builtin.ObjectAttr.getOf none) (wpAny_pure ?_)
  refine wpAny_bind (m:=Builtin.ObjectAttr.dataDescriptor? none none) (wpAny_pure ?_)
  show wpAny _ _ (Builtin.ObjectAttr.inOwnDict bQ (.ref f) >>= _) _ _ _
  refine wpAny_bind (wpAny_bind ?_)
  show wpAny _ _ (loadHead f >>= _) _ _ _
  refine wpAny_bind (wpAny_loadPart hf ?_)
  show wpAny _ _ (instanceDict f false) _ _ _
  unfold instanceDict
  refine wpAny_bind (wpAny_loadPart hf ?_)
  refine wpAny_pure ?_
  show wpAny _ _ (nsGet df bQ) _ _ _
  unfold nsGet
  refine wpAny_bind (wpAny_loadPart hd ?_)
  refine wpAny_of_eq (PySem.W.nsLook_of (show lookIn bQ (dictOf [⟨hs,.str bQ tk,.ref g⟩] kk)=some (some (.ref g)) from ?_)) ?_
  ·simp only [PySem.W.lookIn_dict]
   unfold getL
   rfl
  ·refine wpAny_bind (wpAny_rule (wpAny_pure ?_))
   exact wpAny_pure ⟨_,rfl,rfl,rfl⟩
 ·obtain ⟨rfl,rfl⟩:=hv
  exact wpAny_pure h
end
end
section
open PySem PyProof.Rows PySem.SeqAt PySem.Flt
set_option maxRecDepth 100000
noncomputable abbrev fx:Str := "count"
noncomputable def lO (p1 p2 p3 p4 p5 p6 p7 p8 p9 p10 p11:Pos):Expr :=
 .IfExp (.BoolOp .And [.Name bC p1,.Compare (.Name fx p2) [.Eq] [.Constant (.int 1) 0 p3] p4] p5) (.Call (.Attribute (.Name bC p6) "pop" p7) [.Constant (.int 0) 0 p8] [] p9) (.Constant (.str "") 0 p10) p11
structure k8 (C:Cx):Prop where
 body:∃ p1 p2 p3 p4 p5 p6 p7 p8 p9 p10 p11,C.lamB=lO p1 p2 p3 p4 p5 p6 p7 p8 p9 p10 p11/\p7.endLine=p9.line
 scope:C.lamS={ kind:=.function,names:=[(fx,.local),(bC,.free)],isGenerator:=false,isCoroutine:=false,more:=[] }
 bind:∀ cl pm c ct v,bindArgs (PySem.W.kla_fn C.lamN C.lamQ C.lamP C.lamB C.lamS cl pm c ct) ⟨[v],[]⟩=pure [(fx,v)]
section
variable {C:Cx} {k:Nat} {ρ:Loc} {σ σ1:Sto} {X:Wld} {s:Shared} {n0:Nat} {lx lf pb:Nat} {line:Int}
theorem xU (Lm:k8 C) {A:Around} {env:Env} {cell:Addr} {u:Tok} {Q:Value->Shared->Prop} {E:Value->Shared->Prop} {vs:List V} (rm:Room k A) (S:SRel C σ X s) (hl:σ.get lf=some (.list vs)) (hlf:lf<σ.next) (hz:vs.length<sizeLine)
 (hk:env.scope.kind=.function) (k1:env.kindOf fx=some .local) (k2:env.kindOf bC=some .free) (hc:env.cells.lookup bC=some cell) (hcell:s.heap.IsCell cell (some (.ref (X.φ lf)))) (zc:X.Z cell)
 {m:Str->Option Value} (hm:s.heap.Ns env.locals m) (hm1:m fx=some (.int 1 u))
 (h0:vs=[]->∀ t n,Q (.str (ao []) t) { s with toks:=n })
 (h1:∀ v r,vs=v::r->∀ a X' s',SRel C (σ.set lf (.list r)) X' s'->Evo C NoP σ X s (σ.set lf (.list r)) X' s'->VRel C X' σ.next s'.heap v a->Q a s') :
 wpAny (model C.prog C.w) A (eval C.lamB env) Q E s:=by
 obtain ⟨p1,p2,p3,p4,p5,p6,p7,p8,p9,p10,p11,hb,hp⟩:=Lm.body
 rw [hb]
 unfold lO
 have ldLeft:∀ (s':Shared) (Q:Value->Shared->Prop) (p:Pos),s'.heap.IsCell cell (some (.ref (X.φ lf)))->Q (.ref (X.φ lf)) s'->wpAny (model C.prog C.w) A (eval (.Name bC p) env) Q E s':=fun s' Q p hc' hq =>
  wpAny_Name (wpAny_loadName_free hk k2 hc hc' hq (by rfl)) (by rfl)
 refine wpAny_IfExp (wpAny_isTrue_BoolOp (wpAny_allTrue_And_cons ?_))
 refine wpAny_isTrue_value (ldLeft s _ _ hcell ?_) rfl
 refine iP hl (by rw [sizeLine_eq] at hz;lia -abstractProof) A X s _ S ⟨hlf,rfl⟩ _ _ fun t=>?_
 cases vs with
 | nil =>
   show wpAny _ A (eval (.Constant (.str "") 0 p10) env) Q E _
   exact wpAny_Constant_str (h0 rfl _ _)
 | cons v r =>
   obtain ⟨S1,e1⟩:=ej S t
   have hcell1:Heap.IsCell ({ s with toks:=t }:Shared).heap cell (some (.ref (X.φ lf))):=hcell
   refine wpAny_allTrue_And_cons ?_
   refine wpAny_isTrue_Compare1 ?_ rfl
   refine wpAny_Name (wpAny_loadName_local hk k1 (show ({ s with toks:=t }:Shared).heap.Ns env.locals m from hm) hm1 ?_) (by rfl)
   refine wpAny_Constant_int ?_
   refine PySem.P.eq_int (wpAny_truthy_bool ?_)
   show wpAny _ A (allTrue .And [] env) _ _ _
   refine wpAny_allTrue_And_nil ?_
   show wpAny _ A (eval (.Call (.Attribute (.Name bC p6) "pop" p7) [.Constant (.int 0) 0 p8] [] p9) env) Q E _
   have hpos:methodCallPos true (.Name bC p6) env p7 p9=pure p9:=by unfold methodCallPos;simp [hp]
   obtain ⟨S2,e2⟩:=ej S (t+1)
   have hcell2:Heap.IsCell ({ s with toks:=t+1 }:Shared).heap cell (some (.ref (X.φ lf))):=hcell
   rw [arm_eval_Call,gR rfl]
   refine wpAny_bind (ldLeft { s with toks:=t+1 } _ _ hcell2 (wpAny_bind (wpAny_standAt ?_)))
   unfold methodCall
   rw [show methodCallForm _ _ _=true from rfl]
   refine wpAny_bind (wpAny_holding ?_)
   show wpAny _ A (getMethod (.ref (X.φ lf)) "pop" _) _ _ _
   have gm:=dG (C:=C) (name:=nm "pop") hl (by rw [aP];exact PySem.F.slot_list_pop) PySem.F.type_list_pop A X { s with toks:=t+1 } (.ref (X.φ lf)) (do return (<-importBound (.Name bC p6) env).getD true) S2 ⟨hlf,rfl⟩
   rw [aP] at gm
   refine gm _ _ (wpAny_bind (wpAny_of_eq hpos ?_))
   refine Calls.callWith_builtin rfl (Calls.evalArgs_plain (wpAny_items_cons (wpAny_Constant_int ?_) rfl))
   refine wpAny_items_nil ?_
   obtain ⟨S3,e3⟩:=ej S (t+1+1)
   refine uh (k:=k) hl (by simpa using Nat.lt_of_succ_lt hz) A X _ _ rm S3 (.cons ⟨hlf,rfl⟩ (.cons ⟨_,rfl⟩ .nil)) Q E fun a X' s' S' e' r'=>?_
   exact h1 v r rfl a X' s' S' (e3.trans e') r'
noncomputable def rdV:List V->V
 | []=>.str []
 | v::_=>v
noncomputable def rdS (σ:Sto) (lf:Nat):List V->Sto
 | []=>σ
 | _::r=>σ.set lf (.list r)
theorem xT (H:COk C) (Lm:k8 C) {A:Around} {t:Tok} {R:Result->Shared->Prop} {vs:List V} (rm:Room (k+1) A) (S:SRel C σ X s) (hl:σ.get lf=some (.list vs)) (hz:vs.length<sizeLine)
 (cell g c:Addr) (pm ctv:Value) (hg:s.heap.get? g=some (PySem.W.kla_obj C.lamN C.lamQ C.lamP C.lamB C.lamS [(bC,cell)] pm c ctv)) (zc:X.Z cell) (hcell:s.heap.IsCell cell (some (.ref (X.φ lf)))) (hcode:s.heap.CodeRec (.ref c) C.lamQ)
 (hR:∀ a X' s',SRel C (rdS σ lf vs) X' s'->Evo C NoP σ X s (rdS σ lf vs) X' s'->VRel C X' σ.next s'.heap (rdV vs) a->R (.ok (.ret a)) s') :
 codeAny (model C.prog C.w) A (.call (.ref g) ⟨[.int 1 t],[]⟩) R s:=by
 have hsc:=Lm.scope
 refine PySem.W.kla_callFunE (by have:=rm.depth;show A.depth<1000;lia -abstractProof) hg rfl (by rw [hsc]) (by rw [hsc]) rfl hcode ?_
 rw [Lm.bind]
 refine wpAny_pure (wpAny_newFunctionEnv (by rw [hsc];intro x hx;simp at hx;rcases hx with rfl | rfl<;>decide) (by intro y hy;simp at hy;subst hy;rw [hsc];rfl) (fun h₁ hns hsb=>?_) (by rw [hsc]))
 have hkeep:∀ b o,s.heap.get? b=some o->h₁.get? b=some o:=fun b o e=>hsb.extBut b o (Nat.ne_of_lt (Heap.lt_size e)) (Heap.get?_push_of_some _ e)
 have hsize:s.heap.objs.size<=h₁.objs.size:=by rw [hsb.1,Heap.size_push];lia -abstractProof
 obtain ⟨S1,e1⟩:=S.kept (s.toks+[(fx,Value.int 1 t)].length) hkeep hsize
 refine ⟨S1.nolimit H,PySem.W.kla_codeExpr ?_⟩
 have rm':Room k (A.deeper (newEnv C.lamS s.heap.objs.size mainGlobals [(bC,cell)] (C.lamQ ++ ".<locals>.") (some g) (.ref c) none builtinsNs)):=⟨by have:=rm.depth;show A.depth+1+k<=900;lia -abstractProof,by have:=rm.units;show A.units+3+20*k<=9000;lia -abstractProof,rm.handled⟩
 refine xU (k:=k) Lm (cell:=cell) (u:=t) (vs:=vs) rm' S1 hl (S.lt _ _ hl) hz (by show C.lamS.kind=_;rw [hsc]) (by show C.lamS.names.lookup fx=_;rw [hsc];rfl) (by show C.lamS.names.lookup bC=_;rw [hsc];rfl) (by rfl) (let ⟨o,e,d⟩:=hcell;⟨o,hkeep _ _ e,d⟩) zc hns (by rfl) (fun e t' n=>?_) (fun v r e a X' s' S' e' r'=>?_)
 ·subst e
  obtain ⟨S2,e2⟩:=S1.grow0 (Grow.toks n)
  exact hR _ X _ S2 (e1.trans e2) ⟨_,rfl⟩
 ·subst e
  exact hR a X' s' S' (e1.trans e') r'
noncomputable abbrev Bg:Nm:=nm bQ
theorem zF (H:COk C) (L:LexOk C) (Lm:k8 C) {a:Ex} {vs:List V} (h1:EvE (C:=C) (k+1) a ρ σ (.loc lx) σ) (hl:σ.get lx=some (.lexer lf line pb)) (hlf:σ.get lf=some (.list vs)) (hz:vs.length<sizeLine) :
 EvE C (k+1) (.meth (.attr a (nm aN)) Bg [.cInt 1]) ρ σ (rdV vs) (rdS σ lf vs):=by
 intro n sc e h A env X s rm R Q E hQ
 cases erI h
 rename_i n oe m p' as p hs hp hlen e1 e2 hm
 have hm:=f9 hm
 subst hm
 obtain ⟨ea,r,rfl,e3,e4⟩:=aM e2
 obtain rfl:=cE e4
 cases erI e1
 rename_i n' ob m' q' hs' e5 hm'
 have hm':=f9 hm'
 subst hm'
 have hpos:methodCallPos true (.Attribute ob aN q') env p' p=pure p:=by unfold methodCallPos;exact if_pos hp
 rw [arm_eval_Call,gR hs,arm_eval_Attribute,gR hs']
 refine wpAny_bind (wpAny_bind (h1 _ _ _ e5 A env X s rm R _ _ fun o X1 s1 R1 v1 r1=>wpAny_bind (wpAny_standAt (wpAny_bind (wpAny_holding ?_)))))
 obtain ⟨hlx,rfl⟩:=r1
 refine j4 L R1.S hl (by decide) (fun _ _=>vV) fun _ f st=>?_
 obtain ⟨R2,v2⟩:=R1.grown (Grow.toks (s1.toks+1))
 refine ⟨rfl,?_⟩
 refine wpAny_bind (wpAny_letTemporaryGo ?_)
 refine wpAny_pure (wpAny_bind (wpAny_standAt ?_))
 obtain ⟨of,fd,df,g,cell,c,hsh,tk,kk,pm,ctv,zf,gf,cf,df',ff,zd,gd,zg,gg,zc,gc,zcode,hcode⟩:=st
 unfold methodCall
 rw [show methodCallForm _ _ _=true from by
  rw [cT e3];rfl]
 refine wpAny_bind (wpAny_holding ?_)
 show wpAny _ A (getMethod (.ref f) bQ _) _ _ _
 unfold getMethod
 have hT:({ s1 with toks:=s1.toks+1 }:Shared).TypeIs (.ref f) "function":=⟨_,gf,cf⟩
 refine wpAny_bind (wpAny_specialOf hT Ba ?_)
 dsimp only
 rw [PySem.F.canon_object_ga,if_neg (by decide)]
 refine wpAny_bind (wpAny_specialOf hT zW ?_)
 rw [if_neg (by decide)]
 refine wpAny_bind (wpAny_specialOf hT kJ ?_)
 dsimp only
 refine wpAny_bind (xK (s:={ s1 with toks:=s1.toks+1 }) gf cf df' ff gd ?_)
 refine wpAny_pure (wpAny_bind (wpAny_of_eq hpos ?_))
 obtain ⟨R3,v3⟩:=R2.grown (Grow.toks (s1.toks+1+1))
 refine Calls.callWith_function (o:=PySem.W.kla_obj C.lamN C.lamQ C.lamP C.lamB C.lamS [(bC,cell)] pm c ctv) (fd:=PySem.W.kla_fn C.lamN C.lamQ C.lamP C.lamB C.lamS [(bC,cell)] pm (.ref c) ctv) ?_
 have rmk:Room k A:=⟨by have:=rm.depth;exact Nat.le_of_succ_le this,by have:=rm.units;lia -abstractProof,rm.handled⟩
 refine lC e2 ?_
 refine wpAny_items_cons (au (k:=k) (ρ:=ρ) _ _ _ e3 A env X1 _ rmk R3 _ _ fun u X4 s4 R4 v4 r4=>?_) (cT e3 _ env)
 refine wpAny_items_nil ?_
 obtain ⟨t7,rfl⟩:∃ t,u=.int 1 t:=r4
 have kz:∀ b o,X1.Z b->s1.heap.get? b=some o->s4.heap.get? b=some o:=fun b o z e=>v4.zkeep R3.S R3.pz b o z e
 have hφ:X4.φ lf=X1.φ lf:=(v4.ph lf (R1.S.lt _ _ hlf)).1
 have gc4:s4.heap.IsCell cell (some (.ref (X4.φ lf))):=by rw [hφ];obtain ⟨o,e,d⟩:=gc;exact ⟨o,kz _ _ zc e,d⟩
 have gg4:=kz _ _ zg gg
 have hcode4:s4.heap.CodeRec (.ref c) C.lamQ:=kG hcode fun _=>kz _ _ zcode
 refine ⟨⟨gg4,rfl⟩,wpAny_call (xT H Lm rm R4.S hlf hz cell g c pm ctv gg4 (v4.zm _ zc) gc4 hcode4 fun a X5 s5 S5 v5 r5=>?_)⟩
 exact hQ a X5 s5 (R4.evo0 S5 v5) (((((v1.trans v2).trans v3).trans v4)).trans v5.of0) (by cases vs<;>exact r5)
end
end
section
open PySem PyProof.Rows PySem.SeqAt PySem.Flt
set_option maxRecDepth 100000
open PySem.W (findIn typeIn clsIn findObj plainGet hasDictIn plainOver makesIn takerIn isFn instObj InstAt dictOf getL putL putN lookIn)
open PySem.Builtin.ObjectAttr
section
variable {C:Cx} {s:Shared}
theorem BV:mroOf (.type "function")=pure [.type "function",.type "object"]:=by kernel_rfl
theorem vH (self:Value):refuseLoop self "__setattr__" [.type "function",.type "object"]=pure ():=by kernel_rfl
theorem slot_fn_sa:Slot "function" "__setattr__" "object.__setattr__" :=
 .of (owner := "object") (n := "__setattr__") (by rw [typeLookup_type,builtinLookup_eq_fast];kernel_rfl) (by rfl) (by rfl) (by rfl)
  (by first | exact .inl (by rfl) | exact .inr (by decide +kernel)) (by rw [isSubtype_type];kernel_rfl)
theorem yY (a b c:Value):argsOk "object.__setattr__" ⟨[a,b,c],[]⟩:=by unfold argsOk;kernel_rfl
theorem yx {A:Around} {E:Value->Shared->Prop} {f:Addr} {o:Obj} {fd:FuncData} {v:Value} {Q:Unit->Shared->Prop} (hf:s.heap.get? f=some o) (hc:o.cls=.type "function") (hdi:o.dict=none) (hda:o.data=.func fd)
 (h:∀ h' tk hs t' kk df,(∀ b ob,b≠f->s.heap.get? b=some ob->h'.get? b=some ob)->s.heap.objs.size<=h'.objs.size->s.heap.objs.size<=df->h'.get? f=some { o with dict:=some df } ->
   h'.get? df=some (dictOf [⟨hs,.str bQ t',v⟩] kk)->Q () { s with heap:=h',toks:=tk }):wpAny (model C.prog C.w) A (setAttr (.ref f) bQ v) Q E s:=by
 obtain ⟨cls,dict,data,sl⟩:=o
 dsimp only at hc hdi hda
 subst hc hdi hda
 obtain ⟨hp,g',d,t,os⟩:=s
 dsimp only at hf h
 have hT:∀ t',(⟨hp,g',d,t',os⟩:Shared).TypeIs (.ref f) "function":=fun _=>⟨_,hf,rfl⟩
 delta setAttr callSpecial? specialOf
 refine wpAny_bind (wpAny_mkText (wpAny_bind (wpAny_bind (wpAny_bind (wpAny_typeOf (hT _) (wpAny_of_eq slot_fn_sa.lookup (wpAny_holding ?_)))))))
 rw [slot_fn_sa.bind]
 refine wpAny_bind (wpAny_pure (wpAny_bind (wpAny_call_entry slot_fn_sa (hT _) PySem.F.entry_object_sa ?_ (yY _ _ _))))
 show wpAny _ _ (Builtin.«object.__setattr__» ⟨[.ref f,.str bQ t,v],[]⟩) _ _ ⟨hp,g',d,t+1,os⟩
 rw [PySem.W.osa_eq,refuse_eq]
 refine wpAny_bind (wpAny_bind (wpAny_typeOf (hT _) (wpAny_bind (wpAny_of_eq BV ?_))))
 rw [vH]
 refine wpAny_pure (wpAny_bind (wpAny_typeOf (hT _) (wpAny_bind (wpAny_of_eq kJ (wpAny_bind (m:=storeTaker? none) (wpAny_pure ?_))))))
 show wpAny _ _ (storeInOwnDict (.ref f) (.type "function") (.str bQ t) bQ v false) _ _ _
 unfold storeInOwnDict
 refine wpAny_bind (m:=ownStreamTells _ _) (wpAny_pure ?_)
 refine wpAny_bind ?_
 show wpAny _ _ (instanceDict f true) _ _ _
 unfold instanceDict
 refine wpAny_bind (wpAny_loadPart hf ?_)
 have hx₁:(hp.push { cls:=.type "dict",data:=.dict #[] }).get? f=some _:=Heap.get?_push_of_some _ hf
 have hxs:f≠hp.objs.size:=Nat.ne_of_lt (Heap.lt_size hf)
 refine wpAny_bind (wpAny_alloc (wpAny_bind (wpAny_updatePart hx₁ (wpAny_pure ?_))))
 have hgd:((hp.push { cls:=.type "dict",data:=.dict #[] }).update f fun o=>{ cls:=o.cls,dict:=some hp.objs.size,data:=o.data,slots:=o.slots }).get? hp.objs.size=some (dictOf [] 0) :=
  (Heap.get?_update_ne _ _ _ _ hxs.symm).trans (Heap.get?_push_at rfl rfl)
 have hgf:=Heap.get?_update_self (fun o:Obj=>{ cls:=o.cls,dict:=some hp.objs.size,data:=o.data,slots:=o.slots }) hx₁ rfl
 show wpAny _ _ (storeInDict hp.objs.size (.str bQ t) bQ v) _ _ _
 delta storeInDict newKeyGuard
 refine wpAny_bind (wpAny_pure (wpAny_bind ?_))
 unfold nsSet
 refine wpAny_bind (wpAny_bind (wpAny_askSetting (wpAny_pure (wpAny_bind (wpAny_mkText (wpAny_bind (wpAny_loadPart hgd ?_)))))))
 dsimp only
 have hu:=Heap.get?_update_self (Obj.putName bQ (PyData.keyHash C.w.params bQ) (.str bQ (t+1)) v) hgd (by rw [PySem.W.putName_dict];rfl)
 rw [PySem.W.putName_dict] at hu
 have c:(!([]:List DictEntry).toArray.any (·.key.isStr bQ)&&([]:List DictEntry).toArray.any (·.refKey))=false:=by simp
 rw [aRefKeyMayBeTheName_at,c]
 refine wpAny_updatePart hgd ?_
 refine wpAny_bind (wpAny_lookBehind hu (pastItsLine_dict (by have:=mR bQ (PyData.keyHash C.w.params bQ) (.str bQ (t+1)) v [];rw [List.size_toArray,sizeLine_eq];simp only [List.length_nil] at this;exact Nat.le_add_left_of_le this)) ?_)
 refine wpAny_pure ⟨_,rfl,wpAny_pure (wpAny_pure ?_)⟩
 have sb:∀ b,b≠hp.objs.size->_:=(Heap.SameBut.update (h:=(hp.push { cls:=.type "dict",data:=.dict #[] }).update f fun o=>{ cls:=o.cls,dict:=some hp.objs.size,data:=o.data,slots:=o.slots }) (a:=hp.objs.size) (f:=Obj.putName bQ (PyData.keyHash C.w.params bQ) (.str bQ (t+1)) v)).2
 have sz:=(Heap.SameBut.update (h:=(hp.push { cls:=.type "dict",data:=.dict #[] }).update f fun o=>{ cls:=o.cls,dict:=some hp.objs.size,data:=o.data,slots:=o.slots }) (a:=hp.objs.size) (f:=Obj.putName bQ (PyData.keyHash C.w.params bQ) (.str bQ (t+1)) v)).1
 refine h _ _ _ _ _ hp.objs.size (fun b ob nb e=>?_) ?_ (Nat.le_refl _) ?_ hu
 ·exact (sb b (Nat.ne_of_lt (Heap.lt_size e))).trans ((Heap.get?_update_ne _ _ _ _ nb).trans (Heap.get?_push_of_some _ e))
 ·refine Nat.le_trans ?_ (Nat.le_of_eq (sz.trans (Heap.SameBut.update ..).1).symm)
  rw [Heap.size_push];simp
 ·exact (sb f hxs).trans hgf
end
end
section
open PySem PyProof.Rows PySem.SeqAt PySem.Flt
set_option maxRecDepth 100000
open PySem.W (findIn typeIn clsIn findObj plainGet hasDictIn plainOver makesIn takerIn isFn instObj InstAt dictOf getL putL putN lookIn CodeHd tabObj kla_obj)
section
variable {C:Cx} {k:Nat} {ρ:Loc} {σ σ':Sto} {X X':Wld} {s s':Shared} {env:Env} {sc:Scope}
theorem SRel.turnFree {f:Addr} (S:SRel C σ X s) (hz:¬ X.Z f) (hw:¬ Wr C σ X f) (keep:∀ b ob,b≠f->s.heap.get? b=some ob->s'.heap.get? b=some ob) (size:s.heap.objs.size<=s'.heap.objs.size) (os:s'.os=s.os) (gens:s'.gens=s.gens) :
 SRel C σ X s'/\Evo C (fun b=>b=f) σ X s σ X s':=by
 have kz:∀ b ob,X.Z b->s.heap.get? b=some ob->s'.heap.get? b=some ob:=fun b ob z e=>keep b ob (fun q=>hz (q▸z)) e
 have kw:∀ b ob,Wr C σ X b->s.heap.get? b=some ob->s'.heap.get? b=some ob:=fun b ob w e=>keep b ob (fun q=>hw (q▸w)) e
 exact ⟨⟨fun b o e n=>kz _ _ (S.zb b o e n) (S.base b o e n),(S.tab.imp fun ps t=>⟨kw _ _ (.inl rfl) t.1,t.2.mono kz fun _ z=>z⟩),S.zb,fun b z=>(S.zl b z).imp fun o e=>kz _ _ z e,os.trans S.os,gens.trans S.gens,S.lt,
  fun l o e=>(S.obj l o e).mono kz (fun b ob m g=>kw b ob (.inr ⟨l,o,e,m⟩) g) (fun _ z=>z) (Nat.le_refl _) (fun _ _=>⟨rfl,rfl,rfl⟩) (S.lt l o e),S.apart,S.zw,fun b w=>(S.wl b w).imp fun o e=>kw _ _ w e⟩,
  ⟨size,fun b ob e _ np=>keep b ob np e,fun _ z=>z,fun _ z=>.inl z,fun _ w=>.inl w,Nat.le_refl _,fun _ _=>⟨rfl,rfl,rfl⟩⟩⟩
theorem SRel.turnTab {ps:Array Value} (S:SRel C σ X s) (keep:∀ b ob,b≠C.tab->s.heap.get? b=some ob->s'.heap.get? b=some ob) (size:s.heap.objs.size<=s'.heap.objs.size) (os:s'.os=s.os) (gens:s'.gens=s.gens)
 (N:Addr->Prop) (hN:∀ b,N b->s.heap.objs.size<=b/\∃ o,s'.heap.get? b=some o) (ht:s'.heap.get? C.tab=some (tabObj ps)) (ok:TabOk C (X.more N) s'.heap ps):SRel C σ (X.more N) s'/\Evo C NoP σ X s σ (X.more N) s':=by
 have kz:∀ b ob,X.Z b->s.heap.get? b=some ob->s'.heap.get? b=some ob:=fun b ob z e=>keep b ob (fun q=>S.zw b (.inl q) z) e
 have kf:∀ l o b ob,σ.get l=some o->b∈foot X l o->s.heap.get? b=some ob->s'.heap.get? b=some ob:=fun l o b ob e m g=>keep b ob (fun q=>S.tab_foot e (q▸m)) g
 refine ⟨⟨fun b o e n=>keep b o n (S.base b o e n),⟨ps,ht,ok⟩,fun b o e n=>.inl (S.zb b o e n),fun b z=>z.elim (fun z=>(S.zl b z).imp fun o e=>kz _ _ z e) fun n=>(hN b n).2,os.trans S.os,gens.trans S.gens,S.lt,
  fun l o e=>(S.obj l o e).mono kz (fun b ob m g=>kf l o b ob e m g) (fun _ z=>.inl z) (Nat.le_refl _) (fun _ _=>⟨rfl,rfl,rfl⟩) (S.lt l o e),
  fun l1 l2 o1 o2 b e e' m m'=>S.apart l1 l2 o1 o2 b e e' (by cases o1<;>exact m) (by cases o2<;>exact m'),fun b w z=>?_,fun b w=>?_⟩,
  ⟨size,fun b ob e nw _=>keep b ob (fun q=>nw (.inl q)) e,fun _ z=>.inl z,fun b z=>z.imp id fun n=>.inl (hN b n).1,fun b w=>.inl (Wr_more.mp w),Nat.le_refl _,fun _ _=>⟨rfl,rfl,rfl⟩⟩⟩
 ·have w:=Wr_more.mp w
  rcases z with z | n
  ·exact S.zw b w z
  ·obtain ⟨o,e⟩:=S.wl b w
   exact Nat.lt_irrefl _ (Nat.lt_of_lt_of_le (Heap.lt_size e) (hN b n).1)
 ·rcases Wr_more.mp w with q | ⟨l,o,e,m⟩
  ·exact ⟨_,q▸ht⟩
  ·obtain ⟨ob,g⟩:=S.wl b (.inr ⟨l,o,e,m⟩)
   exact ⟨ob,kf l o b ob e m g⟩
theorem lw {pos q:Pos} {c v:Value} (l:List Value) (h:TriplesOk l) (e:codeAmong pos (l++[rawInt q.line,rawInt q.col,c])=some v):codeAmong pos l=some v\/v=c:=by
 fun_induction TriplesOk l with
 | case1 =>
   simp only [List.nil_append,codeAmong,rawInt] at e
   split at e
   ·cases e;exact .inr rfl
   ·cases e
 | case2 a t b u x rest ih =>
   simp only [List.cons_append,codeAmong] at e ⊢
   split at e
   ·rename_i hc;rw [if_pos hc];exact .inl e
   ·rename_i hc;rw [if_neg hc];exact ih h e
 | case3 l h1 h2=>exact h.elim
structure tO (C:Cx) (env:Env):Prop where
 code:∃ c0,env.code=.ref c0/\CodeHd C.base c0 C.tab
 qual:env.qual ++ "<lambda>"=C.lamQ
theorem qN {A:Around} {params:Arguments} {body:Expr} {scope:Scope} {pos:Pos} {clos:List (Str × Addr)} {Q:Value->Shared->Prop} {E:Value->Shared->Prop} (H:COk C) (hbm:C.base.BuiltinsAt C.mg C.tab) (R:Rel C env sc ρ σ X s) (L:tO C env)
 (hcl:closureFor scope env=pure clos) (hdef:defaultsOf params env=([],[]))
 (hQ:∀ f c ctv X' s',Rel C env sc ρ σ X' s'->Evo C NoP σ X s σ X' s'->s.heap.objs.size<=f->s'.heap.get? f=some (kla_obj "<lambda>" C.lamQ params body scope clos ((C.mg "__name__").getD .none) c ctv)->¬ X'.Z f->¬ Wr C σ X' f->X'.Z c->s'.heap.CodeRec (.ref c) C.lamQ->Q (.ref f) s') :
 wpAny (model C.prog C.w) A (eval (.Lambda params body scope pos) env) Q E s:=by
 obtain ⟨⟨c0,hc,hd⟩,hq⟩:=L
 refine PySem.W.kla_eval hdef ?_
 rw [hq]
 obtain ⟨ps,hP,ht,hco⟩:=R.S.tab
 have zlt:∀ b,X.Z b->b<s.heap.objs.size:=fun b z=>(R.S.zl b z).elim fun _ g=>Heap.lt_size g
 have wlt:∀ b,Wr C σ X b->b<s.heap.objs.size:=fun b w=>(R.S.wl b w).elim fun _ g=>Heap.lt_size g
 have hd':CodeHd s.heap c0 C.tab:=by
  obtain ⟨o,vs,file,tf,flags,tg,inF,text,tt,e,r⟩:=hd
  exact ⟨o,vs,file,tf,flags,tg,inF,text,tt,R.S.base _ _ e r.2.2.2.2.2.2.2.2,r⟩
 have hb':s.heap.BuiltinsAt C.mg C.tab:=by
  obtain ⟨bm,o,h1,h2,h3,h4,h5,r⟩:=hbm
  exact ⟨bm,o,h1,h2,h3,h4,R.S.base _ _ h5 h4,r⟩
 cases hf:codeAmong pos ps.toList with
 | some cv =>
   obtain ⟨c,rfl,zc,rc⟩:=hco pos cv hf
   refine PySem.W.kla_makeFunctionHit hcl R.F.gl (R.S.ns H.g H.ng) hc hd' hP ht hf hb' fun ctv h' tk hk hsz=>?_
   have G:Grow s { s with heap:=h'.push (kla_obj "<lambda>" C.lamQ params body scope clos ((C.mg "__name__").getD .none) c ctv),toks:=tk } :=
    ⟨fun b o e=>Heap.get?_push_of_some _ (hk b o e),by show _<=(h'.push _).objs.size;rw [Heap.size_push];exact Nat.le_add_right_of_le hsz,rfl,rfl⟩
   obtain ⟨S',e⟩:=R.S.grow0 G
   refine hQ _ c ctv X _ (R.evo0 S' e) e hsz (Heap.get?_push_size _ rfl) (fun z=>?_) (fun w=>?_) zc ?_
   ·exact Nat.lt_irrefl _ (Nat.lt_of_lt_of_le (zlt _ z) hsz)
   ·exact Nat.lt_irrefl _ (Nat.lt_of_lt_of_le (wlt _ w) hsz)
   ·obtain ⟨a,o,vs,t,e1,e2,r⟩:=rc
    exact ⟨a,o,vs,t,e1,G.keep _ _ e2,r⟩
 | none =>
   refine PySem.W.kla_makeFunction hcl R.F.gl (R.S.ns H.g H.ng) hc hd' hP ht hf (fun q=>H.ng q) hb' fun c' ctv h' tk hx hge hlt hrec htb=>?_
   obtain ⟨a,oc,vs,t,e1,e2,e3,e4⟩:=hrec
   cases e1
   have hrec':(h'.push (kla_obj "<lambda>" C.lamQ params body scope clos ((C.mg "__name__").getD .none) c' ctv)).CodeRec (.ref c') C.lamQ:=⟨c',oc,vs,t,rfl,Heap.get?_push_of_some _ e2,e3,e4⟩
   have kp:∀ b ob,b≠C.tab->s.heap.get? b=some ob->(h'.push (kla_obj "<lambda>" C.lamQ params body scope clos ((C.mg "__name__").getD .none) c' ctv)).get? b=some ob:=fun b ob hb e=>Heap.get?_push_of_some _ (hx b ob hb e)
   have hsz:s.heap.objs.size<=h'.objs.size:=Nat.le_trans hge (Nat.le_of_lt hlt)
   obtain ⟨S',e⟩:=R.S.turnTab (s':={ s with heap:=h'.push (kla_obj "<lambda>" C.lamQ params body scope clos ((C.mg "__name__").getD .none) c' ctv),toks:=tk }) kp (by show _<=(h'.push _).objs.size;rw [Heap.size_push];exact Nat.le_add_right_of_le hsz) rfl rfl (fun b=>b=c')
    (by rintro b rfl;exact ⟨hge,_,Heap.get?_push_of_some _ e2⟩) (Heap.get?_push_of_some _ htb) ⟨by simpa using TriplesOk_snoc _ _ _ _ ht,fun p v hv=>by
      rcases lw (q:=pos) ps.toList ht (by simpa using hv) with q | rfl
      ·obtain ⟨c,rfl,zc,a,o,vs,t,q1,q2,q3⟩:=hco p v q
       cases q1
       exact ⟨c,rfl,.inl zc,c,o,vs,t,rfl,kp _ _ (fun q=>R.S.zw _ (.inl q) zc) q2,q3⟩
      ·exact ⟨c',rfl,.inr rfl,hrec'⟩⟩
   refine hQ _ c' ctv _ _ (R.evo0 S' e) e hsz (Heap.get?_push_size _ rfl) (fun z=>?_) (fun w=>?_) (.inr rfl) hrec'
   ·rcases z with z | z
    ·exact Nat.lt_irrefl _ (Nat.lt_of_lt_of_le (zlt _ z) hsz)
    ·exact Nat.lt_irrefl _ (z▸hlt)
   ·exact Nat.lt_irrefl _ (Nat.lt_of_lt_of_le (wlt _ (Wr_more.mp w)) hsz)
end
end
section
open PySem PyProof.Rows
noncomputable abbrev aX:Nm:=[67,79,77,80,73,76,69,82,95,70,76,65,71,95,78,65,77,69,83]
noncomputable abbrev gF:Nm:=[79,78,69,95,83,73,88,84,72]
noncomputable abbrev gG:Nm:=[79,78,69,95,84,72,73,82,68]
noncomputable abbrev fc:Nm:=[84,87,79,95,84,72,73,82,68]
noncomputable abbrev bH:Nm:=[95,108,97,119,95,97,99,114,111,115,115]
noncomputable abbrev ei:Nm:=[95,108,97,119,95,98,97,99,107]
noncomputable abbrev cF:Nm:=[95,108,97,119,95,104,117,101,115]
noncomputable abbrev cX:Nm:=[95,108,97,119,95,108,101,120,101,114]
noncomputable abbrev bu:Nm:=[95,108,97,119,95,109,105,120,101,100]
noncomputable abbrev dA:Nm:=[95,108,97,119,95,110,97,109,101]
noncomputable abbrev bI:Nm:=[95,108,97,119,95,112,97,114,116,115]
noncomputable abbrev dB:Nm:=[95,108,97,119,95,112,97,115,115]
noncomputable abbrev cY:Nm:=[95,108,97,119,95,114,105,103,104,116]
noncomputable abbrev eP:Nm:=[95,108,97,119,95,114,117,110]
noncomputable abbrev d9:Nm:=[95,108,97,119,95,115,117,109]
noncomputable abbrev cQ:Nm:=[95,108,97,119,95,116,101,120,116]
noncomputable abbrev a6:Nm:=[95,108,97,119,95,116,105,110,116]
noncomputable abbrev cj:Nm:=[95,108,97,119,95,119,111,114,100]
noncomputable abbrev bV:Nm:=[95,108,97,119,95,119,114,105,116,116,101,110]
noncomputable abbrev gH:Nm:=[95,110,101,116,114,99,108,101,120]
noncomputable abbrev bv:Nm:=[95,112,97,114,115,101,95,118,97,114,105,110,116]
noncomputable abbrev cG:Nm:=[95,114,101,97,100,95,99,104,97,114]
noncomputable abbrev vW:Nm:=[95,118]
noncomputable abbrev ey:Nm:=[97,112,112,101,110,100]
noncomputable abbrev n_b:Nm:=[98]
noncomputable abbrev ic:Nm:=[98,97,99,107]
noncomputable abbrev eC:Nm:=[98,97,115,101]
noncomputable abbrev mB:Nm:=[98,99]
noncomputable abbrev gM:Nm:=[98,108,117,101]
noncomputable abbrev cn:Nm:=[99,104]
noncomputable abbrev uB:Nm:=[99,104,114]
noncomputable abbrev aA:Nm:=[99,111,108,111,117,114,115]
noncomputable abbrev pn:Nm:=[99,111,117,110,116]
noncomputable abbrev dO:Nm:=[100,101,101,112]
noncomputable abbrev ax:Nm:=[46,48]
noncomputable abbrev n_f:Nm:=[102]
noncomputable abbrev bj:Nm:=[102,105,114,115,116]
noncomputable abbrev ch:Nm:=[102,105,116,101,114]
noncomputable abbrev bb:Nm:=[102,108,97,103]
noncomputable abbrev aG:Nm:=[102,108,97,103,115]
noncomputable abbrev Ej:Nm:=[102,112]
noncomputable abbrev n_g:Nm:=[103]
noncomputable abbrev fZ:Nm:=[103,97,112]
noncomputable abbrev mC:Nm:=[103,97,112,115]
noncomputable abbrev mD:Nm:=[103,99]
noncomputable abbrev qZ:Nm:=[103,101,116]
noncomputable abbrev aU:Nm:=[103,101,116,95,116,111,107,101,110]
noncomputable abbrev eW:Nm:=[103,114,101,101,110]
noncomputable abbrev n_h:Nm:=[104]
noncomputable abbrev bO:Nm:=[104,101,97,112,115]
noncomputable abbrev li:Nm:=[104,101,120]
noncomputable abbrev dU:Nm:=[104,105,100,100,101,110]
noncomputable abbrev jq:Nm:=[104,105,103,104]
noncomputable abbrev dI:Nm:=[104,108,115,95,116,111,95,114,103,98]
noncomputable abbrev dJ:Nm:=[104,115,118,95,116,111,95,114,103,98]
noncomputable abbrev cc:Nm:=[104,117,101]
noncomputable abbrev n_i:Nm:=[105]
noncomputable abbrev ig:Nm:=[105,110,115,116,114,101,97,109]
noncomputable abbrev lj:Nm:=[105,110,116]
noncomputable abbrev jr:Nm:=[105,116,101,114]
noncomputable abbrev bJ:Nm:=[105,116,101,114,97,116,111,114]
noncomputable abbrev n_j:Nm:=[106]
noncomputable abbrev jt:Nm:=[106,111,105,110]
noncomputable abbrev n_k:Nm:=[107]
noncomputable abbrev n_l:Nm:=[108]
noncomputable abbrev cZ:Nm:=[108,97,109,112]
noncomputable abbrev fO:Nm:=[108,97,109,112,115]
noncomputable abbrev j6:Nm:=[108,101,97,115,116]
noncomputable abbrev B9:Nm:=[108,101,102,116]
noncomputable abbrev uC:Nm:=[108,101,110]
noncomputable abbrev lP:Nm:=[108,101,118,101,108]
noncomputable abbrev lQ:Nm:=[108,105,103,104,116]
noncomputable abbrev aO:Nm:=[108,105,110,101]
noncomputable abbrev iH:Nm:=[108,105,110,101,110,111]
noncomputable abbrev aI:Nm:=[108,105,110,101,115]
noncomputable abbrev mE:Nm:=[108,105,115,116]
noncomputable abbrev cC:Nm:=[108,111,111,107]
noncomputable abbrev dK:Nm:=[108,111,111,107,115]
noncomputable abbrev ju:Nm:=[109,49]
noncomputable abbrev i5:Nm:=[109,50]
noncomputable abbrev bX:Nm:=[109,97,114,107,115]
noncomputable abbrev j7:Nm:=[109,97,120]
noncomputable abbrev bW:Nm:=[109,97,120,99]
noncomputable abbrev dC:Nm:=[109,105,100,100,108,101]
noncomputable abbrev i9:Nm:=[109,105,110]
noncomputable abbrev f5:Nm:=[109,105,110,99]
noncomputable abbrev fi:Nm:=[109,105,120]
noncomputable abbrev a5:Nm:=[110,97,109,101,115]
noncomputable abbrev mF:Nm:=[110,101,120,116]
noncomputable abbrev f7:Nm:=[111,99,116,101,116,115]
noncomputable abbrev cp:Nm:=[111,100,100]
noncomputable abbrev fj:Nm:=[111,110,101]
noncomputable abbrev uD:Nm:=[111,114,100]
noncomputable abbrev pq:Nm:=[111,118,101,114]
noncomputable abbrev n_p:Nm:=[112]
noncomputable abbrev aJ:Nm:=[112,97,114,116]
noncomputable abbrev aQ:Nm:=[112,97,114,116,115]
noncomputable abbrev aD:Nm:=[112,108,97,99,101]
noncomputable abbrev Bh:Nm:=[112,111,112]
noncomputable abbrev cK:Nm:=[112,114,101,116,116,121,95,102,108,97,103,115]
noncomputable abbrev bw:Nm:=[112,117,115,104,95,116,111,107,101,110]
noncomputable abbrev dD:Nm:=[112,117,115,104,98,97,99,107]
noncomputable abbrev n_q:Nm:=[113]
noncomputable abbrev n_r:Nm:=[114]
noncomputable abbrev aY:Nm:=[114,97,110,103,101]
noncomputable abbrev cH:Nm:=[114,97,110,103,101,99]
noncomputable abbrev mG:Nm:=[114,99]
noncomputable abbrev mH:Nm:=[114,101,97,100]
noncomputable abbrev ja:Nm:=[114,101,100]
noncomputable abbrev bR:Nm:=[114,103,98,95,116,111,95,104,108,115]
noncomputable abbrev bS:Nm:=[114,103,98,95,116,111,95,104,115,118]
noncomputable abbrev ii:Nm:=[114,105,110,103]
noncomputable abbrev f8:Nm:=[114,111,119]
noncomputable abbrev bF:Nm:=[114,111,119,115]
noncomputable abbrev n_s:Nm:=[115]
noncomputable abbrev ce:Nm:=[115,99,114,105,112,116]
noncomputable abbrev bq:Nm:=[115,101,108,102]
noncomputable abbrev gI:Nm:=[115,104,97,114,101]
noncomputable abbrev cL:Nm:=[115,105,103,110]
noncomputable abbrev ij:Nm:=[115,105,103,110,115]
noncomputable abbrev ef:Nm:=[115,105,122,101]
noncomputable abbrev q6:Nm:=[115,111,114,116,101,100]
noncomputable abbrev j8:Nm:=[115,112,108,105,116]
noncomputable abbrev cM:Nm:=[115,112,114,101,97,100]
noncomputable abbrev jv:Nm:=[115,116,101,112]
noncomputable abbrev x7:Nm:=[115,116,114,101,97,109]
noncomputable abbrev bz:Nm:=[115,116,121,108,101]
noncomputable abbrev mI:Nm:=[115,117,109]
noncomputable abbrev mJ:Nm:=[115,117,109,99]
noncomputable abbrev n_t:Nm:=[116]
noncomputable abbrev bN:Nm:=[116,101,120,116]
noncomputable abbrev dL:Nm:=[116,101,120,116,115]
noncomputable abbrev ik:Nm:=[116,105,103,104,116]
noncomputable abbrev bK:Nm:=[116,111,107,101,110]
noncomputable abbrev bc:Nm:=[116,111,108,100]
noncomputable abbrev gN:Nm:=[116,117,114,110]
noncomputable abbrev fD:Nm:=[116,119,111]
noncomputable abbrev n_v:Nm:=[118]
noncomputable abbrev fE:Nm:=[118,97,108]
noncomputable abbrev bM:Nm:=[119,97,121]
noncomputable abbrev jw:Nm:=[119,97,121,115]
noncomputable abbrev fP:Nm:=[119,104,105,116,101,115,112,97,99,101]
noncomputable abbrev aL:Nm:=[119,111,114,100]
noncomputable abbrev aV:Nm:=[119,111,114,100,115]
noncomputable def T_rgb_to_hls:List St:=[.assign [bW] false (.call (.glob j7) [(.var n_r),(.var n_g),(.var n_b)]),.assign [f5] false (.call (.glob i9) [(.var n_r),(.var n_g),(.var n_b)]),.assign [mJ] false (.bin .Add (.var bW) (.var f5)),.assign [cH] false (.bin .Sub (.var bW) (.var f5)),.assign [n_l] false (.bin .Div (.var mJ) (.cFlt 4611686018427387904)),.ifs (.cmp (.var f5) [.Eq] [(.var bW)]) [.ret (.tup [(.cFlt 0),(.var n_l),(.cFlt 0)])] [],.ifs (.cmp (.var n_l) [.LtE] [(.cFlt 4602678819172646912)]) [.assign [n_s] false (.bin .Div (.var cH) (.var mJ))] [.assign [n_s] false (.bin .Div (.var cH) (.bin .Sub (.bin .Sub (.cFlt 4611686018427387904) (.var bW)) (.var f5)))],.assign [mG] false (.bin .Div (.bin .Sub (.var bW) (.var n_r)) (.var cH)),.assign [mD] false (.bin .Div (.bin .Sub (.var bW) (.var n_g)) (.var cH)),.assign [mB] false (.bin .Div (.bin .Sub (.var bW) (.var n_b)) (.var cH)),.ifs (.cmp (.var n_r) [.Eq] [(.var bW)]) [.assign [n_h] false (.bin .Sub (.var mB) (.var mD))] [.ifs (.cmp (.var n_g) [.Eq] [(.var bW)]) [.assign [n_h] false (.bin .Sub (.bin .Add (.cFlt 4611686018427387904) (.var mG)) (.var mB))] [.assign [n_h] false (.bin .Sub (.bin .Add (.cFlt 4616189618054758400) (.var mD)) (.var mG))]],.assign [n_h] false (.bin .Mod (.bin .Div (.var n_h) (.cFlt 4618441417868443648)) (.cFlt 4607182418800017408)),.ret (.tup [(.var n_h),(.var n_l),(.var n_s)])]
noncomputable abbrev jF:List Nm:=[n_r,n_g,n_b]
noncomputable def T_hls_to_rgb:List St:=[.ifs (.cmp (.var n_s) [.Eq] [(.cFlt 0)]) [.ret (.tup [(.var n_l),(.var n_l),(.var n_l)])] [],.ifs (.cmp (.var n_l) [.LtE] [(.cFlt 4602678819172646912)]) [.assign [i5] false (.bin .Mult (.var n_l) (.bin .Add (.cFlt 4607182418800017408) (.var n_s)))] [.assign [i5] false (.bin .Sub (.bin .Add (.var n_l) (.var n_s)) (.bin .Mult (.var n_l) (.var n_s)))],.assign [ju] false (.bin .Sub (.bin .Mult (.cFlt 4611686018427387904) (.var n_l)) (.var i5)),.ret (.tup [(.call (.glob vW) [(.var ju),(.var i5),(.bin .Add (.var n_h) (.glob gG))]),(.call (.glob vW) [(.var ju),(.var i5),(.var n_h)]),(.call (.glob vW) [(.var ju),(.var i5),(.bin .Sub (.var n_h) (.glob gG))])])]
noncomputable abbrev jD:List Nm:=[n_h,n_l,n_s]
noncomputable def T_v:List St:=[.assign [cc] false (.bin .Mod (.var cc) (.cFlt 4607182418800017408)),.ifs (.cmp (.var cc) [.Lt] [(.glob gF)]) [.ret (.bin .Add (.var ju) (.bin .Mult (.bin .Mult (.bin .Sub (.var i5) (.var ju)) (.var cc)) (.cFlt 4618441417868443648)))] [],.ifs (.cmp (.var cc) [.Lt] [(.cFlt 4602678819172646912)]) [.ret (.var i5)] [],.ifs (.cmp (.var cc) [.Lt] [(.glob fc)]) [.ret (.bin .Add (.var ju) (.bin .Mult (.bin .Mult (.bin .Sub (.var i5) (.var ju)) (.bin .Sub (.glob fc) (.var cc))) (.cFlt 4618441417868443648)))] [],.ret (.var ju)]
noncomputable abbrev P_v:List Nm:=[ju,i5,cc]
noncomputable def T_rgb_to_hsv:List St:=[.assign [bW] false (.call (.glob j7) [(.var n_r),(.var n_g),(.var n_b)]),.assign [f5] false (.call (.glob i9) [(.var n_r),(.var n_g),(.var n_b)]),.assign [cH] false (.bin .Sub (.var bW) (.var f5)),.assign [n_v] false (.var bW),.ifs (.cmp (.var f5) [.Eq] [(.var bW)]) [.ret (.tup [(.cFlt 0),(.cFlt 0),(.var n_v)])] [],.assign [n_s] false (.bin .Div (.var cH) (.var bW)),.assign [mG] false (.bin .Div (.bin .Sub (.var bW) (.var n_r)) (.var cH)),.assign [mD] false (.bin .Div (.bin .Sub (.var bW) (.var n_g)) (.var cH)),.assign [mB] false (.bin .Div (.bin .Sub (.var bW) (.var n_b)) (.var cH)),.ifs (.cmp (.var n_r) [.Eq] [(.var bW)]) [.assign [n_h] false (.bin .Sub (.var mB) (.var mD))] [.ifs (.cmp (.var n_g) [.Eq] [(.var bW)]) [.assign [n_h] false (.bin .Sub (.bin .Add (.cFlt 4611686018427387904) (.var mG)) (.var mB))] [.assign [n_h] false (.bin .Sub (.bin .Add (.cFlt 4616189618054758400) (.var mD)) (.var mG))]],.assign [n_h] false (.bin .Mod (.bin .Div (.var n_h) (.cFlt 4618441417868443648)) (.cFlt 4607182418800017408)),.ret (.tup [(.var n_h),(.var n_s),(.var n_v)])]
noncomputable abbrev jG:List Nm:=[n_r,n_g,n_b]
noncomputable def T_hsv_to_rgb:List St:=[.ifs (.cmp (.var n_s) [.Eq] [(.cFlt 0)]) [.ret (.tup [(.var n_v),(.var n_v),(.var n_v)])] [],.assign [n_i] false (.call (.glob lj) [(.bin .Mult (.var n_h) (.cFlt 4618441417868443648))]),.assign [n_f] false (.bin .Sub (.bin .Mult (.var n_h) (.cFlt 4618441417868443648)) (.var n_i)),.assign [n_p] false (.bin .Mult (.var n_v) (.bin .Sub (.cFlt 4607182418800017408) (.var n_s))),.assign [n_q] false (.bin .Mult (.var n_v) (.bin .Sub (.cFlt 4607182418800017408) (.bin .Mult (.var n_s) (.var n_f)))),.assign [n_t] false (.bin .Mult (.var n_v) (.bin .Sub (.cFlt 4607182418800017408) (.bin .Mult (.var n_s) (.bin .Sub (.cFlt 4607182418800017408) (.var n_f))))),.assign [n_i] false (.bin .Mod (.var n_i) (.cInt 6)),.ifs (.cmp (.var n_i) [.Eq] [(.cInt 0)]) [.ret (.tup [(.var n_v),(.var n_t),(.var n_p)])] [],.ifs (.cmp (.var n_i) [.Eq] [(.cInt 1)]) [.ret (.tup [(.var n_q),(.var n_v),(.var n_p)])] [],.ifs (.cmp (.var n_i) [.Eq] [(.cInt 2)]) [.ret (.tup [(.var n_p),(.var n_v),(.var n_t)])] [],.ifs (.cmp (.var n_i) [.Eq] [(.cInt 3)]) [.ret (.tup [(.var n_p),(.var n_q),(.var n_v)])] [],.ifs (.cmp (.var n_i) [.Eq] [(.cInt 4)]) [.ret (.tup [(.var n_t),(.var n_p),(.var n_v)])] [],.ifs (.cmp (.var n_i) [.Eq] [(.cInt 5)]) [.ret (.tup [(.var n_v),(.var n_p),(.var n_q)])] []]
noncomputable abbrev jE:List Nm:=[n_h,n_s,n_v]
noncomputable def T_pretty_flags:List St:=[.assign [a5] false (.list []),.for_ [n_i] (.call (.glob aY) [(.cInt 32)]) [.assign [bb] false (.bin .LShift (.cInt 1) (.var n_i)),.ifs (.bin .BitAnd (.var aG) (.var bb)) [.expr (.meth (.var a5) ey [(.meth (.glob aX) qZ [(.var bb),(.call (.glob li) [(.var bb)])])]),.aug aG .BitXor (.var bb),.ifs (.not (.var aG)) [.brk] []] []] [.expr (.meth (.var a5) ey [(.call (.glob li) [(.var aG)])])],.ret (.meth (.cStr [44,32]) jt [(.var a5)])]
noncomputable abbrev fT:List Nm:=[aG]
noncomputable def T_parse_varint:List St:=[.assign [n_b] false (.call (.glob mF) [(.var bJ)]),.assign [fE] false (.bin .BitAnd (.var n_b) (.cInt 63)),.while_ (.bin .BitAnd (.var n_b) (.cInt 64)) [.aug fE .LShift (.cInt 6),.assign [n_b] false (.call (.glob mF) [(.var bJ)]),.aug fE .BitOr (.bin .BitAnd (.var n_b) (.cInt 63))],.ret (.var fE)]
noncomputable abbrev du:List Nm:=[bJ]
noncomputable def T_read_char:List St:=[.assign [cn] false (.meth (.attr (.var bq) ig) mH [(.cInt 1)]),.ifs (.cmp (.var cn) [.Eq] [(.cStr [10])]) [.augattr (.var bq) iH .Add (.cInt 1)] [],.ret (.var cn)]
noncomputable abbrev cO:List Nm:=[bq]
noncomputable def T_get_token:List St:=[.ifs (.attr (.var bq) dD) [.ret (.meth (.attr (.var bq) dD) Bh [(.cInt 0)])] [],.assign [bK] false (.cStr []),.assign [ch] false (.call (.glob jr) [(.attr (.var bq) cG),(.cStr [])]),.for_ [cn] (.var ch) [.ifs (.cmp (.var cn) [.In] [(.attr (.var bq) fP)]) [.cont] [],.ifs (.cmp (.var cn) [.Eq] [(.cStr [34])]) [.for_ [cn] (.var ch) [.ifs (.cmp (.var cn) [.Eq] [(.cStr [34])]) [.ret (.var bK)] [.ifs (.cmp (.var cn) [.Eq] [(.cStr [92])]) [.assign [cn] false (.meth (.var bq) cG [])] []],.aug bK .Add (.var cn)] []] [.ifs (.cmp (.var cn) [.Eq] [(.cStr [92])]) [.assign [cn] false (.meth (.var bq) cG [])] [],.aug bK .Add (.var cn),.for_ [cn] (.var ch) [.ifs (.cmp (.var cn) [.In] [(.attr (.var bq) fP)]) [.ret (.var bK)] [.ifs (.cmp (.var cn) [.Eq] [(.cStr [92])]) [.assign [cn] false (.meth (.var bq) cG [])] []],.aug bK .Add (.var cn)] []]] [],.ret (.var bK)]
noncomputable abbrev cN:List Nm:=[bq]
noncomputable def T_push_token:List St:=[.expr (.meth (.attr (.var bq) dD) ey [(.var bK)])]
noncomputable abbrev fH:List Nm:=[bq,bK]
noncomputable def T_law_name:List St:=[.assign [aV] false (.list [(.cStr [79,80,84,73,77,73,90,69,68]),(.cStr [78,69,87,76,79,67,65,76,83]),(.cStr [86,65,82,65,82,71,83]),(.cStr [86,65,82,75,69,89,87,79,82,68,83]),(.cStr [78,69,83,84,69,68]),(.cStr [71,69,78,69,82,65,84,79,82]),(.cStr [78,79,70,82,69,69]),(.cStr [67,79,82,79,85,84,73,78,69]),(.cStr [73,84,69,82,65,66,76,69,95,67,79,82,79,85,84,73,78,69]),(.cStr [65,83,89,78,67,95,71,69,78,69,82,65,84,79,82])]),.ret (.ite (.cmp (.var aD) [.Lt] [(.cInt 10)]) (.sub (.var aV) (.var aD)) (.bin .Add (.bin .Add (.cStr [48,120]) (.sub (.cStr [49,50,52,56]) (.bin .Mod (.var aD) (.cInt 4)))) (.bin .Mult (.cStr [48]) (.bin .FloorDiv (.var aD) (.cInt 4)))))]
noncomputable abbrev je:List Nm:=[aD]
noncomputable def T_law_word:List St:=[.ret (.meth (.cStr []) jt [(.comp (.call (.glob uB) [(.bin .Add (.bin .Add (.ite (.cmp (.var ef) [.Gt] [(.cInt 1)]) (.cInt 64) (.cInt 0)) (.bin .Mod (.bin .FloorDiv (.var aJ) (.var ef)) (.cInt 64))) (.var jq))]) [[aJ],[ef]] [(.var aQ),(.list [(.cInt 4096),(.cInt 64),(.cInt 1)])] [[],[(.boolop .Or [(.cmp (.var aJ) [.GtE] [(.var ef)]),(.cmp (.var ef) [.Eq] [(.cInt 1)])])]] [ax,aJ,ef])])]
noncomputable abbrev jg:List Nm:=[aQ,jq]
noncomputable def T_law_written:List St:=[.assign [dU] false (.ite (.cmp (.var bM) [.Gt] [(.cInt 1)]) (.var aL) (.ite (.var bM) (.cStr [92,32,10,9,13]) (.cStr [92,34]))),.assign [ij] false (.meth (.cStr []) jt [(.comp (.ite (.cmp (.var cL) [.In] [(.var dU)]) (.bin .Add (.cStr [92]) (.var cL)) (.var cL)) [[cL]] [(.var aL)] [[]] [ax,cL])]),.ret (.ite (.bin .Mod (.var bM) (.cInt 2)) (.bin .Add (.ite (.boolop .And [(.cmp (.var bM) [.Eq] [(.cInt 1)]),(.cmp (.slice (.var aL) [none,some (.cInt 1),none]) [.Eq] [(.cStr [34])])]) (.cStr [92]) (.cStr [])) (.var ij)) (.bin .Add (.bin .Add (.cStr [34]) (.var ij)) (.cStr [34])))]
noncomputable abbrev dR:List Nm:=[aL,bM]
noncomputable def T_law_parts:List St:=[.assign [f7] false (.call (.glob jr) [(.comp (.call (.glob uD) [(.var cL)]) [[cL]] [(.var aL)] [[]] [ax,cL])]),.ret (.bin .Add (.list [(.call (.glob bv) [(.var f7)]),(.call (.glob bv) [(.var f7)]),(.call (.glob bv) [(.var f7)])]) (.call (.glob mE) [(.var f7)]))]
noncomputable abbrev gz:List Nm:=[aL]
noncomputable def T_law_text_2:List St:=[.assign [fZ,ik] true (.tup [(.sub (.list [(.cStr [32]),(.cStr [10]),(.cStr [9,10]),(.cStr [13,10,32])]) (.bin .Mod (.bin .FloorDiv (.var bz) (.cInt 65536)) (.cInt 4))),(.bin .Mod (.bin .FloorDiv (.var bz) (.cInt 262144)) (.cInt 2))]),.assign [bN] false (.var fZ),.for_ [n_k] (.call (.glob aY) [(.cInt 4)]) [.assign [bM] false (.bin .Mod (.bin .FloorDiv (.var jw) (.bin .Pow (.cInt 4) (.var n_k))) (.cInt 4)),.assign [bN] false (.bin .Add (.bin .Add (.var bN) (.call (.glob bV) [(.call (.glob cj) [(.sub (.var aA) (.var n_k)),(.bin .Mult (.bin .FloorDiv (.var bM) (.cInt 2)) (.cInt 128))]),(.var bM)])) (.ite (.boolop .And [(.var ik),(.cmp (.bin .Mod (.var bM) (.cInt 2)) [.Eq] [(.cInt 0)])]) (.cStr []) (.var fZ)))] [],.ret (.bin .Add (.var bN) (.sub (.list [(.cStr [101,110,100]),(.cStr [34,101,110,100,34]),(.cStr [34,101,110,100]),(.cStr [101,110,100,92])]) (.bin .FloorDiv (.var bz) (.cInt 524288))))]
noncomputable abbrev hJ:List Nm:=[aA,jw,bz]
noncomputable def T_law_across:List St:=[.assign [ja,eW,gM] true (.comp (.bin .Div (.var aJ) (.cInt 32768)) [[aJ]] [(.var aQ)] [[]] [ax,aJ]),.ifs (.var dO) [.assign [cc,lQ,gI] true (.call (.glob bR) [(.var ja),(.var eW),(.var gM)]),.assign [fO] false (.call (.glob dI) [(.bin .Sub (.var cc) (.bin .Div (.cInt 1) (.cInt 2))),(.var lQ),(.var gI)])] [.assign [cc,gI,lP] true (.call (.glob bS) [(.var ja),(.var eW),(.var gM)]),.assign [fO] false (.call (.glob dJ) [(.bin .Add (.var cc) (.bin .Div (.cInt 1) (.cInt 2))),(.var gI),(.var lP)])],.expr (.meth (.var bc) ey [(.list [(.var aQ),(.var cc),(.comp (.bin .FloorDiv (.call (.glob lj) [(.bin .Add (.bin .Mult (.var cZ) (.cInt 65536)) (.cInt 1))]) (.cInt 2)) [[cZ]] [(.var fO)] [[]] [ax,cZ])])]),.ret (.sub (.sub (.var bc) (.neg (.cInt 1))) (.cInt 2))]
noncomputable abbrev hG:List Nm:=[aQ,dO,bc]
noncomputable def T_law_mixed:List St:=[.ret (.comp (.bin .Add (.sub (.var fj) (.var n_k)) (.sub (.var fD) (.var n_k))) [[n_k]] [(.call (.glob aY) [(.cInt 3)])] [[]] [ax,n_k])]
noncomputable abbrev gy:List Nm:=[fj,fD]
noncomputable def T_law_right:List St:=[.assign [j6,cM] true (.tup [(.call (.glob i9) [(.var aQ)]),(.bin .Sub (.call (.glob j7) [(.var aQ)]) (.call (.glob i9) [(.var aQ)]))]),.assign [ii] false (.boolop .Or [(.bin .Mult (.cInt 6) (.var cM)),(.cInt 1)]),.assign [jv] false (.bin .FloorDiv (.call (.glob lj) [(.bin .Add (.bin .Mult (.bin .Mult (.var cc) (.cInt 2)) (.var ii)) (.cInt 1))]) (.cInt 2)),.assign [mC] false (.comp (.call (.glob i9) [(.bin .Mod (.bin .Sub (.var jv) (.bin .Mult (.bin .Mult (.cInt 2) (.var cM)) (.var n_k))) (.var ii)),(.bin .Mod (.bin .Sub (.bin .Mult (.bin .Mult (.cInt 2) (.var cM)) (.var n_k)) (.var jv)) (.var ii))]) [[n_k]] [(.call (.glob aY) [(.cInt 3)])] [[]] [ax,n_k]),.ifs (.boolop .Or [(.not (.cmp (.cInt 0) [.LtE,.Lt] [(.var cc),(.cInt 1)])),(.boolop .And [(.cmp (.var cM) [.Eq] [(.cInt 0)]),(.cmp (.var cc) [.NotEq] [(.cInt 0)])])]) [.ret (.cBool false)] [],.ret (.boolop .And [(.cmp (.comp (.bin .Add (.var j6) (.call (.glob j7) [(.cInt 0),(.call (.glob i9) [(.var cM),(.bin .Sub (.bin .Mult (.cInt 2) (.var cM)) (.var fZ))])])) [[fZ]] [(.var mC)] [[]] [ax,fZ]) [.Eq] [(.var aQ)]),(.cmp (.call (.glob bu) [(.var aQ),(.var pq)]) [.Eq] [(.bin .Mult (.list [(.bin .Add (.call (.glob j7) [(.var aQ)]) (.var j6))]) (.cInt 3))])])]
noncomputable abbrev iy:List Nm:=[aQ,cc,pq]
noncomputable def T_law_pass:List St:=[.for_ [aO] (.list [(.sub (.var aI) (.cInt 0)),(.sub (.var aI) (.cInt 0)),(.sub (.var aI) (.cInt 1)),(.sub (.var aI) (.cInt 1))]) [.assign [fj] false (.call (.glob bI) [(.meth (.var aO) aU [])]),.assign [fD] false (.call (.glob bI) [(.meth (.var aO) aU [])]),.expr (.meth (.sub (.var aI) (.cInt 0)) bw [(.call (.glob cj) [(.call (.glob bu) [(.var fj),(.var fD)]),(.bin .Mult (.cInt 128) (.var dO))])]),.expr (.meth (.sub (.var aI) (.cInt 1)) bw [(.call (.glob cj) [(.call (.glob bu) [(.var fj),(.call (.glob bH) [(.var fD),(.var dO),(.var bc)])]),(.bin .Sub (.cInt 128) (.bin .Mult (.cInt 128) (.var dO)))])])] []]
noncomputable abbrev hH:List Nm:=[aI,dO,bc]
noncomputable def T_law_run_2:List St:=[.for_ [aO] (.var aI) [.assign [aV] false (.comp (.meth (.var aO) aU []) [[n_k]] [(.call (.glob aY) [(.cInt 4)])] [[]] [ax,n_k]),.for_ [aL] (.var aV) [.expr (.meth (.var aO) bw [(.var aL)])] []] [],.for_ [gN] (.call (.glob aY) [(.cInt 3)]) [.expr (.call (.glob dB) [(.var aI),(.bin .Mod (.bin .Add (.var gN) (.var bj)) (.cInt 2)),(.var bc)])] [],.ret (.comp (.call (.glob bI) [(.meth (.var aO) aU [])]) [[aO],[n_k]] [(.var aI),(.call (.glob aY) [(.cInt 4)])] [[],[]] [ax,aO,n_k])]
noncomputable abbrev iA:List Nm:=[aI,bj,bc]
noncomputable def T_law_sum:List St:=[.ret (.comp (.call (.glob mI) [(.comp (.ite (.sub (.var cp) (.bin .BitAnd (.var n_k) (.var aD))) (.neg (.sub (.sub (.var aA) (.var n_k)) (.var aJ))) (.sub (.sub (.var aA) (.var n_k)) (.var aJ))) [[n_k]] [(.call (.glob aY) [(.cInt 8)])] [[]] [ax,n_k])]) [[aJ]] [(.call (.glob aY) [(.cInt 3)])] [[]] [ax,aJ])]
noncomputable abbrev kD:List Nm:=[aA,cp,aD]
noncomputable def T_law_back:List St:=[.assign [fi] false (.list [(.cInt 0),(.cInt 0),(.cInt 0)]),.for_ [n_k] (.call (.glob aY) [(.cInt 8)]) [.assign [fi] false (.call (.glob bu) [(.var fi),(.ite (.sub (.var cp) (.bin .BitAnd (.var n_k) (.var aD))) (.call (.glob bH) [(.sub (.var bF) (.var n_k)),(.bin .Mod (.var n_k) (.cInt 2)),(.list [])]) (.sub (.var bF) (.var n_k)))])] [],.ret (.var fi)]
noncomputable abbrev jc:List Nm:=[bF,cp,aD]
noncomputable def T_law_tint:List St:=[.ret (.list [(.bin .Sub (.sub (.var aQ) (.cInt 0)) (.sub (.var aQ) (.cInt 1))),(.bin .Sub (.sub (.var aQ) (.cInt 1)) (.sub (.var aQ) (.cInt 2)))])]
noncomputable abbrev jf:List Nm:=[aQ]
noncomputable def T_law_hues:List St:=[.assign [ja,eW,gM] true (.comp (.bin .Div (.var aJ) (.cInt 262144)) [[aJ]] [(.var aQ)] [[]] [ax,aJ]),.ret (.list [(.sub (.call (.glob bS) [(.var ja),(.var eW),(.var gM)]) (.cInt 0)),(.sub (.call (.glob bR) [(.var ja),(.var eW),(.var gM)]) (.cInt 0))])]
noncomputable abbrev jd:List Nm:=[aQ]
noncomputable def T_law2:List St:=[.assign [bj] false (.slice (.var ce) [none,some (.cInt 60),none]),.assign [bO] false (.comp (.bin .Mod (.call (.glob mI) [(.slice (.var bj) [some (.var n_k),none,some (.cInt 10)])]) (.bin .Pow (.cInt 2) (.cInt 36))) [[n_k]] [(.call (.glob aY) [(.cInt 10)])] [[]] [ax,n_k]),.assign [eC] false (.list [(.list [(.cInt 2186),(.cInt 650),(.cInt 4042)]),(.list [(.cInt 1349),(.cInt 1349),(.cInt 1349)]),(.list [(.cInt 32),(.cInt 3872),(.cInt 3872)]),(.list [(.cInt 4045),(.cInt 2061),(.cInt 589)]),(.list [(.cInt 864),(.cInt 3232),(.cInt 1824)]),(.list [(.cInt 3874),(.cInt 34),(.cInt 2914)]),(.list [(.cInt 3968),(.cInt 4032),(.cInt 3904)]),(.list [(.cInt 4032),(.cInt 3008),(.cInt 0)])]),.assign [aA] false (.comp (.comp (.bin .Mod (.bin .Add (.sub (.sub (.var eC) (.var n_k)) (.var aJ)) (.bin .FloorDiv (.sub (.var bO) (.var n_k)) (.bin .Pow (.cInt 4096) (.var aJ)))) (.cInt 4096)) [[aJ]] [(.call (.glob aY) [(.cInt 3)])] [[]] [ax,aJ]) [[n_k]] [(.call (.glob aY) [(.cInt 8)])] [[]] [ax,n_k]),.assign [bz,bX] true (.tup [(.bin .Mod (.bin .Add (.cInt 2011500) (.sub (.var bO) (.cInt 8))) (.cInt 2097152)),(.bin .Mod (.bin .Add (.cInt 6871) (.sub (.var bO) (.cInt 9))) (.cInt 17408))]),.assign [dC] false (.bin .Add (.bin .Add (.bin .Mod (.var bX) (.cInt 17)) (.cInt 1)) (.bin .Mod (.bin .FloorDiv (.var bX) (.cInt 17)) (.cInt 8))),.assign [aG] false (.list [(.bin .Mod (.var bX) (.cInt 17)),(.var dC),(.bin .Add (.bin .Add (.var dC) (.cInt 1)) (.bin .Mod (.bin .FloorDiv (.var bX) (.cInt 136)) (.cInt 8)))]),.assign [aD] false (.bin .Mod (.bin .FloorDiv (.var bX) (.cInt 1088)) (.cInt 8)),.assign [dL] false (.list [(.call (.glob cQ) [(.slice (.var aA) [none,some (.cInt 4),none]),(.var bz),(.var bz)]),(.call (.glob cQ) [(.slice (.var aA) [some (.cInt 4),none,none]),(.bin .FloorDiv (.var bz) (.cInt 256)),(.var bz)])]),.assign [aI] false (.comp (.call (.glob cX) [(.var bN)]) [[bN]] [(.var dL)] [[]] [ax,bN]),.assign [dK] false (.list []),.assign [bF] false (.call (.glob eP) [(.var aI),(.bin .FloorDiv (.var bX) (.cInt 8704)),(.var dK)]),.assign [bc] false (.comp (.call (.glob cK) [(.call (.glob mI) [(.comp (.bin .Pow (.cInt 2) (.sub (.var aG) (.var n_j))) [[n_j]] [(.call (.glob aY) [(.cInt 3)])] [[(.bin .Mod (.bin .FloorDiv (.var n_k) (.bin .Pow (.cInt 2) (.var n_j))) (.cInt 2))]] [ax,n_j])])]) [[n_k]] [(.call (.glob aY) [(.cInt 8)])] [[]] [ax,n_k]),.ifs (.cmp (.var bc) [.NotEq] [(.comp (.boolop .Or [(.meth (.cStr [44,32]) jt [(.comp (.call (.glob dA) [(.sub (.var aG) (.var n_j))]) [[n_j]] [(.call (.glob aY) [(.cInt 3)])] [[(.bin .Mod (.bin .FloorDiv (.var n_k) (.bin .Pow (.cInt 2) (.var n_j))) (.cInt 2))]] [ax,n_j])]),(.cStr [48,120,48])]) [[n_k]] [(.call (.glob aY) [(.cInt 8)])] [[]] [ax,n_k])]) [.ret (.cBool false)] [],.ifs (.cmp (.comp (.var cC) [[cC]] [(.var dK)] [[(.not (.call (.glob cY) [(.sub (.var cC) (.cInt 0)),(.sub (.var cC) (.cInt 1)),(.sub (.var cC) (.cInt 2))]))]] [ax,cC]) [.NotEq] [(.list [])]) [.ret (.cBool false)] [],.assign [cp] false (.comp (.bin .Mod (.call (.glob uC) [(.comp (.var aL) [[aL]] [(.meth (.var aV) j8 [(.cStr [44,32])])] [[(.cmp (.var aL) [.NotEq] [(.cStr [48,120,48])])]] [ax,aL])]) (.cInt 2)) [[aV]] [(.var bc)] [[]] [ax,aV]),.ifs (.cmp (.comp (.bin .Add (.call (.glob a6) [(.var f8)]) (.slice (.var f8) [some (.cInt 3),none,none])) [[f8]] [(.var bF)] [[]] [ax,f8]) [.NotEq] [(.comp (.call (.glob a6) [(.call (.glob d9) [(.var aA),(.var cp),(.var n_k)])]) [[n_k]] [(.call (.glob aY) [(.cInt 8)])] [[]] [ax,n_k])]) [.ret (.cBool false)] [],.assign [ic] false (.call (.glob ei) [(.var bF),(.var cp),(.var aD)]),.ifs (.boolop .Or [(.cmp (.call (.glob a6) [(.var ic)]) [.NotEq] [(.comp (.bin .Mult (.cInt 8) (.var aJ)) [[aJ]] [(.call (.glob a6) [(.sub (.var aA) (.var aD))])] [[]] [ax,aJ])]),(.cmp (.call (.glob cF) [(.var ic)]) [.NotEq] [(.call (.glob cF) [(.sub (.var aA) (.var aD))])])]) [.ret (.cBool false)] [],.ret (.cmp (.comp (.list [(.meth (.var aO) aU []),(.meth (.var aO) aU []),(.attr (.var aO) iH)]) [[aO]] [(.var aI)] [[]] [ax,aO]) [.Eq] [(.comp (.list [(.cStr [101,110,100]),(.cStr []),(.bin .Add (.cInt 1) (.meth (.var bN) pn [(.cStr [10])]))]) [[bN]] [(.var dL)] [[]] [ax,bN])])]
noncomputable abbrev sh:List Nm:=[ce]
end
section
open PySem PyProof.Rows
set_option maxRecDepth 100000
structure Def (C:Cx) (a:Addr) (ps:List Nm) (T:List St):Prop where
 ex:∃ pss sc body n0,sd C a pss sc body/\mapO (bT n0 sc) body=some T/\pss.map nm=ps
 fn:Fn C (.ref a)
section
variable {C:Cx} {k:Nat} {ρ:Loc} {σ σ1 σ2 σ3:Sto} {a:Addr} {ps:List Nm} {T:List St}
theorem Def.callC (H:COk C) (d:Def C a ps T) {vs:List V} {f:Fl} {v:V} {ρ':Loc} (hx:ExL C k T (bg [] ps vs) σ f ρ' σ1) (hl:vs.length=ps.length) (hv:yr f=v):FnOkC C (k+1) (.ref a) vs σ v σ1:=by
 obtain ⟨⟨pss,sc,body,n0,h1,h2,rfl⟩,_⟩:=d
 subst hv
 exact zR H h1 h2 (by simpa using hl) hx
theorem Def.call (H:COk C) (d:Def C a ps T) {vs:List V} {f:Fl} {v:V} {ρ':Loc} (hx:ExL C k T (bg [] ps vs) σ f ρ' σ1) (hl:vs.length=ps.length) (hv:yr f=v):FnOk C (k+1) (.ref a) vs σ v σ1 :=
 (d.callC H hx hl hv).fn
theorem Ds (b:Bf):Fn C b.val:=by cases b<;>first | exact .bi _ | exact .ty _
theorem aC (H:COk C) {x:Nm} {b:Bf} {l:List Ex} {vs:List V} {v:V} (hg:C.glob x=some (.bf b)) (h2:EvL C k l ρ σ vs σ1) (h3:FnOk C k b.val vs σ1 v σ2):EvE C k (.call (.glob x) l) ρ σ v σ2 :=
 oI (et H hg) (fun X n h a r=>r) (Ds b) h2 h3
theorem EvE.eq {e:Ex} {v v':V} (h:EvE C k e ρ σ v σ1) (hv:v=v'):EvE C k e ρ σ v' σ1:=hv▸h
theorem FnOk.mono {k':Nat} {f:Value} {vs:List V} {v:V} (h:FnOk C k f vs σ v σ1) (hk:k<=k'):FnOk C k' f vs σ v σ1:=fun A X s as rm=>h A X s as (rm.mono hk)
theorem zC {t x y:Ex} {c:Bool} {i j:Int} (h1:EvT C k t ρ σ c σ1) (h2:EvE C k x ρ σ1 (.int i) σ1) (h3:EvE C k y ρ σ1 (.int j) σ1):EvE C k (.ite t x y) ρ σ (.int (bif c then i else j)) σ1 :=
 fV h1 (fun e=>by subst e;exact h2) (fun e=>by subst e;exact h3)
theorem mi {x y:Ex} {c b:Bool} (h1:EvT C k x ρ σ c σ1) (h2:EvT C k y ρ σ1 b σ1):EvT C k (.boolop .And [x,y]) ρ σ (c&&b) σ1 :=
 xr h1 (fun e=>by subst e;exact h2) (fun e=>by subst e;exact ⟨rfl,rfl⟩)
theorem oP {x y:Ex} {c b:Bool} (h1:EvT C k x ρ σ c σ1) (h2:EvT C k y ρ σ1 b σ1):EvT C k (.boolop .Or [x,y]) ρ σ (c||b) σ1 :=
 zG h1 (fun e=>by subst e;exact h2) (fun e=>by subst e;exact ⟨rfl,rfl⟩)
theorem zt {elt c:Ex} {t:List Nm} (p:V->Bool) (f:V->V):∀ (vs:List V),(∀ v∈vs,∃ ρ1,ci ρ t v=some ρ1/\fresh ρ t=true/\EvT C k c ρ1 σ (p v) σ/\(p v=true->EvE C k elt ρ1 σ (f v) σ)) ->
 CompR C k elt [t] [] [[c]] ρ σ vs ((vs.filter p).map f) σ:=by
 intro vs
 induction vs with
 | nil =>
   intro _
   exact .nil
 | cons v vs ih =>
   intro h
   obtain ⟨ρ1,h1,h2,h3,h4⟩:=h v (.head _)
   have ih:=ih fun u hu=>h u (.tail _ hu)
   cases hp:p v with
   | true=>rw [List.filter_cons_of_pos hp,List.map_cons];exact .emit h1 h2 (by rw [<-hp];exact h3) (h4 hp) ih
   | false=>rw [List.filter_cons_of_neg (by simp [hp])];exact .skip h1 h2 (by rw [<-hp];exact h3) ih
theorem sC {elt:Ex} {t t2:List Nm} {ts:List (List Nm)} {it:Ex} {its:List Ex} {cs2:List Ex} {ifs:List (List Ex)} (g:V->List V):∀ (vs:List V),
 (∀ v∈vs,∃ ρ1 src vs2,ci ρ t v=some ρ1/\fresh ρ t=true/\EvE C k it ρ1 σ src σ/\c7 src=some vs2/\fy src=true/\CompR C k elt (t2::ts) its (cs2::ifs) ρ1 σ vs2 (g v) σ) ->
 CompR C k elt (t::t2::ts) (it::its) ([]::cs2::ifs) ρ σ vs (vs.flatMap g) σ:=by
 intro vs
 induction vs with
 | nil =>
   intro _
   exact .nil
 | cons v vs ih =>
   intro h
   obtain ⟨ρ1,src,vs2,h1,h2,h3,h4,h5,h6⟩:=h v (.head _)
   rw [List.flatMap_cons]
   exact .inner h1 h2 ⟨rfl,rfl⟩ h3 h4 h5 h6 (ih fun u hu=>h u (.tail _ hu))
theorem gT {α:Type} {inj f:α->V} {ρ1:α->Loc} {l:List α} {elt it:Ex} {t own:List Nm} {src:V} (h1:EvE C k it ρ σ src σ1) (hs:c7 src=some (l.map inj)) (hm:fy src=true) (hf:fresh (ft ρ own) t=true)
 (hb:∀ i,ci (ft ρ own) t (inj i)=some (ρ1 i)) (h:∀ i∈l,EvE C k elt (ρ1 i) σ1 (f i) σ1) (hl:l.length<=sizeLine):CompOk C k (.comp elt [t] [it] [[]] own) ρ σ (.list (l.map f)) σ1:=by
 refine (fJ h1 hs hm ?_ (by simpa using hl))
 clear hs hl h1
 induction l with
 | nil=>exact .nil
 | cons a l ih=>exact .emit (hb a) hf ⟨rfl,rfl⟩ (h a (.head _)) (ih fun i hi=>h i (.tail _ hi))
theorem c5 {α:Type} {inj f:α->V} {ρ1:α->Loc} {l:List α} {elt it:Ex} {t own:List Nm} {src:V} (h1:EvE C k it ρ σ src σ1) (hs:c7 src=some (l.map inj)) (hm:fy src=true) (hf:fresh (ft ρ own) t=true)
 (hb:∀ i,ci (ft ρ own) t (inj i)=some (ρ1 i)) (h:∀ i∈l,EvE C k elt (ρ1 i) σ1 (f i) σ1) (hl:l.length<=sizeLine):EvE C k (.comp elt [t] [it] [[]] own) ρ σ (.list (l.map f)) σ1 :=
 (gT h1 hs hm hf hb h hl).ev
theorem wY {α:Type} {inj f:α->V} {p:α->Bool} {ρ1:α->Loc} {l:List α} {elt it c:Ex} {t own:List Nm} {src:V} (h1:EvE C k it ρ σ src σ1) (hs:c7 src=some (l.map inj)) (hm:fy src=true) (hf:fresh (ft ρ own) t=true)
 (hb:∀ i,ci (ft ρ own) t (inj i)=some (ρ1 i)) (ht:∀ i∈l,EvT C k c (ρ1 i) σ1 (p i) σ1) (h:∀ i∈l,p i=true->EvE C k elt (ρ1 i) σ1 (f i) σ1) (hl:l.length<=sizeLine):CompOk C k (.comp elt [t] [it] [[c]] own) ρ σ (.list ((l.filter p).map f)) σ1:=by
 refine (fJ h1 hs hm ?_ (by rw [List.length_map];exact Nat.le_trans (List.length_filter_le _ _) hl))
 clear hs hl h1
 induction l with
 | nil=>exact .nil
 | cons a l ih =>
   have ih:=ih (fun i hi=>ht i (.tail _ hi)) fun i hi=>h i (.tail _ hi)
   cases hp:p a with
   | true=>rw [List.filter_cons_of_pos hp,List.map_cons];exact .emit (hb a) hf (by have:=ht a (.head _);rwa [hp] at this) (h a (.head _) hp) ih
   | false=>rw [List.filter_cons_of_neg (by simp [hp])];exact .skip (hb a) hf (by have:=ht a (.head _);rwa [hp] at this) ih
theorem jS {α:Type} {inj f:α->V} {p:α->Bool} {ρ1:α->Loc} {l:List α} {elt it c:Ex} {t own:List Nm} {src:V} (h1:EvE C k it ρ σ src σ1) (hs:c7 src=some (l.map inj)) (hm:fy src=true) (hf:fresh (ft ρ own) t=true)
 (hb:∀ i,ci (ft ρ own) t (inj i)=some (ρ1 i)) (ht:∀ i∈l,EvT C k c (ρ1 i) σ1 (p i) σ1) (h:∀ i∈l,p i=true->EvE C k elt (ρ1 i) σ1 (f i) σ1) (hl:l.length<=sizeLine):EvE C k (.comp elt [t] [it] [[c]] own) ρ σ (.list ((l.filter p).map f)) σ1 :=
 (wY h1 hs hm hf hb ht h hl).ev
end
end
section
open PySem PyProof.Rows
set_option maxRecDepth 100000
structure Bi (C:Cx):Prop where
 sum:C.glob mI=some (.bf .sum)
 len:C.glob uC=some (.bf .len)
 max:C.glob j7=some (.bf .max)
 min:C.glob i9=some (.bf .min)
 range:C.glob aY=some (.bf .range)
 int:C.glob lj=some (.bf .int)
 chr:C.glob uB=some (.bf .chr)
 ord:C.glob uD=some (.bf .ord)
 hex:C.glob li=some (.bf .hex)
 list:C.glob mE=some (.bf .list)
 iter:C.glob jr=some (.bf .iter)
 next:C.glob mF=some (.bf .next)
 sorted:C.glob q6=some (.bf .sorted)
structure DefAt (C:Cx) (x:Nm) (ps:List Nm) (T:List St):Prop where
 ex:∃ a,C.glob x=some (.fn a)/\Def C a ps T
structure Calls (C:Cx) (k:Nat) (x:Nm) (vs:List V) (σ:Sto) (v:V) (σ':Sto):Prop where
 ex:∃ a,C.glob x=some (.fn a)/\Fn C (.ref a)/\FnOk C k (.ref a) vs σ v σ'
section
variable {C:Cx} {k:Nat} {ρ:Loc} {σ σ1 σ2 σ3:Sto} {a:Addr} {ps:List Nm} {T:List St} {x:Nm}
theorem DefAt.calls (H:COk C) (d:DefAt C x ps T) {vs:List V} {f:Fl} {v:V} {ρ':Loc} (hx:ExL C k T (bg [] ps vs) σ f ρ' σ1) (hl:vs.length=ps.length) (hv:yr f=v):Calls C (k+1) x vs σ v σ1:=by
 obtain ⟨a,h1,h2⟩:=d.ex
 exact ⟨a,h1,h2.fn,h2.call H hx hl hv⟩
theorem Calls.eq {vs:List V} {v v':V} (h:Calls C k x vs σ v σ1) (hv:v=v'):Calls C k x vs σ v' σ1:=hv▸h
theorem aK (H:COk C) {l:List Ex} {vs:List V} {v:V} (h2:EvL C k l ρ σ vs σ1) (h3:Calls C k x vs σ1 v σ2):EvE C k (.call (.glob x) l) ρ σ v σ2:=by
 obtain ⟨a,g,hf,h⟩:=h3.ex
 exact oI (fv:=.ref a) (et H g) (fun X n h a r=>r) hf h2 h
theorem mj {e':Ex} {i:Int} (hp:pL e'=true) (h1:EvE C k e' ρ σ (.int i) σ1):EvT C k e' ρ σ (i != 0) σ1:=gC hp h1 iZ
end
end
section
open PySem PyProof.Rows
set_option maxRecDepth 100000
structure LexSt (σ:Sto) (lx lf pb:Nat) (x:List Nat) (line:Int):Prop where
 hl:σ.get lx=some (.lexer lf line pb)
 hf:σ.get lf=some (.list (cS x))
 ne:lx≠lf
 np:lx≠pb
 nq:lf≠pb
noncomputable def upd (σ:Sto) (lx lf pb:Nat) (x:List Nat) (line:Int):Sto:=(σ.set lf (.list (cS x))).set lx (.lexer lf line pb)
section
variable {σ:Sto} {lx lf pb l:Nat} {x y:List Nat} {line line':Int}
theorem Sto.ext' {σ τ:Sto} (h1:σ.next=τ.next) (h2:∀ l,σ.get l=τ.get l):σ=τ:=by
 cases σ;cases τ
 simp only at h1
 subst h1
 congr
 funext l
 exact h2 l
theorem fm {o:O} (h:σ.get l=some o):σ.set l o=σ:=Sto.ext' rfl fun k=>by
 simp only [Sto.set]
 split
 ·subst_vars;exact h.symm
 ·rfl
theorem eY (h:lx≠lf) (k:Nat):(upd σ lx lf pb x line).get k=if k=lx then some (.lexer lf line pb) else if k=lf then some (.list (cS x)) else σ.get k:=by
 rfl
theorem LexSt.upd (L:LexSt σ lx lf pb x line):LexSt (upd σ lx lf pb y line') lx lf pb y line' :=
 ⟨by rw [eY L.ne];exact if_pos rfl,by rw [eY L.ne];simp [Ne.symm L.ne],L.ne,L.np,L.nq⟩
theorem fS (h:lx≠lf):Mine.upd (Mine.upd σ lx lf pb x line) lx lf pb y line'=Mine.upd σ lx lf pb y line':=Sto.ext' rfl fun k=>by
 rw [eY h,eY h,eY h]
 split
 ·rfl
 ·split<;>rfl
theorem kv (L:LexSt σ lx lf pb x line):Mine.upd σ lx lf pb x line=σ:=Sto.ext' rfl fun k=>by
 rw [eY L.ne]
 split
 ·subst_vars;exact L.hl.symm
 ·split
  ·subst_vars;exact L.hf.symm
  ·rfl
end
theorem qj:nm aS=iH:=by kernel_rfl
theorem sF:nm aN=ig:=by kernel_rfl
theorem zy:nm bZ=fP:=by kernel_rfl
theorem BJ:nm dN=dD:=by kernel_rfl
theorem BK:nm bQ=mH:=by kernel_rfl
theorem Do:nm sRc=cG:=by kernel_rfl
theorem w9:x5=jr:=by kernel_rfl
theorem e_w:nm white=[10,9,13,32]:=by kernel_rfl
noncomputable def nlc (c:Nat):Int:=if c=10 then 1 else 0
noncomputable def nl (x:List Nat):Int:=match x with | []=>0 | c::_=>nlc c
section
variable {C:Cx} {k:Nat} {ρ:Loc} {σ:Sto} {lx lf pb:Nat} {x:List Nat} {line:Int}
theorem iB (H:COk C) (L:LexOk C) (Lm:k8 C) (d:Def C C.rc cO T_read_char) (st:LexSt σ lx lf pb x line) (hz:x.length<1000000) :
 FnOkC C (k+2) (.ref C.rc) [.loc lx] σ (.str (x.take 1)) (upd σ lx lf pb (x.drop 1) (line+nl x)):=by
 have hzl:(cS x).length<sizeLine:=by rw [sizeLine_eq];simp [cS];lia -abstractProof
 have rd:=zF (k:=k) (ρ:=bg [] cO [.loc lx]) H L Lm (aa (x:=bq) (v:=.loc lx) rfl) st.hl st.hf hzl
 rw [sF,show Bg=mH from BK] at rd
 cases x with
 | nil =>
   rw [show upd σ lx lf pb (([]:List Nat).drop 1) (line+nl [])=σ from by simpa [nl] using kv st]
   have rd:EvE C (k+1) (.meth (.attr (.var bq) ig) mH [.cInt 1]) (bg [] cO [.loc lx]) σ (.str []) σ:=rd
   refine' d.callC H ?b rfl ?v
   case b =>
    unfold T_read_char
    refine' aq (aj ?e ?b ?c) ?r
    case e=>exact rd
    case b=>exact rfl
    case c=>exact fun _=>rfl
    case' r=>refine' aq (cD ?t ?a ?b) ?r2
    case t=>exact aH (aa rfl) bA kZ aF
    case a=>intro h;exact absurd h (by decide)
    case b=>intro _;exact aE
    case' r2=>skip
    exact aZ (fu (aa rfl)) rfl
   case v=>rfl
 | cons c r =>
   have rd:EvE C (k+1) (.meth (.attr (.var bq) ig) mH [.cInt 1]) (bg [] cO [.loc lx]) σ (.str [c]) (σ.set lf (.list (cS r))):=rd
   show FnOkC C (k+2) (.ref C.rc) [.loc lx] σ (.str [c]) (upd σ lx lf pb r (line+nl (c::r)))
   have hl2:(σ.set lf (.list (cS r))).get lx=some (.lexer lf line pb):=by simp only [Sto.set,if_neg st.ne];exact st.hl
   refine' d.callC H ?b1 rfl ?v1
   case b1 =>
    unfold T_read_char
    refine' aq (aj ?e1 ?b1 ?c1) ?r1
    case e1=>exact rd
    case b1=>exact rfl
    case c1=>exact fun _=>rfl
    case' r1=>refine' aq (ρ1:=put (bg [] cO [.loc lx]) cn (.str [c])) (σ1:=upd σ lx lf pb r (line+nl (c::r))) (cD (c:=([c]==[10])) ?t1 ?a1 ?b1) ?r21
    case t1=>exact aH (aa rfl) bA kZ aF
    case a1 =>
     intro h
     have hc:c=10:=by simpa using h
     subst hc
     refine' aq ?x1 aE
     case' x1=>rw [<-qj]
     exact vC L (aa rfl) hl2
    case b1 =>
     intro h
     have hc:c≠10:=by simpa using h
     have:upd σ lx lf pb r (line+nl (c::r))=σ.set lf (.list (cS r)):=by
      rw [show nl (c::r)=0 from if_neg hc,Int.add_zero]
      exact fm hl2
     rw [this]
     exact aE
    case' r21=>skip
    exact aZ (fu (aa rfl)) rfl
   case v1=>rfl
end
end
section
open PySem PyProof.Rows
set_option maxRecDepth 100000
noncomputable def bD (stop:Nat->Bool):List Nat->Int->List Nat->List Nat × List Nat × Int × Bool
 | [],line,t=>(t,[],line,true)
 | c::r,line,t=>bif stop c then (t,r,line+nlc c,false) else bif Nat.beq c 92 then (match r with | []=>(t,[],line+nlc c,true) | d::r'=>bD stop r' (line+nlc c+nlc d) (t++[d])) else bD stop r (line+nlc c) (t++[c])
theorem dc (stop:Nat->Bool) (c:Nat) (r:List Nat) (line:Int) (t:List Nat):bD stop (c::r) line t=bif stop c then (t,r,line+nlc c,false) else bif Nat.beq c 92 then (match r with | []=>(t,[],line+nlc c,true) | d::r'=>bD stop r' (line+nlc c+nlc d) (t++[d])) else bD stop r (line+nlc c) (t++[c]):=by
 cases r<;>rfl
noncomputable def isW (c:Nat):Bool:=Nat.beq c 10||Nat.beq c 9||Nat.beq c 13||Nat.beq c 32
noncomputable def isQ (c:Nat):Bool:=Nat.beq c 34
noncomputable abbrev xj:St:=.ifs (.cmp (.var cn) [.Eq] [(.cStr [92])]) [.assign [cn] false (.meth (.var bq) cG [])] []
noncomputable abbrev iw (T1:Ex):List St:=[.ifs T1 [.ret (.var bK)] [xj],.aug bK .Add (.var cn)]
noncomputable abbrev Rg (lx l:Nat) (t:List Nat) (v:V):Loc:=[(bq,.loc lx),(bK,.str t),(ch,.loc l),(cn,v)]
section
variable {C:Cx} {k:Nat} {σ:Sto} {lx lf pb l:Nat}
structure eO (C:Cx):Prop where
 H:COk C
 L:LexOk C
 Lm:k8 C
 rc:Def C C.rc cO T_read_char
 ra:yW C
theorem oq {x:List Nat} {line:Int} (h:lx≠lf) (h1:l≠lx) (h2:l≠lf):(upd σ lx lf pb x line).get l=σ.get l:=by
 rw [eY h,if_neg h1,if_neg h2]
theorem pB (G:eO C) {c:Nat} {r:List Nat} {line:Int} (st:LexSt σ lx lf pb (c::r) line) (hl:σ.get l=some (.citer lx true)) (hz:(c::r).length<1000000) (h1:l≠lx) (h2:l≠lf) :
 ix C (k+3) l σ (some (.str [c])) (upd σ lx lf pb r (line+nlc c)) :=
 v7 G.ra hl (iB G.H G.L G.Lm G.rc st hz) (by rw [oq st.ne h1 h2];exact hl)
theorem pA (G:eO C) {line:Int} (st:LexSt σ lx lf pb [] line) (hl:σ.get l=some (.citer lx true)):ix C (k+3) l σ none (σ.set l (.citer lx false)):=by
 have h:=iB (k:=k) G.H G.L G.Lm G.rc st (by simp)
 rw [show upd σ lx lf pb (([]:List Nat).drop 1) (line+nl [])=σ from by simpa [nl] using kv st] at h
 exact x9 G.ra hl h hl
theorem A8 (G:eO C) {ρ:Loc} {x:List Nat} {line:Int} (hs:get ρ bq=some (.loc lx)) (st:LexSt σ lx lf pb x line) (hz:x.length<1000000) :
 EvE C (k+3) (.meth (.var bq) cG []) ρ σ (.str (x.take 1)) (upd σ lx lf pb (x.drop 1) (line+nl x)):=by
 have:=qJ G.L st.hl (x:=sRc) (f:=C.rc) (by kernel_rfl) G.L.rc G.L.rcf
 rw [Do] at this
 exact dq (aa hs) this G.rc.fn ai (((iB (k:=k) G.H G.L G.Lm G.rc st hz).fn).mono (show k+2<=k+3 by simp))
theorem wo (G:eO C) (T1:Ex) {τ:Sto} {t:List Nat} {c:Nat} {r:List Nat} {line:Int} (st:LexSt τ lx lf pb r line) (hz:r.length<1000000) (ht:t.length<1000000) (hT:EvT C (k+3) T1 (Rg lx l t (.str [c])) τ false τ) :
 ExL C (k+3) (iw T1) (Rg lx l t (.str [c])) τ .next (Rg lx l (t++bif Nat.beq c 92 then r.take 1 else [c]) (.str (bif Nat.beq c 92 then r.take 1 else [c]))) (bif Nat.beq c 92 then upd τ lx lf pb (r.drop 1) (line+nl r) else τ):=by
 have hb:([c]==[92])=Nat.beq c 92:=by
  rw [Bool.eq_iff_iff];simp [Nat.beq_eq]
 have ev1:EvT C (k+3) (.cmp (.var cn) [.Eq] [.cStr [92]]) (Rg lx l t (.str [c])) τ (Nat.beq c 92) τ:=by
  rw [<-hb];exact aH (aa rfl) bA kZ aF
 cases h9:Nat.beq c 92 with
 | true =>
   rw [h9] at ev1
   have hl:(r.take 1).length<=1:=by simp;exact Nat.min_le_left 1 (List.length r)
   refine aq (ρ1:=Rg lx l t (.str (r.take 1))) (σ1:=upd τ lx lf pb (r.drop 1) (line+nl r)) (cD hT (fun h=>by cases h) fun _=>aq (cD ev1 (fun _=>aq (aj (A8 G rfl st hz) rfl fun _=>rfl) aE) (fun h=>by cases h)) aE) ?_
   exact aq (ji (v0:=.str t) rfl (aa rfl) (kj (by rw [List.length_append];lia -abstractProof))) aE
 | false =>
   rw [h9] at ev1
   refine aq (ρ1:=Rg lx l t (.str [c])) (σ1:=τ) (cD hT (fun h=>by cases h) fun _=>aq (cD ev1 (fun h=>by cases h) (fun _=>aE)) aE) ?_
   exact aq (ji (v0:=.str t) rfl (aa rfl) (kj (by simp;lia -abstractProof))) aE
theorem mZ (G:eO C) (stop:Nat->Bool) (T1:Ex) (h1:l≠lx) (h2:l≠lf)
 (hT:∀ (τ:Sto) (t:List Nat) (c:Nat) (x:List Nat) (line:Int),LexSt τ lx lf pb x line->EvT C (k+3) T1 (Rg lx l t (.str [c])) τ (stop c) τ) :
 ∀ (n:Nat) (x:List Nat) (line:Int) (t:List Nat) (v:V) (τ:Sto),x.length<=n->LexSt τ lx lf pb x line->τ.get l=some (.citer lx true)->x.length+t.length<900000 ->
   ∃ f ρ' τ',ox C (k+3) l [cn] (iw T1) [] (Rg lx l t v) τ f ρ' τ' /\
     (((bD stop x line t).2.2.2=false/\f=.ret (.str (bD stop x line t).1)/\τ'=upd τ lx lf pb (bD stop x line t).2.1 (bD stop x line t).2.2.1) \/
      ((bD stop x line t).2.2.2=true/\f=.next/\(∃ v',ρ'=Rg lx l (bD stop x line t).1 v')/\(bD stop x line t).2.1=[]/\τ'=(upd τ lx lf pb [] (bD stop x line t).2.2.1).set l (.citer lx false)))
 | n,[],line,t,v,τ,hn,st,hl,hz=>by
   refine ⟨.next,_,_,.done (pA G st hl) aE,.inr ⟨rfl,rfl,⟨v,rfl⟩,rfl,?_⟩⟩
   show _=(upd τ lx lf pb [] line).set l _
   rw [kv st]
 | 0,c::r,line,t,v,τ,hn,st,hl,hz=>by simp at hn
 | n+1,c::r,line,t,v,τ,hn,st,hl,hz=>by
   have hx:=pB (k:=k) G st hl (by simp at hz ⊢;lia -abstractProof) h1 h2
   have st1:LexSt (upd τ lx lf pb r (line+nlc c)) lx lf pb r (line+nlc c):=st.upd
   have hl1:(upd τ lx lf pb r (line+nlc c)).get l=some (.citer lx true):=by rw [oq st.ne h1 h2];exact hl
   have hc:o8 (upd τ lx lf pb r (line+nlc c)) l:=⟨lx,true,hl1⟩
   have hT1:=hT _ t c r _ st1
   cases hs:stop c with
   | true =>
     rw [hs] at hT1
     refine ⟨.ret (.str t),_,_,.ret hx hc rfl (aZ (cD hT1 (fun _=>aZ (fu (aa rfl)) rfl) (fun h=>by cases h)) rfl),.inl ?_⟩
     have e:bD stop (c::r) line t=(t,r,line+nlc c,false):=by rw [dc,hs];rfl
     rw [e]
     exact ⟨rfl,rfl,rfl⟩
   | false =>
     rw [hs] at hT1
     have hb:=wo (k:=k) G T1 (t:=t) (c:=c) (r:=r) st1 (by simp at hz;lia -abstractProof) (by simp at hz;lia -abstractProof) hT1
     cases h9:Nat.beq c 92 with
     | false =>
       rw [h9] at hb
       refine via fun _ g0=>?_
       obtain ⟨f,ρ',τ',hF,hR⟩:=mZ G stop T1 h1 h2 hT n r (line+nlc c) (t++[c]) (.str [c]) _ (by simp at hn;omega) st1 hl1 (by simp at hz ⊢;lia -abstractProof)
       refine g0 ?_
       refine ⟨f,ρ',τ',.step hx hc rfl hb (.inl rfl) hF,?_⟩
       have e:bD stop (c::r) line t=bD stop r (line+nlc c) (t++[c]):=by rw [dc,hs,h9];rfl
       rw [e]
       rw [fS st.ne] at hR
       simpa only [fS st.ne] using hR
     | true =>
       rw [h9] at hb
       simp only [cond_true,fS st.ne] at hb
       cases r with
       | nil =>
         have st2:LexSt (upd τ lx lf pb [] (line+nlc c)) lx lf pb [] (line+nlc c):=st.upd
         have hb':ExL C (k+3) (iw T1) (Rg lx l t (.str [c])) (upd τ lx lf pb [] (line+nlc c)) .next (Rg lx l t (.str [])) (upd τ lx lf pb [] (line+nlc c)):=by simpa [nl] using hb
         refine ⟨.next,_,_,.step hx hc rfl hb' (.inl rfl) (.done (pA G st2 hl1) aE),.inr ?_⟩
         have e:bD stop [c] line t=(t,[],line+nlc c,true):=by rw [dc,hs,h9];rfl
         rw [e]
         exact ⟨rfl,rfl,⟨_,rfl⟩,rfl,rfl⟩
       | cons d r =>
         have st2:LexSt (upd τ lx lf pb r (line+nlc c+nlc d)) lx lf pb r (line+nlc c+nlc d):=st.upd
         have hl2:(upd τ lx lf pb r (line+nlc c+nlc d)).get l=some (.citer lx true):=by rw [oq st.ne h1 h2];exact hl
         refine via fun _ g0=>?_
         obtain ⟨f,ρ',τ',hF,hR⟩:=mZ G stop T1 h1 h2 hT n r (line+nlc c+nlc d) (t++[d]) (.str [d]) _ (by simp at hn;exact Nat.le_of_succ_le hn) st2 hl2 (by simp at hz ⊢;lia -abstractProof)
         refine g0 ?_
         refine ⟨f,ρ',τ',.step hx hc rfl hb (.inl rfl) hF,?_⟩
         have e:bD stop (c::d::r) line t=bD stop r (line+nlc c+nlc d) (t++[d]):=by rw [dc,hs,h9];rfl
         rw [e]
         simpa only [fS st.ne] using hR
theorem vZ (hl:σ.get l=some (.citer lx false)):ix C k l σ none σ:=by
 intro A X s rm S Q E hQ
 obtain ⟨hlx,g⟩:=S.obj l _ hl
 unfold pyNext
 refine bL (wpAny_bind (wpAny_attempt (wpAny_callSpecial?_slot (name:=Str.ofString "__next__") (⟨_,g,rfl⟩:s.TypeIs (.ref (X.φ l)) "callable_iterator") slot_ci
  (wpAny_call_entry slot_ci ⟨_,g,rfl⟩ lZ ?_ (oB _)))))
 unfold Builtin.«callable_iterator.__next__»
 refine wpAny_bind (m:=slotArgs "__next__" 0 _) (wpAny_of_eq (a:=(Value.ref (X.φ l),([]:List Value))) (by first | rfl | kernel_rfl) ?_)
 dsimp only
 refine wpAny_bind (wpAny_field g rfl (x:=.bool true) rfl ?_)
 rw [if_pos (by rfl)]
 refine wpAny_bind (wpAny_rule (wpAny_bind ?_))
 show wpAny _ A.in1 (do raiseNew (<-newExc (.type "StopIteration") [])) _ _ _
 refine wpAny_bind ?_
 dsimp only [newExc,newTuple]
 refine wpAny_bind (wpAny_newObj_type ?_ (by size_fits))
 refine wpAny_bind (m:=firstArgMember _ _) (wpAny_of_eq (a:=Value.none) (by first | rfl | (simp only [firstArgMember];rfl)) ?_)
 refine wpAny_newObj_type ?_ (by size_fits)
 dsimp only [raiseNew]
 refine wpAny_bind (wpAny_handled ?_)
 rw [show A.in1.handled=none from rm.handled]
 refine wpAny_bind (wpAny_pure (wpAny_throw ?_))
 refine wpAny_bind (wpAny_isInstance (T := "StopIteration") (b:=true) ⟨_,Heap.get?_push_size _ rfl,rfl⟩ isSubtype_stop ?_)
 refine wpAny_pure fun hs=>?_
 obtain ⟨S',e⟩:=S.grow0 (⟨fun b o e=>Heap.get?_push_of_some _ (Heap.get?_push_of_some _ e),hs,rfl,rfl⟩:Grow s { s with heap:=(s.heap.push { cls:=.type "tuple",data:=.seq #[] }).push { cls:=.type "StopIteration",data:=.fields (#[.ref s.heap.objs.size,.none,.none,.none,.bool false,.none]++ownMembersOf (.type "StopIteration") []) } })
 exact hQ _ X _ S' e trivial
noncomputable def tok:List Nat->Int->List Nat × List Nat × Int
 | [],line=>([],[],line)
 | c::r,line=>bif isW c then tok r (line+nlc c) else bif isQ c then ((bD isQ r (line+nlc c) []).1,(bD isQ r (line+nlc c) []).2.1,(bD isQ r (line+nlc c) []).2.2.1)
   else bif Nat.beq c 92 then (match r with
    | []=>([],[],line+nlc c)
    | d::r'=>((bD isW r' (line+nlc c+nlc d) [d]).1,(bD isW r' (line+nlc c+nlc d) [d]).2.1,(bD isW r' (line+nlc c+nlc d) [d]).2.2.1))
   else ((bD isW r (line+nlc c) [c]).1,(bD isW r (line+nlc c) [c]).2.1,(bD isW r (line+nlc c) [c]).2.2.1)
noncomputable abbrev TW:Ex:=.cmp (.var cn) [.In] [.attr (.var bq) fP]
noncomputable abbrev TQ:Ex:=.cmp (.var cn) [.Eq] [.cStr [34]]
noncomputable abbrev yl:List St:=[.ifs TW [.cont] [],.ifs TQ [.for_ [cn] (.var ch) (iw TQ) []] [xj,.aug bK .Add (.var cn),.for_ [cn] (.var ch) (iw TW) []]]
theorem t_w (G:eO C) {τ:Sto} {t:List Nat} {c:Nat} {x:List Nat} {line:Int} (st:LexSt τ lx lf pb x line):EvT C (k+3) TW (Rg lx l t (.str [c])) τ (isW c) τ:=by
 have h:=xq (k:=k+3) (ρ:=Rg lx l t (.str [c])) G.L (aa (x:=bq) (v:=.loc lx) rfl) st.hl
 rw [zy,e_w] at h
 have e:isW c=decide (c∈[10,9,13,32]):=by
  rw [Bool.eq_iff_iff];simp [isW,Nat.beq_eq,or_assoc]
 rw [e]
 exact aH (aa rfl) h yw aF
theorem t_q {τ:Sto} {t:List Nat} {c:Nat}:EvT C k TQ (Rg lx l t (.str [c])) τ (isQ c) τ:=by
 have e:isQ c=([c]==[34]):=by
  rw [Bool.eq_iff_iff];simp [isQ,Nat.beq_eq]
 rw [e]
 exact aH (aa rfl) bA kZ aF
end
end
section
open PySem PyProof.Rows
set_option maxRecDepth 100000
theorem dY (c:Nat) (r:List Nat) (line:Int):tok (c::r) line=bif isW c then tok r (line+nlc c) else bif isQ c then ((bD isQ r (line+nlc c) []).1,(bD isQ r (line+nlc c) []).2.1,(bD isQ r (line+nlc c) []).2.2.1)
 else bif Nat.beq c 92 then (match r with
  | []=>([],[],line+nlc c)
  | d::r'=>((bD isW r' (line+nlc c+nlc d) [d]).1,(bD isW r' (line+nlc c+nlc d) [d]).2.1,(bD isW r' (line+nlc c+nlc d) [d]).2.2.1))
 else ((bD isW r (line+nlc c) [c]).1,(bD isW r (line+nlc c) [c]).2.1,(bD isW r (line+nlc c) [c]).2.2.1):=by
 cases r<;>rfl
section
variable {C:Cx} {k:Nat} {σ:Sto} {lx lf pb l:Nat}
noncomputable def lu (l lx lf pb:Nat) (τ:Sto) (R:List Nat × List Nat × Int) (f:Fl) (ρ':Loc) (τ':Sto):Prop :=
 (f=.ret (.str R.1)/\τ'=upd τ lx lf pb R.2.1 R.2.2)\/(f=.next/\get ρ' bK=some (.str R.1)/\R.2.1=[]/\τ'=(upd τ lx lf pb [] R.2.2).set l (.citer lx false))
theorem kY (G:eO C) (stop:Nat->Bool) (T1:Ex) (h1:l≠lx) (h2:l≠lf)
 (hT:∀ (τ:Sto) (t:List Nat) (c:Nat) (x:List Nat) (line:Int),LexSt τ lx lf pb x line->EvT C (k+3) T1 (Rg lx l t (.str [c])) τ (stop c) τ)
 (x:List Nat) (line:Int) (t:List Nat) (v:V) (τ:Sto) (st:LexSt τ lx lf pb x line) (hl:τ.get l=some (.citer lx true)) (hz:x.length+t.length<900000) :
 ∃ f ρ' τ',ExS C (k+3) (.for_ [cn] (.var ch) (iw T1) []) (Rg lx l t v) τ f ρ' τ'/\lu l lx lf pb τ ((bD stop x line t).1,(bD stop x line t).2.1,(bD stop x line t).2.2.1) f ρ' τ':=by
 refine via fun _ g0=>?_
 obtain ⟨f,ρ',τ',hF,hR⟩:=mZ (k:=k) G stop T1 h1 h2 hT x.length x line t v τ (Nat.le_refl _) st hl hz
 refine g0 ?_
 refine ⟨f,ρ',τ',qC (aa rfl) ⟨lx,true,hl⟩ hF,?_⟩
 rcases hR with ⟨_,rfl,rfl⟩ | ⟨_,rfl,⟨v',rfl⟩,e,rfl⟩
 ·exact .inl ⟨rfl,rfl⟩
 ·exact .inr ⟨rfl,rfl,e,rfl⟩
theorem pH (G:eO C) {ρ ρ1:Loc} {c:Nat} {r:List Nat} {line:Int} {τ:Sto} {R:List Nat × List Nat × Int} {f:Fl} {ρ2:Loc} {τ2:Sto} (st:LexSt τ lx lf pb (c::r) line) (hl:τ.get l=some (.citer lx true)) (hz:(c::r).length<1000000) (h1:l≠lx) (h2:l≠lf)
 (hb:ci ρ [cn] (.str [c])=some ρ1) (hB:ExL C (k+3) yl ρ1 (upd τ lx lf pb r (line+nlc c)) f ρ2 τ2) (hE:lu l lx lf pb τ R f ρ2 τ2):∃ f ρ' τ',ox C (k+3) l [cn] yl [] ρ τ f ρ' τ'/\lu l lx lf pb τ R f ρ' τ':=by
 have hx:=pB (k:=k) G st hl hz h1 h2
 have hc:o8 (upd τ lx lf pb r (line+nlc c)) l:=⟨lx,true,by rw [oq st.ne h1 h2];exact hl⟩
 rcases hE with ⟨rfl,rfl⟩ | ⟨rfl,h3,h4,rfl⟩
 ·exact ⟨_,_,_,.ret hx hc hb hB,.inl ⟨rfl,rfl⟩⟩
 ·exact ⟨_,_,_,.step hx hc hb hB (.inl rfl) (.done (vZ (lx:=lx) (by simp [Sto.set])) aE),.inr ⟨rfl,h3,h4,rfl⟩⟩
theorem Aq (G:eO C) (h1:l≠lx) (h2:l≠lf):∀ (x:List Nat) (line:Int) (ρ:Loc) (τ:Sto),(∀ v,ci ρ [cn] v=some (Rg lx l [] v))->get ρ bK=some (.str [])->LexSt τ lx lf pb x line->τ.get l=some (.citer lx true)->x.length<800000 ->
 ∃ f ρ' τ',ox C (k+3) l [cn] yl [] ρ τ f ρ' τ'/\lu l lx lf pb τ (tok x line) f ρ' τ':=by
 intro x
 induction x with
 | nil =>
   intro line ρ τ hρ hρ0 st hl hz
   refine ⟨.next,_,_,.done (pA G st hl) aE,.inr ⟨rfl,hρ0,rfl,?_⟩⟩
   show _=(upd τ lx lf pb [] line).set l _
   rw [kv st]
 | cons c r ih =>
   intro line ρ τ hρ hρ0 st hl hz
   have hz':(c::r).length<1000000:=by lia -abstractProof
   have st1:LexSt (upd τ lx lf pb r (line+nlc c)) lx lf pb r (line+nlc c):=st.upd
   have hl1:(upd τ lx lf pb r (line+nlc c)).get l=some (.citer lx true):=by rw [oq st.ne h1 h2];exact hl
   have hc:o8 (upd τ lx lf pb r (line+nlc c)) l:=⟨lx,true,hl1⟩
   have tw:=t_w (k:=k) G (l:=l) (t:=[]) (c:=c) st1
   have tq:=t_q (C:=C) (k:=k+3) (lx:=lx) (l:=l) (τ:=upd τ lx lf pb r (line+nlc c)) (t:=[]) (c:=c)
   cases hw:isW c with
   | true =>
     rw [hw] at tw
     obtain ⟨f,ρ',τ',hF,hR⟩:=ih (line+nlc c) (Rg lx l [] (.str [c])) _ (fun v=>rfl) rfl st1 hl1 (by simp at hz;exact Nat.lt_of_succ_lt hz)
     refine ⟨f,ρ',τ',.step (pB G st hl hz' h1 h2) hc (hρ _) (aZ (cD tw (fun _=>aZ zH rfl) (fun h=>by cases h)) rfl) (.inr rfl) hF,?_⟩
     have e:tok (c::r) line=tok r (line+nlc c):=by rw [dY,hw];rfl
     rw [e]
     unfold lu at hR ⊢
     simpa only [fS st.ne] using hR
   | false =>
     rw [hw] at tw
     have lift:∀ {f ρ' τ'},ExS C (k+3) (.ifs TQ [.for_ [cn] (.var ch) (iw TQ) []] [xj,.aug bK .Add (.var cn),.for_ [cn] (.var ch) (iw TW) []]) (Rg lx l [] (.str [c])) (upd τ lx lf pb r (line+nlc c)) f ρ' τ'->(f=.next\/jn f=true) ->
      ExL C (k+3) yl (Rg lx l [] (.str [c])) (upd τ lx lf pb r (line+nlc c)) f ρ' τ':=fun {f ρ' τ'} h hf =>
      aq (cD tw (fun h=>by cases h) fun _=>aE) (by
       rcases hf with rfl | hf
       ·exact aq h aE
       ·exact aZ h hf)
     have endf:∀ {R f ρ' τ'},lu l lx lf pb τ R f ρ' τ'->f=.next\/jn f=true:=fun {R f ρ' τ'} h=>by
      rcases h with ⟨rfl,_⟩ | ⟨rfl,_⟩
      ·exact .inr rfl
      ·exact .inl rfl
     have one:∀ {s f ρ ρ' τ τ'},ExS C (k+3) s ρ τ f ρ' τ'->(f=.next\/jn f=true)->ExL C (k+3) [s] ρ τ f ρ' τ':=fun {s f ρ ρ' τ τ'} h hf=>by
      rcases hf with rfl | hf
      ·exact aq h aE
      ·exact aZ h hf
     cases hq:isQ c with
     | true =>
       rw [hq] at tq
       obtain ⟨f,ρ',τ',hF,hR⟩:=kY (k:=k) G isQ TQ h1 h2 (fun τ t c x line _=>t_q) r (line+nlc c) [] (.str [c]) _ st1 hl1 (by simp at hz ⊢;lia -abstractProof)
       have hR':lu l lx lf pb τ (tok (c::r) line) f ρ' τ':=by
        have e:tok (c::r) line=((bD isQ r (line+nlc c) []).1,(bD isQ r (line+nlc c) []).2.1,(bD isQ r (line+nlc c) []).2.2.1):=by rw [dY,hw,hq];rfl
        rw [e]
        unfold lu at hR ⊢
        simpa only [fS st.ne] using hR
       exact pH G st hl hz' h1 h2 (hρ _) (lift (cD tq (fun _=>one hF (endf hR')) (fun h=>by cases h)) (endf hR')) hR'
     | false =>
       rw [hq] at tq
       have hb:([c]==[92])=Nat.beq c 92:=by
        rw [Bool.eq_iff_iff];simp [Nat.beq_eq]
       have ev1:EvT C (k+3) (.cmp (.var cn) [.Eq] [.cStr [92]]) (Rg lx l [] (.str [c])) (upd τ lx lf pb r (line+nlc c)) (Nat.beq c 92) (upd τ lx lf pb r (line+nlc c)):=by
        rw [<-hb];exact aH (aa rfl) bA kZ aF
       cases h9:Nat.beq c 92 with
       | true =>
         rw [h9] at ev1
         have rd:=A8 (k:=k) G (ρ:=Rg lx l [] (.str [c])) rfl st1 (by simp at hz;exact Nat.lt_of_succ_lt hz')
         have pre:∀ {f ρ' τ'},ExS C (k+3) (.for_ [cn] (.var ch) (iw TW) []) (Rg lx l (r.take 1) (.str (r.take 1))) (upd τ lx lf pb (r.drop 1) (line+nlc c+nl r)) f ρ' τ'->(f=.next\/jn f=true) ->
          ExL C (k+3) [xj,.aug bK .Add (.var cn),.for_ [cn] (.var ch) (iw TW) []] (Rg lx l [] (.str [c])) (upd τ lx lf pb r (line+nlc c)) f ρ' τ':=fun {f ρ' τ'} h hf=>by
          rw [fS st.ne] at rd
          refine aq (ρ1:=Rg lx l [] (.str (r.take 1))) (σ1:=upd τ lx lf pb (r.drop 1) (line+nlc c+nl r)) (cD ev1 (fun _=>aq (aj rd rfl fun _=>rfl) aE) (fun h=>by cases h)) ?_
          refine aq (ji (v0:=.str []) rfl (aa rfl) (kj (by simp;lia -abstractProof))) ?_
          exact one h hf
         have st2:LexSt (upd τ lx lf pb (r.drop 1) (line+nlc c+nl r)) lx lf pb (r.drop 1) (line+nlc c+nl r):=st.upd
         have hl2:(upd τ lx lf pb (r.drop 1) (line+nlc c+nl r)).get l=some (.citer lx true):=by rw [oq st.ne h1 h2];exact hl
         obtain ⟨f,ρ',τ',hF,hR⟩:=kY (k:=k) G isW TW h1 h2 (fun τ t c x line st=>t_w G st) (r.drop 1) (line+nlc c+nl r) (r.take 1) (.str (r.take 1)) _ st2 hl2 (by simp at hz ⊢;omega)
         have hR':lu l lx lf pb τ (tok (c::r) line) f ρ' τ':=by
          have e:tok (c::r) line=((bD isW (r.drop 1) (line+nlc c+nl r) (r.take 1)).1,(bD isW (r.drop 1) (line+nlc c+nl r) (r.take 1)).2.1,(bD isW (r.drop 1) (line+nlc c+nl r) (r.take 1)).2.2.1):=by
           rw [dY,hw,hq,h9]
           cases r with
           | nil=>rw [show nl []=0 from rfl,Int.add_zero];rfl
           | cons d r=>rfl
          rw [e]
          unfold lu at hR ⊢
          simpa only [fS st.ne] using hR
         exact pH G st hl hz' h1 h2 (hρ _) (lift (cD tq (fun h=>by cases h) fun _=>pre hF (endf hR')) (endf hR')) hR'
       | false =>
         rw [h9] at ev1
         have pre:∀ {f ρ' τ'},ExS C (k+3) (.for_ [cn] (.var ch) (iw TW) []) (Rg lx l [c] (.str [c])) (upd τ lx lf pb r (line+nlc c)) f ρ' τ'->(f=.next\/jn f=true) ->
          ExL C (k+3) [xj,.aug bK .Add (.var cn),.for_ [cn] (.var ch) (iw TW) []] (Rg lx l [] (.str [c])) (upd τ lx lf pb r (line+nlc c)) f ρ' τ':=fun {f ρ' τ'} h hf=>by
          refine aq (ρ1:=Rg lx l [] (.str [c])) (σ1:=upd τ lx lf pb r (line+nlc c)) (cD ev1 (fun h=>by cases h) fun _=>aE) ?_
          refine aq (ji (v0:=.str []) rfl (aa rfl) (kj (by simp))) ?_
          exact one h hf
         obtain ⟨f,ρ',τ',hF,hR⟩:=kY (k:=k) G isW TW h1 h2 (fun τ t c x line st=>t_w G st) r (line+nlc c) [c] (.str [c]) _ st1 hl1 (by dsimp at hz ⊢;lia -abstractProof)
         have hR':lu l lx lf pb τ (tok (c::r) line) f ρ' τ':=by
          have e:tok (c::r) line=((bD isW r (line+nlc c) [c]).1,(bD isW r (line+nlc c) [c]).2.1,(bD isW r (line+nlc c) [c]).2.2.1):=by rw [dY,hw,hq,h9];rfl
          rw [e]
          unfold lu at hR ⊢
          simpa only [fS st.ne] using hR
         exact pH G st hl hz' h1 h2 (hρ _) (lift (cD tq (fun h=>by cases h) fun _=>pre hF (endf hR')) (endf hR')) hR'
end
end
section
open PySem PyProof.Rows
set_option maxRecDepth 100000
theorem io:nm "append"=ey:=by kernel_rfl
theorem Al:nm "pop"=Bh:=by kernel_rfl
noncomputable def SWf (σ:Sto):Prop:=∀ l o,σ.get l=some o->l<σ.next/\belowO σ.next o
structure oy (C:Cx) (m:Nm) (ps:List Nm) (T:List St):Prop where
 ex:∃ f x,nm x=m/\ka x=true/\PySem.W.findIn C.K (.ref C.cls) x=some (some (.ref f))/\PySem.W.isFn C.K (.ref f)=true/\Def C f ps T
section
variable {C:Cx} {k:Nat} {σ σ1 σ2 σ3:Sto} {ρ:Loc} {lx lf pb l:Nat} {x:List Nat} {line:Int}
theorem FnOk.wf {f:Value} {vs:List V} {v:V} (h:SWf σ->FnOk C k f vs σ v σ1):FnOk C k f vs σ v σ1:=fun A X s as rm S=>h (fun l o e=>⟨S.lt l o e,(S.obj l o e).below⟩) A X s as rm S
theorem qx (L:LexOk C) {m:Nm} {ps:List Nm} {T:List St} (d:oy C m ps T) {o:Ex} {es:List Ex} {vs:List V} {v:V} (h1:EvE C k o ρ σ (.loc lx) σ1) (hl:σ1.get lx=some (.lexer lf line pb)) (h2:EvL C k es ρ σ1 vs σ2)
 (h3:∀ f,Def C f ps T->FnOk C k (.ref f) (.loc lx::vs) σ2 v σ3):EvE C k (.meth o m es) ρ σ v σ3:=by
 refine via fun _ g0=>?_
 obtain ⟨f,y,rfl,q1,q2,q3,q4⟩:=d.ex
 refine g0 ?_
 exact dq h1 (qJ L hl q1 q2 q3) q4.fn h2 (h3 f q4)
theorem md (L:LexOk C) {a:Ex} (h1:EvE C k a ρ σ (.loc lx) σ1) (hl:σ1.get lx=some (.lexer lf line pb)):EvE C k (.attr a dD) ρ σ (.loc pb) σ1:=by
 rw [<-BJ];exact zE L h1 hl
theorem no (G:eO C) {f:Addr} (d:Def C f cN T_get_token) (st:LexSt σ lx lf pb x line) {v:V} {q:List V} (hp:σ.get pb=some (.list (v::q))) (hz:q.length<1000):FnOk C (k+1) (.ref f) [.loc lx] σ v (σ.set pb (.list q)):=by
 have hz':q.length<sizeLine:=by rw [sizeLine_eq];lia -abstractProof
 refine' d.call (f:=.ret v) G.H ?x rfl ?v
 case x =>
  unfold T_get_token
  have e1:EvE C k (.attr (.var bq) dD) (bg [] cN [.loc lx]) σ (.loc pb) σ:=md G.L (aa rfl) st.hl
  refine aZ (cD (c:=true) (gC rfl e1 ?_) (fun _=>aZ (fu ?_) rfl) (fun h=>by cases h)) rfl
  ·exact iP hp (by simp;lia -abstractProof)
  ·exact dq e1 (dG hp (by rw [<-Al,aP];exact PySem.F.slot_list_pop) PySem.F.type_list_pop) (.bi _) (ah au ai) (uh hp hz')
 case v=>rfl
theorem so (G:eO C) (hit:C.glob jr=some (.bf .iter)) {f:Addr} (d:Def C f cN T_get_token) (st:LexSt σ lx lf pb x line) (hp:σ.get pb=some (.list [])) (hz:x.length<800000) :
 FnOk C (k+4) (.ref f) [.loc lx] σ (.str (tok x line).1) (upd σ lx lf pb (tok x line).2.1 (tok x line).2.2):=FnOk.wf fun W=>by
 have hlx:=(W _ _ st.hl).1
 have hlf:=(W _ _ st.hf).1
 have hpb:=(W _ _ hp).1
 have h1:σ.next≠lx:=by lia -abstractProof
 have h2:σ.next≠lf:=by lia -abstractProof
 have ns:(σ.new (.citer lx true)).get σ.next=some (.citer lx true):=by simp [Sto.new]
 have g:∀ l,l<σ.next->(σ.new (.citer lx true)).get l=σ.get l:=fun l h=>by simp only [Sto.new];exact if_neg (by lia -abstractProof)
 have st1:LexSt (σ.new (.citer lx true)) lx lf pb x line:=⟨by rw [g _ hlx];exact st.hl,by rw [g _ hlf];exact st.hf,st.ne,st.np,st.nq⟩
 obtain ⟨fl,ρ',τ',hF,hR⟩:=Aq (C:=C) (k:=k) G h1 h2 x line [(bq,.loc lx),(bK,.str []),(ch,.loc σ.next)] (σ.new (.citer lx true)) (fun v=>rfl) rfl st1 ns hz
 have hS:∀ b,(b=true\/b=false)->Sub σ (bif b then upd (σ.new (.citer lx true)) lx lf pb (tok x line).2.1 (tok x line).2.2 else (upd (σ.new (.citer lx true)) lx lf pb (tok x line).2.1 (tok x line).2.2).set σ.next (.citer lx false)) (upd σ lx lf pb (tok x line).2.1 (tok x line).2.2):=fun b _=>by
  refine ⟨Nat.le_refl _,by cases b<;>exact Nat.le_succ _,fun l o e=>?_⟩
  have hl:l<σ.next:=by
   rw [eY st.ne] at e
   split at e
   ·subst_vars;exact hlx
   ·split at e
    ·subst_vars;exact hlf
    ·exact (W _ _ e).1
  have e':(upd (σ.new (.citer lx true)) lx lf pb (tok x line).2.1 (tok x line).2.2).get l=some o:=by
   rw [eY st.ne] at e ⊢
   rw [g l hl];exact e
  refine ⟨?_,?_⟩
  ·cases b
   ·show (if l=σ.next then _ else _)=_
    rw [if_neg (by lia -abstractProof)];exact e'
   ·exact e'
  ·rw [eY st.ne] at e
   split at e
   ·cases e;exact .inr ⟨hl,hlf,hpb⟩
   ·split at e
    ·cases e
     refine .inr ⟨hl,?_⟩
     show belows _ (cS _)
     unfold cS
     induction (tok x line).2.1 with
     | nil=>trivial
     | cons c r ih=>exact ⟨trivial,ih⟩
    ·exact .inl e
 have whole:∀ {fl:Fl} {τ':Sto},yr fl=.str (tok x line).1->∀ {ρ'},ExL C (k+3) T_get_token (bg [] cN [.loc lx]) σ fl ρ' τ'->FnOk C (k+4) (.ref f) [.loc lx] σ (.str (tok x line).1) τ':=fun {fl τ'} hv {ρ'} h=>d.call G.H h rfl hv
 have start:∀ {fl:Fl} {ρ':Loc} {τ':Sto},ExL C (k+3) [.for_ [cn] (.var ch) yl [],.ret (.var bK)] [(bq,.loc lx),(bK,.str []),(ch,.loc σ.next)] (σ.new (.citer lx true)) fl ρ' τ'->ExL C (k+3) T_get_token (bg [] cN [.loc lx]) σ fl ρ' τ':=fun {fl ρ' τ'} h=>by
  unfold T_get_token
  have e1:EvE C (k+3) (.attr (.var bq) dD) (bg [] cN [.loc lx]) σ (.loc pb) σ:=md G.L (aa rfl) st.hl
  refine aq (cD (c:=false) (gC rfl e1 ?_) (fun h=>by cases h) fun _=>aE) ?_
  ·exact iP hp (by simp)
  refine aq (aj bA rfl fun _=>rfl) ?_
  have st':LexSt σ lx lf pb x line:=st
  have e2:=vA (C:=C) (k:=k+3) (ρ:=[(bq,.loc lx),(bK,.str [])]) G.H G.L (by rw [w9];exact hit) (aa (x:=bq) rfl) st.hl
  rw [w9,Do] at e2
  exact aq (aj e2 rfl fun _=>rfl) h
 have hF':=qC (aa (x:=ch) (ρ:=[(bq,.loc lx),(bK,.str []),(ch,.loc σ.next)]) rfl) ⟨lx,true,ns⟩ hF
 rcases hR with ⟨rfl,rfl⟩ | ⟨rfl,h3,h4,rfl⟩
 ·exact (whole rfl (start (aZ hF' rfl))).drop (hS true (.inl rfl)) trivial
 ·have:Sub σ ((upd (σ.new (.citer lx true)) lx lf pb [] (tok x line).2.2).set σ.next (.citer lx false)) (upd σ lx lf pb (tok x line).2.1 (tok x line).2.2):=by
   have:=hS false (.inr rfl)
   rw [h4] at this ⊢
   exact this
  exact (whole rfl (start (aq hF' (aZ (fu (aa h3)) rfl)))).drop this trivial
theorem BE (G:eO C) {f:Addr} (d:Def C f fH T_push_token) (st:LexSt σ lx lf pb x line) {v:V} {q:List V} (hp:σ.get pb=some (.list q)) (hz:q.length<1000):FnOk C (k+1) (.ref f) [.loc lx,v] σ .none (σ.set pb (.list (q++[v]))):=by
 have hz':q.length<=sizeLine:=by rw [sizeLine_eq];lia -abstractProof
 refine' d.call G.H ?x rfl ?v
 case x =>
  unfold T_push_token
  have e1:EvE C k (.attr (.var bq) dD) (bg [] fH [.loc lx,v]) σ (.loc pb) σ:=md G.L (aa rfl) st.hl
  refine aq (gE (dq e1 (dG hp (by rw [<-io,aP];exact PySem.F.slot_list_append) PySem.F.type_list_append) (.bi _) (ah (aa rfl) ai) (iT hp hz')) rfl) aE
 case v=>rfl
end
end
section
open PySem PyProof.Rows
set_option maxRecDepth 100000
open PySem.W (findIn typeIn clsIn findObj plainGet hasDictIn plainOver makesIn takerIn isFn instObj InstAt dictOf getL putL putN lookIn CodeHd tabObj kla_obj)
noncomputable abbrev eG:Str := "self"
noncomputable abbrev sFp:Str := "fp"
noncomputable abbrev eL:Str := "text"
noncomputable abbrev bP:Str := "stream"
noncomputable abbrev nC:Str := "_netrclex"
theorem uE:nm eG=bq:=by kernel_rfl
theorem Bj:nm sFp=Ej:=by kernel_rfl
theorem Aj:nm eL=bN:=by kernel_rfl
theorem v9:nm bP=x7:=by kernel_rfl
section
variable {C:Cx} {k:Nat} {ρ:Loc} {σ σ' σ1:Sto} {X X':Wld} {s s':Shared} {env:Env} {sc:Scope} {f x dx:Addr} {o:Obj} {n0:Nat} {A:Around}
structure Free (C:Cx) (σ:Sto) (X:Wld) (s:Shared) (f:Addr) (o:Obj):Prop where
 g:s.heap.get? f=some o
 z:¬ X.Z f
 w:¬ Wr C σ X f
theorem Free.evo {P:Addr->Prop} (F:Free C σ X s f o) (e:Evo C P σ X s σ' X' s') (hp:¬ P f):Free C σ' X' s' f o :=
 ⟨e.keep _ _ F.g F.w hp,fun z=>(e.zn f z).elim F.z fun h=>h.elim (fun h=>absurd (Heap.lt_size F.g) (Nat.not_lt.mpr h)) F.w,fun w=>(e.wn f w).elim F.w fun h=>absurd (Heap.lt_size F.g) (Nat.not_lt.mpr h)⟩
theorem l8 {n:Nat} {y:Str} {p:Pos} (hb:cV y=false) (hk:kindIn sc y=some .local):aB (n+1) sc (.Name y p)=some (.var (nm y)):=by
 show l4 sc y=_
 unfold l4
 rw [hb,hk];rfl
theorem iU {name:Str} {val:Expr} {e':Ex} {p p' pos:Pos} {es:List DictEntry} {n:Nat} {v:V} {Q:Flow->Shared->Prop} {E:Value->Shared->Prop} (L:LexOk C) (R:Rel C env sc ρ σ X s) (hself:get ρ (nm eG)=some (.fn x)) (hk:kindIn sc eG=some .local)
 (Fx:Free C σ X s x (instObj C.cls dx)) (Fd:Free C σ X s dx (dictOf es n)) (hne:x≠dx) (hpx:¬ Pl env x) (hpd:¬ Pl env dx) (hn:name∈[aS,aN,bZ,dN]) (hg:(getL name es).isSome=true) (hz:es.length<=100) (rm:Room k A)
 (hev:EvE C k e' ρ σ v σ1) (he:aB n0 sc val=some e') (hsw:∀ t line,swapsWith val t line env=pure false)
 (hQ:∀ X' s' a hs tk,Rel C env sc ρ σ1 X' s'->Evo C (fun b=>Pl env b\/b=dx) σ X s σ1 X' s'->Free C σ1 X' s' x (instObj C.cls dx)->Free C σ1 X' s' dx (dictOf (putL name hs (.str name tk) a es) (putN name es n))->VRel C X' σ1.next s'.heap v a->Q .next s') :
 wpAny (model C.prog C.w) A (exec (.Assign [.Attribute (.Name eG p) name p'] val pos) env) Q E s:=by
 refine plainObj_wpAny_Assign_Attribute (hev _ _ _ he A env X s rm R _ _ fun a X1 s1 R1 v1 r1=>?_) (hsw _ _)
 refine (aa hself:EvE C k (.var (nm eG)) ρ σ1 (.fn x) σ1) 1 sc _ (l8 (by rfl) hk) A env X1 s1 rm R1 _ _ fun o X2 s2 R2 v2 r2=>?_
 have ho:o=.ref x:=r2
 subst ho
 have v12:=v1.trans v2
 have Fx2:=Fx.evo v12 hpx
 have Fd2:=Fd.evo v12 hpd
 refine rD (L.kin R2.S) L.sa Fx2.g Fd2.g L.over (L.dat name hn).2 L.hd hg hz fun h' sb hd'=>?_
 obtain ⟨S3,e3⟩:=R2.S.turnFree (s':={ s2 with heap:=h',toks:=s2.toks+1+1 }) Fd2.z Fd2.w (fun b ob nb e=>(sb.2 b nb).trans e) (Nat.le_of_eq sb.1.symm) rfl rfl
 have v123:Evo C (fun b=>Pl env b\/b=dx) σ X s σ1 X2 _:=v12.comp e3 (fun _ h=>.inl h) fun _ _ h=>.inr h
 exact hQ X2 _ a _ _ (R2.evo S3 e3 (fun b hp q=>hpd (q▸hp)) fun b q=>q▸Fd2.z) v123 (Fx.evo v123 fun h=>h.elim hpx hne) ⟨hd',Fd2.z,Fd2.w⟩ (e3.rel R2.S (fun b q=>q▸Fd2.z) (v2.rel R1.S R1.pz r1))
theorem Em {h1:Int} {t1:Tok} {v1:Value}:putL aS h1 (.str aS t1) v1 []=[⟨h1,.str aS t1,v1⟩]:=rfl
theorem En {h1 h2:Int} {t1 t2:Tok} {v1 v2:Value}:putL aN h2 (.str aN t2) v2 [⟨h1,.str aS t1,v1⟩]=[⟨h1,.str aS t1,v1⟩,⟨h2,.str aN t2,v2⟩]:=by kernel_rfl
theorem Eo {h1 h2 h3:Int} {t1 t2 t3:Tok} {v1 v2 v3:Value}:putL bZ h3 (.str bZ t3) v3 [⟨h1,.str aS t1,v1⟩,⟨h2,.str aN t2,v2⟩]=[⟨h1,.str aS t1,v1⟩,⟨h2,.str aN t2,v2⟩,⟨h3,.str bZ t3,v3⟩]:=by kernel_rfl
theorem Ep {h1 h2 h3 h4:Int} {t1 t2 t3 t4:Tok} {v1 v2 v3 v4:Value}:putL dN h4 (.str dN t4) v4 [⟨h1,.str aS t1,v1⟩,⟨h2,.str aN t2,v2⟩,⟨h3,.str bZ t3,v3⟩]=[⟨h1,.str aS t1,v1⟩,⟨h2,.str aN t2,v2⟩,⟨h3,.str bZ t3,v3⟩,⟨h4,.str dN t4,v4⟩]:=by kernel_rfl
theorem D9:(getL aS []).isSome=true:=rfl
theorem Ea {h1:Int} {t1:Tok} {v1:Value}:(getL aN [⟨h1,.str aS t1,v1⟩]).isSome=true:=by kernel_rfl
theorem Eb {h1 h2:Int} {t1 t2:Tok} {v1 v2:Value}:(getL bZ [⟨h1,.str aS t1,v1⟩,⟨h2,.str aN t2,v2⟩]).isSome=true:=by kernel_rfl
theorem Ec {h1 h2 h3:Int} {t1 t2 t3:Tok} {v1 v2 v3:Value}:(getL dN [⟨h1,.str aS t1,v1⟩,⟨h2,.str aN t2,v2⟩,⟨h3,.str bZ t3,v3⟩]).isSome=true:=by kernel_rfl
noncomputable def j2 (p:Nat->Pos):List Stmt:=[
 .Assign [.Attribute (.Name eG (p 0)) aS (p 1)] (.Constant (.int 1) 0 (p 2)) (p 3),
 .Assign [.Attribute (.Name eG (p 4)) aN (p 5)] (.Name sFp (p 6)) (p 7),
 .Assign [.Attribute (.Name eG (p 8)) bZ (p 9)] (.Constant (.str white) 0 (p 10)) (p 11),
 .Assign [.Attribute (.Name eG (p 12)) dN (p 13)] (.List [] (p 14)) (p 15)]
theorem vP {p:Nat->Pos} {fI:Addr} {R0:Result->Shared->Prop} (H:COk C) (L:LexOk C) (hf:sd C fI [eG,sFp] sc (j2 p)) (hk1:kindIn sc eG=some .local) (hk2:kindIn sc sFp=some .local) (rm:Room (k+1) A) (S:SRel C σ X s)
 (Fx:Free C σ X s x (instObj C.cls dx)) (Fd:Free C σ X s dx (dictOf [] 0)) (hne:x≠dx)
 (h:∀ X' s' d,SRel C (σ.new (.list [])) X' s'->Evo C (fun b=>b=dx) σ X s (σ.new (.list [])) X' s'->Free C (σ.new (.list [])) X' s' x (instObj C.cls dx)->Free C (σ.new (.list [])) X' s' dx (j3 d 1 f (X'.φ σ.next))->R0 (.ok (.ret .none)) s') :
 codeAny (model C.prog C.w) A (.call (.ref fI) ⟨[.ref x,.ref f],[]⟩) R0 s:=by
 have r:VsRel C X σ.next s.heap [.fn x,.fn f] [.ref x,.ref f]:=.cons (by rfl) (.cons (by rfl) .nil)
 refine sV H hf rfl rm S r fun A' env z0 _ rm' G pl R Q E hq=>?_
 have pl':∀ b o,s.heap.get? b=some o->¬ Pl env b:=fun b o g q=>Nat.lt_irrefl _ (Nat.lt_of_lt_of_le (Heap.lt_size g) (pl b q))
 have e0:=(S.grow0 G).2
 have gself:get (bg [] ([eG,sFp].map nm) [.fn x,.fn f]) (nm eG)=some (.fn x):=by simp only [List.map_cons,List.map_cons,List.map_nil,uE,Bj];rfl
 have gfp:get (bg [] ([eG,sFp].map nm) [.fn x,.fn f]) (nm sFp)=some (.fn f):=by simp only [List.map_cons,List.map_cons,List.map_nil,uE,Bj];rfl
 have hpx:=pl' _ _ Fx.g
 have hpd:=pl' _ _ Fd.g
 unfold j2
 refine wpAny_execs_cons (iU (k:=k) (n0:=1) L R gself hk1 (Fx.evo e0 id) (Fd.evo e0 id) hne hpx hpd (by exact List.mem_cons_self) D9 (by simp) rm' au rfl (fun _ _=>rfl) fun X1 s1 a1 h1 t1 R1 e1 Fx1 Fd1 r1=>?_)
 rw [Em] at Fd1
 refine wpAny_execs_cons (iU (k:=k) (n0:=1) L R1 gself hk1 Fx1 Fd1 hne hpx hpd (by decide) Ea (by simp) rm' (aa gfp) (l8 (by rfl) hk2) (fun _ _=>rfl) fun X2 s2 a2 h2 t2 R2 e2 Fx2 Fd2 r2=>?_)
 rw [En] at Fd2
 refine wpAny_execs_cons (iU (k:=k) (n0:=1) L R2 gself hk1 Fx2 Fd2 hne hpx hpd (by decide) Eb (by simp) rm' bA rfl (fun _ _=>rfl) fun X3 s3 a3 h3 t3 R3 e3 Fx3 Fd3 r3=>?_)
 rw [Eo] at Fd3
 refine wpAny_execs_cons (iU (k:=k) (n0:=2) L R3 gself hk1 Fx3 Fd3 hne hpx hpd (by decide) Ec (by exact Nat.le_of_ble_eq_true rfl) rm' (jT ai (by simp)) rfl (fun _ _=>rfl) fun X4 s4 a4 h4 t4 R4 e4 Fx4 Fd4 r4=>?_)
 rw [Ep] at Fd4
 refine wpAny_execs_nil (hq _ _ ?_)
 obtain ⟨t5,rfl⟩:=r1
 subst r2
 obtain ⟨t6,rfl⟩:=r3
 obtain ⟨_,rfl⟩:=r4
 rw [aP] at Fd4
 have e:Evo C (fun b=>Pl env b\/b=dx) σ X z0 (σ.new (.list [])) X4 s4:=((e1.trans e2).trans e3).trans e4
 have ee:Evo C (fun b=>b=dx) σ X s (σ.new (.list [])) X4 s4:=e0.comp e (fun _ h=>False.elim h) fun b hb q=>Or.elim q (fun q=>absurd hb (Nat.not_lt.mpr (pl b q))) id
 exact h _ _ ⟨_,_,_,_,_,_,_,_,_,_,_⟩ R4.S ee Fx4 Fd4
end
end
section
open PySem PyProof.Rows
set_option maxRecDepth 100000
open PySem.W (findIn typeIn clsIn findObj plainGet hasDictIn plainOver makesIn takerIn isFn instObj InstAt dictOf getL putL putN lookIn CodeHd tabObj kla_obj keepIn)
section
variable {C:Cx} {k:Nat} {ρ:Loc} {σ σ' σ1:Sto} {X X':Wld} {s s':Shared} {env:Env} {sc:Scope} {f x dx:Addr} {o:Obj} {n0:Nat} {A:Around}
noncomputable def nU (C:Cx) (p:Nat->Pos) (prm:Arguments) (sc0:Scope):List Stmt:=[
 .Assign [.Name bC (p 0)] (.Call (.Name "list" (p 1)) [.Name eL (p 2)] [] (p 3)) (p 4),
 .Assign [.Name bP (p 5)] (.Lambda prm (.Constant .none 0 (p 6)) sc0 (p 7)) (p 8),
 .Assign [.Attribute (.Name bP (p 9)) bQ (p 10)] (.Lambda C.lamP C.lamB C.lamS (p 11)) (p 12),
 .Return (some (.Call (.Name nC (p 13)) [.Name bP (p 14)] [] (p 15))) (p 16)]
structure jC (C:Cx) (a:Addr):Prop where
 at_:∃ sc p prm sc0,sd C a [eL] sc (nU C p prm sc0)/\kindIn sc bC=some .cell/\kindIn sc eL=some .local/\kindIn sc bP=some .local/\kindIn sc "list"=some .globalImplicit/\kindIn sc nC=some .globalImplicit /\
  sc0.names=[]/\(∀ env,defaultsOf prm env=([],[]))
 fn:Fn C (.ref a)
 code:∃ o fd c0,C.base.get? a=some o/\o.data=.func fd/\fd.code=.ref c0/\CodeHd C.base c0 C.tab/\(fd.qualname ++ ".<locals>.") ++ "<lambda>"=C.lamQ
 init:∃ fI scI pI,findIn C.K (.ref C.cls) "__init__"=some (some (.ref fI))/\typeIn C.K (.ref fI)=some (.type "function")/\sd C fI [eG,sFp] scI (j2 pI)/\kindIn scI eG=some .local/\kindIn scI sFp=some .local
 lamN:C.lamN = "<lambda>"
 lamD:∀ env,defaultsOf C.lamP env=([],[])
 bm:C.base.BuiltinsAt C.mg C.tab
 clsG:C.glob gH=some (.fn C.cls)
 keep:keepIn C.K (.ref C.cls)=true
theorem Ah:nm bC=B9:=by kernel_rfl
theorem Ai:nm "list"=mE:=by kernel_rfl
theorem Ca:nm nC=gH:=by kernel_rfl
theorem zp {cell:Addr} (Lm:k8 C) (hc:env.cells.lookup bC=some cell):closureFor C.lamS env=pure [(bC,cell)]:=by
 rw [Lm.scope]
 unfold closureFor cellOf
 simp [hc]
theorem wX {sc0:Scope} (h:sc0.names=[]):closureFor sc0 env=pure []:=by
 unfold closureFor
 rw [h]
 rfl
theorem tz (hr:Room (k+1) A) {c:Addr} {l:List Value}:Room k (A.under (.builtin "type.__call__" ⟨.ref c::l,[]⟩)):=by
 have hw:(Code.builtin "type.__call__" ⟨.ref c::l,[]⟩).weight<=1:=by
  have:(Code.builtin "type.__call__" ⟨.ref c::l,[]⟩).weight=1:=by kernel_rfl
  exact Nat.le_of_ble_eq_true rfl
 refine ⟨?_,?_,hr.handled⟩
 ·have:=hr.depth
  show A.depth+_+k<=900
  lia -abstractProof
 ·have:=hr.units
  show A.units+1+20*k<=9000
  lia -abstractProof
end
end
section
open PySem PyProof.Rows
set_option maxRecDepth 100000
open PySem.W (findIn typeIn clsIn findObj plainGet hasDictIn plainOver makesIn takerIn isFn instObj InstAt dictOf getL putL putN lookIn CodeHd tabObj kla_obj keepIn)
section
variable {C:Cx} {k:Nat} {ρ:Loc} {σ σ' σ1:Sto} {X X':Wld} {s s':Shared} {env:Env} {sc:Scope} {f dx:Addr} {o:Obj} {n0:Nat} {A:Around} {x:List Nat}
noncomputable def kQ (σ:Sto) (x:List Nat):Sto:=((σ.new (.list (cS x))).new (.list [])).new (.lexer σ.next 1 (σ.next+1))
theorem tY {n:Nat} {y:Str} {p:Pos} (hb:cV y=false) (hk:kindIn sc y=some .globalImplicit):aB (n+1) sc (.Name y p)=some (.glob (nm y)):=by
 show l4 sc y=_
 unfold l4
 rw [hb,hk];rfl
theorem za {a:Addr} (H:COk C) (L:LexOk C) (Lm:k8 C) (D:jC C a) (hgl:C.glob mE=some (.bf .list)) (hz:x.length<=sizeLine):FnOkC C (k+3) (.ref a) [.str x] σ (.loc (σ.next+2)) (kQ σ x):=by
 intro A X s as rm S r R0 hQ
 obtain ⟨sc,p,prm,sc0,hf,kl,kt,ks,kli,kc,hs0,hd0⟩:=D.at_
 obtain ⟨oa,fda,c0,ha1,ha2,ha3,ha4,ha5⟩:=D.code
 obtain ⟨fI,scI,pI,hi1,hi2,hi3,hi4,hi5⟩:=D.init
 refine sV H hf rfl rm S r fun A' env z0 hEnv rm' G pl R Q E hq=>?_
 have LH:tO C env:=by
  obtain ⟨o,fd,q1,q2,q3,q4⟩:=hEnv
  rw [ha1] at q1;cases q1
  rw [ha2] at q2;cases q2
  exact ⟨⟨c0,q3.trans ha3,ha4⟩,by rw [q4];exact ha5⟩
 have e0:=(S.grow0 G).2
 have gt:get (bg [] ([eL].map nm) [.str x]) (nm eL)=some (.str x):=by rw [List.map_cons,List.map_nil,Aj];rfl
 generalize hρ0:bg [] ([eL].map nm) [V.str x]=ρ0 at R gt
 have S1:ExS C (k+2) (.assign [nm bC] false (.call (.glob (nm "list")) [.var (nm eL)])) ρ0 σ .next (put ρ0 (nm bC) (.loc σ.next)) (σ.new (.list (cS x))) :=
  aj (aC H (by rw [Ai];exact hgl) (ah (aa gt) ai) (sT hz)) rfl (fun _=>rfl)
 have er1:bT 5 sc (.Assign [.Name bC (p 0)] (.Call (.Name "list" (p 1)) [.Name eL (p 2)] [] (p 3)) (p 4))=some (.assign [nm bC] false (.call (.glob (nm "list")) [.var (nm eL)])):=by
  have q1:fA sc (.Name bC (p 0))=some (nm bC):=by
   show (if cV bC then none else if iv (kindIn sc bC) then _ else none)=_
   rw [show cV bC=false from by rfl,kl];rfl
  have q2:aB 3 sc (.Name "list" (p 1))=some (.glob (nm "list")):=tY (by rfl) kli
  have q3:aB 3 sc (.Name eL (p 2))=some (.var (nm eL)):=l8 (by rfl) kt
  show (((fA sc (.Name bC (p 0))).map fun y=>[y]).map fun xs e=>St.assign xs (decide (xs.length≠1)) e).bind (fun k=>((aB 3 sc (.Name "list" (p 1))).bind fun a=>((aB 3 sc (.Name eL (p 2))).bind fun b=>some [b]).bind fun l=>some (Ex.call a l)).bind fun e=>if kN e||noComp (.Call (.Name "list" (p 1)) [.Name eL (p 2)] [] (p 3)) then some (k e) else none)=_
  rw [q1,q2,q3];rfl
 unfold nU
 refine wpAny_execs_cons (S1 _ _ _ er1 A' env X z0 rm' R _ _ fun g1 X1 s1 R1 e1 fr1=>?_)
 cases g1<;>first | exact fr1.elim | skip
 have gl1:get (put ρ0 (nm bC) (.loc σ.next)) (nm bC)=some (.loc σ.next):=by rw [cg,if_pos rfl]
 generalize put ρ0 (nm bC) (.loc σ.next)=ρ1 at R1 gl1
 have liveP:∀ {X':Wld} {ρ':Loc} {σ':Sto} {s':Shared} {b:Addr},Rel C env sc ρ' σ' X' s'->s'.heap.objs.size<=b->¬ Pl env b:=fun R' hb q=>by
  obtain ⟨o,g⟩:=R'.F.pl q
  exact Nat.lt_irrefl _ (Nat.lt_of_lt_of_le (Heap.lt_size g) hb)
 refine wpAny_execs_cons (wpAny_Assign_Name (qN H D.bm R1 LH (wX hs0) (hd0 env) fun f c ctv X2 s2 R2 e2 hsz2 hg2 nz2 nw2 zc2 cr2=>fR (v:=.fn f) R2 (by rw [ks];rfl) (by rfl) fun X3 s3 R3 e3=>?_))
 have nf:¬ Pl env f:=liveP R1 hsz2
 have F3:=(Free.mk hg2 nz2 nw2).evo e3 nf
 have gs3:get (put ρ1 (nm bP) (.fn f)) (nm bP)=some (.fn f):=by rw [cg,if_pos rfl]
 have gl3:get (put ρ1 (nm bP) (.fn f)) (nm bC)=some (.loc σ.next):=by rw [cg,if_neg (by rw [Ah,v9];decide)];exact gl1
 generalize put ρ1 (nm bP) (.fn f)=ρ3 at R3 gs3 gl3
 show wpAny (model C.prog C.w) A' (execs [.Assign [.Attribute (.Name bP (p 9)) bQ (p 10)] (.Lambda C.lamP C.lamB C.lamS (p 11)) (p 12),.Return (some (.Call (.Name nC (p 13)) [.Name bP (p 14)] [] (p 15))) (p 16)] env) Q E s3
 obtain ⟨cell,hcell⟩:=R3.F.cl bC (.inl kl)
 refine wpAny_execs_cons (plainObj_wpAny_Assign_Attribute (qN H D.bm R3 LH (zp Lm hcell) (D.lamD env) fun g c' ctv' X4 s4 R4 e4 hsz4 hg4 nz4 nw4 zc4 cr4=>?_))
 refine (aa gs3:EvE C k (.var (nm bP)) ρ3 _ (.fn f) _) 1 sc _ (l8 (by rfl) ks) A' env X4 s4 (rm'.mono (by simp)) R4 _ _ fun ov X5 s5 R5 e5 r5=>?_
 have ho:ov=.ref f:=r5
 subst ho
 have F5:=(F3.evo e4 id).evo e5 nf
 have ng:¬ Pl env g:=liveP R3 hsz4
 have G5:=(Free.mk hg4 nz4 nw4).evo e5 ng
 refine yx F5.g rfl rfl rfl fun h6 tk hs t' kk df kp sz hdf gf gdf=>?_
 obtain ⟨S6,e6⟩:=R5.S.turnFree (s':={ s5 with heap:=h6,toks:=tk }) F5.z F5.w kp sz rfl rfl
 have R6:Rel C env sc ρ3 _ X5 { s5 with heap:=h6,toks:=tk }:=R5.evo S6 e6 (fun b hp q=>nf (q▸hp)) (fun b q=>q▸F5.z)
 have hgf:g≠f:=fun q=>Nat.lt_irrefl _ (Nat.lt_of_lt_of_le (Heap.lt_size F3.g) (q▸hsz4))
 have F6:Free C (σ.new (.list (cS x))) X5 { s5 with heap:=h6,toks:=tk } f _:=⟨gf,F5.z,F5.w⟩
 have G6:=G5.evo e6 hgf
 have D6:Free C (σ.new (.list (cS x))) X5 { s5 with heap:=h6,toks:=tk } df _:=⟨gdf,fun z=>let ⟨_,g⟩:=R5.S.zl _ z;Nat.lt_irrefl _ (Nat.lt_of_lt_of_le (Heap.lt_size g) hdf),fun w=>let ⟨_,g⟩:=R5.S.wl _ w;Nat.lt_irrefl _ (Nat.lt_of_lt_of_le (Heap.lt_size g) hdf)⟩
 have nd:¬ Pl env df:=liveP R5 hdf
 have he:eval (.Call (.Name nC (p 13)) [.Name bP (p 14)] [] (p 15)) env=(do callWith (p 15) (<-eval (.Name nC (p 13)) env) [] (backTo (p 15) (starEach [.Name bP (p 14)] env)) (backToKw (p 15) (keywordEach [] env))):=rfl
 refine wpAny_execs_cons (wpAny_Return_some ?_)
 rw [he]
 refine wpAny_bind ((et H (by rw [Ca];exact D.clsG):EvE C k (.glob (nm nC)) ρ3 _ (.fn C.cls) _) 1 sc _ (tY (by rfl) kc) A' env X5 _ (rm'.mono (by lia -abstractProof)) R6 _ _ fun cv X7 s7 R7 e7 r7=>?_)
 have hcv:cv=.ref C.cls:=r7
 subst hcv
 refine PySem.W.callWith_K (L.kin R7.S) D.keep ?_
 refine (ah (aa gs3) ai:EvL C k [.var (nm bP)] ρ3 _ [.fn f] _) 1 sc [.Name bP (p 14)] (by show ((aB 1 sc (.Name bP (p 14))).bind fun b=>some [b])=_;rw [l8 (by rfl) ks];rfl) A' env X7 s7 (p 15) (rm'.mono (by lia -abstractProof)) R7 _ _ fun as8 X8 s8 R8 e8 r8=>⟨L.kin R8.S,?_⟩
 obtain ⟨v8,as8',rfl,r8a,r8b⟩:=r8.inv_cons
 rw [r8b.inv_nil]
 have hv8:v8=.ref f:=r8a
 subst hv8
 have F8:=(F6.evo e7 nf).evo e8 nf
 have G8:=(G6.evo e7 ng).evo e8 ng
 have D8:=(D6.evo e7 nd).evo e8 nd
 obtain ⟨hp8,g8,d8,t8,os8⟩:=s8
 refine wpAny_call (PySem.W.make_core (PySem.W.makes_of (L.kin R8.S) L.makes) (PySem.W.looks_findIn (L.kin R8.S) hi1) (fun self=>PySem.W.bind_fn (L.kin R8.S) self hi2) (.inl rfl) ?_)
 have Gr:Grow ⟨hp8,g8,d8,t8,os8⟩ ⟨(hp8.push PySem.W.emptyDict).push (instObj C.cls hp8.objs.size),g8,d8,t8,os8⟩ :=
  ⟨fun b o e=>Heap.get?_push_of_some _ (Heap.get?_push_of_some _ e),by show _<=((hp8.push _).push _).objs.size;rw [Heap.size_push,Heap.size_push];show hp8.objs.size<=_;lia -abstractProof,rfl,rfl⟩
 obtain ⟨S9,e9⟩:=R8.S.grow0 Gr
 have zl8:∀ b,X8.Z b->b<hp8.objs.size:=fun b z=>(R8.S.zl b z).elim fun _ g=>Heap.lt_size g
 have wl8:∀ b,Wr C _ X8 b->b<hp8.objs.size:=fun b w=>(R8.S.wl b w).elim fun _ g=>Heap.lt_size g
 have Fx9:Free C _ X8 ⟨(hp8.push PySem.W.emptyDict).push (instObj C.cls hp8.objs.size),g8,d8,t8,os8⟩ (hp8.objs.size+1) (instObj C.cls hp8.objs.size) :=
  ⟨by have:=Heap.get?_push_size (hp8.push PySem.W.emptyDict) (o:=instObj C.cls hp8.objs.size) rfl;rwa [Heap.size_push] at this,fun z=>Nat.lt_irrefl _ (Nat.lt_trans (Nat.lt_succ_self _) (zl8 _ z)),fun w=>Nat.lt_irrefl _ (Nat.lt_trans (Nat.lt_succ_self _) (wl8 _ w))⟩
 have Fd9:Free C _ X8 ⟨(hp8.push PySem.W.emptyDict).push (instObj C.cls hp8.objs.size),g8,d8,t8,os8⟩ hp8.objs.size (dictOf [] 0) :=
  ⟨Heap.get?_push_of_some _ (Heap.get?_push_size _ rfl),fun z=>Nat.lt_irrefl _ (zl8 _ z),fun w=>Nat.lt_irrefl _ (wl8 _ w)⟩
 refine vP (k:=k) (x:=hp8.objs.size+1) (dx:=hp8.objs.size) (f:=f) H L hi3 hi4 hi5 (tz rm') S9 Fx9 Fd9 (Nat.succ_ne_self _) fun X10 s10 ld S10 e10 Fx10 Fd10=>⟨rfl,?_⟩
 refine hq _ _ ?_
 obtain ⟨c8,a8,q1,q2,q3⟩:=R8.F.cv (nm bC) (.loc σ.next) gl3 (by rw [aP];exact .inl kl)
 rw [aP,hcell] at q1
 cases q1
 obtain ⟨hlt,rfl⟩:=q3
 obtain ⟨oc8,gc8,dc8⟩:=q2
 have C8:Free C _ X8 ⟨hp8,g8,d8,t8,os8⟩ cell oc8:=⟨gc8,R8.pz _ (.inr ⟨_,hcell⟩),R8.pw _ (.inr ⟨_,hcell⟩)⟩
 have lt8:∀ {b o},hp8.get? b=some o->b≠hp8.objs.size:=fun g q=>Nat.lt_irrefl _ (q▸Heap.lt_size g)
 have F10:=(F8.evo e9 id).evo e10 (lt8 F8.g)
 have G10:=(G8.evo e9 id).evo e10 (lt8 G8.g)
 have D10:=(D8.evo e9 id).evo e10 (lt8 D8.g)
 have C10:=(C8.evo e9 id).evo e10 (lt8 C8.g)
 have e48:Evo C (fun b=>Pl env b\/b=f\/b=hp8.objs.size) _ X4 s4 _ X10 s10 :=
  (((((e5.weak fun b h=>.inl h).trans (e6.weak fun b h=>.inr (.inl h))).trans (e7.weak fun b h=>.inl h)).trans (e8.weak fun b h=>.inl h)).trans (e9.weak fun b h=>h.elim)).trans (e10.weak fun b h=>.inr (.inr h))
 have eA:Evo C (fun b=>Pl env b\/b=f\/b=hp8.objs.size) σ X s _ X10 s10 :=
  (((((e0.weak fun b h=>h.elim).trans (e1.weak fun b h=>.inl h)).trans (e2.weak fun b h=>h.elim)).trans (e3.weak fun b h=>.inl h)).trans (e4.weak fun b h=>h.elim)).trans e48
 have sz1:s.heap.objs.size<=s1.heap.objs.size:=Nat.le_trans e0.size e1.size
 have sz3:s.heap.objs.size<=s3.heap.objs.size:=Nat.le_trans sz1 (Nat.le_trans e2.size e3.size)
 have sz5:s.heap.objs.size<=s5.heap.objs.size:=Nat.le_trans sz3 (Nat.le_trans e4.size e5.size)
 have sz8:s.heap.objs.size<=hp8.objs.size:=Nat.le_trans sz5 (Nat.le_trans e6.size (Nat.le_trans e7.size e8.size))
 have eN:Evo C NoP σ X s _ X10 s10:=(Evo.refl:Evo C NoP σ X s σ X s).comp eA (fun _ h=>h) fun b hb h=>by
  rcases h with h | rfl | rfl
  ·exact absurd hb (Nat.not_lt.mpr (pl b h))
  ·exact absurd hb (Nat.not_lt.mpr (Nat.le_trans sz1 hsz2))
  ·exact absurd hb (Nat.not_lt.mpr sz8)
 have zc10:X10.Z c':=e48.zm _ zc4
 have cr10:s10.heap.CodeRec (.ref c') C.lamQ:=by
  obtain ⟨a,o,vs,t,w1,w2,w3⟩:=cr4
  cases w1
  refine ⟨c',o,vs,t,rfl,e48.zkeep R4.S (fun b h=>?_) _ _ zc4 w2,w3⟩
  rcases h with h | rfl | rfl
  ·exact R4.pz b h
  ·exact (F3.evo e4 id).z
  ·intro z
   obtain ⟨_,g⟩:=R4.S.zl _ z
   exact absurd (Heap.lt_size g) (Nat.not_lt.mpr (Nat.le_trans e5.size (Nat.le_trans e6.size (Nat.le_trans e7.size e8.size))))
 have ph8:X10.φ σ.next=X8.φ σ.next:=(e10.ph σ.next hlt).1
 let N:Addr->Prop:=fun b=>b=f\/b=df\/b=g\/b=cell\/b=hp8.objs.size+1
 have hN:∀ c,N c->s.heap.objs.size<=c/\(∃ ob,s10.heap.get? c=some ob)/\¬ Wr C _ X10 c:=fun c n=>by
  rcases n with rfl | rfl | rfl | rfl | rfl
  ·exact ⟨Nat.le_trans sz1 hsz2,⟨_,F10.g⟩,F10.w⟩
  ·exact ⟨Nat.le_trans sz5 hdf,⟨_,D10.g⟩,D10.w⟩
  ·exact ⟨Nat.le_trans sz3 hsz4,⟨_,G10.g⟩,G10.w⟩
  ·exact ⟨pl _ (.inr ⟨_,hcell⟩),⟨_,C10.g⟩,C10.w⟩
  ·exact ⟨Nat.le_trans sz8 (Nat.le_succ _),⟨_,Fx10.g⟩,Fx10.w⟩
 have pa:(X10.add (σ.next+1+1) (hp8.objs.size+1) hp8.objs.size N).φ (σ.next+1+1)=hp8.objs.size+1:=by simp [Wld.add]
 have pb:(X10.add (σ.next+1+1) (hp8.objs.size+1) hp8.objs.size N).ψ (σ.next+1+1)=hp8.objs.size:=by simp [Wld.add]
 have pc:(X10.add (σ.next+1+1) (hp8.objs.size+1) hp8.objs.size N).φ σ.next=X8.φ σ.next:=by rw [<-ph8];show (if σ.next=σ.next+1+1 then _ else _)=_;rw [if_neg (by exact W.ktu_ne 1 hlt)]
 have pd:(X10.add (σ.next+1+1) (hp8.objs.size+1) hp8.objs.size N).φ (σ.next+1)=X10.φ (σ.next+1):=by show (if σ.next+1=σ.next+1+1 then _ else _)=_;simp
 have nN:¬ N hp8.objs.size:=by
  rintro (q | q | q | q | q)
  ·exact lt8 F8.g q.symm
  ·exact lt8 D8.g q.symm
  ·exact lt8 G8.g q.symm
  ·exact lt8 C8.g q.symm
  ·exact Nat.succ_ne_self _ q.symm
 have SA:StreamAt C (X10.add (σ.next+1+1) (hp8.objs.size+1) hp8.objs.size N) s10.heap f (X8.φ σ.next) :=
  .mk _ _ df g cell c' hs t' kk _ ctv' (.inr (.inl rfl)) F10.g rfl rfl rfl (.inr (.inr (.inl rfl))) D10.g (.inr (.inr (.inr (.inl rfl)))) (by rw [D.lamN];exact G10.g) (.inr (.inr (.inr (.inr (.inl rfl))))) ⟨oc8,C10.g,dc8⟩ (.inl zc10) cr10
 obtain ⟨S11,e11⟩:=S10.newSeal (o:=.lexer σ.next 1 (σ.next+1)) eN (hp8.objs.size+1) hp8.objs.size N hN
  (fun c m=>by
    have hm:c=hp8.objs.size:=by simpa [foot,Wld.add] using m
    subst hm
    exact ⟨sz8,⟨_,Fd10.g⟩,nN,Fd10.z,Fd10.w⟩)
  (show LexAt C (X10.add (σ.next+1+1) (hp8.objs.size+1) hp8.objs.size N) (σ.next+1+1+1) s10.heap (σ.next+1+1) σ.next 1 (σ.next+1) from
    ⟨by lia -abstractProof,by simp,by rw [pa];exact .inr (.inr (.inr (.inr (.inr rfl)))),by rw [pa,pb];exact Fx10.g,ld,f,by rw [pb,pd];exact Fd10.g,by rw [pc];exact SA⟩)
 exact hQ _ _ _ S11 e11 (by
  exact ⟨by show σ.next+2<σ.next+1+1+1;simp,by show _=Value.ref ((X10.add (σ.next+1+1) (hp8.objs.size+1) hp8.objs.size N).φ (σ.next+1+1));rw [pa];rfl⟩)
end
end
section
open PySem PyProof.Rows
set_option maxRecDepth 100000
theorem uc (a b:Nat):Int.fdiv (a:Int) (b:Int)=((a / b:Nat):Int):=by rw [Int.fdiv_eq_ediv_of_nonneg _ (Int.natCast_nonneg b)];exact (Int.natCast_ediv a b).symm
theorem ue (a b:Nat):Int.fmod (a:Int) (b:Int)=((a % b:Nat):Int):=by rw [Int.fmod_eq_emod_of_nonneg _ (Int.natCast_nonneg b)];exact (Int.natCast_emod a b).symm
theorem lT (a b:Nat):Builtin.bitAnd (a:Int) (b:Int)=((a &&& b:Nat):Int):=by
 unfold Builtin.bitAnd
 rw [show decide (0<=(a:Int))=true from by rfl,show decide (0<=(b:Int))=true from by rfl]
 dsimp
theorem Dd (a b:Nat):Builtin.bitOr (a:Int) (b:Int)=((a ||| b:Nat):Int):=by
 delta Builtin.bitOr Builtin.bitAnd Builtin.bitNot
 rw [show decide (0<=-(a:Int) - 1)=false from by simp;lia -abstractProof,show decide (0<=-(b:Int) - 1)=false from by simp;lia -abstractProof]
 simp only
 rw [show (-(-(a:Int) - 1) - 1).toNat=a from by lia -abstractProof,show (-(-(b:Int) - 1) - 1).toNat=b from by lia -abstractProof]
 lia -abstractProof
theorem oW {C:Cx} {k:Nat} {xs:List Nm} {body orelse:List St} (Inv:List V->Loc->Sto->Prop) (Post:Fl->Loc->Sto->Prop)
 (stp:∀ v vs ρ σ,Inv (v::vs) ρ σ->∃ ρ1 g ρ2 σ2,ci ρ xs v=some ρ1/\ExL C k body ρ1 σ g ρ2 σ2/\(match g with | .next=>Inv vs ρ2 σ2 | .cont=>Inv vs ρ2 σ2 | .brk=>Post .next ρ2 σ2 | .ret u=>Post (.ret u) ρ2 σ2))
 (fin:∀ ρ σ,Inv [] ρ σ->∃ f ρ' σ',ExL C k orelse ρ σ f ρ' σ'/\Post f ρ' σ'):∀ (vs:List V) (ρ:Loc) (σ:Sto),Inv vs ρ σ->∃ f ρ' σ',ForR C k xs body orelse ρ σ vs f ρ' σ'/\Post f ρ' σ'
 | [],ρ,σ,h=>let ⟨f,ρ',σ',h1,h2⟩:=fin ρ σ h;⟨f,ρ',σ',.done h1,h2⟩
 | v::vs,ρ,σ,h=>by
   refine via fun _ g0=>?_
   obtain ⟨ρ1,g,ρ2,σ2,hb,hx,hp⟩:=stp v vs ρ σ h
   refine g0 ?_
   cases g with
   | next=>obtain ⟨f,ρ',σ',h1,h2⟩:=oW Inv Post stp fin vs ρ2 σ2 hp;exact ⟨f,ρ',σ',.step hb hx h1,h2⟩
   | cont=>obtain ⟨f,ρ',σ',h1,h2⟩:=oW Inv Post stp fin vs ρ2 σ2 hp;exact ⟨f,ρ',σ',.cont hb hx h1,h2⟩
   | brk=>exact ⟨_,_,_,.brk hb hx,hp⟩
   | ret u=>exact ⟨_,_,_,.ret hb hx,hp⟩
noncomputable def wordsL:List (List Nat):=[[79,80,84,73,77,73,90,69,68],[78,69,87,76,79,67,65,76,83],[86,65,82,65,82,71,83],[86,65,82,75,69,89,87,79,82,68,83],[78,69,83,84,69,68],[71,69,78,69,82,65,84,79,82],[78,79,70,82,69,69],[67,79,82,79,85,84,73,78,69],[73,84,69,82,65,66,76,69,95,67,79,82,79,85,84,73,78,69],[65,83,89,78,67,95,71,69,78,69,82,65,84,79,82]]
noncomputable def figs:List Nat:=[49,50,52,56]
noncomputable def cR (p:Nat):List Nat:=if p<10 then wordsL.getD p [] else [48,120]++[figs.getD (p % 4) 0]++List.replicate (p / 4) 48
section
variable {C:Cx} {k:Nat} {σ:Sto}
theorem xQ {p:Nat} (h:p<10):idx (a9 wordsL) (p:Int)=some (.str (cR p)):=by
 revert p
 show ∀ p,p<10->_
 exact Bu rfl rfl rfl rfl rfl rfl rfl rfl rfl rfl
theorem zK {p:Nat} (h:p<4):(seqIndex? (p:Int) figs.length).bind (figs[·]?)=some (figs.getD p 0):=by
 revert p
 show ∀ p,p<4->_
 exact at4 rfl rfl rfl rfl
theorem xy (n:Nat):(List.replicate n [48]).flatten=List.replicate n 48:=by
 induction n with
 | zero=>rfl
 | succ n ih=>rw [List.replicate_succ,List.flatten_cons,ih];rfl
theorem jU {ρ:Loc}:∀ l:List (List Nat),EvL C k (l.map .cStr) ρ σ (a9 l) σ
 | []=>ai
 | x::l=>ah bA (jU l)
theorem BC (H:COk C) (d:DefAt C dA je T_law_name) {p:Nat} (hp:p<1000):Calls C (k+1) dA [.int p] σ (.str (cR p)) σ:=by
 refine' d.calls (f:=.ret (.str (cR p))) H ?x rfl rfl
 case x =>
  unfold T_law_name
  refine' aq (ρ1:=[(aD,.int p),(aV,.list (a9 wordsL))]) (σ1:=σ) (aj (cu (jU wordsL) (by decide)) rfl fun _=>rfl) ?r
  case' r=>skip
  refine' aZ (fu (fV (σ1:=σ) (c:=decide ((p:Int)<10)) ?t ?a ?b)) rfl
  case t=>exact aH (aa rfl) au Dj aF
  case a =>
   intro h
   have hp:p<10:=by have:=of_decide_eq_true h;exact Iff.mp Int.ofNat_lt this
   exact mf (aa rfl) (aa rfl) d7 PySem.F.slot_list_getitem.lookup (ke (xQ hp) (by simp) (by lia -abstractProof))
  case b =>
   intro h
   have hp10:¬ p<10:=by have:=of_decide_eq_false h;lia -abstractProof
   have e1:EvE C k (.bin .Mod (.var aD) (.cInt 4)) [(aD,.int p),(aV,.list (a9 wordsL))] σ (.int ((p % 4:Nat):Int)) σ :=
    EvE.eq (v:=.int ((p:Int).fmod 4)) (ak (aa rfl) au (gJ (by decide))) (congrArg V.int (ue p 4))
   have e2:EvE C k (.bin .FloorDiv (.var aD) (.cInt 4)) [(aD,.int p),(aV,.list (a9 wordsL))] σ (.int ((p / 4:Nat):Int)) σ :=
    EvE.eq (v:=.int ((p:Int).fdiv 4)) (ak (aa rfl) au (iW (by decide) (by decide))) (congrArg V.int (uc p 4))
   have e3:EvE C k (.sub (.cStr [49,50,52,56]) (.bin .Mod (.var aD) (.cInt 4))) [(aD,.int p),(aV,.list (a9 wordsL))] σ (.str [figs.getD (p % 4) 0]) σ :=
    mf bA e1 nQ PySem.F.slot_str_getitem.lookup (rj (zK (by grind -abstractProof)) (by exact Int.neg_ofNat_le_natCast (2 ^ 63) (p % 4)) (by grind -abstractProof))
   have e4:EvE C k (.bin .Mult (.cStr [48]) (.bin .FloorDiv (.var aD) (.cInt 4))) [(aD,.int p),(aV,.list (a9 wordsL))] σ (.str (List.replicate (p / 4) 48)) σ:=by
    rw [<-xy]
    exact ak bA e2 (Ay (by simp;lia -abstractProof) (by lia -abstractProof) (by decide))
   have e5:=ak (ak bA e3 (fQ (x:=[48,120]) (y:=[figs.getD (p % 4) 0]) (by exact Nat.le_of_ble_eq_true rfl))) e4 (fQ (by simp;lia -abstractProof))
   rw [cR,if_neg hp10]
   exact e5
end
end
section
open PySem PyProof.Rows
set_option maxRecDepth 100000
theorem tR (q j:Nat):(q*2 ^ j) &&& 2 ^ j=(q % 2)*2 ^ j:=by
 apply Nat.eq_of_testBit_eq
 intro i
 simp only [Nat.testBit_and,Nat.testBit_mul_two_pow,Nat.testBit_mul_two_pow,Nat.testBit_two_pow]
 by_cases h:j=i
 ·subst h
  simp [Nat.testBit_zero]
 ·by_cases h2:j<=i
  ·have:(q % 2).testBit (i - j)=false:=Nat.testBit_lt_two_pow (Nat.lt_of_lt_of_le (Nat.mod_lt _ (by simp)) (by
    have:2 ^ 1<=2 ^ (i - j):=Nat.pow_le_pow_right (by decide) (by lia -abstractProof)
    omega))
   rw [this]
   simp [h]
  ·simp [h,h2]
theorem Cg (q j:Nat) (h1:q % 2=1):(q*2 ^ j) ||| 2 ^ j=q*2 ^ j:=by
 apply Nat.eq_of_testBit_eq
 intro i
 rw [Nat.testBit_or,Nat.testBit_mul_two_pow,Nat.testBit_two_pow]
 by_cases h:j=i
 ·subst h
  simp [Nat.testBit_zero,h1]
 ·simp [h]
theorem AR (q j:Nat) (h1:q % 2=1):Builtin.bitXor ((q*2 ^ j:Nat):Int) ((2 ^ j:Nat):Int)=((q / 2*2 ^ (j+1):Nat):Int):=by
 unfold Builtin.bitXor
 simp only [Dd,lT,Cg q j h1,tR,h1,Nat.one_mul,Nat.pow_succ]
 have:q=q / 2*2+1:=by lia -abstractProof
 have e:q*2 ^ j=q / 2*(2 ^ j*2)+2 ^ j:=by
  conv=>lhs;rw [this]
  simp only [Nat.add_mul,Nat.one_mul,Nat.mul_assoc,Nat.mul_comm 2]
 rw [e]
 simp
noncomputable def flagKeys:List Int:=[1,2,4,8,16,32,64,128,256,512]
noncomputable def jZ:V:=.dict flagKeys (a9 wordsL)
noncomputable def aW (m j:Nat):List (List Nat):=((List.range j).filter (m.testBit ·)).map cR
noncomputable def cA (m:Nat):List (List Nat):=if m=0 then [[48,120,48]] else aW m 33
theorem nR:∀ j,10<=j->j<33->hexOf ((2 ^ j:Nat):Int)=cR j:=by
 have h:(List.range 33).all (fun j=>decide (j<10)||hexOf ((2 ^ j:Nat):Int)==cR j)=true:=by rfl
 intro j h1 h2
 have:=List.all_eq_true.mp h j (List.mem_range.mpr h2)
 simp only [Bool.or_eq_true,decide_eq_true_eq,beq_iff_eq] at this
 rcases this with h | h
 ·grind -abstractProof
 ·exact h
theorem z7:∀ j,j<33->(hexOf ((2 ^ j:Nat):Int)).length<1000:=by
 have h:(List.range 33).all (fun j=>decide ((hexOf ((2 ^ j:Nat):Int)).length<1000))=true:=by rfl
 intro j h2
 simpa using List.all_eq_true.mp h j (List.mem_range.mpr h2)
theorem qS {ks:List Int} {vs:List V} {i:Int} (h:i∉ks):atK ks vs i=none:=by
 unfold atK
 induction ks generalizing vs with
 | nil=>rfl
 | cons a ks ih =>
   cases vs with
   | nil=>rfl
   | cons v vs =>
     simp only [List.zip_cons_cons,List.lookup_cons]
     have:(i==a)=false:=beq_eq_false_iff_ne.mpr fun q=>h (q▸.head _)
     rw [this]
     exact ih fun m=>h (.tail _ m)
theorem zO {j:Nat} (hj:j<33):(atK flagKeys (a9 wordsL) ((2 ^ j:Nat):Int)).getD (.str (hexOf ((2 ^ j:Nat):Int)))=.str (cR j):=by
 by_cases h:j<10
 ·clear hj
  revert j
  show ∀ j,j<10->_
  exact Bu rfl rfl rfl rfl rfl rfl rfl rfl rfl rfl
 ·have h1:2 ^ 10<=2 ^ j:=Nat.pow_le_pow_right (by decide) (by lia -abstractProof)
  have:((2 ^ j:Nat):Int)∉flagKeys:=by
   intro m
   have:∀ i∈flagKeys,i<1024:=by decide
   have:=this _ m
   lia -abstractProof
  rw [qS this,nR j (by lia -abstractProof) hj];rfl
theorem eD (m j:Nat):aW m (j+1)=if m.testBit j=true then aW m j++[cR j] else aW m j:=by
 unfold aW
 rw [List.range_succ,List.filter_append,List.map_append]
 by_cases h:m.testBit j<;>simp [h]
theorem nA {m j:Nat} (h:m / 2 ^ j=0) (n:Nat):aW m (j+n)=aW m j:=by
 induction n with
 | zero=>rfl
 | succ n ih =>
   rw [<-Nat.add_assoc,eD,ih,if_neg]
   have:m<2 ^ j:=by
    rcases Nat.div_eq_zero_iff.mp h with h | h
    ·exact absurd h (Nat.ne_of_gt (Nat.two_pow_pos j))
    ·exact h
   rw [Nat.testBit_lt_two_pow (Nat.lt_of_lt_of_le this (Nat.pow_le_pow_right (by decide) (by simp)))]
   simp
theorem gP (m j:Nat):(aW m j).length<=j:=by
 unfold aW
 rw [List.length_map]
 exact Nat.le_trans (List.length_filter_le _ _) (by simp)
theorem i8 (lo:Int) (n:Nat):cb lo (n+1)=.int lo::cb (lo+1) n:=rfl
section
variable {C:Cx} {k:Nat} {σ:Sto} {ρ:Loc}
theorem Ak:nm "get"=qZ:=by kernel_rfl
theorem j9:nm "join"=jt:=by kernel_rfl
theorem Calls.wf {x:Nm} {vs:List V} {v:V} {σ1:Sto} (hx:∃ a,C.glob x=some (.fn a)/\Fn C (.ref a)) (h:SWf σ->Calls C k x vs σ v σ1):Calls C k x vs σ v σ1:=by
 obtain ⟨a,h1,h2⟩:=hx
 refine ⟨a,h1,h2,FnOk.wf fun W=>?_⟩
 obtain ⟨b,g1,g2,g3⟩:=(h W).ex
 rw [h1] at g1
 cases g1
 exact g3
theorem Calls.drop {x:Nm} {vs:List V} {v:V} {σ' σ'':Sto} (h:Calls C k x vs σ v σ') (b:Sub σ σ' σ'') (hb:below σ''.next v):Calls C k x vs σ v σ'':=by
 obtain ⟨a,h1,h2,h3⟩:=h.ex
 exact ⟨a,h1,h2,h3.drop b hb⟩
theorem DefAt.fn {x:Nm} {ps:List Nm} {T:List St} (d:DefAt C x ps T):∃ a,C.glob x=some (.fn a)/\Fn C (.ref a):=let ⟨a,h1,h2⟩:=d.ex;⟨a,h1,h2.fn⟩
theorem Sub.made {o o':O} (W:SWf σ):Sub σ (((σ.new o).set σ.next o').del σ.next) σ:=Sub.old (Nat.le_succ _) fun l o1 e=>by
 have:=(W l o1 e).1
 simp only [Sto.new,Sto.set,Sto.del]
 rw [if_neg (by lia -abstractProof),if_neg (by lia -abstractProof),if_neg (by lia -abstractProof)];exact e
noncomputable abbrev A9:List St:=[.assign [bb] false (.bin .LShift (.cInt 1) (.var n_i)),.ifs (.bin .BitAnd (.var aG) (.var bb)) [.expr (.meth (.var a5) ey [(.meth (.glob aX) qZ [(.var bb),(.call (.glob li) [(.var bb)])])]),.aug aG .BitXor (.var bb),.ifs (.not (.var aG)) [.brk] []] []]
noncomputable def fX (m j:Nat):V:=.int ((m / 2 ^ j*2 ^ j:Nat):Int)
noncomputable def CZ (m l:Nat) (σ1:Sto) (vs:List V) (ρ:Loc) (τ:Sto):Prop :=
 ∃ j:Nat,j<=32/\vs=cb (j:Int) (32 - j)/\τ=σ1.set l (.list (a9 (aW m j)))/\(m≠0->m / 2 ^ j≠0)/\(ρ=[(aG,fX m j),(a5,.loc l)]\/∃ u w,ρ=[(aG,fX m j),(a5,.loc l),(n_i,u),(bb,w)])
noncomputable def CY (m l:Nat) (σ1:Sto) (f:Fl) (ρ:Loc) (τ:Sto):Prop:=f=.next/\get ρ a5=some (.loc l)/\τ=σ1.set l (.list (a9 (cA m)))
theorem vE (H:COk C) (B:Bi C) (hD:C.glob aX=some jZ) {m l j:Nat} (hj:j<32) (hm:m≠0->m / 2 ^ j≠0) {ρ1:Loc} {σ1:Sto} (hi:get ρ1 n_i=some (.int j)) (hp:∀ w,put ρ1 bb w=[(aG,fX m j),(a5,.loc l),(n_i,.int j),(bb,w)]) :
 ∃ g ρ2 σ2,ExL C k A9 ρ1 (σ1.set l (.list (a9 (aW m j)))) g ρ2 σ2/\((g=.next/\ρ2=[(aG,fX m (j+1)),(a5,.loc l),(n_i,.int j),(bb,.int ((2 ^ j:Nat):Int))]/\σ2=σ1.set l (.list (a9 (aW m (j+1))))/\(m≠0->m / 2 ^ (j+1)≠0)) \/
   (g=.brk/\get ρ2 a5=some (.loc l)/\σ2=σ1.set l (.list (a9 (cA m))))):=by
 have hf:∀ τ,EvE C k (.bin .LShift (.cInt 1) (.var n_i)) ρ1 τ (.int ((2 ^ j:Nat):Int)) τ:=fun τ=>by
  refine EvE.eq (v:=.int (1*2 ^ (j:Int).toNat)) (ak au (aa hi) (Cf (by simp) (by lia -abstractProof) (by simp))) ?_
  simp
 have S1:∀ τ,ExS C k (.assign [bb] false (.bin .LShift (.cInt 1) (.var n_i))) ρ1 τ .next [(aG,fX m j),(a5,.loc l),(n_i,.int j),(bb,.int ((2 ^ j:Nat):Int))] τ:=fun τ =>
  aj (hf τ) (by rw [<-hp];rfl) fun _=>rfl
 have hX:∀ τ,EvT C k (.bin .BitAnd (.var aG) (.var bb)) [(aG,fX m j),(a5,.loc l),(n_i,.int j),(bb,.int ((2 ^ j:Nat):Int))] τ (m.testBit j) τ:=fun τ=>by
  have e:(Builtin.bitAnd ((m / 2 ^ j*2 ^ j:Nat):Int) ((2 ^ j:Nat):Int) != 0)=m.testBit j:=by
   rw [lT,tR]
   have hp2:=Nat.two_pow_pos j
   have:m.testBit j=decide (m / 2 ^ j % 2=1):=Nat.testBit_eq_decide_div_mod_eq
   rw [this]
   rcases Nat.mod_two_eq_zero_or_one (m / 2 ^ j) with h | h
   ·rw [h];simp
   ·rw [h,Nat.one_mul,show (((2 ^ j:Nat):Int) != 0)=true from bne_iff_ne.mpr fun h=>Nat.ne_of_gt hp2 (Int.natCast_eq_zero.mp h)];rfl
  rw [<-e]
  exact gC rfl (ak (aa rfl) (aa rfl) kS) iZ
 have lget:∀ o,(σ1.set l o).get l=some o:=fun o=>by simp [Sto.set]
 have sset:∀ o o',(σ1.set l o).set l o'=σ1.set l o':=fun o o'=>Sto.ext' rfl fun q=>by simp only [Sto.set];split<;>rfl
 have hq:m.testBit j=decide (m / 2 ^ j % 2=1):=Nat.testBit_eq_decide_div_mod_eq
 have hdd:m / 2 ^ (j+1)=m / 2 ^ j / 2:=by simp only [Nat.pow_succ,Nat.div_div_eq_div_mul]
 cases ht:m.testBit j with
 | false =>
   refine ⟨.next,_,_,aq (S1 _) (aq (cD (hX _) (fun h=>by rw [ht] at h;cases h) fun _=>aE) aE),.inl ⟨rfl,?_,?_,?_⟩⟩
   ·have:m / 2 ^ j % 2=0:=by rw [hq] at ht;have:=of_decide_eq_false ht;exact Iff.mp Nat.mod_two_ne_one this
    have e:m / 2 ^ j*2 ^ j=m / 2 ^ (j+1)*2 ^ (j+1):=by
     rw [hdd,Nat.pow_succ]
     conv=>lhs;rw [show m / 2 ^ j=m / 2 ^ j / 2*2 from by lia -abstractProof]
     rw [Nat.mul_assoc,Nat.mul_comm 2]
    unfold fX;rw [e]
   ·rw [eD,if_neg (by rw [ht];decide)]
   ·intro h
    have h1:=hm h
    have:m / 2 ^ j % 2=0:=by rw [hq] at ht;have:=of_decide_eq_false ht;lia -abstractProof
    lia -abstractProof
 | true =>
   have hodd:m / 2 ^ j % 2=1:=by rw [hq] at ht;exact of_decide_eq_true ht
   have hname:∀ τ ρ',get ρ' bb=some (.int ((2 ^ j:Nat):Int))->EvE C k (.meth (.glob aX) qZ [(.var bb),(.call (.glob li) [(.var bb)])]) ρ' τ (.str (cR j)) τ:=fun τ ρ' hg=>by
    rw [<-zO (j:=j) (by exact Nat.lt_succ_of_lt hj)]
    refine dq (et H hD) (vL (by rw [<-Ak,aP];exact PySem.F.slot_dict_get) PySem.F.type_dict_get) (.bi _) (ah (aa hg) (ah (aC H B.hex (ah (aa hg) ai) (xC ?_)) ai)) sS
    have:=z7 j (by lia -abstractProof)
    rw [sizeLine_eq];lia -abstractProof
   have hlen:=gP m j
   have S2:ExS C k (.expr (.meth (.var a5) ey [(.meth (.glob aX) qZ [(.var bb),(.call (.glob li) [(.var bb)])])])) [(aG,fX m j),(a5,.loc l),(n_i,.int j),(bb,.int ((2 ^ j:Nat):Int))] (σ1.set l (.list (a9 (aW m j)))) .next
    [(aG,fX m j),(a5,.loc l),(n_i,.int j),(bb,.int ((2 ^ j:Nat):Int))] (σ1.set l (.list (a9 (aW m (j+1))))):=by
    have e:σ1.set l (.list (a9 (aW m (j+1))))=(σ1.set l (.list (a9 (aW m j)))).set l (.list (a9 (aW m j)++[.str (cR j)])):=by
     rw [sset,eD,if_pos ht];simp [a9]
    rw [e]
    exact gE (dq (aa rfl) (dG (lget _) (by rw [<-io,aP];exact PySem.F.slot_list_append) PySem.F.type_list_append) (.bi _) (ah (hname _ _ rfl) ai) (iT (lget _) (by simp [a9];rw [sizeLine_eq];lia -abstractProof))) rfl
   have S3:ExS C k (.aug aG .BitXor (.var bb)) [(aG,fX m j),(a5,.loc l),(n_i,.int j),(bb,.int ((2 ^ j:Nat):Int))] (σ1.set l (.list (a9 (aW m (j+1))))) .next
    [(aG,fX m (j+1)),(a5,.loc l),(n_i,.int j),(bb,.int ((2 ^ j:Nat):Int))] (σ1.set l (.list (a9 (aW m (j+1))))):=by
    have:=ji (C:=C) (k:=k) (x:=aG) (op:=.BitXor) (e:=.var bb) (ρ:=[(aG,fX m j),(a5,.loc l),(n_i,.int j),(bb,.int ((2 ^ j:Nat):Int))]) (σ:=σ1.set l (.list (a9 (aW m (j+1))))) (v0:=fX m j) rfl (aa rfl) Ac
    rw [AR _ _ hodd,<-hdd] at this
    exact this
   have T4:EvT C k (.not (.var aG)) [(aG,fX m (j+1)),(a5,.loc l),(n_i,.int j),(bb,.int ((2 ^ j:Nat):Int))] (σ1.set l (.list (a9 (aW m (j+1))))) (!(((m / 2 ^ (j+1)*2 ^ (j+1):Nat):Int) != 0)) (σ1.set l (.list (a9 (aW m (j+1))))) :=
    oO (gC rfl (aa rfl) iZ)
   have hp2:=Nat.two_pow_pos (j+1)
   by_cases hz:m / 2 ^ (j+1)=0
   ·have hc:(!(((m / 2 ^ (j+1)*2 ^ (j+1):Nat):Int) != 0))=true:=by rw [hz];simp
    rw [hc] at T4
    refine ⟨.brk,_,_,aq (S1 _) (aZ (cD (hX _) (fun _=>aq S2 (aq S3 (aZ (cD T4 (fun _=>aZ BQ rfl) fun h=>by cases h) rfl))) fun h=>by rw [ht] at h;cases h) rfl),.inr ⟨rfl,rfl,?_⟩⟩
    have h0:m≠0:=by rintro rfl;grind -abstractProof
    rw [cA,if_neg h0,show (33:Nat)=(j+1)+(32 - j) from by lia -abstractProof,nA hz]
   ·have hc:(!(((m / 2 ^ (j+1)*2 ^ (j+1):Nat):Int) != 0))=false:=by
     have:m / 2 ^ (j+1)*2 ^ (j+1)≠0:=Nat.mul_ne_zero hz (Nat.ne_of_gt hp2)
     rw [show (((m / 2 ^ (j+1)*2 ^ (j+1):Nat):Int) != 0)=true from bne_iff_ne.mpr fun h=>this (Int.natCast_eq_zero.mp h)];rfl
    rw [hc] at T4
    exact ⟨.next,_,_,aq (S1 _) (aq (cD (hX _) (fun _=>aq S2 (aq S3 (aq (cD T4 (fun h=>by cases h) fun _=>aE) aE))) fun h=>by rw [ht] at h;cases h) aE),.inl ⟨rfl,rfl,rfl,fun _=>hz⟩⟩
theorem n8:∀ (l:List (List Nat)) (b:Nat),(∀ x∈l,x.length<=b)->dQ l<=l.length*b:=by
 intro l
 induction l with
 | nil =>
   intro b _
   exact Nat.zero_le _
 | cons x l ih =>
   intro b h
   have:=ih b fun y hy=>h y (.tail _ hy)
   have h1:=h x (.head _)
   simp only [dQ,List.length_cons,Nat.add_mul]
   lia -abstractProof
theorem vX:∀ j,j<34->(cR j).length<=20:=by
 have h:(List.range 34).all (fun j=>decide ((cR j).length<=20))=true:=by rfl
 intro j h2
 simpa using List.all_eq_true.mp h j (List.mem_range.mpr h2)
theorem sQ (m:Nat):∀ x∈cA m,x.length<=20:=by
 intro x hx
 unfold cA at hx
 split at hx
 ·simp at hx;subst hx;decide
 ·obtain ⟨j,hj,rfl⟩:=List.mem_map.mp hx
  have:=List.mem_range.mp (List.mem_filter.mp hj).1
  exact vX j (by exact Nat.lt_succ_of_lt this)
theorem wU (H:COk C) (B:Bi C) (hD:C.glob aX=some jZ) (d:DefAt C cK fT T_pretty_flags) {m:Nat} (hm:m<2 ^ 33):Calls C (k+1) cK [.int m] σ (.str (cx [44,32] (cA m))) σ:=by
 refine Calls.wf d.fn fun W=>?_
 have lget:∀ o,((σ.new (.list [])).set σ.next o).get σ.next=some o:=fun o=>by simp [Sto.set]
 have sset:∀ o o',((σ.new (.list [])).set σ.next o).set σ.next o'=(σ.new (.list [])).set σ.next o':=fun o o'=>Sto.ext' rfl fun q=>by simp only [Sto.set];split<;>rfl
 have hlen:(cA m).length<=33:=by
  unfold cA;split
  ·decide
  ·exact gP m 33
 obtain ⟨f,ρ',σ',hF,rfl,hn,rfl⟩:=oW (C:=C) (k:=k) (xs:=[n_i]) (body:=A9) (orelse:=[.expr (.meth (.var a5) ey [(.call (.glob li) [(.var aG)])])]) (CZ m σ.next (σ.new (.list []))) (CY m σ.next (σ.new (.list []))) (fun v vs ρ τ h=>by
  obtain ⟨j,hj,hv,rfl,h0,hρ⟩:=h
  have hj':j<32:=by
   rcases Nat.lt_or_ge j 32 with h | h
   ·exact h
   ·rw [show 32 - j=0 from by exact Nat.sub_eq_zero_of_le h] at hv;cases hv
  rw [rI (show j<32 by assumption),i8] at hv
  cases hv
  obtain ⟨ρ1,h1,h2,h3⟩:∃ ρ1,get ρ1 n_i=some (.int j)/\(∀ w,put ρ1 bb w=[(aG,fX m j),(a5,.loc σ.next),(n_i,.int j),(bb,w)])/\ci ρ [n_i] (.int j)=some ρ1:=by
   rcases hρ with rfl | ⟨u,w,rfl⟩
   ·exact ⟨[(aG,fX m j),(a5,.loc σ.next),(n_i,.int j)],rfl,(fun w=>rfl),rfl⟩
   ·exact ⟨[(aG,fX m j),(a5,.loc σ.next),(n_i,.int j),(bb,w)],rfl,(fun w=>rfl),rfl⟩
  obtain ⟨g,ρ2,σ2,hx,hr⟩:=vE (C:=C) (k:=k) H B hD hj' h0 (σ1:=σ.new (.list [])) h1 h2
  refine ⟨ρ1,g,ρ2,σ2,h3,hx,?_⟩
  rcases hr with ⟨rfl,rfl,rfl,h4⟩ | ⟨rfl,h4,rfl⟩
  ·exact ⟨j+1,hj',by rfl,rfl,h4,.inr ⟨_,_,rfl⟩⟩
  ·exact ⟨rfl,h4,rfl⟩)
  (fun ρ τ h=>by
    obtain ⟨j,hj,hv,rfl,h0,hρ⟩:=h
    have hj':j=32:=by
     rcases Nat.lt_or_ge j 32 with h | h
     ·rw [rI (show j<32 by assumption),i8] at hv;cases hv
     ·exact Eq.symm (Nat.le_antisymm h hj)
    subst hj'
    have gf:get ρ aG=some (fX m 32):=by rcases hρ with rfl | ⟨u,w,rfl⟩<;>rfl
    have gn:get ρ a5=some (.loc σ.next):=by rcases hρ with rfl | ⟨u,w,rfl⟩<;>rfl
    have hx:∃ y,hexOf ((m / 2 ^ 32*2 ^ 32:Nat):Int)=y/\y.length<1000/\cA m=aW m 32++[y]:=by
     by_cases hz:m=0
     ·subst hz
      exact ⟨[48,120,48],by rfl,by decide,by rfl⟩
     ·have h1:=h0 hz
      have h2:m / 2 ^ 32=1:=by
       have:m / 2 ^ 32<2:=Nat.div_lt_of_lt_mul (by rw [<-Nat.pow_succ];exact hm)
       lia -abstractProof
      refine ⟨cR 32,by rw [h2,Nat.one_mul];exact nR 32 (by simp) (by simp),by decide,?_⟩
      rw [cA,if_neg hz,show (33:Nat)=32+1 from rfl,eD,if_pos]
      rw [Nat.testBit_eq_decide_div_mod_eq,h2]
      rfl
    obtain ⟨y,hy,hyl,he⟩:=hx
    have hl:=gP m 32
    refine ⟨.next,_,_,aq (gE (dq (aa gn) (dG (lget _) (by rw [<-io,aP];exact PySem.F.slot_list_append) PySem.F.type_list_append) (.bi _) (ah (aC H B.hex (ah (aa gf) ai) (xC ?_)) ai) (iT (lget _) (by simp [a9];rw [sizeLine_eq];lia -abstractProof))) rfl) aE,rfl,gn,?_⟩
    ·rw [hy,sizeLine_eq];lia -abstractProof
    ·rw [sset,hy,he];simp [a9])
  (cb 0 32) [(aG,.int m),(a5,.loc σ.next)] (σ.new (.list [])) ⟨0,by simp,rfl,(fm (by simp [Sto.new];rfl)).symm,fun h=>by simpa using h,.inl (by unfold fX;simp)⟩
 have hsum:dQ (cA m)+(cA m).length*2<=sizeLine:=by
  have:=n8 (cA m) 20 (sQ m)
  rw [sizeLine_eq];lia -abstractProof
 refine (d.calls (ρ':=[(a5,.list (a9 (cA m)))]) (f:=.ret (.str (cx [44,32] (cA m)))) (σ1:=((σ.new (.list [])).set σ.next (.list (a9 (cA m)))).del σ.next) H ?_ rfl rfl).drop (Sub.made W) trivial
 unfold T_pretty_flags
 refine aq (ρ1:=[(aG,.int m),(a5,.loc σ.next)]) (σ1:=σ.new (.list [])) (aj (jT ai (by simp)) rfl fun _=>rfl) ?_
 refine aq (jj (aC H B.range (ah au ai) bo) rfl (by rfl) hF) ?_
 refine ExL.frz (lget _) (ρ1:=[(a5,.list (a9 (cA m)))]) (fun x v' hg=>?_) (aZ (fu (dq bA (gW (by rw [<-j9,aP];exact PySem.F.slot_str_join) PySem.F.type_str_join) (.bi _) (ah (aa rfl) ai) (lI hsum))) rfl)
 rw [show get [(a5,V.list (a9 (cA m)))] x=if x=a5 then some (.list (a9 (cA m))) else none from by
  by_cases h:x=a5
  ·subst h;rfl
  ·rw [if_neg h];simp only [get];rw [iS (Ne.symm h)];rfl] at hg
 split at hg
 ·subst_vars;cases hg;exact ⟨_,hn,.hit⟩
 ·cases hg
end
end
section
open PySem PyProof.Rows
set_option maxRecDepth 100000
noncomputable def lB (b val:Nat):List Nat->Option (Nat × List Nat)
 | []=>bif Nat.beq (b &&& 64) 0 then some (val,[]) else none
 | c::l=>bif Nat.beq (b &&& 64) 0 then some (val,c::l) else bif Nat.ble val 1000000 then lB c ((val*64) ||| (c &&& 63)) l else none
noncomputable def pvL:List Nat->Option (Nat × List Nat)
 | []=>none
 | b::l=>lB b (b &&& 63) l
noncomputable def zN (l:List Nat):List V:=l.map fun c:Nat=>V.int (c:Int)
theorem rz (b val:Nat):lB b val []=bif Nat.beq (b &&& 64) 0 then some (val,[]) else none:=rfl
theorem iX (b val c:Nat) (l:List Nat):lB b val (c::l)=bif Nat.beq (b &&& 64) 0 then some (val,c::l) else bif Nat.ble val 1000000 then lB c ((val*64) ||| (c &&& 63)) l else none:=rfl
section
variable {C:Cx} {k:Nat} {σ:Sto} {it:Nat}
noncomputable abbrev pvT:Ex:=.bin .BitAnd (.var n_b) (.cInt 64)
noncomputable abbrev pvB:List St:=[.aug fE .LShift (.cInt 6),.assign [n_b] false (.call (.glob mF) [(.var bJ)]),.aug fE .BitOr (.bin .BitAnd (.var n_b) (.cInt 63))]
theorem yn (H:COk C) (B:Bi C):∀ (l:List Nat) (b val n:Nat) (rest:List Nat) (τ:Sto),τ.get it=some (.liter (zN l))->lB b val l=some (n,rest) ->
 ∃ b',kE C k pvT pvB [(bJ,.loc it),(n_b,.int (b:Int)),(fE,.int (val:Int))] τ .next [(bJ,.loc it),(n_b,.int ((b':Nat):Int)),(fE,.int (n:Int))] (τ.set it (.liter (zN rest))):=by
 intro l
 induction l with
 | nil =>
   intro b val n rest τ hl h
   have T:EvT C k pvT [(bJ,.loc it),(n_b,.int (b:Int)),(fE,.int (val:Int))] τ (Builtin.bitAnd b 64 != 0) τ:=gC rfl (ak (aa rfl) au kS) iZ
   rw [show Builtin.bitAnd (b:Int) 64=((b &&& 64:Nat):Int) from lT b 64] at T
   rw [rz] at h
   cases hb:Nat.beq (b &&& 64) 0 with
   | false=>rw [hb] at h;cases h
   | true =>
     rw [hb] at h;cases h
     rw [Nat.eq_of_beq_eq_true hb] at T
     rw [fm hl]
     exact ⟨b,.done T⟩
 | cons c l ih =>
   intro b val n rest τ hl h
   have T:EvT C k pvT [(bJ,.loc it),(n_b,.int (b:Int)),(fE,.int (val:Int))] τ (Builtin.bitAnd b 64 != 0) τ:=gC rfl (ak (aa rfl) au kS) iZ
   rw [show Builtin.bitAnd (b:Int) 64=((b &&& 64:Nat):Int) from lT b 64] at T
   rw [iX] at h
   cases hb:Nat.beq (b &&& 64) 0 with
   | true =>
     rw [hb] at h;cases h
     rw [Nat.eq_of_beq_eq_true hb] at T
     rw [fm hl]
     exact ⟨b,.done T⟩
   | false =>
     rw [hb] at h
     cases hv:Nat.ble val 1000000 with
     | false=>rw [hv] at h;cases h
     | true =>
       rw [hv] at h
       have hle:val<=1000000:=Nat.le_of_ble_eq_true hv
       have hne:((b &&& 64:Nat):Int)≠0:=fun q=>Nat.ne_of_beq_eq_false hb (Int.natCast_eq_zero.mp q)
       rw [bne_iff_ne.mpr hne] at T
       obtain ⟨b',hW⟩:=ih c ((val*64) ||| (c &&& 63)) n rest (τ.set it (.liter (zN l))) (by simp [Sto.set]) h
       have ss:(τ.set it (.liter (zN l))).set it (.liter (zN rest))=τ.set it (.liter (zN rest)):=Sto.ext' rfl fun q=>by simp only [Sto.set];split<;>rfl
       rw [ss] at hW
       refine ⟨b',.step T ?_ hW⟩
       refine aq (ρ1:=[(bJ,.loc it),(n_b,.int (b:Int)),(fE,.int ((val:Int)*2 ^ (6:Int).toNat))]) (ji rfl au (Ab (by simp) (by simp) (by omega))) ?_
       refine aq (ρ1:=[(bJ,.loc it),(n_b,.int (c:Int)),(fE,.int ((val:Int)*2 ^ (6:Int).toNat))]) (aj (aC H B.next (ah (aa rfl) ai) (ug hl)) rfl fun _=>rfl) ?_
       have e:Builtin.bitOr ((val:Int)*2 ^ (6:Int).toNat) (Builtin.bitAnd c 63)=(((val*64) ||| (c &&& 63):Nat):Int):=by
        rw [show Builtin.bitAnd (c:Int) 63=((c &&& 63:Nat):Int) from lT c 63,show (val:Int)*2 ^ (6:Int).toNat=((val*64:Nat):Int) from by dsimp,Dd]
       have:=ji (C:=C) (k:=k) (x:=fE) (op:=.BitOr) (e:=.bin .BitAnd (.var n_b) (.cInt 63)) (ρ:=[(bJ,.loc it),(n_b,.int (c:Int)),(fE,.int ((val:Int)*2 ^ (6:Int).toNat))]) (σ:=τ.set it (.liter (zN l))) rfl (ak (aa rfl) au kS) B3
       rw [e] at this
       exact aq this aE
theorem oE (H:COk C) (B:Bi C) (d:DefAt C bv du T_parse_varint) {l:List Nat} {n:Nat} {rest:List Nat} (hl:σ.get it=some (.liter (zN l))) (h:pvL l=some (n,rest)) :
 Calls C (k+1) bv [.loc it] σ (.int (n:Int)) (σ.set it (.liter (zN rest))):=by
 cases l with
 | nil=>cases h
 | cons b l =>
   have h:lB b (b &&& 63) l=some (n,rest):=h
   obtain ⟨b',hW⟩:=yn (C:=C) (k:=k) (it:=it) H B l b (b &&& 63) n rest (σ.set it (.liter (zN l))) (by simp [Sto.set]) h
   have ss:(σ.set it (.liter (zN l))).set it (.liter (zN rest))=σ.set it (.liter (zN rest)):=Sto.ext' rfl fun q=>by simp only [Sto.set];split<;>rfl
   rw [ss] at hW
   refine d.calls (f:=.ret (.int (n:Int))) (ρ':=[(bJ,.loc it),(n_b,.int ((b':Nat):Int)),(fE,.int (n:Int))]) H ?_ rfl rfl
   unfold T_parse_varint
   refine aq (ρ1:=[(bJ,.loc it),(n_b,.int (b:Int))]) (aj (aC H B.next (ah (aa rfl) ai) (ug hl)) rfl fun _=>rfl) ?_
   refine aq (ρ1:=[(bJ,.loc it),(n_b,.int (b:Int)),(fE,.int ((b &&& 63:Nat):Int))]) (σ1:=σ.set it (.liter (zN l))) (aj (EvE.eq (ak (aa rfl) au kS) (congrArg V.int (lT b 63))) rfl fun _=>rfl) ?_
   exact aq (xv hW) (aZ (fu (aa rfl)) rfl)
theorem wQ (H:COk C) (B:Bi C) (dp:DefAt C bv du T_parse_varint) (d:DefAt C bI gz T_law_parts) {w:List Nat} {a b c:Nat} {r1 r2 r3:List Nat} (h1:pvL w=some (a,r1)) (h2:pvL r1=some (b,r2)) (h3:pvL r2=some (c,r3))
 (hz:w.length<1000) (hz3:r3.length<1000):Calls C (k+2) bI [.str w] σ (.list (zN [a,b,c]++zN r3)) σ:=by
 refine Calls.wf d.fn fun W=>?_
 have ss:∀ o o',((σ.new (.liter (zN w))).set σ.next o).set σ.next o'=(σ.new (.liter (zN w))).set σ.next o':=fun o o'=>Sto.ext' rfl fun q=>by simp only [Sto.set];split<;>rfl
 have sg:∀ o,((σ.new (.liter (zN w))).set σ.next o).get σ.next=some o:=fun o=>by simp [Sto.set]
 refine (d.calls (ρ':=[(aL,.str w),(f7,.loc σ.next)]) (f:=.ret (.list (zN [a,b,c]++zN r3))) (σ1:=((σ.new (.liter (zN w))).set σ.next (.liter (zN r3))).del σ.next) H ?_ rfl rfl).drop (Sub.made W) ?_
 ·unfold T_law_parts
  have E1:EvE C (k+1) (.comp (.call (.glob uD) [(.var cL)]) [[cL]] [(.var aL)] [[]] [ax,cL]) [(aL,.str w)] σ (.list (zN w)) σ:=by
   refine c5 (l:=w) (inj:=fun c=>.str [c]) (f:=fun c:Nat=>.int (c:Int)) (ρ1:=fun c=>[(aL,.str w),(cL,.str [c])]) (own:=[ax,cL]) (aa rfl) rfl rfl rfl (fun i=>rfl) (fun i hi=>?_) (by rw [sizeLine_eq];lia -abstractProof)
   exact aC H B.ord (ah (aa rfl) ai) BW
  refine aq (ρ1:=[(aL,.str w),(f7,.loc σ.next)]) (σ1:=σ.new (.liter (zN w))) (aj (aC H B.iter (ah E1 ai) zS) rfl fun _=>rfl) ?_
  have P1:=oE (C:=C) (k:=k) (σ:=σ.new (.liter (zN w))) (it:=σ.next) H B dp (by simp [Sto.new]) h1
  have P2:=oE (C:=C) (k:=k) (σ:=(σ.new (.liter (zN w))).set σ.next (.liter (zN r1))) (it:=σ.next) H B dp (sg _) h2
  have P3:=oE (C:=C) (k:=k) (σ:=(σ.new (.liter (zN w))).set σ.next (.liter (zN r2))) (it:=σ.next) H B dp (sg _) h3
  rw [ss] at P2 P3
  refine aZ (fu (ak (cu (ah (aK H (ah (aa rfl) ai) P1) (ah (aK H (ah (aa rfl) ai) P2) (ah (aK H (ah (aa rfl) ai) P3) ai))) (szl rfl)) (aC H B.list (ah (aa rfl) ai) (qE (sg _) (by simp [zN];rw [sizeLine_eq];lia -abstractProof))) (ll (by simp [zN];rw [sizeLine_eq];lia -abstractProof)))) rfl
 ·show belows _ _
  have:∀ l:List Nat,belows σ.next (zN l):=fun l=>by
   induction l with
   | nil=>trivial
   | cons x l ih=>exact ⟨trivial,ih⟩
  have e:zN [a,b,c]++zN r3=zN ([a,b,c]++r3):=by rfl
  rw [e];exact this _
end
end
section
open PySem PyProof.Rows
set_option maxRecDepth 100000
theorem qL (n:Nat):Builtin.Str.strSliceIndices none (some 1) 1 (n+1)=[0]:=by
 unfold Builtin.Str.strSliceIndices
 simp only [show ((1:Int) > 0) from by exact Int.one_pos,if_true,show ¬ ((1:Int)<0) from by decide,if_false]
 rw [show max (0:Int) (min 1 ((n+1:Nat):Int))=1 from by lia -abstractProof]
 rfl
section
variable {C:Cx} {k:Nat} {σ:Sto} {ρ:Loc} {x:List Nat}
theorem rF:jH C k (.str x) none (some 1) none σ (.str (x.take 1)):=by
 cases x with
 | nil=>exact n6 (by decide) rfl (fun _ _=>rfl) (by decide) rfl
 | cons c r =>
   refine n6 (by decide) ?_ (fun _ h=>?_) (by simp) ?_
   ·unfold pV;simp only [List.length_cons];simp only [Option.getD_none];rw [qL];rfl
   ·cases r with
    | nil=>rfl
    | cons d r=>simp at h
   ·simp only [Option.getD_none,List.length_cons];rw [qL];rfl
noncomputable def dv (n hi s:Nat):Nat:=(if s > 1 then 64 else 0)+n / s % 64+hi
noncomputable def kH (n hi:Nat):List Nat:=([4096,64,1].filter fun s=>decide (n>=s)||s==1).map (dv n hi)
noncomputable def ek (ps:List Nat) (hi:Nat):List Nat:=ps.flatMap fun n=>kH n hi
theorem kP (l:List (List Nat)):cx [] l=l.flatten:=by
 induction l with
 | nil=>rfl
 | cons x l ih =>
   cases l with
   | nil=>exact (List.append_nil x).symm
   | cons y r =>
     show x++[]++cx [] (y::r)=_
     rw [ih,List.append_nil];rfl
theorem vG (l:List Nat):(l.map fun c=>[c]).flatten=l:=by
 induction l with
 | nil=>rfl
 | cons c l ih=>simp [ih]
theorem rK (l:List Nat):dQ (l.map fun c=>[c])=l.length:=by
 induction l with
 | nil=>rfl
 | cons c l ih=>simp only [List.map_cons,dQ,ih,List.length_cons,List.length_nil];lia -abstractProof
theorem xb (n hi:Nat):(kH n hi).length<=3:=by
 unfold kH
 rw [List.length_map]
 exact Nat.le_trans (List.length_filter_le _ _) (by decide)
theorem i4 (ps:List Nat) (hi:Nat):(ek ps hi).length<=3*ps.length:=by
 induction ps with
 | nil=>exact Nat.le_refl _
 | cons n ps ih =>
   have:=xb n hi
   simp only [ek,List.flatMap_cons,List.length_append,List.length_cons]
   unfold ek at ih
   lia -abstractProof
noncomputable abbrev Bq:Ex:=.call (.glob uB) [(.bin .Add (.bin .Add (.ite (.cmp (.var ef) [.Gt] [(.cInt 1)]) (.cInt 64) (.cInt 0)) (.bin .Mod (.bin .FloorDiv (.var aJ) (.var ef)) (.cInt 64))) (.var jq))]
noncomputable abbrev Bp:Ex:=.boolop .Or [(.cmp (.var aJ) [.GtE] [(.var ef)]),(.cmp (.var ef) [.Eq] [(.cInt 1)])]
noncomputable abbrev nk (ps:List Nat) (hi n s:Nat):Loc:=[(aQ,.list (zN ps)),(jq,.int (hi:Int)),(aJ,.int (n:Int)),(ef,.int (s:Int))]
theorem tK (H:COk C) (B:Bi C) {ps:List Nat} {hi n s:Nat} (hs:0<s) (hs4:s<=4096) (hh:hi<=1000):EvE C k Bq (nk ps hi n s) σ (.str [dv n hi s]) σ:=by
 refine aC H B.chr (ah (v:=.int ((dv n hi s:Nat):Int)) ?_ ai) (BS ?_)
 ·refine EvE.eq (v:=.int ((bif decide ((s:Int) > 1) then 64 else 0)+(Int.fmod (Int.fdiv n s) 64)+hi)) ?_ ?_
  ·refine ak (ak (zC (aH (aa rfl) au A5 aF) au au) (ak (ak (aa rfl) (aa rfl) (iW (by exact Iff.mpr Int.natCast_ne_zero_iff_pos hs) ?_)) au (gJ (by decide))) gQ) (aa rfl) gQ
   simp only [Int.natAbs_natCast]
   exact Nat.lt_trans ((Nat.log2_lt (by exact Nat.ne_zero_of_lt hs)).mpr (show s<2 ^ 13 from by lia -abstractProof)) (by simp)
  ·rw [uc,show Int.fmod ((n / s:Nat):Int) 64=((n / s % 64:Nat):Int) from ue _ 64]
   unfold dv
   by_cases h:s > 1
   ·rw [if_pos h,show decide ((s:Int) > 1)=true from decide_eq_true (by exact Iff.mp (Int.toNat_lt' hs) h)]
    simp only [cond_true];congr 1
   ·rw [if_neg h,show decide ((s:Int) > 1)=false from decide_eq_false (by lia -abstractProof)]
    simp only [cond_false];congr 1
 ·unfold dv
  have:=Nat.mod_lt (n / s) (show 64 > 0 from by decide)
  split<;>lia -abstractProof
theorem tJ {ps:List Nat} {hi n s:Nat}:EvT C k Bp (nk ps hi n s) σ (decide (n>=s)||s==1) σ:=by
 have h1:EvT C k (.cmp (.var aJ) [.GtE] [(.var ef)]) (nk ps hi n s) σ (decide (n>=s)) σ:=by
  rw [show decide (n>=s)=decide ((n:Int)>=(s:Int)) from by simp]
  exact aH (aa rfl) (aa rfl) Di aF
 have h2:EvT C k (.cmp (.var ef) [.Eq] [(.cInt 1)]) (nk ps hi n s) σ (s==1) σ:=by
  rw [show (s==1)=((s:Int)==1) from by rw [Bool.eq_iff_iff];simp;lia -abstractProof]
  exact aH (aa rfl) au tW aF
 exact oP h1 h2
noncomputable def uZ (hi:Nat):V->List V
 | .int i=>a9 ((kH i.toNat hi).map fun c=>[c])
 | _=>[]
theorem sw (H:COk C) (B:Bi C) (d:DefAt C cj jg T_law_word) {ps:List Nat} {hi:Nat} (hps:ps.length<=100) (hh:hi<=1000):Calls C (k+1) cj [.list (zN ps),.int (hi:Int)] σ (.str (ek ps hi)) σ:=by
 have hw:=i4 ps hi
 have E:EvE C k (.comp Bq [[aJ],[ef]] [(.var aQ),(.list [(.cInt 4096),(.cInt 64),(.cInt 1)])] [[],[Bp]] [ax,aJ,ef]) [(aQ,.list (zN ps)),(jq,.int (hi:Int))] σ (.list (a9 ((ek ps hi).map fun c=>[c]))) σ:=by
  refine CompOk.ev (fJ (vs:=zN ps) (aa rfl) rfl rfl ?_ (by simp [a9];rw [sizeLine_eq];lia -abstractProof))
  have e:a9 ((ek ps hi).map fun c=>[c])=(zN ps).flatMap (uZ hi):=by
   delta ek zN a9
   rw [List.flatMap_map,List.map_map,List.map_flatMap]
   congr 1
   funext n
   simp [uZ,a9]
  rw [e]
  refine sC (uZ hi) (zN ps) fun v hv=>?_
  obtain ⟨n,_,rfl⟩:=List.mem_map.mp hv
  refine ⟨[(aQ,.list (zN ps)),(jq,.int (hi:Int)),(aJ,.int (n:Int))],.list (zN [4096,64,1]),zN [4096,64,1],rfl,rfl,cu (ah au (ah au (ah au ai))) (szl rfl),rfl,rfl,?_⟩
  have e2:uZ hi (.int (n:Int))=((zN [4096,64,1]).filter (fun v=>match v with | .int s=>decide (n>=s.toNat)||s.toNat==1 | _=>false)).map (fun v=>match v with | .int s=>.str [dv n hi s.toNat] | _=>.none):=by
   show List.map V.str (List.map (fun c=>[c]) (List.map (dv n hi) (List.filter (fun s=>decide (n>=s)||s==1) [4096,64,1])))=_
   unfold zN
   rw [List.filter_map,List.map_map,List.map_map,List.map_map]
   rfl
  rw [e2]
  refine zt _ _ _ fun v hv=>?_
  have hv3:v=.int ((4096:Nat):Int)\/v=.int ((64:Nat):Int)\/v=.int ((1:Nat):Int):=by simpa [zN] using hv
  rcases hv3 with rfl | rfl | rfl
  ·exact ⟨nk ps hi n 4096,rfl,rfl,tJ,fun _=>tK H B (by simp) (by simp) hh⟩
  ·exact ⟨nk ps hi n 64,rfl,rfl,tJ,fun _=>tK H B (by simp) (by simp) hh⟩
  ·exact ⟨nk ps hi n 1,rfl,rfl,tJ,fun _=>tK H B (by exact Nat.one_pos) (by simp) hh⟩
 refine d.calls (ρ':=[(aQ,.list (zN ps)),(jq,.int (hi:Int))]) (f:=.ret (.str (ek ps hi))) H ?_ rfl rfl
 unfold T_law_word
 have hj:cx [] ((ek ps hi).map fun c=>[c])=ek ps hi:=by rw [kP,vG]
 have J:=lI (C:=C) (k:=k) (σ:=σ) (sep:=[]) (l:=(ek ps hi).map fun c=>[c]) (by rw [rK,sizeLine_eq];dsimp;lia -abstractProof)
 rw [hj] at J
 exact aZ (fu (dq bA (gW (by rw [<-j9,aP];exact PySem.F.slot_str_join) PySem.F.type_str_join) (.bi _) (ah E ai) J)) rfl
end
end
section
open PySem PyProof.Rows
set_option maxRecDepth 100000
theorem wO:∀ d,d<64->∀ hi,(hi=0\/hi=128)->((64+d+hi) &&& 63=d/\(64+d+hi) &&& 64=64)/\((0+d+hi) &&& 63=d/\(0+d+hi) &&& 64=0):=by
 have h:(List.range 64).all (fun d=>[0,128].all fun hi=>((64+d+hi) &&& 63==d&&(64+d+hi) &&& 64==64)&&((0+d+hi) &&& 63==d&&(0+d+hi) &&& 64==0))=true:=by rfl
 intro d hd hi hh
 have:=List.all_eq_true.mp (List.all_eq_true.mp h d (List.mem_range.mpr hd)) hi (by rcases hh with rfl | rfl<;>decide)
 simpa using this
theorem or6 (v d:Nat) (h:d<64):(v*64) ||| d=v*64+d:=by
 have:=Nat.two_pow_add_eq_or_of_lt (i:=6) h v
 rw [Nat.mul_comm] at this
 exact this.symm
theorem Be (n:Nat):n % 64<=1000000:=Nat.le_trans (Nat.le_of_lt (Nat.mod_lt _ (by decide))) (by decide)
theorem dig (n:Nat):n / 64*64+n % 64=n:=by rw [Nat.mul_comm];exact Nat.div_add_mod n 64
theorem Dm {n:Nat} (h:n<4096):n / 64 % 64*64+n % 64=n:=by rw [Nat.mod_eq_of_lt (Nat.div_lt_of_lt_mul h),dig]
theorem D2 {n:Nat} (h:n<262144):(n / 4096 % 64*64+n / 64 % 64)*64+n % 64=n:=by rw [show n / 4096=n / 64 / 64 from (Nat.div_div_eq_div_mul n 64 64).symm,Dm (Nat.div_lt_of_lt_mul h),dig]
theorem pN {n hi:Nat} (hn:n<262144) (hh:hi=0\/hi=128) (rest:List Nat):pvL (kH n hi++rest)=some (n,rest):=by
 have h0:=wO (n % 64) (Nat.mod_lt _ (by simp)) hi hh
 have h1:=wO (n / 64 % 64) (Nat.mod_lt _ (by simp)) hi hh
 have h2:=wO (n / 4096 % 64) (Nat.mod_lt _ (by simp)) hi hh
 have last:∀ v,lB (dv n hi 1) v rest=some (v,rest):=fun v=>by
  have e:dv n hi 1=0+n % 64+hi:=by unfold dv;rw [if_neg (by decide),Nat.div_one]
  rw [e]
  cases rest with
  | nil=>rw [rz,h0.2.2];rfl
  | cons c r=>rw [iX,h0.2.2];rfl
 have e0:dv n hi 1 &&& 63=n % 64:=by unfold dv;rw [if_neg (by decide),Nat.div_one];exact h0.2.1
 have e1:dv n hi 64=64+n / 64 % 64+hi:=by unfold dv;rfl
 have e2:dv n hi 4096=64+n / 4096 % 64+hi:=by unfold dv;rfl
 have step1:∀ v,v<=1000000->lB (dv n hi 64) v (dv n hi 1::rest)=some (v*64+n % 64,rest):=fun v hv=>by
  rw [iX,e1,h1.1.2,show Nat.beq 64 0=false from rfl,show Nat.ble v 1000000=true from Nat.ble_eq_true_of_le hv]
  simp only [cond_false,cond_true]
  rw [e0,or6 _ _ (Nat.mod_lt _ (by simp))]
  exact last _
 by_cases c1:n>=4096
 ·have e:kH n hi=[dv n hi 4096,dv n hi 64,dv n hi 1]:=by
   unfold kH
   rw [show [4096,64,1].filter (fun s=>decide (n>=s)||s==1)=[4096,64,1] from by simp [c1];exact Nat.le_of_add_left_le c1];rfl
  rw [e]
  show lB (dv n hi 4096) (dv n hi 4096 &&& 63) (dv n hi 64::dv n hi 1::rest)=_
  rw [iX,e2,h2.1.2,h2.1.1,show Nat.beq 64 0=false from rfl,show Nat.ble (n / 4096 % 64) 1000000=true from Nat.ble_eq_true_of_le (Be _)]
  simp only [cond_false,cond_true]
  rw [show dv n hi 64 &&& 63=n / 64 % 64 from by rw [e1];exact h1.1.1,or6 _ _ (Nat.mod_lt _ (by simp)),step1 _ (Nat.le_trans (Nat.add_le_add (Nat.mul_le_mul_right 64 (Nat.le_of_lt (Nat.mod_lt _ (by decide)))) (Nat.le_of_lt (Nat.mod_lt _ (by decide)))) (by decide))]
  congr 2
  exact D2 hn
 ·by_cases c2:n>=64
  ·have e:kH n hi=[dv n hi 64,dv n hi 1]:=by
    unfold kH
    rw [show [4096,64,1].filter (fun s=>decide (n>=s)||s==1)=[64,1] from by simp [c1,c2]];rfl
   rw [e]
   show lB (dv n hi 64) (dv n hi 64 &&& 63) (dv n hi 1::rest)=_
   rw [show dv n hi 64 &&& 63=n / 64 % 64 from by rw [e1];exact h1.1.1,step1 _ (Be _)]
   congr 2
   exact Dm (Nat.not_le.mp c1)
  ·have e:kH n hi=[dv n hi 1]:=by
    unfold kH
    rw [show [4096,64,1].filter (fun s=>decide (n>=s)||s==1)=[1] from by simp [c1,c2]];rfl
   rw [e]
   show lB (dv n hi 1) (dv n hi 1 &&& 63) rest=_
   rw [e0,last]
   congr 2
   exact Nat.mod_eq_of_lt (Nat.not_le.mp c2)
theorem wk {a b c hi:Nat} (ha:a<262144) (hb:b<262144) (hc:c<262144) (hh:hi=0\/hi=128):pvL (ek [a,b,c] hi)=some (a,ek [b,c] hi)/\pvL (ek [b,c] hi)=some (b,ek [c] hi)/\pvL (ek [c] hi)=some (c,[]) :=
 ⟨pN ha hh _,pN hb hh _,pN hc hh []⟩
section
variable {C:Cx} {k:Nat} {σ:Sto}
theorem zh (H:COk C) (B:Bi C) (dp:DefAt C bv du T_parse_varint) (d:DefAt C bI gz T_law_parts) {a b c hi:Nat} (ha:a<262144) (hb:b<262144) (hc:c<262144) (hh:hi=0\/hi=128) :
 Calls C (k+2) bI [.str (ek [a,b,c] hi)] σ (.list (zN [a,b,c])) σ:=by
 obtain ⟨h1,h2,h3⟩:=wk ha hb hc hh
 have hl:=i4 [a,b,c] hi
 exact (wQ (k:=k) H B dp d h1 h2 h3 (by simp at hl;lia -abstractProof) (by simp)).eq (by rfl)
noncomputable def cB (w:List Nat) (way:Nat):List Nat:=if way > 1 then w else if way=1 then [92,32,10,9,13] else [92,34]
noncomputable def eH (hid w:List Nat):List Nat:=w.flatMap fun c=>if c∈hid then [92,c] else [c]
noncomputable def da (w:List Nat) (way:Nat):List Nat :=
 if way % 2=1 then (if way=1/\w.take 1=[34] then [92] else [])++eH (cB w way) w else [34]++eH (cB w way) w++[34]
theorem qu (hid w:List Nat):(eH hid w).length<=2*w.length:=by
 induction w with
 | nil=>exact Nat.le_refl _
 | cons c w ih =>
   unfold eH at ih ⊢
   simp only [List.flatMap_cons,List.length_append,List.length_cons]
   split<;>simp only [List.length_cons,List.length_nil]<;>lia -abstractProof
theorem rJ (l:List (List Nat)):dQ l=l.flatten.length:=by
 induction l with
 | nil=>rfl
 | cons x l ih=>simp [dQ,ih]
theorem vm (H:COk C) (d:DefAt C bV dR T_law_written) {w:List Nat} {way:Nat} (hw:w.length<100000) (hway:way<4):Calls C (k+1) bV [.str w,.int (way:Int)] σ (.str (da w way)) σ:=by
 refine d.calls (ρ':=[(aL,.str w),(bM,.int (way:Int)),(dU,.str (cB w way)),(ij,.str (eH (cB w way) w))]) (f:=.ret (.str (da w way))) H ?_ rfl rfl
 have hle:=qu (cB w way) w
 unfold T_law_written
 have E1:EvE C k (.ite (.cmp (.var bM) [.Gt] [(.cInt 1)]) (.var aL) (.ite (.var bM) (.cStr [92,32,10,9,13]) (.cStr [92,34]))) [(aL,.str w),(bM,.int (way:Int))] σ (.str (cB w way)) σ:=by
  refine fV (c:=decide ((way:Int) > 1)) (aH (aa rfl) au A5 aF) (fun h=>?_) (fun h=>?_)
  ·have:=of_decide_eq_true h
   rw [cB,if_pos (by exact Iff.mp Int.ofNat_lt this)]
   exact aa rfl
  ·have:=of_decide_eq_false h
   refine fV (c:=(way:Int) != 0) (mj rfl (aa rfl)) (fun h2=>?_) (fun h2=>?_)
   ·have h2:=bne_iff_ne.mp h2
    rw [cB,if_neg (by lia -abstractProof),if_pos (by lia -abstractProof)];exact bA
   ·have h2:(way:Int)=0:=by simpa using h2
    rw [cB,if_neg (by lia -abstractProof),if_neg (by lia -abstractProof)];exact bA
 refine aq (ρ1:=[(aL,.str w),(bM,.int (way:Int)),(dU,.str (cB w way))]) (aj E1 rfl fun _=>rfl) ?_
 have E2:EvE C k (.comp (.ite (.cmp (.var cL) [.In] [(.var dU)]) (.bin .Add (.cStr [92]) (.var cL)) (.var cL)) [[cL]] [(.var aL)] [[]] [ax,cL]) [(aL,.str w),(bM,.int (way:Int)),(dU,.str (cB w way))] σ
  (.list (a9 (w.map fun c=>if c∈cB w way then [92,c] else [c]))) σ:=by
  rw [show a9 (w.map fun c=>if c∈cB w way then [92,c] else [c])=w.map (fun c=>V.str (if c∈cB w way then [92,c] else [c])) from by simp [a9]]
  refine c5 (l:=w) (inj:=fun c=>.str [c]) (ρ1:=fun c=>[(aL,.str w),(bM,.int (way:Int)),(dU,.str (cB w way)),(cL,.str [c])]) (own:=[ax,cL]) (aa rfl) rfl rfl rfl (fun i=>rfl) (fun c hc=>?_) (by rw [sizeLine_eq];lia -abstractProof)
  refine fV (c:=decide (c∈cB w way)) (aH (aa rfl) (aa rfl) yw aF) (fun h=>?_) (fun h=>?_)
  ·rw [if_pos (of_decide_eq_true h)]
   exact ak bA (aa rfl) (fQ (by simp))
  ·rw [if_neg (of_decide_eq_false h)]
   exact aa rfl
 have hj:cx [] (w.map fun c=>if c∈cB w way then [92,c] else [c])=eH (cB w way) w:=by rw [kP];unfold eH;rfl
 have J:=lI (C:=C) (k:=k) (σ:=σ) (sep:=[]) (l:=w.map fun c=>if c∈cB w way then [92,c] else [c]) (by
  rw [rJ,<-kP,hj,sizeLine_eq];dsimp;lia -abstractProof)
 rw [hj] at J
 refine aq (ρ1:=[(aL,.str w),(bM,.int (way:Int)),(dU,.str (cB w way)),(ij,.str (eH (cB w way) w))]) (aj (dq bA (gW (by rw [<-j9,aP];exact PySem.F.slot_str_join) PySem.F.type_str_join) (.bi _) (ah E2 ai) J) rfl fun _=>rfl) ?_
 refine aZ (fu ?_) rfl
 have hm:EvE C k (.bin .Mod (.var bM) (.cInt 2)) [(aL,.str w),(bM,.int (way:Int)),(dU,.str (cB w way)),(ij,.str (eH (cB w way) w))] σ (.int ((way % 2:Nat):Int)) σ :=
  EvE.eq (v:=.int ((way:Int).fmod 2)) (ak (aa rfl) au (gJ (by decide))) (congrArg V.int (ue way 2))
 refine fV (c:=((way % 2:Nat):Int) != 0) (mj rfl hm) (fun h=>?_) (fun h=>?_)
 ·have h:((way % 2:Nat):Int)≠0:=bne_iff_ne.mp h
  rw [da,if_pos (by exact Iff.mp Nat.mod_two_ne_zero fun a ↦ h (congrArg Nat.cast a))]
  refine ak (va:=.str (if way=1/\w.take 1=[34] then [92] else [])) ?_ (aa rfl) (fQ ?_)
  ·have T:EvT C k (.boolop .And [(.cmp (.var bM) [.Eq] [(.cInt 1)]),(.cmp (.slice (.var aL) [none,some (.cInt 1),none]) [.Eq] [(.cStr [34])])]) [(aL,.str w),(bM,.int (way:Int)),(dU,.str (cB w way)),(ij,.str (eH (cB w way) w))] σ
    (((way:Int)==1)&&(w.take 1==[34])) σ :=
    mi (aH (aa rfl) au tW aF) (aH (gV (il:=none) (ih:=some 1) (is:=none) (aa rfl) trivial (au:EvE C k (.cInt 1) _ _ _ _) trivial nQ PySem.F.slot_str_getitem.lookup rF) bA kZ aF)
   refine fV T (fun h=>?_) (fun h=>?_)
   ·have h:=Bool.and_eq_true_iff.mp h
    rw [if_pos ⟨by have:=beq_iff_eq.mp h.1;exact Eq.symm ((fun {m n} ↦ Iff.mp Int.ofNat_inj) (id (Eq.symm this))),beq_iff_eq.mp h.2⟩];exact bA
   ·rw [if_neg (fun q=>by rw [show ((way:Int)==1)=true from beq_iff_eq.mpr (by omega),show (w.take 1==[34])=true from beq_iff_eq.mpr q.2] at h;cases h)];exact bA
  ·split<;>simp<;>lia -abstractProof
 ·have h:((way % 2:Nat):Int)=0:=by simpa using h
  rw [da,if_neg (by lia -abstractProof)]
  exact ak (ak bA (aa rfl) (fQ (by simp;lia -abstractProof))) bA (fQ (by simp;lia -abstractProof))
end
end
section
open PySem PyProof.Rows
set_option maxRecDepth 100000
structure Pl3 where
 lx:Nat
 lf:Nat
 pb:Nat
structure Pl3.Ok (p:Pl3) (τ:Sto):Prop where
 ne:p.lx≠p.lf
 np:p.lx≠p.pb
 nq:p.lf≠p.pb
 bx:p.lx<τ.next
 bf:p.lf<τ.next
 bp:p.pb<τ.next
structure LS where
 x:List Nat
 q:List V
 line:Int
noncomputable def Pl3.put (p:Pl3) (τ:Sto) (a:LS):Sto:=((τ.set p.pb (.list a.q)).set p.lf (.list (cS a.x))).set p.lx (.lexer p.lf a.line p.pb)
section
variable {p:Pl3} {τ:Sto} {a b:LS} {l:Nat} {o:O}
theorem Pl3.set_ (h1:l≠p.lx) (h2:l≠p.lf) (h3:l≠p.pb):(p.put τ a).set l o=p.put (τ.set l o) a:=Sto.ext' rfl fun j=>by
 simp only [Pl3.put,Sto.set]
 by_cases hl:j=l
 ·subst hl
  rw [if_pos rfl,if_neg h1,if_neg h2,if_neg h3,if_pos rfl]
 ·rw [if_neg hl,if_neg hl]
theorem Pl3.del_ (h1:l≠p.lx) (h2:l≠p.lf) (h3:l≠p.pb):(p.put τ a).del l=p.put (τ.del l) a:=Sto.ext' rfl fun j=>by
 simp only [Pl3.put,Sto.set,Sto.del]
 by_cases hl:j=l
 ·subst hl
  rw [if_pos rfl,if_neg h1,if_neg h2,if_neg h3,if_pos rfl]
 ·rw [if_neg hl,if_neg hl]
theorem Pl3.other (h1:l≠p.lx) (h2:l≠p.lf) (h3:l≠p.pb):(p.put τ a).get l=τ.get l:=by
 simp only [Pl3.put,Sto.set];rw [if_neg h1,if_neg h2,if_neg h3]
theorem Pl3.st (h:p.Ok τ):LexSt (p.put τ a) p.lx p.lf p.pb a.x a.line :=
 ⟨by simp [Pl3.put,Sto.set],by simp [Pl3.put,Sto.set,Ne.symm h.ne],h.ne,h.np,h.nq⟩
theorem Pl3.wait (h:p.Ok τ):(p.put τ a).get p.pb=some (.list a.q):=by simp [Pl3.put,Sto.set,Ne.symm h.np,Ne.symm h.nq]
theorem Pl3.upd_ (h:p.Ok τ) {x:List Nat} {line:Int}:upd (p.put τ a) p.lx p.lf p.pb x line=p.put τ ⟨x,a.q,line⟩:=Sto.ext' rfl fun j=>by
 have h1:=h.ne;have h2:=h.np;have h3:=h.nq
 dsimp only [upd,Pl3.put,Sto.set]
 split
 ·rfl
 ·split<;>rfl
theorem Pl3.setq (h:p.Ok τ) {q:List V}:(p.put τ a).set p.pb (.list q)=p.put τ ⟨a.x,q,a.line⟩:=Sto.ext' rfl fun j=>by
 have h1:=h.ne;have h2:=h.np;have h3:=h.nq
 dsimp only [Pl3.put,Sto.set]
 by_cases hj:j=p.pb
 ·subst hj
  rw [if_pos rfl,if_neg (Ne.symm h2),if_neg (Ne.symm h3),if_pos rfl]
 ·rw [if_neg hj,if_neg hj,if_neg hj]
end
noncomputable def LS.tok (a:LS):V × LS:=match a.q with
 | v::q=>(v,⟨a.x,q,a.line⟩)
 | []=>(.str (Mine.tok a.x a.line).1,⟨(Mine.tok a.x a.line).2.1,[],(Mine.tok a.x a.line).2.2⟩)
structure Lex (C:Cx):Prop where
 G:eO C
 it:C.glob jr=some (.bf .iter)
 gt:oy C aU cN T_get_token
 pt:oy C bw fH T_push_token
section
variable {C:Cx} {k:Nat} {ρ:Loc} {p:Pl3} {τ τ1:Sto} {a:LS} {o e:Ex}
theorem oM (L:Lex C) (h:p.Ok τ) (ho:EvE C (k+4) o ρ (p.put τ a) (.loc p.lx) (p.put τ a)) (hx:a.x.length<800000) (hq:a.q.length<1000):EvE C (k+4) (.meth o aU []) ρ (p.put τ a) a.tok.1 (p.put τ a.tok.2):=by
 refine qx L.G.L L.gt ho (Pl3.st h).hl ai fun f d=>?_
 unfold LS.tok
 cases hw:a.q with
 | cons v q =>
   have:=no (C:=C) (k:=k+3) L.G d (Pl3.st (a:=a) h) (v:=v) (q:=q) (by rw [Pl3.wait h,hw]) (by rw [hw] at hq;simp at hq;exact Nat.lt_of_succ_lt hq)
   rw [Pl3.setq h] at this
   exact this
 | nil =>
   have:=so (C:=C) (k:=k) L.G L.it d (Pl3.st (a:=a) h) (by rw [Pl3.wait h,hw]) hx
   rw [Pl3.upd_ h,hw] at this
   exact this
theorem me (L:Lex C) (h:p.Ok τ) {v:V} {b:LS} (ho:EvE C (k+1) o ρ (p.put τ a) (.loc p.lx) (p.put τ a)) (he:EvL C (k+1) [e] ρ (p.put τ a) [v] (p.put τ1 b)) (h1:p.Ok τ1) (hq:b.q.length<1000):EvE C (k+1) (.meth o bw [e]) ρ (p.put τ a) .none (p.put τ1 ⟨b.x,b.q++[v],b.line⟩):=by
 refine qx L.G.L L.pt ho (Pl3.st h).hl he fun f d=>?_
 have:=BE (C:=C) (k:=k) L.G d (Pl3.st (a:=b) h1) (v:=v) (Pl3.wait h1) hq
 rw [Pl3.setq h1] at this
 exact this
theorem sL (L:Lex C) (h:p.Ok τ) (ho:EvE C k o ρ (p.put τ a) (.loc p.lx) (p.put τ a)):EvE C k (.attr o iH) ρ (p.put τ a) (.int a.line) (p.put τ a):=by
 rw [<-qj]
 exact vB L.G.L ho (Pl3.st h).hl
end
end
section
noncomputable def cnt (x:List Nat):Int:=(x.count 10:Nat)
theorem lF:cnt []=0:=rfl
theorem jL (c:Nat) (r:List Nat):cnt (c::r)=nlc c+cnt r:=by
 unfold cnt nlc
 rw [List.count_cons]
 by_cases h:c=10<;>simp [h]<;>lia -abstractProof
theorem iK (stop:Nat->Bool):∀ (n:Nat) (x:List Nat) (line:Int) (t:List Nat),x.length<=n->(bD stop x line t).2.2.1+cnt (bD stop x line t).2.1=line+cnt x
 | 0,[],line,t,_=>rfl
 | n+1,[],line,t,_=>rfl
 | n+1,c::r,line,t,hn=>by
   rw [dc,jL]
   cases stop c with
   | true=>dsimp only [cond_true];exact Int.add_assoc line (nlc c) (cnt r)
   | false =>
     simp only [cond_false]
     cases Nat.beq c 92 with
     | true =>
       simp only [cond_true]
       cases r with
       | nil=>simp only [lF];simp
       | cons d r' =>
         have:=iK stop n r' (line+nlc c+nlc d) (t++[d]) (by simp at hn;exact Nat.le_of_succ_le hn)
         simp only [jL];lia -abstractProof
     | false =>
       have:=iK stop n r (line+nlc c) (t++[c]) (by simp at hn;omega)
       simp only [cond_false];lia -abstractProof
theorem uX:∀ (x:List Nat) (line:Int),(tok x line).2.2+cnt (tok x line).2.1=line+cnt x
 | [],line=>rfl
 | c::r,line=>by
   rw [dY,jL]
   cases isW c with
   | true=>simp only [cond_true];have:=uX r (line+nlc c);lia -abstractProof
   | false =>
     simp only [cond_false]
     cases isQ c with
     | true=>simp only [cond_true];have:=iK isQ _ r (line+nlc c) [] (Nat.le_refl _);lia -abstractProof
     | false =>
       simp only [cond_false]
       cases Nat.beq c 92 with
       | true =>
         simp only [cond_true]
         cases r with
         | nil=>simp only [lF];lia -abstractProof
         | cons d r'=>have:=iK isW _ r' (line+nlc c+nlc d) [d] (Nat.le_refl _);simp only [jL];lia -abstractProof
       | false=>simp only [cond_false];have:=iK isW _ r (line+nlc c) [c] (Nat.le_refl _);lia -abstractProof
noncomputable def Tk (x w z:List Nat):Prop:=∀ line,tok x line=(w,z,line+cnt x - cnt z)
theorem Tk.of {x w z:List Nat} (h:∀ line,(tok x line).1=w/\(tok x line).2.1=z):Tk x w z:=fun line=>by
 have:=uX x line
 obtain ⟨h1,h2⟩:=h line
 rw [h2] at this
 refine Prod.ext h1 (Prod.ext h2 ?_)
 show (tok x line).2.2=line+cnt x - cnt z
 lia -abstractProof
theorem Tk.fst {x w z:List Nat} (h:Tk x w z) (line:Int):(tok x line).1=w/\(tok x line).2.1=z:=by rw [h line];exact ⟨rfl,rfl⟩
theorem Tk.white {g x w z:List Nat} (hg:∀ c∈g,isW c=true) (h:Tk x w z):Tk (g++x) w z:=Tk.of fun line=>by
 induction g generalizing line with
 | nil=>exact h.fst line
 | cons c g ih =>
   rw [List.cons_append,dY,hg c (.head _)]
   simp only [cond_true]
   exact ih (fun d hd=>hg d (.tail _ hd)) _
theorem rC {stop:Nat->Bool} {hid:List Nat} (h92:stop 92=false):∀ (w z t:List Nat) (line:Int),(∀ c∈w,(stop c=true\/c=92)->c∈hid)->∃ line',bD stop (eH hid w++z) line t=bD stop z line' (t++w):=by
 intro w
 induction w with
 | nil =>
   intro z t line _
   exact ⟨line,by simp [eH]⟩
 | cons c w ih =>
   intro z t line h
   have ih:=fun t line=>ih z t line fun d hd=>h d (.tail _ hd)
   have e:eH hid (c::w)=(if c∈hid then [92,c] else [c])++eH hid w:=by rfl
   rw [e]
   by_cases hc:c∈hid
   ·rw [if_pos hc]
    show ∃ line',bD stop (92::c::(eH hid w++z)) line t=_
    rw [dc,h92]
    obtain ⟨l',e'⟩:=ih (t++[c]) (line+nlc 92+nlc c)
    refine ⟨l',?_⟩
    show bD stop (eH hid w++z) (line+nlc 92+nlc c) (t++[c])=_
    rw [e'];simp
   ·rw [if_neg hc]
    have h1:stop c=false:=by
     cases hs:stop c with
     | true=>exact absurd (h c (.head _) (.inl hs)) hc
     | false=>rfl
    have h2:Nat.beq c 92=false:=by
     cases hs:Nat.beq c 92 with
     | true=>exact absurd (h c (.head _) (.inr (Nat.eq_of_beq_eq_true hs))) hc
     | false=>rfl
    show ∃ line',bD stop (c::(eH hid w++z)) line t=_
    rw [dc,h1,h2]
    obtain ⟨l',e'⟩:=ih (t++[c]) (line+nlc c)
    refine ⟨l',?_⟩
    show bD stop (eH hid w++z) (line+nlc c) (t++[c])=_
    rw [e'];simp
theorem isQ_iff {c:Nat}:isQ c=true↔c=34:=by unfold isQ;exact Nat.beq_eq.symm▸Iff.rfl
theorem isW_iff {c:Nat}:isW c=true↔c=10\/c=9\/c=13\/c=32:=by simp [isW,Nat.beq_eq,or_assoc]
theorem Tk.quoted {w z:List Nat} {way:Nat} (hw:way % 2=0) (hway:way<4):Tk (da w way++z) w z:=Tk.of fun line=>by
 rw [da,if_neg (by exact Iff.mpr Nat.mod_two_ne_one hw)]
 show (tok (34::(eH (cB w way) w++[34]++z)) line).1=w/\(tok (34::(eH (cB w way) w++[34]++z)) line).2.1=z
 rw [dY,show isW 34=false from rfl,show isQ 34=true from rfl]
 simp only [cond_false,cond_true,List.append_assoc]
 have hh:∀ c∈w,(isQ c=true\/c=92)->c∈cB w way:=fun c hc h=>by
  unfold cB
  by_cases h2:way > 1
  ·rw [if_pos h2];exact hc
  ·rw [if_neg h2,if_neg (by lia -abstractProof)]
   rcases h with h | h
   ·rw [isQ_iff.mp h];decide
   ·rw [h];exact List.mem_cons_self
 obtain ⟨l',e⟩:=rC (stop:=isQ) rfl w ([34]++z) [] (line+nlc 34) hh
 rw [e]
 show (bD isQ (34::z) l' ([]++w)).1=w/\(bD isQ (34::z) l' ([]++w)).2.1=z
 rw [dc,show isQ 34=true from rfl]
 exact ⟨rfl,rfl⟩
theorem Tk.bare {w z:List Nat} {g way:Nat} (hw:way % 2=1) (hway:way<4) (hg:isW g=true) (hne:w≠[]):Tk (da w way++g::z) w z:=Tk.of fun line=>by
 rw [da,if_pos hw]
 cases w with
 | nil=>exact absurd rfl hne
 | cons c w =>
   have hh:∀ d∈c::w,(isW d=true\/d=92)->d∈cB (c::w) way:=fun d hd h=>by
    unfold cB
    by_cases h2:way > 1
    ·rw [if_pos h2];exact hd
    ·rw [if_neg h2,if_pos (by lia -abstractProof)]
     rcases h with h | h
     ·rcases isW_iff.mp h with h | h | h | h<;>rw [h]<;>exact List.mem_of_elem_eq_true rfl
     ·rw [h];exact List.mem_cons_self
   have e:eH (cB (c::w) way) (c::w)=(if c∈cB (c::w) way then [92,c] else [c])++eH (cB (c::w) way) w:=by rfl
   have fin:∀ l,(bD isW (eH (cB (c::w) way) w++g::z) l [c]).1=c::w/\(bD isW (eH (cB (c::w) way) w++g::z) l [c]).2.1=z:=fun l=>by
    obtain ⟨l',e'⟩:=rC (stop:=isW) (hid:=cB (c::w) way) rfl w (g::z) [c] l fun d hd h=>hh d (.tail _ hd) h
    rw [e',dc,hg]
    exact ⟨rfl,rfl⟩
   have esc:∀ line,(tok (92::c::(eH (cB (c::w) way) w++g::z)) line).1=c::w/\(tok (92::c::(eH (cB (c::w) way) w++g::z)) line).2.1=z:=fun line=>by
    rw [dY,show isW 92=false from rfl,show isQ 92=false from rfl,show Nat.beq 92 92=true from rfl]
    exact fin _
   rw [e]
   by_cases hc:c∈cB (c::w) way
   ·rw [if_pos hc,if_neg]
    ·exact esc line
    ·rintro ⟨h1,h2⟩
     have hc34:c=34:=by simpa using h2
     rw [cB,if_neg (by grind -abstractProof),if_pos h1,hc34] at hc
     contradiction
   ·rw [if_neg hc]
    have h1:isW c=false:=by
     cases hs:isW c with
     | true=>exact absurd (hh c (.head _) (.inl hs)) hc
     | false=>rfl
    have h2:Nat.beq c 92=false:=by
     cases hs:Nat.beq c 92 with
     | true=>exact absurd (hh c (.head _) (.inr (Nat.eq_of_beq_eq_true hs))) hc
     | false=>rfl
    have hw1:way=1:=by
     rcases Nat.lt_or_ge 1 way with h | h
     ·rw [cB,if_pos h] at hc;exact absurd (.head _) hc
     ·lia -abstractProof
    by_cases h34:c=34
    ·rw [if_pos ⟨hw1,by rw [h34];rfl⟩]
     exact esc line
    ·rw [if_neg (fun q=>h34 (by simpa using q.2))]
     show (tok (c::(eH (cB (c::w) way) w++g::z)) line).1=c::w/\(tok (c::(eH (cB (c::w) way) w++g::z)) line).2.1=z
     rw [dY,h1,h2,show isQ c=false from by
      cases hs:isQ c with
      | true=>exact absurd (isQ_iff.mp hs) h34
      | false=>rfl]
     exact fin _
noncomputable def Ck (w:List Nat):Prop:=w≠[]/\∀ c∈w,isW c=false/\c≠92/\c≠34
noncomputable def ends:List (List Nat):=[[101,110,100],[34,101,110,100,34],[34,101,110,100],[101,110,100,92]]
theorem Tk.last {e:List Nat} (h:e∈ends):Tk e [101,110,100] []:=Tk.of fun line=>by
 simp only [ends,List.mem_cons,List.not_mem_nil,or_false] at h
 rcases h with rfl | rfl | rfl | rfl<;>exact ⟨rfl,rfl⟩
theorem Tk.none:Tk [] [] []:=fun line=>by
 show (([]:List Nat),([]:List Nat),line)=([],[],line+cnt [] - cnt [])
 simp only [lF];simp
noncomputable def lsN (N:Int) (x:List Nat) (q:List V):LS:=⟨x,q,N - cnt x⟩
theorem Tk.ls {x w z:List Nat} (h:Tk x w z) (N:Int):(lsN N x []).tok=(.str w,lsN N z []):=by
 delta LS.tok lsN
 simp only
 rw [h]
 exact congrArg (fun i=>(V.str w,(⟨z,[],i⟩:LS))) (by lia -abstractProof)
theorem yG (N:Int) (x:List Nat) (v:V) (q:List V):(lsN N x (v::q)).tok=(v,lsN N x q):=rfl
end
section
open PySem PyProof.Rows
set_option maxRecDepth 100000
section
variable {C:Cx} {k:Nat} {σ σ1:Sto} {ρ:Loc}
theorem dn {e:Ex} {a:Nat} (b:Nat) (hb:b≠0) (h:EvE C k e ρ σ (.int (a:Int)) σ1):EvE C k (.bin .Mod e (.cInt (b:Int))) ρ σ (.int ((a % b:Nat):Int)) σ1 :=
 EvE.eq (ak h au (gJ (by exact Iff.mpr Int.ofNat_ne_zero hb))) (congrArg V.int (ue a b))
theorem Dz {b:Nat} (hb:0<b) (h2:b<2 ^ 64):(b:Int).natAbs.log2<9000:=by
 simp only [Int.natAbs_natCast]
 exact Nat.lt_trans ((Nat.log2_lt (by exact Nat.ne_zero_of_lt hb)).mpr h2) (by simp)
theorem fL {e:Ex} {a:Nat} (b:Nat) (hb:0<b) (h2:b<2 ^ 64) (h:EvE C k e ρ σ (.int (a:Int)) σ1):EvE C k (.bin .FloorDiv e (.cInt (b:Int))) ρ σ (.int ((a / b:Nat):Int)) σ1 :=
 EvE.eq (ak h au (iW (by exact Iff.mpr Int.natCast_ne_zero_iff_pos hb) (Dz hb h2))) (congrArg V.int (uc a b))
theorem l9 {e f:Ex} {a b:Nat} {σ2:Sto} (hb:0<b) (h2:b<2 ^ 64) (h:EvE C k e ρ σ (.int (a:Int)) σ1) (hf:EvE C k f ρ σ1 (.int (b:Int)) σ2):EvE C k (.bin .FloorDiv e f) ρ σ (.int ((a / b:Nat):Int)) σ2 :=
 EvE.eq (ak h hf (iW (by lia -abstractProof) (Dz hb h2))) (congrArg V.int (uc a b))
theorem lG {b:Nat} (a:Nat) (ha:a<2 ^ 64) (hb:b<=1000000) {e:Ex} (h:EvE C k e ρ σ (.int (b:Int)) σ1):EvE C k (.bin .Pow (.cInt (a:Int)) e) ρ σ (.int ((a ^ b:Nat):Int)) σ1 :=
 EvE.eq (ak au h (yi (by simp) (by exact Nat.ToInt.of_le rfl rfl hb) (by simp only [Int.natAbs_natCast];exact ha))) (congrArg V.int (by rfl))
theorem zA {e:Ex} {a:Nat} (b:Nat) (hb:IntMulOk (a:Int) (b:Int)) (h:EvE C k e ρ σ (.int (a:Int)) σ1):EvE C k (.bin .Mult e (.cInt (b:Int))) ρ σ (.int ((a*b:Nat):Int)) σ1 :=
 EvE.eq (ak h au (iI hb)) (congrArg V.int (Int.natCast_mul a b).symm)
theorem tZ {e:Ex} {a:Nat} (b:Nat) (h:EvE C k e ρ σ (.int (a:Int)) σ1):EvT C k (.cmp e [.Eq] [.cInt (b:Int)]) ρ σ (decide (a=b)) σ1:=by
 rw [show decide (a=b)=((a:Int)==(b:Int)) from by rw [Bool.eq_iff_iff];simp;exact Iff.symm Int.ofNat_inj]
 exact aH h au tW aF
theorem jV {e:Ex} {a:Nat} (hp:pL e=true) (h:EvE C k e ρ σ (.int (a:Int)) σ1):EvT C k e ρ σ (decide (a≠0)) σ1:=by
 rw [show decide (a≠0)=((a:Int) != 0) from by rw [Bool.eq_iff_iff];simp]
 exact mj hp h
theorem Ed {vs:List V} {j:Nat} {v:V} (h:vs[j]?=some v):idx vs (j:Int)=some v:=by
 have hj:j<vs.length:=(List.getElem?_eq_some_iff.mp h).1
 unfold idx
 rw [lp (.inl ⟨by lia -abstractProof,rfl⟩) hj]
 exact h
theorem dy {e f:Ex} {vs:List V} {j:Nat} {v:V} {σ2:Sto} (he:EvE C k e ρ σ (.list vs) σ1) (hf:EvE C k f ρ σ1 (.int (j:Int)) σ2) (h:vs[j]?=some v) (hz:j<2 ^ 62):EvE C k (.sub e f) ρ σ v σ2 :=
 mf he hf d7 PySem.F.slot_list_getitem.lookup (ke (Ed h) (by simp) (by lia -abstractProof))
noncomputable def gaps:List (List Nat):=[[32],[10],[9,10],[13,10,32]]
theorem Bb {l:List (List Nat)} {i:Nat} (h:i<l.length):(a9 l)[i]?=some (.str (l.getD i [])):=by
 simp [a9,List.getD_eq_getElem?_getD,List.getElem?_eq_getElem h]
theorem kC (w:List Nat) (way:Nat):(da w way).length<=2*w.length+2:=by
 have:=qu (cB w way) w
 unfold da
 split
 ·rw [List.length_append]
  split<;>simp only [List.length_cons,List.length_nil]<;>lia -abstractProof
 ·simp;omega
end
end
section
theorem iL (stop:Nat->Bool):∀ (n:Nat) (x:List Nat) (line:Int) (t:List Nat),x.length<=n->(bD stop x line t).2.1.length<=x.length
 | 0,[],line,t,_=>Nat.le_refl _
 | n+1,[],line,t,_=>Nat.le_refl _
 | n+1,c::r,line,t,hn=>by
   rw [dc]
   cases stop c with
   | true=>dsimp only [cond_true,List.length_cons];simp
   | false =>
     simp only [cond_false]
     cases Nat.beq c 92 with
     | true =>
       simp only [cond_true]
       cases r with
       | nil=>simp
       | cons d r' =>
         have:=iL stop n r' (line+nlc c+nlc d) (t++[d]) (by simp at hn;exact Nat.le_of_succ_le hn)
         simp only [List.length_cons];lia -abstractProof
     | false =>
       have:=iL stop n r (line+nlc c) (t++[c]) (by simp at hn;omega)
       simp only [cond_false,List.length_cons];exact Nat.le_add_right_of_le this
theorem AJ:∀ (x:List Nat) (line:Int),(tok x line).2.1.length<=x.length:=by
 intro x
 induction x with
 | nil =>
   intro line
   exact Nat.le_refl _
 | cons c r ih =>
   intro line
   rw [dY]
   cases isW c with
   | true=>dsimp only [cond_true,List.length_cons];have:=ih (line+nlc c);exact Nat.le_add_right_of_le this
   | false =>
     simp only [cond_false]
     cases isQ c with
     | true=>simp only [cond_true,List.length_cons];have:=iL isQ _ r (line+nlc c) [] (Nat.le_refl _);exact Nat.le_add_right_of_le this
     | false =>
       simp only [cond_false]
       cases Nat.beq c 92 with
       | true =>
         simp only [cond_true]
         cases r with
         | nil=>simp
         | cons d r'=>have:=iL isW _ r' (line+nlc c+nlc d) [d] (Nat.le_refl _);simp only [List.length_cons];lia -abstractProof
       | false=>simp only [cond_false,List.length_cons];have:=iL isW _ r (line+nlc c) [c] (Nat.le_refl _);exact Nat.le_add_right_of_le this
theorem Tk.len {x w z:List Nat} (h:Tk x w z):z.length<=x.length:=by
 have:=AJ x 0
 rw [(h.fst 0).2] at this
 exact this
noncomputable def q7 (w:List Nat):Prop:=Ck w/\44∉w/\w.length<=100
theorem qM (sep x y:List Nat) (r:List (List Nat)):cx sep (x::y::r)=x++sep++cx sep (y::r):=rfl
end
section
open PySem PyProof.Rows
set_option maxRecDepth 100000
section
variable {C:Cx} {k:Nat} {p:Pl3} {τ:Sto}
theorem oN (L:Lex C) (h:p.Ok τ) {ρ:Loc} {o:Ex} {N:Int} {x w z:List Nat} (ho:EvE C (k+4) o ρ (p.put τ (lsN N x [])) (.loc p.lx) (p.put τ (lsN N x []))) (hx:x.length<800000) (ht:Tk x w z):EvE C (k+4) (.meth o aU []) ρ (p.put τ (lsN N x [])) (.str w) (p.put τ (lsN N z [])):=by
 have:=oM (C:=C) (k:=k) L h ho hx (by show [].length<1000;simp)
 rw [ht.ls] at this
 exact this
end
end
section
open PySem PyProof.Rows
set_option maxRecDepth 100000
noncomputable def ExE (C:Cx) (k:Nat) (ts:List St) (ρ:Loc) (σ:Sto) (f:Fl) (σ':Sto):Prop:=∃ ρ',ExL C k ts ρ σ f ρ' σ'
theorem kW {M:Model} {Γ:Ctx} {p:Pos} {t:Sem Fin} {fs:List Frame} {s s':Shared} {e:End} (h:Runs M Γ p t fs s e s'):s.toks<=s'.toks:=by
 induction h<;>(try simp only [Shared.setGen] at *)<;>lia -abstractProof
theorem pR {M:Model} {Γ:Ctx} {p:Pos} {s s':Shared} {r:Result} (h:Returns M Γ p s r s'):s.toks<=s'.toks:=kW h
theorem tD {M:Model} {Γ:Ctx} {p:Pos} {g:Nat} {r:Resume} {s s':Shared} {res:GenResult} (h:Wakes M Γ p g r s res s'):s.toks<=s'.toks:=by
 unfold Wakes at h
 split at h
 ·exact h.elim
 ·split at h
  ·obtain ⟨e₁,s₁,hr,_,_,rfl⟩:=h;exact (kW hr:(s.setGen g .running).toks<=s₁.toks)
  ·rw [h.2];exact Nat.le_refl _
  ·rw [h.2];exact Nat.le_refl _
 ·obtain ⟨e₁,s₁,hr,_,_,rfl⟩:=h;exact (kW hr:(s.setGen g .running).toks<=s₁.toks)
 ·rw [h.2];exact Nat.le_refl _
 ·rw [h.2];exact Nat.le_refl _
theorem AQ {α:Type} (M:Model) (Γ:Ctx) (n:Nat) (t:Sem α):∀ (Q:α->Pos->Shared->Prop) (E:Value->Pos->Shared->Prop) (p:Pos) (s:Shared),n<=s.toks->Sem.wp M Γ t Q E p s ->
 Sem.wp M Γ t (fun a p' s'=>n<=s'.toks/\Q a p' s') (fun e p' s'=>n<=s'.toks/\E e p' s') p s:=by
 induction t with
 | pure a=>intro Q E p s hn h;exact ⟨hn,h⟩
 | raise e=>intro Q E p s hn h;exact ⟨hn,h⟩
 | unsupported _=>intro Q E p s _ h;exact h
 | finish _=>intro Q E p s _ h;exact h
 | rule _ k ih=>intro Q E p s hn h;exact ih () Q E p s hn h
 | «at» p' k ih=>intro Q E p s hn h;exact ih () Q E p' s hn h
 | load a _ k ih=>intro Q E p s hn h;obtain ⟨o,ho,h⟩:=h;exact ⟨o,ho,ih o Q E p s hn h⟩
 | update a _ f k ih=>intro Q E p s hn h;exact ⟨h.1,ih () Q E p _ hn h.2⟩
 | loadIfAlive a k ih=>intro Q E p s hn h;exact ih _ Q E p s hn h
 | point _ k ih=>intro Q E p s hn h;exact ih () Q E p s hn h
 | register _ _=>intro Q E p s _ h;exact h
 | alloc o k ih=>intro Q E p s hn h;exact ih _ Q E p _ hn h
 | fresh k ih=>intro Q E p s hn h;exact ih _ Q E p _ (by exact Nat.le_succ_of_le hn) h
 | ask k ih=>intro Q E p s hn h;exact ih _ Q E p s hn h
 | choose src m k ih=>intro Q E p s hn h;exact ⟨h.1,ih _ Q E p _ hn h.2⟩
 | os q _ k ih=>intro Q E p s hn h;exact ih _ Q E p _ hn h
 | call c hd _ _ k ih=>intro Q E p s hn h;obtain ⟨r,s',hr,h⟩:=h;exact ⟨r,s',hr,ih r Q E p s' (Nat.le_trans hn (pR hr)) h⟩
 | handled own k ih=>intro Q E p s hn h;exact ih _ Q E p s hn h
 | genState g k ih=>intro Q E p s hn h;obtain ⟨st,hs,h⟩:=h;exact ⟨st,hs,ih _ Q E p s hn h⟩
 | newGen c k ih=>intro Q E p s hn h;exact ih _ Q E p _ hn h
 | resume g r _ k ih=>intro Q E p s hn h;obtain ⟨res,s',hw,h⟩:=h;exact ⟨res,s',hw,ih res Q E p s' (Nat.le_trans hn (tD hw)) h⟩
 | yield _ _ _ _=>intro Q E p s _ h;exact h
 | stack k ih=>intro Q E p s hn h;exact ih _ Q E p s hn h
 | fork _ _=>intro Q E p s _ h;exact h
 | thread k ih=>intro Q E p s hn h;exact ih _ Q E p s hn h
 | await _ _ _ _ _=>intro Q E p s _ h;exact h
theorem k5 {α:Type} {M:Model} {A:Around} {s:Shared} {t:Sem α} {Q:α->Shared->Prop} {E:Value->Shared->Prop}
 (h:wpAny M A t (fun a s'=>s.toks<=s'.toks->Q a s') E s):wpAny M A t Q E s :=
 fun Γ p hΓ=>Sem.wp_mono M Γ t (fun _ _ _ x=>x.2 x.1) (fun _ _ _ x=>x.2) p s (AQ M Γ s.toks t _ _ p s (Nat.le_refl _) (h Γ p hΓ))
section
variable {C:Cx} {k:Nat} {ρ ρ1:Loc} {σ σ1 σ2:Sto}
theorem DefAt.callsE {x:Nm} {ps:List Nm} {T:List St} (H:COk C) (d:DefAt C x ps T) {vs:List V} {v:V} (hx:ExE C k T (bg [] ps vs) σ (.ret v) σ1) (hl:vs.length=ps.length):Calls C (k+1) x vs σ v σ1:=let ⟨ρ',h⟩:=hx;d.calls H h hl rfl
theorem ap {t:St} {ts:List St} {f:Fl} (h1:ExS C k t ρ σ .next ρ1 σ1) (h2:ExE C k ts ρ1 σ1 f σ2):ExE C k (t::ts) ρ σ f σ2:=let ⟨ρ',h⟩:=h2;⟨ρ',aq h1 h⟩
theorem bB {e:Ex} {ts:List St} {v:V} (h1:EvE C k e ρ σ v σ1):ExE C k (.ret e::ts) ρ σ (.ret v) σ1:=⟨_,aZ (fu h1) rfl⟩
theorem cJ {t:Ex} {a:List St} {ts:List St} {f:Fl} (ht:EvT C k t ρ σ true σ) (h:ExE C k a ρ σ f σ2) (hf:jn f=true):ExE C k (.ifs t a []::ts) ρ σ f σ2:=let ⟨ρ',h⟩:=h;⟨ρ',aZ (cD ht (fun _=>h) fun q=>by cases q) hf⟩
theorem ba {t:Ex} {a:List St} {ts:List St} {f:Fl} (ht:EvT C k t ρ σ false σ) (h:ExE C k ts ρ σ f σ2):ExE C k (.ifs t a []::ts) ρ σ f σ2:=ap (cD ht (fun q=>by cases q) fun _=>aE) h
end
noncomputable def ExP (C:Cx) (k:Nat) (ts:List St) (ρ:Loc) (σ:Sto) (f:Fl) (σ':Sto):Prop :=
 ∃ ρ',∀ (n:Nat) (sc:Scope) (ts':List Stmt),mapO (bT n sc) ts'=some ts->∀ (A:Around) (env:Env) (X:Wld) (s:Shared),Room k A->Rel C env sc ρ σ X s->0<s.toks ->
   ∀ (Q:Flow->Shared->Prop) (E:Value->Shared->Prop),(∀ g X' s',Rel C env sc ρ' σ' X' s'->Evo C (Pl env) σ X s σ' X' s'->k7 C X' σ'.next s'.heap f g->Q g s')->wpAny (model C.prog C.w) A (execs ts' env) Q E s
theorem uN {t:Tok} (h:0<t):(t==0)=false:=beq_eq_false_iff_ne.mpr (Nat.ne_of_gt h)
section
variable {C:Cx} {k:Nat} {ρ ρ1:Loc} {σ σ1 σ2:Sto}
theorem qA {t:St} {ts:List St} {f:Fl} (h1:ExS C k t ρ σ .next ρ1 σ1) (h2:ExP C k ts ρ1 σ1 f σ2):ExP C k (t::ts) ρ σ f σ2:=by
 obtain ⟨ρ',h2⟩:=h2
 refine ⟨ρ',fun n sc ts h A env X s rm R tk Q E hQ=>?_⟩
 obtain ⟨t,r,rfl,e1,e2⟩:=aM h
 refine wpAny_execs_cons (k5 (h1 _ _ _ e1 A env X s rm R _ _ fun g X1 s1 R1 v1 fr htk=>?_))
 cases g<;>first
  | exact h2 _ _ _ e2 A env X1 s1 rm R1 (Nat.lt_of_lt_of_le tk htk) _ _ fun g X2 s2 R2 v2 fr2=>hQ g X2 s2 R2 (v1.trans v2) fr2
  | exact fr.elim
theorem qB {t:Ex} {a:List St} {ts:List St} {u:V} (ht:EvT C k t ρ σ true σ1) (h2:ExP C k a ρ σ1 (.ret u) σ2):ExP C k (.ifs t a []::ts) ρ σ (.ret u) σ2:=by
 obtain ⟨ρ',h2⟩:=h2
 refine ⟨ρ',fun n sc ts h A env X s rm R tk Q E hQ=>?_⟩
 obtain ⟨t,r,rfl,w1,w2⟩:=aM h
 cases stI w1
 rename_i n te ae be p e1 e2 e3
 clear w1
 refine wpAny_execs_cons (wpAny_If (k5 (ht _ _ _ e1 A env X s rm R _ _ fun X1 s1 R1 v1 htk=>?_)))
 refine h2 _ _ _ e2 A env X1 s1 rm R1 (Nat.lt_of_lt_of_le tk htk) _ _ fun g X2 s2 R2 v2 fr=>?_
 cases g<;>first
  | exact hQ _ X2 s2 R2 (v1.trans v2) fr
  | exact fr.elim
theorem ub {x:UInt64} {l:List Ex} {vs:List V} {ts:List St} (h:EvL C k l ρ σ vs σ1) (hl:vs.length+1<=sizeLine):ExP C k (.ret (.tup (.cFlt x::l))::ts) ρ σ (.ret (.tup (.flu x::vs))) σ1:=by
 refine ⟨ρ,fun n sc ts h' A env X s rm R tk Q E hQ=>?_⟩
 obtain ⟨t,r,rfl,w1,w2⟩:=aM h'
 cases stI w1
 rename_i n e p w3
 refine wpAny_execs_cons (wpAny_Return_some ?_)
 cases erI w3
 rename_i n es kk p w4
 obtain ⟨e,r,rfl,e1,e2⟩:=aM w4
 refine Tuple_ ?_
 refine wpAny_items_cons ?_ (cT e1 r env)
 cases erI e1
 obtain ⟨R1,v1⟩:=R.grown (Grow.toks (s.toks+1))
 refine (wpAny_mkFloat ?_:wpAny (model C.prog C.w) A (mkFloat x) _ E s)
 refine h _ _ _ e2 A env X _ _ rm R1 _ _ fun ys X2 s2 R2 v2 r2=>?_
 have q:VsRel C X2 σ1.next s2.heap (.flu x::vs) (.float x s.toks::ys):=.cons ⟨_,uN tk,rfl⟩ r2
 exact R2.S.newTuple q (by simpa using hl) fun a X3 s3 S3 v3 r3=>hQ _ X3 s3 (R2.evo0 S3 v3) ((v1.trans v2).trans v3.of0) r3
theorem qy {x a b:Nm} {p q:UInt64} {ts:List St} {f:Fl} (ga:get ρ a=some (.flt p)) (gb:get ρ b=some (.flt q)) (h2:ExP C k ts (put ρ x (.flt (Float64.sub p q))) σ f σ2):ExE C k (.assign [x] false (.bin .Sub (.var a) (.var b))::ts) ρ σ f σ2:=by
 obtain ⟨ρ',h2⟩:=h2
 refine ⟨ρ',fun n sc ts h A env X s rm R Q E hQ=>?_⟩
 obtain ⟨t,r,rfl,w1,e2⟩:=aM h
 cases stI w1
 rename_i n t ve pp hsw hnc ht hk w3
 rcases fK ht with ⟨xx,px,y,rfl,h2',eq⟩ | ⟨elts,kk,pt,_,_,hl2⟩
 ·cases eq
  obtain ⟨x',p',qq,hbn,ho,rfl⟩:=dF h2'
  cases qq
  have hnc':noComp ve=true:=by exact hnc
  refine wpAny_execs_cons (wpAny_Assign_Name ?_ (m8 hnc' _ _ _))
  cases erI w3
  rename_i n l r p e1 e3
  refine wpAny_BinOp ((aa ga) _ _ _ e1 A env X s rm R _ _ fun x X1 s1 R1 v1 r1=>(aa gb) _ _ _ e3 A env X1 s1 rm R1 _ _ fun y X2 s2 R2 v2 r2=>?_)
  obtain ⟨t,rfl⟩:=r1
  obtain ⟨u,rfl⟩:=r2
  refine AutoFloatOps.sub_0 ?_
  obtain ⟨R3,v3⟩:=R2.grown (Grow.toks (s2.toks+1))
  refine k5 (fR R3 ho (v:=.flt _) ⟨_,rfl⟩ fun X4 s4 R4 v4 htk=>?_)
  exact h2 _ _ _ e2 A env X4 s4 rm R4 (Nat.lt_of_lt_of_le (Nat.succ_pos _) htk) _ _ fun g X5 s5 R5 v5 fr=>hQ g X5 s5 R5 ((((v1.trans v2).trans v3).trans v4).trans v5) fr
 ·exact absurd hl2 (Nat.not_succ_le_self 1)
theorem zD {e:Ex} {y c:UInt64} (h:EvE C k e ρ σ (.flt y) σ1) (hc:Float64.isZero c=false):EvE C k (.bin .Mod e (.cFlt c)) ρ σ (.flu (Float64.divmod y c).2) σ1:=by
 intro n sc e' h' A env X s rm R Q E hQ
 cases erI h'
 rename_i n l r p e1 e2
 refine wpAny_BinOp (h _ _ _ e1 A env X s rm R _ _ fun x X1 s1 R1 v1 r1=>?_)
 obtain ⟨t,rfl⟩:=r1
 cases erI e2
 obtain ⟨R2,v2⟩:=R1.grown (Grow.toks (s1.toks+1))
 refine (wpAny_mkFloat ?_:wpAny (model C.prog C.w) A (mkFloat c) _ E s1)
 obtain ⟨R3,v3⟩:=R2.grown (Grow.toks (s1.toks+1+1))
 exact AutoFloatOps.mod_1 (by simp [hc]) (hQ _ X1 _ R3 ((v1.trans v2).trans v3) ⟨_,uN (Nat.succ_pos _),rfl⟩)
theorem FnOk.weak {f:Value} {vs:List V} {v v':V} (h:FnOk C k f vs σ v σ1) (hw:∀ X n h a,VRel C X n h v a->VRel C X n h v' a):FnOk C k f vs σ v' σ1:=fun A X s as rm S r Q E hQ=>h A X s as rm S r Q E fun a X' s' S' e' r'=>hQ a X' s' S' e' (hw _ _ _ _ r')
theorem Calls.weak3 {x:Nm} {vs:List V} {z:UInt64} {u w:V} (h:Calls C k x vs σ (.tup [.flu z,u,w]) σ1):Calls C k x vs σ (.tup [.flt z,u,w]) σ1:=by
 obtain ⟨a,h1,h2,h3⟩:=h.ex
 refine ⟨a,h1,h2,h3.weak fun X n h a r=>?_⟩
 obtain ⟨p,its,kk,e1,e2,e3,y,r,e4,⟨t,_,e5⟩,q⟩:=r
 exact ⟨p,its,kk,e1,e2,e3,y,r,e4,⟨t,e5⟩,q⟩
end
end
section
open PySem PyProof.Rows
set_option maxRecDepth 100000
section
variable {C:Cx} {k:Nat} {ρ ρ1:Loc} {σ σ1 σ2:Sto}
noncomputable abbrev feq (x y:UInt64):Bool:=Float64.cmp x y==some .eq
noncomputable abbrev ly (x y:UInt64):Bool:=Float64.cmp x y==some .lt
noncomputable abbrev F1:UInt64:=4607182418800017408
noncomputable abbrev F2:UInt64:=4611686018427387904
noncomputable abbrev F4:UInt64:=4616189618054758400
noncomputable abbrev F6:UInt64:=4618441417868443648
noncomputable abbrev Fh:UInt64:=4602678819172646912
noncomputable abbrev F13:UInt64:=4599676419421066581
noncomputable abbrev F16:UInt64:=4595172819793696085
noncomputable abbrev F23:UInt64:=4604180019048437077
noncomputable def mxF (r g b:UInt64):UInt64:=oT (oT r g) b
noncomputable def mnF (r g b:UInt64):UInt64:=oU (oU r g) b
noncomputable def eZ (a r rg:UInt64):UInt64:=Float64.div (Float64.sub a r) rg
noncomputable def sZ (r g b mx rg:UInt64):UInt64 :=
 bif feq r mx then Float64.sub (eZ mx b rg) (eZ mx g rg) else bif feq g mx then Float64.sub (Float64.add F2 (eZ mx r rg)) (eZ mx b rg) else Float64.sub (Float64.add F4 (eZ mx g rg)) (eZ mx r rg)
noncomputable def dh (x:UInt64):UInt64:=(Float64.divmod x F1).2
noncomputable def hueF (r g b mx rg:UInt64):UInt64:=dh (Float64.div (sZ r g b mx rg) F6)
structure hC (C:Cx):Prop where
 H:COk C
 B:Bi C
 third:C.glob gG=some (.flt F13)
 sixth:C.glob gF=some (.flt F16)
 two:C.glob fc=some (.flt F23)
 v:DefAt C vW P_v T_v
 hsv:DefAt C bS jG T_rgb_to_hsv
 hls:DefAt C bR jF T_rgb_to_hls
 rgbv:DefAt C dJ jE T_hsv_to_rgb
 rgbl:DefAt C dI jD T_hls_to_rgb
theorem z1:Float64.isZero F1=false:=by decide +kernel
theorem z2:Float64.isZero F2=false:=by decide +kernel
theorem z6:Float64.isZero F6=false:=by decide +kernel
theorem ni (K:hC C) {r g b:UInt64} (h:feq (mnF r g b) (mxF r g b)=true):Calls C (k+1) bS [.flt r,.flt g,.flt b] σ (.tup [.flu 0,.flt 0,.flt (mxF r g b)]) σ:=by
 have H:=K.H;have B:=K.B
 refine K.hsv.callsE K.H ?_ rfl
 unfold T_rgb_to_hsv
 refine ap (aj (aC H B.max (ah (aa rfl) (ah (aa rfl) (ah (aa rfl) ai))) lJ) rfl fun _=>rfl) ?_
 refine ap (aj (aC H B.min (ah (aa rfl) (ah (aa rfl) (ah (aa rfl) ai))) lK) rfl fun _=>rfl) ?_
 refine qy rfl rfl ?_
 refine qA (aj (aa rfl) rfl fun _=>rfl) ?_
 exact qB (by rw [<-h];exact aH (aa rfl) (aa rfl) gL aF) (ub (ah bU (ah (aa rfl) ai)) (szl rfl))
theorem sr (K:hC C) {r g b:UInt64} (h:feq (mnF r g b) (mxF r g b)=true):Calls C (k+1) bS [.flt r,.flt g,.flt b] σ (.tup [.flt 0,.flt 0,.flt (mxF r g b)]) σ:=(ni K h).weak3
theorem xO {r g b mx rg:UInt64} (hr:get ρ n_r=some (.flt r)) (hg:get ρ n_g=some (.flt g)) (hm:get ρ bW=some (.flt mx)) (h1:get ρ mG=some (.flt (eZ mx r rg))) (h2:get ρ mD=some (.flt (eZ mx g rg))) (h3:get ρ mB=some (.flt (eZ mx b rg))) :
 ExS C k (.ifs (.cmp (.var n_r) [.Eq] [(.var bW)]) [.assign [n_h] false (.bin .Sub (.var mB) (.var mD))] [.ifs (.cmp (.var n_g) [.Eq] [(.var bW)]) [.assign [n_h] false (.bin .Sub (.bin .Add (.cFlt 4611686018427387904) (.var mG)) (.var mB))] [.assign [n_h] false (.bin .Sub (.bin .Add (.cFlt 4616189618054758400) (.var mD)) (.var mG))]])
  ρ σ .next (put ρ n_h (.flt (sZ r g b mx rg))) σ:=by
 refine cD (c:=feq r mx) (aH (aa hr) (aa hm) gL aF) (fun h=>?_) (fun h=>?_)
 ·rw [sZ,h]
  simp only [cond_true]
  exact aq (aj (ak (aa h3) (aa h2) bE) rfl fun _=>rfl) aE
 ·rw [sZ,h]
  simp only [cond_false]
  refine aq (cD (c:=feq g mx) (aH (aa hg) (aa hm) gL aF) (fun h=>?_) (fun h=>?_)) aE
  ·rw [h]
   simp only [cond_true]
   exact aq (aj (ak (ak bU (aa h1) eV) (aa h3) bE) rfl fun _=>rfl) aE
  ·rw [h]
   simp only [cond_false]
   exact aq (aj (ak (ak bU (aa h2) eV) (aa h1) bE) rfl fun _=>rfl) aE
theorem ut {r g b mx rg:UInt64} (hh:get ρ n_h=some (.flt (sZ r g b mx rg))):ExS C k (.assign [n_h] false (.bin .Mod (.bin .Div (.var n_h) (.cFlt 4618441417868443648)) (.cFlt 4607182418800017408))) ρ σ .next (put ρ n_h (.flu (hueF r g b mx rg))) σ :=
 aj (EvE.eq (v':=.flu (hueF r g b mx rg)) (zD (ak (aa hh) bU (d5 z6)) z1) (congrArg V.flu (by rfl))) rfl fun _=>rfl
theorem oo (K:hC C) {r g b:UInt64} (h:feq (mnF r g b) (mxF r g b)=false) (hm:Float64.isZero (mxF r g b)=false) (hr:Float64.isZero (Float64.sub (mxF r g b) (mnF r g b))=false) :
 Calls C (k+1) bS [.flt r,.flt g,.flt b] σ (.tup [.flu (hueF r g b (mxF r g b) (Float64.sub (mxF r g b) (mnF r g b))),.flt (Float64.div (Float64.sub (mxF r g b) (mnF r g b)) (mxF r g b)),.flt (mxF r g b)]) σ:=by
 have H:=K.H;have B:=K.B
 refine K.hsv.callsE K.H ?_ rfl
 unfold T_rgb_to_hsv
 refine ap (aj (aC H B.max (ah (aa rfl) (ah (aa rfl) (ah (aa rfl) ai))) lJ) rfl fun _=>rfl) ?_
 refine ap (aj (aC H B.min (ah (aa rfl) (ah (aa rfl) (ah (aa rfl) ai))) lK) rfl fun _=>rfl) ?_
 refine ap (aj (ak (aa rfl) (aa rfl) bE) rfl fun _=>rfl) ?_
 refine ap (aj (aa rfl) rfl fun _=>rfl) ?_
 refine ba (by rw [<-h];exact aH (aa rfl) (aa rfl) gL aF) ?_
 refine ap (aj (ak (aa rfl) (aa rfl) (d5 hm)) rfl fun _=>rfl) ?_
 refine ap (aj (ak (ak (aa rfl) (aa rfl) bE) (aa rfl) (d5 hr)) rfl fun _=>rfl) ?_
 refine ap (aj (ak (ak (aa rfl) (aa rfl) bE) (aa rfl) (d5 hr)) rfl fun _=>rfl) ?_
 refine ap (aj (ak (ak (aa rfl) (aa rfl) bE) (aa rfl) (d5 hr)) rfl fun _=>rfl) ?_
 show ExE C k _ [(n_r,.flt (r)),(n_g,.flt (g)),(n_b,.flt (b)),(bW,.flt (mxF r g b)),(f5,.flt (mnF r g b)),(cH,.flt (Float64.sub (mxF r g b) (mnF r g b))),(n_v,.flt (mxF r g b)),(n_s,.flt (Float64.div (Float64.sub (mxF r g b) (mnF r g b)) (mxF r g b))),(mG,.flt (eZ (mxF r g b) r (Float64.sub (mxF r g b) (mnF r g b)))),(mD,.flt (eZ (mxF r g b) g (Float64.sub (mxF r g b) (mnF r g b)))),(mB,.flt (eZ (mxF r g b) b (Float64.sub (mxF r g b) (mnF r g b))))] σ _ σ
 refine ap (xO (r:=r) (g:=g) (b:=b) (mx:=mxF r g b) (rg:=Float64.sub (mxF r g b) (mnF r g b)) rfl rfl rfl rfl rfl rfl) ?_
 refine ap (ut (r:=r) (g:=g) (b:=b) (mx:=mxF r g b) (rg:=Float64.sub (mxF r g b) (mnF r g b)) rfl) ?_
 exact bB (ib (ah (aa rfl) (ah (aa rfl) (ah (aa rfl) ai))) (szl rfl))
theorem vj (K:hC C) {r g b:UInt64} (h:feq (mnF r g b) (mxF r g b)=false) (hm:Float64.isZero (mxF r g b)=false) (hr:Float64.isZero (Float64.sub (mxF r g b) (mnF r g b))=false) :
 Calls C (k+1) bS [.flt r,.flt g,.flt b] σ (.tup [.flt (hueF r g b (mxF r g b) (Float64.sub (mxF r g b) (mnF r g b))),.flt (Float64.div (Float64.sub (mxF r g b) (mnF r g b)) (mxF r g b)),.flt (mxF r g b)]) σ:=(oo K h hm hr).weak3
noncomputable def de (r g b:UInt64):UInt64:=Float64.div (Float64.add (mxF r g b) (mnF r g b)) F2
noncomputable def jz (r g b:UInt64):UInt64:=bif fle (de r g b) Fh then Float64.div (Float64.sub (mxF r g b) (mnF r g b)) (Float64.add (mxF r g b) (mnF r g b)) else Float64.div (Float64.sub (mxF r g b) (mnF r g b)) (Float64.sub (Float64.sub F2 (mxF r g b)) (mnF r g b))
theorem nh (K:hC C) {r g b:UInt64} (h:feq (mnF r g b) (mxF r g b)=true):Calls C (k+1) bR [.flt r,.flt g,.flt b] σ (.tup [.flu 0,.flt (de r g b),.flt 0]) σ:=by
 have H:=K.H;have B:=K.B
 have z2:=z2
 refine K.hls.callsE K.H ?_ rfl
 unfold T_rgb_to_hls
 refine ap (aj (aC H B.max (ah (aa rfl) (ah (aa rfl) (ah (aa rfl) ai))) lJ) rfl fun _=>rfl) ?_
 refine ap (aj (aC H B.min (ah (aa rfl) (ah (aa rfl) (ah (aa rfl) ai))) lK) rfl fun _=>rfl) ?_
 refine ap (aj (ak (aa rfl) (aa rfl) eV) rfl fun _=>rfl) ?_
 refine qy rfl rfl ?_
 refine qA (aj (ak (aa rfl) bU (d5 z2)) rfl fun _=>rfl) ?_
 exact qB (by rw [<-h];exact aH (aa rfl) (aa rfl) gL aF) (ub (ah (aa rfl) (ah bU ai)) (szl rfl))
theorem sq (K:hC C) {r g b:UInt64} (h:feq (mnF r g b) (mxF r g b)=true):Calls C (k+1) bR [.flt r,.flt g,.flt b] σ (.tup [.flt 0,.flt (de r g b),.flt 0]) σ:=(nh K h).weak3
theorem on (K:hC C) {r g b:UInt64} (h:feq (mnF r g b) (mxF r g b)=false) (hs:fle (de r g b) Fh=true->Float64.isZero (Float64.add (mxF r g b) (mnF r g b))=false) (hs2:fle (de r g b) Fh=false->Float64.isZero (Float64.sub (Float64.sub F2 (mxF r g b)) (mnF r g b))=false)
 (hr:Float64.isZero (Float64.sub (mxF r g b) (mnF r g b))=false) :
 Calls C (k+1) bR [.flt r,.flt g,.flt b] σ (.tup [.flu (hueF r g b (mxF r g b) (Float64.sub (mxF r g b) (mnF r g b))),.flt (de r g b),.flt (jz r g b)]) σ:=by
 have H:=K.H;have B:=K.B
 have z2:=z2
 refine K.hls.callsE K.H ?_ rfl
 unfold T_rgb_to_hls
 refine ap (aj (aC H B.max (ah (aa rfl) (ah (aa rfl) (ah (aa rfl) ai))) lJ) rfl fun _=>rfl) ?_
 refine ap (aj (aC H B.min (ah (aa rfl) (ah (aa rfl) (ah (aa rfl) ai))) lK) rfl fun _=>rfl) ?_
 refine ap (aj (ak (aa rfl) (aa rfl) eV) rfl fun _=>rfl) ?_
 refine ap (aj (ak (aa rfl) (aa rfl) bE) rfl fun _=>rfl) ?_
 refine ap (aj (ak (aa rfl) bU (d5 z2)) rfl fun _=>rfl) ?_
 refine ba (by rw [<-h];exact aH (aa rfl) (aa rfl) gL aF) ?_
 refine ap (ρ1:=[(n_r,.flt r),(n_g,.flt g),(n_b,.flt b),(bW,.flt (mxF r g b)),(f5,.flt (mnF r g b)),(mJ,.flt (Float64.add (mxF r g b) (mnF r g b))),(cH,.flt (Float64.sub (mxF r g b) (mnF r g b))),(n_l,.flt (de r g b)),(n_s,.flt (jz r g b))]) (σ1:=σ)
  (cD (c:=fle (de r g b) Fh) (aH (aa rfl) bU xw aF) (fun h=>?_) (fun h=>?_)) ?_
 ·rw [jz,h]
  simp only [cond_true]
  exact aq (aj (ak (aa rfl) (aa rfl) (d5 (hs h))) rfl fun _=>rfl) aE
 ·rw [jz,h]
  simp only [cond_false]
  exact aq (aj (ak (aa rfl) (ak (ak bU (aa rfl) bE) (aa rfl) bE) (d5 (hs2 h))) rfl fun _=>rfl) aE
 refine ap (aj (ak (ak (aa rfl) (aa rfl) bE) (aa rfl) (d5 hr)) rfl fun _=>rfl) ?_
 refine ap (aj (ak (ak (aa rfl) (aa rfl) bE) (aa rfl) (d5 hr)) rfl fun _=>rfl) ?_
 refine ap (aj (ak (ak (aa rfl) (aa rfl) bE) (aa rfl) (d5 hr)) rfl fun _=>rfl) ?_
 show ExE C k _ [(n_r,.flt (r)),(n_g,.flt (g)),(n_b,.flt (b)),(bW,.flt (mxF r g b)),(f5,.flt (mnF r g b)),(mJ,.flt (Float64.add (mxF r g b) (mnF r g b))),(cH,.flt (Float64.sub (mxF r g b) (mnF r g b))),(n_l,.flt (de r g b)),(n_s,.flt (jz r g b)),(mG,.flt (eZ (mxF r g b) r (Float64.sub (mxF r g b) (mnF r g b)))),(mD,.flt (eZ (mxF r g b) g (Float64.sub (mxF r g b) (mnF r g b)))),(mB,.flt (eZ (mxF r g b) b (Float64.sub (mxF r g b) (mnF r g b))))] σ _ σ
 refine ap (xO (r:=r) (g:=g) (b:=b) (mx:=mxF r g b) (rg:=Float64.sub (mxF r g b) (mnF r g b)) rfl rfl rfl rfl rfl rfl) ?_
 refine ap (ut (r:=r) (g:=g) (b:=b) (mx:=mxF r g b) (rg:=Float64.sub (mxF r g b) (mnF r g b)) rfl) ?_
 exact bB (ib (ah (aa rfl) (ah (aa rfl) (ah (aa rfl) ai))) (szl rfl))
theorem vh (K:hC C) {r g b:UInt64} (h:feq (mnF r g b) (mxF r g b)=false) (hs:fle (de r g b) Fh=true->Float64.isZero (Float64.add (mxF r g b) (mnF r g b))=false) (hs2:fle (de r g b) Fh=false->Float64.isZero (Float64.sub (Float64.sub F2 (mxF r g b)) (mnF r g b))=false)
 (hr:Float64.isZero (Float64.sub (mxF r g b) (mnF r g b))=false) :
 Calls C (k+1) bR [.flt r,.flt g,.flt b] σ (.tup [.flt (hueF r g b (mxF r g b) (Float64.sub (mxF r g b) (mnF r g b))),.flt (de r g b),.flt (jz r g b)]) σ:=(on K h hs hs2 hr).weak3
noncomputable def vF (m1 m2 hue:UInt64):UInt64 :=
 bif ly (dh hue) F16 then Float64.add m1 (Float64.mul (Float64.mul (Float64.sub m2 m1) (dh hue)) F6) else bif ly (dh hue) Fh then m2 else
 bif ly (dh hue) F23 then Float64.add m1 (Float64.mul (Float64.mul (Float64.sub m2 m1) (Float64.sub F23 (dh hue))) F6) else m1
theorem c_v (K:hC C) {m1 m2 hue:UInt64}:Calls C (k+1) vW [.flt m1,.flt m2,.flt hue] σ (.flt (vF m1 m2 hue)) σ:=by
 have H:=K.H;have B:=K.B
 refine K.v.callsE K.H ?_ rfl
 delta T_v vF
 refine ap (ρ1:=[(ju,.flt m1),(i5,.flt m2),(cc,.flt (dh hue))]) (σ1:=σ) (aj (ak (aa rfl) bU (zX z1)) rfl fun _=>rfl) ?_
 have T1:EvT C k (.cmp (.var cc) [.Lt] [(.glob gF)]) [(ju,.flt m1),(i5,.flt m2),(cc,.flt (dh hue))] σ (ly (dh hue) F16) σ:=aH (aa rfl) (et H K.sixth) sM aF
 have T2:EvT C k (.cmp (.var cc) [.Lt] [(.cFlt 4602678819172646912)]) [(ju,.flt m1),(i5,.flt m2),(cc,.flt (dh hue))] σ (ly (dh hue) Fh) σ:=aH (aa rfl) bU sM aF
 have T3:EvT C k (.cmp (.var cc) [.Lt] [(.glob fc)]) [(ju,.flt m1),(i5,.flt m2),(cc,.flt (dh hue))] σ (ly (dh hue) F23) σ:=aH (aa rfl) (et H K.two) sM aF
 cases h1:ly (dh hue) F16 with
 | true =>
   rw [h1] at T1
   exact cJ T1 (bB (ak (aa rfl) (ak (ak (ak (aa rfl) (aa rfl) bE) (aa rfl) dt) bU dt) eV)) rfl
 | false =>
   rw [h1] at T1
   refine ba T1 ?_
   cases h2:ly (dh hue) Fh with
   | true=>rw [h2] at T2;exact cJ T2 (bB (aa rfl)) rfl
   | false =>
     rw [h2] at T2
     refine ba T2 ?_
     cases h3:ly (dh hue) F23 with
     | true =>
       rw [h3] at T3
       exact cJ T3 (bB (ak (aa rfl) (ak (ak (ak (aa rfl) (aa rfl) bE) (ak (et H K.two) (aa rfl) bE) dt) bU dt) eV)) rfl
     | false=>rw [h3] at T3;exact ba T3 (bB (aa rfl))
noncomputable def m2F (l s:UInt64):UInt64:=bif fle l Fh then Float64.mul l (Float64.add F1 s) else Float64.sub (Float64.add l s) (Float64.mul l s)
noncomputable def m1F (l s:UInt64):UInt64:=Float64.sub (Float64.mul F2 l) (m2F l s)
theorem qf (K:hC C) {h l s:UInt64} (hs:feq s 0=true):Calls C (k+2) dI [.flt h,.flt l,.flt s] σ (.tup [.flt l,.flt l,.flt l]) σ:=by
 refine K.rgbl.callsE K.H ?_ rfl
 unfold T_hls_to_rgb
 exact cJ (by rw [<-hs];exact aH (aa rfl) bU gL aF) (bB (ib (ah (aa rfl) (ah (aa rfl) (ah (aa rfl) ai))) (szl rfl))) rfl
theorem su (K:hC C) {h l s:UInt64} (hs:feq s 0=false):Calls C (k+2) dI [.flt h,.flt l,.flt s] σ
 (.tup [.flt (vF (m1F l s) (m2F l s) (Float64.add h F13)),.flt (vF (m1F l s) (m2F l s) h),.flt (vF (m1F l s) (m2F l s) (Float64.sub h F13))]) σ:=by
 have H:=K.H
 refine K.rgbl.callsE K.H ?_ rfl
 unfold T_hls_to_rgb
 refine ba (by rw [<-hs];exact aH (aa rfl) bU gL aF) ?_
 refine ap (ρ1:=[(n_h,.flt h),(n_l,.flt l),(n_s,.flt s),(i5,.flt (m2F l s))]) (σ1:=σ) (cD (c:=fle l Fh) (aH (aa rfl) bU xw aF) (fun h=>?_) (fun h=>?_)) ?_
 ·rw [m2F,h]
  simp only [cond_true]
  exact aq (aj (ak (aa rfl) (ak bU (aa rfl) eV) dt) rfl fun _=>rfl) aE
 ·rw [m2F,h]
  simp only [cond_false]
  exact aq (aj (ak (ak (aa rfl) (aa rfl) eV) (ak (aa rfl) (aa rfl) dt) bE) rfl fun _=>rfl) aE
 refine ap (ρ1:=[(n_h,.flt h),(n_l,.flt l),(n_s,.flt s),(i5,.flt (m2F l s)),(ju,.flt (m1F l s))]) (σ1:=σ) (aj (ak (ak bU (aa rfl) dt) (aa rfl) bE) rfl fun _=>rfl) ?_
 exact bB (ib (ah (aK H (ah (aa rfl) (ah (aa rfl) (ah (ak (aa rfl) (et H K.third) eV) ai))) (c_v (k:=k) K)) (ah (aK H (ah (aa rfl) (ah (aa rfl) (ah (aa rfl) ai))) (c_v (k:=k) K))
  (ah (aK H (ah (aa rfl) (ah (aa rfl) (ah (ak (aa rfl) (et H K.third) bE) ai))) (c_v (k:=k) K)) ai))) (szl rfl))
noncomputable def jY (x:UInt64):Int:=match Float64.decode x with
 | .fin s m e=>Float64.truncOf s m e
 | _=>0
theorem oV {x:UInt64} (h:Float64.isFinite x=true):FnOk C k (.type "int") [.flt x] σ (.int (jY x)) σ:=by
 unfold jY
 unfold Float64.isFinite at h
 cases hd:Float64.decode x with
 | fin s m e=>exact BT hd
 | nan=>rw [hd] at h;cases h
 | inf s=>rw [hd] at h;cases h
noncomputable def di (h:UInt64):Int:=jY (Float64.mul h F6)
noncomputable def fF (h:UInt64):UInt64:=Float64.sub (Float64.mul h F6) (Float64.ofInt (di h))
noncomputable def pF (s v:UInt64):UInt64:=Float64.mul v (Float64.sub F1 s)
noncomputable def qF (h s v:UInt64):UInt64:=Float64.mul v (Float64.sub F1 (Float64.mul s (fF h)))
noncomputable def tF (h s v:UInt64):UInt64:=Float64.mul v (Float64.sub F1 (Float64.mul s (Float64.sub F1 (fF h))))
noncomputable def rB (h s v:UInt64):List UInt64 :=
 match (di h).fmod 6 with
 | 0=>[v,tF h s v,pF s v]
 | 1=>[qF h s v,v,pF s v]
 | 2=>[pF s v,v,tF h s v]
 | 3=>[pF s v,qF h s v,v]
 | 4=>[tF h s v,pF s v,v]
 | 5=>[v,pF s v,qF h s v]
 | _=>[]
theorem qh (K:hC C) {h s v:UInt64} (hs:feq s 0=true):Calls C (k+1) dJ [.flt h,.flt s,.flt v] σ (.tup [.flt v,.flt v,.flt v]) σ:=by
 refine K.rgbv.callsE K.H ?_ rfl
 unfold T_hsv_to_rgb
 exact cJ (by rw [<-hs];exact aH (aa rfl) bU gL aF) (bB (ib (ah (aa rfl) (ah (aa rfl) (ah (aa rfl) ai))) (szl rfl))) rfl
theorem sv (K:hC C) {h s v:UInt64} (hs:feq s 0=false) (hf:Float64.isFinite (Float64.mul h F6)=true) (hi:(di h).natAbs<2 ^ 1023):Calls C (k+1) dJ [.flt h,.flt s,.flt v] σ (.tup ((rB h s v).map .flt)) σ:=by
 have H:=K.H;have B:=K.B
 refine K.rgbv.callsE K.H ?_ rfl
 unfold T_hsv_to_rgb
 refine ba (by rw [<-hs];exact aH (aa rfl) bU gL aF) ?_
 refine ap (ρ1:=[(n_h,.flt h),(n_s,.flt s),(n_v,.flt v),(n_i,.int (di h))]) (σ1:=σ) (aj (aC H B.int (ah (ak (aa rfl) bU dt) ai) (oV hf)) rfl fun _=>rfl) ?_
 refine ap (ρ1:=[(n_h,.flt h),(n_s,.flt s),(n_v,.flt v),(n_i,.int (di h)),(n_f,.flt (fF h))]) (σ1:=σ) (aj (ak (ak (aa rfl) bU dt) (aa rfl) (xF hi)) rfl fun _=>rfl) ?_
 refine ap (aj (ak (aa rfl) (ak bU (aa rfl) bE) dt) rfl fun _=>rfl) ?_
 refine ap (aj (ak (aa rfl) (ak bU (ak (aa rfl) (aa rfl) dt) bE) dt) rfl fun _=>rfl) ?_
 refine ap (aj (ak (aa rfl) (ak bU (ak (aa rfl) (ak bU (aa rfl) bE) dt) bE) dt) rfl fun _=>rfl) ?_
 refine ap (ρ1:=[(n_h,.flt h),(n_s,.flt s),(n_v,.flt v),(n_i,.int ((di h).fmod 6)),(n_f,.flt (fF h)),(n_p,.flt (pF s v)),(n_q,.flt (qF h s v)),(n_t,.flt (tF h s v))]) (σ1:=σ) (aj (ak (aa rfl) au (gJ (by decide))) rfl fun _=>rfl) ?_
 have T:∀ j:Int,EvT C k (.cmp (.var n_i) [.Eq] [(.cInt j)]) [(n_h,.flt h),(n_s,.flt s),(n_v,.flt v),(n_i,.int ((di h).fmod 6)),(n_f,.flt (fF h)),(n_p,.flt (pF s v)),(n_q,.flt (qF h s v)),(n_t,.flt (tF h s v))] σ ((di h).fmod 6==j) σ:=fun j=>aH (aa rfl) au tW aF
 have R:∀ (a b c:Nm) (x y z:UInt64) (ts:List St),get [(n_h,.flt h),(n_s,.flt s),(n_v,.flt v),(n_i,.int ((di h).fmod 6)),(n_f,.flt (fF h)),(n_p,.flt (pF s v)),(n_q,.flt (qF h s v)),(n_t,.flt (tF h s v))] a=some (.flt x) ->
  get [(n_h,.flt h),(n_s,.flt s),(n_v,.flt v),(n_i,.int ((di h).fmod 6)),(n_f,.flt (fF h)),(n_p,.flt (pF s v)),(n_q,.flt (qF h s v)),(n_t,.flt (tF h s v))] b=some (.flt y)->get [(n_h,.flt h),(n_s,.flt s),(n_v,.flt v),(n_i,.int ((di h).fmod 6)),(n_f,.flt (fF h)),(n_p,.flt (pF s v)),(n_q,.flt (qF h s v)),(n_t,.flt (tF h s v))] c=some (.flt z) ->
  ExE C k (.ret (.tup [.var a,.var b,.var c])::ts) [(n_h,.flt h),(n_s,.flt s),(n_v,.flt v),(n_i,.int ((di h).fmod 6)),(n_f,.flt (fF h)),(n_p,.flt (pF s v)),(n_q,.flt (qF h s v)),(n_t,.flt (tF h s v))] σ (.ret (.tup [.flt x,.flt y,.flt z])) σ:=fun a b c x y z ts h1 h2 h3 =>
  bB (ib (ah (aa h1) (ah (aa h2) (ah (aa h3) ai))) (szl rfl))
 have lo:0<=(di h).fmod 6:=Int.fmod_nonneg_of_pos _ (by simp)
 have hi6:(di h).fmod 6<6:=Int.fmod_lt_of_pos _ (by simp)
 unfold rB
 generalize (di h).fmod 6=m at T R lo hi6
 have:m=0\/m=1\/m=2\/m=3\/m=4\/m=5:=by lia -abstractProof
 rcases this with rfl | rfl | rfl | rfl | rfl | rfl
 ·exact cJ (T 0) (R _ _ _ _ _ _ _ rfl rfl rfl) rfl
 ·exact ba (T 0) (cJ (T 1) (R _ _ _ _ _ _ _ rfl rfl rfl) rfl)
 ·exact ba (T 0) (ba (T 1) (cJ (T 2) (R _ _ _ _ _ _ _ rfl rfl rfl) rfl))
 ·exact ba (T 0) (ba (T 1) (ba (T 2) (cJ (T 3) (R _ _ _ _ _ _ _ rfl rfl rfl) rfl)))
 ·exact ba (T 0) (ba (T 1) (ba (T 2) (ba (T 3) (cJ (T 4) (R _ _ _ _ _ _ _ rfl rfl rfl) rfl))))
 ·exact ba (T 0) (ba (T 1) (ba (T 2) (ba (T 3) (ba (T 4) (cJ (T 5) (R _ _ _ _ _ _ _ rfl rfl rfl) rfl)))))
end
end
section
open PySem PyProof.Rows
set_option maxRecDepth 100000
section
variable {C:Cx} {k:Nat} {ρ ρ1:Loc} {σ σ1 σ2:Sto}
noncomputable abbrev rgF (r g b:UInt64):UInt64:=Float64.sub (mxF r g b) (mnF r g b)
structure tP (r g b h':UInt64) (a0 a1 a2:UInt64):Prop where
 ne:feq (mnF r g b) (mxF r g b)=false
 zm:Float64.isZero (mxF r g b)=false
 zr:Float64.isZero (rgF r g b)=false
 s0:feq (Float64.div (rgF r g b) (mxF r g b)) 0=false
 fin:Float64.isFinite (Float64.mul h' F6)=true
 six:(di h').natAbs<2 ^ 1023
 out:rB h' (Float64.div (rgF r g b) (mxF r g b)) (mxF r g b)=[a0,a1,a2]
structure tQ (r g b h':UInt64) (a0 a1 a2:UInt64):Prop where
 ne:feq (mnF r g b) (mxF r g b)=false
 z1:fle (de r g b) Fh=true->Float64.isZero (Float64.add (mxF r g b) (mnF r g b))=false
 z2:fle (de r g b) Fh=false->Float64.isZero (Float64.sub (Float64.sub F2 (mxF r g b)) (mnF r g b))=false
 zr:Float64.isZero (rgF r g b)=false
 s0:feq (jz r g b) 0=false
 out:[vF (m1F (de r g b) (jz r g b)) (m2F (de r g b) (jz r g b)) (Float64.add h' F13),vF (m1F (de r g b) (jz r g b)) (m2F (de r g b) (jz r g b)) h',vF (m1F (de r g b) (jz r g b)) (m2F (de r g b) (jz r g b)) (Float64.sub h' F13)]=[a0,a1,a2]
noncomputable def fY (r g b:UInt64):UInt64:=hueF r g b (mxF r g b) (rgF r g b)
noncomputable def fB (n:Int) (l:UInt64):UInt64:=Float64.add (Float64.mul l (Float64.ofInt n)) (Float64.ofInt 1)
noncomputable def iF (n:Int) (l:UInt64):Int:=(jY (fB n l)).fdiv 2
theorem oK (H:COk C) (B:Bi C) {n:Int} {l:UInt64} {e:Ex} (hn:n.natAbs<2 ^ 1023) (hl:EvE C k e ρ σ (.flt l) σ) (hf:Float64.isFinite (fB n l)=true):EvE C k (.bin .FloorDiv (.call (.glob lj) [(.bin .Add (.bin .Mult e (.cInt n)) (.cInt 1))]) (.cInt 2)) ρ σ (.int (iF n l)) σ :=
 ak (aC H B.int (ah (ak (ak hl au (mr hn)) au (qH (by decide +kernel))) ai) (oV hf)) au (iW (by decide) (by decide +kernel))
theorem xn (H:COk C) (B:Bi C) {n:Int} {a0 a1 a2:UInt64} (hn:n.natAbs<2 ^ 1023) (hl:get ρ fO=some (.tup [.flt a0,.flt a1,.flt a2])) (hb:∀ v,fresh (ft ρ [ax,cZ]) [cZ]=true/\∃ ρ1,ci (ft ρ [ax,cZ]) [cZ] v=some ρ1/\get ρ1 cZ=some v)
 (h0:Float64.isFinite (fB n a0)=true) (h1:Float64.isFinite (fB n a1)=true) (h2:Float64.isFinite (fB n a2)=true) :
 EvE C k (.comp (.bin .FloorDiv (.call (.glob lj) [(.bin .Add (.bin .Mult (.var cZ) (.cInt n)) (.cInt 1))]) (.cInt 2)) [[cZ]] [(.var fO)] [[]] [ax,cZ]) ρ σ (.list (zs [iF n a0,iF n a1,iF n a2])) σ:=by
 refine CompOk.ev (fJ (vs:=[.flt a0,.flt a1,.flt a2]) (aa hl) rfl rfl ?_ (by rw [sizeLine_eq];simp [zs]))
 obtain ⟨f0,r0,b0,g0⟩:=hb (.flt a0)
 obtain ⟨f1,r1,b1,g1⟩:=hb (.flt a1)
 obtain ⟨f2,r2,b2,g2⟩:=hb (.flt a2)
 exact .emit b0 f0 ⟨rfl,rfl⟩ (oK H B hn (aa g0) h0) (.emit b1 f1 ⟨rfl,rfl⟩ (oK H B hn (aa g1) h1) (.emit b2 f2 ⟨rfl,rfl⟩ (oK H B hn (aa g2) h2) .nil))
theorem qv {a b c:Nat} {n:Nat} (hn:n≠0) (ha:a<2 ^ 1000) (hb:b<2 ^ 1000) (hc:c<2 ^ 1000) (hp:get ρ aQ=some (.list (zN [a,b,c]))) (hb':∀ v,fresh (ft ρ [ax,aJ]) [aJ]=true/\∃ ρ1,ci (ft ρ [ax,aJ]) [aJ] v=some ρ1/\get ρ1 aJ=some v) :
 EvE C k (.comp (.bin .Div (.var aJ) (.cInt (n:Int))) [[aJ]] [(.var aQ)] [[]] [ax,aJ]) ρ σ (.list [.flt (dP a n),.flt (dP b n),.flt (dP c n)]) σ:=by
 refine CompOk.ev (fJ (vs:=zN [a,b,c]) (aa hp) rfl rfl ?_ (szl rfl))
 obtain ⟨f0,r0,b0,g0⟩:=hb' (.int (a:Int))
 obtain ⟨f1,r1,b1,g1⟩:=hb' (.int (b:Int))
 obtain ⟨f2,r2,b2,g2⟩:=hb' (.int (c:Int))
 have big:∀ m:Nat,m<2 ^ 1000->(m:Int).natAbs<2 ^ 1023:=fun m h=>by
  rw [Int.natAbs_natCast]
  exact Nat.lt_trans h (Nat.pow_lt_pow_right (by decide) (by decide))
 exact .emit b0 f0 ⟨rfl,rfl⟩ (ak (aa g0) au (mL (by lia -abstractProof) (big a ha))) (.emit b1 f1 ⟨rfl,rfl⟩ (ak (aa g1) au (mL (by lia -abstractProof) (big b hb))) (.emit b2 f2 ⟨rfl,rfl⟩ (ak (aa g2) au (mL (by lia -abstractProof) (big c hc))) .nil))
noncomputable abbrev q18 (a:Nat):UInt64:=dP (a:Int) ((262144:Nat):Int)
end
end
section
open PySem PyProof.Rows
set_option maxRecDepth 100000
section
variable {τ:Sto} {W L nb:List (List Nat)} {p:Pl3}
theorem off {a:Nat} (h:p.Ok τ):τ.next+a≠p.lx/\τ.next+a≠p.lf/\τ.next+a≠p.pb:=by
 have:=h.bx;have:=h.bf;have:=h.bp
 exact ⟨by lia -abstractProof,by lia -abstractProof,by exact Ne.symm (W.ktu_ne a this)⟩
end
end
section
open PySem PyProof.Rows
set_option maxRecDepth 100000
section
variable {C:Cx} {k:Nat} {ρ ρ1:Loc} {σ σ1 σ2:Sto} {p:Pl3} {τ:Sto} {W L nb:List (List Nat)} {a:LS}
noncomputable def small (nb:List (List Nat)) (n:Nat):Prop:=∀ i,(nb.getD i []).length<=n
theorem As (ρ:Loc) (x:Nm) (u v:V):put (put ρ x u) x v=put ρ x v:=by
 induction ρ with
 | nil=>simp [put,jR]
 | cons q r ih =>
   obtain ⟨y,w⟩:=q
   cases h:eqn y x with
   | true=>simp [put,h]
   | false=>simp [put,h,ih]
end
end
section
open PySem PyProof.Rows
set_option maxRecDepth 100000
section
variable {C:Cx} {k:Nat} {ρ ρ1:Loc} {σ σ1 σ2:Sto} {p:Pl3} {τ:Sto}
theorem wc:nm "split"=j8:=by kernel_rfl
end
end
section
open PySem PyProof.Rows
set_option maxRecDepth 100000
section
variable {C:Cx} {k:Nat} {ρ ρ1:Loc} {σ σ1 σ2:Sto} {p:Pl3} {τ:Sto}
end
end
section
open PySem PyProof.Rows
set_option maxRecDepth 100000
noncomputable abbrev R5:List Nat:=[0,1,2,3,4]
section
variable {C:Cx} {k:Nat} {ρ ρ1:Loc} {σ σ1 σ2:Sto}
end
end
section
open PySem PyProof.Rows
set_option maxRecDepth 100000
section
variable {C:Cx} {k:Nat} {ρ ρ1:Loc} {σ σ1 σ2:Sto}
end
end
section
open PySem PyProof.Rows
set_option maxRecDepth 100000
theorem yz (l:List Nat):(l.map fun a:Nat=>(a:Int)).sum=((l.sum:Nat):Int):=by
 induction l with
 | nil=>rfl
 | cons a l ih=>simp [ih]
end
section
open PySem PyProof.Rows
set_option maxRecDepth 100000
section
variable {C:Cx} {k:Nat} {ρ ρ1:Loc} {σ σ1 σ2:Sto}
theorem yg {ls:List (List Nat)} (n:Nat) (h:∀ x∈ls,∀ c∈x,c<1114112):okD (n+2) (.list (a9 ls))=true:=by
 show (a9 ls).all (okD (n+1))=true
 rw [List.all_eq_true]
 intro v hv
 obtain ⟨x,hx,rfl⟩:=List.mem_map.mp hv
 show PyData.strOk (ao x)=true
 delta PyData.strOk ao
 rw [<-Array.all_toList,List.all_eq_true]
 intro c hc
 have:=h x hx c (by simpa using hc)
 simpa using this
end
end
section
open PySem PyProof.Rows
set_option maxRecDepth 100000
section
variable {C:Cx} {k:Nat} {ρ ρ1:Loc} {σ σ1 σ2:Sto}
theorem wb:nm "count"=pn:=by kernel_rfl
theorem DW (c:List Nat):zN c=zs (c.map fun a:Nat=>(a:Int)):=by delta zN zs;rw [List.map_map];rfl
theorem uI {x:List Nat} (n:Nat) (h:∀ c∈x,c<1114112):okD (n+1) (.str x)=true:=by
 show PyData.strOk (ao x)=true
 delta PyData.strOk ao
 rw [<-Array.all_toList,List.all_eq_true]
 intro c hc
 have:=h c (by simpa using hc)
 simpa using this
end
end
section
open PySem PyProof.Rows
set_option maxRecDepth 100000
section
variable {C:Cx} {k:Nat} {ρ ρ1:Loc} {σ σ1 σ2:Sto}
theorem zV {l:List Int} {m:Int} (hm:m∈l) (h:∀ b∈l,m<=b):FnOk C k (.builtin "min") [.list (zs l)] σ (.int m) σ:=by
 intro A X s as rm S r Q E hQ
 obtain ⟨a,q,rfl,r1,r2⟩:=r.inv_cons
 rw [r2.inv_nil]
 obtain ⟨p,items,kk,rfl,z,g,rr⟩:=r1
 obtain ⟨xs,rfl,el⟩:=nn rr
 have hsz:xs.size=l.length:=by rw [<-el];simp
 have hn:0<xs.size:=by rw [hsz];exact List.length_pos_of_mem hm
 refine bL (min_intList rm.handled ⟨_,g,rfl,kk,rfl⟩ hn fun v h' tk hv hk hs=>?_)
 obtain ⟨S',e⟩:=S.kept tk hk hs
 refine hQ _ X _ S' e ?_
 obtain ⟨t,rfl⟩:=intItems_at hv
 obtain ⟨g1,g2⟩:=argBest_lt (numAt xs) (xs.size - 1)
 have hna:∀ j,j<xs.size->l[j]?=some (numAt xs j):=fun j hj=>by
  rw [<-el]
  simp [numAt,hj]
 have h1:=h _ (List.mem_of_getElem? (hna _ (by exact Nat.lt_of_le_pred hn g1)))
 obtain ⟨j,hj⟩:=List.mem_iff_getElem?.mp hm
 have hj':j<xs.size:=by rw [hsz];exact (List.getElem?_eq_some_iff.mp hj).1
 rw [hna j hj'] at hj
 cases hj
 rw [Int.le_antisymm h1 (g2 j (by exact Nat.le_sub_one_of_lt hj'))]
 exact ⟨_,rfl⟩
theorem pG {v:V}:Op2 C k (binaryOp .Mult) (.list [v]) (.int 3) σ (.list [v,v,v]) σ:=by
 intro A X s a b rm S r1 r2 Q E hQ
 obtain ⟨p,items,kk,rfl,z,g,q1⟩:=r1
 obtain ⟨t,rfl⟩:=r2
 obtain ⟨av,q,e,r3,r4⟩:=q1
 obtain ⟨its⟩:=items
 change its=av::q at e
 have r4:q=[]:=r4
 subst r4
 subst e
 refine wpAny_binaryOp_repeat_ref (T := "list") (U := "int") (by decide) ⟨_,g,rfl⟩ (fun s'=>typeIs_int s' 3 t) noFill_list_mul PySem.F.fills_int_mul PySem.F.slot_int_rmul repeat_list PySem.F.slot_int_index.lookup
  (call_meets PySem.F.slot_int_rmul (typeIs_int s 3 t) PySem.F.entry_int_rmul (PySem.F.args_int_rmul_2 _ _) (int___rmul___int_list 3 t p #[av] kk)
    ⟨g,rfl,⟨_,g,rfl⟩,call_meets PySem.F.slot_list_mul ⟨_,g,rfl⟩ PySem.F.entry_list_mul (PySem.F.args_list_mul_2 _ _)
      (AutoListH.list___mul___list_int_3 p #[av] kk 3 t (by decide) (show ¬ (1*3 > (2 ^ 63 - 1) / 8) by decide) (show ¬ Builtin.List.listTooLong (1*3)=true by unfold Builtin.List.listTooLong;rw [sizeLine_eq];decide))
      ⟨g,?_⟩⟩)
 obtain ⟨S',e⟩:=S.grow (Grow.push (cW #[av,av,av] 0)) (fun b=>b=s.heap.objs.size) (by rintro b rfl;exact ⟨Nat.le_refl _,_,Heap.get?_push_size _ rfl⟩)
 refine hQ _ _ _ S' e ?_
 have r5:=e.rels S (fun _ h=>h.elim) (VsRel.cons r3 (VsRel.cons r3 (VsRel.cons r3 VsRel.nil)))
 exact ⟨_,_,_,rfl,.inr rfl,Heap.get?_push_size _ rfl,r5⟩
end
end
section
open PySem PyProof.Rows
set_option maxRecDepth 100000
structure Co where
 r:Nat
 g:Nat
 b:Nat
noncomputable def Co.l (c:Co):List Nat:=[c.r,c.g,c.b]
noncomputable def Co.row (c:Co):V:=.list (zN c.l)
noncomputable def Co.add (c d:Co):Co:=⟨c.r+d.r,c.g+d.g,c.b+d.b⟩
noncomputable def Co.Lt (c:Co) (n:Nat):Prop:=c.r<n/\c.g<n/\c.b<n
noncomputable abbrev q15 (a:Nat):UInt64:=dP (a:Int) ((32768:Nat):Int)
noncomputable def Turned (deep:Nat) (r g b hue a0 a1 a2:UInt64):Prop :=
 if deep=0 then (feq (mnF r g b) (mxF r g b)=true/\hue=0/\a0=mxF r g b/\a1=mxF r g b/\a2=mxF r g b)\/(hue=fY r g b/\tP r g b (Float64.add hue (dP 1 2)) a0 a1 a2)
 else (feq (mnF r g b) (mxF r g b)=true/\hue=0/\a0=de r g b/\a1=de r g b/\a2=de r g b)\/(hue=fY r g b/\tQ r g b (Float64.sub hue (dP 1 2)) a0 a1 a2)
structure A2 (deep:Nat) (c:Co) (hue:UInt64) (o:Co):Prop where
 lt:c.Lt 32768
 turn:∃ a0 a1 a2,Turned deep (q15 c.r) (q15 c.g) (q15 c.b) hue a0 a1 a2/\Float64.isFinite (fB 65536 a0)=true/\Float64.isFinite (fB 65536 a1)=true/\Float64.isFinite (fB 65536 a2)=true/\iF 65536 a0=o.r/\iF 65536 a1=o.g/\iF 65536 a2=o.b
noncomputable def mz (c:Co) (hue:UInt64) (o:Co):V:=.list [c.row,.flt hue,o.row]
section
variable {C:Cx} {k:Nat} {ρ ρ1:Loc} {σ σ1 σ2:Sto}
theorem rQ (K:hC C) {r g b hue a0 a1 a2:UInt64} (t:(feq (mnF r g b) (mxF r g b)=true/\hue=0/\a0=mxF r g b/\a1=mxF r g b/\a2=mxF r g b)\/(hue=fY r g b/\tP r g b (Float64.add hue (dP 1 2)) a0 a1 a2)) :
 ∃ s v,Calls C (k+1) bS [.flt r,.flt g,.flt b] σ (.tup [.flt hue,.flt s,.flt v]) σ/\Calls C (k+1) dJ [.flt (Float64.add hue (dP 1 2)),.flt s,.flt v] σ (.tup [.flt a0,.flt a1,.flt a2]) σ:=by
 rcases t with ⟨h,rfl,rfl,rfl,rfl⟩ | ⟨rfl,t⟩
 ·exact ⟨_,_,sr K h,qh K (by decide +kernel)⟩
 ·have P2:=sv (C:=C) (k:=k) (σ:=σ) (v:=mxF r g b) K t.s0 t.fin t.six
  rw [t.out] at P2
  exact ⟨_,_,vj K t.ne t.zm t.zr,P2⟩
theorem rR (K:hC C) {r g b hue a0 a1 a2:UInt64} (t:(feq (mnF r g b) (mxF r g b)=true/\hue=0/\a0=de r g b/\a1=de r g b/\a2=de r g b)\/(hue=fY r g b/\tQ r g b (Float64.sub hue (dP 1 2)) a0 a1 a2)) :
 ∃ l s,Calls C (k+2) bR [.flt r,.flt g,.flt b] σ (.tup [.flt hue,.flt l,.flt s]) σ/\Calls C (k+2) dI [.flt (Float64.sub hue (dP 1 2)),.flt l,.flt s] σ (.tup [.flt a0,.flt a1,.flt a2]) σ:=by
 rcases t with ⟨h,rfl,rfl,rfl,rfl⟩ | ⟨rfl,t⟩
 ·exact ⟨_,_,sq (k:=k+1) K h,qf K (by decide +kernel)⟩
 ·have P2:=su (C:=C) (k:=k) (σ:=σ) K (h:=Float64.sub (fY r g b) (dP 1 2)) (l:=de r g b) t.s0
  have e:=t.out
  simp only [List.cons.injEq,and_true] at e
  rw [e.1,e.2.1,e.2.2] at P2
  exact ⟨_,_,vh (k:=k+1) K t.ne t.z1 t.z2 t.zr,P2⟩
theorem qe (K:hC C) (d:DefAt C bH hG T_law_across) {deep:Nat} {c o:Co} {hue:UInt64} (L:A2 deep c hue o) {t:Nat} {vs:List V} (ht:σ.get t=some (.list vs)) (hz:vs.length<=1000) :
 Calls C (k+3) bH [c.row,.int (deep:Int),.loc t] σ o.row (σ.set t (.list (vs++[mz c hue o]))):=by
 have H:=K.H;have B:=K.B
 obtain ⟨a0,a1,a2,tn,f0,f1,f2,e0,e1,e2⟩:=L.turn
 have big:∀ m:Nat,m<32768->m<2 ^ 1000:=fun m h=>Nat.lt_of_lt_of_le h (Nat.le_trans (by decide:32768<=2 ^ 18) (Nat.pow_le_pow_right (by decide) (by decide)))
 refine d.callsE H ?_ rfl
 unfold T_law_across
 let ρ0:Loc:=[(aQ,c.row),(dO,.int (deep:Int)),(bc,.loc t),(ja,.flt (q15 c.r)),(eW,.flt (q15 c.g)),(gM,.flt (q15 c.b))]
 refine ap (ρ1:=ρ0) (σ1:=σ)
  (aj (qv (n:=32768) (by decide) (big c.r L.lt.1) (big c.g L.lt.2.1) (big c.b L.lt.2.2) rfl (fun v=>⟨rfl,_,rfl,rfl⟩)) rfl (fun h=>nomatch h)) ?_
 have T:EvT C (k+2) (.var dO) ρ0 σ (decide (deep≠0)) σ:=jV rfl (aa rfl)
 have fin:∀ ρ2,get ρ2 bc=some (.loc t)->get ρ2 aQ=some c.row->get ρ2 cc=some (.flt hue)->get ρ2 fO=some (.tup [.flt a0,.flt a1,.flt a2])->(∀ v,fresh (ft ρ2 [ax,cZ]) [cZ]=true/\∃ ρ1,ci (ft ρ2 [ax,cZ]) [cZ] v=some ρ1/\get ρ1 cZ=some v) ->
  ExE C (k+2) [.expr (.meth (.var bc) ey [(.list [(.var aQ),(.var cc),(.comp (.bin .FloorDiv (.call (.glob lj) [(.bin .Add (.bin .Mult (.var cZ) (.cInt 65536)) (.cInt 1))]) (.cInt 2)) [[cZ]] [(.var fO)] [[]] [ax,cZ])])]),.ret (.sub (.sub (.var bc) (.neg (.cInt 1))) (.cInt 2))] ρ2 σ (.ret o.row) (σ.set t (.list (vs++[mz c hue o]))):=fun ρ2 g0 g1 g2 g3 g4=>by
  have E:=xn (C:=C) (k:=k+2) (σ:=σ) H B (n:=65536) (by decide +kernel) g3 g4 f0 f1 f2
  rw [e0,e1,e2] at E
  refine ap (gE (dq (aa g0) (dG ht (by rw [<-io,aP];exact PySem.F.slot_list_append) PySem.F.type_list_append) (.bi _) (ah (cu (ah (aa g1) (ah (aa g2) (ah E ai))) (szl rfl)) ai) (iT ht (Nat.le_trans hz (szl rfl)))) rfl) ?_
  have hg:(σ.set t (.list (vs++[mz c hue o]))).get t=some (.list (vs++[mz c hue o])):=by simp [Sto.set]
  have hi:idx (vs++[mz c hue o]) (-1)=some (mz c hue o):=by
   unfold idx
   rw [lp (j:=vs.length) (.inr ⟨by decide,by rw [List.length_append];simp;omega⟩) (by simp)]
   simp
  exact bB (dy (j:=2) (mf (aa g0) (xo au uJ) (ny hg) PySem.F.slot_list_getitem.lookup (rf hg hi (by decide) (by decide))) au rfl (by decide))
 unfold Turned at tn
 by_cases hd:deep=0
 ·rw [if_pos hd] at tn
  rw [show decide (deep≠0)=false from by simp [hd]] at T
  obtain ⟨s,v,P1,P2⟩:=rQ (C:=C) (k:=k+1) (σ:=σ) K tn
  refine ap (ρ1:=ρ0++[(cc,.flt hue),(gI,.flt s),(lP,.flt v),(fO,.tup [.flt a0,.flt a1,.flt a2])]) (σ1:=σ)
   (cD T (fun q=>by cases q) fun _=>?_) (fin _ rfl rfl rfl rfl fun v=>⟨rfl,_,rfl,rfl⟩)
  refine aq (ρ1:=ρ0++[(cc,.flt hue),(gI,.flt s),(lP,.flt v)]) (σ1:=σ)
   (aj (aK H (ah (aa rfl) (ah (aa rfl) (ah (aa rfl) ai))) P1) rfl (fun h=>nomatch h)) ?_
  exact aq (aj (aK H (ah (ak (aa rfl) (ak au au (mL (by decide) (by decide +kernel))) eV) (ah (aa rfl) (ah (aa rfl) ai))) P2) rfl fun _=>rfl) aE
 ·rw [if_neg hd] at tn
  rw [show decide (deep≠0)=true from by simp [hd]] at T
  obtain ⟨l,s,P1,P2⟩:=rR (C:=C) (k:=k) (σ:=σ) K tn
  refine ap (ρ1:=ρ0++[(cc,.flt hue),(lQ,.flt l),(gI,.flt s),(fO,.tup [.flt a0,.flt a1,.flt a2])]) (σ1:=σ)
   (cD T (fun _=>?_) (fun q=>by cases q)) (fin _ rfl rfl rfl rfl fun v=>⟨rfl,_,rfl,rfl⟩)
  refine aq (ρ1:=ρ0++[(cc,.flt hue),(lQ,.flt l),(gI,.flt s)]) (σ1:=σ)
   (aj (aK H (ah (aa rfl) (ah (aa rfl) (ah (aa rfl) ai))) P1) rfl (fun h=>nomatch h)) ?_
  exact aq (aj (aK H (ah (ak (aa rfl) (ak au au (mL (by decide) (by decide +kernel))) bE) (ah (aa rfl) (ah (aa rfl) ai))) P2) rfl fun _=>rfl) aE
theorem lE (H:COk C) (B:Bi C) (d:DefAt C bu gy T_law_mixed) {c e:Co}:Calls C (k+1) bu [c.row,e.row] σ (c.add e).row σ:=by
 refine d.callsE H ?_ rfl
 unfold T_law_mixed
 have at_:∀ (c:Co) (j:Nat),j<3->(zN c.l)[j]?=some (.int ((c.l.getD j 0:Nat):Int)):=fun c=>at3 rfl rfl rfl
 have e1:(c.add e).row=.list ([0,1,2].map fun j=>V.int ((c.l.getD j 0:Nat)+(e.l.getD j 0:Nat):Int)):=rfl
 rw [e1]
 refine bB (c5 (l:=[0,1,2]) (inj:=fun i:Nat=>.int (i:Int)) (ρ1:=fun i=>[(fj,c.row),(fD,e.row),(n_k,.int ((i:Nat):Int))]) (own:=[ax,n_k]) (aC H B.range (ah au ai) bo) rfl (by rfl) rfl (fun i=>rfl) (fun j hj=>?_) (szl rfl))
 have hj:j<3:=by simp at hj;omega
 have hj2:j<2 ^ 62:=Nat.lt_trans hj (by decide)
 exact ak (dy (aa rfl) (aa rfl) (at_ c j hj) hj2) (dy (aa rfl) (aa rfl) (at_ e j hj) hj2) gQ
end
end
section
open PySem PyProof.Rows
set_option maxRecDepth 100000
noncomputable def uS (h:UInt64) (ring:Nat):UInt64:=Float64.add (Float64.mul (Float64.mul h (Float64.ofInt 2)) (Float64.ofInt (ring:Int))) (Float64.ofInt 1)
noncomputable def oZ (t sp ring k:Int):Int:=min ((t - 2*sp*k).fmod ring) ((2*sp*k - t).fmod ring)
structure sj (c:Co) (hue:UInt64) (o:Co) (m sp ring t:Nat):Prop where
 mm:m∈c.l
 ml:∀ x∈c.l,m<=x
 xm:m+sp∈c.l
 xl:∀ x∈c.l,x<=m+sp
 rg:ring=if sp=0 then 1 else 6*sp
 small:ring<2 ^ 64
 fin:Float64.isFinite (uS hue ring)=true
 step:(jY (uS hue ring)).fdiv 2=(t:Int)
 lo:(Float64.cmpInt hue 0==some .gt||Float64.cmpInt hue 0==some .eq)=true
 up:(Float64.cmpInt hue 1==some .lt)=true
 grey:sp=0->Float64.cmpInt hue 0=some .eq
 gap:∀ k:Nat,k<3->(m:Int)+max 0 (min (sp:Int) (2*(sp:Int) - oZ t sp ring k))=((c.l.getD k 0:Nat):Int)
 over:c.add o=⟨m+sp+m,m+sp+m,m+sp+m⟩
section
variable {C:Cx} {k:Nat} {ρ ρ1:Loc} {σ σ1 σ2:Sto}
theorem zj (H:COk C) (B:Bi C) (dm:DefAt C bu gy T_law_mixed) (d:DefAt C cY iy T_law_right) {c o:Co} {hue:UInt64} {m sp ring t:Nat} (R:sj c hue o m sp ring t) :
 Calls C (k+2) cY [c.row,.flt hue,o.row] σ (.bool true) σ:=by
 have er:c.row=.list (zs (c.l.map fun a:Nat=>(a:Int))):=congrArg V.list (DW c.l)
 have ring0:ring≠0:=by have:=R.rg;split at this<;>omega
 refine d.callsE H ?_ rfl
 unfold T_law_right
 have emin:∀ ρ,get ρ aQ=some c.row->EvE C (k+1) (.call (.glob i9) [(.var aQ)]) ρ σ (.int (m:Int)) σ:=fun ρ g=>aC H B.min (ah (aa (by rw [g,er])) ai) (zV (List.mem_map.mpr ⟨m,R.mm,rfl⟩) fun b hb=>by
  obtain ⟨x,hx,rfl⟩:=List.mem_map.mp hb
  exact Int.ofNat_le.mpr (R.ml x hx))
 have emax:∀ ρ,get ρ aQ=some c.row->EvE C (k+1) (.call (.glob j7) [(.var aQ)]) ρ σ (.int ((m+sp:Nat):Int)) σ:=fun ρ g=>EvE.eq (aC H B.max (ah (aa (by rw [g,er])) ai) (zT (by show List.map _ [_,_,_]≠[];exact fun h=>nomatch h))) (congrArg V.int (u6 (List.mem_map.mpr ⟨m+sp,R.xm,rfl⟩) fun b hb=>by
  obtain ⟨x,hx,rfl⟩:=List.mem_map.mp hb
  exact Int.ofNat_le.mpr (R.xl x hx)))
 let ρ1:Loc:=[(aQ,c.row),(cc,.flt hue),(pq,o.row),(j6,.int (m:Int)),(cM,.int (sp:Int))]
 refine ap (ρ1:=ρ1) (σ1:=σ) (aj (v:=.tup [.int (m:Int),.int (sp:Int)]) (ib (ah (emin _ rfl) (ah (EvE.eq (ak (emax _ rfl) (emin _ rfl) jy) (congrArg V.int (by omega))) ai)) (szl rfl)) rfl (fun h=>nomatch h)) ?_
 have E6:EvE C (k+1) (.bin .Mult (.cInt 6) (.var cM)) ρ1 σ (.int ((6*sp:Nat):Int)) σ:=EvE.eq (ak au (aa rfl) (iI (.of_left (by decide)))) (congrArg V.int (by rfl))
 refine ap (ρ1:=ρ1++[(ii,.int (ring:Int))]) (σ1:=σ) (aj (v:=.int (ring:Int)) (xp E6 iZ (fun h=>?_) (fun h=>⟨?_,rfl⟩)) rfl (fun _=>rfl)) ?_
 ·have:sp=0:=by
   have:((6*sp:Nat):Int)=0:=by simpa using h
   omega
  rw [R.rg,if_pos this]
  exact au
 ·have:sp≠0:=fun q=>by
   rw [q] at h
   cases h
  rw [R.rg,if_neg this]
 have rb:((ring:Nat):Int).natAbs<2 ^ 1023:=by
  rw [Int.natAbs_natCast]
  exact Nat.lt_of_lt_of_le R.small (Nat.pow_le_pow_right (by decide) (by decide))
 refine ap (ρ1:=ρ1++[(ii,.int (ring:Int)),(jv,.int (t:Int))]) (σ1:=σ) (aj (EvE.eq (ak (aC H B.int (ah (ak (ak (ak (aa rfl) au (mr (by decide))) (aa rfl) (mr rb)) au (qH (by decide))) ai) (oV R.fin)) au (iW (by decide) (by decide))) (congrArg V.int R.step)) rfl (fun _=>rfl)) ?_
 let gs:List Int:=[oZ t sp ring 0,oZ t sp ring 1,oZ t sp ring 2]
 let ρ3:Loc:=ρ1++[(ii,.int (ring:Int)),(jv,.int (t:Int)),(mC,.list (zs gs))]
 refine ap (ρ1:=ρ3) (σ1:=σ) (d6 (x:=mC) (v:=.list (zs gs)) ?_) ?_
 ·refine gT (l:=[0,1,2]) (inj:=fun i:Nat=>.int (i:Int)) (f:=fun j:Nat=>.int (oZ t sp ring j)) (ρ1:=fun i=>ρ1++[(ii,.int (ring:Int)),(jv,.int (t:Int)),(n_k,.int ((i:Nat):Int))]) (own:=[ax,n_k]) (aC H B.range (ah au ai) bo) rfl (by rfl) rfl (fun i=>rfl) (fun j hj=>?_) (szl rfl)
  have hj:j<3:=by simp at hj;omega
  have eM:EvE C (k+1) (.bin .Mult (.bin .Mult (.cInt 2) (.var cM)) (.var n_k)) (ρ1++[(ii,.int (ring:Int)),(jv,.int (t:Int)),(n_k,.int ((j:Nat):Int))]) σ (.int (2*(sp:Int)*(j:Int))) σ :=
   ak (ak au (aa rfl) (iI (.of_left (by decide)))) (aa rfl) (iI (.of_right (at3 (P:=fun j=>Builtin.Int.intBits (j:Int)<=64) (by decide) (by decide) (by decide) j hj)))
  exact aC H B.min (ah (ak (ak (aa rfl) eM jy) (aa rfl) (gJ (Int.ofNat_ne_zero.mpr ring0))) (ah (ak (ak eM (aa rfl) jy) (aa rfl) (gJ (Int.ofNat_ne_zero.mpr ring0))) ai)) uf
 refine ba ?_ ?_
 ·have T1:EvT C (k+1) (.not (.cmp (.cInt 0) [.LtE,.Lt] [(.var cc),(.cInt 1)])) ρ3 σ (!true) σ:=oO (xu (c:=true) au (aa rfl) (by rw [<-R.lo];exact z9) (fun _=>au) (fun _=>by rw [<-R.up];exact zI) (fun h=>by cases h))
  have T2:EvT C (k+1) (.boolop .And [(.cmp (.var cM) [.Eq] [(.cInt 0)]),(.cmp (.var cc) [.NotEq] [(.cInt 0)])]) ρ3 σ (decide (sp=0)&&(Float64.cmpInt hue 0 != some .eq)) σ:=mi (tZ 0 (aa rfl)) (aH (aa rfl) au zJ aF)
  have e2:(decide (sp=0)&&(Float64.cmpInt hue 0 != some .eq))=false:=by
   by_cases h:sp=0
   ·rw [R.grey h];simp
   ·simp [h]
  rw [e2] at T2
  exact oP T1 T2
 have E1:EvE C (k+1) (.comp (.bin .Add (.var j6) (.call (.glob j7) [(.cInt 0),(.call (.glob i9) [(.var cM),(.bin .Sub (.bin .Mult (.cInt 2) (.var cM)) (.var fZ))])])) [[fZ]] [(.var mC)] [[]] [ax,fZ]) ρ3 σ c.row σ:=by
  have e:c.row=.list (gs.map fun gp=>V.int ((m:Int)+max 0 (min (sp:Int) (2*(sp:Int) - gp)))):=by
   have g0:=R.gap 0 (by decide)
   have g1:=R.gap 1 (by decide)
   have g2:=R.gap 2 (by decide)
   exact congrArg V.list (congr (congrArg (fun x y=>V.int x::y) g0.symm) (congr (congrArg (fun x y=>V.int x::y) g1.symm) (congrArg (fun x=>[V.int x]) g2.symm)))
  rw [e]
  exact c5 (l:=gs) (inj:=.int) (ρ1:=fun i=>ρ3++[(fZ,.int i)]) (own:=[ax,fZ]) (aa rfl) rfl rfl rfl (fun i=>rfl) (fun gp _=>ak (aa rfl) (aC H B.max (ah au (ah (aC H B.min (ah (aa rfl) (ah (ak (ak au (aa rfl) (iI (.of_left (by decide)))) (aa rfl) jy) ai)) uf) ai)) zU) gQ) (szl rfl)
 refine bB (zB (oJ E1 (aa rfl) (jx rfl)) aF (fun _=>?_) (fun h=>by cases h))
 have E2:=aK (C:=C) (k:=k+1) (ρ:=ρ3) (σ:=σ) H (ah (aa (x:=aQ) rfl) (ah (aa (x:=pq) rfl) ai)) (lE (k:=k) (σ:=σ) H B dm (c:=c) (e:=o))
 rw [R.over] at E2
 exact oJ E2 (ak (cu (ah (EvE.eq (ak (emax _ rfl) (aa rfl) gQ) (congrArg V.int (show ((m+sp:Nat):Int)+(m:Int)=((m+sp+m:Nat):Int) from rfl))) ai) (szl rfl)) au pG) (jx (v:=Co.row ⟨m+sp+m,m+sp+m,m+sp+m⟩) rfl)
end
end
section
open PySem PyProof.Rows
set_option maxRecDepth 100000
structure P2 where
 p:Pl3
 q:Pl3
 t:Nat
noncomputable def Pl3.off (p:Pl3) (i:Nat):Prop:=i≠p.lx/\i≠p.lf/\i≠p.pb
structure P2.Ok (P:P2) (τ:Sto):Prop where
 p:P.p.Ok τ
 q:P.q.Ok τ
 q1:P.p.off P.q.lx
 q2:P.p.off P.q.lf
 q3:P.p.off P.q.pb
 tp:P.p.off P.t
 tq:P.q.off P.t
 bt:P.t<τ.next
noncomputable def P2.sto (P:P2) (τ:Sto) (a b:LS) (lk:List V):Sto:=P.p.put (P.q.put (τ.set P.t (.list lk)) b) a
section
variable {P:P2} {p q:Pl3} {τ:Sto} {a b:LS} {lk lk':List V}
theorem rs (q1:p.off q.lx) (q2:p.off q.lf) (q3:p.off q.pb):p.put (q.put τ b) a=q.put (p.put τ a) b:=by
 show p.put (((τ.set q.pb (.list b.q)).set q.lf (.list (cS b.x))).set q.lx (.lexer q.lf b.line q.pb)) a=(((p.put τ a).set q.pb (.list b.q)).set q.lf (.list (cS b.x))).set q.lx (.lexer q.lf b.line q.pb)
 rw [Pl3.set_ q3.1 q3.2.1 q3.2.2,Pl3.set_ q2.1 q2.2.1 q2.2.2,Pl3.set_ q1.1 q1.2.1 q1.2.2]
theorem P2.Ok.pp (h:P.Ok τ):P.p.Ok (P.q.put (τ.set P.t (.list lk)) b):=⟨h.p.ne,h.p.np,h.p.nq,h.p.bx,h.p.bf,h.p.bp⟩
theorem P2.Ok.qq (h:P.Ok τ):P.q.Ok (P.p.put (τ.set P.t (.list lk)) a):=⟨h.q.ne,h.q.np,h.q.nq,h.q.bx,h.q.bf,h.q.bp⟩
theorem P2.swap (h:P.Ok τ):P.sto τ a b lk=P.q.put (P.p.put (τ.set P.t (.list lk)) a) b:=rs h.q1 h.q2 h.q3
theorem P2.get_t (h:P.Ok τ):(P.sto τ a b lk).get P.t=some (.list lk):=by
 unfold P2.sto
 rw [Pl3.other h.tp.1 h.tp.2.1 h.tp.2.2,Pl3.other h.tq.1 h.tq.2.1 h.tq.2.2]
 exact if_pos rfl
theorem P2.set_t (h:P.Ok τ):(P.sto τ a b lk).set P.t (.list lk')=P.sto τ a b lk':=by
 unfold P2.sto
 rw [Pl3.set_ h.tp.1 h.tp.2.1 h.tp.2.2,Pl3.set_ h.tq.1 h.tq.2.1 h.tq.2.2]
 refine congrArg (fun s=>P.p.put (P.q.put s b) a) (Sto.ext' rfl fun j=>?_)
 dsimp only [Sto.set]
 split<;>rfl
end
section
variable {C:Cx} {k:Nat} {ρ ρ1:Loc} {P:P2} {τ:Sto} {a b:LS} {lk lk':List V} {o e:Ex} {v:V}
theorem Bn (L:Lex C) (h:P.Ok τ) (ho:EvE C (k+4) o ρ (P.sto τ a b lk) (.loc P.p.lx) (P.sto τ a b lk)) (hx:a.x.length<800000) (hq:a.q.length<1000):EvE C (k+4) (.meth o aU []) ρ (P.sto τ a b lk) a.tok.1 (P.sto τ a.tok.2 b lk) :=
 oM L h.pp ho hx hq
theorem Bo (L:Lex C) (h:P.Ok τ) (ho:EvE C (k+4) o ρ (P.sto τ a b lk) (.loc P.q.lx) (P.sto τ a b lk)) (hx:b.x.length<800000) (hq:b.q.length<1000):EvE C (k+4) (.meth o aU []) ρ (P.sto τ a b lk) b.tok.1 (P.sto τ a b.tok.2 lk):=by
 rw [P2.swap h] at ho
 rw [P2.swap h,P2.swap h]
 exact oM L h.qq ho hx hq
theorem Cl (L:Lex C) (h:P.Ok τ) (ho:EvE C (k+1) o ρ (P.sto τ a b lk) (.loc P.p.lx) (P.sto τ a b lk)) (he:EvE C (k+1) e ρ (P.sto τ a b lk) v (P.sto τ a b lk')) (hq:a.q.length<1000):EvE C (k+1) (.meth o bw [e]) ρ (P.sto τ a b lk) .none (P.sto τ ⟨a.x,a.q++[v],a.line⟩ b lk') :=
 me L h.pp ho (ah he ai) h.pp hq
theorem Cm (L:Lex C) (h:P.Ok τ) (ho:EvE C (k+1) o ρ (P.sto τ a b lk) (.loc P.q.lx) (P.sto τ a b lk)) (he:EvE C (k+1) e ρ (P.sto τ a b lk) v (P.sto τ a b lk')) (hq:b.q.length<1000):EvE C (k+1) (.meth o bw [e]) ρ (P.sto τ a b lk) .none (P.sto τ a ⟨b.x,b.q++[v],b.line⟩ lk'):=by
 rw [P2.swap h] at ho
 rw [P2.swap h,P2.swap (lk:=lk') h] at he
 rw [P2.swap h,P2.swap h]
 exact me L h.qq ho (ah he ai) h.qq hq
end
structure Wd where
 c:Co
 hi:Nat
noncomputable def Wd.word (w:Wd):List Nat:=ek w.c.l w.hi
noncomputable def qs (l:List Wd):List V:=l.map fun w=>.str w.word
structure Wd.Ok (w:Wd):Prop where
 lt:w.c.Lt 262144
 hi:w.hi=0\/w.hi=128
noncomputable def Co.mx (c:Co):Nat:=max (max c.r c.g) c.b
noncomputable def Co.mn (c:Co):Nat:=min (min c.r c.g) c.b
noncomputable def Co.opp (c:Co):Co:=⟨c.mx+c.mn - c.r,c.mx+c.mn - c.g,c.mx+c.mn - c.b⟩
noncomputable def j1 (c:Co):UInt64:=bif feq (mnF (q15 c.r) (q15 c.g) (q15 c.b)) (mxF (q15 c.r) (q15 c.g) (q15 c.b)) then 0 else fY (q15 c.r) (q15 c.g) (q15 c.b)
noncomputable def bG (c:Co):V:=mz c (j1 c) c.opp
noncomputable def pi (deep:Nat) (u v:Wd):Wd:=⟨u.c.add v.c,128*deep⟩
noncomputable def w7 (deep:Nat) (u v:Wd):Wd:=⟨u.c.add v.c.opp,128 - 128*deep⟩
noncomputable def eS:Prop:=∀ (deep:Nat) (c:Co),c.Lt 32768->A2 deep c (j1 c) c.opp
structure cU (C:Cx):Prop where
 H:COk C
 B:Bi C
 L:Lex C
 K:hC C
 word:DefAt C cj jg T_law_word
 pv:DefAt C bv du T_parse_varint
 parts:DefAt C bI gz T_law_parts
 mixed:DefAt C bu gy T_law_mixed
 across:DefAt C bH hG T_law_across
section
variable {C:Cx} {k:Nat} {ρ ρ1:Loc} {P:P2} {τ σ σ1:Sto} {a b:LS} {lk:List V} {u v:Wd}
noncomputable abbrev gq (P:P2) (deep:Nat) (l:V) (x y:V):Loc:=[(aI,.list [.loc P.p.lx,.loc P.q.lx]),(dO,.int (deep:Int)),(bc,.loc P.t),(aO,l),(fj,x),(fD,y)]
noncomputable abbrev CO:Ex:=.call (.glob bI) [(.meth (.var aO) aU [])]
noncomputable abbrev uM:List St:=[.expr (.meth (.sub (.var aI) (.cInt 0)) bw [(.call (.glob cj) [(.call (.glob bu) [(.var fj),(.var fD)]),(.bin .Mult (.cInt 128) (.var dO))])]),.expr (.meth (.sub (.var aI) (.cInt 1)) bw [(.call (.glob cj) [(.call (.glob bu) [(.var fj),(.call (.glob bH) [(.var fD),(.var dO),(.var bc)])]),(.bin .Sub (.cInt 128) (.bin .Mult (.cInt 128) (.var dO)))])])]
theorem ma (D:cU C) {e:Ex} {w:Wd} (hw:w.Ok) (he:EvE C (k+2) e ρ σ (.str w.word) σ1):EvE C (k+2) (.call (.glob bI) [e]) ρ σ w.c.row σ1 :=
 aK D.H (ah he ai) (zh (k:=k) D.H D.B D.pv D.parts hw.lt.1 hw.lt.2.1 hw.lt.2.2 hw.hi)
theorem rS (D:cU C) (G:eS) (h:P.Ok τ) {deep:Nat} {l:V} (hd:deep<=1) (hv:v.c.Lt 32768) (ha:a.q.length<1000) (hb:b.q.length<1000) (hlk:lk.length<=1000) :
 ExL C (k+3) uM (gq P deep l u.c.row v.c.row) (P.sto τ a b lk) .next (gq P deep l u.c.row v.c.row) (P.sto τ ⟨a.x,a.q++[.str (pi deep u v).word],a.line⟩ ⟨b.x,b.q++[.str (w7 deep u v).word],b.line⟩ (lk++[bG v.c])):=by
 have H:=D.H
 have E1:=Cl (C:=C) (k:=k+2) (P:=P) (a:=a) (b:=b) (lk:=lk) (lk':=lk) (ρ:=gq P deep l u.c.row v.c.row) (o:=.sub (.var aI) (.cInt 0)) (v:=.str (pi deep u v).word) D.L h (dy (j:=0) (aa rfl) au rfl (by decide))
  (aK H (ah (aK H (ah (aa (x:=fj) rfl) (ah (aa (x:=fD) rfl) ai)) (lE (k:=k+2) H D.B D.mixed)) (ah (EvE.eq (ak au (aa (x:=dO) rfl) (iI (.of_left (by decide)))) (congrArg V.int (show (128:Int)*(deep:Int)=((128*deep:Nat):Int) from by rfl))) ai)) (sw (k:=k+2) H D.B D.word (by exact Nat.le_of_ble_eq_true rfl) (by omega))) ha
 have A:EvE C (k+3) (.call (.glob bH) [(.var fD),(.var dO),(.var bc)]) (gq P deep l u.c.row v.c.row) (P.sto τ ⟨a.x,a.q++[.str (pi deep u v).word],a.line⟩ b lk) v.c.opp.row (P.sto τ ⟨a.x,a.q++[.str (pi deep u v).word],a.line⟩ b (lk++[bG v.c])):=by
  have:=qe (C:=C) (k:=k) D.K D.across (G deep v.c hv) (P2.get_t (a:=⟨a.x,a.q++[.str (pi deep u v).word],a.line⟩) (b:=b) (lk:=lk) h) hlk
  rw [P2.set_t h] at this
  exact aK H (ah (aa rfl) (ah (aa rfl) (ah (aa rfl) ai))) this
 have E2:=Cm (C:=C) (k:=k+2) (P:=P) (a:=⟨a.x,a.q++[.str (pi deep u v).word],a.line⟩) (b:=b) (lk:=lk) (lk':=lk++[bG v.c]) (ρ:=gq P deep l u.c.row v.c.row) (o:=.sub (.var aI) (.cInt 1)) (v:=.str (w7 deep u v).word) D.L h (dy (j:=1) (aa rfl) au rfl (by decide))
  (aK H (ah (aK H (ah (aa (x:=fj) rfl) (ah A ai)) (lE (k:=k+2) H D.B D.mixed)) (ah (EvE.eq (ak au (ak au (aa (x:=dO) rfl) (iI (.of_left (by decide)))) jy) (congrArg V.int (show (128:Int) - 128*(deep:Int)=((128 - 128*deep:Nat):Int) from by omega))) ai)) (sw (k:=k+2) H D.B D.word (by exact Nat.le_of_ble_eq_true rfl) (by omega))) hb
 exact aq (gE E1 rfl) (aq (gE E2 rfl) aE)
end
end
section
open PySem PyProof.Rows
set_option maxRecDepth 100000
section
variable {C:Cx} {k:Nat} {ρ ρ1:Loc} {P:P2} {τ σ σ1 σ2 σ3:Sto} {a b:LS} {lk:List V} {u v:Wd}
noncomputable abbrev ym:List St:=.assign [fj] false CO::.assign [fD] false CO::uM
theorem rA (D:cU C) {deep:Nat} {l:V} (hu:u.Ok) (hv:v.Ok) (hp:∀ x y,put (put ρ1 fj x) fD y=gq P deep l x y) {f:Fl} {ρ2:Loc}
 (E1:∀ ρ,get ρ aO=some l->EvE C (k+4) (.meth (.var aO) aU []) ρ σ (.str u.word) σ1) (E2:∀ ρ,get ρ aO=some l->EvE C (k+4) (.meth (.var aO) aU []) ρ σ1 (.str v.word) σ2) (g:get ρ1 aO=some l)
 (h:ExL C (k+4) uM (gq P deep l u.c.row v.c.row) σ2 f ρ2 σ3):ExL C (k+4) ym ρ1 σ f ρ2 σ3:=by
 refine aq (aj (ma (k:=k+2) D hu (E1 _ g)) rfl fun _=>rfl) (aq (aj (ma (k:=k+2) D hv (E2 _ ?_)) rfl fun _=>rfl) ?_)
 ·show get (put ρ1 fj _) aO=_
  rw [cg,if_neg (by decide)];exact g
 ·show ExL C (k+4) uM (put (put ρ1 fj _) fD _) σ2 f ρ2 σ3
  rw [hp];exact h
theorem mS (x y:List Wd):qs (x++y)=qs x++qs y:=List.map_append
theorem yM (D:cU C) (G:eS) (h:P.Ok τ) {deep:Nat} {N M:Int} {x y:List Nat} {A B:List Wd} (hd:deep<=1) (hu:u.Ok) (hv:v.Ok) (hv2:v.c.Lt 32768) (hx:x.length<800000) (hA:A.length<100) (hB:B.length<100) (hlk:lk.length<=1000) (hp:∀ a b,put (put ρ1 fj a) fD b=gq P deep (.loc P.p.lx) a b) (g:get ρ1 aO=some (.loc P.p.lx)) :
 ExL C (k+4) ym ρ1 (P.sto τ (lsN N x (qs (u::v::A))) (lsN M y (qs B)) lk) .next (gq P deep (.loc P.p.lx) u.c.row v.c.row) (P.sto τ (lsN N x (qs (A++[pi deep u v]))) (lsN M y (qs (B++[w7 deep u v]))) (lk++[bG v.c])):=by
 have q:∀ l:List Wd,(qs l).length=l.length:=fun l=>List.length_map ..
 refine rA D hu hv hp (fun ρ hρ=>?_) (fun ρ hρ=>?_) g (σ1:=P.sto τ (lsN N x (qs (v::A))) (lsN M y (qs B)) lk) (σ2:=P.sto τ (lsN N x (qs A)) (lsN M y (qs B)) lk) ?_
 ·exact Bn (k:=k) (a:=lsN N x (qs (u::v::A))) D.L h (aa hρ) hx (by show (qs (u::v::A)).length<1000;rw [q];simp;omega)
 ·exact Bn (k:=k) (a:=lsN N x (qs (v::A))) D.L h (aa hρ) hx (by show (qs (v::A)).length<1000;rw [q];simp;omega)
 ·rw [mS,mS]
  exact rS (k:=k+1) D G h hd hv2 (by show (qs A).length<1000;rw [q];omega) (by show (qs B).length<1000;rw [q];omega) hlk
theorem yN (D:cU C) (G:eS) (h:P.Ok τ) {deep:Nat} {N M:Int} {x y:List Nat} {A B:List Wd} (hd:deep<=1) (hu:u.Ok) (hv:v.Ok) (hv2:v.c.Lt 32768) (hy:y.length<800000) (hA:A.length<100) (hB:B.length<100) (hlk:lk.length<=1000) (hp:∀ a b,put (put ρ1 fj a) fD b=gq P deep (.loc P.q.lx) a b) (g:get ρ1 aO=some (.loc P.q.lx)) :
 ExL C (k+4) ym ρ1 (P.sto τ (lsN N x (qs A)) (lsN M y (qs (u::v::B))) lk) .next (gq P deep (.loc P.q.lx) u.c.row v.c.row) (P.sto τ (lsN N x (qs (A++[pi deep u v]))) (lsN M y (qs (B++[w7 deep u v]))) (lk++[bG v.c])):=by
 have q:∀ l:List Wd,(qs l).length=l.length:=fun l=>List.length_map ..
 refine rA D hu hv hp (fun ρ hρ=>?_) (fun ρ hρ=>?_) g (σ1:=P.sto τ (lsN N x (qs A)) (lsN M y (qs (v::B))) lk) (σ2:=P.sto τ (lsN N x (qs A)) (lsN M y (qs B)) lk) ?_
 ·exact Bo (k:=k) (b:=lsN M y (qs (u::v::B))) D.L h (aa hρ) hy (by show (qs (u::v::B)).length<1000;rw [q];simp;omega)
 ·exact Bo (k:=k) (b:=lsN M y (qs (v::B))) D.L h (aa hρ) hy (by show (qs (v::B)).length<1000;rw [q];simp;omega)
 ·rw [mS,mS]
  exact rS (k:=k+1) D G h hd hv2 (by show (qs A).length<1000;rw [q];omega) (by show (qs B).length<1000;rw [q];omega) hlk
noncomputable def cr (deep:Nat) (f:Nat->Wd) (j:Nat):Wd:=if j<4 then pi deep (f (2*j)) (f (2*j+1)) else w7 deep (f (2*(j - 4))) (f (2*(j - 4)+1))
noncomputable def lo4 (f:Nat->Wd):List Wd:=[f 0,f 1,f 2,f 3]
noncomputable def hi4 (f:Nat->Wd):List Wd:=[f 4,f 5,f 6,f 7]
noncomputable def fG (f:Nat->Wd):List V:=[bG (f 1).c,bG (f 3).c,bG (f 5).c,bG (f 7).c]
theorem BD (D:cU C) (d:DefAt C dB hH T_law_pass) (G:eS) (h:P.Ok τ) {deep:Nat} {N M:Int} {x y:List Nat} {f:Nat->Wd} (hd:deep<=1) (hf:∀ j,j<8->(f j).Ok/\(f j).c.Lt 32768) (hx:x.length<800000) (hy:y.length<800000) (hlk:lk.length<=900) :
 Calls C (k+5) dB [.list [.loc P.p.lx,.loc P.q.lx],.int (deep:Int),.loc P.t] (P.sto τ (lsN N x (qs (lo4 f))) (lsN M y (qs (hi4 f))) lk) .none (P.sto τ (lsN N x (qs (lo4 (cr deep f)))) (lsN M y (qs (hi4 (cr deep f)))) (lk++fG f)):=by
 have hl:∀ vs:List V,vs.length<=3->(lk++vs).length<=1000:=fun vs hv=>by rw [List.length_append];omega
 have e:lk++fG f=lk++[bG (f 1).c]++[bG (f 3).c]++[bG (f 5).c]++[bG (f 7).c]:=by simp [fG]
 have S1:=yM (C:=C) (k:=k) (P:=P) (τ:=τ) (lk:=lk) (u:=f 0) (v:=f 1) (A:=[f 2,f 3]) (B:=hi4 f) (N:=N) (M:=M) (x:=x) (y:=y) (ρ1:=[(aI,.list [.loc P.p.lx,.loc P.q.lx]),(dO,.int (deep:Int)),(bc,.loc P.t),(aO,.loc P.p.lx)]) D G h hd (hf 0 (by decide)).1 (hf 1 (by decide)).1 (hf 1 (by decide)).2 hx (Nat.le_of_ble_eq_true rfl) (Nat.le_of_ble_eq_true rfl) (by omega) (fun _ _=>rfl) rfl
 have S2:=yM (C:=C) (k:=k) (P:=P) (τ:=τ) (lk:=lk++[bG (f 1).c]) (u:=f 2) (v:=f 3) (A:=[cr deep f 0]) (B:=hi4 f++[cr deep f 4]) (N:=N) (M:=M) (x:=x) (y:=y) (ρ1:=gq P deep (.loc P.p.lx) (f 0).c.row (f 1).c.row) D G h hd (hf 2 (by decide)).1 (hf 3 (by decide)).1 (hf 3 (by decide)).2 hx (Nat.le_of_ble_eq_true rfl) (Nat.le_of_ble_eq_true rfl) (hl _ (Nat.le_of_ble_eq_true rfl)) (fun _ _=>rfl) rfl
 have S3:=yN (C:=C) (k:=k) (P:=P) (τ:=τ) (lk:=lk++[bG (f 1).c]++[bG (f 3).c]) (u:=f 4) (v:=f 5) (A:=[cr deep f 0,cr deep f 1]) (B:=[f 6,f 7,cr deep f 4,cr deep f 5]) (N:=N) (M:=M) (x:=x) (y:=y) (ρ1:=gq P deep (.loc P.q.lx) (f 2).c.row (f 3).c.row) D G h hd (hf 4 (by decide)).1 (hf 5 (by decide)).1 (hf 5 (by decide)).2 hy (Nat.le_of_ble_eq_true rfl) (Nat.le_of_ble_eq_true rfl) (by rw [List.append_assoc];exact hl _ (Nat.le_of_ble_eq_true rfl)) (fun _ _=>rfl) rfl
 have S4:=yN (C:=C) (k:=k) (P:=P) (τ:=τ) (lk:=lk++[bG (f 1).c]++[bG (f 3).c]++[bG (f 5).c]) (u:=f 6) (v:=f 7) (A:=[cr deep f 0,cr deep f 1,cr deep f 2]) (B:=[cr deep f 4,cr deep f 5,cr deep f 6]) (N:=N) (M:=M) (x:=x) (y:=y) (ρ1:=gq P deep (.loc P.q.lx) (f 4).c.row (f 5).c.row) D G h hd (hf 6 (by decide)).1 (hf 7 (by decide)).1 (hf 7 (by decide)).2 hy (Nat.le_of_ble_eq_true rfl) (Nat.le_of_ble_eq_true rfl) (by rw [List.append_assoc,List.append_assoc];exact hl _ (Nat.le_of_ble_eq_true rfl)) (fun _ _=>rfl) rfl
 rw [e]
 refine d.calls (ρ':=gq P deep (.loc P.q.lx) (f 6).c.row (f 7).c.row) (f:=.next) D.H ?_ rfl rfl
 unfold T_law_pass
 have ln:∀ ρ σ,get ρ aI=some (.list [.loc P.p.lx,.loc P.q.lx])->EvE C (k+4) (.list [(.sub (.var aI) (.cInt 0)),(.sub (.var aI) (.cInt 0)),(.sub (.var aI) (.cInt 1)),(.sub (.var aI) (.cInt 1))]) ρ σ (.list [.loc P.p.lx,.loc P.p.lx,.loc P.q.lx,.loc P.q.lx]) σ:=fun ρ σ g=>by
  have e0:EvE C (k+4) (.sub (.var aI) (.cInt 0)) ρ σ (.loc P.p.lx) σ:=dy (j:=0) (aa g) au rfl (by decide)
  have e1:EvE C (k+4) (.sub (.var aI) (.cInt 1)) ρ σ (.loc P.q.lx) σ:=dy (j:=1) (aa g) au rfl (by decide)
  exact cu (ah e0 (ah e0 (ah e1 (ah e1 ai)))) (szl rfl)
 exact aq (jj (ln _ _ rfl) rfl rfl (.step rfl S1 (.step rfl S2 (.step rfl S3 (.step rfl S4 (.done aE)))))) aE
end
end
section
open PySem PyProof.Rows
set_option maxRecDepth 100000
noncomputable def RW:List Nat->List (List Nat)->List Nat->Prop
 | x,[],xe=>x=xe
 | x,w::ws,xe=>∃ z,Tk x w z/\RW z ws xe
theorem RW.len {ws:List (List Nat)} {xe:List Nat}:∀ {x:List Nat},RW x ws xe->xe.length<=x.length:=by
 induction ws with
 | nil=>intro x h;exact Nat.le_of_eq (congrArg List.length h.symm)
 | cons w ws ih=>intro x h;obtain ⟨z,t,r⟩:=h;exact Nat.le_trans (ih r) t.len
section
variable {C:Cx} {k:Nat} {ρ ρ1:Loc} {P:P2} {p:Pl3} {τ σ σ1 σ2 σ3:Sto} {a b:LS} {lk:List V} {u v:Wd}
theorem vq (L:Lex C) (h:p.Ok τ) {N:Int} {xe:List Nat} (hl:∀ v,get (put ρ n_k v) aO=some (.loc p.lx)) (hf:fresh ρ [n_k]=true):∀ (ws:List (List Nat)) (x:List Nat) (j:Int),RW x ws xe->x.length<800000 ->
 CompR C (k+4) (.meth (.var aO) aU []) [[n_k]] [] [[]] ρ (p.put τ (lsN N x [])) (cb j ws.length) (a9 ws) (p.put τ (lsN N xe [])):=by
 intro ws
 induction ws with
 | nil=>intro x j h _;cases h;exact .nil
 | cons w ws ih =>
   intro x j h hx
   obtain ⟨z,t,r⟩:=h
   exact .emit (ρ1:=put ρ n_k (.int j)) rfl hf ⟨rfl,rfl⟩ (oN (k:=k) L ‹_› (aa (hl _)) hx t) (ih z (j+1) r (Nat.lt_of_le_of_lt t.len hx))
noncomputable abbrev Dy:List St:=[.assign [aV] false (.comp (.meth (.var aO) aU []) [[n_k]] [(.call (.glob aY) [(.cInt 4)])] [[]] [ax,n_k]),.for_ [aL] (.var aV) [.expr (.meth (.var aO) bw [(.var aL)])] []]
theorem kh (L:Lex C) (h:p.Ok τ) {N:Int} {x:List Nat} {w:Wd} {q:List Wd} (g:get ρ aO=some (.loc p.lx)) (gw:get ρ aL=some (.str w.word)) (hq:q.length<100):ExL C (k+1) [.expr (.meth (.var aO) bw [(.var aL)])] ρ (p.put τ (lsN N x (qs q))) .next ρ (p.put τ (lsN N x (qs (q++[w])))):=by
 rw [mS]
 exact aq (gE (me (b:=lsN N x (qs q)) L h (aa g) (ah (aa gw) ai) h (by show (qs q).length<1000;unfold qs;rw [List.length_map];omega)) rfl) aE
theorem nV (D:cU C) (h:p.Ok τ) {N:Int} {x xe:List Nat} {w0 w1 w2 w3:Wd} (hx:x.length<800000) (hr:RW x ([w0,w1,w2,w3].map Wd.word) xe) (hd:ft ρ1 [ax,n_k]=ρ1) (hf:fresh ρ1 [n_k]=true) (hl:get ρ1 aO=some (.loc p.lx)) :
 ExL C (k+5) Dy ρ1 (p.put τ (lsN N x [])) .next (put (put ρ1 aV (.list (qs [w0,w1,w2,w3]))) aL (.str w3.word)) (p.put τ (lsN N xe (qs [w0,w1,w2,w3]))):=by
 have g1:∀ v,get (put ρ1 n_k v) aO=some (.loc p.lx):=fun v=>by rw [cg,if_neg (by decide)];exact hl
 have CR:=vq (C:=C) (k:=k+1) (ρ:=ρ1) D.L h (N:=N) g1 hf _ x 0 hr hx
 refine aq (ρ1:=put ρ1 aV (.list (qs [w0,w1,w2,w3]))) (σ1:=p.put τ (lsN N xe [])) (d6 (fJ (vs:=cb 0 4) (aC D.H D.B.range (ah au ai) bo) rfl (by rfl) (by rw [hd];exact CR) (szl rfl))) ?_
 have gl:∀ v,get (put (put ρ1 aV (.list (qs [w0,w1,w2,w3]))) aL v) aO=some (.loc p.lx):=fun v=>by rw [cg,if_neg (by decide),cg,if_neg (by decide)];exact hl
 have gw:∀ v,get (put (put ρ1 aV (.list (qs [w0,w1,w2,w3]))) aL v) aL=some v:=fun v=>by rw [cg,if_pos rfl]
 have bt:∀ u v,ci (put (put ρ1 aV (.list (qs [w0,w1,w2,w3]))) aL u) [aL] v=some (put (put ρ1 aV (.list (qs [w0,w1,w2,w3]))) aL v):=fun u v=>congrArg some (As _ _ _ _)
 refine aq (jj (vs:=qs [w0,w1,w2,w3]) (aa (by rw [cg,if_pos rfl])) rfl rfl ?_) aE
 have len:∀ {l:List Wd},Nat.ble (l.length+1) 100=true->l.length<100:=fun h=>Nat.le_of_ble_eq_true h
 exact .step rfl (kh (k:=k+4) (q:=[]) D.L h (gl _) (gw _) (len rfl)) (.step (bt _ _) (kh (k:=k+4) (q:=[w0]) D.L h (gl _) (gw _) (len rfl)) (.step (bt _ _) (kh (k:=k+4) (q:=[w0,w1]) D.L h (gl _) (gw _) (len rfl)) (.step (bt _ _) (kh (k:=k+4) (q:=[w0,w1,w2]) D.L h (gl _) (gw _) (len rfl)) (.done aE))))
theorem nI (D:cU C) (h:p.Ok τ) {N:Int} {x:List Nat} (hx:x.length<800000) (hl:∀ v,get (put ρ n_k v) aO=some (.loc p.lx)) (hf:fresh ρ [n_k]=true):∀ (ws:List Wd) (j:Int),ws.length<100->(∀ w∈ws,w.Ok) ->
 CompR C (k+4) CO [[n_k]] [] [[]] ρ (p.put τ (lsN N x (qs ws))) (cb j ws.length) (ws.map fun w=>w.c.row) (p.put τ (lsN N x [])):=by
 intro ws
 induction ws with
 | nil=>intro j _ _;exact .nil
 | cons w ws ih =>
   intro j hn ho
   have E:=oM (C:=C) (k:=k) (ρ:=put ρ n_k (.int j)) (o:=.var aO) D.L h (a:=lsN N x (.str w.word::qs ws)) (aa (hl _)) hx (by show (_::qs ws).length<1000;unfold qs;rw [List.length_cons,List.length_map];simp at hn;omega)
   rw [yG] at E
   exact .emit (ρ1:=put ρ n_k (.int j)) rfl hf ⟨rfl,rfl⟩ (ma (k:=k+2) D (ho w (.head _)) E) (ih (j+1) (by simp at hn;omega) fun q hq=>ho q (.tail _ hq))
noncomputable def DI (f:Nat->Wd):List V:=[(f 0).c.row,(f 1).c.row,(f 2).c.row,(f 3).c.row,(f 4).c.row,(f 5).c.row,(f 6).c.row,(f 7).c.row]
structure si (first:Nat) (f0 f1 f2 f3:Nat->Wd):Prop where
 e1:f1=cr (first % 2) f0
 e2:f2=cr ((1+first) % 2) f1
 e3:f3=cr ((2+first) % 2) f2
 o0:∀ j,j<8->(f0 j).Ok/\(f0 j).c.Lt 32768
 o1:∀ j,j<8->(f1 j).Ok/\(f1 j).c.Lt 32768
 o2:∀ j,j<8->(f2 j).Ok/\(f2 j).c.Lt 32768
 o3:∀ j,j<8->(f3 j).Ok/\(f3 j).c.Lt 32768
theorem BF (D:cU C) (dp:DefAt C dB hH T_law_pass) (d:DefAt C eP iA T_law_run_2) (G:eS) (h:P.Ok τ) {first:Nat} {N M:Int} {x y xe ye:List Nat} {f0 f1 f2 f3:Nat->Wd} (R:si first f0 f1 f2 f3) (hx:x.length<800000) (hy:y.length<800000)
 (rx:RW x ((lo4 f0).map Wd.word) xe) (ry:RW y ((hi4 f0).map Wd.word) ye) :
 Calls C (k+6) eP [.list [.loc P.p.lx,.loc P.q.lx],.int (first:Int),.loc P.t] (P.sto τ (lsN N x []) (lsN M y []) []) (.list (DI f3)) (P.sto τ (lsN N xe []) (lsN M ye []) (fG f0++(fG f1++fG f2))):=by
 have H:=D.H;have B:=D.B
 have hxe:xe.length<800000:=Nat.lt_of_le_of_lt rx.len hx
 have hye:ye.length<800000:=Nat.lt_of_le_of_lt ry.len hy
 have W1:=nV (C:=C) (k:=k) (p:=P.p) D (h.pp (lk:=[]) (b:=lsN M y [])) (N:=N) (ρ1:=[(aI,.list [.loc P.p.lx,.loc P.q.lx]),(bj,.int (first:Int)),(bc,.loc P.t),(aO,.loc P.p.lx)]) hx rx rfl rfl rfl
 have W2:=nV (C:=C) (k:=k) (p:=P.q) D (h.qq (lk:=[]) (a:=lsN N xe (qs (lo4 f0)))) (N:=M) (ρ1:=[(aI,.list [.loc P.p.lx,.loc P.q.lx]),(bj,.int (first:Int)),(bc,.loc P.t),(aO,.loc P.q.lx),(aV,.list (qs (lo4 f0))),(aL,.str (f0 3).word)]) hy ry rfl rfl rfl
 rw [<-P2.swap h,<-P2.swap h] at W2
 refine d.callsE H ?_ rfl
 unfold T_law_run_2
 refine ap (jj (vs:=[.loc P.p.lx,.loc P.q.lx]) (aa rfl) rfl rfl (.step rfl W1 (.step rfl W2 (.done aE)))) ?_
 have F:∀ (j:Nat) (f:Nat->Wd) (lk:List V) (ρ:Loc),lk.length<=900->(∀ j,j<8->(f j).Ok/\(f j).c.Lt 32768)->get ρ aI=some (.list [.loc P.p.lx,.loc P.q.lx])->get ρ bj=some (.int (first:Int))->get ρ bc=some (.loc P.t)->get ρ gN=some (.int (j:Int)) ->
  ExL C (k+5) [.expr (.call (.glob dB) [(.var aI),(.bin .Mod (.bin .Add (.var gN) (.var bj)) (.cInt 2)),(.var bc)])] ρ (P.sto τ (lsN N xe (qs (lo4 f))) (lsN M ye (qs (hi4 f))) lk) .next ρ (P.sto τ (lsN N xe (qs (lo4 (cr ((j+first) % 2) f)))) (lsN M ye (qs (hi4 (cr ((j+first) % 2) f)))) (lk++fG f)):=fun j f lk ρ hlk hf g1 g2 g3 g4 =>
  aq (gE (aK H (ah (aa g1) (ah (dn 2 (by decide) (EvE.eq (v':=.int ((j+first:Nat):Int)) (ak (aa g4) (aa g2) gQ) (congrArg V.int (by rfl)))) (ah (aa g3) ai))) (BD (k:=k) D dp G h (Nat.le_of_lt_succ (Nat.mod_lt _ (by decide))) hf hxe hye hlk)) rfl) aE
 let ρ2:Loc:=[(aI,.list [.loc P.p.lx,.loc P.q.lx]),(bj,.int (first:Int)),(bc,.loc P.t),(aO,.loc P.q.lx),(aV,.list (qs (hi4 f0))),(aL,.str (f0 7).word)]
 have F0:=F 0 f0 [] (ρ2++[(gN,.int (0:Nat))]) (Nat.zero_le _) R.o0 rfl rfl rfl rfl
 have F1:=F 1 f1 (fG f0) (ρ2++[(gN,.int (1:Nat))]) (Nat.le_of_ble_eq_true rfl) R.o1 rfl rfl rfl rfl
 have F2:=F 2 f2 (fG f0++fG f1) (ρ2++[(gN,.int (2:Nat))]) (Nat.le_of_ble_eq_true rfl) R.o2 rfl rfl rfl rfl
 rw [Nat.zero_add,<-R.e1] at F0
 rw [<-R.e2] at F1
 rw [<-R.e3,List.append_assoc] at F2
 refine ap (ρ1:=ρ2++[(gN,.int (2:Nat))]) (jj (vs:=cb 0 3) (aC H B.range (ah au ai) bo) rfl (by rfl) (.step rfl F0 (.step rfl F1 (.step rfl F2 (.done aE))))) ?_
 have L1:=nI (C:=C) (k:=k+1) (p:=P.p) (ρ:=[(aI,.list [.loc P.p.lx,.loc P.q.lx]),(bj,.int (first:Int)),(bc,.loc P.t),(aV,.list (qs (hi4 f0))),(aL,.str (f0 7).word),(gN,.int (2:Nat)),(aO,.loc P.p.lx)]) D (h.pp (lk:=fG f0++(fG f1++fG f2)) (b:=lsN M ye (qs (hi4 f3)))) (N:=N) hxe (fun v=>rfl) rfl (lo4 f3) 0 (Nat.le_of_ble_eq_true rfl) (fun w hw=>by
  simp only [lo4,List.mem_cons,List.not_mem_nil,or_false] at hw
  rcases hw with rfl | rfl | rfl | rfl<;>exact (R.o3 _ (by decide)).1)
 have L2:=nI (C:=C) (k:=k+1) (p:=P.q) (ρ:=[(aI,.list [.loc P.p.lx,.loc P.q.lx]),(bj,.int (first:Int)),(bc,.loc P.t),(aV,.list (qs (hi4 f0))),(aL,.str (f0 7).word),(gN,.int (2:Nat)),(aO,.loc P.q.lx)]) D (h.qq (lk:=fG f0++(fG f1++fG f2)) (a:=lsN N xe [])) (N:=M) hye (fun v=>rfl) rfl (hi4 f3) 0 (Nat.le_of_ble_eq_true rfl) (fun w hw=>by
  simp only [hi4,List.mem_cons,List.not_mem_nil,or_false] at hw
  rcases hw with rfl | rfl | rfl | rfl<;>exact (R.o3 _ (by decide)).1)
 rw [<-P2.swap h,<-P2.swap h] at L2
 have rg:∀ ρ σ,EvE C (k+5) (.call (.glob aY) [(.cInt 4)]) ρ σ (.rng 0 4) σ:=fun ρ σ=>aC H B.range (ah au ai) bo
 exact bB (CompOk.ev (fJ (vs:=[.loc P.p.lx,.loc P.q.lx]) (aa rfl) rfl rfl (.inner (cs:=[]) (σ1:=P.sto τ _ _ _) (vs2:=cb 0 4) rfl rfl ⟨rfl,rfl⟩ (rg _ _) rfl (by rfl) L1 (.inner (cs:=[]) (σ1:=P.sto τ _ _ _) (vs2:=cb 0 4) rfl rfl ⟨rfl,rfl⟩ (rg _ _) rfl (by rfl) L2 .nil)) (szl rfl)))
end
end
section
open PySem PyProof.Rows
set_option maxRecDepth 100000
noncomputable def oddN:List Nat:=[0,1,1,0,1,0,0,1]
noncomputable def R8:List Nat:=[0,1,2,3,4,5,6,7]
theorem mA {i:Nat} (h:i∈R8):i<8:=(by decide:∀ i∈R8,i<8) i h
theorem at8 {P:Nat->Prop} (h0:P 0) (h1:P 1) (h2:P 2) (h3:P 3) (h4:P 4) (h5:P 5) (h6:P 6) (h7:P 7):∀ j,j<8->P j:=ltS h0 (at7 (P:=fun j=>P (j+1)) h1 h2 h3 h4 h5 h6 h7)
noncomputable def cy (f:Nat->Co):List V:=R8.map fun k=>(f k).row
theorem pS {f:Nat->Co}:∀ j,j<8->(cy f)[j]?=some (f j).row:=at8 rfl rfl rfl rfl rfl rfl rfl rfl
theorem Cb:∀ j,j<8->(zN oddN)[j]?=some (.int ((oddN.getD j 0:Nat):Int)):=at8 rfl rfl rfl rfl rfl rfl rfl rfl
theorem uL (c:Co):∀ j,j<3->(zN c.l)[j]?=some (.int ((c.l.getD j 0:Nat):Int)):=at3 rfl rfl rfl
noncomputable def dE (f:Nat->Co) (j part:Nat):Int:=(R8.map fun k=>if oddN.getD (k &&& j) 0≠0 then -((f k).l.getD part 0:Int) else ((f k).l.getD part 0:Int)).sum
noncomputable def aR (f:Nat->Co) (j:Nat):Nat->Co
 | 0=>⟨0,0,0⟩
 | n+1=>(aR f j n).add (if oddN.getD (n &&& j) 0≠0 then (f n).opp else f n)
section
variable {C:Cx} {k:Nat} {ρ ρ1:Loc} {σ σ1 σ2 σ3:Sto}
theorem wV (H:COk C) (d:DefAt C a6 jf T_law_tint) {a b c:Int}:Calls C (k+1) a6 [.list (zs [a,b,c])] σ (.list (zs [a - b,b - c])) σ:=by
 refine d.callsE H ?_ rfl
 unfold T_law_tint
 have at_:∀ (i:Nat) (x:Int),i<3->(zs [a,b,c])[i]?=some (.int x)->EvE C k (.sub (.var aQ) (.cInt (i:Int))) [(aQ,.list (zs [a,b,c]))] σ (.int x) σ:=fun i x hi h=>dy (aa rfl) au h (by omega)
 exact bB (cu (ah (ak (at_ 0 a (by decide) rfl) (at_ 1 b (by decide) rfl) jy) (ah (ak (at_ 1 b (by decide) rfl) (at_ 2 c (by decide) rfl) jy) ai)) (szl rfl))
theorem ua {i j:Nat} (hi:i<8) (hj:j<8) (g1:get ρ cp=some (.list (zN oddN))) (g2:get ρ n_k=some (.int (i:Int))) (g3:get ρ aD=some (.int (j:Int))):EvT C k (.sub (.var cp) (.bin .BitAnd (.var n_k) (.var aD))) ρ σ (decide (oddN.getD (i &&& j) 0≠0)) σ:=by
 have ha:i &&& j<8:=Nat.lt_of_le_of_lt Nat.and_le_left hi
 exact jV rfl (dy (aa g1) (EvE.eq (ak (aa g2) (aa g3) kS) (congrArg V.int (lT i j))) (Cb _ ha) (by omega))
theorem Dh (H:COk C) (B:Bi C) (d:DefAt C d9 kD T_law_sum) {f:Nat->Co} {j:Nat} (hj:j<8):Calls C (k+1) d9 [.list (cy f),.list (zN oddN),.int (j:Int)] σ (.list (zs [dE f j 0,dE f j 1,dE f j 2])) σ:=by
 refine d.callsE H ?_ rfl
 unfold T_law_sum
 have e1:V.list (zs [dE f j 0,dE f j 1,dE f j 2])=.list ([0,1,2].map fun part=>.int (dE f j part)):=rfl
 rw [e1]
 refine bB (c5 (l:=[0,1,2]) (inj:=fun i:Nat=>.int (i:Int)) (ρ1:=fun i=>[(aA,.list (cy f)),(cp,.list (zN oddN)),(aD,.int (j:Int)),(aJ,.int ((i:Nat):Int))]) (own:=[ax,aJ]) (aC H B.range (ah au ai) bo) rfl (by rfl) rfl (fun i=>rfl) (fun part hp=>?_) (szl rfl))
 have hp:part<3:=by simp at hp;omega
 refine aC H B.sum (ah (v:=.list (zs (R8.map fun k=>if oddN.getD (k &&& j) 0≠0 then -((f k).l.getD part 0:Int) else ((f k).l.getD part 0:Int)))) ?_ ai) sW
 refine c5 (l:=R8) (inj:=fun i:Nat=>.int (i:Int)) (f:=fun k=>.int (if oddN.getD (k &&& j) 0≠0 then -((f k).l.getD part 0:Int) else ((f k).l.getD part 0:Int))) (ρ1:=fun i=>[(aA,.list (cy f)),(cp,.list (zN oddN)),(aD,.int (j:Int)),(aJ,.int ((part:Nat):Int)),(n_k,.int ((i:Nat):Int))]) (own:=[ax,n_k]) (aC H B.range (ah au ai) bo) rfl (by rfl) rfl (fun i=>rfl) (fun i hi=>?_) (szl rfl)
 have hi:=mA hi
 have E:EvE C k (.sub (.sub (.var aA) (.var n_k)) (.var aJ)) [(aA,.list (cy f)),(cp,.list (zN oddN)),(aD,.int (j:Int)),(aJ,.int ((part:Nat):Int)),(n_k,.int ((i:Nat):Int))] σ (.int (((f i).l.getD part 0:Nat):Int)) σ :=
  dy (dy (aa rfl) (aa rfl) (pS i hi) (by omega)) (aa rfl) (uL _ part hp) (by omega)
 refine fV (ua hi hj rfl rfl rfl) (fun h=>?_) (fun h=>?_)
 ·rw [if_pos (of_decide_eq_true h)];exact xo E uJ
 ·rw [if_neg (of_decide_eq_false h)];exact E
noncomputable def dT (c:Co):UInt64:=bif feq (mnF (q18 c.r) (q18 c.g) (q18 c.b)) (mxF (q18 c.r) (q18 c.g) (q18 c.b)) then 0 else fY (q18 c.r) (q18 c.g) (q18 c.b)
structure DY (r g b:UInt64):Prop where
 zm:Float64.isZero (mxF r g b)=false
 z1:fle (de r g b) Fh=true->Float64.isZero (Float64.add (mxF r g b) (mnF r g b))=false
 z2:fle (de r g b) Fh=false->Float64.isZero (Float64.sub (Float64.sub F2 (mxF r g b)) (mnF r g b))=false
 zr:Float64.isZero (rgF r g b)=false
noncomputable def wE (c:Co):Prop:=c.Lt 262144/\(feq (mnF (q18 c.r) (q18 c.g) (q18 c.b)) (mxF (q18 c.r) (q18 c.g) (q18 c.b))=false->DY (q18 c.r) (q18 c.g) (q18 c.b))
theorem wP (K:hC C) (d:DefAt C cF jd T_law_hues) {c:Co} (h:wE c):Calls C (k+2) cF [c.row] σ (.list [.flu (dT c),.flu (dT c)]) σ:=by
 have H:=K.H
 have big:∀ m:Nat,m<262144->m<2 ^ 1000:=fun m h=>Nat.lt_of_lt_of_le h (Nat.le_trans (by decide:262144<=2 ^ 18) (Nat.pow_le_pow_right (by decide) (by decide)))
 refine d.callsE H ?_ rfl
 unfold T_law_hues
 refine ap (ρ1:=[(aQ,c.row),(ja,.flt (q18 c.r)),(eW,.flt (q18 c.g)),(gM,.flt (q18 c.b))]) (σ1:=σ)
  (aj (qv (n:=262144) (by decide) (big c.r h.1.1) (big c.g h.1.2.1) (big c.b h.1.2.2) rfl (fun v=>⟨rfl,_,rfl,rfl⟩)) rfl (fun h=>nomatch h)) ?_
 have P:∃ x y z w,Calls C (k+1) bS [.flt (q18 c.r),.flt (q18 c.g),.flt (q18 c.b)] σ (.tup [.flu (dT c),x,y]) σ/\Calls C (k+1) bR [.flt (q18 c.r),.flt (q18 c.g),.flt (q18 c.b)] σ (.tup [.flu (dT c),z,w]) σ:=by
  unfold dT
  cases e:feq (mnF (q18 c.r) (q18 c.g) (q18 c.b)) (mxF (q18 c.r) (q18 c.g) (q18 c.b)) with
  | true=>exact ⟨_,_,_,_,ni K e,nh K e⟩
  | false =>
    have q:=h.2 e
    exact ⟨_,_,_,_,oo K e q.zm q.zr,on K e q.z1 q.z2 q.zr⟩
 obtain ⟨x,y,z,w,P1,P2⟩:=P
 have A:∀ {n:Nm} {x y:V},Calls C (k+1) n [.flt (q18 c.r),.flt (q18 c.g),.flt (q18 c.b)] σ (.tup [.flu (dT c),x,y]) σ->EvE C (k+1) (.sub (.call (.glob n) [(.var ja),(.var eW),(.var gM)]) (.cInt 0)) [(aQ,c.row),(ja,.flt (q18 c.r)),(eW,.flt (q18 c.g)),(gM,.flt (q18 c.b))] σ (.flu (dT c)) σ:=fun q =>
  mf (aK H (ah (aa rfl) (ah (aa rfl) (ah (aa rfl) ai))) q) au vN PySem.F.slot_tuple_getitem.lookup (rh rfl (by simp) (by simp))
 exact bB (cu (ah (A P1) (ah (A P2) ai)) (szl rfl))
structure yV (σ σ1:Sto):Prop where
 nx:σ.next<=σ1.next
 old:∀ l o,σ.get l=some o->σ1.get l=some o
noncomputable abbrev wL:List St:=[.assign [fi] false (.call (.glob bu) [(.var fi),(.ite (.sub (.var cp) (.bin .BitAnd (.var n_k) (.var aD))) (.call (.glob bH) [(.sub (.var bF) (.var n_k)),(.bin .Mod (.var n_k) (.cInt 2)),(.list [])]) (.sub (.var bF) (.var n_k)))])]
theorem vc (D:cU C) (G:eS) (W:SWf σ) (hk:yV σ σ1) {f:Nat->Co} {i j:Nat} (hi:i<8) (hj:j<8) (hf:∀ k,k<8->(f k).Lt 32768) (g0:get ρ bF=some (.list (cy f))) (g1:get ρ cp=some (.list (zN oddN))) (g2:get ρ n_k=some (.int (i:Int))) (g3:get ρ aD=some (.int (j:Int))) (g4:get ρ fi=some (aR f j i).row) :
 ∃ σ2,yV σ σ2/\ExL C (k+3) wL ρ σ1 .next (put ρ fi (aR f j (i+1)).row) σ2:=by
 have H:=D.H
 have T:=ua (C:=C) (k:=k+3) (σ:=σ1) hi hj g1 g2 g3
 have hrow:EvE C (k+3) (.sub (.var bF) (.var n_k)) ρ σ1 (f i).row σ1:=dy (aa g0) (aa g2) (pS i hi) (by omega)
 have fin:∀ (x:Co) (σ2:Sto),x=(if oddN.getD (i &&& j) 0≠0 then (f i).opp else f i)->EvE C (k+3) (.ite (.sub (.var cp) (.bin .BitAnd (.var n_k) (.var aD))) (.call (.glob bH) [(.sub (.var bF) (.var n_k)),(.bin .Mod (.var n_k) (.cInt 2)),(.list [])]) (.sub (.var bF) (.var n_k))) ρ σ1 x.row σ2 ->
  ExL C (k+3) wL ρ σ1 .next (put ρ fi (aR f j (i+1)).row) σ2:=fun x σ2 hx E=>by
  have M:=aK (C:=C) (k:=k+3) (ρ:=ρ) H (ah (aa g4) (ah E ai)) (lE (k:=k+2) H D.B D.mixed)
  refine aq (aj M ?_ fun _=>rfl) aE
  rw [hx];rfl
 by_cases h:oddN.getD (i &&& j) 0≠0
 ·rw [decide_eq_true h] at T
  have A:=qe (C:=C) (k:=k) (σ:=σ1.new (.list [])) D.K D.across (G (i % 2) (f i) (hf i hi)) (t:=σ1.next) (vs:=[]) (if_pos rfl) (Nat.zero_le _)
  refine ⟨_,⟨Nat.le_trans hk.nx (Nat.le_succ _),fun l o e=>?_⟩,fin (f i).opp _ (if_pos h).symm (fV T (fun _=>aK H (ah hrow (ah (dn 2 (by decide) (aa g2)) (ah (jT ai (szl rfl)) ai))) A) (fun q=>by cases q))⟩
  have hl:l<σ.next:=(W l o e).1
  have hne:l≠σ1.next:=Nat.ne_of_lt (Nat.lt_of_lt_of_le hl hk.nx)
  show (if l=σ1.next then _ else if l=σ1.next then _ else σ1.get l)=some o
  rw [if_neg hne,if_neg hne];exact hk.old l o e
 ·rw [decide_eq_false h] at T
  exact ⟨σ1,hk,fin (f i) σ1 (if_neg h).symm (fV T (fun q=>by cases q) (fun _=>hrow))⟩
theorem BA (D:cU C) (d:DefAt C ei jc T_law_back) (G:eS) {f:Nat->Co} {j:Nat} (hj:j<8) (hf:∀ k,k<8->(f k).Lt 32768):Calls C (k+4) ei [.list (cy f),.list (zN oddN),.int (j:Int)] σ (aR f j 8).row σ:=by
 have H:=D.H;have B:=D.B
 refine Calls.wf d.fn fun W=>?_
 have loop:∀ (m i:Nat) (ρ:Loc) (σ1:Sto),i+m=8->yV σ σ1->(ρ=[(bF,.list (cy f)),(cp,.list (zN oddN)),(aD,.int (j:Int)),(fi,(aR f j i).row)]\/∃ u,ρ=[(bF,.list (cy f)),(cp,.list (zN oddN)),(aD,.int (j:Int)),(fi,(aR f j i).row),(n_k,u)]) ->
  ∃ ρ' σ',ForR C (k+3) [n_k] wL [] ρ σ1 (cb (i:Int) m) .next ρ' σ'/\yV σ σ'/\get ρ' fi=some (aR f j 8).row:=by
  intro m
  induction m with
  | zero =>
    intro i ρ σ1 hi hk hρ
    have:i=8:=hi
    subst this
    exact ⟨ρ,σ1,.done aE,hk,by rcases hρ with rfl | ⟨u,rfl⟩<;>rfl⟩
  | succ m ih =>
    intro i ρ σ1 hi hk hρ
    have hb:ci ρ [n_k] (.int (i:Int))=some [(bF,.list (cy f)),(cp,.list (zN oddN)),(aD,.int (j:Int)),(fi,(aR f j i).row),(n_k,.int (i:Int))]:=by
     rcases hρ with rfl | ⟨u,rfl⟩<;>rfl
    obtain ⟨σ2,hk2,S⟩:=vc (C:=C) (k:=k) (ρ:=[(bF,.list (cy f)),(cp,.list (zN oddN)),(aD,.int (j:Int)),(fi,(aR f j i).row),(n_k,.int (i:Int))]) D G W hk (by omega) hj hf rfl rfl rfl rfl rfl
    obtain ⟨ρ',σ',F,hk',g⟩:=ih (i+1) [(bF,.list (cy f)),(cp,.list (zN oddN)),(aD,.int (j:Int)),(fi,(aR f j (i+1)).row),(n_k,.int (i:Int))] σ2 (by omega) hk2 (.inr ⟨_,rfl⟩)
    exact ⟨ρ',σ',.step hb S F,hk',g⟩
 obtain ⟨ρ',σ',F,hk,g⟩:=loop 8 0 [(bF,.list (cy f)),(cp,.list (zN oddN)),(aD,.int (j:Int)),(fi,(aR f j 0).row)] σ rfl ⟨Nat.le_refl _,fun _ _ e=>e⟩ (.inl rfl)
 refine Calls.drop (σ':=σ') (d.callsE H ?_ rfl) (Sub.old hk.nx hk.old) ⟨trivial,trivial,trivial,trivial⟩
 unfold T_law_back
 refine ap (ρ1:=[(bF,.list (cy f)),(cp,.list (zN oddN)),(aD,.int (j:Int)),(fi,(aR f j 0).row)]) (σ1:=σ) (aj (cu (ah au (ah au (ah au ai))) (szl rfl)) rfl fun _=>rfl) ?_
 exact ap (jj (aC H B.range (ah au ai) bo) rfl (by rfl) F) (bB (aa g))
end
end
section
open PySem PyProof.Rows
set_option maxRecDepth 100000
noncomputable def kL (s:Nat):List Nat:=gaps.getD (s / 65536 % 4) []
noncomputable def jA (s:Nat):Nat:=s / 262144 % 2
noncomputable def sG (s:Nat):List Nat:=ends.getD (s / 524288) []
noncomputable def g9 (u j:Nat):Nat:=u / 4 ^ j % 4
noncomputable def gK (u j:Nat) (c:Co):Wd:=⟨c,g9 u j / 2*128⟩
noncomputable def mP (u s j:Nat) (c:Co):List Nat:=da (gK u j c).word (g9 u j)++(if jA s≠0/\g9 u j % 2=0 then [] else kL s)
noncomputable def c4 (f:Nat->Co) (u s:Nat):Nat->List Nat
 | 0=>kL s
 | j+1=>c4 f u s j++mP u s j (f j)
noncomputable def jb (f:Nat->Co) (u s:Nat):List Nat:=c4 f u s 4++sG s
noncomputable def mY (f:Nat->Co):List V:=[(f 0).row,(f 1).row,(f 2).row,(f 3).row]
theorem ms (s:Nat):(kL s).length<=3:=by
 have:∀ i,i<4->(gaps.getD i []).length<=3:=by decide
 exact this _ (Nat.mod_lt _ (by simp))
theorem we (u s j:Nat) (c:Co):(mP u s j c).length<=100:=by
 have h1:=kC (gK u j c).word (g9 u j)
 have h2:(gK u j c).word.length<=3*3:=i4 c.l (g9 u j / 2*128)
 have h3:=ms s
 unfold mP
 rw [List.length_append]
 split<;>(try simp only [List.length_nil])<;>omega
theorem iO (f:Nat->Co) (u s:Nat):∀ j,(c4 f u s j).length<=3+j*100
 | 0=>by have:=ms s;dsimp only [c4];omega
 | j+1=>by
   have ih:=iO f u s j
   have h:=we u s j (f j)
   dsimp only [c4]
   rw [List.length_append]
   omega
theorem ql {s:Nat}:(sG s).length<=5:=by
 unfold sG
 rcases Nat.lt_or_ge (s / 524288) 4 with h | h
 ·have:∀ i,i<4->(ends.getD i []).length<=5:=by decide
  exact this _ h
 ·rw [List.getD_eq_getElem?_getD,List.getElem?_eq_none (by exact h)]
  exact Nat.zero_le _
theorem og (f:Nat->Co) (u s:Nat):(jb f u s).length<=500:=by
 have h1:=iO f u s 4
 have h2:=ql (s:=s)
 unfold jb
 rw [List.length_append]
 omega
section
variable {C:Cx} {k:Nat} {ρ ρ1:Loc} {σ σ1 σ2 σ3:Sto}
noncomputable abbrev rT (f:Nat->Co) (u s:Nat) (x:List Nat):Loc:=[(aA,.list (mY f)),(jw,.int (u:Int)),(bz,.int (s:Int)),(fZ,.str (kL s)),(ik,.int (jA s:Int)),(bN,.str x)]
noncomputable abbrev Er:List St:=[.assign [bM] false (.bin .Mod (.bin .FloorDiv (.var jw) (.bin .Pow (.cInt 4) (.var n_k))) (.cInt 4)),.assign [bN] false (.bin .Add (.bin .Add (.var bN) (.call (.glob bV) [(.call (.glob cj) [(.sub (.var aA) (.var n_k)),(.bin .Mult (.bin .FloorDiv (.var bM) (.cInt 2)) (.cInt 128))]),(.var bM)])) (.ite (.boolop .And [(.var ik),(.cmp (.bin .Mod (.var bM) (.cInt 2)) [.Eq] [(.cInt 0)])]) (.cStr []) (.var fZ)))]
theorem yP (D:cU C) (dw:DefAt C bV dR T_law_written) {f:Nat->Co} {u s j:Nat} {x:List Nat} (hj:j<4) (hx:x.length<50000) (gs:get ρ1 jw=some (.int (u:Int))) (gk:get ρ1 n_k=some (.int (j:Int))) (hp:∀ w,put ρ1 bM w=rT f u s x++[(n_k,.int (j:Int)),(bM,w)]) :
 ExL C (k+2) Er ρ1 σ .next (rT f u s (x++mP u s j (f j))++[(n_k,.int (j:Int)),(bM,.int ((g9 u j:Nat):Int))]) σ:=by
 have H:=D.H
 have hw4:g9 u j<4:=Nat.mod_lt _ (by decide)
 have hcj:(mY f)[j]?=some (f j).row:=at4 (P:=fun j=>(mY f)[j]?=some (f j).row) rfl rfl rfl rfl j hj
 have p4:4 ^ j<2 ^ 64:=Nat.lt_of_lt_of_le (Nat.pow_lt_pow_right (by decide) hj) (by decide)
 let ρ2:Loc:=rT f u s x++[(n_k,.int (j:Int)),(bM,.int ((g9 u j:Nat):Int))]
 have S1:ExS C (k+2) (.assign [bM] false (.bin .Mod (.bin .FloorDiv (.var jw) (.bin .Pow (.cInt 4) (.var n_k))) (.cInt 4))) ρ1 σ .next ρ2 σ :=
  aj (dn 4 (by decide) (l9 (Nat.pow_pos (by decide)) p4 (aa gs) (lG 4 (by decide) (by omega) (aa gk)))) (by rw [show ρ2=put ρ1 bM (.int ((g9 u j:Nat):Int)) from (hp _).symm];rfl) fun _=>rfl
 have hwl:(gK u j (f j)).word.length<=3*3:=i4 (f j).l (g9 u j / 2*128)
 have T1:EvT C (k+2) (.boolop .And [(.var ik),(.cmp (.bin .Mod (.var bM) (.cInt 2)) [.Eq] [(.cInt 0)])]) ρ2 σ (decide (jA s≠0)&&decide (g9 u j % 2=0)) σ :=
  mi (jV rfl (aa rfl)) (tZ 0 (dn 2 (by decide) (aa rfl)))
 have hg3:=ms s
 have wl1:=kC (gK u j (f j)).word (g9 u j)
 have E1:=aK (C:=C) (k:=k+2) (ρ:=ρ2) H (ah (dy (aa (x:=aA) rfl) (aa (x:=n_k) rfl) hcj (by omega)) (ah (zA 128 (.of_right (by decide +kernel)) (fL 2 (by decide) (by decide) (aa (x:=bM) rfl))) ai)) (sw (k:=k+1) (σ:=σ) H D.B D.word (ps:=(f j).l) (hi:=g9 u j / 2*128) (by exact Nat.le_of_ble_eq_true rfl) (by omega))
 have E2:=aK (C:=C) (k:=k+2) (ρ:=ρ2) H (ah E1 (ah (aa (x:=bM) rfl) ai)) (vm (k:=k+1) (σ:=σ) H dw (w:=(gK u j (f j)).word) (way:=g9 u j) (by omega) hw4)
 have E3:EvE C (k+2) (.ite (.boolop .And [(.var ik),(.cmp (.bin .Mod (.var bM) (.cInt 2)) [.Eq] [(.cInt 0)])]) (.cStr []) (.var fZ)) ρ2 σ (.str (if jA s≠0/\g9 u j % 2=0 then [] else kL s)) σ:=by
  refine fV T1 (fun h=>?_) (fun h=>?_)
  ·rw [if_pos (by simpa using h)];exact bA
  ·rw [if_neg (by simpa using h)];exact aa rfl
 have E4:=ak (ak (aa (x:=bN) (v:=.str x) rfl) E2 (fQ (by rw [List.length_append];omega))) E3 (fQ (by
  rw [List.length_append,List.length_append]
  split<;>(try simp only [List.length_nil])<;>omega))
 refine aq S1 (aq (aj E4 ?_ fun _=>rfl) aE)
 rw [List.append_assoc];rfl
theorem tV (D:cU C) (dw:DefAt C bV dR T_law_written) (d:DefAt C cQ hJ T_law_text_2) {f:Nat->Co} {u s:Nat} (hs:s<2097152) :
 Calls C (k+3) cQ [.list (mY f),.int (u:Int),.int (s:Int)] σ (.str (jb f u s)) σ:=by
 have H:=D.H;have B:=D.B
 have hg:(a9 gaps)[s / 65536 % 4]?=some (.str (kL s)):=Bb (Nat.mod_lt _ (by simp))
 have hs4:s / 524288<4:=by omega
 have he:(a9 ends)[s / 524288]?=some (.str (sG s)):=Bb hs4
 have tl:=iO f u s
 have ST:=fun (j:Nat) (hj:j<4) (ρ1:Loc)=>yP (C:=C) (k:=k) (σ:=σ) (ρ1:=ρ1) D dw (f:=f) (u:=u) (s:=s) (x:=c4 f u s j) hj (by have:=tl j;omega)
 refine d.callsE H ?_ rfl
 unfold T_law_text_2
 refine ap (ρ1:=[(aA,.list (mY f)),(jw,.int (u:Int)),(bz,.int (s:Int)),(fZ,.str (kL s)),(ik,.int (jA s:Int))]) (σ1:=σ) (aj (v:=.tup [.str (kL s),.int (jA s:Int)]) (ib (ah (dy (cu (jU gaps) (szl rfl)) (dn 4 (by decide) (fL 65536 (by simp) (by simp) (aa rfl))) hg (by omega)) (ah (dn 2 (by decide) (fL 262144 (by simp) (by simp) (aa rfl))) ai)) (szl rfl)) rfl (fun h=>nomatch h)) ?_
 refine ap (ρ1:=rT f u s (kL s)) (σ1:=σ) (aj (aa rfl) rfl fun _=>rfl) ?_
 refine ap (jj (vs:=cb 0 4) (aC H B.range (ah au ai) bo) rfl (by rfl)
  (.step rfl (ST 0 (by decide) (rT f u s (kL s)++[(n_k,.int (0:Nat))]) rfl rfl fun _=>rfl)
    (.step (ρ1:=rT f u s (c4 f u s 1)++[(n_k,.int (1:Nat)),(bM,.int ((g9 u 0:Nat):Int))]) rfl (ST 1 (by decide) _ rfl rfl fun _=>rfl)
      (.step (ρ1:=rT f u s (c4 f u s 2)++[(n_k,.int (2:Nat)),(bM,.int ((g9 u 1:Nat):Int))]) rfl (ST 2 (by decide) _ rfl rfl fun _=>rfl)
        (.step (ρ1:=rT f u s (c4 f u s 3)++[(n_k,.int (3:Nat)),(bM,.int ((g9 u 2:Nat):Int))]) rfl (ST 3 (by decide) _ rfl rfl fun _=>rfl) (.done aE)))))) ?_
 have t4:=tl 4
 have el:=ql (s:=s)
 exact bB (ak (v:=.str (jb f u s)) (aa (x:=bN) (v:=.str (c4 f u s 4)) rfl) (dy (cu (jU ends) (szl rfl)) (fL 524288 (by simp) (by simp) (aa (x:=bz) rfl)) he (by omega)) (fQ (by rw [List.length_append];omega)))
end
end
section
open PySem PyProof.Rows
set_option maxRecDepth 100000
noncomputable def R10:List Nat:=[0,1,2,3,4,5,6,7,8,9]
noncomputable def cP (l:List Int) (k:Nat):Nat:=((ck (ck l none (some 60) none) (some (k:Int)) none (some 10)).sum.fmod 68719476736).toNat
noncomputable def base2:List Co:=[⟨2186,650,4042⟩,⟨1349,1349,1349⟩,⟨32,3872,3872⟩,⟨4045,2061,589⟩,⟨864,3232,1824⟩,⟨3874,34,2914⟩,⟨3968,4032,3904⟩,⟨4032,3008,0⟩]
noncomputable def lU (k:Nat):Co:=base2.getD k ⟨0,0,0⟩
noncomputable def BH (b h p:Nat):Nat:=(b+h / 4096 ^ p) % 4096
noncomputable def bY (l:List Int) (k:Nat):Co:=⟨BH (lU k).r (cP l k) 0,BH (lU k).g (cP l k) 1,BH (lU k).b (cP l k) 2⟩
noncomputable def br (l:List Int):Nat:=(2011500+cP l 8) % 2097152
noncomputable def aw (l:List Int):Nat:=(6871+cP l 9) % 17408
noncomputable def flL (m:Nat):List Nat:=[m % 17,m % 17+1+m / 17 % 8,m % 17+1+m / 17 % 8+1+m / 136 % 8]
noncomputable def fl2 (m j:Nat):Nat:=(flL m).getD j 0
noncomputable def jJ (k:Nat):List Nat:=[0,1,2].filter fun j=>decide (k / 2 ^ j % 2≠0)
noncomputable def qT (m k:Nat):Nat:=((jJ k).map fun j=>2 ^ fl2 m j).sum
noncomputable def gO (m k:Nat):List (List Nat):=(jJ k).map fun j=>cR (fl2 m j)
noncomputable def dZ (m k:Nat):List Nat:=cx [44,32] (cA (qT m k))
noncomputable def fM (m k:Nat):List Nat:=cx [44,32] (gO m k)
noncomputable def sE (m k:Nat):List Nat:=if fM m k=[] then [48,120,48] else fM m k
noncomputable def wd2 (f:Nat->Co) (s j:Nat):Wd:=if j<4 then gK s j (f j) else gK (s / 256) (j - 4) (f j)
noncomputable def dj (l:List Int):List Nat:=jb (bY l) (br l) (br l)
noncomputable def c9 (l:List Int):List Nat:=jb (fun j=>bY l (j+4)) (br l / 256) (br l)
noncomputable abbrev M1 (l:List Int):Loc:=[(ce,.list (zs l)),(bj,.list (zs (ck l none (some 60) none)))]
noncomputable abbrev M2 (l:List Int):Loc:=[(ce,.list (zs l)),(bj,.list (zs (ck l none (some 60) none))),(bO,.list (zN (R10.map (cP l))))]
noncomputable abbrev M3 (l:List Int):Loc:=[(ce,.list (zs l)),(bj,.list (zs (ck l none (some 60) none))),(bO,.list (zN (R10.map (cP l)))),(eC,.list (base2.map Co.row))]
noncomputable abbrev M4 (l:List Int):Loc:=[(ce,.list (zs l)),(bj,.list (zs (ck l none (some 60) none))),(bO,.list (zN (R10.map (cP l)))),(eC,.list (base2.map Co.row)),(aA,.list (cy (bY l)))]
noncomputable abbrev M5 (l:List Int):Loc:=[(ce,.list (zs l)),(bj,.list (zs (ck l none (some 60) none))),(bO,.list (zN (R10.map (cP l)))),(eC,.list (base2.map Co.row)),(aA,.list (cy (bY l))),(bz,.int ((br l:Nat):Int)),(bX,.int ((aw l:Nat):Int))]
noncomputable abbrev M6 (l:List Int):Loc:=[(ce,.list (zs l)),(bj,.list (zs (ck l none (some 60) none))),(bO,.list (zN (R10.map (cP l)))),(eC,.list (base2.map Co.row)),(aA,.list (cy (bY l))),(bz,.int ((br l:Nat):Int)),(bX,.int ((aw l:Nat):Int)),(dC,.int ((fl2 (aw l) 1:Nat):Int)),(aG,.list (zN (flL (aw l)))),(aD,.int ((aw l / 1088 % 8:Nat):Int))]
noncomputable abbrev M7 (l:List Int):Loc:=[(ce,.list (zs l)),(bj,.list (zs (ck l none (some 60) none))),(bO,.list (zN (R10.map (cP l)))),(eC,.list (base2.map Co.row)),(aA,.list (cy (bY l))),(bz,.int ((br l:Nat):Int)),(bX,.int ((aw l:Nat):Int)),(dC,.int ((fl2 (aw l) 1:Nat):Int)),(aG,.list (zN (flL (aw l)))),(aD,.int ((aw l / 1088 % 8:Nat):Int)),(dL,.list (a9 [dj l,c9 l]))]
noncomputable abbrev M8 (l:List Int) (x y:Nat):Loc:=[(ce,.list (zs l)),(bj,.list (zs (ck l none (some 60) none))),(bO,.list (zN (R10.map (cP l)))),(eC,.list (base2.map Co.row)),(aA,.list (cy (bY l))),(bz,.int ((br l:Nat):Int)),(bX,.int ((aw l:Nat):Int)),(dC,.int ((fl2 (aw l) 1:Nat):Int)),(aG,.list (zN (flL (aw l)))),(aD,.int ((aw l / 1088 % 8:Nat):Int)),(dL,.list (a9 [dj l,c9 l])),(aI,.list [.loc x,.loc y])]
noncomputable abbrev M9 (l:List Int) (x y:Nat) (v:V):Loc:=[(ce,.list (zs l)),(bj,.list (zs (ck l none (some 60) none))),(bO,.list (zN (R10.map (cP l)))),(eC,.list (base2.map Co.row)),(aA,.list (cy (bY l))),(bz,.int ((br l:Nat):Int)),(bX,.int ((aw l:Nat):Int)),(dC,.int ((fl2 (aw l) 1:Nat):Int)),(aG,.list (zN (flL (aw l)))),(aD,.int ((aw l / 1088 % 8:Nat):Int)),(dL,.list (a9 [dj l,c9 l])),(aI,.list [.loc x,.loc y]),(dK,v)]
noncomputable abbrev M10 (l:List Int) (x y:Nat) (v:V) (g:Nat->Co):Loc:=[(ce,.list (zs l)),(bj,.list (zs (ck l none (some 60) none))),(bO,.list (zN (R10.map (cP l)))),(eC,.list (base2.map Co.row)),(aA,.list (cy (bY l))),(bz,.int ((br l:Nat):Int)),(bX,.int ((aw l:Nat):Int)),(dC,.int ((fl2 (aw l) 1:Nat):Int)),(aG,.list (zN (flL (aw l)))),(aD,.int ((aw l / 1088 % 8:Nat):Int)),(dL,.list (a9 [dj l,c9 l])),(aI,.list [.loc x,.loc y]),(dK,v),(bF,.list (cy g))]
noncomputable abbrev M11 (l:List Int) (x y:Nat) (v:V) (g:Nat->Co):Loc:=[(ce,.list (zs l)),(bj,.list (zs (ck l none (some 60) none))),(bO,.list (zN (R10.map (cP l)))),(eC,.list (base2.map Co.row)),(aA,.list (cy (bY l))),(bz,.int ((br l:Nat):Int)),(bX,.int ((aw l:Nat):Int)),(dC,.int ((fl2 (aw l) 1:Nat):Int)),(aG,.list (zN (flL (aw l)))),(aD,.int ((aw l / 1088 % 8:Nat):Int)),(dL,.list (a9 [dj l,c9 l])),(aI,.list [.loc x,.loc y]),(dK,v),(bF,.list (cy g)),(bc,.list (a9 (R8.map (dZ (aw l)))))]
noncomputable abbrev M12 (l:List Int) (x y:Nat) (v:V) (g:Nat->Co):Loc:=[(ce,.list (zs l)),(bj,.list (zs (ck l none (some 60) none))),(bO,.list (zN (R10.map (cP l)))),(eC,.list (base2.map Co.row)),(aA,.list (cy (bY l))),(bz,.int ((br l:Nat):Int)),(bX,.int ((aw l:Nat):Int)),(dC,.int ((fl2 (aw l) 1:Nat):Int)),(aG,.list (zN (flL (aw l)))),(aD,.int ((aw l / 1088 % 8:Nat):Int)),(dL,.list (a9 [dj l,c9 l])),(aI,.list [.loc x,.loc y]),(dK,v),(bF,.list (cy g)),(bc,.list (a9 (R8.map (dZ (aw l))))),(cp,.list (zN oddN))]
noncomputable abbrev M13 (l:List Int) (x y:Nat) (v:V) (g:Nat->Co):Loc:=[(ce,.list (zs l)),(bj,.list (zs (ck l none (some 60) none))),(bO,.list (zN (R10.map (cP l)))),(eC,.list (base2.map Co.row)),(aA,.list (cy (bY l))),(bz,.int ((br l:Nat):Int)),(bX,.int ((aw l:Nat):Int)),(dC,.int ((fl2 (aw l) 1:Nat):Int)),(aG,.list (zN (flL (aw l)))),(aD,.int ((aw l / 1088 % 8:Nat):Int)),(dL,.list (a9 [dj l,c9 l])),(aI,.list [.loc x,.loc y]),(dK,v),(bF,.list (cy g)),(bc,.list (a9 (R8.map (dZ (aw l))))),(cp,.list (zN oddN)),(ic,(aR g (aw l / 1088 % 8) 8).row)]
section
variable {C:Cx} {k:Nat} {ρ ρ1:Loc} {σ σ1 σ2:Sto}
noncomputable abbrev xL:Ex:=.bin .Mod (.call (.glob mI) [(.slice (.var bj) [some (.var n_k),none,some (.cInt 10)])]) (.bin .Pow (.cInt 2) (.cInt 36))
theorem xk (H:COk C) (B:Bi C) {l:List Int} {j:Nat} (g2:get ρ bj=some (.list (zs (ck l none (some 60) none)))) (g3:get ρ n_k=some (.int (j:Int))) (hf:(ck l none (some 60) none).length<=1000):EvE C k xL ρ σ (.int ((cP l j:Nat):Int)) σ:=by
 refine EvE.eq (v:=.int ((ck (ck l none (some 60) none) (some (j:Int)) none (some 10)).sum.fmod 68719476736)) (ak (aC H B.sum (ah (gV (il:=some (j:Int)) (ih:=none) (is:=some 10) (aa g2) (aa g3:EvE C k (.var n_k) _ _ _ _) trivial (au:EvE C k (.cInt 10) _ _ _ _) d7 PySem.F.slot_list_getitem.lookup (rG (by decide) (by rw [sizeLine_eq];lia -abstractProof))) ai) sW) (EvE.eq (v':=.int 68719476736) (ak au au (yi (by simp) (by simp) (by simp))) rfl) (gJ (by decide))) (congrArg V.int ?_)
 have:=Int.fmod_nonneg_of_pos (ck (ck l none (some 60) none) (some (j:Int)) none (some 10)).sum (show (0:Int)<68719476736 by simp)
 unfold cP
 exact Iff.mpr Int.eq_natCast_toNat this
theorem y3 (H:COk C) (B:Bi C) {l:List Int} (hf:(ck l none (some 60) none).length<=1000):ExS C k (.assign [bO] false (.comp xL [[n_k]] [(.call (.glob aY) [(.cInt 10)])] [[]] [ax,n_k])) (M1 l) σ .next (M2 l) σ:=by
 refine d6 (x:=bO) (v:=.list (zN (R10.map (cP l)))) ?_
 exact gT (l:=R10) (inj:=fun i:Nat=>.int (i:Int)) (f:=fun i:Nat=>.int ((cP l i:Nat):Int)) (ρ1:=fun i=>M1 l++[(n_k,.int ((i:Nat):Int))]) (own:=[ax,n_k])
  (aC H B.range (ah au ai) bo) rfl (by rfl) rfl (fun i=>rfl) (fun i hi=>xk H B rfl rfl hf) (szl rfl)
theorem uq {l:List Int}:∀ j,j<10->(zN (R10.map (cP l)))[j]?=some (.int ((cP l j:Nat):Int)):=Bu rfl rfl rfl rfl rfl rfl rfl rfl rfl rfl
theorem y7:∀ j,j<8->(base2.map Co.row)[j]?=some (lU j).row:=at8 rfl rfl rfl rfl rfl rfl rfl rfl
theorem wZ (l:List Int) (k:Nat):∀ p,p<3->(bY l k).l.getD p 0=((lU k).l.getD p 0+cP l k / 4096 ^ p) % 4096:=at3 rfl rfl rfl
theorem At (c:Co):c.row=.list ([0,1,2].map fun p:Nat=>V.int ((c.l.getD p 0:Nat):Int)):=rfl
theorem Bw (H:COk C) (B:Bi C) {l:List Int}:ExS C k (.assign [aA] false (.comp (.comp (.bin .Mod (.bin .Add (.sub (.sub (.var eC) (.var n_k)) (.var aJ)) (.bin .FloorDiv (.sub (.var bO) (.var n_k)) (.bin .Pow (.cInt 4096) (.var aJ)))) (.cInt 4096)) [[aJ]] [(.call (.glob aY) [(.cInt 3)])] [[]] [ax,aJ]) [[n_k]] [(.call (.glob aY) [(.cInt 8)])] [[]] [ax,n_k])) (M3 l) σ .next (M4 l) σ:=by
 refine d6 (x:=aA) (v:=.list (cy (bY l))) ?_
 refine gT (l:=R8) (inj:=fun i:Nat=>.int (i:Int)) (f:=fun i:Nat=>(bY l i).row) (ρ1:=fun i=>M3 l++[(n_k,.int ((i:Nat):Int))]) (own:=[ax,n_k])
  (aC H B.range (ah au ai) bo) rfl (by rfl) rfl (fun i=>rfl) (fun i hi=>?_) (szl rfl)
 have hi:=mA hi
 rw [At]
 refine c5 (l:=[0,1,2]) (inj:=fun i:Nat=>.int (i:Int)) (f:=fun p:Nat=>V.int (((bY l i).l.getD p 0:Nat):Int)) (ρ1:=fun p=>M3 l++[(n_k,.int ((i:Nat):Int)),(aJ,.int ((p:Nat):Int))]) (own:=[ax,aJ])
  (aC H B.range (ah au ai) bo) rfl (by rfl) rfl (fun p=>rfl) (fun p hp=>?_) (szl rfl)
 have hp:p<3:=by simp at hp;omega
 have hp2:4096 ^ p<2 ^ 64:=Nat.lt_of_lt_of_le (Nat.pow_lt_pow_right (by decide) hp) (by decide)
 rw [wZ l i p hp]
 refine dn 4096 (by decide) (EvE.eq (ak (dy (dy (aa rfl) (aa rfl) (y7 i hi) (by omega)) (aa rfl) (uL _ p hp) (by omega)) (l9 (Nat.pow_pos (by decide)) hp2 (dy (aa rfl) (aa rfl) (uq i (by omega)) (by omega)) (lG 4096 (by decide) (by omega) (aa rfl))) gQ) (congrArg V.int (Int.natCast_add _ _).symm))
end
end
section
open PySem PyProof.Rows PySem.SeqAt
set_option maxRecDepth 100000
section
variable {C:Cx} {k:Nat} {ρ ρ1:Loc} {σ σ1 σ2:Sto}
theorem yv {M:Model} {A:Around} {E:Value->Shared->Prop} {s:Shared} {y z:UInt64} {u v:Tok} {Q:Bool->Shared->Prop} (hu:(u==0)=false) (hv:(v==0)=false) (hb:NoneBooked s.heap) (hq:∀ b,Q b s):wpAny M A (isSame (.float y u) (.float z v)) Q E s:=by
 show wpAny M A (isSame.created (y==z&&!Float64.isNaN y) u v) Q E s
 unfold isSame.created
 refine wpAny_ite ?_
 rw [hu,hv]
 refine wpAny_ite ?_
 split
 ·exact wpAny_pure (hq _)
 refine wpAny_ite ?_
 split
 ·exact wpAny_pure (hq _)
 refine wpAny_bind (wpAny_sharingNotTold_none hb (wpAny_ite ?_))
 refine wpAny_bind (wpAny_sharingNotTold_none hb (wpAny_ite ?_))
 exact wpAny_bind (wpAny_rule (wpAny_bind (wpAny_askSetting (wpAny_pure (hq _)))))
theorem xf {A:Around} {s:Shared} {a:UInt64} {t u:Tok} (h:feq a a=true) (ht:(t==0)=false) (hu:(u==0)=false) (hb:NoneBooked s.heap):EqAt A s (.float a t) (.float a u) true:=fun prog w E Q hq=>by
 unfold eqBool
 refine wpAny_holding ?_
 refine wpAny_ite_split (fun _=>wpAny_bind (wpAny_rule (wpAny_pure hq))) (fun _=>?_)
 have h':(Float64.cmp a a==some Ordering.eq)=true:=h
 refine wpAny_bind (yv ht hu hb fun b=>?_)
 cases b with
 | true=>exact wpAny_pure hq
 | false=>exact wpAny_bind (AutoFloatOps.eq_0 (prog:=prog) (w:=w) (A:=A) (s:=s) (a:=a) (b:=a) (t:=t) (u:=u) (by rw [h'];exact wpAny_truthy_bool hq))
theorem td (H:COk C) (hb:NoneBooked C.base) {h:UInt64} (hh:feq h h=true):Op2 C k (compareOp .NotEq) (.list [.flu h,.flu h]) (.list [.flu h,.flu h]) σ (.bool false) σ:=by
 intro A X s a b rm S r1 r2 Q E hQ
 have hu:=rm.units
 have hb':NoneBooked s.heap:=let ⟨mc,h,r⟩:=hb;⟨mc,S.ns h H.ns,r⟩
 obtain ⟨p,items,kk,rfl,z,g,a1,r,e1,⟨t1,k1,rfl⟩,a2,r',rfl,⟨t2,k2,rfl⟩,e3⟩:=r1
 obtain ⟨p2,items2,kk2,rfl,z2,g2,b1,r,e2,⟨t3,k3,rfl⟩,b2,r',rfl,⟨t4,k4,rfl⟩,e4⟩:=r2
 rw [e3] at e1
 rw [e4] at e2
 obtain rfl:items=#[.float h t1,.float h t2]:=by exact array_of_toList e1
 obtain rfl:items2=#[.float h t3,.float h t4]:=by exact array_of_toList e2
 exact (RcNeAt.lists (e:=fun _=>true) ⟨_,g,rfl,kk,rfl⟩ ⟨_,g2,rfl,kk2,rfl⟩ rfl (by simp only [cLine_is];lia -abstractProof) fun j h1 h2=>by
  have h3:j<2:=h1
  match j,h3 with
  | 0,_=>exact xf hh k1 k3 hb'
  | 1,_=>exact xf hh k2 k4 hb') C.prog C.w E Q (hQ _ X s S .refl rfl)
end
end
section
open PySem PyProof.Rows
set_option maxRecDepth 100000
structure cI (C:Cx):Prop where
 D:cU C
 booked:NoneBooked C.base
 pass:DefAt C dB hH T_law_pass
 run:DefAt C eP iA T_law_run_2
 right:DefAt C cY iy T_law_right
 sum:DefAt C d9 kD T_law_sum
 back:DefAt C ei jc T_law_back
 tint:DefAt C a6 jf T_law_tint
 hues:DefAt C cF jd T_law_hues
 name:DefAt C dA je T_law_name
 written:DefAt C bV dR T_law_written
 text:DefAt C cQ hJ T_law_text_2
 flags:DefAt C cK fT T_pretty_flags
 dict:C.glob aX=some jZ
 lexer:∃ a,C.glob cX=some (.fn a)/\jC C a
noncomputable def fo (c:Co):List Int:=[(c.r:Int) - c.g,(c.g:Int) - c.b]
noncomputable def rO (f:Nat->Co) (k:Nat):List Int:=[dE f k 0 - dE f k 1,dE f k 1 - dE f k 2]
structure hV (f:Nat->Co) (s m:Nat) (f1 f2 f3:Nat->Wd):Prop where
 look:eS
 right:∀ c:Co,c.Lt 32768->∃ m sp ring t,sj c (j1 c) c.opp m sp ring t
 passes:si (m / 8704) (wd2 f s) f1 f2 f3
 readA:∃ xe,RW (jb f s s) ((lo4 (wd2 f s)).map Wd.word) xe/\Tk xe [101,110,100] []
 readB:∃ xe,RW (jb (fun j=>f (j+4)) (s / 256) s) ((hi4 (wd2 f s)).map Wd.word) xe/\Tk xe [101,110,100] []
 mask:∀ k,k<8->qT m k<2 ^ 33
 told:∀ k,k<8->dZ m k=sE m k
 ok:∀ k,k<8->∀ c∈dZ m k,c<1114112
 small:∀ k,k<8->(dZ m k).length<10000/\(fM m k).length<10000/\dQ (gO m k)+(gO m k).length*2<=sizeLine
 odd:∀ k,k<8->∃ l:List (List Nat),l.length<1000/\Txt.split (ao (dZ m k)) (ao [44,32])=l.map ao/\(l.filter fun w=>w != [48,120,48]).length % 2=oddN.getD k 0
 tint:∀ k,k<8->fo (f3 k).c=rO f k
 back:fo (aR (fun k=>(f3 k).c) (m / 1088 % 8) 8)=(fo (f (m / 1088 % 8))).map (8*·)
 hueB:wE (aR (fun k=>(f3 k).c) (m / 1088 % 8) 8)
 hueF:wE (f (m / 1088 % 8))
 hue:dT (aR (fun k=>(f3 k).c) (m / 1088 % 8) 8)=dT (f (m / 1088 % 8))
 same:feq (dT (f (m / 1088 % 8))) (dT (f (m / 1088 % 8)))=true
theorem qD (m:Nat):∀ j,j<3->(zN (flL m))[j]?=some (.int ((fl2 m j:Nat):Int)):=at3 rfl rfl rfl
theorem sP (m:Nat):∀ j,j<3->fl2 m j<33 :=
 have a:m % 17<=16:=Nat.le_of_lt_succ (Nat.mod_lt _ (by decide))
 have b:m / 17 % 8<=7:=Nat.le_of_lt_succ (Nat.mod_lt _ (by decide))
 have c:m / 136 % 8<=7:=Nat.le_of_lt_succ (Nat.mod_lt _ (by decide))
 at3 (Nat.lt_of_le_of_lt a (by decide)) (Nat.lt_of_le_of_lt (Nat.add_le_add (Nat.add_le_add_right a 1) b) (by decide)) (Nat.lt_of_le_of_lt (Nat.add_le_add (Nat.add_le_add_right (Nat.add_le_add (Nat.add_le_add_right a 1) b) 1) c) (by decide))
theorem x3 {j:Nat} (h:j∈[0,1,2]):j<3:=(by decide:∀ j∈[0,1,2],j<3) j h
section
variable {C:Cx} {k:Nat} {ρ ρ1:Loc} {σ σ1 σ2:Sto}
theorem t9 {i j:Nat} (hj:j<3) (g1:get ρ n_k=some (.int (i:Int))) (g2:get ρ n_j=some (.int (j:Int))):EvT C k (.bin .Mod (.bin .FloorDiv (.var n_k) (.bin .Pow (.cInt 2) (.var n_j))) (.cInt 2)) ρ σ (decide (i / 2 ^ j % 2≠0)) σ :=
 jV rfl (dn 2 (by decide) (l9 (Nat.two_pow_pos j) (Nat.pow_lt_pow_right (by decide) (Nat.lt_trans hj (by decide))) (aa g1) (lG 2 (by decide) (by omega) (aa g2))))
theorem CU (l:List Nat) (f:Nat->Nat):l.map (fun j=>V.int ((f j:Nat):Int))=zs ((l.map f).map fun a:Nat=>(a:Int)):=by
 delta zs;rw [List.map_map,List.map_map];rfl
theorem Bx (D:cI C) {l:List Int} (hm:∀ k,k<8->qT (aw l) k<2 ^ 33) {x y:Nat} {v:V} {g:Nat->Co}:ExS C (k+2) (.assign [bc] false (.comp (.call (.glob cK) [(.call (.glob mI) [(.comp (.bin .Pow (.cInt 2) (.sub (.var aG) (.var n_j))) [[n_j]] [(.call (.glob aY) [(.cInt 3)])] [[(.bin .Mod (.bin .FloorDiv (.var n_k) (.bin .Pow (.cInt 2) (.var n_j))) (.cInt 2))]] [ax,n_j])])]) [[n_k]] [(.call (.glob aY) [(.cInt 8)])] [[]] [ax,n_k])) (M10 l x y v g) σ .next (M11 l x y v g) σ:=by
 have H:=D.D.H;have B:=D.D.B
 refine d6 (x:=bc) (v:=.list (a9 (R8.map (dZ (aw l))))) ?_
 refine gT (l:=R8) (inj:=fun i:Nat=>.int (i:Int)) (f:=fun i=>.str (dZ (aw l) i)) (ρ1:=fun i=>M10 l x y v g++[(n_k,.int ((i:Nat):Int))]) (own:=[ax,n_k]) (aC H B.range (ah au ai) bo) rfl (by rfl) rfl (fun i=>rfl) (fun i hi=>?_) (szl rfl)
 have E:EvE C (k+2) (.comp (.bin .Pow (.cInt 2) (.sub (.var aG) (.var n_j))) [[n_j]] [(.call (.glob aY) [(.cInt 3)])] [[(.bin .Mod (.bin .FloorDiv (.var n_k) (.bin .Pow (.cInt 2) (.var n_j))) (.cInt 2))]] [ax,n_j]) (M10 l x y v g++[(n_k,.int ((i:Nat):Int))]) σ (.list ((jJ i).map fun j=>V.int ((2 ^ fl2 (aw l) j:Nat):Int))) σ:=by
  refine jS (l:=[0,1,2]) (inj:=fun i:Nat=>.int (i:Int)) (f:=fun j=>V.int ((2 ^ fl2 (aw l) j:Nat):Int)) (p:=fun j=>decide (i / 2 ^ j % 2≠0)) (ρ1:=fun j=>M10 l x y v g++[(n_k,.int ((i:Nat):Int)),(n_j,.int ((j:Nat):Int))]) (own:=[ax,n_j]) (aC H B.range (ah au ai) bo) rfl (by rfl) rfl (fun i=>rfl) (fun j hj=>t9 (x3 hj) rfl rfl) (fun j hj _=>?_) (szl rfl)
  have hj:=x3 hj
  have hf:=sP (aw l) j hj
  exact lG 2 (by decide) (by omega) (dy (aa rfl) (aa rfl) (qD _ j hj) (by omega))
 rw [CU] at E
 have S:=aC H B.sum (ah E ai) sW
 rw [yz] at S
 exact aK H (ah S ai) (wU (k:=k+1) H B D.dict D.flags (hm i (mA hi)))
theorem CJ (D:cI C) {l:List Int} {f:Nat->Co} {s:Nat} {f1 f2 f3:Nat->Wd} (P:hV f s (aw l) f1 f2 f3) {x y:Nat} {v:V} {g:Nat->Co}:EvT C (k+1) (.cmp (.var bc) [.NotEq] [(.comp (.boolop .Or [(.meth (.cStr [44,32]) jt [(.comp (.call (.glob dA) [(.sub (.var aG) (.var n_j))]) [[n_j]] [(.call (.glob aY) [(.cInt 3)])] [[(.bin .Mod (.bin .FloorDiv (.var n_k) (.bin .Pow (.cInt 2) (.var n_j))) (.cInt 2))]] [ax,n_j])]),(.cStr [48,120,48])]) [[n_k]] [(.call (.glob aY) [(.cInt 8)])] [[]] [ax,n_k])]) (M11 l x y v g) σ false σ:=by
 have H:=D.D.H;have B:=D.D.B
 have e:V.list (a9 (R8.map (dZ (aw l))))=.list (R8.map fun i=>.str (sE (aw l) i)):=by
  delta a9
  rw [List.map_map]
  refine congrArg V.list (List.map_congr_left fun i hi=>?_)
  show V.str (dZ (aw l) i)=_
  rw [P.told i (mA hi)]
 refine aH (aa (x:=bc) rfl) (EvE.eq (c5 (l:=R8) (inj:=fun i:Nat=>.int (i:Int)) (f:=fun i=>.str (sE (aw l) i)) (ρ1:=fun i=>M11 l x y v g++[(n_k,.int ((i:Nat):Int))]) (own:=[ax,n_k]) (aC H B.range (ah au ai) bo) rfl (by rfl) rfl (fun i=>rfl) (fun i hi=>?_) (szl rfl)) e.symm) (ip (yg 58 fun x hx=>?_)) aF
 ·obtain ⟨_,hsm,hsum⟩:=P.small i (mA hi)
  have E:EvE C (k+1) (.comp (.call (.glob dA) [(.sub (.var aG) (.var n_j))]) [[n_j]] [(.call (.glob aY) [(.cInt 3)])] [[(.bin .Mod (.bin .FloorDiv (.var n_k) (.bin .Pow (.cInt 2) (.var n_j))) (.cInt 2))]] [ax,n_j]) (M11 l x y v g++[(n_k,.int ((i:Nat):Int))]) σ (.list ((jJ i).map fun j=>V.str (cR (fl2 (aw l) j)))) σ:=by
   refine jS (l:=[0,1,2]) (inj:=fun i:Nat=>.int (i:Int)) (f:=fun j=>V.str (cR (fl2 (aw l) j))) (p:=fun j=>decide (i / 2 ^ j % 2≠0)) (ρ1:=fun j=>M11 l x y v g++[(n_k,.int ((i:Nat):Int)),(n_j,.int ((j:Nat):Int))]) (own:=[ax,n_j]) (aC H B.range (ah au ai) bo) rfl (by rfl) rfl (fun i=>rfl) (fun j hj=>t9 (x3 hj) rfl rfl) (fun j hj _=>?_) (szl rfl)
   have hj:=x3 hj
   have hf:=sP (aw l) j hj
   exact aK H (ah (dy (aa rfl) (aa rfl) (qD _ j hj) (by omega)) ai) (BC (k:=k) H D.name (by omega))
  have e2:(jJ i).map (fun j=>V.str (cR (fl2 (aw l) j)))=a9 (gO (aw l) i):=by
   delta a9 gO
   rw [List.map_map];rfl
  rw [e2] at E
  have J:=dq (C:=C) (k:=k+1) (m:=jt) (bA (x:=[44,32])) (gW (by rw [<-j9,aP];exact PySem.F.slot_str_join) PySem.F.type_str_join) (.bi _) (ah E ai) (lI (sep:=[44,32]) (l:=gO (aw l) i) hsum)
  refine xp J (AL (x:=fM (aw l) i) (Nat.lt_of_lt_of_le hsm (by decide))) (fun hc=>?_) (fun hc=>⟨?_,rfl⟩)
  ·have:fM (aw l) i=[]:=by simpa using hc
   rw [sE,if_pos this]
   exact bA
  ·have:fM (aw l) i≠[]:=by simpa using hc
   rw [sE,if_neg this];rfl
 ·obtain ⟨i,hi,rfl⟩:=List.mem_map.mp hx
  exact P.ok i (mA hi)
theorem AF (D:cI C) {l:List Int} {f:Nat->Co} {s m:Nat} {f1 f2 f3:Nat->Wd} (P:hV f s m f1 f2 f3) {x y:Nat} {cs:List Co} {g:Nat->Co} (hc:∀ c∈cs,c.Lt 32768) (hz:cs.length<=100):EvT C (k+2) (.cmp (.comp (.var cC) [[cC]] [(.var dK)] [[(.not (.call (.glob cY) [(.sub (.var cC) (.cInt 0)),(.sub (.var cC) (.cInt 1)),(.sub (.var cC) (.cInt 2))]))]] [ax,cC]) [.NotEq] [(.list [])]) (M11 l x y (.list (cs.map bG)) g) σ false σ:=by
 have H:=D.D.H;have B:=D.D.B
 have E:EvE C (k+2) (.comp (.var cC) [[cC]] [(.var dK)] [[(.not (.call (.glob cY) [(.sub (.var cC) (.cInt 0)),(.sub (.var cC) (.cInt 1)),(.sub (.var cC) (.cInt 2))]))]] [ax,cC]) (M11 l x y (.list (cs.map bG)) g) σ (.list ((cs.filter fun _=>false).map bG)) σ:=by
  refine jS (l:=cs) (inj:=bG) (f:=bG) (p:=fun _=>false) (ρ1:=fun c=>M11 l x y (.list (cs.map bG)) g++[(cC,bG c)]) (own:=[ax,cC]) (aa rfl) rfl rfl rfl (fun i=>rfl) (fun c hcm=>?_) (fun c _ h=>by cases h) (by rw [sizeLine_eq];omega)
  obtain ⟨mm,sp,ring,t,R⟩:=P.right c (hc c hcm)
  have A:∀ (j:Nat) (u:V),[c.row,V.flt (j1 c),c.opp.row][j]?=some u->j<3->EvE C (k+2) (.sub (.var cC) (.cInt (j:Int))) (M11 l x y (.list (cs.map bG)) g++[(cC,bG c)]) σ u σ:=fun j u h hj=>dy (aa (v:=.list [c.row,.flt (j1 c),c.opp.row]) rfl) au h (by omega)
  exact oO (gC rfl (aK H (ah (A 0 _ rfl (by decide)) (ah (A 1 _ rfl (by decide)) (ah (A 2 _ rfl (by decide)) ai))) (zj (k:=k) H B D.D.mixed D.right R)) aF)
 rw [List.filter_eq_nil_iff.mpr (fun _ _ h=>by cases h)] at E
 exact aH E (cu ai (szl rfl)) (ip rfl) aF
theorem De (D:cI C) {l:List Int} {f:Nat->Co} {s:Nat} {f1 f2 f3:Nat->Wd} (P:hV f s (aw l) f1 f2 f3) {x y:Nat} {v:V} {g:Nat->Co}:ExS C k (.assign [cp] false (.comp (.bin .Mod (.call (.glob uC) [(.comp (.var aL) [[aL]] [(.meth (.var aV) j8 [(.cStr [44,32])])] [[(.cmp (.var aL) [.NotEq] [(.cStr [48,120,48])])]] [ax,aL])]) (.cInt 2)) [[aV]] [(.var bc)] [[]] [ax,aV])) (M11 l x y v g) σ .next (M12 l x y v g) σ:=by
 have H:=D.D.H;have B:=D.D.B
 refine d6 (x:=cp) (v:=.list (zN oddN)) ?_
 have e:V.list (zN oddN)=.list (R8.map fun i=>.int ((oddN.getD i 0:Nat):Int)):=rfl
 rw [e]
 refine gT (l:=R8) (inj:=fun i=>.str (dZ (aw l) i)) (ρ1:=fun i=>M11 l x y v g++[(aV,.str (dZ (aw l) i))]) (own:=[ax,aV]) (aa (x:=bc) rfl) rfl rfl rfl (fun i=>rfl) (fun i hi=>?_) (szl rfl)
 obtain ⟨ws,h1,h2,h3⟩:=P.odd i (mA hi)
 have hsm:=(P.small i (mA hi)).1
 rw [<-h3]
 have S:=dq (C:=C) (k:=k) (m:=j8) (ρ:=M11 l x y v g++[(aV,.str (dZ (aw l) i))]) (σ:=σ) (aa (x:=aV) rfl) (gW (by rw [<-wc,aP];exact PySem.F.slot_str_split) PySem.F.type_str_split) (.bi _) (ah (bA (x:=[44,32])) ai) (xD (sep:=[44,32]) (by simp) (by rw [sizeLine_eq];omega) h2)
 have E:EvE C k (.comp (.var aL) [[aL]] [(.meth (.var aV) j8 [(.cStr [44,32])])] [[(.cmp (.var aL) [.NotEq] [(.cStr [48,120,48])])]] [ax,aL]) (M11 l x y v g++[(aV,.str (dZ (aw l) i))]) σ (.list ((ws.filter fun w=>w != [48,120,48]).map .str)) σ :=
  jS (l:=ws) (inj:=.str) (f:=.str) (p:=fun w=>w != [48,120,48]) (ρ1:=fun w=>M11 l x y v g++[(aV,.str (dZ (aw l) i)),(aL,.str w)]) (own:=[ax,aL]) S rfl rfl rfl (fun i=>rfl) (fun w _=>aH (aa rfl) bA Cw aF) (fun w _ _=>aa rfl) (by rw [sizeLine_eq];omega)
 have hl:((ws.filter fun w=>w != [48,120,48]).map V.str).length<2 ^ 63:=by
  rw [List.length_map]
  exact Nat.lt_of_le_of_lt (List.length_filter_le _ _) (Nat.lt_trans h1 (by decide))
 exact dn 2 (by decide) (EvE.eq (aC H B.len (ah E ai) (BU hl)) (by rw [List.length_map]))
end
end
section
open PySem PyProof.Rows
set_option maxRecDepth 100000
section
variable {p q:Pl3} {τ:Sto} {a b:LS} {l:Nat} {o:O}
theorem rt (h1:τ.get p.pb=some (.list a.q)) (h2:τ.get p.lf=some (.list (cS a.x))) (h3:τ.get p.lx=some (.lexer p.lf a.line p.pb)):p.put τ a=τ:=by
 unfold Pl3.put
 rw [fm h1,fm h2,fm h3]
end
noncomputable def P2.of (σ:Sto):P2:=⟨⟨σ.next+2,σ.next,σ.next+1⟩,⟨σ.next+5,σ.next+3,σ.next+4⟩,σ.next+6⟩
noncomputable def gx (σ:Sto) (x y:List Nat):Sto:=(kQ (kQ σ x) y).new (.list [])
theorem uT {σ:Sto} {x y:List Nat}:(P2.of σ).Ok (gx σ x y) where
 p:=⟨by show σ.next+2≠σ.next;omega,by show σ.next+2≠σ.next+1;omega,by show σ.next≠σ.next+1;omega,by show σ.next+2<σ.next+7;omega,by show σ.next<σ.next+7;omega,by show σ.next+1<σ.next+7;omega⟩
 q:=⟨by show σ.next+5≠σ.next+3;omega,by show σ.next+5≠σ.next+4;omega,by show σ.next+3≠σ.next+4;omega,by show σ.next+5<σ.next+7;omega,by show σ.next+3<σ.next+7;omega,by show σ.next+4<σ.next+7;omega⟩
 q1:=⟨by show σ.next+5≠σ.next+2;omega,by show σ.next+5≠σ.next;omega,by show σ.next+5≠σ.next+1;omega⟩
 q2:=⟨by show σ.next+3≠σ.next+2;omega,by show σ.next+3≠σ.next;omega,by show σ.next+3≠σ.next+1;omega⟩
 q3:=⟨by show σ.next+4≠σ.next+2;omega,by show σ.next+4≠σ.next;omega,by show σ.next+4≠σ.next+1;omega⟩
 tp:=⟨by show σ.next+6≠σ.next+2;omega,by show σ.next+6≠σ.next;omega,by show σ.next+6≠σ.next+1;omega⟩
 tq:=⟨by show σ.next+6≠σ.next+5;omega,by show σ.next+6≠σ.next+3;omega,by show σ.next+6≠σ.next+4;omega⟩
 bt:=by show σ.next+6<σ.next+7;omega
theorem gu {σ:Sto} {x y:List Nat} (j:Nat):(gx σ x y).get j=if j=σ.next+6 then some (.list []) else if j=σ.next+5 then some (.lexer (σ.next+3) 1 (σ.next+4)) else if j=σ.next+4 then some (.list []) else if j=σ.next+3 then some (.list (cS y)) else
 if j=σ.next+2 then some (.lexer σ.next 1 (σ.next+1)) else if j=σ.next+1 then some (.list []) else if j=σ.next then some (.list (cS x)) else σ.get j:=rfl
theorem AA {σ:Sto} {x y:List Nat}:gx σ x y=(P2.of σ).sto (gx σ x y) ⟨x,[],1⟩ ⟨y,[],1⟩ []:=by
 have g:∀ i o,i<7->(∀ j,j=σ.next+i->(gx σ x y).get j=some o)->(gx σ x y).get (σ.next+i)=some o:=fun i o _ h=>h _ rfl
 unfold P2.sto
 rw [fm (o:=.list []) (by rw [gu];exact if_pos rfl),rt (p:=(P2.of σ).q),rt (p:=(P2.of σ).p)]
 ·show (gx σ x y).get (σ.next+1)=some (.list [])
  rw [gu];simp
 ·show (gx σ x y).get σ.next=some (.list (cS x))
  rw [gu];simp
 ·show (gx σ x y).get (σ.next+2)=some (.lexer σ.next 1 (σ.next+1))
  rw [gu];simp
 ·show (gx σ x y).get (σ.next+4)=some (.list [])
  rw [gu];simp
 ·show (gx σ x y).get (σ.next+3)=some (.list (cS y))
  rw [gu];simp
 ·show (gx σ x y).get (σ.next+5)=some (.lexer (σ.next+3) 1 (σ.next+4))
  rw [gu];simp
noncomputable def NA (x:List Nat):Int:=1+cnt x
theorem xY (x:List Nat):(⟨x,[],1⟩:LS)=lsN (NA x) x []:=by delta lsN NA;congr 1;simp
section
variable {C:Cx} {k:Nat} {ρ ρ1:Loc} {σ σ1 σ2:Sto}
theorem y5 (D:cI C) {l:List Int}:ExS C (k+3) (.assign [dL] false (.list [(.call (.glob cQ) [(.slice (.var aA) [none,some (.cInt 4),none]),(.var bz),(.var bz)]),(.call (.glob cQ) [(.slice (.var aA) [some (.cInt 4),none,none]),(.bin .FloorDiv (.var bz) (.cInt 256)),(.var bz)])])) (M6 l) σ .next (M7 l) σ:=by
 have H:=D.D.H
 have hs:br l<2097152:=Nat.mod_lt _ (by decide)
 have E1:EvE C (k+3) (.slice (.var aA) [none,some (.cInt 4),none]) (M6 l) σ (.list (mY (bY l))) σ :=
  gV (il:=none) (ih:=some 4) (is:=none) (aa (x:=aA) rfl) trivial (au:EvE C (k+3) (.cInt 4) _ _ _ _) trivial d7 PySem.F.slot_list_getitem.lookup (iq (by decide) (by rfl) (szl rfl))
 have E2:EvE C (k+3) (.slice (.var aA) [some (.cInt 4),none,none]) (M6 l) σ (.list (mY (fun j=>bY l (j+4)))) σ :=
  gV (il:=some 4) (ih:=none) (is:=none) (aa (x:=aA) rfl) (au:EvE C (k+3) (.cInt 4) _ _ _ _) trivial trivial d7 PySem.F.slot_list_getitem.lookup (iq (by decide) ((n5 (fun k=>(bY l k).row) R8 (some 4) none none).trans (congrArg (List.map _) (by decide:ck R8 (some 4) none none=[4,5,6,7]))) (szl rfl))
 exact aj (cu (ah (aK H (ah E1 (ah (aa rfl) (ah (aa rfl) ai))) (tV (k:=k) D.D D.written D.text hs)) (ah (aK H (ah E2 (ah (fL 256 (by simp) (by simp) (aa rfl)) (ah (aa rfl) ai))) (tV (k:=k) D.D D.written D.text hs)) ai)) (szl rfl)) rfl fun _=>rfl
theorem rU (l:List Int):(dj l).length<=500:=og _ _ _
theorem rV (l:List Int):(c9 l).length<=500:=og _ _ _
theorem y4 (D:cI C) {l:List Int}:ExS C (k+3) (.assign [aI] false (.comp (.call (.glob cX) [(.var bN)]) [[bN]] [(.var dL)] [[]] [ax,bN])) (M7 l) σ .next (M8 l (σ.next+2) (σ.next+5)) (kQ (kQ σ (dj l)) (c9 l)):=by
 have H:=D.D.H
 obtain ⟨a,ga,dl⟩:=D.lexer
 have L:∀ (x:List Nat) (σ:Sto),x.length<=500->EvE C (k+3) (.call (.glob cX) [(.var bN)]) (M7 l++[(bN,.str x)]) σ (.loc (σ.next+2)) (kQ σ x):=fun x σ hx =>
  oI (fv:=.ref a) (et H ga) (fun X n h a r=>r) dl.fn (ah (aa rfl) ai) (za (C:=C) (k:=k) (σ:=σ) (x:=x) H D.D.L.G.L D.D.L.G.Lm dl D.D.B.list (by rw [sizeLine_eq];omega)).fn
 refine d6 (x:=aI) (v:=.list [.loc (σ.next+2),.loc (σ.next+5)]) ?_
 exact fJ (vs:=a9 [dj l,c9 l]) (aa rfl) rfl rfl (.emit (ρ1:=M7 l++[(bN,.str (dj l))]) rfl rfl ⟨rfl,rfl⟩ (L _ _ (rU l)) (.emit (ρ1:=M7 l++[(bN,.str (c9 l))]) rfl rfl ⟨rfl,rfl⟩ (L _ _ (rV l)) .nil)) (szl rfl)
end
end
section
end
section
open PySem
theorem x8:∀ p,p<34->q7 (cR p)/\∀ c∈cR p,c<1114112:=by
 have h:(List.range 34).all (fun p=>(cR p != [])&&((cR p).all fun c=>!isW c&&(c != 92&&(c != 34&&(c != 44&&decide (c<1114112)))))&&decide ((cR p).length<=100))=true:=by rfl
 intro p hp
 have:=List.all_eq_true.mp h p (List.mem_range.mpr hp)
 simp only [Bool.and_eq_true,bne_iff_ne,ne_eq,List.all_eq_true,Bool.not_eq_true',decide_eq_true_eq] at this
 obtain ⟨⟨h1,h2⟩,h3⟩:=this
 exact ⟨⟨⟨h1,fun c hc=>⟨(h2 c hc).1,(h2 c hc).2.1,(h2 c hc).2.2.1⟩⟩,fun hc=>(h2 _ hc).2.2.2.1 rfl,h3⟩,fun c hc=>(h2 c hc).2.2.2.2⟩
theorem wA:∀ p,p<34->cR p≠[48,120,48]:=by decide
theorem DX:q7 [48,120,48]:=⟨⟨by decide,by decide⟩,by decide,by decide⟩
theorem vQ (sep:List Nat) (l:List (List Nat)):(cx sep l).length<=dQ l+l.length*sep.length:=by
 induction l with
 | nil=>exact Nat.zero_le _
 | cons x l ih =>
   cases l with
   | nil=>exact Nat.le_trans (Nat.le_add_right _ _) (Nat.le_add_right _ _)
   | cons y r =>
     show (x++sep++cx sep (y::r)).length<=x.length+dQ (y::r)+((y::r).length+1)*sep.length
     rw [List.length_append,List.length_append,Nat.add_mul,Nat.one_mul]
     lia -abstractProof
theorem vS {sep:List Nat} {c:Nat} {l:List (List Nat)} (h:c∈cx sep l):c∈sep\/∃ x∈l,c∈x:=by
 induction l with
 | nil=>cases h
 | cons x l ih =>
   cases l with
   | nil=>exact .inr ⟨x,.head _,h⟩
   | cons y r =>
     rcases List.mem_append.mp (show c∈x++sep++cx sep (y::r) from h) with h | h
     ·exact (List.mem_append.mp h).elim (fun h=>.inr ⟨x,.head _,h⟩) .inl
     ·exact (ih h).imp id fun ⟨z,hz,hc⟩=>⟨z,.tail _ hz,hc⟩
theorem xS {sep:List Nat} {l:List (List Nat)} (h:l≠[]) (h2:∀ x∈l,x≠[]):cx sep l≠[]:=by
 cases l with
 | nil=>exact absurd rfl h
 | cons x r =>
   cases r with
   | nil=>exact h2 x (.head _)
   | cons y r =>
     intro q
     replace q:x++sep++cx sep (y::r)=[]:=q
     have:=List.append_eq_nil_iff.mp (List.append_eq_nil_iff.mp q).1
     exact h2 x (.head _) this.1
end
section
open PySem PySem.StrLaws PySem.Builtin PySem.Builtin.Str
noncomputable def mt (s sub:Str) (hi i:Nat):Bool:=decide (i+sub.length<=hi)&&subAt s sub i
theorem An (s sub:Str) (hi limit:Nat):∀ (l:List Nat) (f:Array Nat) (free:Nat),f.size+l.length<=limit->(∀ i∈l,mt s sub hi i=true->free<=i)->l.Pairwise (fun i j=>mt s sub hi i=true->mt s sub hi j=true->i+sub.length<=j) ->
 (forIn l (f,free) (occBody s sub hi limit)).run.fst.toList=f.toList++l.filter (mt s sub hi):=by
 intro l
 induction l with
 | nil =>
   intro f free _ _ _
   simp
 | cons a l ih =>
   intro f free h1 h2 h3
   rw [List.forIn_cons]
   unfold occBody
   have hp:=List.pairwise_cons.mp h3
   cases hm:mt s sub hi a with
   | true =>
     have hm':=hm
     simp only [mt,Bool.and_eq_true,decide_eq_true_eq] at hm'
     have hf:=h2 a (.head _) hm
     rw [if_pos ⟨⟨⟨by show f.size<limit;simp at h1;exact Nat.lt_of_add_right_lt h1,hf⟩,hm'.1⟩,hm'.2⟩]
     have ih:=ih (f.push a) (a+sub.length) (by simp at h1 ⊢;lia -abstractProof) (fun i hi' hmi=>hp.1 i hi' hm hmi) hp.2
     rw [List.filter_cons_of_pos hm]
     show (forIn l (f.push a,a+sub.length) (occBody s sub hi limit)).run.fst.toList=_
     rw [ih];simp
   | false =>
     have hm':¬ (a+sub.length<=hi/\subAt s sub a=true):=by
      intro q
      have:mt s sub hi a=true:=by simp [mt,q.1,q.2]
      rw [hm] at this;cases this
     rw [if_neg (fun q=>hm' ⟨q.1.2,q.2⟩),List.filter_cons_of_neg (by simp [hm])]
     exact ih f free (by simp at h1;exact Nat.le_of_succ_le h1) (fun i hi'=>h2 i (.tail _ hi')) hp.2
theorem mK (s sub:Str) (hp:∀ i j,i<j->mt s sub s.length i=true->mt s sub s.length j=true->i+sub.length<=j):occurrences s sub 0 s.length (s.length+1)=(List.range (s.length+1)).filter (mt s sub s.length):=by
 rw [occ_eq]
 have:=An s sub s.length (s.length+1) (List.range' 0 (s.length+1 - 0)) #[] 0 (by simp) (fun i _ _=>Nat.zero_le _) (List.Pairwise.imp (fun {i j} h=>hp i j h) (by exact List.pairwise_lt_range'))
 rw [this]
 simp [List.range_eq_range']
theorem dH (x:List Nat):(ao x).length=x.length:=a7 x
theorem B8 (x:List Nat) (c i:Nat):mt (ao x) (ao [c]) x.length i=(x[i]?==some c):=by
 delta mt subAt
 rw [dH]
 by_cases h:i<x.length
 ·rw [show decide (i+[c].length<=x.length)=true from by simp;assumption,Bool.true_and,Bool.eq_iff_iff]
  have e:(ao x).cps.extract i (i+[c].length)=#[x[i]]:=by
   show (x.toArray).extract i (i+1)=_
   apply Array.ext'
   rw [List.extract_toArray]
   show (x.drop i).take (i+1 - i)=[x[i]]
   rw [List.drop_eq_getElem_cons h,show i+1 - i=1 from by exact Nat.add_sub_self_left i 1];rfl
  rw [e,List.getElem?_eq_getElem h]
  show (#[x[i]]==#[c])=true↔_
  simp
 ·rw [show decide (i+[c].length<=x.length)=false from by simp;exact Nat.lt_of_not_le h,List.getElem?_eq_none (by exact Nat.le_of_not_lt h)]
  rfl
theorem jX (c:Nat):∀ x:List Nat,((List.range (x.length+1)).filter fun i=>x[i]?==some c).length=x.count c
 | []=>rfl
 | a::x=>by
   have ih:=jX c x
   rw [List.length_cons,List.range_succ_eq_map,List.filter_cons,List.filter_map,List.count_cons]
   have e:((fun i=>(a::x)[i]?==some c) ∘ Nat.succ)=fun i=>x[i]?==some c:=by funext i;simp
   rw [e]
   by_cases h:a=c
   ·subst h;simp [ih]
   ·simp [h,ih]
theorem vt (x:List Nat):Txt.count (ao x) (ao [10])=cnt x:=by
 delta Txt.count cnt
 rw [mK _ _ (fun i j h _ _=>by rw [dH];dsimp;assumption),dH]
 have:(mt (ao x) (ao [10]) x.length)=fun i=>x[i]?==some 10:=funext fun i=>B8 x 10 i
 rw [this,jX]
end
section
open PySem PyProof.Rows
set_option maxRecDepth 100000
theorem xI {x:Nm} {t:Nat} {vs:List V} {B:Loc}:∀ (A:Loc) (y:Nm) (v':V),get (A++(x,.list vs)::B) y=some v'->∃ v,get (A++(x,.loc t)::B) y=some v/\Frz t vs v v'
 | [],y,v',h=>by
   rw [List.nil_append,get] at h ⊢
   cases e:eqn x y with
   | true=>rw [e,cond_true] at h;cases h;exact ⟨_,rfl,.hit⟩
   | false=>rw [e,cond_false] at h;exact ⟨_,h,.refl _⟩
 | (z,u)::A,y,v',h=>by
   rw [List.cons_append,get] at h ⊢
   cases e:eqn z y with
   | true=>rw [e,cond_true] at h;cases h;exact ⟨_,rfl,.refl _⟩
   | false=>rw [e,cond_false] at h;exact xI A y v' h
section
variable {C:Cx} {k:Nat} {ρ ρ1:Loc} {σ σ1 σ2:Sto}
noncomputable def eQ (f3:Nat->Wd) (k:Nat):Co:=(f3 k).c
noncomputable def gZ (f0 f1 f2:Nat->Wd):List Co:=[(f0 1).c,(f0 3).c,(f0 5).c,(f0 7).c,(f1 1).c,(f1 3).c,(f1 5).c,(f1 7).c,(f2 1).c,(f2 3).c,(f2 5).c,(f2 7).c]
theorem Df (D:cI C) {l:List Int} {f1 f2 f3:Nat->Wd} (P:hV (bY l) (br l) (aw l) f1 f2 f3):∃ xe ye,Tk xe [101,110,100] []/\Tk ye [101,110,100] []/\xe.length<800000/\ye.length<800000 /\
 ExS C (k+6) (.assign [bF] false (.call (.glob eP) [(.var aI),(.bin .FloorDiv (.var bX) (.cInt 8704)),(.var dK)])) (M9 l (σ.next+2) (σ.next+5) (.loc (σ.next+6))) (gx σ (dj l) (c9 l)) .next (M10 l (σ.next+2) (σ.next+5) (.loc (σ.next+6)) (eQ f3))
  ((P2.of σ).sto (gx σ (dj l) (c9 l)) (lsN (NA (dj l)) xe []) (lsN (NA (c9 l)) ye []) ((gZ (wd2 (bY l) (br l)) f1 f2).map bG)):=by
 obtain ⟨xe,rx,tx⟩:=P.readA
 obtain ⟨ye,ry,ty⟩:=P.readB
 have la:=rU l
 have lb:=rV l
 have F:=BF (C:=C) (k:=k) D.D D.pass D.run P.look (uT (σ:=σ) (x:=dj l) (y:=c9 l)) (N:=NA (dj l)) (M:=NA (c9 l)) P.passes (x:=dj l) (y:=c9 l) (by omega) (by omega) rx ry
 rw [<-xY,<-xY,<-AA] at F
 refine ⟨xe,ye,tx,ty,Nat.lt_of_le_of_lt rx.len (by show (dj l).length<_;omega),Nat.lt_of_le_of_lt ry.len (by show (c9 l).length<_;omega),?_⟩
 exact aj (aK D.D.H (ah (aa (x:=aI) rfl) (ah (fL 8704 (by simp) (by simp) (aa (x:=bX) rfl)) (ah (aa (x:=dK) rfl) ai))) F) rfl fun _=>rfl
theorem oL (D:cI C) {e:Ex} {c:Co} (h:EvE C (k+1) e ρ σ c.row σ1):EvE C (k+1) (.call (.glob a6) [e]) ρ σ (.list (zs (fo c))) σ1 :=
 aK D.D.H (ah h ai) (wV (k:=k) D.D.H D.tint (a:=(c.r:Int)) (b:=(c.g:Int)) (c:=(c.b:Int)))
theorem CI (D:cI C) {l:List Int} {s m:Nat} {f1 f2 f3:Nat->Wd} (P:hV (bY l) s m f1 f2 f3) {x y:Nat} {v:V}:EvT C (k+1) (.cmp (.comp (.bin .Add (.call (.glob a6) [(.var f8)]) (.slice (.var f8) [some (.cInt 3),none,none])) [[f8]] [(.var bF)] [[]] [ax,f8]) [.NotEq] [(.comp (.call (.glob a6) [(.call (.glob d9) [(.var aA),(.var cp),(.var n_k)])]) [[n_k]] [(.call (.glob aY) [(.cInt 8)])] [[]] [ax,n_k])]) (M12 l x y v (eQ f3)) σ false σ:=by
 have H:=D.D.H;have B:=D.D.B
 have e:(R8.map fun i=>V.list (zs (fo (eQ f3 i))))=R8.map fun i=>V.list (zs (rO (bY l) i)):=List.map_congr_left fun i hi=>congrArg (fun z=>V.list (zs z)) (P.tint i (mA hi))
 have E1:EvE C (k+1) (.comp (.bin .Add (.call (.glob a6) [(.var f8)]) (.slice (.var f8) [some (.cInt 3),none,none])) [[f8]] [(.var bF)] [[]] [ax,f8]) (M12 l x y v (eQ f3)) σ (.list (R8.map fun i=>V.list (zs (fo (eQ f3 i))))) σ :=
  c5 (l:=R8) (inj:=fun i=>(eQ f3 i).row) (f:=fun i=>V.list (zs (fo (eQ f3 i)))) (ρ1:=fun i=>M12 l x y v (eQ f3)++[(f8,(eQ f3 i).row)]) (own:=[ax,f8]) (aa (x:=bF) rfl) rfl rfl rfl (fun i=>rfl) (fun i hi =>
   ak (oL D (aa rfl)) (gV (il:=some 3) (ih:=none) (is:=none) (aa (x:=f8) rfl) (au:EvE C (k+1) (.cInt 3) _ _ _ _) trivial trivial d7 PySem.F.slot_list_getitem.lookup (iq (r:=[]) (by decide) (by rfl) (szl rfl))) (ll (szl rfl))) (szl rfl)
 have E2:EvE C (k+1) (.comp (.call (.glob a6) [(.call (.glob d9) [(.var aA),(.var cp),(.var n_k)])]) [[n_k]] [(.call (.glob aY) [(.cInt 8)])] [[]] [ax,n_k]) (M12 l x y v (eQ f3)) σ (.list (R8.map fun i=>V.list (zs (rO (bY l) i)))) σ :=
  c5 (l:=R8) (inj:=fun i:Nat=>.int (i:Int)) (f:=fun i=>V.list (zs (rO (bY l) i))) (ρ1:=fun i=>M12 l x y v (eQ f3)++[(n_k,.int ((i:Nat):Int))]) (own:=[ax,n_k]) (aC H B.range (ah au ai) bo) rfl (by rfl) rfl (fun i=>rfl) (fun i hi =>
   aK H (ah (aK H (ah (aa (x:=aA) rfl) (ah (aa (x:=cp) rfl) (ah (aa (x:=n_k) rfl) ai))) (Dh (k:=k) H B D.sum (mA hi))) ai) (wV (k:=k) H D.tint)) (szl rfl)
 rw [e] at E1
 exact aH E1 E2 (ip (by rfl)) aF
theorem Bv (D:cI C) (G:eS) {l:List Int} {x y:Nat} {v:V} {g:Nat->Co} (hf:∀ k,k<8->(g k).Lt 32768):ExS C (k+4) (.assign [ic] false (.call (.glob ei) [(.var bF),(.var cp),(.var aD)])) (M12 l x y v g) σ .next (M13 l x y v g) σ :=
 aj (aK D.D.H (ah (aa (x:=bF) rfl) (ah (aa (x:=cp) rfl) (ah (aa (x:=aD) rfl) ai))) (BA (k:=k) D.D D.back G (Nat.mod_lt _ (by decide)) hf)) rfl fun _=>rfl
theorem CH (D:cI C) {l:List Int} {s:Nat} {f1 f2 f3:Nat->Wd} (P:hV (bY l) s (aw l) f1 f2 f3) {x y:Nat} {v:V}:EvT C (k+2) (.boolop .Or [(.cmp (.call (.glob a6) [(.var ic)]) [.NotEq] [(.comp (.bin .Mult (.cInt 8) (.var aJ)) [[aJ]] [(.call (.glob a6) [(.sub (.var aA) (.var aD))])] [[]] [ax,aJ])]),(.cmp (.call (.glob cF) [(.var ic)]) [.NotEq] [(.call (.glob cF) [(.sub (.var aA) (.var aD))])])]) (M13 l x y v (eQ f3)) σ false σ:=by
 have H:=D.D.H;have B:=D.D.B
 have hp:aw l / 1088 % 8<8:=Nat.mod_lt _ (by decide)
 have EP:EvE C (k+2) (.sub (.var aA) (.var aD)) (M13 l x y v (eQ f3)) σ (bY l (aw l / 1088 % 8)).row σ:=dy (aa (x:=aA) rfl) (aa (x:=aD) rfl) (pS _ hp) (by omega)
 have EB:EvE C (k+2) (.var ic) (M13 l x y v (eQ f3)) σ (aR (eQ f3) (aw l / 1088 % 8) 8).row σ:=aa rfl
 have E2:EvE C (k+2) (.comp (.bin .Mult (.cInt 8) (.var aJ)) [[aJ]] [(.call (.glob a6) [(.sub (.var aA) (.var aD))])] [[]] [ax,aJ]) (M13 l x y v (eQ f3)) σ (.list ((fo (bY l (aw l / 1088 % 8))).map fun i=>V.int (8*i))) σ :=
  c5 (l:=fo (bY l (aw l / 1088 % 8))) (inj:=V.int) (f:=fun i=>V.int (8*i)) (ρ1:=fun i=>M13 l x y v (eQ f3)++[(aJ,.int i)]) (own:=[ax,aJ]) (oL (k:=k+1) D EP) rfl rfl rfl (fun i=>rfl) (fun i hi=>ak au (aa rfl) (iI (.of_left (by decide)))) (szl rfl)
 have E1:=oL (k:=k+1) D EB
 have eb:fo (aR (eQ f3) (aw l / 1088 % 8) 8)=(fo (bY l (aw l / 1088 % 8))).map (8*·):=P.back
 rw [eb] at E1
 have T1:=aH E1 E2 (ip (v:=.list (zs ((fo (bY l (aw l / 1088 % 8))).map (8*·)))) (by rfl)) aF
 have HB:=aK H (ah EB ai) (wP (k:=k) (σ:=σ) D.D.K D.hues P.hueB)
 have HF:=aK H (ah EP ai) (wP (k:=k) (σ:=σ) D.D.K D.hues P.hueF)
 have eh:dT (aR (eQ f3) (aw l / 1088 % 8) 8)=dT (bY l (aw l / 1088 % 8)):=P.hue
 have HB':EvE C (k+2) (.call (.glob cF) [(.var ic)]) (M13 l x y v (eQ f3)) σ (.list [.flu (dT (bY l (aw l / 1088 % 8))),.flu (dT (bY l (aw l / 1088 % 8)))]) σ:=by rw [<-eh];exact HB
 exact oP T1 (aH HB' HF (td H D.booked P.same) aF)
end
end
section
open PySem PyProof.Rows
set_option maxRecDepth 100000
noncomputable def qm (x:List Nat):V:=.list [.str [101,110,100],.str [],.int (NA x)]
section
variable {C:Cx} {k:Nat} {ρ ρ1:Loc} {σ σ1 σ2:Sto}
theorem qo (L:Lex C) {p:Pl3} {τ:Sto} (h:p.Ok τ) {x xe:List Nat} (hl:get ρ aO=some (.loc p.lx)) (hx:xe.length<800000) (ht:Tk xe [101,110,100] []) :
 EvE C (k+4) (.list [(.meth (.var aO) aU []),(.meth (.var aO) aU []),(.attr (.var aO) iH)]) ρ (p.put τ (lsN (NA x) xe [])) (qm x) (p.put τ (lsN (NA x) [] [])):=by
 have E1:=oN (C:=C) (k:=k) L h (ρ:=ρ) (o:=.var aO) (N:=NA x) (aa hl) hx ht
 have E2:=oN (C:=C) (k:=k) L h (ρ:=ρ) (o:=.var aO) (N:=NA x) (x:=[]) (aa hl) (by simp) Tk.none
 have E3:=sL (C:=C) (k:=k+4) (ρ:=ρ) (o:=.var aO) (a:=lsN (NA x) [] []) L h (aa hl)
 have eN:(lsN (NA x) [] []).line=NA x:=by show NA x - cnt []=NA x;simp only [lF];exact Int.sub_zero _
 rw [eN] at E3
 exact cu (ah E1 (ah E2 (ah E3 ai))) (szl rfl)
theorem xc {x:List Nat} (ht:get ρ bN=some (.str x)):EvE C k (.list [(.cStr [101,110,100]),(.cStr []),(.bin .Add (.cInt 1) (.meth (.var bN) pn [(.cStr [10])]))]) ρ σ (qm x) σ:=by
 refine cu (ah bA (ah bA (ah (EvE.eq (ak au (dq (aa (x:=bN) ht) (gW (by rw [<-wb,aP];exact PySem.F.slot_str_count) PySem.F.type_str_count) (.bi _) (ah bA ai) xB) gQ) (congrArg V.int ?_)) ai))) (szl rfl)
 delta NA;rw [vt]
theorem uH (x:List Nat) (n:Nat):okD (n+2) (qm x)=true:=by
 show (okD (n+1) (.str [101,110,100])&&(okD (n+1) (.str [])&&(okD (n+1) (.int (NA x))&&true)))=true
 rw [uI n (by decide),uI n (by decide)];rfl
theorem BB (D:cI C) {nl:Nm} (d:DefAt C nl sh T_law2) {l:List Int} (hl:l.length<=63) (hf:(ck l none (some 60) none).length<=1000) {f1 f2 f3:Nat->Wd} (P:hV (bY l) (br l) (aw l) f1 f2 f3):∃ σ',Calls C (k+7) nl [.list (zs l)] σ (.bool true) σ':=by
 have H:=D.D.H;have B:=D.D.B;have L:=D.D.L
 obtain ⟨xe,ye,tx,ty,hx,hy,hrun⟩:=Df (k:=k) (σ:=σ) D P
 have ok:=uT (σ:=σ) (x:=dj l) (y:=c9 l)
 have hg:∀ j,j<8->(eQ f3 j).Lt 32768:=fun j hj=>(P.passes.o3 j hj).2
 refine ⟨(P2.of σ).q.put ((P2.of σ).p.put (((gx σ (dj l) (c9 l)).set (P2.of σ).t (.list ((gZ (wd2 (bY l) (br l)) f1 f2).map bG))).del (P2.of σ).t) (lsN (NA (dj l)) [] [])) (lsN (NA (c9 l)) [] []),d.callsE H ?_ rfl⟩
 unfold T_law2
 refine ap (ρ1:=M1 l) (σ1:=σ) (aj (gV (il:=none) (ih:=some 60) (is:=none) (aa (x:=ce) rfl) trivial (au:EvE C (k+6) (.cInt 60) _ _ _ _) trivial d7 PySem.F.slot_list_getitem.lookup (rG (by decide) (by rw [sizeLine_eq];lia -abstractProof))) rfl fun _=>rfl) ?_
 refine ap (y3 H B hf) ?_
 have row:∀ (a b c:Nat) (ρ:Loc) (σ:Sto),EvE C (k+6) (.list [.cInt (a:Int),.cInt (b:Int),.cInt (c:Int)]) ρ σ (Co.row ⟨a,b,c⟩) σ:=fun a b c ρ σ=>cu (ah au (ah au (ah au ai))) (szl rfl)
 refine ap (ρ1:=M3 l) (σ1:=σ) (aj (cu (ah (row 2186 650 4042 _ _) (ah (row 1349 1349 1349 _ _) (ah (row 32 3872 3872 _ _) (ah (row 4045 2061 589 _ _) (ah (row 864 3232 1824 _ _) (ah (row 3874 34 2914 _ _) (ah (row 3968 4032 3904 _ _) (ah (row 4032 3008 0 _ _) ai)))))))) (szl rfl)) rfl fun _=>rfl) ?_
 refine ap (Bw H B) ?_
 have hp:∀ j:Nat,j<10->EvE C (k+6) (.sub (.var bO) (.cInt (j:Int))) (M4 l) σ (.int ((cP l j:Nat):Int)) σ:=fun j hj=>dy (aa (x:=bO) rfl) au (uq j hj) (by omega)
 have pm:∀ (a j b:Nat),j<10->b≠0->EvE C (k+6) (.bin .Mod (.bin .Add (.cInt (a:Int)) (.sub (.var bO) (.cInt (j:Int)))) (.cInt (b:Int))) (M4 l) σ (.int (((a+cP l j) % b:Nat):Int)) σ:=fun a j b hj hb=>dn b hb (EvE.eq (ak au (hp j hj) gQ) (congrArg V.int (Int.natCast_add _ _).symm))
 refine ap (ρ1:=M5 l) (σ1:=σ) (aj (ib (ah (pm 2011500 8 2097152 (by decide) (by decide)) (ah (pm 6871 9 17408 (by decide) (by decide)) ai)) (szl rfl)) rfl (fun h=>nomatch h)) ?_
 have m17:∀ ρ,get ρ bX=some (.int ((aw l:Nat):Int))->EvE C (k+6) (.bin .Mod (.var bX) (.cInt 17)) ρ σ (.int ((aw l % 17:Nat):Int)) σ:=fun ρ g=>dn 17 (by decide) (aa g)
 have ad:∀ {e1 e2:Ex} {a b:Nat} {ρ:Loc},EvE C (k+6) e1 ρ σ (.int (a:Int)) σ->EvE C (k+6) e2 ρ σ (.int (b:Int)) σ->EvE C (k+6) (.bin .Add e1 e2) ρ σ (.int ((a+b:Nat):Int)) σ:=fun h1 h2=>EvE.eq (ak h1 h2 gQ) (congrArg V.int (Int.natCast_add _ _).symm)
 refine ap (σ1:=σ) (aj (v:=.int ((fl2 (aw l) 1:Nat):Int)) (ad (ad (m17 _ rfl) (au (i:=(1:Nat)))) (dn 8 (by decide) (fL 17 (by simp) (by simp) (aa rfl)))) rfl fun _=>rfl) ?_
 refine ap (σ1:=σ) (aj (v:=.list (zN (flL (aw l)))) (cu (ah (m17 _ rfl) (ah (aa rfl) (ah (ad (ad (aa rfl) (au (i:=(1:Nat)))) (dn 8 (by decide) (fL 136 (by simp) (by simp) (aa rfl)))) ai))) (szl rfl)) rfl fun _=>rfl) ?_
 refine ap (ρ1:=M6 l) (σ1:=σ) (aj (dn 8 (by decide) (fL 1088 (by simp) (by simp) (aa rfl))) rfl fun _=>rfl) ?_
 refine ap (y5 (k:=k+3) D) ?_
 refine ap (y4 (k:=k+3) D) ?_
 refine ap (ρ1:=M9 l (σ.next+2) (σ.next+5) (.loc (σ.next+6))) (σ1:=gx σ (dj l) (c9 l)) (aj (jT ai (szl rfl)) rfl fun _=>rfl) ?_
 refine ap hrun ?_
 have fz:∀ {ts:List St} {f:Fl} {σ':Sto},ExE C (k+6) ts (M10 l (σ.next+2) (σ.next+5) (.list ((gZ (wd2 (bY l) (br l)) f1 f2).map bG)) (eQ f3)) (((P2.of σ).sto (gx σ (dj l) (c9 l)) (lsN (NA (dj l)) xe []) (lsN (NA (c9 l)) ye []) ((gZ (wd2 (bY l) (br l)) f1 f2).map bG)).del (σ.next+6)) f σ' ->
  ExE C (k+6) ts (M10 l (σ.next+2) (σ.next+5) (.loc (σ.next+6)) (eQ f3)) ((P2.of σ).sto (gx σ (dj l) (c9 l)) (lsN (NA (dj l)) xe []) (lsN (NA (c9 l)) ye []) ((gZ (wd2 (bY l) (br l)) f1 f2).map bG)) f σ':=fun h=>by
  obtain ⟨ρ',h⟩:=h
  exact ⟨ρ',ExL.frz (l:=σ.next+6) (P2.get_t ok) (xI (x:=dK) (B:=[(bF,.list (cy (eQ f3)))]) (M8 l (σ.next+2) (σ.next+5))) h⟩
 refine fz ?_
 have ed:((P2.of σ).sto (gx σ (dj l) (c9 l)) (lsN (NA (dj l)) xe []) (lsN (NA (c9 l)) ye []) ((gZ (wd2 (bY l) (br l)) f1 f2).map bG)).del (σ.next+6)=(P2.of σ).p.put ((P2.of σ).q.put (((gx σ (dj l) (c9 l)).set (P2.of σ).t (.list ((gZ (wd2 (bY l) (br l)) f1 f2).map bG))).del (P2.of σ).t) (lsN (NA (c9 l)) ye [])) (lsN (NA (dj l)) xe []):=by
  show (P2.sto _ _ _ _ _).del (P2.of σ).t=_
  unfold P2.sto
  rw [Pl3.del_ ok.tp.1 ok.tp.2.1 ok.tp.2.2,Pl3.del_ ok.tq.1 ok.tq.2.1 ok.tq.2.2]
 rw [ed]
 refine ap (Bx (k:=k+4) D P.mask) ?_
 refine ba (CJ (k:=k+5) D P) ?_
 refine ba (AF (k:=k+4) D P (fun c hc=>?_) (Nat.le_of_ble_eq_true rfl)) ?_
 ·simp only [gZ,List.mem_cons,List.not_mem_nil,or_false] at hc
  rcases hc with rfl | rfl | rfl | rfl | rfl | rfl | rfl | rfl | rfl | rfl | rfl | rfl
  ·exact (P.passes.o0 _ (by decide)).2
  ·exact (P.passes.o0 _ (by decide)).2
  ·exact (P.passes.o0 _ (by decide)).2
  ·exact (P.passes.o0 _ (by decide)).2
  ·exact (P.passes.o1 _ (by decide)).2
  ·exact (P.passes.o1 _ (by decide)).2
  ·exact (P.passes.o1 _ (by decide)).2
  ·exact (P.passes.o1 _ (by decide)).2
  ·exact (P.passes.o2 _ (by decide)).2
  ·exact (P.passes.o2 _ (by decide)).2
  ·exact (P.passes.o2 _ (by decide)).2
  ·exact (P.passes.o2 _ (by decide)).2
 refine ap (De D P) ?_
 refine ba (CI (k:=k+5) D P) ?_
 refine ap (Bv (k:=k+2) D P.look hg) ?_
 refine ba (CH (k:=k+4) D P) ?_
 have pk:∀ b,(P2.of σ).p.Ok ((P2.of σ).q.put (((gx σ (dj l) (c9 l)).set (P2.of σ).t (.list ((gZ (wd2 (bY l) (br l)) f1 f2).map bG))).del (P2.of σ).t) b):=fun b=>⟨ok.p.ne,ok.p.np,ok.p.nq,ok.p.bx,ok.p.bf,ok.p.bp⟩
 have qk:∀ a,(P2.of σ).q.Ok ((P2.of σ).p.put (((gx σ (dj l) (c9 l)).set (P2.of σ).t (.list ((gZ (wd2 (bY l) (br l)) f1 f2).map bG))).del (P2.of σ).t) a):=fun a=>⟨ok.q.ne,ok.q.np,ok.q.nq,ok.q.bx,ok.q.bf,ok.q.bp⟩
 have E1:=qo (C:=C) (k:=k+2) (ρ:=M13 l (σ.next+2) (σ.next+5) (.list ((gZ (wd2 (bY l) (br l)) f1 f2).map bG)) (eQ f3)++[(aO,.loc (σ.next+2))]) L (pk (lsN (NA (c9 l)) ye [])) (x:=dj l) rfl hx tx
 have E2:=qo (C:=C) (k:=k+2) (ρ:=M13 l (σ.next+2) (σ.next+5) (.list ((gZ (wd2 (bY l) (br l)) f1 f2).map bG)) (eQ f3)++[(aO,.loc (σ.next+5))]) L (qk (lsN (NA (dj l)) [] [])) (x:=c9 l) rfl hy ty
 rw [<-rs (b:=lsN (NA (c9 l)) ye []) ok.q1 ok.q2 ok.q3] at E2
 refine bB (oJ (CompOk.ev (fJ (vs:=[.loc (σ.next+2),.loc (σ.next+5)]) (aa (x:=aI) rfl) rfl rfl (.emit rfl rfl ⟨rfl,rfl⟩ E1 (.emit rfl rfl ⟨rfl,rfl⟩ E2 .nil)) (szl rfl))) (c5 (l:=[dj l,c9 l]) (inj:=.str) (f:=qm) (ρ1:=fun x=>M13 l (σ.next+2) (σ.next+5) (.list ((gZ (wd2 (bY l) (br l)) f1 f2).map bG)) (eQ f3)++[(bN,.str x)]) (own:=[ax,bN]) (aa (x:=dL) rfl) rfl rfl rfl (fun x=>rfl) (fun x _=>xc rfl) (szl rfl)) (jx (v:=.list [qm (dj l),qm (c9 l)]) ?_))
 show (okD 59 (qm (dj l))&&(okD 59 (qm (c9 l))&&true))=true
 rw [uH _ 57,uH _ 57];rfl
end
end
section
theorem Co.mx_ge (c:Co):c.r<=c.mx/\c.g<=c.mx/\c.b<=c.mx:=⟨Nat.le_trans (Nat.le_max_left _ _) (Nat.le_max_left _ _),Nat.le_trans (Nat.le_max_right _ _) (Nat.le_max_left _ _),Nat.le_max_right _ _⟩
theorem Co.mn_le (c:Co):c.mn<=c.r/\c.mn<=c.g/\c.mn<=c.b:=⟨Nat.le_trans (Nat.min_le_left _ _) (Nat.min_le_left _ _),Nat.le_trans (Nat.min_le_left _ _) (Nat.min_le_right _ _),Nat.min_le_right _ _⟩
theorem qY (c:Co):c.mx=c.r\/c.mx=c.g\/c.mx=c.b:=by
 unfold Co.mx
 rcases Nat.le_total (max c.r c.g) c.b with h | h
 ·exact .inr (.inr (Nat.max_eq_right h))
 ·rw [Nat.max_eq_left h]
  rcases Nat.le_total c.r c.g with q | q
  ·exact .inr (.inl (Nat.max_eq_right q))
  ·exact .inl (Nat.max_eq_left q)
theorem uz (c:Co):c.mn=c.r\/c.mn=c.g\/c.mn=c.b:=by
 unfold Co.mn
 rcases Nat.le_total (min c.r c.g) c.b with h | h
 ·rw [Nat.min_eq_left h]
  rcases Nat.le_total c.r c.g with q | q
  ·exact .inl (Nat.min_eq_left q)
  ·exact .inr (.inl (Nat.min_eq_right q))
 ·exact .inr (.inr (Nat.min_eq_right h))
theorem Co.mx_lt {c:Co} {n:Nat} (h:c.Lt n):c.mx<n:=by
 rcases qY c with q | q | q<;>rw [q]
 ·exact h.1
 ·exact h.2.1
 ·exact h.2.2
theorem Co.opp_lt {c:Co} {n:Nat} (h:c.Lt n):c.opp.Lt n:=by
 have h1:=Co.mx_lt h
 obtain ⟨a1,a2,a3⟩:=c.mn_le
 exact ⟨by show c.mx+c.mn - c.r<n;omega,by show c.mx+c.mn - c.g<n;omega,by show c.mx+c.mn - c.b<n;omega⟩
theorem Co.add_lt {c d:Co} {n m:Nat} (h:c.Lt n) (k:d.Lt m):(c.add d).Lt (n+m):=⟨Nat.add_lt_add h.1 k.1,Nat.add_lt_add h.2.1 k.2.1,Nat.add_lt_add h.2.2 k.2.2⟩
theorem pK {d n:Nat} {g:Nat->Wd} (h:∀ j,j<8->(g j).c.Lt n):∀ j,j<8->(cr d g j).c.Lt (n+n):=fun j hj=>by
 unfold cr
 split
 ·exact Co.add_lt (h _ (by omega)) (h _ (by omega))
 ·exact Co.add_lt (h _ (by omega)) (Co.opp_lt (h _ (by omega)))
theorem pJ {d:Nat} {g:Nat->Wd} (j:Nat):(cr (d % 2) g j).hi=0\/(cr (d % 2) g j).hi=128:=by
 unfold cr
 rcases Nat.mod_two_eq_zero_or_one d with h | h<;>rw [h]<;>split
 ·exact .inl rfl
 ·exact .inr rfl
 ·exact .inr rfl
 ·exact .inl rfl
theorem Co.Lt.mono {c:Co} {n m:Nat} (h:c.Lt n) (k:n<=m):c.Lt m:=⟨Nat.lt_of_lt_of_le h.1 k,Nat.lt_of_lt_of_le h.2.1 k,Nat.lt_of_lt_of_le h.2.2 k⟩
theorem DU {f:Nat->Co} {s j:Nat}:(wd2 f s j).c=f j:=by unfold wd2;split<;>rfl
theorem DV {f:Nat->Co} {s j:Nat}:(wd2 f s j).hi=0\/(wd2 f s j).hi=128:=by
 have h:∀ u i,g9 u i / 2*128=0\/g9 u i / 2*128=128:=fun u i=>by
  have:=Nat.mod_lt (u / 4 ^ i) (show 0<4 by decide)
  exact (by decide:∀ w,w<4->w / 2*128=0\/w / 2*128=128) _ this
 unfold wd2
 split
 ·exact h _ _
 ·exact h _ _
noncomputable def g1 (m s:Nat) (f:Nat->Co):Nat->Wd:=cr (m / 8704 % 2) (wd2 f s)
noncomputable def g2 (m s:Nat) (f:Nat->Co):Nat->Wd:=cr ((1+m / 8704) % 2) (g1 m s f)
noncomputable def g3 (m s:Nat) (f:Nat->Co):Nat->Wd:=cr ((2+m / 8704) % 2) (g2 m s f)
theorem wg {m s:Nat} {f:Nat->Co} (h:∀ j,j<8->(f j).Lt 4096):si (m / 8704) (wd2 f s) (g1 m s f) (g2 m s f) (g3 m s f):=by
 have h0:∀ j,j<8->(wd2 f s j).c.Lt 4096:=fun j hj=>by rw [DU];exact h j hj
 have h1:=pK (d:=m / 8704 % 2) h0
 have h2:=pK (d:=(1+m / 8704) % 2) h1
 have h3:=pK (d:=(2+m / 8704) % 2) h2
 have mk:∀ {w:Wd} {n:Nat},w.c.Lt n->n<=32768->(w.hi=0\/w.hi=128)->w.Ok/\w.c.Lt 32768:=fun a b c=>⟨⟨a.mono (Nat.le_trans b (by decide)),c⟩,a.mono b⟩
 exact ⟨rfl,rfl,rfl,fun j hj=>mk (h0 j hj) (by decide) DV,fun j hj=>mk (h1 j hj) (by decide) (pJ j),fun j hj=>mk (h2 j hj) (by decide) (pJ j),fun j hj=>mk (h3 j hj) (by decide) (pJ j)⟩
structure Tint (L:Co->Int):Prop where
 add:∀ c d,L (c.add d)=L c+L d
 opp:∀ c,L c.opp=- L c
noncomputable def tA (c:Co):Int:=(c.r:Int) - c.g
noncomputable def tB (c:Co):Int:=(c.g:Int) - c.b
theorem tA_ok:Tint tA:=⟨fun c d=>by show ((c.r+d.r:Nat):Int) - ((c.g+d.g:Nat):Int)=(c.r:Int) - c.g+(d.r - d.g);omega,fun c=>by
 obtain ⟨a1,a2,a3⟩:=c.mx_ge
 show ((c.mx+c.mn - c.r:Nat):Int) - ((c.mx+c.mn - c.g:Nat):Int)=-((c.r:Int) - c.g);omega⟩
theorem tB_ok:Tint tB:=⟨fun c d=>by show ((c.g+d.g:Nat):Int) - ((c.b+d.b:Nat):Int)=(c.g:Int) - c.b+(d.g - d.b);omega,fun c=>by
 obtain ⟨a1,a2,a3⟩:=c.mx_ge
 show ((c.mx+c.mn - c.g:Nat):Int) - ((c.mx+c.mn - c.b:Nat):Int)=-((c.g:Int) - c.b);omega⟩
noncomputable def iQ (x:Nat->Int) (k:Nat):Int:=(R8.map fun i=>if oddN.getD (i &&& k) 0≠0 then - x i else x i).sum
theorem w8a (a b c d e f g h:Int):a+b+(c+d)+(e+f+(g+h))=a+(b+(c+(d+(e+(f+(g+(h+0))))))):=by simp only [Int.add_assoc,Int.add_zero]
theorem Ek (a b:Int):-(a+b)=-a+-b:=Int.neg_add
theorem Tint.walsh {L:Co->Int} (T:Tint L) {m s:Nat} {f:Nat->Co}:∀ k,k<8->L (g3 m s f k).c=iQ (fun i=>L (f i)) k:=by
 have up:∀ {d:Nat} {g:Nat->Wd} (j:Nat) {x y:Int},j<4->L (g (2*j)).c=x->L (g (2*j+1)).c=y->L (cr d g j).c=x+y/\L (cr d g (j+4)).c=x+-y:=fun {d g} j {x y} hj hx hy=>by
  subst hx
  subst hy
  refine ⟨?_,?_⟩
  ·rw [cr,if_pos hj];exact T.add _ _
  ·rw [cr,if_neg (Nat.not_lt.mpr (Nat.le_add_left 4 j)),Nat.add_sub_cancel]
   show L (Co.add _ _)=_
   rw [T.add,T.opp]
 have e0:∀ j,L (wd2 f s j).c=L (f j):=fun j=>congrArg L DU
 have a0:=up (d:=m / 8704 % 2) (g:=wd2 f s) 0 (by decide) (e0 0) (e0 1)
 have a1:=up (d:=m / 8704 % 2) (g:=wd2 f s) 1 (by decide) (e0 2) (e0 3)
 have a2:=up (d:=m / 8704 % 2) (g:=wd2 f s) 2 (by decide) (e0 4) (e0 5)
 have a3:=up (d:=m / 8704 % 2) (g:=wd2 f s) 3 (by decide) (e0 6) (e0 7)
 have b0:=up (d:=(1+m / 8704) % 2) (g:=g1 m s f) 0 (by decide) a0.1 a1.1
 have b1:=up (d:=(1+m / 8704) % 2) (g:=g1 m s f) 1 (by decide) a2.1 a3.1
 have b2:=up (d:=(1+m / 8704) % 2) (g:=g1 m s f) 2 (by decide) a0.2 a1.2
 have b3:=up (d:=(1+m / 8704) % 2) (g:=g1 m s f) 3 (by decide) a2.2 a3.2
 have c0:=up (d:=(2+m / 8704) % 2) (g:=g2 m s f) 0 (by decide) b0.1 b1.1
 have c1:=up (d:=(2+m / 8704) % 2) (g:=g2 m s f) 1 (by decide) b2.1 b3.1
 have c2:=up (d:=(2+m / 8704) % 2) (g:=g2 m s f) 2 (by decide) b0.2 b1.2
 have c3:=up (d:=(2+m / 8704) % 2) (g:=g2 m s f) 3 (by decide) b2.2 b3.2
 simp only [Ek,Int.neg_neg] at c0 c1 c2 c3
 exact at8 (c0.1.trans (w8a ..)) (c1.1.trans (w8a ..)) (c2.1.trans (w8a ..)) (c3.1.trans (w8a ..)) (c0.2.trans (w8a ..)) (c1.2.trans (w8a ..)) (c2.2.trans (w8a ..)) (c3.2.trans (w8a ..))
theorem ot (f:Nat->Co) (p q k:Nat):dE f k p - dE f k q=iQ (fun i=>((f i).l.getD p 0:Int) - ((f i).l.getD q 0:Int)) k:=by
 have e:∀ (l:List Nat) (b:Nat->Prop) [DecidablePred b] (x y:Nat->Int),(l.map fun i=>if b i then -x i else x i).sum - (l.map fun i=>if b i then -y i else y i).sum=(l.map fun i=>if b i then -(x i - y i) else x i - y i).sum:=fun l b _ x y=>by
  induction l with
  | nil=>rfl
  | cons a l ih =>
    simp only [List.map_cons,List.sum_cons]
    rw [<-ih]
    split<;>omega
 exact e R8 _ _ _
theorem AI {m s:Nat} {f:Nat->Co} (k:Nat) (hk:k<8):fo (g3 m s f k).c=rO f k:=by
 have h1:=tA_ok.walsh (m:=m) (s:=s) (f:=f) k hk
 have h2:=tB_ok.walsh (m:=m) (s:=s) (f:=f) k hk
 show [tA (g3 m s f k).c,tB (g3 m s f k).c]=[dE f k 0 - dE f k 1,dE f k 1 - dE f k 2]
 rw [h1,h2,ot,ot];rfl
theorem yy (m:List Nat) (f g:Nat->Int):(m.map fun i=>f i+g i).sum=(m.map f).sum+(m.map g).sum:=by
 induction m with
 | nil=>rfl
 | cons a m ih=>simp only [List.map_cons,List.sum_cons,ih];omega
theorem rL (m:List Nat) (c:Int) (f:Nat->Int):(m.map fun i=>c*f i).sum=c*(m.map f).sum:=by
 induction m with
 | nil=>exact (Int.mul_zero c).symm
 | cons a m ih=>simp only [List.map_cons,List.sum_cons,ih,Int.mul_add]
theorem n9 (m:List Nat):(m.map fun _=>(0:Int)).sum=0:=by
 induction m with
 | nil=>rfl
 | cons a m ih=>simp only [List.map_cons,List.sum_cons,ih];rfl
theorem yB (l m:List Nat) (a:Nat->Nat->Int):(l.map fun k=>(m.map fun i=>a k i).sum).sum=(m.map fun i=>(l.map fun k=>a k i).sum).sum:=by
 induction l with
 | nil=>exact (n9 m).symm
 | cons k l ih=>simp only [List.map_cons,List.sum_cons,ih,yy]
noncomputable def sg (i k:Nat):Int:=if oddN.getD (i &&& k) 0≠0 then -1 else 1
theorem Cy (i k:Nat) (x:Int):(if oddN.getD (i &&& k) 0≠0 then -x else x)=sg i k*x:=by
 unfold sg
 split
 ·exact Int.neg_eq_neg_one_mul x
 ·exact (Int.one_mul x).symm
theorem kx (x:Nat->Int) (k:Nat):iQ x k=(R8.map fun i=>sg i k*x i).sum:=congrArg List.sum (List.map_congr_left fun i _=>Cy i k (x i))
theorem Av:∀ j,j<8->∀ i∈R8,(R8.map fun k=>sg k j*sg i k).sum=if i=j then 8 else 0:=by decide
theorem rM {j:Nat} (f:Nat->Int):∀ {l:List Nat},l.Nodup->j∈l->(l.map fun i=>if i=j then f i else 0).sum=f j
 | a::l,hn,hj=>by
   obtain ⟨h1,h2⟩:=List.nodup_cons.mp hn
   rw [List.map_cons,List.sum_cons]
   by_cases ha:a=j
   ·subst ha
    have e:(l.map fun i=>if i=a then f i else 0)=l.map fun _=>(0:Int):=List.map_congr_left fun i hi=>if_neg fun (q:i=a)=>h1 (q▸hi)
    rw [if_pos rfl,e,n9];exact Int.add_zero _
   ·rw [if_neg ha,rM f h2 ((List.mem_cons.mp hj).resolve_left (Ne.symm ha))];exact Int.zero_add _
theorem rY (x:Nat->Int) (j:Nat) (hj:j<8):iQ (iQ x) j=8*x j:=by
 rw [kx]
 have e1:(R8.map fun k=>sg k j*iQ x k)=R8.map fun k=>(R8.map fun i=>sg k j*sg i k*x i).sum:=List.map_congr_left fun k _=>by
  rw [kx,<-rL]
  exact congrArg List.sum (List.map_congr_left fun i _=>(Int.mul_assoc _ _ _).symm)
 rw [e1,yB]
 have e2:(R8.map fun i=>(R8.map fun k=>sg k j*sg i k*x i).sum)=R8.map fun i=>if i=j then 8*x i else 0:=List.map_congr_left fun i hi=>by
  have e3:(R8.map fun k=>sg k j*sg i k*x i)=R8.map fun k=>x i*(sg k j*sg i k):=List.map_congr_left fun k _=>Int.mul_comm _ _
  rw [e3,rL,Av j hj i hi]
  split
  ·exact Int.mul_comm _ _
  ·exact Int.mul_zero _
 rw [e2]
 exact rM (fun i=>8*x i) (by decide) ((by decide:∀ j,j<8->j∈R8) j hj)
theorem Tint.mix {L:Co->Int} (T:Tint L) (h0:L ⟨0,0,0⟩=0) (g:Nat->Co) (j:Nat):L (aR g j 8)=iQ (fun k=>L (g k)) j:=by
 have st:∀ n,L (aR g j (n+1))=L (aR g j n)+(if oddN.getD (n &&& j) 0≠0 then -L (g n) else L (g n)):=fun n=>by
  show L (Co.add _ _)=_
  rw [T.add]
  split
  ·rw [T.opp]
  ·rfl
 rw [st 7,st 6,st 5,st 4,st 3,st 2,st 1,st 0,show L (aR g j 0)=0 from h0]
 show _=(List.map _ [0,1,2,3,4,5,6,7]).sum
 simp only [List.map_cons,List.map_nil,List.sum_cons,List.sum_nil,Int.zero_add,Int.add_zero,Int.add_assoc]
theorem Tint.back {L:Co->Int} (T:Tint L) (h0:L ⟨0,0,0⟩=0) {g:Nat->Co} {x:Nat->Int} (hg:∀ k,k<8->L (g k)=iQ x k) (j:Nat) (hj:j<8):L (aR g j 8)=8*x j:=by
 rw [T.mix h0 g j,<-rY x j hj,kx,kx]
 exact congrArg List.sum (List.map_congr_left fun k hk=>congrArg (sg k j*·) (hg k (mA hk)))
theorem y6 {m s:Nat} {f:Nat->Co} {j:Nat} (hj:j<8):fo (aR (fun k=>(g3 m s f k).c) j 8)=(fo (f j)).map (8*·):=by
 have h1:=tA_ok.back rfl (fun k hk=>tA_ok.walsh (m:=m) (s:=s) (f:=f) k hk) j hj
 have h2:=tB_ok.back rfl (fun k hk=>tB_ok.walsh (m:=m) (s:=s) (f:=f) k hk) j hj
 show [tA (aR (fun k=>(g3 m s f k).c) j 8),tB (aR (fun k=>(g3 m s f k).c) j 8)]=[8*tA (f j),8*tB (f j)]
 rw [h1,h2]
theorem tS {g:Nat->Co} {j:Nat} (hg:∀ k,k<8->(g k).Lt 32768):∀ n,n<=8->(aR g j n).r<=n*32767/\(aR g j n).g<=n*32767/\(aR g j n).b<=n*32767
 | 0,_=>⟨Nat.le_refl _,Nat.le_refl _,Nat.le_refl _⟩
 | n+1,h=>by
   obtain ⟨a1,a2,a3⟩:=tS (j:=j) hg n (by omega)
   have hn:=hg n (by omega)
   have key:∀ d:Co,d.Lt 32768->((aR g j n).add d).r<=(n+1)*32767/\((aR g j n).add d).g<=(n+1)*32767/\((aR g j n).add d).b<=(n+1)*32767:=fun d hd=>by
    obtain ⟨b1,b2,b3⟩:=hd
    exact ⟨by show (aR g j n).r+d.r<=_;omega,by show (aR g j n).g+d.g<=_;omega,by show (aR g j n).b+d.b<=_;omega⟩
   show (Co.add _ (if _ then _ else _)).r<=_/\(Co.add _ (if _ then _ else _)).g<=_/\(Co.add _ (if _ then _ else _)).b<=_
   split
   ·exact key _ (Co.opp_lt hn)
   ·exact key _ hn
end
section
open PySem PySem.StrLaws PySem.Builtin PySem.Builtin.Str
noncomputable def eI (x:List Nat) (i:Nat):Bool:=x[i]?==some 44&&x[i+1]?==some 32
theorem x4 (x:List Nat) (i:Nat):mt (ao x) (ao [44,32]) x.length i=eI x i:=by
 delta mt subAt eI
 rw [dH]
 by_cases h:i+1<x.length
 ·rw [show decide (i+[44,32].length<=x.length)=true from by simp;assumption,Bool.true_and,Bool.eq_iff_iff]
  have e:(ao x).cps.extract i (i+[44,32].length)=#[x[i],x[i+1]]:=by
   show (x.toArray).extract i (i+2)=_
   apply Array.ext'
   rw [List.extract_toArray]
   show (x.drop i).take (i+2 - i)=[x[i],x[i+1]]
   rw [List.drop_eq_getElem_cons (by omega),List.drop_eq_getElem_cons h,show i+2 - i=2 from by exact Nat.add_sub_self_left i 2];rfl
  rw [e,List.getElem?_eq_getElem h,List.getElem?_eq_getElem (Nat.le_of_lt (by assumption))]
  show (#[x[i],x[i+1]]==#[44,32])=true↔_
  simp
 ·rw [show decide (i+[44,32].length<=x.length)=false from by simp;exact Nat.lt_of_not_le h,List.getElem?_eq_none (show x.length<=i+1 by exact Nat.le_of_not_lt h)]
  exact Eq.symm (Bool.and_comm (x[i]?==some 44) (none==some 32))
noncomputable def eK (x:List Nat):List Nat:=(List.range (x.length+1)).filter (eI x)
theorem yd (x:List Nat):occurrences (ao x) (ao [44,32]) 0 (ao x).length ((ao x).length+1)=eK x:=by
 rw [mK,dH]
 ·unfold eK
  exact congrFun (congrArg _ (funext fun i=>x4 x i)) _
 ·intro i j h h1 h2
  rw [dH,x4] at h1 h2
  rw [dH]
  simp only [eI,Bool.and_eq_true,beq_iff_eq] at h1 h2
  by_cases hj:j=i+1
  ·subst hj
   rw [h1.2] at h2
   cases h2.1
  ·show i+2<=j;lia -abstractProof
noncomputable def gj (x:List Nat):List (List Nat):=((0::(eK x).map (·+2)).zip (eK x++[x.length])).map fun q=>(x.drop q.1).take (q.2 - q.1)
theorem wu (x:List Nat) (i j:Nat):strSub (ao x) i j=ao ((x.drop i).take (j - i)):=by
 unfold strSub
 show (⟨(x.toArray).extract i j⟩:Str)=_
 rw [List.extract_toArray]
theorem nB (x:List Nat):partsBetween (ao x) (eK x) 2=(gj x).map ao:=by
 delta partsBetween gj
 rw [dH,List.map_map]
 refine List.map_congr_left fun q _=>?_
 exact wu x q.1 q.2
theorem rH (x:List Nat):Txt.split (ao x) (ao [44,32])=(gj x).map ao:=by
 have one:eK x=[]->gj x=[x]:=fun h=>by unfold gj;rw [h];simp
 unfold Txt.split
 rw [yd]
 have hk:decide (Str.strKind (ao x)<Str.strKind (ao [44,32]))=false:=by
  have:Str.strKind (ao [44,32])=1:=by decide +kernel
  rw [this]
  unfold Str.strKind
  split
  ·rfl
  ·split<;>rfl
 rw [hk,Bool.or_false,dH]
 by_cases hl:x.length<2
 ·have hc:eK x=[]:=by
   unfold eK
   rw [List.filter_eq_nil_iff]
   intro i _
   unfold eI
   rw [Bool.and_eq_true,beq_iff_eq,beq_iff_eq]
   rintro ⟨h1,h2⟩
   have:=(List.getElem?_eq_some_iff.mp h2).1
   lia -abstractProof
  rw [show decide (x.length<(ao [44,32]).length)=true from decide_eq_true (show x.length<2 from hl),if_pos rfl,one hc];rfl
 ·rw [if_neg (by rw [show decide (x.length<(ao [44,32]).length)=false from decide_eq_false (show ¬ x.length<2 from hl)];decide)]
  by_cases hc:eK x=[]
  ·rw [if_pos (by rw [hc];rfl),one hc];rfl
  ·rw [if_neg (by simpa using hc)]
   exact nB x
theorem sD {a:List Nat} (h:44∉a):eK a=[]:=by
 unfold eK
 rw [List.filter_eq_nil_iff]
 intro i _
 unfold eI
 simp only [Bool.and_eq_true,beq_iff_eq,beq_iff_eq]
 rintro ⟨h1,_⟩
 exact h (List.mem_of_getElem? h1)
theorem vv {a:List Nat} (h:44∉a) (r:List Nat):eK (a++44::32::r)=a.length::(eK r).map (a.length+2+·):=by
 unfold eK
 have hn:(a++44::32::r).length+1=a.length+(2+(r.length+1)):=by simp;lia -abstractProof
 rw [hn,List.range_add,List.filter_append,List.range_add]
 have h1:(List.range a.length).filter (eI (a++44::32::r))=[]:=by
  rw [List.filter_eq_nil_iff]
  intro i hi
  have hi:=List.mem_range.mp hi
  unfold eI
  simp only [Bool.and_eq_true,beq_iff_eq,beq_iff_eq]
  rintro ⟨q,_⟩
  rw [List.getElem?_append_left hi] at q
  exact h (List.mem_of_getElem? q)
 simp only [h1,List.nil_append,List.map_append,List.filter_append]
 have g:∀ j,(a++44::32::r)[a.length+j]?=(44::32::r)[j]?:=fun j=>by rw [List.getElem?_append_right (by simp)];congr 1;simp
 have h2:((List.range 2).map (a.length+·)).filter (eI (a++44::32::r))=[a.length]:=by
  have t0:eI (a++44::32::r) (a.length+0)=true:=by
   unfold eI
   rw [g 0,show a.length+0+1=a.length+1 from rfl,g 1];rfl
  have t1:eI (a++44::32::r) (a.length+1)=false:=by
   unfold eI
   rw [g 1];rfl
  show ([a.length+0,a.length+1]).filter _=_
  rw [List.filter_cons_of_pos t0,List.filter_cons_of_neg (by rw [t1];decide)];rfl
 rw [h2,List.filter_map,List.filter_map,List.map_map]
 show a.length::_=_
 congr 1
 have e:(fun j=>a.length+(2+j))=fun j=>a.length+2+j:=by funext j;lia -abstractProof
 show (((List.range (r.length+1)).filter _).map _)=_
 have e2:((eI (a++44::32::r) ∘ fun x=>a.length+x) ∘ fun x=>2+x)=eI r:=by
  funext j
  show eI (a++44::32::r) (a.length+(2+j))=eI r j
  unfold eI
  rw [g (2+j),show a.length+(2+j)+1=a.length+(2+(j+1)) from by rfl,g (2+(j+1)),show 2+j=j+1+1 from by exact Nat.add_comm 2 j,show 2+(j+1)=j+1+1+1 from by exact Nat.add_comm 2 (j+1)]
  rfl
 rw [e2]
 refine List.map_congr_left fun j _=>?_
 show a.length+(2+j)=_
 lia -abstractProof
theorem rn {a:List Nat} (h:44∉a):gj a=[a]:=by unfold gj;rw [sD h];simp
theorem th {a:List Nat} (h:44∉a) (r:List Nat):gj (a++44::32::r)=a::gj r:=by
 unfold gj
 rw [vv h,List.map_cons,List.cons_append,List.zip_cons_cons,List.map_cons]
 have e1:((a++44::32::r).drop (0,a.length).1).take ((0,a.length).2 - (0,a.length).1)=a:=by simp
 rw [e1]
 congr 1
 have e2:(a.length+2)::((eK r).map (a.length+2+·)).map (·+2)=(0::(eK r).map (·+2)).map (a.length+2+·):=by
  rw [List.map_cons,List.map_map,List.map_map]
  congr 1
 have e3:(eK r).map (a.length+2+·)++[(a++44::32::r).length]=(eK r++[r.length]).map (a.length+2+·):=by
  rw [List.map_append];simp;lia -abstractProof
 rw [e2,e3,List.zip_map,List.map_map]
 refine List.map_congr_left fun q _=>?_
 show ((a++44::32::r).drop (a.length+2+q.1)).take (a.length+2+q.2 - (a.length+2+q.1))=(r.drop q.1).take (q.2 - q.1)
 have d:(a++44::32::r).drop (a.length+2+q.1)=r.drop q.1:=by
  rw [show a.length+2+q.1=a.length+(2+q.1) from by lia -abstractProof,<-List.drop_drop,List.drop_append_of_le_length (Nat.le_refl _),List.drop_length,List.nil_append,show 2+q.1=q.1+1+1 from by exact Nat.add_comm 2 (Prod.fst q)]
  rfl
 rw [d]
 congr 1
 exact Nat.add_sub_add_left (List.length a+2) (Prod.snd q) (Prod.fst q)
theorem mQ:∀ {l:List (List Nat)},l≠[]->(∀ x∈l,44∉x)->gj (cx [44,32] l)=l
 | [],h,_=>absurd rfl h
 | [x],_,h=>rn (h x (.head _))
 | x::y::r,_,h=>by
   have e:cx [44,32] (x::y::r)=x++44::32::cx [44,32] (y::r):=by simp only [qM];simp
   simp only [e,th (h x (.head _)),mQ (by simp) fun z hz=>h z (.tail _ hz)]
end
section
noncomputable def gv (g:List Nat):Prop:=∀ c∈g,isW c=true
theorem BL (n hi:Nat):kH n hi≠[]:=by
 unfold kH
 intro q
 have:=List.map_eq_nil_iff.mp q
 have:=(List.filter_eq_nil_iff.mp this) 1 (by decide)
 simp at this
theorem AO {col:List Nat} (h:col≠[]) (hi:Nat):ek col hi≠[]:=by
 cases col with
 | nil=>exact absurd rfl h
 | cons a r =>
   intro q
   unfold ek at q
   rw [List.flatMap_cons] at q
   exact BL a hi (List.append_eq_nil_iff.mp q).1
end
section
open PySem PyProof.Rows
theorem lq {b:Nat}:∀ {xs:List Nat},(∀ x∈xs,b<=x)->∃ q,(xs.map (2 ^ ·)).sum=2 ^ b*q
 | [],_=>⟨0,rfl⟩
 | x::xs,h=>by
   obtain ⟨q,e⟩:=lq (xs:=xs) fun y hy=>h y (.tail _ hy)
   refine ⟨2 ^ (x - b)+q,?_⟩
   have hx:=h x (.head _)
   show 2 ^ x+(xs.map (2 ^ ·)).sum=_
   rw [e,Nat.mul_add,<-Nat.pow_add,Nat.add_sub_cancel' hx]
theorem iN:∀ {xs:List Nat},xs.Pairwise (·<·)->∀ j,((xs.map (2 ^ ·)).sum).testBit j=decide (j∈xs)
 | [],_,j=>by simp
 | a::r,h,j=>by
   obtain ⟨h1,h2⟩:=List.pairwise_cons.mp h
   have ih:=iN h2 j
   obtain ⟨q,e⟩:=lq (b:=a+1) (xs:=r) fun x hx=>h1 x hx
   show (2 ^ a+(r.map (2 ^ ·)).sum).testBit j=_
   have lt:2 ^ a<2 ^ (a+1):=Nat.pow_lt_pow_right (by decide) (Nat.lt_succ_self a)
   have b1:=Nat.testBit_two_pow_mul_add q lt j
   have b0:=Nat.testBit_two_pow_mul_add q (Nat.two_pow_pos (a+1)) j
   rw [Nat.add_zero,<-e,ih] at b0
   rw [Nat.add_comm,e,b1]
   by_cases hj:j<a+1
   ·rw [if_pos hj,Nat.testBit_two_pow]
    rw [if_pos hj] at b0
    have nr:j∉r:=fun m=>by rw [decide_eq_true m] at b0;simp at b0
    by_cases ha:a=j
    ·simp [ha]
    ·simp [ha,Ne.symm ha,nr]
   ·rw [if_neg hj]
    rw [if_neg hj] at b0
    rw [<-b0]
    have:j≠a:=by omega
    simp [this]
theorem jk:∀ (n lo:Nat) {xs:List Nat},xs.Pairwise (·<·)->(∀ x∈xs,lo<=x/\x<lo+n)->(List.range' lo n).filter (fun j=>decide (j∈xs))=xs
 | 0,lo,xs,_,h=>by
   cases xs with
   | nil=>rfl
   | cons a r=>have:=h a (.head _);omega
 | n+1,lo,xs,hp,h=>by
   rw [List.range'_succ]
   have up:lo∉xs->(List.range' (lo+1) n).filter (fun j=>decide (j∈xs))=xs:=fun hn=>jk n (lo+1) hp fun x hx=>by
    have:=h x hx
    have:x≠lo:=fun q=>hn (q▸hx)
    omega
   by_cases hm:lo∈xs
   ·rw [List.filter_cons_of_pos (by simpa using hm)]
    cases xs with
    | nil=>cases hm
    | cons a r =>
      obtain ⟨h1,h2⟩:=List.pairwise_cons.mp hp
      have ea:a=lo:=by
       rcases List.mem_cons.mp hm with q | q
       ·exact q.symm
       ·have:=h1 lo q
        have:=h a (.head _)
        omega
      subst ea
      have ih:=jk n (a+1) h2 fun x hx=>by
       have:=h1 x hx
       have:=h x (.tail _ hx)
       omega
      congr 1
      refine Eq.trans (List.filter_congr fun j hj=>?_) ih
      have:a<j:=(List.mem_range'_1.mp hj).1
      have:j≠a:=by omega
      simp [this]
   ·rw [List.filter_cons_of_neg (by simpa using hm)]
    exact up hm
noncomputable def nmX (xs:List Nat):List (List Nat):=xs.map cR
noncomputable def wdX (xs:List Nat):List (List Nat):=if xs=[] then [[48,120,48]] else nmX xs
structure Upl (xs:List Nat):Prop where
 up:xs.Pairwise (·<·)
 lt:∀ x∈xs,x<33
 len:xs.length<=33
section
variable {xs:List Nat}
theorem Upl.flags (h:Upl xs):cA ((xs.map (2 ^ ·)).sum)=wdX xs:=by
 unfold cA wdX
 by_cases hx:xs=[]
 ·subst hx;rfl
 ·rw [if_neg hx,if_neg]
  ·unfold aW nmX
   have e:((xs.map (2 ^ ·)).sum).testBit=fun j=>decide (j∈xs):=funext fun j=>iN h.up j
   show ((List.range 33).filter (fun j=>((xs.map (2 ^ ·)).sum).testBit j)).map cR=_
   rw [e,List.range_eq_range']
   exact congrArg _ (jk 33 0 h.up fun x hx=>⟨Nat.zero_le _,by have:=h.lt x hx;omega⟩)
  ·cases xs with
   | nil=>exact absurd rfl hx
   | cons a r =>
     have:=Nat.two_pow_pos a
     simp only [List.map_cons,List.sum_cons]
     omega
theorem Upl.mask (h:Upl xs):(xs.map (2 ^ ·)).sum<2 ^ 33:=by
 refine Nat.lt_pow_two_of_testBit _ fun i hi=>?_
 rw [iN h.up]
 exact decide_eq_false fun m=>Nat.lt_irrefl _ (Nat.lt_of_le_of_lt hi (h.lt _ m))
theorem Upl.nm (h:Upl xs) {w:List Nat} (hw:w∈nmX xs):q7 w/\∀ c∈w,c<1114112:=by
 obtain ⟨x,hx,rfl⟩:=List.mem_map.mp hw
 exact x8 _ (Nat.lt_succ_of_lt (h.lt x hx))
theorem Upl.wd (h:Upl xs) {w:List Nat} (hw:w∈wdX xs):q7 w/\∀ c∈w,c<1114112:=by
 unfold wdX at hw
 split at hw
 ·simp at hw;subst hw;exact ⟨DX,by decide⟩
 ·exact h.nm hw
theorem CQ:wdX xs≠[]:=by
 unfold wdX nmX;split
 ·simp
 ·simpa using ‹_›
theorem Upl.wlen (h:Upl xs):(wdX xs).length<=33:=by
 unfold wdX nmX;split
 ·simp
 ·rw [List.length_map];exact h.len
theorem Upl.told (h:Upl xs):cx [44,32] (wdX xs)=if cx [44,32] (nmX xs)=[] then [48,120,48] else cx [44,32] (nmX xs):=by
 unfold wdX
 by_cases hx:xs=[]
 ·subst hx;rfl
 ·rw [if_neg hx,if_neg (xS (by unfold nmX;simpa using hx) fun x hx=>(h.nm hx).1.1.1)]
theorem Upl.len_of (h:Upl xs) {l:List (List Nat)} (hl:l.length<=33) (hw:∀ w∈l,q7 w):(cx [44,32] l).length<=3366/\dQ l+l.length*2<=3366:=by
 have h1:=vQ [44,32] l
 have h2:=n8 l 100 fun x hx=>(hw x hx).2.2
 simp at h1
 omega
theorem Upl.split (h:Upl xs):Txt.split (ao (cx [44,32] (wdX xs))) (ao [44,32])=(wdX xs).map ao:=by
 rw [rH,mQ CQ fun x hx=>(h.wd hx).1.2.1]
theorem Upl.count (h:Upl xs):((wdX xs).filter fun w=>w != [48,120,48]).length=xs.length:=by
 unfold wdX
 by_cases hx:xs=[]
 ·subst hx;rfl
 ·rw [if_neg hx,List.filter_eq_self.mpr fun w hw=>?_,nmX,List.length_map]
  obtain ⟨x,hx,rfl⟩:=List.mem_map.mp hw
  exact bne_iff_ne.mpr (wA x (Nat.lt_succ_of_lt (h.lt x hx)))
theorem Upl.chars (h:Upl xs):∀ c∈cx [44,32] (wdX xs),c<1114112:=fun c hc=>by
 rcases vS hc with h1 | ⟨x,hx,hc⟩
 ·simp at h1;omega
 ·exact (h.wd hx).2 c hc
end
theorem zM (m:Nat):fl2 m 0<fl2 m 1/\fl2 m 1<fl2 m 2:=by
 refine ⟨?_,?_⟩
 ·show m % 17<m % 17+1+m / 17 % 8;omega
 ·show m % 17+1+m / 17 % 8<m % 17+1+m / 17 % 8+1+m / 136 % 8;omega
noncomputable def fls (m k:Nat):List Nat:=(jJ k).map (fl2 m)
theorem iD (m k:Nat):Upl (fls m k) where
 up:=by
  unfold fls jJ
  rw [List.pairwise_map]
  refine List.Pairwise.filter _ ?_
  obtain ⟨h1,h2⟩:=zM m
  have h3:=Nat.lt_trans h1 h2
  simp [h1,h2,h3]
 lt:=fun x hx=>by
  obtain ⟨j,hj,rfl⟩:=List.mem_map.mp hx
  exact sP m j (x3 ((List.mem_filter.mp hj).1))
 len:=by
  unfold fls jJ
  rw [List.length_map]
  exact Nat.le_trans (List.length_filter_le _ _) (by decide)
theorem qU (m k:Nat):qT m k=((fls m k).map (2 ^ ·)).sum:=by unfold qT fls;rw [List.map_map];rfl
theorem nX (m k:Nat):gO m k=nmX (fls m k):=by unfold gO nmX fls;rw [List.map_map];rfl
theorem ku (m k:Nat):dZ m k=cx [44,32] (wdX (fls m k)):=by unfold dZ;rw [qU,(iD m k).flags]
theorem yf:∀ k,k<8->(jJ k).length % 2=oddN.getD k 0:=by decide
theorem El (m k:Nat) (hk:k<8):∃ l:List (List Nat),l.length<1000/\Txt.split (ao (dZ m k)) (ao [44,32])=l.map ao/\(l.filter fun w=>w != [48,120,48]).length % 2=oddN.getD k 0 :=
 ⟨wdX (fls m k),Nat.lt_of_le_of_lt (iD m k).wlen (by decide),by rw [ku];exact (iD m k).split,by rw [(iD m k).count,fls,List.length_map];exact yf k hk⟩
theorem yH (m k:Nat):dZ m k=sE m k:=by
 unfold sE fM
 rw [ku,nX]
 exact (iD m k).told
theorem CC (m k:Nat):(dZ m k).length<10000/\(fM m k).length<10000/\dQ (gO m k)+(gO m k).length*2<=sizeLine:=by
 have h:=iD m k
 have a:=h.len_of h.wlen fun w hw=>(h.wd hw).1
 have b:=h.len_of (l:=nmX (fls m k)) (by unfold nmX;rw [List.length_map];exact h.len) fun w hw=>(h.nm hw).1
 unfold fM
 rw [ku,nX,sizeLine_eq]
 omega
end
section
open PySem PyProof.Rows
theorem jl (s:Nat):gv (kL s):=by
 have:∀ i,i<4->∀ c∈gaps.getD i [],isW c=true:=by decide
 exact this _ (Nat.mod_lt _ (by simp))
theorem tI {g:List Nat} (hw:gv g) (hne:g≠[]):∃ c r,g=c::r/\isW c=true/\gv r:=by
 cases g with
 | nil=>exact absurd rfl hne
 | cons c r=>exact ⟨c,r,rfl,hw c (.head _),fun d hd=>hw d (.tail _ hd)⟩
theorem vK (s:Nat):∃ c r,kL s=c::r/\isW c=true/\gv r:=by
 have:∀ i,i<4->gaps.getD i []≠[]:=by decide
 exact tI (jl s) (this _ (Nat.mod_lt _ (by simp)))
theorem CE {w g gap T:List Nat} {way:Nat} {tight:Prop} [Decidable tight] (hg:gv g) (hw4:way<4) (hne:w≠[]) (gw:gv gap) (gc:∃ c r,gap=c::r/\isW c=true/\gv r) :
 ∃ g',gv g'/\Tk (g++(da w way++(if tight/\way % 2=0 then [] else gap)++T)) w (g'++T):=by
 rcases Nat.mod_two_eq_zero_or_one way with h | h
 ·refine ⟨if tight/\way % 2=0 then [] else gap,?_,?_⟩
  ·split
   ·intro c hc;cases hc
   ·exact gw
  ·rw [List.append_assoc]
   exact Tk.white hg (Tk.quoted h hw4)
 ·rw [if_neg (by omega)]
  obtain ⟨c,r,e,h1,h2⟩:=gc
  refine ⟨r,h2,?_⟩
  rw [e,List.append_assoc,List.cons_append]
  exact Tk.white hg (Tk.bare h hw4 h1 hne)
theorem CD {u s j:Nat} {c:Co} {g T:List Nat} (hg:gv g):∃ g',gv g'/\Tk (g++(mP u s j c++T)) (gK u j c).word (g'++T) :=
 CE (tight:=jA s≠0) hg (Nat.mod_lt _ (by decide)) (AO (show c.l≠[] from nofun) _) (jl s) (vK s)
noncomputable def od (f:Nat->Co) (u s:Nat):Nat->Nat->List Nat
 | _,0=>sG s
 | j,n+1=>mP u s j (f j)++od f u s (j+1) n
theorem nc (f:Nat->Co) (u s:Nat):∀ n j,c4 f u s j++od f u s j n=c4 f u s (j+n)++sG s
 | 0,j=>rfl
 | n+1,j=>by
   have:=nc f u s n (j+1)
   rw [show j+1+n=j+(n+1) from by omega] at this
   rw [<-this]
   show _=(c4 f u s j++mP u s j (f j))++_
   simp only [od,List.append_assoc]
theorem mT {f:Nat->Co} {u s:Nat} (hs:s<2097152):∀ n j g,gv g->∃ xe,RW (g++od f u s j n) ((List.range' j n).map fun j=>(gK u j (f j)).word) xe/\Tk xe [101,110,100] []
 | 0,j,g,hg=>by
   have:∀ i,i<4->ends.getD i []∈ends:=by decide
   exact ⟨_,rfl,Tk.white hg (Tk.last (this (s / 524288) (by omega)))⟩
 | n+1,j,g,hg=>by
   obtain ⟨g1,w1,t1⟩:=CD (u:=u) (s:=s) (j:=j) (c:=f j) (T:=od f u s (j+1) n) hg
   obtain ⟨xe,hr,he⟩:=mT (f:=f) (u:=u) hs n (j+1) g1 w1
   exact ⟨xe,⟨_,t1,hr⟩,he⟩
theorem Bk {f:Nat->Co} {u s:Nat} (hs:s<2097152):∃ xe,RW (jb f u s) ([gK u 0 (f 0),gK u 1 (f 1),gK u 2 (f 2),gK u 3 (f 3)].map Wd.word) xe/\Tk xe [101,110,100] []:=by
 obtain ⟨xe,h1,h2⟩:=mT (f:=f) (u:=u) hs 4 0 (kL s) (jl s)
 refine ⟨xe,?_,h2⟩
 have:=nc f u s 4 0
 unfold jb
 rw [<-show c4 f u s 0++od f u s 0 4=c4 f u s 4++sG s from this]
 exact h1
end
section
noncomputable def zx (f:Nat->Int):Int:=tM (R5.map f)
noncomputable def D1 (one:Nat->Nat->Int):Nat->Nat->Int
 | 0,_=>0
 | n+1,x=>zx fun w=>one x w+D1 one n w
end
section
variable {one:Nat->Nat->Int} {tie:Nat->Nat->Bool}
end
section
end
section
open PySem PySem.Float64
theorem nY {W D t:Nat} (hD:0<D) (hn:∀ t',Float64.dist W (D*Float64.V t)<=Float64.dist W (D*Float64.V t')):∀ k,W<D*2 ^ (53+k)->Float64.dist W (D*Float64.V t)<=D*2 ^ k
 | k,hW=>by
   have hk:0<2 ^ k:=Nat.two_pow_pos k
   have hq:W / (D*2 ^ k)<2 ^ 53:=by
    refine Nat.div_lt_of_lt_mul ?_
    rw [Nat.mul_assoc,<-Nat.pow_add,Nat.add_comm k 53];exact hW
   by_cases hc:2 ^ 52<=W / (D*2 ^ k)\/k=0
   ·refine Nat.le_trans (hn (k*2 ^ 52+W / (D*2 ^ k))) ?_
    rw [Float64.V_at (Nat.le_of_lt hq) hc]
    have h1:=Nat.div_add_mod W (D*2 ^ k)
    have h2:=Nat.mod_lt W (Nat.mul_pos hD hk)
    have e:D*(W / (D*2 ^ k)*2 ^ k)=D*2 ^ k*(W / (D*2 ^ k)):=by ac_rfl
    rw [e]
    have d:∀ a r:Nat,Float64.dist (a+r) a=r:=fun a r=>by unfold Float64.dist;rw [Nat.add_sub_cancel_left,Nat.sub_eq_zero_of_le (Nat.le_add_right a r)];rfl
    have d1:=d (D*2 ^ k*(W / (D*2 ^ k))) (W % (D*2 ^ k))
    rw [h1] at d1
    rw [d1]
    exact Nat.le_of_lt h2
   ·match k,hc,hW,hq with
    | 0,hc,_,_=>exact absurd (Or.inr rfl) hc
    | k+1,hc,hW,hq =>
      have h52:W<D*2 ^ (53+k):=by
       have:W / (D*2 ^ (k+1))<2 ^ 52:=by
        rcases Nat.lt_or_ge (W / (D*2 ^ (k+1))) (2 ^ 52) with h | h
        ·exact h
        ·exact absurd (Or.inl h) hc
       have:=(Nat.div_lt_iff_lt_mul (Nat.mul_pos hD (Nat.two_pow_pos _))).mp this
       have e:2 ^ 52*(D*2 ^ (k+1))=D*2 ^ (53+k):=by
        rw [show 53+k=52+(k+1) from by exact Nat.succ_add_eq_add_succ 52 k,Nat.pow_add 2 52 (k+1)]
        generalize 2 ^ (k+1)=Q
        generalize (2:Nat) ^ 52=P
        exact Nat.mul_left_comm P D Q
       rw [e] at this;exact this
      refine Nat.le_trans (nY hD hn k h52) (Nat.mul_le_mul_left D (Nat.pow_le_pow_right (by decide) (by simp)))
end
section
open PySem PySem.Float64
noncomputable def Fn' (x:UInt64):Prop:=∃ a m e,decode x=.fin a m e
theorem Fn'.fin {x:UInt64} (h:Fn' x):Float64.isFinite x=true:=by obtain ⟨a,m,e,h⟩:=h;unfold Float64.isFinite;rw [h]
theorem iJ:∀ (k q:Nat),q<2 ^ 53->∃ t,Float64.V t=q*2 ^ k:=by
 intro k
 induction k with
 | zero =>
   intro q h
   exact ⟨0*2 ^ 52+q,Float64.V_at (Nat.le_of_lt h) (.inr rfl)⟩
 | succ k ih =>
   intro q h
   by_cases hq:2 ^ 52<=q
   ·exact ⟨(k+1)*2 ^ 52+q,Float64.V_at (Nat.le_of_lt h) (.inl hq)⟩
   ·obtain ⟨t,ht⟩:=ih (2*q) (by lia)
    refine ⟨t,?_⟩
    rw [ht,Nat.pow_succ]
    generalize 2 ^ k=P
    rw [Nat.mul_comm 2 q,Nat.mul_assoc,Nat.mul_comm 2 P]
theorem dM {r:UInt64} {neg:Bool} {W D k:Nat} (hR:Float64.Right r neg W D) (hD:0<D) (hW:W<D*2 ^ (53+k)) (hk:k<=2040):Fn' r/\∃ w,Float64.val r=sgn neg w/\Float64.dist W (D*w)<=D*2 ^ k/\∀ t',Float64.dist W (D*w)<=Float64.dist W (D*Float64.V t'):=by
 obtain ⟨t,rfl,hle,hov,hn⟩:=hR
 have hlt:t<infMag:=by
  rcases Nat.lt_or_ge t infMag with h | h
  ·exact h
  ·have he:t=infMag:=Nat.le_antisymm hle h
   have h1:=hov.mp he
   have h2:D*2 ^ (53+k)<=D*2 ^ 2093:=Nat.mul_le_mul_left D (Nat.pow_le_pow_right (by decide) (by lia))
   have h3:2*2 ^ 2093<=(2 ^ 54 - 1)*2 ^ 2045:=by decide +kernel
   have h4:=Nat.mul_le_mul_left D h3
   have h5:D*(2*2 ^ 2093)=2*(D*2 ^ 2093):=Nat.mul_left_comm D 2 _
   rw [h5] at h4
   generalize 2 ^ 2093=P at *
   generalize (2 ^ 54 - 1)*2 ^ 2045=Q at *
   generalize 2 ^ (53+k)=S at *
   lia
 obtain ⟨m,e,hd,hv⟩:=decode_pack neg hlt
 exact ⟨⟨_,_,_,hd⟩,Float64.V t,val_pack neg hlt,nY hD (fun t'=>(hn hlt t').1) k hW,fun t'=>(hn hlt t').1⟩
end
section
open PySem PySem.Float64
noncomputable abbrev fv (x:UInt64):Int:=Float64.val x
theorem ir (s:Bool):Fn' (Float64.zero s)/\fv (Float64.zero s)=0:=by
 obtain ⟨m,e,hd,hv⟩:=decode_pack s (t:=0) (by decide +kernel)
 refine ⟨⟨_,_,_,hd⟩,?_⟩
 have:=val_pack s (t:=0) (by decide +kernel)
 rw [V_zero] at this
 show Float64.val (pack s 0)=0
 rw [this];cases s<;>rfl
theorem jQ (a b:Nat):((a:Int) - (b:Int)).natAbs=Float64.dist b a:=by
 unfold Float64.dist
 rcases Nat.le_total a b with h | h
 ·rw [<-Int.natAbs_neg,Int.neg_sub,<-Int.ofNat_sub h,Int.natAbs_natCast,Nat.sub_eq_zero_of_le h,Nat.add_zero]
 ·rw [<-Int.ofNat_sub h,Int.natAbs_natCast,Nat.sub_eq_zero_of_le h,Nat.zero_add]
theorem nL (a b:Nat):Float64.dist a b=Float64.dist b a:=Nat.add_comm _ _
theorem pT {S:Int} {w E:Nat} (h:Float64.dist S.natAbs (1*w)<=E):(Float64.sgn (decide (S<0)) w - S).natAbs<=E:=by
 rw [Nat.one_mul] at h
 by_cases hs:S<0
 ·rw [decide_eq_true hs]
  show (-(w:Int) - S).natAbs<=E
  have e:S=-((S.natAbs:Nat):Int):=by rw [Int.ofNat_natAbs_of_nonpos (Int.le_of_lt hs),Int.neg_neg]
  rw [e,Int.sub_neg,Int.add_comm,<-Int.sub_eq_add_neg,jQ,nL]
  exact h
 ·rw [decide_eq_false hs]
  show ((w:Int) - S).natAbs<=E
  have e:S=((S.natAbs:Nat):Int):=(Int.natAbs_of_nonneg (Int.not_lt.mp hs)).symm
  rw [e,jQ]
  exact h
theorem yX {x y:UInt64} (hx:Fn' x) (hy:Fn' y) {k:Nat} (hk:k<=2040) (hb:(fv x+fv y).natAbs<2 ^ (53+k)):Fn' (Float64.add x y)/\(fv (Float64.add x y) - (fv x+fv y)).natAbs<=2 ^ k:=by
 obtain ⟨a,m,e,hx⟩:=hx
 obtain ⟨b,n,f,hy⟩:=hy
 obtain ⟨h0,h1⟩:=add_right hx hy
 by_cases hs:fv x+fv y=0
 ·rw [h0 hs]
  obtain ⟨z1,z2⟩:=ir (a&&b)
  refine ⟨z1,?_⟩
  rw [z2,hs];exact Nat.zero_le _
 ·obtain ⟨r1,w,r2,r3,_⟩:=dM (h1 hs) (by exact Nat.one_pos) (by rw [Nat.one_mul];exact hb) hk
  refine ⟨r1,?_⟩
  show (Float64.val (Float64.add x y) - _).natAbs<=_
  rw [r2]
  rw [Nat.one_mul (2 ^ k)] at r3
  exact pT r3
theorem AD {x y:UInt64} (hx:Fn' x) (hy:Fn' y) {k:Nat} (hk:k<=2040) (hb:(fv x - fv y).natAbs<2 ^ (53+k)):Fn' (Float64.sub x y)/\(fv (Float64.sub x y) - (fv x - fv y)).natAbs<=2 ^ k:=by
 obtain ⟨a,m,e,hx⟩:=hx
 obtain ⟨b,n,f,hy⟩:=hy
 obtain ⟨h0,h1⟩:=sub_right hx hy
 by_cases hs:fv x - fv y=0
 ·rw [h0 hs]
  obtain ⟨z1,z2⟩:=ir (a&&!b)
  refine ⟨z1,?_⟩
  rw [z2,hs];exact Nat.zero_le _
 ·obtain ⟨r1,w,r2,r3,_⟩:=dM (h1 hs) (by exact Nat.one_pos) (by rw [Nat.one_mul];exact hb) hk
  refine ⟨r1,?_⟩
  show (Float64.val (Float64.sub x y) - _).natAbs<=_
  rw [r2]
  rw [Nat.one_mul (2 ^ k)] at r3
  exact pT r3
end
section
open PySem PySem.Float64
set_option exponentiation.threshold 3000
theorem Aw (a b:Bool) (m n:Nat):Float64.sgn a m*Float64.sgn b n=Float64.sgn (a != b) (m*n):=by
 cases a<;>cases b<;>simp [Float64.sgn,Int.neg_mul,Int.mul_neg]
theorem oY {x:UInt64} {a:Bool} {m:Nat} {e:Int} (h:decode x=.fin a m e):fv x=Float64.sgn a (fv x).natAbs:=by
 rw [show fv x=Float64.sgn a (m*2 ^ (e+1074).toNat) from val_eq h]
 generalize m*2 ^ (e+1074).toNat=q
 cases a<;>simp [Float64.sgn]
theorem rE {s:Bool} {w W D E:Nat} (h:Float64.dist W (D*w)<=E):(Float64.sgn s w*(D:Int) - Float64.sgn s W).natAbs<=E:=by
 have e:((D*w:Nat):Int)=(w:Int)*(D:Int):=by rw [Int.natCast_mul,Int.mul_comm]
 cases s
 ·show ((w:Int)*(D:Int) - (W:Int)).natAbs<=E
  rw [<-e,jQ];exact h
 ·show (-(w:Int)*(D:Int) - -(W:Int)).natAbs<=E
  rw [Int.neg_mul,<-e,Int.sub_neg,Int.add_comm,<-Int.sub_eq_add_neg,jQ,nL];exact h
theorem Ag {x y:UInt64} (hx:Fn' x) (hy:Fn' y) {k:Nat} (hk:k<=2040) (hb:(fv x).natAbs*(fv y).natAbs<2 ^ 1074*2 ^ (53+k)) :
 Fn' (Float64.mul x y)/\(fv (Float64.mul x y)*((2 ^ 1074:Nat):Int) - fv x*fv y).natAbs<=2 ^ 1074*2 ^ k:=by
 obtain ⟨a,m,e,hx⟩:=hx
 obtain ⟨b,n,f,hy⟩:=hy
 obtain ⟨r1,w,r2,r3,_⟩:=dM (mul_right hx hy) (Nat.two_pow_pos _) hb hk
 refine ⟨r1,?_⟩
 have hs:fv x*fv y=Float64.sgn (a != b) ((fv x).natAbs*(fv y).natAbs):=by
  rw [<-Aw,<-oY hx,<-oY hy]
 rw [hs]
 show (Float64.val (Float64.mul x y)*_ - _).natAbs<=_
 rw [r2]
 exact rE r3
theorem zv {x y:UInt64} (hx:Fn' x) (hy:Fn' y) (h0:fv y≠0) {k:Nat} (hk:k<=2040) (hb:(fv x).natAbs*2 ^ 1074<(fv y).natAbs*2 ^ (53+k)) :
 Fn' (Float64.div x y)/\(fv (Float64.div x y)*fv y - fv x*((2 ^ 1074:Nat):Int)).natAbs<=(fv y).natAbs*2 ^ k:=by
 obtain ⟨a,m,e,hx⟩:=hx
 obtain ⟨b,n,f,hy⟩:=hy
 have hn:n≠0:=by
  rintro rfl
  apply h0
  rw [show fv y=Float64.sgn b (0*2 ^ (f+1074).toNat) from val_eq hy,Nat.zero_mul]
  cases b<;>rfl
 have hD:0<(fv y).natAbs:=Int.natAbs_pos.mpr h0
 obtain ⟨r1,w,r2,r3,_⟩:=dM (div_right hx hy hn) hD hb hk
 refine ⟨r1,?_⟩
 have h:=rE (s:=a != b) r3
 have e1:Float64.sgn (a != b) ((fv x).natAbs*2 ^ 1074)=fv x*((2 ^ 1074:Nat):Int)*(if b then -1 else 1):=by
  conv=>rhs;rw [oY hx]
  generalize (2:Nat) ^ 1074=P
  cases a<;>cases b<;>simp [Float64.sgn,Int.neg_mul,Int.mul_neg]
 have e2:Float64.sgn (a != b) w*((fv y).natAbs:Int)=fv (Float64.div x y)*fv y*(if b then -1 else 1):=by
  show _=Float64.val (Float64.div x y)*fv y*_
  rw [r2]
  conv=>rhs;rw [oY hy]
  cases a<;>cases b<;>simp [Float64.sgn,Int.neg_mul,Int.mul_neg]
 rw [show (Float64.val x).natAbs*2 ^ 1074=(fv x).natAbs*2 ^ 1074 from rfl,e1,show ((Float64.val y).natAbs:Int)=((fv y).natAbs:Int) from rfl,e2,<-Int.sub_mul,Int.natAbs_mul] at h
 have e3:((if b then (-1:Int) else 1)).natAbs=1:=by cases b<;>rfl
 rw [e3,Nat.mul_one] at h
 exact h
end
section
open PySem PySem.Float64
set_option exponentiation.threshold 3000
noncomputable def Rep (v:Int):Prop:=∃ q k:Nat,q<2 ^ 53/\k<=2000/\v.natAbs=q*2 ^ k
theorem Rep.lt {v:Int} (h:Rep v):v.natAbs<2 ^ (53+2000):=by
 obtain ⟨q,k,hq,hk,e⟩:=h
 rw [e,Nat.pow_add]
 calc q*2 ^ k<2 ^ 53*2 ^ k:=Nat.mul_lt_mul_of_pos_right hq (Nat.two_pow_pos k)
  _<=2 ^ 53*2 ^ 2000:=Nat.mul_le_mul_left _ (Nat.pow_le_pow_right (by decide) hk)
theorem jW {r:UInt64} {S:Int} (hR:Float64.Right r (decide (S<0)) S.natAbs 1) (h:Rep S):Fn' r/\fv r=S:=by
 have hlt:=h.lt
 obtain ⟨q,k,hq,hk,e⟩:=h
 obtain ⟨r1,w,r2,_,r4⟩:=dM hR (by exact Nat.one_pos) (by rw [Nat.one_mul];exact hlt) (by simp)
 obtain ⟨t,ht⟩:=iJ k q hq
 have h1:=r4 t
 rw [ht,<-e] at h1
 have h2:Float64.dist S.natAbs (1*w)<=0:=by
  refine Nat.le_trans h1 ?_
  unfold Float64.dist;simp
 have:=pT h2
 refine ⟨r1,?_⟩
 show Float64.val r=S
 rw [r2];exact Int.eq_of_sub_eq_zero (Int.natAbs_eq_zero.mp (Nat.le_zero.mp this))
theorem u9 {x y:UInt64} (hx:Fn' x) (hy:Fn' y) (h:Rep (fv x+fv y)):Fn' (Float64.add x y)/\fv (Float64.add x y)=fv x+fv y:=by
 obtain ⟨a,m,e,hx⟩:=hx
 obtain ⟨b,n,f,hy⟩:=hy
 obtain ⟨h0,h1⟩:=add_right hx hy
 by_cases hs:fv x+fv y=0
 ·rw [h0 hs,hs];exact ir _
 ·exact jW (h1 hs) h
theorem wt {x y:UInt64} (hx:Fn' x) (hy:Fn' y) (h:Rep (fv x - fv y)):Fn' (Float64.sub x y)/\fv (Float64.sub x y)=fv x - fv y:=by
 obtain ⟨a,m,e,hx⟩:=hx
 obtain ⟨b,n,f,hy⟩:=hy
 obtain ⟨h0,h1⟩:=sub_right hx hy
 by_cases hs:fv x - fv y=0
 ·rw [h0 hs,hs];exact ir _
 ·exact jW (h1 hs) h
theorem q9 {i:Int} (h:i.natAbs<2 ^ 53):Fn' (Float64.ofInt i)/\fv (Float64.ofInt i)=i*((2 ^ 1074:Nat):Int):=by
 have hR:=ofInt_right i
 have e:(i*((2 ^ 1074:Nat):Int)).natAbs=i.natAbs*2 ^ 1074:=by rw [Int.natAbs_mul];rfl
 have hpos:(0:Int)<((2 ^ 1074:Nat):Int):=Int.ofNat_lt.mpr (Nat.two_pow_pos _)
 have hd:decide (i<0)=decide (i*((2 ^ 1074:Nat):Int)<0):=by
  generalize ((2 ^ 1074:Nat):Int)=P at *
  rw [decide_eq_decide]
  constructor
  ·intro q;exact Int.mul_neg_of_neg_of_pos q hpos
  ·intro q
   rcases Int.lt_or_le i 0 with h | h
   ·exact h
   ·have:=Int.mul_nonneg h (Int.le_of_lt hpos);exact Int.neg_of_mul_neg_left q hpos
 rw [hd,<-e] at hR
 exact jW hR ⟨i.natAbs,1074,h,by simp,e⟩
theorem sA {x y:UInt64} (hx:Fn' x) (hy:Fn' y):Float64.cmp x y=some (compare (fv x) (fv y)):=by
 obtain ⟨a,m,e,hx⟩:=hx
 obtain ⟨b,n,f,hy⟩:=hy
 exact cmp_right hx hy
theorem sN {x y:UInt64} (hx:Fn' x) (hy:Fn' y):feq x y=decide (fv x=fv y):=by
 unfold feq
 rw [sA hx hy]
 rcases Int.lt_trichotomy (fv x) (fv y) with h | h | h
 ·rw [Int.compare_eq_lt.mpr h,decide_eq_false (by exact Int.ne_of_lt h)];rfl
 ·rw [h,decide_eq_true rfl];simp
 ·rw [Int.compare_eq_gt.mpr h,decide_eq_false (by exact Int.ne_of_gt h)];rfl
theorem kI {x y:UInt64} (hx:Fn' x) (hy:Fn' y):ly x y=decide (fv x<fv y):=by
 unfold ly
 rw [sA hx hy]
 rcases Int.lt_trichotomy (fv x) (fv y) with h | h | h
 ·rw [Int.compare_eq_lt.mpr h,decide_eq_true h];rfl
 ·rw [h,decide_eq_false (by simp)];simp
 ·rw [Int.compare_eq_gt.mpr h,decide_eq_false (by exact Int.lt_asymm h)];rfl
theorem r9 {x:UInt64} (hx:Fn' x):Float64.isZero x=decide (fv x=0):=by
 obtain ⟨a,m,e,hx⟩:=hx
 have hv:fv x=Float64.sgn a (m*2 ^ (e+1074).toNat):=val_eq hx
 have hp:=Nat.two_pow_pos (e+1074).toNat
 unfold Float64.isZero
 rw [hx]
 cases m with
 | zero=>rw [hv,Nat.zero_mul];cases a<;>rfl
 | succ m =>
   have:fv x≠0:=by
    rw [hv]
    have:=Nat.mul_pos (Nat.succ_pos m) hp
    generalize (m+1)*2 ^ (e+1074).toNat=q at *
    cases a<;>simp [Float64.sgn]<;>lia -abstractProof
   rw [decide_eq_false this];rfl
end
section
open PySem PySem.Float64
set_option exponentiation.threshold 3000
noncomputable def UN:Nat:=2 ^ 1074
theorem sk:0<UN:=Nat.two_pow_pos _
noncomputable def U:Rat:=((UN:Nat):Rat)
theorem iu:0<U:=Rat.natCast_pos.mpr sk
theorem u8:U≠0:=by have:=iu;decide
noncomputable def rv (x:UInt64):Rat:=((fv x:Int):Rat) / U
theorem cm (x:UInt64):((fv x:Int):Rat)=rv x*U:=(Rat.div_mul_cancel u8).symm
noncomputable def Nr (a b d:Rat):Prop:=b - d<=a/\a<=b+d
noncomputable def tw (e:Nat):Rat:=((2 ^ e:Nat):Rat)
theorem pX (e:Nat):0<tw e:=Rat.natCast_pos.mpr (Nat.two_pow_pos e)
theorem wy (e:Nat):((2 ^ (1074+e):Nat):Rat)=U*tw e:=by
 rw [Nat.pow_add,Rat.natCast_mul];rfl
theorem tT {S:Int} {q:Rat} {e:Nat} (hq:((S:Int):Rat)=q*U) (h1:-tw e<q) (h2:q<tw e):S.natAbs<2 ^ (1074+e):=by
 have hU:=iu
 have a1:((S:Int):Rat)<(((2 ^ (1074+e):Nat):Int):Rat):=by
  simp only [hq,Rat.intCast_natCast,wy,Rat.mul_comm U]
  exact Rat.mul_lt_mul_of_pos_right h2 hU
 have a2:((-((2 ^ (1074+e):Nat):Int):Int):Rat)<((S:Int):Rat):=by
  simp only [hq,Rat.intCast_neg,Rat.intCast_natCast,wy]
  have:=Rat.mul_lt_mul_of_pos_right h1 hU
  grind -abstractProof
 have b1:=Rat.intCast_lt_intCast.mp a1
 have b2:=Rat.intCast_lt_intCast.mp a2
 generalize 2 ^ (1074+e)=P at *
 omega
theorem qt {S r:Int} {q p:Rat} {k:Nat} (hq:((S:Int):Rat)=q*U) (hp:((r:Int):Rat)=p*U) (h:(r - S).natAbs<=2 ^ k) {e:Nat} (he:k+53=1074+e):Nr p q (tw e / tw 53):=by
 have hU:=iu
 have a1:r - S<=((2 ^ k:Nat):Int):=by generalize 2 ^ k=P at *;lia -abstractProof
 have a2:S - r<=((2 ^ k:Nat):Int):=by generalize 2 ^ k=P at *;lia -abstractProof
 have c1:=Rat.intCast_le_intCast.mpr a1
 have c2:=Rat.intCast_le_intCast.mpr a2
 rw [Rat.intCast_sub,hq,hp,Rat.intCast_natCast] at c1 c2
 have hk:((2 ^ k:Nat):Rat)*tw 53=tw e*U:=by
  have:((2 ^ (k+53):Nat):Rat)=((2 ^ k:Nat):Rat)*tw 53:=by rw [Nat.pow_add,Rat.natCast_mul];rfl
  rw [<-this,he,wy,Rat.mul_comm]
 have h53:=pX 53
 have hk':((2 ^ k:Nat):Rat)=tw e / tw 53*U:=by
  have:tw 53≠0:=by grind -abstractProof
  grind -abstractProof
 rw [hk'] at c1 c2
 generalize tw e / tw 53=d at *
 constructor
 ·refine Rat.le_of_mul_le_mul_right (c:=U) ?_ hU
  grind -abstractProof
 ·refine Rat.le_of_mul_le_mul_right (c:=U) ?_ hU
  grind -abstractProof
theorem oz {x y:UInt64} (hx:Fn' x) (hy:Fn' y) (e:Nat) (he:e<=1000) (h1:-tw e<rv x+rv y) (h2:rv x+rv y<tw e):Fn' (Float64.add x y)/\Nr (rv (Float64.add x y)) (rv x+rv y) (tw e / tw 53):=by
 have hq:((fv x+fv y:Int):Rat)=(rv x+rv y)*U:=by rw [Rat.intCast_add,cm,cm];grind -abstractProof
 have hb:=tT hq h1 h2
 obtain ⟨f,h⟩:=yX hx hy (k:=1021+e) (by lia -abstractProof) (by rw [show 53+(1021+e)=1074+e from by lia -abstractProof];exact hb)
 exact ⟨f,qt hq (cm _) h (by lia -abstractProof)⟩
theorem CG {x y:UInt64} (hx:Fn' x) (hy:Fn' y) (e:Nat) (he:e<=1000) (h1:-tw e<rv x - rv y) (h2:rv x - rv y<tw e):Fn' (Float64.sub x y)/\Nr (rv (Float64.sub x y)) (rv x - rv y) (tw e / tw 53):=by
 have hq:((fv x - fv y:Int):Rat)=(rv x - rv y)*U:=by rw [Rat.intCast_sub,cm,cm];grind -abstractProof
 have hb:=tT hq h1 h2
 obtain ⟨f,h⟩:=AD hx hy (k:=1021+e) (by lia -abstractProof) (by rw [show 53+(1021+e)=1074+e from by lia -abstractProof];exact hb)
 exact ⟨f,qt hq (cm _) h (by lia -abstractProof)⟩
theorem lV {S:Int} {q:Rat} {D:Nat} (hD:0<D) {e:Nat} (hq:((S:Int):Rat)=q*U*(D:Rat)) (h1:-tw e<q) (h2:q<tw e):S.natAbs<D*2 ^ (1074+e):=by
 have hU:=iu
 have hD':(0:Rat)<(D:Rat):=Rat.natCast_pos.mpr hD
 have hUD:0<U*(D:Rat):=Rat.mul_pos hU hD'
 have a1:((S:Int):Rat)<(((D*2 ^ (1074+e):Nat):Int):Rat):=by
  simp only [hq,Rat.intCast_natCast,Rat.natCast_mul,wy]
  have:=Rat.mul_lt_mul_of_pos_right h2 hUD
  grind -abstractProof
 have a2:((-((D*2 ^ (1074+e):Nat):Int):Int):Rat)<((S:Int):Rat):=by
  simp only [hq,Rat.intCast_neg,Rat.intCast_natCast,Rat.natCast_mul,wy]
  have:=Rat.mul_lt_mul_of_pos_right h1 hUD
  grind -abstractProof
 have b1:=Rat.intCast_lt_intCast.mp a1
 have b2:=Rat.intCast_lt_intCast.mp a2
 generalize D*2 ^ (1074+e)=P at *
 omega
theorem nM {S r:Int} {q p:Rat} {D k:Nat} (hD:0<D) (hq:((S:Int):Rat)=q*U*(D:Rat)) (hp:((r:Int):Rat)=p*U*(D:Rat)) (h:(r - S).natAbs<=D*2 ^ k) {e:Nat} (he:k+53=1074+e):Nr p q (tw e / tw 53):=by
 have hU:=iu
 have hD':(0:Rat)<(D:Rat):=Rat.natCast_pos.mpr hD
 have hUD:0<U*(D:Rat):=Rat.mul_pos hU hD'
 have a1:r - S<=((D*2 ^ k:Nat):Int):=by generalize D*2 ^ k=P at *;lia -abstractProof
 have a2:S - r<=((D*2 ^ k:Nat):Int):=by generalize D*2 ^ k=P at *;lia -abstractProof
 have c1:=Rat.intCast_le_intCast.mpr a1
 have c2:=Rat.intCast_le_intCast.mpr a2
 rw [Rat.intCast_sub,hq,hp,Rat.intCast_natCast,Rat.natCast_mul] at c1 c2
 have hk:((2 ^ k:Nat):Rat)*tw 53=tw e*U:=by
  have:((2 ^ (k+53):Nat):Rat)=((2 ^ k:Nat):Rat)*tw 53:=by rw [Nat.pow_add,Rat.natCast_mul];rfl
  rw [<-this,he,wy,Rat.mul_comm]
 have h53:=pX 53
 have hk':((2 ^ k:Nat):Rat)=tw e / tw 53*U:=by
  have:tw 53≠0:=by grind -abstractProof
  grind -abstractProof
 rw [hk'] at c1 c2
 generalize tw e / tw 53=d at *
 constructor
 ·refine Rat.le_of_mul_le_mul_right (c:=U*(D:Rat)) ?_ hUD
  grind -abstractProof
 ·refine Rat.le_of_mul_le_mul_right (c:=U*(D:Rat)) ?_ hUD
  grind -abstractProof
theorem pj {x y:UInt64} (hx:Fn' x) (hy:Fn' y) (e:Nat) (he:e<=1000) (h1:-tw e<rv x*rv y) (h2:rv x*rv y<tw e):Fn' (Float64.mul x y)/\Nr (rv (Float64.mul x y)) (rv x*rv y) (tw e / tw 53):=by
 have hq:((fv x*fv y:Int):Rat)=rv x*rv y*U*((2 ^ 1074:Nat):Rat):=by
  rw [Rat.intCast_mul,cm,cm]
  show _=rv x*rv y*U*U
  grind -abstractProof
 have hb:=lV (Nat.two_pow_pos 1074) hq h1 h2
 obtain ⟨f,h⟩:=Ag hx hy (k:=1021+e) (by lia -abstractProof) (by rw [show 53+(1021+e)=1074+e from by lia -abstractProof,<-Int.natAbs_mul];exact hb)
 exact ⟨f,nM (Nat.two_pow_pos 1074) hq (by rw [Rat.intCast_mul,cm];rfl) h (by lia -abstractProof)⟩
theorem Bm {x:UInt64} (h:rv x≠0):fv x≠0:=fun q=>h (by unfold rv;rw [q];simp only [Rat.div_def,Rat.intCast_zero,Rat.zero_mul])
theorem BI {x y:UInt64} (hx:Fn' x) (hy:Fn' y) (h0:rv y≠0) (e:Nat) (he:e<=1000) (h1:-tw e<rv x / rv y) (h2:rv x / rv y<tw e):Fn' (Float64.div x y)/\Nr (rv (Float64.div x y)) (rv x / rv y) (tw e / tw 53):=by
 have hD:0<(fv y).natAbs:=Int.natAbs_pos.mpr (Bm h0)
 have hs:(((fv y).natAbs:Nat):Rat)=rv y*U\/(((fv y).natAbs:Nat):Rat)=-(rv y*U):=by
  rw [<-cm,<-Rat.intCast_natCast,<-Rat.intCast_neg,Rat.intCast_inj,Rat.intCast_inj]
  exact Iff.mp Int.natAbs_eq_natAbs_iff rfl
 have key:∀ sg:Int,(sg=1\/sg=-1)->(((fv y).natAbs:Nat):Rat)=(sg:Rat)*(rv y*U)->Fn' (Float64.div x y)/\Nr (rv (Float64.div x y)) (rv x / rv y) (tw e / tw 53):=fun sg hsg hD'=>by
  have hs2:((sg:Int):Rat)*(sg:Rat)=1:=by rcases hsg with rfl | rfl<;>grind -abstractProof
  have hq:((fv x*((2 ^ 1074:Nat):Int)*sg:Int):Rat)=rv x / rv y*U*(((fv y).natAbs:Nat):Rat):=by
   simp only [hD',Rat.intCast_mul,Rat.intCast_mul,cm,Rat.intCast_natCast]
   show rv x*U*U*_=_
   have:rv x / rv y*rv y=rv x:=Rat.div_mul_cancel h0
   generalize rv x / rv y=z at *
   rw [<-this];grind -abstractProof
  have hb:=lV hD hq h1 h2
  have hn1:(sg:Int).natAbs=1:=by rcases hsg with rfl | rfl<;>rfl
  have e1:(fv x*((2 ^ 1074:Nat):Int)*sg).natAbs=(fv x).natAbs*2 ^ 1074:=by
   simp only [Int.natAbs_mul,Int.natAbs_mul,hn1,Nat.mul_one];rfl
  rw [e1] at hb
  obtain ⟨f,h⟩:=zv hx hy (Bm h0) (k:=1021+e) (by lia -abstractProof) (by rw [show 53+(1021+e)=1074+e from by lia -abstractProof];exact hb)
  refine ⟨f,nM (k:=1021+e) hD hq (r:=fv (Float64.div x y)*fv y*sg) ?_ ?_ (by lia -abstractProof)⟩
  ·simp only [Rat.intCast_mul,Rat.intCast_mul,cm,cm,hD'];grind -abstractProof
  ·rw [<-Int.sub_mul,Int.natAbs_mul,hn1,Nat.mul_one];exact h
 rcases hs with hs | hs
 ·exact key 1 (.inl rfl) (by rw [hs];simp)
 ·exact key (-1) (.inr rfl) (by rw [hs];grind -abstractProof)
end
section
open PySem PySem.Float64
set_option exponentiation.threshold 3000
theorem D5 {x:UInt64} {a:Bool} {m:Nat} {e g:Int} (hx:decode x=.fin a m e) (hg:min e (-52)=g):Float64.fmod x F1=ofBin a ((m*2 ^ (e - g).toNat) % (2 ^ 52*2 ^ (-52 - g).toNat)) g:=by
 have h1:decode F1=.fin false (2 ^ 52) (-52):=by kernel_rfl
 unfold Float64.fmod
 rw [hx,h1]
 show ofBin a ((((m*2 ^ (e - min e (-52)).toNat:Nat):Int)).toNat % (((2 ^ 52*2 ^ (-52 - min e (-52)).toNat:Nat):Int)).toNat) (min e (-52))=_
 rw [hg,Int.toNat_natCast,Int.toNat_natCast]
theorem D7 {e:Int} (he:-1074<=e):∃ (g:Int) (c d k:Nat),min e (-52)=g/\(e - g).toNat=c/\(-52 - g).toNat=d/\(g+1074).toNat=k/\c+k=(e+1074).toNat/\52+d+k=1074/\(c=0\/d=0)/\-((1074:Nat):Int)<=g:=by
 by_cases h:e<=-52
 ·obtain ⟨k,hk⟩:=Int.eq_ofNat_of_zero_le (show 0<=e+1074 by exact Iff.mpr Int.add_nonneg_iff_neg_le he)
  obtain ⟨d,hd⟩:=Int.eq_ofNat_of_zero_le (show 0<=-52 - e by exact Int.sub_nonneg_of_le h)
  exact ⟨e,0,d,k,Int.min_eq_left h,by rw [Int.sub_self];rfl,by rw [hd];rfl,by rw [hk];rfl,by rw [hk,Nat.zero_add];rfl,by lia -abstractProof,.inl rfl,he⟩
 ·obtain ⟨c,hc⟩:=Int.eq_ofNat_of_zero_le (show 0<=e - -52 by lia -abstractProof)
  obtain ⟨s,hs⟩:=Int.eq_ofNat_of_zero_le (show 0<=e+1074 by exact Iff.mpr Int.add_nonneg_iff_neg_le he)
  exact ⟨-52,c,0,1022,Int.min_eq_right (by exact Int.le.intro_sub c hc),by rw [hc];rfl,rfl,rfl,by rw [hs];show c+1022=s;lia -abstractProof,rfl,.inr rfl,by simp⟩
theorem xA {x:UInt64} (hx:Fn' x):Fn' (Float64.fmod x F1)/\fv (Float64.fmod x F1)=(fv x).tmod (UN:Int):=by
 obtain ⟨a,m,e,hx⟩:=hx
 have hm:=(decode_le hx).1
 have hv:fv x=Float64.sgn a (m*2 ^ (e+1074).toNat):=val_eq hx
 obtain ⟨g,c,d,k,g1,g2,g3,g4,g5,g6,g7,g8⟩:=D7 (decode_ge hx)
 have hdef:=D5 hx g1
 rw [g2,g3] at hdef
 have hr:m*2 ^ c % (2 ^ 52*2 ^ d)<2 ^ 53:=by
  rcases g7 with rfl | rfl
  ·rw [Nat.pow_zero,Nat.mul_one]
   exact Nat.lt_of_le_of_lt (Nat.mod_le _ _) hm
  ·rw [Nat.pow_zero,Nat.mul_one]
   exact Nat.lt_trans (Nat.mod_lt _ (Nat.two_pow_pos 52)) (by decide)
 have hW:m*2 ^ c % (2 ^ 52*2 ^ d)*2 ^ k=(m*2 ^ (e+1074).toNat) % UN:=by
  unfold UN
  rw [<-Nat.mul_mod_mul_right,Nat.mul_assoc,<-Nat.pow_add,g5,<-Nat.pow_add,<-Nat.pow_add,g6]
 generalize m*2 ^ c % (2 ^ 52*2 ^ d)=q at *
 have hS:((fv x).tmod (UN:Int))=Float64.sgn a (q*2 ^ k):=by
  rw [hv,hW]
  generalize m*2 ^ (e+1074).toNat=M
  cases a
  ·exact (Int.ofNat_tmod M UN).symm
  ·show Int.tmod (-(M:Int)) (UN:Int)=-((M % UN:Nat):Int)
   rw [Int.neg_tmod,Int.ofNat_tmod]
 rw [hS,hdef]
 have hR:Float64.Right (ofBin a q g) a (q*2 ^ k) 1:=by
  have hs:=shift_one q g 1074 g8
  have hp:=shift_pos q 1 g (by decide)
  have g4':(g+((1074:Nat):Int)).toNat=k:=g4
  rw [g4'] at hs
  unfold ofBin
  exact ofFrac_right hp (by rw [Nat.mul_one];exact hs) (by decide)
 have hk:k<=2000:=by rw [<-Nat.add_sub_cancel_left (n:=52+d) (m:=k),g6];exact Nat.le_trans (Nat.sub_le _ _) (by decide)
 obtain ⟨r1,w,r2,_,r4⟩:=dM (k:=2000) hR (by decide) (by
  rw [Nat.one_mul,Nat.pow_add]
  exact Nat.lt_of_lt_of_le (Nat.mul_lt_mul_of_pos_right hr (Nat.two_pow_pos _)) (Nat.mul_le_mul_left _ (Nat.pow_le_pow_right (by decide) hk))) (by decide)
 obtain ⟨t,ht⟩:=iJ k q hr
 have h4:=r4 t
 rw [ht] at h4
 refine ⟨r1,?_⟩
 show Float64.val _=_
 rw [r2]
 congr 1
 generalize q*2 ^ k=W at *
 unfold Float64.dist at h4
 clear hS hR r2 r4 hW hdef g1 g2 g3 g4 g5 g6 g7 g8 hv
 lia -abstractProof
theorem sX:fv F1=(UN:Int):=by decide +kernel
theorem sU:Fn' F1:=⟨_,_,_,(by kernel_rfl:decode F1=.fin false (2 ^ 52) (-52))⟩
theorem kX:rv F1=1:=by
 unfold rv;rw [sX,Rat.intCast_natCast]
 have:=u8
 show U / U=1
 grind -abstractProof
theorem tw0:tw 0=1:=by unfold tw;rfl
theorem wI {x y:UInt64} (hx:Fn' x) (hy:Fn' y) (h0:0<fv x+fv y) (h1:fv x+fv y<UN):0<=fv (Float64.add x y)/\fv (Float64.add x y)<=UN:=by
 obtain ⟨a,m,e,hx⟩:=hx
 obtain ⟨b,n,f,hy⟩:=hy
 obtain ⟨s,hs⟩:=Int.eq_ofNat_of_zero_le (Int.le_of_lt h0)
 rw [hs] at h0 h1
 have hs':Float64.val x+Float64.val y=(s:Int):=hs
 have h1':s<UN:=Int.ofNat_lt.mp h1
 have h0':0<s:=Int.ofNat_lt.mp h0
 have hR:=(add_right hx hy).2 (by rw [hs'];exact fun q=>Nat.lt_irrefl 0 (Int.ofNat_inj.mp q▸h0'))
 rw [hs',decide_eq_false (fun q=>absurd (Int.natCast_nonneg s) (Int.not_le.mpr q)),Int.natAbs_natCast] at hR
 obtain ⟨r1,w,r2,_,r4⟩:=dM (k:=1021) hR (by exact Nat.one_pos) (by rw [Nat.one_mul];exact h1') (by simp)
 obtain ⟨t,ht⟩:=iJ 1074 1 (by simp)
 have h4:=r4 t
 rw [ht,Nat.one_mul,Nat.one_mul,Nat.one_mul] at h4
 have e2:fv (Float64.add x y)=(w:Int):=r2
 rw [e2]
 refine ⟨Int.natCast_nonneg w,Int.ofNat_le.mpr ?_⟩
 have h5:Float64.dist s w<=Float64.dist s UN:=h4
 rcases Nat.le_total w UN with q | q
 ·exact q
 ·have d:∀ {a b:Nat},a<=b->Float64.dist a b=b - a:=fun q=>by unfold Float64.dist;rw [Nat.sub_eq_zero_of_le q,Nat.zero_add]
  rw [d (Nat.le_trans (Nat.le_of_lt h1') q),d (Nat.le_of_lt h1')] at h5
  exact Nat.le_of_sub_le_sub_right (Nat.le_of_lt h1') h5
theorem uA {x:UInt64} (hx:Fn' x):Fn' (dh x)/\(∃ n:Int,Nr (rv (dh x)) (rv x - (n:Rat)) (tw 0 / tw 53))/\0<=rv (dh x)/\rv (dh x)<=1/\(0<=rv x->rv x<1->rv (dh x)=rv x):=by
 obtain ⟨f1,f2⟩:=xA hx
 have hU:=iu
 have hUn:=sk
 have hpos:(0:Rat)<=tw 0 / tw 53:=by
  have h1:=pX 0
  have h2:=pX 53
  simp only [Rat.div_def]
  exact Rat.mul_nonneg (Rat.le_of_lt h1) (Rat.le_of_lt (Rat.inv_pos.mpr h2))
 have hz0:fv (zero false)=0:=(ir false).2
 have lt1:Float64.lt F1 (zero false)=false:=by decide +kernel
 have ltm:Float64.lt (Float64.fmod x F1) (zero false)=decide (fv (Float64.fmod x F1)<0):=by
  have:=kI f1 (ir false).1
  rw [hz0] at this
  exact this
 have hmd:dh x=if Float64.isZero (Float64.fmod x F1)=true then copysign (zero false) F1 else if (Float64.lt F1 (zero false) != Float64.lt (Float64.fmod x F1) (zero false))=true then Float64.add (Float64.fmod x F1) F1 else Float64.fmod x F1:=by
  delta dh Float64.divmod
  simp only
  split
  ·rfl
  ·split<;>rfl
 rw [r9 f1,ltm,lt1] at hmd
 have key:∀ (n:Int),fv x - n*UN=(fv x).tmod UN->rv (Float64.fmod x F1)=rv x - (n:Rat):=fun n hn=>by
  unfold rv
  simp only [f2,<-hn,Rat.intCast_sub,Rat.intCast_mul,Rat.intCast_natCast]
  show ((fv x:Rat) - (n:Rat)*U) / U=_
  have:=u8
  grind -abstractProof
 have hdm:=Int.mul_tdiv_add_tmod (fv x) (UN:Int)
 have hk:=key ((fv x).tdiv UN) (by rw [Int.mul_comm];exact Iff.mpr Int.sub_eq_iff_eq_add' (id (Eq.symm hdm)))
 have hlt:(fv x).tmod UN<UN:=Int.tmod_lt_of_pos _ (by decide)
 have hgt:-(UN:Int)<(fv x).tmod UN:=by
  have:=Int.tmod_lt_of_pos (-fv x) (b:=(UN:Int)) (by decide)
  rw [Int.neg_tmod] at this;exact Int.neg_lt_of_neg_lt this
 have small:0<=rv x->rv x<1->(fv x).tmod UN=fv x/\0<=fv x:=fun h0 h1=>by
  have e0:=cm x
  have a0:(0:Int)<=fv x:=by
   rw [<-Rat.intCast_le_intCast,e0,Rat.intCast_zero]
   exact Rat.mul_nonneg h0 (Rat.le_of_lt hU)
  have a1:fv x<(UN:Int):=by
   rw [<-Rat.intCast_lt_intCast,e0,Rat.intCast_natCast]
   have:=Rat.mul_lt_mul_of_pos_right h1 hU
   show _<U
   grind -abstractProof
  exact ⟨Int.tmod_eq_of_lt a0 a1,a0⟩
 by_cases hz:fv (Float64.fmod x F1)=0
 ·rw [decide_eq_true hz,if_pos rfl] at hmd
  have e0:rv (dh x)=0:=by
   rw [hmd]
   unfold rv
   simp only [show fv (copysign (zero false) F1)=0 from by decide +kernel,Rat.intCast_zero,Rat.div_def,Rat.zero_mul]
  have e1:rv (Float64.fmod x F1)=0:=by unfold rv;simp only [hz,Rat.intCast_zero,Rat.div_def,Rat.zero_mul]
  refine ⟨?_,⟨(fv x).tdiv UN,?_⟩,by rw [e0];exact Rat.le_refl,by rw [e0];rfl,fun h0 h1=>?_⟩
  ·rw [hmd];exact ⟨false,0,-1074,by kernel_rfl⟩
  ·rw [e0,<-hk,e1];unfold Nr;grind -abstractProof
  ·rw [e0]
   obtain ⟨s1,s2⟩:=small h0 h1
   rw [f2,s1] at hz
   unfold rv;simp only [hz,Rat.intCast_zero,Rat.div_def,Rat.zero_mul]
 ·rw [decide_eq_false hz,if_neg (by decide)] at hmd
  by_cases hn:fv (Float64.fmod x F1)<0
  ·rw [decide_eq_true hn,if_pos (by assumption)] at hmd
   have hb:=wI f1 sU (by rw [sX];rw [f2] at *;exact Iff.mp Int.sub_lt_iff hgt) (by rw [sX];exact Int.add_lt_of_lt_sub_right hn)
   have hrn:rv (Float64.fmod x F1)<0/\-1<rv (Float64.fmod x F1):=by
    have e0:=cm (Float64.fmod x F1)
    have a0:=Rat.intCast_lt_intCast.mpr hn
    have a1:=Rat.intCast_lt_intCast.mpr (show -(UN:Int)<fv (Float64.fmod x F1) by rw [f2];exact hgt)
    rw [e0,Rat.intCast_zero] at a0
    rw [e0,Rat.intCast_neg,Rat.intCast_natCast] at a1
    constructor
    ·refine Rat.lt_of_mul_lt_mul_right (c:=U) ?_ (Rat.le_of_lt hU)
     rw [Rat.zero_mul];exact a0
    ·refine Rat.lt_of_mul_lt_mul_right (c:=U) ?_ (Rat.le_of_lt hU)
     have:-(UN:Rat)=-1*U:=by show -U=_;grind -abstractProof
     rw [<-this];exact a1
   obtain ⟨g1,g2⟩:=oz f1 sU 0 (by simp) (by rw [tw0,kX];grind -abstractProof) (by rw [tw0,kX];grind -abstractProof)
   rw [<-hmd] at hb g1 g2
   refine ⟨g1,⟨(fv x).tdiv UN - 1,?_⟩,?_,?_,fun h0 h1=>?_⟩
   ·rw [hk,kX] at g2
    rw [Rat.intCast_sub]
    have:rv x - (((fv x).tdiv UN:Int):Rat)+1=rv x - ((((fv x).tdiv UN:Int):Rat) - ((1:Int):Rat)):=by grind -abstractProof
    rw [<-this];exact g2
   ·have:=cm (dh x)
    have a:=Rat.intCast_le_intCast.mpr hb.1
    rw [this,Rat.intCast_zero] at a
    refine Rat.le_of_mul_le_mul_right (c:=U) ?_ hU
    rw [Rat.zero_mul];exact a
   ·have:=cm (dh x)
    have a:=Rat.intCast_le_intCast.mpr hb.2
    rw [this,Rat.intCast_natCast] at a
    refine Rat.le_of_mul_le_mul_right (c:=U) ?_ hU
    rw [Rat.one_mul];exact a
   ·obtain ⟨s1,s2⟩:=small h0 h1
    rw [f2,s1] at hn;omega
  ·rw [decide_eq_false hn,if_neg (by decide)] at hmd
   rw [hmd]
   refine ⟨f1,⟨(fv x).tdiv UN,?_⟩,?_,?_,fun h0 h1=>?_⟩
   ·rw [hk];unfold Nr;grind -abstractProof
   ·have:=cm (Float64.fmod x F1)
    have a:=Rat.intCast_le_intCast.mpr (show (0:Int)<=fv (Float64.fmod x F1) by exact Iff.mp Int.not_lt hn)
    rw [this,Rat.intCast_zero] at a
    refine Rat.le_of_mul_le_mul_right (c:=U) ?_ hU
    rw [Rat.zero_mul];exact a
   ·have:=cm (Float64.fmod x F1)
    have a:=Rat.intCast_le_intCast.mpr (show fv (Float64.fmod x F1)<=(UN:Int) by omega)
    rw [this,Rat.intCast_natCast] at a
    refine Rat.le_of_mul_le_mul_right (c:=U) ?_ hU
    rw [Rat.one_mul];exact a
   ·obtain ⟨s1,s2⟩:=small h0 h1
    unfold rv;rw [f2,s1]
end
section
noncomputable def tb (Y:Rat):Rat:=if Y<=-1 then Y+2 else if Y<=1 then 1 else if Y<=2 then 2 - Y else 0
noncomputable def Tn (X w:Rat):Prop:=∃ (n:Int) (Y:Rat),X=Y+6*(n:Rat)/\-2<=Y/\Y<=4/\w=tb Y
theorem yE {Y:Rat} (h:-2<=Y):tb Y<=1/\tb Y<=Y+2/\(Y<=2->tb Y<=2 - Y)/\(2<=Y->tb Y=0):=by
 unfold tb
 split
 ·exact ⟨by grind -abstractProof,Rat.le_refl,fun _=>by grind -abstractProof,fun _=>by grind -abstractProof⟩
 ·split
  ·exact ⟨Rat.le_refl,by grind -abstractProof,fun _=>by grind -abstractProof,fun _=>by grind -abstractProof⟩
  ·split
   ·exact ⟨by grind -abstractProof,by grind -abstractProof,fun _=>Rat.le_refl,fun _=>by grind -abstractProof⟩
   ·exact ⟨by rfl,by grind -abstractProof,fun _=>by contradiction,fun _=>rfl⟩
theorem DQ {Y:Rat} (h:-2<=Y):0<=tb Y:=by
 unfold tb
 split
 ·grind -abstractProof
 ·split
  ·decide
  ·split
   ·grind -abstractProof
   ·exact Rat.le_refl
theorem uV {Y Z d:Rat} (hy:-2<=Y) (h1:Y<=Z+d) (h2:Z<=Y+d):tb Y<=tb Z+d:=by
 obtain ⟨u1,u2,u3,u4⟩:=yE hy
 have hd:0<=d:=by clear u1 u2 u3 u4;grind -abstractProof
 generalize tb Y=y at *
 unfold tb
 split
 ·clear u1 u3 u4;grind -abstractProof
 ·split
  ·clear u2 u3 u4;grind -abstractProof
  ·split
   ·rename_i a b c
    by_cases q:Y<=2
    ·have:=u3 q;clear u1 u2 u3 u4;grind -abstractProof
    ·have:=u4 (Rat.le_of_lt (Rat.not_le.mp q));clear u1 u2 u3 u4;grind -abstractProof
   ·rename_i a b c
    by_cases q:Y<=2
    ·have:=u3 q;clear u1 u2 u3 u4;grind -abstractProof
    ·have:=u4 (Rat.le_of_lt (Rat.not_le.mp q));clear u1 u2 u3 u4;grind -abstractProof
theorem AH {Y Z d:Rat} (h1:-2<=Y) (h3:-2<=Z) (h:Nr Y Z d):Nr (tb Y) (tb Z) d:=by
 obtain ⟨a,b⟩:=h
 have p:=uV h1 b (by clear b;exact Iff.mp Rat.sub_right_le_iff_le_add a)
 have q:=uV h3 (by clear b p;grind -abstractProof) b
 exact ⟨by clear p a b;exact Iff.mpr Rat.sub_right_le_iff_le_add q,p⟩
theorem CK {Y d:Rat} (h1:-2<=Y) (h:Y<=d - 2):tb Y<=d:=by
 have:=(yE h1).2.1;clear h1;grind -abstractProof
theorem CM {Y d:Rat} (hd:d<=1) (h:4 - d<=Y):tb Y=0:=(yE (by grind -abstractProof)).2.2.2 (by grind -abstractProof)
theorem uW {Y Z d:Rat} (h2:Y<=4) (h3:-2<=Z) (hd:d<=1) (h:Nr Y (Z+6) d):Nr (tb Y) (tb Z) d/\Nr (tb Z) (tb Y) d:=by
 obtain ⟨a,b⟩:=h
 have p:=CM (Y:=Y) hd (by clear h2 b;grind -abstractProof)
 have q:=CK (Y:=Z) (d:=d) h3 (by clear b;grind -abstractProof)
 have r:=DQ h3
 rw [p]
 have z:=Rat.le_trans r q
 clear a b h2 h3 p hd
 exact ⟨⟨by clear r;grind -abstractProof,by clear q;exact Rat.add_nonneg r z⟩,⟨by clear q;grind -abstractProof,by clear r;grind -abstractProof⟩⟩
theorem Tn.near {X X' w w' d:Rat} (h:Tn X w) (h':Tn X' w') (hd:d<=1) (hn:Nr X X' d):Nr w w' d:=by
 obtain ⟨n,Y,rfl,h1,h2,rfl⟩:=h
 obtain ⟨m,Z,rfl,h3,h4,rfl⟩:=h'
 have hc:n=m\/n=m+1\/m=n+1:=by
  have a1:((n - m:Int):Rat)<((2:Int):Rat):=by rw [Rat.intCast_sub];unfold Nr at hn;grind -abstractProof
  have a2:((m - n:Int):Rat)<((2:Int):Rat):=by rw [Rat.intCast_sub];unfold Nr at hn;grind -abstractProof
  have b1:=Rat.intCast_lt_intCast.mp a1
  have b2:=Rat.intCast_lt_intCast.mp a2
  lia -abstractProof
 rcases hc with rfl | rfl | rfl
 ·exact AH h1 h3 (by unfold Nr at *;grind -abstractProof)
 ·refine (uW h4 h1 hd ?_).2
  rw [Rat.intCast_add] at hn;unfold Nr at *;grind -abstractProof
 ·refine (uW h2 h3 hd ?_).1
  rw [Rat.intCast_add] at hn;unfold Nr at *;grind -abstractProof
theorem Tn.shift {X w:Rat} (h:Tn X w) (m:Int):Tn (X+6*(m:Rat)) w:=by
 obtain ⟨n,Y,rfl,h1,h2,rfl⟩:=h
 exact ⟨n+m,Y,by rw [Rat.intCast_add];grind -abstractProof,h1,h2,rfl⟩
theorem Tn.half {X w:Rat} (h:Tn X w):Tn (X+3) (1 - w):=by
 obtain ⟨n,Y,rfl,h1,h2,rfl⟩:=h
 by_cases hY:Y<=1
 ·exact ⟨n,Y+3,by grind -abstractProof,by grind -abstractProof,by grind -abstractProof,by unfold tb;grind -abstractProof⟩
 ·exact ⟨n+1,Y - 3,by rw [Rat.intCast_add];grind -abstractProof,by grind -abstractProof,by grind -abstractProof,by unfold tb;grind -abstractProof⟩
theorem Tn.ex (X:Rat):∃ w,Tn X w:=by
 refine ⟨_,((X+2) / 6).floor,X - 6*((((X+2) / 6).floor:Int):Rat),by exact Eq.symm Rat.sub_add_cancel,?_,?_,rfl⟩
 ·have:=Rat.floor_le ((X+2) / 6);grind -abstractProof
 ·have:=Rat.lt_floor_add_one ((X+2) / 6)
  rw [Rat.intCast_add] at this;grind -abstractProof
theorem Tn.uniq {X w w':Rat} (h:Tn X w) (h':Tn X w'):w=w':=by
 have:=Tn.near h h' (d:=0) (by rfl) (by unfold Nr;grind -abstractProof)
 unfold Nr at this;grind -abstractProof
noncomputable def cw (d:Int) (f:Rat):Rat:=if d=0 then 1 else if d=1 then 1 - f else if d=4 then f else if d=5 then 1 else 0
theorem Tn.at {d:Int} {f:Rat} (h0:0<=d) (h1:d<6) (f0:0<=f) (f1:f<=1):Tn ((d:Rat)+f) (cw d f):=by
 have:d=0\/d=1\/d=2\/d=3\/d=4\/d=5:=by lia -abstractProof
 rcases this with rfl | rfl | rfl | rfl | rfl | rfl
 ·exact ⟨0,f,by grind -abstractProof,by grind -abstractProof,by exact Rat.le_trans f1 rfl,by delta cw tb;grind -abstractProof⟩
 ·exact ⟨0,1+f,by grind -abstractProof,by grind -abstractProof,by grind -abstractProof,by delta cw tb;grind -abstractProof⟩
 ·exact ⟨0,2+f,by grind -abstractProof,by grind -abstractProof,by grind -abstractProof,by delta cw tb;grind -abstractProof⟩
 ·exact ⟨0,3+f,by grind -abstractProof,by grind -abstractProof,by grind -abstractProof,by delta cw tb;grind -abstractProof⟩
 ·exact ⟨1,f - 2,by grind -abstractProof,by grind -abstractProof,by grind -abstractProof,by delta cw tb;grind -abstractProof⟩
 ·exact ⟨1,f - 1,by grind -abstractProof,by grind -abstractProof,by grind -abstractProof,by delta cw tb;grind -abstractProof⟩
structure Wheel (i j k M m t:Rat):Prop where
 i:∃ w,Tn t w/\i=m+(M - m)*w
 j:∃ w,Tn (t - 2) w/\j=m+(M - m)*w
 k:∃ w,Tn (t - 4) w/\k=m+(M - m)*w
structure Rim (i j k M m:Rat):Prop where
 iM:i<=M
 jM:j<=M
 kM:k<=M
 im:m<=i
 jm:m<=j
 km:m<=k
 M:M=i\/M=j\/M=k
 m:m=i\/m=j\/m=k
theorem pY {i j k M m t:Rat} (E:Rim i j k M m) (hne:m<M) (hi:i=M) (ht:(M - m)*t=j - k):Wheel i j k M m t/\-1<=t/\t<=1:=by
 obtain ⟨_,_,_,_,_,_,hM,hm⟩:=E
 have hR:0<M - m:=by exact Iff.mp (Rat.lt_iff_sub_pos m M) hne
 have hc:j=m\/k=m:=by grind -abstractProof
 have b1:-1<=t:=Rat.le_of_mul_le_mul_left (c:=M - m) (by grind -abstractProof) hR
 have b2:t<=1:=Rat.le_of_mul_le_mul_left (c:=M - m) (by grind -abstractProof) hR
 refine ⟨⟨⟨1,⟨0,t,by grind -abstractProof,by grind -abstractProof,by grind -abstractProof,by unfold tb;grind -abstractProof⟩,by grind -abstractProof⟩,?_,?_⟩,b1,b2⟩
 ·by_cases h0:0<=t
  ·have:k=m:=by
    rcases hc with h | h
    ·have:=Rat.mul_nonneg (Rat.le_of_lt hR) h0
     grind -abstractProof
    ·exact h
   exact ⟨t,⟨0,t - 2,by grind -abstractProof,by grind -abstractProof,by grind -abstractProof,by unfold tb;grind -abstractProof⟩,by grind -abstractProof⟩
  ·have:j=m:=by
    rcases hc with h | h
    ·exact h
    ·have:=Rat.mul_pos hR (show 0 < -t by grind -abstractProof)
     grind -abstractProof
   exact ⟨0,⟨-1,t - 2+6,by grind -abstractProof,by grind -abstractProof,by grind -abstractProof,by unfold tb;grind -abstractProof⟩,by grind -abstractProof⟩
 ·by_cases h0:0<=t
  ·have:k=m:=by
    rcases hc with h | h
    ·have:=Rat.mul_nonneg (Rat.le_of_lt hR) h0
     grind -abstractProof
    ·exact h
   exact ⟨0,⟨-1,t - 4+6,by grind -abstractProof,by grind -abstractProof,by grind -abstractProof,by unfold tb;grind -abstractProof⟩,by grind -abstractProof⟩
  ·have:j=m:=by
    rcases hc with h | h
    ·exact h
    ·have:=Rat.mul_pos hR (show 0 < -t by grind -abstractProof)
     grind -abstractProof
   exact ⟨-t,⟨-1,t - 4+6,by grind -abstractProof,by grind -abstractProof,by grind -abstractProof,by unfold tb;grind -abstractProof⟩,by grind -abstractProof⟩
theorem Wheel.turn {i j k M m t:Rat} (h:Wheel i j k M m t):Wheel k i j M m (t+2):=by
 obtain ⟨⟨u,h1,e1⟩,⟨v,h2,e2⟩,⟨w,h3,e3⟩⟩:=h
 refine ⟨⟨w,?_,e3⟩,⟨u,?_,e1⟩,⟨v,?_,e2⟩⟩
 ·have:=h3.shift 1
  have e:t - 4+6*((1:Int):Rat)=t+2:=by grind -abstractProof
  rw [e] at this;exact this
 ·have e:t+2 - 2=t:=by exact Rat.add_sub_cancel
  rw [e];exact h1
 ·have e:t+2 - 4=t - 2:=by grind -abstractProof
  rw [e];exact h2
theorem Wheel.shift {i j k M m t:Rat} (h:Wheel i j k M m t) (n:Int):Wheel i j k M m (t+6*(n:Rat)):=by
 obtain ⟨⟨u,h1,e1⟩,⟨v,h2,e2⟩,⟨w,h3,e3⟩⟩:=h
 refine ⟨⟨u,h1.shift n,e1⟩,⟨v,?_,e2⟩,⟨w,?_,e3⟩⟩
 ·have:=h2.shift n
  have e:t - 2+6*(n:Rat)=t+6*(n:Rat) - 2:=by grind -abstractProof
  rw [<-e];exact this
 ·have:=h3.shift n
  have e:t - 4+6*(n:Rat)=t+6*(n:Rat) - 4:=by grind -abstractProof
  rw [<-e];exact this
theorem Tn.half' {t c w:Rat} (h:Tn (t - c) w):Tn (t+3 - c) (1 - w):=by
 have:=h.half
 have e:t - c+3=t+3 - c:=by grind -abstractProof
 rw [e] at this;exact this
theorem Wheel.half {i j k M m t:Rat} (h:Wheel i j k M m t):Wheel (M+m - i) (M+m - j) (M+m - k) M m (t+3):=by
 obtain ⟨⟨u,h1,e1⟩,⟨v,h2,e2⟩,⟨w,h3,e3⟩⟩:=h
 exact ⟨⟨_,h1.half,by grind -abstractProof⟩,⟨_,h2.half',by grind -abstractProof⟩,⟨_,h3.half',by grind -abstractProof⟩⟩
end
section
open PySem PySem.Float64
set_option exponentiation.threshold 3000
noncomputable def G19:Nat:=2 ^ 1055
theorem iR:0<G19:=Nat.two_pow_pos _
theorem sf:524288*G19=UN:=by rfl
noncomputable def Gd (x:UInt64) (i:Int):Prop:=Fn' x/\fv x=i*(G19:Int)
theorem sY {i:Int} (h:i.natAbs<2 ^ 53):Rep (i*(G19:Int)):=⟨i.natAbs,1055,h,by simp,by rw [Int.natAbs_mul];rfl⟩
theorem Gd.add {x y:UInt64} {i j:Int} (hx:Gd x i) (hy:Gd y j) (h:(i+j).natAbs<2 ^ 53):Gd (Float64.add x y) (i+j):=by
 have e:fv x+fv y=(i+j)*(G19:Int):=by rw [hx.2,hy.2,Int.add_mul]
 have:=u9 hx.1 hy.1 (by rw [e];exact sY h)
 exact ⟨this.1,by rw [this.2,e]⟩
theorem Gd.sub {x y:UInt64} {i j:Int} (hx:Gd x i) (hy:Gd y j) (h:(i - j).natAbs<2 ^ 53):Gd (Float64.sub x y) (i - j):=by
 have e:fv x - fv y=(i - j)*(G19:Int):=by rw [hx.2,hy.2,Int.sub_mul]
 have:=wt hx.1 hy.1 (by rw [e];exact sY h)
 exact ⟨this.1,by rw [this.2,e]⟩
theorem Gd.lt {x y:UInt64} {i j:Int} (hx:Gd x i) (hy:Gd y j):fv x<fv y↔i<j:=by
 rw [hx.2,hy.2]
 exact Int.mul_lt_mul_right (by have:=iR;decide)
theorem Gd.eq {x y:UInt64} {i j:Int} (hx:Gd x i) (hy:Gd y j):fv x=fv y↔i=j:=by
 rw [hx.2,hy.2]
 exact Int.mul_eq_mul_right_iff (by have:=iR;decide)
theorem Gd.feq {x y:UInt64} {i j:Int} (hx:Gd x i) (hy:Gd y j):Mine.feq x y=decide (i=j):=by
 rw [sN hx.1 hy.1,decide_eq_decide];exact hx.eq hy
theorem Gd.zero {x:UInt64} {i:Int} (hx:Gd x i):Float64.isZero x=decide (i=0):=by
 rw [r9 hx.1,decide_eq_decide,hx.2]
 have:=iR
 constructor
 ·intro h
  rcases Int.mul_eq_zero.mp h with h | h<;>lia -abstractProof
 ·rintro rfl;rw [Int.zero_mul]
theorem Gd.max {x y:UInt64} {i j:Int} (hx:Gd x i) (hy:Gd y j):Gd (oT x y) (if i<j then j else i):=by
 unfold oT
 have:dd x y=decide (i<j):=by
  have h:=kI hx.1 hy.1
  rw [decide_eq_decide.mpr (hx.lt hy)] at h
  exact h
 rw [this]
 by_cases h:i<j
 ·simp only [h,decide_true,if_true];exact hy
 ·simp only [h,decide_false,Bool.false_eq_true,if_false];exact hx
theorem Gd.min {x y:UInt64} {i j:Int} (hx:Gd x i) (hy:Gd y j):Gd (oU x y) (if j<i then j else i):=by
 unfold oU
 have:dd y x=decide (j<i):=by
  have h:=kI hy.1 hx.1
  rw [decide_eq_decide.mpr (hy.lt hx)] at h
  exact h
 rw [this]
 by_cases h:j<i
 ·simp only [h,decide_true,if_true];exact hy
 ·simp only [h,decide_false,Bool.false_eq_true,if_false];exact hx
structure Mm (i j k M m:Int):Prop where
 iM:i<=M
 jM:j<=M
 kM:k<=M
 im:m<=i
 jm:m<=j
 km:m<=k
 M:M=i\/M=j\/M=k
 m:m=i\/m=j\/m=k
theorem Mm.ex (i j k:Int):∃ M m,Mm i j k M m/\M=(if (if i<j then j else i)<k then k else if i<j then j else i)/\m=(if k<(if j<i then j else i) then k else if j<i then j else i):=by
 refine ⟨_,_,?_,rfl,rfl⟩
 constructor<;>(repeat' split)<;>lia -abstractProof
theorem Gd.mm {r g b:UInt64} {i j k:Int} (hr:Gd r i) (hg:Gd g j) (hb:Gd b k):∃ M m,Mm i j k M m/\Gd (mxF r g b) M/\Gd (mnF r g b) m:=by
 obtain ⟨M,m,h,rfl,rfl⟩:=Mm.ex i j k
 exact ⟨_,_,h,(hr.max hg).max hb,(hr.min hg).min hb⟩
theorem Mm.rim {i j k M m:Int} (h:Mm i j k M m):Rim (i:Rat) (j:Rat) (k:Rat) (M:Rat) (m:Rat):=by
 obtain ⟨h1,h2,h3,h4,h5,h6,h7,h8⟩:=h
 refine ⟨Rat.intCast_le_intCast.mpr h1,Rat.intCast_le_intCast.mpr h2,Rat.intCast_le_intCast.mpr h3,Rat.intCast_le_intCast.mpr h4,Rat.intCast_le_intCast.mpr h5,Rat.intCast_le_intCast.mpr h6,?_,?_⟩
 ·rw [Rat.intCast_inj,Rat.intCast_inj,Rat.intCast_inj];exact h7
 ·rw [Rat.intCast_inj,Rat.intCast_inj,Rat.intCast_inj];exact h8
theorem Gd.rv {x:UInt64} {i:Int} (hx:Gd x i):Mine.rv x=(i:Rat) / 524288:=by
 have h:((fv x:Int):Rat)*524288=(i:Rat)*U:=by
  have:fv x*524288=i*(UN:Int):=by rw [hx.2,<-sf,Int.natCast_mul];generalize (G19:Int)=g;grind -abstractProof
  have:=congrArg (fun z:Int=>(z:Rat)) this
  simp only [Rat.intCast_mul] at this
  exact this
 have hU:=u8
 unfold Mine.rv
 grind -abstractProof
theorem lM {a s n:Nat} (hs:s*n=524288) (ha:a<=n):Gd (dP (a:Int) (n:Int)) ((a*s:Nat):Int):=by
 have hn:0<n:=by
  rcases Nat.eq_zero_or_pos n with rfl | h
  ·rw [Nat.mul_zero] at hs;exact absurd hs (by decide)
  ·exact h
 have hle:a*s<=524288:=by rw [<-hs,Nat.mul_comm s n];exact Nat.mul_le_mul_right s ha
 have hR:Float64.Right (dP (a:Int) (n:Int)) false (a*s*G19) 1:=by
  unfold dP
  have e1:(decide ((a:Int)<0) != decide ((n:Int)<0))=false:=by
   rw [decide_eq_false (by exact Int.not_ofNat_neg a),decide_eq_false (by exact Int.not_ofNat_neg n)];rfl
  rw [e1]
  refine ofFrac_right (by show 0<n;exact hn) ?_ (by exact Nat.one_pos)
  show a*2 ^ 1074*1=a*s*G19*n
  rw [show (2:Nat) ^ 1074=UN from rfl,<-sf,<-hs]
  grind -abstractProof
 have hS:(((a*s:Nat):Int)*(G19:Int))=((a*s*G19:Nat):Int):=by exact Int.ofNat_mul_ofNat (a*s) G19
 have hd:decide ((((a*s:Nat):Int)*(G19:Int))<0)=false:=by rw [hS];exact decide_eq_false (by exact Int.not_ofNat_neg (a*s*G19))
 have:=jW (r:=dP (a:Int) (n:Int)) (S:=((a*s:Nat):Int)*(G19:Int)) (by rw [hd,hS,Int.natAbs_natCast];exact hR) (sY (by simp only [Int.natAbs_natCast];exact Nat.lt_of_le_of_lt hle (by simp)))
 exact this
noncomputable def eps:Rat:=tw 3 / tw 53
theorem gB:eps=1 / 1125899906842624:=by decide +kernel
theorem dk:1125899906842624*eps=1:=by rw [gB];decide +kernel
theorem eT:0<eps:=by rw [gB];decide +kernel
theorem tw3:tw 3=8:=by rfl
theorem Bs {x y:UInt64} (hx:Fn' x) (hy:Fn' y) (h1:-8<rv x+rv y) (h2:rv x+rv y<8):Fn' (Float64.add x y)/\Nr (rv (Float64.add x y)) (rv x+rv y) eps:=oz hx hy 3 (by simp) (by rw [tw3];exact h1) (by rw [tw3];exact h2)
theorem AC {x y:UInt64} (hx:Fn' x) (hy:Fn' y) (h1:-8<rv x - rv y) (h2:rv x - rv y<8):Fn' (Float64.sub x y)/\Nr (rv (Float64.sub x y)) (rv x - rv y) eps:=CG hx hy 3 (by simp) (by rw [tw3];exact h1) (by rw [tw3];exact h2)
theorem DE {x y:UInt64} (hx:Fn' x) (hy:Fn' y) (h1:-8<rv x*rv y) (h2:rv x*rv y<8):Fn' (Float64.mul x y)/\Nr (rv (Float64.mul x y)) (rv x*rv y) eps:=pj hx hy 3 (by simp) (by rw [tw3];exact h1) (by rw [tw3];exact h2)
theorem Dn {x y:UInt64} (hx:Fn' x) (hy:Fn' y) (h0:rv y≠0) (h1:-8<rv x / rv y) (h2:rv x / rv y<8):Fn' (Float64.div x y)/\Nr (rv (Float64.div x y)) (rv x / rv y) eps:=BI hx hy h0 3 (by simp) (by rw [tw3];exact h1) (by rw [tw3];exact h2)
theorem n7 {x:UInt64} (hx:Fn' x):Float64.sub x x=zero false:=by
 obtain ⟨a,m,e,hx⟩:=hx
 rw [(sub_right hx hx).1 (by exact Int.sub_self (val x))]
 cases a<;>rfl
end
section
open PySem PySem.Float64
set_option exponentiation.threshold 3000
theorem Nr.mono {a b d e:Rat} (h:Nr a b d) (h':d<=e):Nr a b e:=by obtain ⟨h1,h2⟩:=h;exact ⟨by clear h2;grind -abstractProof,by clear h1;grind -abstractProof⟩
theorem Nr.trans {a b c d e:Rat} (h:Nr a b d) (h':Nr b c e):Nr a c (d+e):=by obtain ⟨h1,h2⟩:=h;obtain ⟨h3,h4⟩:=h';exact ⟨by grind -abstractProof,by grind -abstractProof⟩
theorem Nr.add {a b x y d e:Rat} (h:Nr a x d) (h':Nr b y e):Nr (a+b) (x+y) (d+e):=by obtain ⟨h1,h2⟩:=h;obtain ⟨h3,h4⟩:=h';exact ⟨by grind -abstractProof,by grind -abstractProof⟩
theorem Nr.sub {a b x y d e:Rat} (h:Nr a x d) (h':Nr b y e):Nr (a - b) (x - y) (d+e):=by obtain ⟨h1,h2⟩:=h;obtain ⟨h3,h4⟩:=h';exact ⟨by grind -abstractProof,by grind -abstractProof⟩
theorem Nr.self (a:Rat):Nr a a 0:=⟨by grind -abstractProof,by grind -abstractProof⟩
theorem ia {x v A E:Rat} (h1:-A<=x) (h2:x<=A) (h3:-E<=v) (h4:v<=E):-(A*E)<=x*v/\x*v<=A*E:=by
 have a:=Rat.mul_nonneg (show 0<=A - x by grind -abstractProof) (show 0<=E+v by grind -abstractProof)
 have b:=Rat.mul_nonneg (show 0<=A+x by grind -abstractProof) (show 0<=E - v by grind -abstractProof)
 have c:=Rat.mul_nonneg (show 0<=A - x by grind -abstractProof) (show 0<=E - v by grind -abstractProof)
 have d:=Rat.mul_nonneg (show 0<=A+x by grind -abstractProof) (show 0<=E+v by grind -abstractProof)
 clear h1 h2 h3 h4
 constructor
 ·clear a b;grind -abstractProof
 ·clear c d;grind -abstractProof
structure Ap (x:UInt64) (r:Rat) (n b:Nat):Prop where
 fn:Fn' x
 nr:Nr (rv x) r ((n:Rat)*eps)
 lo:-(b:Rat)<=r
 hi:r<=(b:Rat)
theorem wH {a b c d:Rat} (h:a<=b) (h':c<=d):a+c<=b+d:=by grind -abstractProof
theorem gA {n m:Nat} (h:n<=m):(n:Rat)<=(m:Rat):=Rat.natCast_le_natCast.mpr h
theorem BM (n:Nat):0<=(n:Rat)*eps:=Rat.mul_nonneg Rat.natCast_nonneg (Rat.le_of_lt eT)
theorem Cc {n:Nat} (h:n<=10000):(n:Rat)*eps<=1 / 16:=by
 refine Rat.le_trans (Rat.mul_le_mul_of_nonneg_right (gA h) (Rat.le_of_lt eT)) ?_
 rw [gB];decide +kernel
theorem Ap.abs {x:UInt64} {r:Rat} {n b:Nat} (h:Ap x r n b) (k:n<=10000):-((b:Rat)+1 / 16)<=rv x/\rv x<=(b:Rat)+1 / 16:=by
 have:=Cc k
 obtain ⟨_,⟨h1,h2⟩,h3,h4⟩:=h
 constructor
 ·clear h2 h4;grind -abstractProof
 ·clear h1 h3;grind -abstractProof
theorem Ap.mono {x:UInt64} {r:Rat} {n m b:Nat} (h:Ap x r n b) (k:n<=m):Ap x r m b:=⟨h.fn,h.nr.mono (Rat.mul_le_mul_of_nonneg_right (gA k) (Rat.le_of_lt eT)),h.lo,h.hi⟩
theorem Ap.bd {x:UInt64} {r:Rat} {n b c:Nat} (h:Ap x r n b) (lo:-(c:Rat)<=r) (hi:r<=(c:Rat)):Ap x r n c:=⟨h.fn,h.nr,lo,hi⟩
theorem Ap.eq {x:UInt64} {r s:Rat} {n b:Nat} (h:Ap x r n b) (e:r=s):Ap x s n b:=e▸h
theorem tX (n m:Nat):(n:Rat)*eps+(m:Rat)*eps+eps=((n+m+1:Nat):Rat)*eps:=by
 rw [Rat.natCast_add,Rat.natCast_add]
 have:((1:Nat):Rat)=1:=rfl
 rw [this];grind -abstractProof
theorem yA {a c:Rat} {b d:Nat} (h1:-((b:Rat)+1 / 16)<=a) (h2:a<=(b:Rat)+1 / 16) (h3:-((d:Rat)+1 / 16)<=c) (h4:c<=(d:Rat)+1 / 16) (k:b+d<=7):-8<a+c/\a+c<8:=by
 have k':=gA k
 rw [Rat.natCast_add] at k'
 have e:((7:Nat):Rat)=7:=rfl
 rw [e] at k'
 have e16:(16:Rat)*(1 / 16)=1:=by decide +kernel
 generalize (1:Rat) / 16=z at *
 constructor
 ·clear h2 h4;grind -abstractProof
 ·clear h1 h3;grind -abstractProof
theorem Ap.add {x y:UInt64} {r s:Rat} {n m b c:Nat} (h1:Ap x r n b) (h2:Ap y s m c) (k:b+c<=7) (kn:n<=10000) (km:m<=10000):Ap (Float64.add x y) (r+s) (n+m+1) (b+c):=by
 obtain ⟨a1,a2⟩:=h1.abs kn
 obtain ⟨a3,a4⟩:=h2.abs km
 obtain ⟨l1,l2⟩:=yA a1 a2 a3 a4 k
 obtain ⟨f,q⟩:=Bs h1.fn h2.fn l1 l2
 have e:=(q.trans (h1.nr.add h2.nr)).mono (Std.le_of_eq (show eps+((n:Rat)*eps+(m:Rat)*eps)=((n+m+1:Nat):Rat)*eps by rw [Rat.add_comm];exact tX n m))
 refine ⟨f,e,?_,?_⟩
 ·rw [Rat.natCast_add,Rat.neg_add];exact wH h1.lo h2.lo
 ·rw [Rat.natCast_add];exact wH h1.hi h2.hi
theorem Ap.sub {x y:UInt64} {r s:Rat} {n m b c:Nat} (h1:Ap x r n b) (h2:Ap y s m c) (k:b+c<=7) (kn:n<=10000) (km:m<=10000):Ap (Float64.sub x y) (r - s) (n+m+1) (b+c):=by
 obtain ⟨a1,a2⟩:=h1.abs kn
 obtain ⟨a3,a4⟩:=h2.abs km
 obtain ⟨l1,l2⟩:=yA a1 a2 (Rat.neg_le_neg a4) (by rw [<-Rat.neg_neg (a:=(c:Rat)+1 / 16)];exact Rat.neg_le_neg a3) k
 rw [<-Rat.sub_eq_add_neg] at l1 l2
 obtain ⟨f,q⟩:=AC h1.fn h2.fn l1 l2
 have e:=(q.trans (h1.nr.sub h2.nr)).mono (Std.le_of_eq (show eps+((n:Rat)*eps+(m:Rat)*eps)=((n+m+1:Nat):Rat)*eps by rw [Rat.add_comm];exact tX n m))
 have a:=h1.lo;have b':=h1.hi;have c':=h2.lo;have d:=h2.hi
 refine ⟨f,e,?_,?_⟩
 ·rw [Rat.natCast_add];clear b' c';grind -abstractProof
 ·rw [Rat.natCast_add];clear a d;grind -abstractProof
theorem xd (n m b c:Nat):((b:Rat)+1)*((m:Rat)*eps)+(c:Rat)*((n:Rat)*eps)+eps=(((b+1)*m+c*n+1:Nat):Rat)*eps:=by
 simp only [Rat.natCast_add,Rat.natCast_add,Rat.natCast_mul,Rat.natCast_mul,Rat.natCast_add]
 have:((1:Nat):Rat)=1:=rfl
 rw [this];grind -abstractProof
theorem Ap.mul {x y:UInt64} {r s:Rat} {n m b c:Nat} (h1:Ap x r n b) (h2:Ap y s m c) (k:b*c<=6) (kb:b<=6) (kc:c<=6) (kn:n<=10000) (km:m<=10000):Ap (Float64.mul x y) (r*s) ((b+1)*m+c*n+1) (b*c):=by
 obtain ⟨a1,a2⟩:=h1.abs kn
 obtain ⟨a3,a4⟩:=h2.abs km
 obtain ⟨p1,p2⟩:=ia a1 a2 a3 a4
 have hb:((b:Rat)+1 / 16)*((c:Rat)+1 / 16)<8:=by
  have k1:=gA k
  have k2:=gA kb
  have k3:=gA kc
  rw [Rat.natCast_mul] at k1
  have e:((6:Nat):Rat)=6:=rfl
  rw [e] at k1 k2 k3
  have e16:(16:Rat)*(1 / 16)=1:=by decide +kernel
  generalize (1:Rat) / 16=z at *
  clear a1 a2 a3 a4 p1 p2 h1 h2
  have z1:=Rat.mul_le_mul_of_nonneg_right k2 (show 0<=z by grind -abstractProof)
  have z2:=Rat.mul_le_mul_of_nonneg_right k3 (show 0<=z by grind -abstractProof)
  have z3:=Rat.mul_le_mul_of_nonneg_right (show z<=1 by grind -abstractProof) (show 0<=z by grind -abstractProof)
  grind -abstractProof
 obtain ⟨f,q⟩:=DE h1.fn h2.fn (by clear a1 a2 a3 a4 h1 h2 p2;grind -abstractProof) (Std.lt_of_le_of_lt p2 hb)
 obtain ⟨b1,b2⟩:=ia h1.lo h1.hi h2.lo h2.hi
 have key:Nr (rv x*rv y) (r*s) (((b:Rat)+1)*((m:Rat)*eps)+(c:Rat)*((n:Rat)*eps)):=by
  obtain ⟨u1,u2⟩:=h1.nr
  obtain ⟨v1,v2⟩:=h2.nr
  obtain ⟨w1,w2⟩:=ia (A:=(b:Rat)+1) (x:=rv x) (v:=rv y - s) (E:=(m:Rat)*eps) (by clear h1 h2 u1 u2 v1 v2 a3 a4 p1 p2 hb b1 b2;grind -abstractProof) (by clear h1 h2 u1 u2 v1 v2 a3 a4 p1 p2 hb b1 b2;grind -abstractProof) (by clear h1 h2 u1 u2 v2 a1 a2 a3 a4 p1 p2 hb b1 b2;grind -abstractProof) (by clear h1 h2 u1 u2 v1 a1 a2 a3 a4 p1 p2 hb b1 b2;grind -abstractProof)
  obtain ⟨w3,w4⟩:=ia (A:=(c:Rat)) (x:=s) (v:=rv x - r) (E:=(n:Rat)*eps) h2.lo h2.hi (by clear h1 h2 v1 v2 u2 a1 a2 a3 a4 p1 p2 hb b1 b2 w1 w2;grind -abstractProof) (by clear h1 h2 v1 v2 u1 a1 a2 a3 a4 p1 p2 hb b1 b2 w1 w2;grind -abstractProof)
  have e:rv x*rv y - r*s=rv x*(rv y - s)+s*(rv x - r):=by clear u1 u2 v1 v2 a1 a2 a3 a4 p1 p2 hb b1 b2 w1 w2 w3 w4;grind -abstractProof
  clear u1 u2 v1 v2 a1 a2 a3 a4 p1 p2 hb b1 b2 h1 h2 q f
  generalize rv x*(rv y - s)=A at *
  generalize s*(rv x - r)=B at *
  constructor
  ·clear w2 w4;grind -abstractProof
  ·clear w1 w3;grind -abstractProof
 have e:=(q.trans key).mono (Std.le_of_eq (show eps+(((b:Rat)+1)*((m:Rat)*eps)+(c:Rat)*((n:Rat)*eps))=(((b+1)*m+c*n+1:Nat):Rat)*eps by rw [Rat.add_comm];exact xd n m b c))
 exact ⟨f,e,by rw [Rat.natCast_mul];exact b1,by rw [Rat.natCast_mul];exact b2⟩
theorem Ap.exact {x:UInt64} {b:Nat} (hx:Fn' x) (lo:-(b:Rat)<=rv x) (hi:rv x<=(b:Rat)):Ap x (rv x) 0 b:=⟨hx,(Nr.self _).mono (BM 0),lo,hi⟩
theorem Ap.div {x y:UInt64} {q:Rat} {b:Nat} (hx:Fn' x) (hy:Fn' y) (h0:rv y≠0) (hq:q*rv y=rv x) (lo:-(b:Rat)<=q) (hi:q<=(b:Rat)) (kb:b<=7):Ap (Float64.div x y) q 1 b:=by
 have e:rv x / rv y=q:=by rw [<-hq];exact Rat.mul_div_cancel h0
 have k:=gA kb
 have e7:((7:Nat):Rat)=7:=rfl
 rw [e7] at k
 obtain ⟨f,n⟩:=Dn hx hy h0 (by rw [e];clear hi hq e;grind -abstractProof) (by rw [e];clear lo hq e;grind -abstractProof)
 rw [e] at n
 exact ⟨f,n.mono (by have:((1:Nat):Rat)=1:=rfl
                     rw [this,Rat.one_mul];exact Rat.le_refl),lo,hi⟩
end
section
open PySem PySem.Float64
set_option exponentiation.threshold 3000
theorem Rat.div_bd {a b:Rat} (hb:0<b) (h0:0<=a) (h1:a<=b):0<=a / b/\a / b<=1:=by
 have h:a / b*b=a:=Rat.div_mul_cancel (by exact Ne.symm (Rat.ne_of_lt hb))
 generalize a / b=q at *
 constructor
 ·exact Rat.le_of_mul_le_mul_right (c:=b) (by grind -abstractProof) hb
 ·exact Rat.le_of_mul_le_mul_right (c:=b) (by grind -abstractProof) hb
theorem oX {mx r rg:UInt64} {M i R:Int} (hm:Gd mx M) (hr:Gd r i) (hg:Gd rg R) (hR:0<R) (h0:i<=M) (h1:M - i<=R) (hR2:R<=524288):∃ q:Rat,q*(R:Rat)=(M:Rat) - (i:Rat)/\0<=q/\q<=1/\Ap (eZ mx r rg) q 1 1:=by
 have hs:=hm.sub hr (by lia -abstractProof)
 have hRq:(0:Rat)<(R:Rat):=Rat.intCast_pos.mpr hR
 have hne:(R:Rat)≠0:=by clear hs hm hr hg;exact Ne.symm (Rat.ne_of_lt hRq)
 obtain ⟨q0,q1⟩:=Rat.div_bd hRq (a:=((M - i:Int):Rat)) (Rat.intCast_nonneg.mpr (by exact Int.sub_nonneg_of_le h0)) (Rat.intCast_le_intCast.mpr h1)
 have hq:((M - i:Int):Rat) / (R:Rat)*(R:Rat)=((M - i:Int):Rat):=Rat.div_mul_cancel hne
 have v1:=hs.rv
 have v2:=hg.rv
 generalize ((M - i:Int):Rat) / (R:Rat)=q at *
 refine ⟨q,by rw [hq,Rat.intCast_sub],q0,q1,Ap.div hs.1 hg.1 ?_ ?_ ?_ q1 (by simp)⟩
 ·rw [v2];clear hs hm hr hg hq q0 q1 v1 v2;grind -abstractProof
 ·rw [v1,v2,<-hq];clear hs hm hr hg hq q0 q1 v1 v2;grind -abstractProof
 ·exact Rat.le_trans (by rfl) q0
theorem qG {x:UInt64} {m:Nat} {e:Int} (h:decode x=.fin false m e):Fn' x:=⟨_,_,_,h⟩
theorem uQ {x:UInt64} {n:Int} {d:Nat} (hd:0<d) (h:fv x*(d:Int)=n*(UN:Int)):rv x=(n:Rat) / (d:Rat):=by
 have h':=congrArg (fun z:Int=>(z:Rat)) h
 simp only [Rat.intCast_mul,Rat.intCast_natCast] at h'
 rw [cm] at h'
 have hU:=u8
 have hd':(0:Rat)<(d:Rat):=Rat.natCast_pos.mpr hd
 have e:(UN:Rat)=U:=rfl
 rw [e] at h'
 have:rv x*(d:Rat)=(n:Rat):=by grind -abstractProof
 grind -abstractProof
theorem f2:Fn' F2/\rv F2=2:=⟨qG (by kernel_rfl:decode F2=.fin false (2 ^ 52) (-51)),by rw [uQ (n:=2) (d:=1) (by exact Nat.one_pos) (by decide +kernel)];grind -abstractProof⟩
theorem f4:Fn' F4/\rv F4=4:=⟨qG (by kernel_rfl:decode F4=.fin false (2 ^ 52) (-50)),by rw [uQ (n:=4) (d:=1) (by exact Nat.one_pos) (by decide +kernel)];grind -abstractProof⟩
theorem f6:Fn' F6/\rv F6=6:=⟨qG (by kernel_rfl:decode F6=.fin false (3*2 ^ 51) (-50)),by rw [uQ (n:=6) (d:=1) (by exact Nat.one_pos) (by decide +kernel)];grind -abstractProof⟩
structure i6 (hue:UInt64) (t:Rat):Prop where
 fn:Fn' hue
 lo:0<=rv hue
 up:rv hue<1
 t0:0<=t
 t6:t<6
 near:Nr (6*rv hue) t (16*eps)
theorem Ax {h:UInt64} {t:Rat} {n:Nat} (A:Ap h t 4 n) (kn:n<=6):Fn' (Float64.div h F6)/\Nr (6*rv (Float64.div h F6)) t (10*eps):=by
 have he:=eT
 obtain ⟨a1,a2⟩:=A.abs (by simp)
 have k:=gA kn
 have e6:rv h / 6*6=rv h:=Rat.div_mul_cancel (by decide)
 have g:=Dn A.fn f6.1 (by rw [f6.2];decide)
 rw [f6.2] at g
 obtain ⟨n1,n2⟩:=A.nr
 have e5:((4:Nat):Rat)=4:=rfl
 have e7:((6:Nat):Rat)=6:=rfl
 rw [e5] at n1 n2
 rw [e7] at k
 have e16:(16:Rat)*(1 / 16)=1:=by decide +kernel
 generalize (1:Rat) / 16=z at *
 generalize rv h / 6=q at g e6
 clear A
 obtain ⟨g1,g2,g3⟩:=g (by clear n1 n2 a2 g;grind -abstractProof) (by clear n1 n2 a1 g;grind -abstractProof)
 clear a1 a2 k e16 g
 exact ⟨g1,by clear g3 n2;grind -abstractProof,by clear g2 n1;grind -abstractProof⟩
theorem o6 {h:UInt64} {t:Rat} {b:Nat} (A:Ap h t 4 b) (h0:(1<=524288*t/\t<=5)\/(-1<=t/\524288*t<=-1)) (kb:b<=6):i6 (dh (Float64.div h F6)) (if t<0 then t+6 else t):=by
 have he:=dk
 obtain ⟨g1,g2,g3⟩:=Ax A kb
 obtain ⟨m1,⟨n,m2,m6⟩,m3,m4,m5⟩:=uA g1
 have hlt:tw 0 / tw 53<=eps:=by rw [gB];decide +kernel
 generalize tw 0 / tw 53=d0 at *
 clear A
 generalize Float64.div h F6=x at *
 rcases h0 with ⟨a,b⟩ | ⟨a,b⟩
 ·clear m2 m6 hlt
  have hx:0<=rv x/\rv x<1:=⟨by clear g3 b m3 m4 m5;grind -abstractProof,by clear g2 a m3 m4 m5;grind -abstractProof⟩
  have e:=m5 hx.1 hx.2
  rw [if_neg (by clear g2 g3 m3 m4 m5 e hx;grind -abstractProof)]
  exact ⟨m1,m3,by rw [e];exact hx.2,by clear g2 g3 m3 m4 m5 e hx;grind -abstractProof,by clear g2 g3 m3 m4 m5 e hx;exact Std.lt_of_le_of_lt b rfl,by rw [e];clear g3 hx m3 m4 m5 e;grind -abstractProof,by rw [e];clear g2 hx m3 m4 m5 e;grind -abstractProof⟩
 ·clear m5
  have hn1:n=-1:=by
   have c1:((n:Int):Rat)<((0:Int):Rat):=by simp only [Rat.intCast_zero];clear g2 m4 m2 a;grind -abstractProof
   have c2:((-2:Int):Rat)<((n:Int):Rat):=by rw [show ((-2:Int):Rat)=-2 from rfl];clear g3 m3 m6 b c1;grind -abstractProof
   have:=Rat.intCast_lt_intCast.mp c1
   have:=Rat.intCast_lt_intCast.mp c2
   lia -abstractProof
  subst hn1
  have en:((-1:Int):Rat)=-1:=rfl
  rw [en] at m2 m6
  rw [if_pos (by clear g2 g3 m2 m6 m3 m4;grind -abstractProof)]
  exact ⟨m1,m3,by clear g2 m2 m3 m4 a;grind -abstractProof,by clear g2 g3 m2 m6 m3 m4;grind -abstractProof,by clear g2 g3 m2 m6 m3 m4;grind -abstractProof,by clear g3 m6 m3 m4 a b;grind -abstractProof,by clear g2 m2 m3 m4 a b;grind -abstractProof⟩
theorem xP:i6 (dh (Float64.div (zero false) F6)) 0:=by
 have e:dh (Float64.div (zero false) F6)=zero false:=by decide +kernel
 rw [e]
 have z:=ir false
 have zr:rv (zero false)=0:=by unfold rv;simp only [z.2,Rat.intCast_zero,Rat.div_def,Rat.zero_mul]
 refine ⟨z.1,by rw [zr];rfl,by rw [zr];rfl,by rfl,by rfl,?_⟩
 have:=eT
 rw [zr];unfold Nr;grind -abstractProof
theorem ap2:Ap F2 2 0 2:=(Ap.exact f2.1 (by rw [f2.2];rfl) (by rw [f2.2];rfl)).eq f2.2
theorem ap4:Ap F4 4 0 4:=(Ap.exact f4.1 (by rw [f4.2];rfl) (by rw [f4.2];rfl)).eq f4.2
theorem sm {R a b qa qb:Rat} {j k:Int} (hR:0<R) (hR2:R<=524288) (hne:j≠k) (e:(qb - qa)*R=(j:Rat) - (k:Rat)):1<=524288*(qb - qa)\/524288*(qb - qa)<=-1:=by
 generalize qb - qa=t at *
 rcases Int.lt_or_gt_of_ne hne with h | h
 ·right
  have q:=Rat.intCast_le_intCast.mpr (show j - k<=-1 by exact Int.sub_le_of_sub_le h)
  rw [Rat.intCast_sub,<-e] at q
  have q':t*R<=-1:=q
  have:t<0:=by
   refine Rat.not_le.mp fun z=>?_
   have:=Rat.mul_nonneg z (Rat.le_of_lt hR);clear e q h hne;grind -abstractProof
  have:=Rat.mul_le_mul_of_nonneg_left hR2 (show 0<=-t by clear e q q' h hne;grind -abstractProof)
  clear e q h hne hR;grind -abstractProof
 ·left
  have q:=Rat.intCast_le_intCast.mpr (show 1<=j - k by exact Int.le_sub_left_of_add_le h)
  rw [Rat.intCast_sub,<-e] at q
  have q':1<=t*R:=q
  have:0<t:=by
   refine Rat.not_le.mp fun z=>?_
   have:=Rat.mul_nonneg (show 0<=-t by clear e q q' h hne;exact Iff.mp Rat.le_neg_iff z) (Rat.le_of_lt hR);clear e q h hne;grind -abstractProof
  have:=Rat.mul_le_mul_of_nonneg_left hR2 (Rat.le_of_lt this)
  clear e q h hne hR;grind -abstractProof
theorem xN {x h:UInt64} {i j k M m R t:Rat} (W:Wheel i j k M m t) (H:i6 x (if t<0 then t+6 else t)):∃ t,i6 x t/\Wheel i j k M m t:=by
 refine ⟨_,H,?_⟩
 split
 ·have:=W.shift 1
  have e:t+6*((1:Int):Rat)=t+6:=by rw [show ((1:Int):Rat)=1 from rfl];simp
  rw [e] at this;exact this
 ·exact W
theorem xX {R a b c qa qb:Rat} (h1:qa*R=c - a) (h2:qb*R=c - b):R*(qb - qa)=a - b:=by grind -abstractProof
theorem B0 {r g b:UInt64} {i j k M m:Int} (hr:Gd r i) (hg:Gd g j) (hb:Gd b k) (hgb:j=k->g=b) (X:Mm i j k M m) (hM:Gd (mxF r g b) M) (hm:Gd (mnF r g b) m) (i0:0<=m) (i1:M<=524288) (hne:m<M) :
 ∃ t,i6 (fY r g b) t/\Wheel (i:Rat) (j:Rat) (k:Rat) (M:Rat) (m:Rat) t:=by
 have hrg:Gd (rgF r g b) (M - m):=hM.sub hm (by clear X;omega)
 have hR0:0<M - m:=by clear X;exact Int.sub_pos_of_lt hne
 have hR1:M - m<=524288:=by clear X;lia -abstractProof
 have hRpos:(0:Rat)<((M - m:Int):Rat):=Rat.intCast_pos.mpr hR0
 have hRle:((M - m:Int):Rat)<=524288:=Rat.intCast_le_intCast.mpr hR1
 have hne':(m:Rat)<(M:Rat):=Rat.intCast_lt_intCast.mpr hne
 have E:=X.rim
 obtain ⟨qr,er,r0,r1,ar⟩:=oX hM hr hrg hR0 X.iM (Int.sub_le_sub_left X.im M) hR1
 obtain ⟨qg,eg,g0,g1,ag⟩:=oX hM hg hrg hR0 X.jM (Int.sub_le_sub_left X.jm M) hR1
 obtain ⟨qb,eb,b0,b1,ab⟩:=oX hM hb hrg hR0 X.kM (Int.sub_le_sub_left X.km M) hR1
 have eR:((M - m:Int):Rat)=(M:Rat) - (m:Rat):=Rat.intCast_sub _ _
 have fr:feq r (mxF r g b)=decide (i=M):=hr.feq hM
 have fg:feq g (mxF r g b)=decide (j=M):=hg.feq hM
 delta fY hueF sZ
 rw [fr,fg]
 by_cases hi:i=M
 ·rw [decide_eq_true hi,cond_true]
  obtain ⟨W,w1,w2⟩:=pY (t:=qb - qg) E hne' (Rat.intCast_inj.mpr hi) (by rw [<-eR];exact xX eg eb)
  by_cases hjk:j=k
  ·have:g=b:=hgb hjk
   subst this
   rw [n7 ag.fn]
   have e0:qb - qg=0:=by
    have q:=xX eg eb
    rw [hjk] at q
    have:((M - m:Int):Rat)*(qb - qg)=0:=by rw [q];exact Rat.sub_self
    rcases Rat.mul_eq_zero.mp this with z | z
    ·rw [z] at hRpos;exact absurd hRpos (by simp)
    ·exact z
   rw [e0] at W
   exact ⟨0,xP,W⟩
  ·have hb2:=sm (a:=0) (b:=0) hRpos hRle hjk (by rw [Rat.mul_comm];exact xX eg eb)
   exact xN (h:=r) (R:=0) W (o6 ((ab.sub ag (by simp) (by simp) (by simp)).mono (by simp:_<=4)) (by clear W E X er eg eb ar ag ab r0 r1 g0 g1 b0 b1;grind -abstractProof) (by decide))
 ·rw [decide_eq_false hi,cond_false]
  by_cases hj:j=M
  ·rw [decide_eq_true hj,cond_true]
   obtain ⟨W,w1,w2⟩:=pY (i:=(j:Rat)) (j:=(k:Rat)) (k:=(i:Rat)) (t:=qr - qb) ⟨E.jM,E.kM,E.iM,E.jm,E.km,E.im,.inl (Rat.intCast_inj.mpr hj.symm),E.m.elim (fun h=>.inr (.inr h)) fun h=>h.elim .inl fun h=>.inr (.inl h)⟩ hne' (Rat.intCast_inj.mpr hj) (by rw [<-eR];exact xX eb er)
   have A:=((ap2.add ar (by simp) (by simp) (by simp)).sub ab (by simp) (by decide) (by simp)).mono (by decide:_<=4)
   have e:qr - qb+2=2+qr - qb:=by clear W E X er eg eb ar ag ab A;grind -abstractProof
   have W':=W.turn
   rw [e] at W'
   exact xN (h:=r) (R:=0) W' (o6 A (by clear W W' E X er eg eb ar ag ab A r0 r1 g0 g1 b0 b1 hi hj fr fg hne' hRpos hRle;grind -abstractProof) (by decide))
  ·rw [decide_eq_false hj,cond_false]
   have hk:k=M:=by rcases X.M with h | h | h;exact absurd h.symm hi;exact absurd h.symm hj;exact h.symm
   obtain ⟨W,w1,w2⟩:=pY (i:=(k:Rat)) (j:=(i:Rat)) (k:=(j:Rat)) (t:=qg - qr) ⟨E.kM,E.iM,E.jM,E.km,E.im,E.jm,.inl (Rat.intCast_inj.mpr hk.symm),E.m.elim (fun h=>.inr (.inl h)) fun h=>h.elim (fun h=>.inr (.inr h)) .inl⟩ hne' (Rat.intCast_inj.mpr hk) (by rw [<-eR];exact xX er eg)
   have A:=((ap4.add ag (by simp) (by simp) (by simp)).sub ar (by simp) (by decide) (by simp)).mono (by decide:_<=4)
   have e:qg - qr+2+2=4+qg - qr:=by clear W E X er eg eb ar ag ab A;grind -abstractProof
   have W':=W.turn.turn
   rw [e] at W'
   exact xN (h:=r) (R:=0) W' (o6 A (by clear W W' E X er eg eb ar ag ab A r0 r1 g0 g1 b0 b1 hi hj fr fg hne' hRpos hRle;grind -abstractProof) (by decide))
end
section
open PySem PySem.Float64
set_option exponentiation.threshold 3000
theorem wj {e:Int} (h:0<=e):(e+1074).toNat=e.toNat+1074:=by lia -abstractProof
theorem tj {e:Int} (h:-1074<=e):(e+1074).toNat+(-e).toNat=1074\/0<=e:=by grind -abstractProof
theorem nO {m:Nat} {e:Int} (he:-1074<=e):Float64.floorOf false m e=((m*2 ^ (e+1074).toNat / UN:Nat):Int):=by
 delta Float64.floorOf Float64.sgn UN
 by_cases h:e>=0
 ·rw [if_pos h,wj h,Nat.pow_add,<-Nat.mul_assoc,Nat.mul_div_cancel _ (Nat.two_pow_pos _)]
  dsimp
 ·rw [if_neg h]
  have e1:(e+1074).toNat+(-e).toNat=1074:=by rcases tj he with h1 | h1;exact h1;exact absurd h1 h
  have e2:2 ^ 1074=2 ^ (-e).toNat*2 ^ (e+1074).toNat:=by rw [<-Nat.pow_add,Nat.add_comm];exact congrArg _ e1.symm
  rw [e2,Nat.mul_div_mul_right _ _ (Nat.two_pow_pos _)]
  show Int.fdiv (m:Int) (2 ^ (-e).toNat)=_
  have e3:((2:Int) ^ (-e).toNat)=((2 ^ (-e).toNat:Nat):Int):=by simp only [Int.natCast_pow];rfl
  rw [e3,Int.fdiv_eq_ediv_of_nonneg _ (Int.natCast_nonneg _)]
  rfl
theorem zL {x:UInt64} (hx:Fn' x) (h0:0<=fv x):jY x=fv x / (UN:Int):=by
 obtain ⟨a,m,e,hx⟩:=hx
 have hv:fv x=Float64.sgn a (m*2 ^ (e+1074).toNat):=val_eq hx
 unfold jY
 rw [hx]
 show Float64.truncOf a m e=_
 cases a with
 | false =>
   show Float64.floorOf false m e=_
   rw [nO (decode_ge hx),hv]
   exact Int.natCast_ediv _ _
 | true =>
   have hm:m*2 ^ (e+1074).toNat=0:=by
    have h1:(0:Int)<=-((m*2 ^ (e+1074).toNat:Nat):Int):=by rw [hv] at h0;exact h0
    generalize m*2 ^ (e+1074).toNat=z at *;lia -abstractProof
   show -Float64.floorOf (!true) m e=_
   rw [Bool.not_true,nO (decode_ge hx),hv,hm]
   rfl
theorem yu {x:UInt64} (h:0<=rv x):0<=fv x:=by
 have:=cm x
 rw [<-Rat.intCast_le_intCast,this,Rat.intCast_zero]
 exact Rat.mul_nonneg h (Rat.le_of_lt iu)
theorem oR {x:UInt64} (hx:Fn' x) (h0:0<=rv x):((jY x:Int):Rat)<=rv x/\rv x<(jY x:Rat)+1/\0<=jY x:=by
 have n0:=yu h0
 have hU:=iu
 have hUn:=sk
 rw [zL hx n0]
 have hd:=Int.mul_ediv_add_emod (fv x) (UN:Int)
 have h1:=Int.emod_nonneg (fv x) (b:=(UN:Int)) (by decide)
 have h2:=Int.emod_lt_of_pos (fv x) (b:=(UN:Int)) (by decide)
 have a1:fv x / (UN:Int)*(UN:Int)<=fv x:=by rw [Int.mul_comm];omega
 have a2:fv x<(fv x / (UN:Int)+1)*(UN:Int):=by rw [Int.add_mul,Int.one_mul,Int.mul_comm];omega
 have b1:=Rat.intCast_le_intCast.mpr a1
 have b2:=Rat.intCast_lt_intCast.mpr a2
 rw [Rat.intCast_mul,cm,Rat.intCast_natCast] at b1 b2
 have eU:((UN:Nat):Rat)=U:=rfl
 rw [eU] at b1 b2
 refine ⟨Rat.le_of_mul_le_mul_right (c:=U) b1 hU,?_,Int.ediv_nonneg n0 (by simp)⟩
 rw [Rat.intCast_add] at b2
 exact Rat.lt_of_mul_lt_mul_right (c:=U) b2 (Rat.le_of_lt hU)
theorem gY {i:Int} (h:i.natAbs<2 ^ 53):Fn' (Float64.ofInt i)/\rv (Float64.ofInt i)=(i:Rat):=by
 obtain ⟨h1,h2⟩:=q9 h
 refine ⟨h1,?_⟩
 unfold rv
 simp only [h2,Rat.intCast_mul,Rat.intCast_natCast]
 have:=u8
 show (i:Rat)*U / U=_
 exact Rat.mul_div_cancel this
theorem qX {V u z d:Rat} (h0:0<=V) (h1:V<=1) (hd:0<=d) (h:Nr u z d):Nr (V*u) (V*z) d:=by
 have a1:=Rat.mul_le_mul_of_nonneg_left h.1 h0
 have a2:=Rat.mul_le_mul_of_nonneg_left h.2 h0
 have a3:=Rat.mul_le_mul_of_nonneg_right h1 hd
 unfold Nr;grind -abstractProof
end
section
open PySem PySem.Float64
set_option exponentiation.threshold 3000
noncomputable def Lit (a:UInt64) (mn R X d:Rat):Prop:=Fn' a/\∃ w,Tn X w/\Nr (rv a) (mn+R*w) d
theorem tw4:tw 4=16:=by rfl
theorem D3:tw 4 / tw 53=2*eps:=by rw [gB];decide +kernel
theorem DD {x y:UInt64} (hx:Fn' x) (hy:Fn' y) (h1:-16<rv x*rv y) (h2:rv x*rv y<16):Fn' (Float64.mul x y)/\Nr (rv (Float64.mul x y)) (rv x*rv y) (2*eps):=by
 have:=pj hx hy 4 (by simp) (by rw [tw4];exact h1) (by rw [tw4];exact h2)
 rw [D3] at this;exact this
theorem CN {P F:Rat} {i d n c:Int} (hP:P=(i:Rat)+F) (h:i=d+6*n+2*c) (h0:0<=d) (h1:d<6) (f0:0<=F) (f1:F<=1):Tn (P - 2*(c:Rat)) (cw d F):=by
 have:=(Tn.at h0 h1 f0 f1).shift n
 have e:(d:Rat)+F+6*(n:Rat)=P - 2*(c:Rat):=by
  simp only [hP,h,Rat.intCast_add,Rat.intCast_add,Rat.intCast_mul,Rat.intCast_mul];grind -abstractProof
 rw [e] at this;exact this
theorem Cz {h:UInt64} (hh:Fn' h) (h0:0<=rv h) (h2:rv h<=2):Fn' (Float64.mul h F6)/\Nr (rv (Float64.mul h F6)) (6*rv h) (2*eps)/\0<=rv (Float64.mul h F6):=by
 have hp6:rv h*rv F6=6*rv h:=by rw [f6.2,Rat.mul_comm]
 obtain ⟨p1,p2⟩:=DD hh f6.1 (by rw [hp6];grind -abstractProof) (by rw [hp6];grind -abstractProof)
 rw [hp6] at p2
 have p0:0<=rv (Float64.mul h F6):=by
  by_cases hz:rv h=0
  ·have hf0:fv h=0:=by
    have:=cm h
    rw [hz,Rat.zero_mul] at this
    exact Rat.intCast_eq_zero_iff.mp this
   obtain ⟨a,m,e,hd⟩:=p1
   obtain ⟨b,n,f,hx⟩:=hh
   obtain ⟨b',n',f',hy⟩:=f6.1
   obtain ⟨q1,w,q2,q3,q4⟩:=dM (k:=0) (mul_right hx hy) (Nat.two_pow_pos _) (by
    rw [show (Float64.val h).natAbs=0 from by rw [show Float64.val h=0 from hf0];rfl,Nat.zero_mul]
    exact Nat.mul_pos (Nat.two_pow_pos _) (Nat.two_pow_pos _)) (by simp)
   have e0:(Float64.val h).natAbs=0:=by rw [show Float64.val h=0 from hf0];rfl
   have hw:=q4 0
   rw [e0,Nat.zero_mul,V_zero,Nat.mul_zero] at hw
   have hw0:w=0:=by
    have:Float64.dist 0 0=0:=rfl
    rw [this] at hw
    have h5:2 ^ 1074*w=0:=by unfold Float64.dist at hw;lia -abstractProof
    rcases Nat.mul_eq_zero.mp h5 with h6 | h6
    ·exact absurd h6 (by have:=Nat.two_pow_pos 1074;decide)
    ·exact h6
   have:fv (Float64.mul h F6)=0:=by
    show Float64.val _=0
    rw [q2,hw0];cases (b != b')<;>rfl
   unfold rv;simp only [this,Rat.intCast_zero,Rat.div_def,Rat.zero_mul];exact Rat.le_refl
  ·have hpos:0<fv h:=by
    have h1:=yu h0
    have h2:fv h≠0:=fun q=>hz (by unfold rv;simp only [q,Rat.intCast_zero,Rat.div_def,Rat.zero_mul])
    exact Std.lt_of_le_of_ne h1 (id (Ne.symm h2))
   obtain ⟨b,n,f,hx⟩:=hh
   have hy:decode F6=.fin false (3*2 ^ 51) (-50):=by kernel_rfl
   have hb:b=false:=by
    have hv:fv h=Float64.sgn b (n*2 ^ (f+1074).toNat):=val_eq hx
    rw [hv] at hpos
    cases b with
    | false=>rfl
    | true =>
      have:(0:Int) < -((n*2 ^ (f+1074).toNat:Nat):Int):=hpos
      generalize n*2 ^ (f+1074).toNat=z at *;lia -abstractProof
   subst hb
   have hbd:(fv h).natAbs*(fv F6).natAbs<2 ^ 1074*2 ^ (53+1025):=by
    have hq:((fv h*fv F6:Int):Rat)=rv h*rv F6*U*((2 ^ 1074:Nat):Rat):=by
     rw [Rat.intCast_mul,cm,cm]
     show _=rv h*rv F6*U*U
     grind -abstractProof
    have:=lV (e:=4) (Nat.two_pow_pos 1074) hq (by rw [tw4,hp6];grind -abstractProof) (by rw [tw4,hp6];grind -abstractProof)
    rw [Int.natAbs_mul] at this
    exact this
   obtain ⟨q1,w,q2,q3,q4⟩:=dM (k:=1025) (mul_right hx hy) (Nat.two_pow_pos _) hbd (by simp)
   have:fv (Float64.mul h F6)=(w:Int):=q2
   have hfv:=cm (Float64.mul h F6)
   rw [this] at hfv
   refine Rat.le_of_mul_le_mul_right (c:=U) ?_ iu
   rw [Rat.zero_mul,<-hfv]
   exact Rat.intCast_nonneg.mpr (Int.natCast_nonneg w)
 exact ⟨p1,p2,p0⟩
theorem ap1:Ap F1 1 0 1:=(Ap.exact sU (by rw [kX];rfl) (by rw [kX];rfl)).eq kX
theorem DA {A R q F:Rat} (h:A*q=R):A*(1 - q*F)=A - R*F:=by grind -abstractProof
theorem DB {A R q:Rat} (h:A*q=R):A*(1 - q)=A - R:=by grind -abstractProof
theorem Eh {A R F:Rat}:A - R*(1 - F)=A - R+R*F:=by grind -abstractProof
theorem Ei {A R:Rat}:A=A - R+R*1:=by grind -abstractProof
theorem Ef {A R:Rat}:A - R=A - R+R*0:=by grind -abstractProof
theorem Eg {A R F:Rat}:A - R*F=A - R+R*(1 - F):=by grind -abstractProof
theorem Lit.of {a:UInt64} {mn R X w r:Rat} {n b:Nat} (h:Ap a r n b) (e:r=mn+R*w) (k:n<=15) (t:Tn X w):Lit a mn R X (((15:Nat):Rat)*eps):=⟨h.fn,w,t,by rw [<-e];exact (h.mono k).nr⟩
theorem BY {v s h:UInt64} {A q R:Rat} (av:Ap v A 0 1) (as:Ap s q 1 1) (hR:A*q=R) (hh:Fn' h) (h0:0<=rv h) (h2:rv h<=2) :
 Float64.isFinite (Float64.mul h F6)=true/\(di h).natAbs<2 ^ 1023/\∃ P a0 a1 a2,Nr P (6*rv h) (2*eps)/\rB h s v=[a0,a1,a2]/\Lit a0 (A - R) R P (((15:Nat):Rat)*eps)/\Lit a1 (A - R) R (P - 2) (((15:Nat):Rat)*eps)/\Lit a2 (A - R) R (P - 4) (((15:Nat):Rat)*eps):=by
 obtain ⟨p1,p2,p0⟩:=Cz hh h0 h2
 obtain ⟨i1,i2,i3⟩:=oR p1 p0
 have i12:di h<=13:=by
  have he:=dk
  have:((di h:Int):Rat)<((14:Int):Rat):=by
   have e:((14:Int):Rat)=14:=rfl
   obtain ⟨_,p3⟩:=p2
   rw [e];unfold di;clear i2 i3 av as hR;grind -abstractProof
  have:=Rat.intCast_lt_intCast.mp this;exact Iff.mpr Int.le_iff_lt_add_one this
 have i0:0<=di h:=i3
 obtain ⟨o1,o2⟩:=gY (i:=di h) (by lia -abstractProof)
 have i1':((di h:Int):Rat)<=rv (Float64.mul h F6):=i1
 have i2':rv (Float64.mul h F6)<((di h:Int):Rat)+1:=i2
 obtain ⟨F,eF⟩:∃ F,rv (Float64.mul h F6)=((di h:Int):Rat)+F:=⟨rv (Float64.mul h F6) - ((di h:Int):Rat),by clear av as;grind -abstractProof⟩
 have F0:0<=F:=by clear av as p2 i2' i1 i2;grind -abstractProof
 have F1':F<=1:=by clear av as p2 i1' i1 i2;grind -abstractProof
 have af:Ap (fF h) F 1 1:=by
  have eq:rv (Float64.mul h F6) - rv (Float64.ofInt (di h))=F:=by rw [o2,eF];clear av as p2;grind -abstractProof
  obtain ⟨g1,g2⟩:=AC p1 o1 (by rw [eq];clear av as p2 i1 i2 i1' i2' eF eq;grind -abstractProof) (by rw [eq];clear av as p2 i1 i2 i1' i2' eF eq;exact Std.lt_of_le_of_lt F1' rfl)
  rw [eq] at g2
  have e1:((1:Nat):Rat)=1:=rfl
  exact ⟨g1,by rw [e1,Rat.one_mul];exact g2,Rat.le_trans (by rfl) F0,F1'⟩
 have D:∀ {x y z:Nat},x<=y->y<=z->x<=z:=Nat.le_trans
 have hq:=(av.mul (ap1.sub (as.mul af (by decide) (by simp) (by simp) (by simp) (by simp)) (by decide) (by simp) (by decide)) (by decide) (by simp) (by decide) (by simp) (by decide)).eq (DA hR)
 have ag:=(ap1.sub af (by simp) (by simp) (by simp)).bd (c:=1) (by clear av as p2 i1 i2 i1' i2' eF hq;rw [show ((1:Nat):Rat)=1 from rfl];grind -abstractProof) (by clear av as p2 i1 i2 i1' i2' eF hq;rw [show ((1:Nat):Rat)=1 from rfl];grind -abstractProof)
 have ht:=(av.mul (ap1.sub (as.mul ag (by decide) (by simp) (by simp) (by simp) (by decide)) (by decide) (by simp) (by decide)) (by decide) (by simp) (by decide) (by simp) (by decide)).eq (DA hR)
 have hp:=(av.mul (ap1.sub as (by simp) (by simp) (by simp)) (by decide) (by simp) (by simp) (by simp) (by decide)).eq (DB hR)
 have LV:=fun {X} (t:Tn X 1)=>Lit.of (R:=R) av Ei (by simp) t
 have LP:=fun {X} (t:Tn X 0)=>Lit.of (R:=R) hp Ef (by decide) t
 have LQ:=fun {X} (t:Tn X (1 - F))=>Lit.of hq Eg (by decide) t
 have LT:=fun {X} (t:Tn X F)=>Lit.of ht Eh (by decide) t
 have T:∀ (d n c:Int),di h=d+6*n+2*c->0<=d->d<6->Tn (rv (Float64.mul h F6) - 2*(c:Rat)) (cw d F):=fun d n c e d0 d1=>CN eF e d0 d1 F0 F1'
 clear av as af hq ag ht hp i1 i2 i1' i2' o1 o2 eF F0 F1'
 refine ⟨p1.fin,Nat.lt_of_le_of_lt (show (di h).natAbs<=13 by lia -abstractProof) (by simp),rv (Float64.mul h F6),?_⟩
 have hmod:(di h).fmod 6=di h % 6:=Int.fmod_eq_emod_of_nonneg _ (by simp)
 have hdm:=Int.mul_ediv_add_emod (di h) 6
 have hlo:=Int.emod_nonneg (di h) (b:=6) (by decide)
 have hhi:=Int.emod_lt_of_pos (di h) (b:=6) (by simp)
 have c0:∀ x:Rat,x - 2*((0:Int):Rat)=x:=fun x=>by simp only [Rat.intCast_zero];grind -abstractProof
 have c1:∀ x:Rat,x - 2*((1:Int):Rat)=x - 2:=fun x=>by rw [show ((1:Int):Rat)=1 from rfl];simp
 have c2:∀ x:Rat,x - 2*((2:Int):Rat)=x - 4:=fun x=>by rw [show ((2:Int):Rat)=2 from rfl];grind -abstractProof
 unfold rB
 rw [hmod]
 generalize di h % 6=d at *
 generalize di h / 6=n at *
 have S:∀ (d' n' c:Int),n'=n - (d'+2*c - d) / 6->(d'+2*c - d) % 6=0->di h=d'+6*n'+2*c:=fun d' n' c e1 e2=>by clear T i12 i0 hlo hhi;grind -abstractProof
 have T0:=fun d' n' e a b=>c0 _▸T d' n' 0 e a b
 have T1:=fun d' n' e a b=>c1 _▸T d' n' 1 e a b
 have T2:=fun d' n' e a b=>c2 _▸T d' n' 2 e a b
 have:d=0\/d=1\/d=2\/d=3\/d=4\/d=5:=by clear T T0 T1 T2 S hdm i12 i0;lia -abstractProof
 clear T hdm hlo hhi i12 i0 hmod
 rcases this with rfl | rfl | rfl | rfl | rfl | rfl
 ·exact ⟨_,_,_,p2,rfl,LV (T0 0 _ (S 0 _ 0 rfl rfl) (by simp) (by simp)),LT (T1 4 _ (S 4 _ 1 rfl rfl) (by simp) (by simp)),LP (T2 2 _ (S 2 _ 2 rfl rfl) (by simp) (by simp))⟩
 ·exact ⟨_,_,_,p2,rfl,LQ (T0 1 _ (S 1 _ 0 rfl rfl) (by simp) (by simp)),LV (T1 5 _ (S 5 _ 1 rfl rfl) (by simp) (by simp)),LP (T2 3 _ (S 3 _ 2 rfl rfl) (by simp) (by simp))⟩
 ·exact ⟨_,_,_,p2,rfl,LP (T0 2 _ (S 2 _ 0 rfl rfl) (by simp) (by simp)),LV (T1 0 _ (S 0 _ 1 rfl rfl) (by simp) (by simp)),LT (T2 4 _ (S 4 _ 2 rfl rfl) (by simp) (by simp))⟩
 ·exact ⟨_,_,_,p2,rfl,LP (T0 3 _ (S 3 _ 0 rfl rfl) (by simp) (by simp)),LQ (T1 1 _ (S 1 _ 1 rfl rfl) (by simp) (by simp)),LV (T2 5 _ (S 5 _ 2 rfl rfl) (by simp) (by simp))⟩
 ·exact ⟨_,_,_,p2,rfl,LT (T0 4 _ (S 4 _ 0 rfl rfl) (by simp) (by simp)),LP (T1 2 _ (S 2 _ 1 rfl rfl) (by simp) (by simp)),LV (T2 0 _ (S 0 _ 2 rfl rfl) (by simp) (by simp))⟩
 ·exact ⟨_,_,_,p2,rfl,LV (T0 5 _ (S 5 _ 0 rfl rfl) (by simp) (by simp)),LP (T1 3 _ (S 3 _ 1 rfl rfl) (by simp) (by simp)),LQ (T2 1 _ (S 1 _ 2 rfl rfl) (by simp) (by simp))⟩
end
section
open PySem PySem.Float64
set_option exponentiation.threshold 3000
theorem lS {x:UInt64} {m:Nat} {e:Int} {n:Int} {d:Nat} (hd:0<d) (h:decode x=.fin false m e) (hv:fv x*(d:Int)=n*(UN:Int)):Fn' x/\rv x*(d:Rat)=(n:Rat):=by
 refine ⟨qG h,?_⟩
 rw [uQ hd hv]
 exact Rat.div_mul_cancel (by have:(0:Rat)<(d:Rat):=Rat.natCast_pos.mpr hd;exact Ne.symm (Rat.ne_of_lt this))
theorem f16:Fn' F16/\Nr (6*rv F16) 1 eps:=by
 obtain ⟨h,e⟩:=lS (x:=F16) (n:=6004799503160661) (d:=36028797018963968) (by simp) (by kernel_rfl:decode F16=.fin false 6004799503160661 (-55)) (by decide +kernel)
 have e1:((36028797018963968:Nat):Rat)=36028797018963968:=rfl
 have e2:((6004799503160661:Int):Rat)=6004799503160661:=rfl
 rw [e1,e2] at e
 have:=dk
 exact ⟨h,by unfold Nr;grind -abstractProof⟩
theorem f23:Fn' F23/\Nr (6*rv F23) 4 eps:=by
 obtain ⟨h,e⟩:=lS (x:=F23) (n:=6004799503160661) (d:=9007199254740992) (by simp) (by kernel_rfl:decode F23=.fin false 6004799503160661 (-53)) (by decide +kernel)
 have e1:((9007199254740992:Nat):Rat)=9007199254740992:=rfl
 have e2:((6004799503160661:Int):Rat)=6004799503160661:=rfl
 rw [e1,e2] at e
 have:=dk
 exact ⟨h,by unfold Nr;grind -abstractProof⟩
theorem f13:Fn' F13/\Nr (6*rv F13) 2 eps:=by
 obtain ⟨h,e⟩:=lS (x:=F13) (n:=6004799503160661) (d:=18014398509481984) (by simp) (by kernel_rfl:decode F13=.fin false 6004799503160661 (-54)) (by decide +kernel)
 have e1:((18014398509481984:Nat):Rat)=18014398509481984:=rfl
 have e2:((6004799503160661:Int):Rat)=6004799503160661:=rfl
 rw [e1,e2] at e
 have:=dk
 exact ⟨h,by unfold Nr;grind -abstractProof⟩
theorem fh:Fn' Fh/\2*rv Fh=1:=by
 obtain ⟨h,e⟩:=lS (x:=Fh) (n:=1) (d:=2) (by simp) (by kernel_rfl:decode Fh=.fin false (2 ^ 52) (-53)) (by decide +kernel)
 have e1:((2:Nat):Rat)=2:=rfl
 have e2:((1:Int):Rat)=1:=rfl
 rw [e1,e2] at e
 exact ⟨h,by grind -abstractProof⟩
theorem oS {x y:UInt64} (hx:Fn' x) (hy:Fn' y):ly x y=decide (rv x<rv y):=by
 rw [kI hx hy,decide_eq_decide]
 have hU:=iu
 have h1:=cm x
 have h2:=cm y
 rw [<-Rat.intCast_lt_intCast,h1,h2]
 exact ⟨fun h=>Rat.lt_of_mul_lt_mul_right h (Rat.le_of_lt hU),fun h=>Rat.mul_lt_mul_of_pos_right h hU⟩
theorem BR {x y:UInt64} (hx:Fn' x) (hy:Fn' y):fle x y=decide (rv x<=rv y):=by
 have h:fle x y=decide (fv x<=fv y):=by
  unfold fle
  rw [sA hx hy]
  rcases Int.lt_trichotomy (fv x) (fv y) with h | h | h
  ·rw [Int.compare_eq_lt.mpr h,decide_eq_true (by exact Int.le_of_lt h)];rfl
  ·rw [h];simp
  ·rw [Int.compare_eq_gt.mpr h,decide_eq_false (by exact Iff.mpr Int.not_le h)];rfl
 have hU:=iu
 have h1:=cm x
 have h2:=cm y
 rw [h,decide_eq_decide,<-Rat.intCast_le_intCast,h1,h2]
 exact ⟨fun h=>Rat.le_of_mul_le_mul_right h hU,fun h=>Rat.mul_le_mul_of_nonneg_right h (Rat.le_of_lt hU)⟩
theorem ap6:Ap F6 6 0 6:=(Ap.exact f6.1 (by rw [f6.2];rfl) (by rw [f6.2];rfl)).eq f6.2
theorem DZ:∃ c:Rat,c*3=2/\Ap F23 c 1 1:=by
 have he:=dk
 obtain ⟨n1,n2⟩:=f23.2
 have e:(2 / 3:Rat)*3=2:=Rat.div_mul_cancel (by decide)
 generalize (2 / 3:Rat)=c at e
 have e1:((1:Nat):Rat)=1:=rfl
 exact ⟨c,e,f23.1,by rw [e1,Rat.one_mul];exact ⟨by clear n2;grind -abstractProof,by clear n1;grind -abstractProof⟩,by rw [e1];clear n1 n2;grind -abstractProof,by rw [e1];clear n1 n2;grind -abstractProof⟩
theorem Db {x:UInt64} {r:Rat} {b:Nat} (hx:Fn' x) (e:rv x=r) (lo:-(b:Rat)<=r) (hi:r<=(b:Rat)):Ap x r 0 b:=e▸Ap.exact hx (by rw [e];exact lo) (by rw [e];exact hi)
theorem Lit.end {z:UInt64} {mn R X Z u w:Rat} {n b:Nat} (A:Ap z (mn+R*u) n b) (k:n<=200) (r0:0<=R) (r1:R<=1) (hw:Tn X w) (h1:Nr u (tb Z) (8*eps)) (h2:Nr (tb Z) w (46*eps)):Lit z mn R X (1000*eps):=by
 have he:=eT
 have h3:=qX r0 r1 (d:=54*eps) (by clear A h1 h2 k r0 r1;grind -abstractProof) ((h1.trans h2).mono (by clear A h1 h2 k r0 r1;grind -abstractProof))
 have h4:=(A.mono k).nr
 have e:((200:Nat):Rat)=200:=rfl
 rw [e] at h4
 refine ⟨A.fn,w,hw,?_⟩
 obtain ⟨a1,a2⟩:=h3
 obtain ⟨b1,b2⟩:=h4
 clear A h1 h2 k r0 r1
 exact ⟨by clear a2 b2;grind -abstractProof,by clear a1 b1;grind -abstractProof⟩
theorem DP {z e:Rat} (h0:0<=z) (he:0<=e) (h:6*z<=1+e):Nr (6*z) (tb (6*z - 2)) (8*e):=by delta Nr tb;grind -abstractProof
theorem CL {z e:Rat} (he:0<=e) (e1:8*e<=1) (h:1 - e<=6*z) (h2:6*z<=3):Nr 1 (tb (6*z - 2)) (8*e):=by delta Nr tb;grind -abstractProof
theorem AG {z e:Rat} (he:0<=e) (h:3<=6*z) (h2:6*z<=4+e):Nr (4 - 6*z) (tb (6*z - 2)) (8*e):=by delta Nr tb;grind -abstractProof
theorem DO {z e:Rat} (he:0<=e) (e1:8*e<=1) (h:4 - e<=6*z):Nr 0 (tb (6*z - 2)) (8*e):=by delta Nr tb;grind -abstractProof
theorem ve1 {mn R z:Rat}:mn+R*z*6=mn+R*(6*z):=by grind -abstractProof
theorem ve2 {mn R:Rat}:mn+R=mn+R*1:=by simp
theorem ve3 {mn R z c:Rat} (h:c*3=2):mn+R*(c - z)*6=mn+R*(4 - 6*z):=by grind -abstractProof
theorem ve4 {mn R:Rat}:mn=mn+R*0:=by grind -abstractProof
theorem Es {m1 m2 y:UInt64} {mn R X:Rat} (am:Ap m1 mn 13 1) (an:Ap m2 (mn+R) 8 1) (hy:Fn' y) (r0:0<=R) (r1:R<=1) (hX:Nr (6*rv y) (X+2) (40*eps)):Lit (vF m1 m2 y) mn R X (1000*eps):=by
 have he:=dk
 obtain ⟨q1,⟨n,q2⟩,q3,q4,_⟩:=uA hy
 have hlt:tw 0 / tw 53<=eps:=by rw [gB];decide +kernel
 have e1:((1:Nat):Rat)=1:=rfl
 obtain ⟨w,hw⟩:=Tn.ex X
 have hwn:Nr (tb (6*rv (dh y) - 2)) w (46*eps):=by
  have hZ:Tn (6*rv (dh y) - 2) (tb (6*rv (dh y) - 2)):=⟨0,6*rv (dh y) - 2,by rw [show ((0:Int):Rat)=0 from rfl];clear am an hX q2 q3 q4;exact ve4,by clear am an hX q2 q4;grind -abstractProof,by clear am an hX q2 q3;grind -abstractProof,rfl⟩
  refine Tn.near hZ (hw.shift (-n)) (by clear am an hX q2 q3 q4;grind -abstractProof) ?_
  simp only [Rat.intCast_neg]
  obtain ⟨x1,x2⟩:=hX
  obtain ⟨y1,y2⟩:=q2
  generalize tw 0 / tw 53=d0 at *
  clear am an hw hZ q3 q4
  exact ⟨by clear x2 y2;grind -abstractProof,by clear x1 y1;grind -abstractProof⟩
 clear q2 hX hlt
 have ad:=((an.sub am (by simp) (by simp) (by simp)).eq (show mn+R - mn=R by clear am an hw hwn;grind -abstractProof)).bd (c:=1) (by rw [e1];clear am an hw hwn;grind -abstractProof) (by rw [e1];exact r1)
 obtain ⟨g1,g2⟩:=f16.2
 have bh:=fh.2
 obtain ⟨k1,k2⟩:=f23.2
 unfold vF
 rw [oS q1 f16.1,oS q1 fh.1,oS q1 f23.1]
 have az:Ap (dh y) (rv (dh y)) 0 1:=Ap.exact q1 (by rw [e1];clear am an ad hw hwn;grind -abstractProof) (by rw [e1];exact q4)
 generalize dh y=z at *
 have e0:0<=eps:=Rat.le_of_lt eT
 have e8:8*eps<=1:=by clear am an ad az hw hwn;grind -abstractProof
 by_cases c1:rv z<rv F16
 ·rw [decide_eq_true c1,cond_true]
  exact Lit.end ((am.add ((ad.mul az (by decide) (by simp) (by simp) (by simp) (by simp)).mul ap6 (by decide) (by decide) (by simp) (by decide) (by simp)) (by decide) (by simp) (by decide)).eq ve1) (by decide) r0 r1 hw (DP q3 e0 (by clear am an ad az hw hwn g1 k1 k2 bh;grind -abstractProof)) hwn
 ·rw [decide_eq_false c1,cond_false]
  by_cases c2:rv z<rv Fh
  ·rw [decide_eq_true c2,cond_true]
   exact Lit.end (an.eq ve2) (by simp) r0 r1 hw (CL e0 e8 (by clear am an ad az hw hwn g2 k1 k2 bh c2;grind -abstractProof) (by clear am an ad az hw hwn g1 g2 k1 k2 c1;grind -abstractProof)) hwn
  ·rw [decide_eq_false c2,cond_false]
   by_cases c3:rv z<rv F23
   ·rw [decide_eq_true c3,cond_true]
    obtain ⟨c,ec,ac⟩:=DZ
    have ay:=(ac.sub az (by simp) (by simp) (by simp)).bd (c:=1) (by rw [e1];clear am an ad az ac hw hwn g1 g2 k1 k2 c1 c2 c3;grind -abstractProof) (by rw [e1];clear am an ad az ac hw hwn g1 g2 k1 k2 c1 c2 c3;grind -abstractProof)
    exact Lit.end ((am.add ((ad.mul ay (by decide) (by simp) (by simp) (by simp) (by simp)).mul ap6 (by decide) (by decide) (by simp) (by decide) (by simp)) (by decide) (by simp) (by decide)).eq (ve3 ec)) (by decide) r0 r1 hw (AG e0 (by clear am an ad az ac ay hw hwn g1 g2 k1 k2 c1 c3;grind -abstractProof) (by clear am an ad az ac ay hw hwn g1 g2 k1 c1 c2;grind -abstractProof)) hwn
   ·rw [decide_eq_false c3,cond_false]
    exact Lit.end (am.eq ve4) (by simp) r0 r1 hw (DO e0 e8 (by clear am an ad az hw hwn g1 g2 k2 c1 c2;grind -abstractProof)) hwn
theorem z0:Fn' 0/\rv 0=0:=⟨qG (by kernel_rfl:decode 0=.fin false 0 (-1074)),by unfold rv;simp only [show fv 0=0 from by decide +kernel,Rat.intCast_zero,Rat.div_def,Rat.zero_mul]⟩
theorem ti {s:UInt64} {q:Rat} (a:Ap s q 1 1) (h:1<=1048576*q):feq s 0=false:=by
 have he:=dk
 rw [sN a.fn z0.1]
 refine decide_eq_false fun hf=>?_
 have:rv s=0:=by unfold rv;rw [hf];exact z0.2
 obtain ⟨n1,n2⟩:=a.nr
 have e1:((1:Nat):Rat)=1:=rfl
 rw [e1] at n1
 clear a n2 hf;grind -abstractProof
theorem me1 {A B L q:Rat} (h1:L*2=A+B) (h2:q*(A+B)=A - B):L*(1+q)=A:=by grind -abstractProof
theorem me2 {A B L q:Rat} (h1:L*2=A+B) (h2:q*(2 - A - B)=A - B):L+q - L*q=A:=by grind -abstractProof
theorem me3 {A B L:Rat} (h1:L*2=A+B):2*L - A=B:=by grind -abstractProof
theorem Bd {mx mn rg:UInt64} {M m:Int} (hM:Gd mx M) (hm:Gd mn m) (m0:0<=m) (hne:m<M) (M1:M<=524288) {l s:UInt64} (hl:l=Float64.div (Float64.add mx mn) F2) (hrg:rg=Float64.sub mx mn)
 (hs:s=bif fle l Fh then Float64.div rg (Float64.add mx mn) else Float64.div rg (Float64.sub (Float64.sub F2 mx) mn)) {A B:Rat} (kA:A*524288=(M:Rat)) (kB:B*524288=(m:Rat)) :
 Float64.isZero (Float64.add mx mn)=false/\Float64.isZero (Float64.sub (Float64.sub F2 mx) mn)=false/\feq s 0=false/\Ap (m1F l s) B 13 1/\Ap (m2F l s) A 8 1:=by
 have hS:=hM.add hm (by omega)
 have h2:Gd F2 1048576:=⟨f2.1,by decide +kernel⟩
 have hT:=(h2.sub hM (by omega)).sub hm (by omega)
 have hR:Gd rg (M - m):=by rw [hrg];exact hM.sub hm (by omega)
 have wS:=hS.rv
 have wT:=hT.rv
 have wR:=hR.rv
 simp only [Rat.intCast_add,Rat.intCast_sub] at wS wT wR
 rw [show ((1048576:Int):Rat)=1048576 from rfl] at wT
 have q0:(0:Rat)<=(m:Rat):=Rat.intCast_nonneg.mpr m0
 have q1:(m:Rat)+1<=(M:Rat):=by
  have:=Rat.intCast_le_intCast.mpr (show m+1<=M by assumption)
  rw [Rat.intCast_add] at this;exact this
 have q2:(M:Rat)<=524288:=Rat.intCast_le_intCast.mpr M1
 refine ⟨by rw [hS.zero];exact decide_eq_false (by lia -abstractProof),by rw [hT.zero];exact decide_eq_false (by lia -abstractProof),?_⟩
 rw [<-kA,<-kB] at wS wT wR q1
 rw [<-kA] at q2
 rw [<-kB] at q0
 clear kA kB hrg
 replace wS:rv (Float64.add mx mn)=A+B:=by rw [wS];clear wT wR q0 q1 q2 hS hT hR h2 hM hm;grind -abstractProof
 replace wT:rv (Float64.sub (Float64.sub F2 mx) mn)=2 - A - B:=by rw [wT];clear wS wR q0 q1 q2 hS hT hR h2 hM hm;grind -abstractProof
 replace wR:rv rg=A - B:=by rw [wR];clear wS wT q0 q1 q2 hS hT hR h2 hM hm;grind -abstractProof
 clear h2 hM hm
 have lo:1<=524288*(A - B):=by clear wS wT wR q0 q2 hS hT hR;grind -abstractProof
 have a1:A<=1:=by clear wS wT wR q0 q1 hS hT hR lo;grind -abstractProof
 have b0:0<=B:=by clear wS wT wR q1 q2 hS hT hR lo;grind -abstractProof
 clear q0 q1 q2
 have e1:((1:Nat):Rat)=1:=rfl
 obtain ⟨L,hL⟩:∃ L:Rat,L*2=A+B:=⟨(A+B) / 2,Rat.div_mul_cancel (by decide)⟩
 have al:Ap l L 1 1:=by
  rw [hl]
  exact Ap.div hS.1 f2.1 (by rw [f2.2];decide) (by rw [f2.2,wS,hL]) (by rw [e1];clear hs hl wS wT wR hS hT hR;grind -abstractProof) (by rw [e1];clear hs hl wS wT wR hS hT hR;grind -abstractProof) (by simp)
 have bl:fle l Fh=decide (rv l<=rv Fh):=BR al.fn fh.1
 have a2l:=ap2.mul al (by decide) (by simp) (by simp) (by simp) (by simp)
 have fine:∀ m2:UInt64,∀ b:Nat,Ap m2 A 8 b->b<=3->Ap (Float64.sub (Float64.mul F2 l) m2) B 13 1/\Ap m2 A 8 1:=fun m2 b g kb=>by
  have g':=g.bd (c:=1) (by rw [e1];clear hs hl wS wT wR hS hT hR al g a2l;grind -abstractProof) (by rw [e1];exact a1)
  exact ⟨((a2l.sub g' (by decide) (by decide) (by simp)).eq (me3 hL)).bd (by rw [e1];clear hs hl wS wT wR hS hT hR al g g' a2l;grind -abstractProof) (by rw [e1];clear hs hl wS wT wR hS hT hR al g g' a2l;grind -abstractProof),g'⟩
 have big:∀ q x:Rat,0<=q->x<=2->q*x=A - B->1<=1048576*q:=fun q x h0 h1 h2=>by
  have:=Rat.mul_le_mul_of_nonneg_left h1 h0
  clear hs hl wS wT wR hS hT hR al a2l;grind -abstractProof
 delta m1F m2F
 by_cases hc:rv l<=rv Fh
 ·rw [bl,decide_eq_true hc,cond_true] at hs
  rw [bl,decide_eq_true hc,cond_true]
  obtain ⟨b1,b2⟩:=Rat.div_bd (a:=A - B) (b:=A+B) (by clear hs hl wS wT wR hS hT hR al a2l;grind -abstractProof) (by clear hs hl wS wT wR hS hT hR al a2l;grind -abstractProof) (by clear hs hl wS wT wR hS hT hR al a2l;grind -abstractProof)
  have hq:(A - B) / (A+B)*(A+B)=A - B:=Rat.div_mul_cancel (by clear hs hl wS wT wR hS hT hR al a2l;grind -abstractProof)
  generalize (A - B) / (A+B)=q at *
  have as:Ap s q 1 1:=by
   rw [hs]
   exact Ap.div hR.1 hS.1 (by rw [wS];clear hs hl wS wT wR hS hT hR al a2l;grind -abstractProof) (by rw [wS,wR];exact hq) (Rat.le_trans (by rfl) b1) b2 (by simp)
  exact ⟨ti as (big q (A+B) b1 (by clear hs hl wS wT wR hS hT hR al a2l as hq;grind -abstractProof) hq),fine _ _ (((al.mul (ap1.add as (by simp) (by simp) (by simp)) (by decide) (by simp) (by simp) (by simp) (by decide)).eq (me1 hL hq)).mono (by decide)) (by decide)⟩
 ·rw [bl,decide_eq_false hc,cond_false] at hs
  rw [bl,decide_eq_false hc,cond_false]
  obtain ⟨b1,b2⟩:=Rat.div_bd (a:=A - B) (b:=2 - A - B) (by clear hs hl wS wT wR hS hT hR al a2l;grind -abstractProof) (by clear hs hl wS wT wR hS hT hR al a2l;grind -abstractProof) (by clear hs hl wS wT wR hS hT hR al a2l;grind -abstractProof)
  have hq:(A - B) / (2 - A - B)*(2 - A - B)=A - B:=Rat.div_mul_cancel (by clear hs hl wS wT wR hS hT hR al a2l;grind -abstractProof)
  generalize (A - B) / (2 - A - B)=q at *
  have as:Ap s q 1 1:=by
   rw [hs]
   exact Ap.div hR.1 hT.1 (by rw [wT];clear hs hl wS wT wR hS hT hR al a2l;grind -abstractProof) (by rw [wT,wR];exact hq) (Rat.le_trans (by decide +kernel) b1) b2 (by simp)
  exact ⟨ti as (big q (2 - A - B) b1 (by clear hs hl wS wT wR hS hT hR al a2l as hq;grind -abstractProof) hq),fine _ _ (((al.add as (by simp) (by simp) (by simp)).sub (al.mul as (by decide) (by simp) (by simp) (by simp) (by simp)) (by decide) (by simp) (by decide)).eq (me2 hL hq)) (by decide)⟩
end
section
open PySem PySem.Float64
set_option exponentiation.threshold 3000
theorem Lit.move {a:UInt64} {mn R X Y d e:Rat} (h:Lit a mn R X d) (r0:0<=R) (r1:R<=1) (e0:0<=e) (e1:e<=1) (hn:Nr X Y e):Lit a mn R Y (d+e):=by
 obtain ⟨h1,w,h2,h3⟩:=h
 obtain ⟨w',hw'⟩:=Tn.ex Y
 have:=qX r0 r1 e0 (Tn.near h2 hw' e1 hn)
 exact ⟨h1,w',hw',by unfold Nr at *;grind -abstractProof⟩
theorem Lit.part {a:UInt64} {mn R X d:Rat} {x m M:Int} (h:Lit a mn R X d) (hx:∃ w,Tn X w/\(x:Rat)=(m:Rat)+((M:Rat) - (m:Rat))*w) (e1:mn*524288=(m:Rat)) (e2:R*524288=(M:Rat) - (m:Rat)):Fn' a/\Nr (524288*rv a) (x:Rat) (524288*d):=by
 obtain ⟨h1,w,h2,h3⟩:=h
 obtain ⟨w',h4,h5⟩:=hx
 have:=h2.uniq h4
 subst this
 exact ⟨h1,by rw [h5,<-e2];unfold Nr at *;grind -abstractProof⟩
theorem Lit.mono {a:UInt64} {mn R X d e:Rat} (h:Lit a mn R X d) (k:d<=e):Lit a mn R X e:=⟨h.1,let ⟨w,h1,h2⟩:=h.2;⟨w,h1,h2.mono k⟩⟩
theorem sH {M m:Int} (m0:0<=m) (hne:m<M) (M1:M<=524288):∃ A B:Rat,A*524288=(M:Rat)/\B*524288=(m:Rat)/\0<=B/\A<=1/\1<=524288*(A - B):=by
 have q0:(0:Rat)<=(m:Rat):=Rat.intCast_nonneg.mpr m0
 have q1:(m:Rat)+1<=(M:Rat):=by
  have:=Rat.intCast_le_intCast.mpr (show m+1<=M by assumption)
  rw [Rat.intCast_add] at this;exact this
 have q2:(M:Rat)<=524288:=Rat.intCast_le_intCast.mpr M1
 have kA:(M:Rat) / 524288*524288=(M:Rat):=Rat.div_mul_cancel (by decide)
 have kB:(m:Rat) / 524288*524288=(m:Rat):=Rat.div_mul_cancel (by decide)
 generalize (M:Rat) / 524288=A at *
 generalize (m:Rat) / 524288=B at *
 exact ⟨A,B,kA,kB,by clear q1 q2 kA;grind -abstractProof,by clear q0 q1 kB;grind -abstractProof,by clear q0 q2;grind -abstractProof⟩
theorem uR {x:UInt64} {i:Int} {A:Rat} (h:Gd x i) (k:A*524288=(i:Rat)):rv x=A:=by
 rw [h.rv,<-k];exact Rat.mul_div_cancel (by decide)
theorem o4 {r g b:UInt64} {M m:Int} (hM:Gd (mxF r g b) M) (hm:Gd (mnF r g b) m) (m0:0<=m) (hne:m<M) (M1:M<=524288):Gd (rgF r g b) (M - m)/\feq (mnF r g b) (mxF r g b)=false/\Float64.isZero (mxF r g b)=false/\Float64.isZero (rgF r g b)=false:=by
 have hR:Gd (rgF r g b) (M - m):=hM.sub hm (by omega)
 exact ⟨hR,by rw [hm.feq hM];exact decide_eq_false (by exact Int.ne_of_lt hne),by rw [hM.zero];exact decide_eq_false (by lia -abstractProof),by rw [hR.zero];exact decide_eq_false (by lia -abstractProof)⟩
theorem m7 {a b c:Rat}:(a - b)*c=a*c - b*c:=by grind -abstractProof
theorem A3 {X Y e:Rat} (c:Rat) (h:Nr X Y e):Nr (X - c) (Y - c) e:=by obtain ⟨h1,h2⟩:=h;exact ⟨by grind -abstractProof,by grind -abstractProof⟩
theorem yJ {r g b h:UInt64} {M m:Int} {Y:Rat} (hM:Gd (mxF r g b) M) (hm:Gd (mnF r g b) m) (m0:0<=m) (hne:m<M) (M1:M<=524288) (hh:Fn' h) (h0:0<=rv h) (h2:rv h<=2) (hY:Nr (6*rv h) Y (40*eps)) :
 ∃ a0 a1 a2 mn R,mn*524288=(m:Rat)/\R*524288=(M:Rat) - (m:Rat)/\tP r g b h a0 a1 a2/\Lit a0 mn R Y (2000*eps)/\Lit a1 mn R (Y - 2) (2000*eps)/\Lit a2 mn R (Y - 4) (2000*eps):=by
 have he:=dk
 obtain ⟨hR,ne,zm,zr⟩:=o4 hM hm m0 hne M1
 obtain ⟨A,B,kA,kB,b0,a1,lo⟩:=sH m0 hne M1
 have vM:=uR hM kA
 have vR:rv (rgF r g b)=A - B:=uR hR (by rw [Rat.intCast_sub,<-kA,<-kB];exact m7)
 have e1:((1:Nat):Rat)=1:=rfl
 have A0:0<A:=by clear vM vR hM hm hR kA kB hY;grind -abstractProof
 have av:Ap (mxF r g b) A 0 1:=Db hM.1 vM (Rat.le_trans (by decide +kernel) (Rat.le_of_lt A0)) a1
 obtain ⟨q0,q1⟩:=Rat.div_bd (a:=A - B) A0 (by clear vM vR hM hm hR kA kB hY av;grind -abstractProof) (by clear vM vR hM hm hR kA kB hY av;grind -abstractProof)
 have hq:(A - B) / A*A=A - B:=Rat.div_mul_cancel (by clear vM vR hM hm hR kA kB hY av;grind -abstractProof)
 generalize (A - B) / A=q at *
 have as:Ap (Float64.div (rgF r g b) (mxF r g b)) q 1 1:=Ap.div hR.1 hM.1 (by rw [vM];clear vM vR hM hm hR kA kB hY av;grind -abstractProof) (by rw [vM,vR];exact hq) (Rat.le_trans (by decide +kernel) q0) q1 (by decide)
 obtain ⟨f1,f2,P,x0,x1,x2,g1,g2,g3,g4,g5⟩:=BY av as (R:=A - B) (by rw [Rat.mul_comm];exact hq) hh h0 h2
 have hPY:=(g1.trans hY).mono (show 2*eps+40*eps<=50*eps by clear g1 hY g3 g4 g5 av as;grind -abstractProof)
 have r0:0<=A - B:=by clear vM vR hM hm hR kA kB hY av as g1 g3 g4 g5 hPY;grind -abstractProof
 have r1:A - B<=1:=by clear vM vR hM hm hR kA kB hY av as g1 g3 g4 g5 hPY;grind -abstractProof
 have eB:A - (A - B)=B:=by clear vM vR hM hm hR kA kB hY av as g1 g3 g4 g5 hPY hq;grind -abstractProof
 rw [eB] at g3 g4 g5
 have e15:((15:Nat):Rat)=15:=rfl
 have k1:0<=50*eps:=by clear vM vR hM hm hR kA kB hY av as g1 g3 g4 g5 hPY hq;grind -abstractProof
 have k2:50*eps<=1:=by clear vM vR hM hm hR kA kB hY av as g1 g3 g4 g5 hPY hq;grind -abstractProof
 have k3:((15:Nat):Rat)*eps+50*eps<=2000*eps:=by rw [e15];clear vM vR hM hm hR kA kB hY av as g1 g3 g4 g5 hPY hq;grind -abstractProof
 refine ⟨x0,x1,x2,B,A - B,kB,by rw [<-kA,<-kB];exact m7,⟨ne,zm,zr,ti as ?_,f1,f2,g2⟩,(g3.move r0 r1 k1 k2 hPY).mono k3,(g4.move r0 r1 k1 k2 (A3 2 hPY)).mono k3,(g5.move r0 r1 k1 k2 (A3 4 hPY)).mono k3⟩
 have:=Rat.mul_le_mul_of_nonneg_left a1 q0
 clear vM vR hM hm hR kA kB hY av as g1 g3 g4 g5 hPY
 grind -abstractProof
theorem CB {h:UInt64} {Y:Rat} (hh:Fn' h) (h0:-1<=rv h) (h2:rv h<=1) (hY:Nr (6*rv h) Y (30*eps)):Fn' (Float64.add h F13)/\Nr (6*rv (Float64.add h F13)) (Y+2) (40*eps)/\Fn' (Float64.sub h F13)/\Nr (6*rv (Float64.sub h F13)) (Y - 2) (40*eps):=by
 have he:=dk
 obtain ⟨g,b1,b2⟩:=f13
 obtain ⟨y1,y2⟩:=hY
 obtain ⟨u1,u2,u3⟩:=Bs hh g (by clear y1 y2;grind -abstractProof) (by clear y1 y2;grind -abstractProof)
 obtain ⟨w1,w2,w3⟩:=AC hh g (by clear y1 y2 u2 u3;grind -abstractProof) (by clear y1 y2 u2 u3;grind -abstractProof)
 exact ⟨u1,⟨by clear u3 w2 w3 y2 b2;grind -abstractProof,by clear u2 w2 w3 y1 b1;grind -abstractProof⟩,w1,⟨by clear u2 u3 w3 y2 b1;grind -abstractProof,by clear u2 u3 w2 y1 b2;grind -abstractProof⟩⟩
theorem yK {r g b h:UInt64} {M m:Int} {Y:Rat} (hM:Gd (mxF r g b) M) (hm:Gd (mnF r g b) m) (m0:0<=m) (hne:m<M) (M1:M<=524288) (hh:Fn' h) (h0:-1<=rv h) (h2:rv h<=1) (hY:Nr (6*rv h) Y (30*eps)) :
 ∃ a0 a1 a2 mn R,mn*524288=(m:Rat)/\R*524288=(M:Rat) - (m:Rat)/\tQ r g b h a0 a1 a2/\Lit a0 mn R Y (2000*eps)/\Lit a1 mn R (Y - 2) (2000*eps)/\Lit a2 mn R (Y - 4) (2000*eps):=by
 have he:=eT
 obtain ⟨hR,ne,_,zr⟩:=o4 hM hm m0 hne M1
 obtain ⟨A,B,kA,kB,b0,a1,lo⟩:=sH m0 hne M1
 obtain ⟨c1,c2,c3,am,an⟩:=Bd hM hm m0 hne M1 (l:=de r g b) (s:=jz r g b) (rg:=rgF r g b) rfl rfl rfl kA kB
 obtain ⟨u1,u2,w1,w2⟩:=CB hh h0 h2 hY
 have eA:B+(A - B)=A:=by clear hY kA kB am an u2 w2;grind -abstractProof
 rw [<-eA] at an
 have r0:0<=A - B:=by clear hY kA kB am an u2 w2;grind -abstractProof
 have r1:A - B<=1:=by clear hY kA kB am an u2 w2;grind -abstractProof
 have k:1000*eps<=2000*eps:=by clear hY kA kB am an u2 w2;grind -abstractProof
 have k4:30*eps<=40*eps:=by clear hY kA kB am an u2 w2;grind -abstractProof
 have V:=fun {y X} (g1:Fn' y) (g2:Nr (6*rv y) (X+2) (40*eps))=>(Es am an g1 r0 r1 g2).mono k
 have y1:Y=Y - 2+2:=by clear hY kA kB am an u2 w2 V;exact Eq.symm Rat.sub_add_cancel
 have y2:Y - 2=Y - 4+2:=by clear hY kA kB am an u2 w2 V;grind -abstractProof
 exact ⟨_,_,_,B,A - B,kB,by rw [<-kA,<-kB];exact m7,⟨ne,fun _=>c1,fun _=>c2,zr,c3,rfl⟩,V u1 u2,V hh (by rw [<-y1];exact hY.mono k4),V w1 (by rw [<-y2];exact w2)⟩
theorem wx:tw 21=2097152:=by rfl
theorem yO:tw 21 / tw 53=262144*eps:=by rw [gB];decide +kernel
theorem uw {a:UInt64} {p s n:Nat} (ha:Fn' a) (hs:s*n=524288) (hp:p<=n) (h:Nr (524288*rv a) (((p*s:Nat):Int):Rat) (524288*(2000*eps))):Float64.isFinite (fB ((2*n:Nat):Int) a)=true/\iF ((2*n:Nat):Int) a=(p:Int):=by
 have he:=dk
 have hn1:n<=524288:=by
  rcases Nat.eq_zero_or_pos s with rfl | h
  ·rw [Nat.zero_mul] at hs;exact absurd hs (by decide)
  ·rw [<-hs];exact Nat.le_mul_of_pos_left n h
 have hn0:0<n:=by
  rcases Nat.eq_zero_or_pos n with rfl | h
  ·rw [Nat.mul_zero] at hs;exact absurd hs (by decide)
  ·exact h
 obtain ⟨o1,o2⟩:=gY (i:=((2*n:Nat):Int)) (by simp only [Int.natAbs_natCast];exact Nat.lt_of_le_of_lt (show 2*n<=1048576 by lia -abstractProof) (by simp))
 obtain ⟨i1,i2⟩:=gY (i:=1) (by simp)
 have hsn:(s:Rat)*(n:Rat)=524288:=by
  have:=congrArg (fun z:Nat=>(z:Rat)) hs
  simp only [Rat.natCast_mul] at this
  exact this
 have n0:(0:Rat)<(n:Rat):=Rat.natCast_pos.mpr hn0
 have s0:(0:Rat)<(s:Rat):=by
  have:0<s:=by
   rcases Nat.eq_zero_or_pos s with rfl | h
   ·rw [Nat.zero_mul] at hs;exact absurd hs (by decide)
   ·exact h
  exact Rat.natCast_pos.mpr this
 have n1:(n:Rat)<=524288:=Rat.natCast_le_natCast.mpr hn1
 have p0:(0:Rat)<=(p:Rat):=Rat.natCast_nonneg
 have p1:(p:Rat)<=(n:Rat):=Rat.natCast_le_natCast.mpr hp
 rw [Rat.intCast_natCast,Rat.natCast_mul] at h
 have hq:Nr (rv a*(n:Rat)) (p:Rat) (524288*(2000*eps)):=by
  have e:524288*rv a=(rv a*(n:Rat))*(s:Rat):=by rw [<-hsn];grind -abstractProof
  rw [e] at h
  have s1:(1:Rat)<=(s:Rat):=by
   have:1<=s:=by
    rcases Nat.eq_zero_or_pos s with rfl | h
    ·rw [Nat.zero_mul] at hs;exact absurd hs (by decide)
    ·exact h
   exact Rat.natCast_le_natCast.mpr this
  have d1:=Rat.mul_le_mul_of_nonneg_left s1 (show 0<=524288*(2000*eps) by grind -abstractProof)
  generalize rv a*(n:Rat)=y at *
  constructor
  ·refine Rat.le_of_mul_le_mul_right (c:=(s:Rat)) ?_ s0
   have:=h.1;grind -abstractProof
  ·refine Rat.le_of_mul_le_mul_right (c:=(s:Rat)) ?_ s0
   have:=h.2;grind -abstractProof
 have e2:rv a*rv (Float64.ofInt ((2*n:Nat):Int))=2*(rv a*(n:Rat)):=by
  rw [o2,Rat.intCast_natCast,Rat.natCast_mul]
  have:((2:Nat):Rat)=2:=rfl
  rw [this];grind -abstractProof
 generalize rv a*(n:Rat)=y at *
 obtain ⟨m1,m2⟩:=pj ha o1 21 (by simp) (by rw [wx,e2];unfold Nr at *;grind -abstractProof) (by rw [wx,e2];unfold Nr at *;grind -abstractProof)
 rw [e2,yO] at m2
 have i3:((1:Int):Rat)=1:=rfl
 obtain ⟨a1,a2⟩:=oz m1 i1 21 (by simp) (by rw [wx,i2,i3];unfold Nr at *;grind -abstractProof) (by rw [wx,i2,i3];unfold Nr at *;grind -abstractProof)
 rw [i2,i3,yO] at a2
 have a1':Fn' (fB ((2*n:Nat):Int) a):=a1
 refine ⟨a1'.fin,?_⟩
 have hv:2*(p:Rat)<rv (fB ((2*n:Nat):Int) a)/\rv (fB ((2*n:Nat):Int) a)<2*(p:Rat)+2:=by unfold fB;unfold Nr at *;grind -abstractProof
 obtain ⟨k1,k2,k3⟩:=oR a1' (by grind -abstractProof)
 unfold iF
 generalize jY (fB ((2*n:Nat):Int) a)=z at *
 have c1:((2*(p:Int) - 1:Int):Rat)<(z:Rat):=by
  simp only [Rat.intCast_sub,Rat.intCast_mul,Rat.intCast_natCast]
  have e:((2:Int):Rat)=2:=rfl
  rw [e,i3];grind -abstractProof
 have c2:(z:Rat)<((2*(p:Int)+2:Int):Rat):=by
  simp only [Rat.intCast_add,Rat.intCast_mul,Rat.intCast_natCast]
  have e:((2:Int):Rat)=2:=rfl
  rw [e];grind -abstractProof
 have d1:=Rat.intCast_lt_intCast.mp c1
 have d2:=Rat.intCast_lt_intCast.mp c2
 rw [Int.fdiv_eq_ediv_of_nonneg _ (by simp)]
 lia -abstractProof
end
section
open PySem PySem.Float64
set_option exponentiation.threshold 3000
theorem z8 {hue:UInt64} {t:Rat} (H:i6 hue t):(Float64.cmpInt hue 0==some .gt||Float64.cmpInt hue 0==some .eq)=true/\(Float64.cmpInt hue 1==some .lt)=true:=by
 obtain ⟨⟨a,m,e,hd⟩,h0,h1,_,_,_⟩:=H
 rw [cmpInt_right hd,cmpInt_right hd]
 have n0:=yu h0
 have n1:fv hue<(UN:Int):=by
  rw [<-Rat.intCast_lt_intCast,cm,Rat.intCast_natCast]
  have:=Rat.mul_lt_mul_of_pos_right h1 iu
  rw [Rat.one_mul] at this;exact this
 have e0:Float64.val hue=fv hue:=rfl
 rw [e0]
 constructor
 ·rw [Int.zero_mul]
  rcases Int.lt_or_eq_of_le n0 with h | h
  ·rw [Int.compare_eq_gt.mpr h];rfl
  ·rw [<-h];rfl
 ·rw [Int.one_mul]
  have e2:((2:Int) ^ 1074)=(UN:Int):=by decide +kernel
  rw [e2,Int.compare_eq_lt.mpr n1];rfl
end
section
open PySem PySem.Float64
set_option exponentiation.threshold 3000
theorem nZ {W D t t':Nat} (hD:0<D) (h:∀ u,dist W (D*Float64.V t)<=dist W (D*Float64.V u)/\(Float64.V u≠Float64.V t->dist W (D*Float64.V t)=dist W (D*Float64.V u)->t % 2=0)) (h':∀ u,dist W (D*Float64.V t')<=dist W (D*Float64.V u)/\(Float64.V u≠Float64.V t'->dist W (D*Float64.V t')=dist W (D*Float64.V u)->t' % 2=0)):¬ t<t':=fun hlt=>by
 have v1:=V_lt hlt
 have e:=Nat.le_antisymm (h t').1 (h' t).1
 have p1:=(h t').2 (Nat.ne_of_gt v1) e
 have p2:=(h' t).2 (Nat.ne_of_lt v1) e.symm
 have v2:=V_succ t
 have v3:=V_lt (show t+1<t' by omega)
 have m1:=Nat.mul_lt_mul_of_pos_left v2 hD
 have m2:=Nat.mul_lt_mul_of_pos_left v3 hD
 have q:=(h (t+1)).1
 generalize D*Float64.V t=a at *
 generalize D*Float64.V (t+1)=b at *
 generalize D*Float64.V t'=c at *
 clear v1 v2 v3 h h' hlt hD
 rcases Nat.le_total W b with x | x
 ·have l1:dist W b<dist W c:=by unfold dist;clear e q;omega
  exact absurd (Nat.lt_of_le_of_lt q l1) (by rw [e];exact Nat.lt_irrefl _)
 ·have l1:dist W b<dist W a:=by unfold dist;clear e q;omega
  exact Nat.lt_irrefl _ (Nat.lt_of_le_of_lt q l1)
theorem mX {r r':UInt64} {neg:Bool} {W D:Nat} (hD:0<D) (h:Right r neg W D) (h':Right r' neg W D):r=r':=by
 obtain ⟨t,rfl,le,ov,nr⟩:=h
 obtain ⟨t',rfl,le',ov',nr'⟩:=h'
 refine congrArg _ ?_
 by_cases q:D*((2 ^ 54 - 1)*2 ^ 2045)<=2*W
 ·rw [ov.mpr q,ov'.mpr q]
 ·have l1:=Nat.lt_of_le_of_ne le fun e=>q (ov.mp e)
  have l2:=Nat.lt_of_le_of_ne le' fun e=>q (ov'.mp e)
  rcases Nat.lt_trichotomy t t' with x | x | x
  ·exact absurd x (nZ hD (nr l1) (nr' l2))
  ·exact x
  ·exact absurd x (nZ hD (nr' l2) (nr l1))
theorem lm {r:UInt64} {neg:Bool} {c W D:Nat} (hc:0<c) (h:Right r neg (c*W) (c*D)):Right r neg W D:=by
 obtain ⟨t,rfl,le,ov,nr⟩:=h
 refine ⟨t,rfl,le,ov.trans ?_,fun hl u=>?_⟩
 ·rw [Nat.mul_assoc,Nat.mul_left_comm 2]
  exact Nat.mul_le_mul_left_iff hc
 ·have:=nr hl u
  rw [Nat.mul_assoc,Nat.mul_assoc,dist_mul,dist_mul] at this
  exact ⟨Nat.le_of_mul_le_mul_left this.1 hc,fun a b=>this.2 a (by rw [b])⟩
theorem fw {a:Nat} (ha:a<=262144):Gd (q18 a) ((a*2:Nat):Int):=lM (n:=262144) (by decide) ha
theorem wm (a:Nat):Right (q18 a) false (a*2*G19) 1:=by
 refine lm (c:=262144) (by decide) ?_
 have e:262144*(a*2*G19)=a*2 ^ 1074:=by
  have:(2:Nat) ^ 1074=UN:=rfl
  rw [this,<-sf];generalize G19=g;grind -abstractProof
 rw [e]
 show Right (ofFrac (decide ((a:Int)<0) != decide (((262144:Nat):Int)<0)) a 262144) false (a*2 ^ 1074) (262144*1)
 rw [decide_eq_false (Int.not_ofNat_neg a),decide_eq_false (Int.not_ofNat_neg 262144)]
 exact ofFrac_right (by decide) (by rw [Nat.mul_one]) (by decide)
theorem iY {a:Nat} (ha:a<=262144):∃ m e,decode (q18 a)=.fin false m e/\(a≠0->m≠0)/\val (q18 a)=((a*2*G19:Nat):Int):=by
 have g:=fw ha
 have hv:val (q18 a)=((a*2*G19:Nat):Int):=by rw [Int.natCast_mul (a*2)];exact g.2
 obtain ⟨s,m,e,hd⟩:=g.1
 have hv2:=val_eq hd
 by_cases h0:a=0
 ·subst h0
  exact ⟨0,-1074,by kernel_rfl,fun h=>absurd rfl h,hv⟩
 ·have hp:0<a*2*G19:=Nat.mul_pos (by omega) iR
  generalize a*2*G19=N at *
  rw [hv] at hv2
  cases s with
  | false =>
    refine ⟨m,e,hd,fun _ hm=>?_,hv⟩
    rw [hm,Nat.zero_mul] at hv2
    have:((N:Nat):Int)=0:=hv2
    omega
  | true =>
    exfalso
    generalize m*2 ^ (e+1074).toNat=z at *
    have:((N:Nat):Int)=-(z:Int):=hv2
    omega
theorem lR {M i:Nat} (hM:M<=262144) (hi:i<=M):Float64.sub (q18 M) (q18 i)=q18 (M - i):=by
 rcases Nat.lt_or_eq_of_le hi with h | h
 ·obtain ⟨m,e,hd,_,hv⟩:=iY hM
  obtain ⟨m',e',hd',_,hv'⟩:=iY (Nat.le_trans hi hM)
  have R:=(sub_right hd hd').2
  have ev:val (q18 M) - val (q18 i)=(((M - i)*2*G19:Nat):Int):=by
   rw [hv,hv',Nat.mul_assoc,Nat.mul_assoc,Nat.mul_assoc,Nat.sub_mul]
   have:=Nat.mul_le_mul_right (2*G19) hi
   generalize M*(2*G19)=x at *
   generalize i*(2*G19)=y at *
   omega
  have hp:0<(M - i)*2*G19:=Nat.mul_pos (by omega) iR
  rw [ev] at R
  generalize hN:(M - i)*2*G19=N at *
  have R:=R (by omega)
  rw [decide_eq_false (Int.not_ofNat_neg N),Int.natAbs_natCast] at R
  exact mX (by decide) R (hN▸wm (M - i))
 ·subst h
  rw [Nat.sub_self,n7 (fw hM).1]
  kernel_rfl
theorem pO {a b:Nat} (ha:8*a<=262144) (hb:8*b<=262144) (h0:b≠0):Float64.div (q18 (8*a)) (q18 (8*b))=Float64.div (q18 a) (q18 b):=by
 obtain ⟨m1,e1,d1,_,v1⟩:=iY ha
 obtain ⟨m2,e2,d2,n2,v2⟩:=iY hb
 obtain ⟨m3,e3,d3,_,v3⟩:=iY (a:=a) (Nat.le_trans (Nat.le_mul_of_pos_left a (by decide)) ha)
 obtain ⟨m4,e4,d4,n4,v4⟩:=iY (a:=b) (Nat.le_trans (Nat.le_mul_of_pos_left b (by decide)) hb)
 have R1:=div_right d1 d2 (n2 (Nat.mul_ne_zero (by decide) h0))
 have R2:=div_right d3 d4 (n4 h0)
 rw [v1,v2,Int.natAbs_natCast,Int.natAbs_natCast] at R1
 rw [v3,v4,Int.natAbs_natCast,Int.natAbs_natCast] at R2
 have w1:8*a*2*G19*2 ^ 1074=8*(a*2*G19*2 ^ 1074):=by simp only [Nat.mul_assoc]
 have w2:8*b*2*G19=8*(b*2*G19):=by simp only [Nat.mul_assoc]
 rw [w1,w2] at R1
 exact mX (Nat.mul_pos (Nat.mul_pos (Nat.pos_of_ne_zero h0) (by decide)) iR) (lm (by decide) R1) R2
theorem uO {a b:Nat} (ha:a<=262144) (hb:b<=262144):oT (q18 a) (q18 b)=q18 (max a b):=by
 unfold oT
 have h:=kI (fw ha).1 (fw hb).1
 rw [decide_eq_decide.mpr ((fw ha).lt (fw hb))] at h
 have h:dd (q18 a) (q18 b)=decide (((a*2:Nat):Int)<((b*2:Nat):Int)):=h
 rw [h]
 by_cases q:a<b
 ·rw [decide_eq_true (by omega),if_pos rfl,Nat.max_eq_right (Nat.le_of_lt q)]
 ·rw [decide_eq_false (by omega),if_neg (by decide),Nat.max_eq_left (Nat.not_lt.mp q)]
theorem uP {a b:Nat} (ha:a<=262144) (hb:b<=262144):oU (q18 a) (q18 b)=q18 (min a b):=by
 unfold oU
 have h:=kI (fw hb).1 (fw ha).1
 rw [decide_eq_decide.mpr ((fw hb).lt (fw ha))] at h
 have h:dd (q18 b) (q18 a)=decide (((b*2:Nat):Int)<((a*2:Nat):Int)):=h
 rw [h]
 by_cases q:b<a
 ·rw [decide_eq_true (by omega),if_pos rfl,Nat.min_eq_right (Nat.le_of_lt q)]
 ·rw [decide_eq_false (by omega),if_neg (by decide),Nat.min_eq_left (Nat.not_lt.mp q)]
theorem tm {a b:Nat} (ha:a<=262144) (hb:b<=262144):feq (q18 a) (q18 b)=decide (a=b):=by
 rw [(fw ha).feq (fw hb),decide_eq_decide];omega
noncomputable def xM (x y z R:Nat):UInt64 :=
 if R=0 then 0 else dh (Float64.div (if x=0 then Float64.sub (Float64.div (q18 z) (q18 R)) (Float64.div (q18 y) (q18 R)) else if y=0 then Float64.sub (Float64.add F2 (Float64.div (q18 x) (q18 R))) (Float64.div (q18 z) (q18 R)) else Float64.sub (Float64.add F4 (Float64.div (q18 y) (q18 R))) (Float64.div (q18 x) (q18 R))) F6)
theorem BZ {x y z R:Nat} (hx:8*x<=262144) (hy:8*y<=262144) (hz:8*z<=262144) (hR:8*R<=262144):xM (8*x) (8*y) (8*z) (8*R)=xM x y z R:=by
 unfold xM
 by_cases h:R=0
 ·rw [if_pos h,if_pos (by omega)]
 ·rw [if_neg h,if_neg (by omega),pO hx hR h,pO hy hR h,pO hz hR h]
  have e1:(8*x=0)=(x=0):=propext (by omega)
  have e2:(8*y=0)=(y=0):=propext (by omega)
  simp only [e1,e2]
theorem ur {c:Co} (h:c.Lt 262144):dT c=xM (c.mx - c.r) (c.mx - c.g) (c.mx - c.b) (c.mx - c.mn):=by
 obtain ⟨h1,h2,h3⟩:=h
 have hx:=Co.mx_lt ⟨h1,h2,h3⟩
 obtain ⟨a1,a2,a3⟩:=c.mx_ge
 obtain ⟨b1,b2,b3⟩:=c.mn_le
 have emx:mxF (q18 c.r) (q18 c.g) (q18 c.b)=q18 c.mx:=by
  unfold mxF
  rw [uO (Nat.le_of_lt h1) (Nat.le_of_lt h2),uO (Nat.max_le.mpr ⟨Nat.le_of_lt h1,Nat.le_of_lt h2⟩) (Nat.le_of_lt h3)];rfl
 have emn:mnF (q18 c.r) (q18 c.g) (q18 c.b)=q18 c.mn:=by
  unfold mnF
  rw [uP (Nat.le_of_lt h1) (Nat.le_of_lt h2),uP (Nat.le_trans (Nat.min_le_left _ _) (Nat.le_of_lt h1)) (Nat.le_of_lt h3)];rfl
 unfold dT fY hueF sZ eZ rgF
 have X:=Nat.le_of_lt hx
 rw [emx,emn,lR (i:=c.r) X a1,lR (i:=c.g) X a2,lR (i:=c.b) X a3,lR (i:=c.mn) X (Nat.le_trans b1 a1),tm (a:=c.mn) (Nat.le_trans (Nat.le_trans b1 a1) X) X,tm (a:=c.r) (Nat.le_of_lt h1) X,tm (a:=c.g) (Nat.le_of_lt h2) X]
 unfold xM
 have e:∀ x,x<=c.mx->(x=c.mx)=(c.mx - x=0):=fun x hx=>propext ⟨fun h=>by rw [h];exact Nat.sub_self _,fun h=>Nat.le_antisymm hx (Nat.le_of_sub_eq_zero h)⟩
 simp only [e _ (Nat.le_trans b1 a1),e _ a1,e _ a2,Bool.cond_decide]
theorem vO {b c:Co} (hb:b.Lt 262144) (hc:c.Lt 32768) (h:fo b=(fo c).map (8*·)):dT b=dT c:=by
 have hc2:=hc.mono (show 32768<=262144 by decide)
 have hcm:=Co.mx_lt hc
 rw [ur hb,ur hc2]
 have t1:(b.r:Int) - b.g=8*((c.r:Int) - c.g):=(List.cons.inj h).1
 have t2:(b.g:Int) - b.b=8*((c.g:Int) - c.b):=(List.cons.inj (List.cons.inj h).2).1
 obtain ⟨d,dr,dg,db⟩:∃ d:Int,(b.r:Int)=8*(c.r:Int)+d/\(b.g:Int)=8*(c.g:Int)+d/\(b.b:Int)=8*(c.b:Int)+d:=⟨b.r - 8*c.r,by omega,by omega,by omega⟩
 clear t1 t2 h hb hc hc2
 obtain ⟨a1,a2,a3⟩:=b.mx_ge
 obtain ⟨b1,b2,b3⟩:=b.mn_le
 obtain ⟨c1,c2,c3⟩:=c.mx_ge
 obtain ⟨d1,d2,d3⟩:=c.mn_le
 have eM:(b.mx:Int)=8*(c.mx:Int)+d:=by
  clear b1 b2 b3 d1 d2 d3 hcm
  refine Int.le_antisymm ?_ ?_
  ·clear a1 a2 a3
   rcases qY b with q | q | q<;>rw [q]<;>omega
  ·clear c1 c2 c3
   rcases qY c with q | q | q<;>rw [q]<;>omega
 have em:(b.mn:Int)=8*(c.mn:Int)+d:=by
  clear a1 a2 a3 c1 c2 c3 hcm eM
  refine Int.le_antisymm ?_ ?_
  ·clear d1 d2 d3
   rcases uz c with q | q | q<;>rw [q]<;>omega
  ·clear b1 b2 b3
   rcases uz b with q | q | q<;>rw [q]<;>omega
 have e:∀ {M x M' x':Nat},(M:Int)=8*(M':Int)+d->(x:Int)=8*(x':Int)+d->M - x=8*(M' - x'):=fun hM hx=>by clear dr dg db eM em;omega
 have lt:∀ y,8*(c.mx - y)<=262144:=fun y=>Nat.le_trans (Nat.mul_le_mul_left 8 (Nat.le_trans (Nat.sub_le _ _) (Nat.le_of_lt hcm))) (by decide)
 rw [e eM dr,e eM dg,e eM db,e eM em]
 exact BZ (lt _) (lt _) (lt _) (lt _)
end
section
open PySem PySem.Float64
set_option exponentiation.threshold 3000
structure Grid (r g b:UInt64) (c:Co) (s:Nat):Prop where
 s0:0<s
 gr:Gd r ((c.r*s:Nat):Int)
 gg:Gd g ((c.g*s:Nat):Int)
 gb:Gd b ((c.b*s:Nat):Int)
 X:Mm ((c.r*s:Nat):Int) ((c.g*s:Nat):Int) ((c.b*s:Nat):Int) ((c.mx*s:Nat):Int) ((c.mn*s:Nat):Int)
 M:Gd (mxF r g b) ((c.mx*s:Nat):Int)
 m:Gd (mnF r g b) ((c.mn*s:Nat):Int)
 M1:c.mx*s<=524288
 same:c.g=c.b->g=b
theorem DC (c:Co) (s:Nat):Mm ((c.r*s:Nat):Int) ((c.g*s:Nat):Int) ((c.b*s:Nat):Int) ((c.mx*s:Nat):Int) ((c.mn*s:Nat):Int):=by
 obtain ⟨a1,a2,a3⟩:=c.mx_ge
 obtain ⟨b1,b2,b3⟩:=c.mn_le
 refine ⟨Int.ofNat_le.mpr (Nat.mul_le_mul_right s a1),Int.ofNat_le.mpr (Nat.mul_le_mul_right s a2),Int.ofNat_le.mpr (Nat.mul_le_mul_right s a3),Int.ofNat_le.mpr (Nat.mul_le_mul_right s b1),Int.ofNat_le.mpr (Nat.mul_le_mul_right s b2),Int.ofNat_le.mpr (Nat.mul_le_mul_right s b3),?_,?_⟩
 ·rcases qY c with h | h | h<;>rw [h]
  ·exact .inl rfl
  ·exact .inr (.inl rfl)
  ·exact .inr (.inr rfl)
 ·rcases uz c with h | h | h<;>rw [h]
  ·exact .inl rfl
  ·exact .inr (.inl rfl)
  ·exact .inr (.inr rfl)
theorem Af {i j k M m M' m':Int} (h:Mm i j k M m) (h':Mm i j k M' m'):M=M'/\m=m':=by
 have top:∀ {M m M' m':Int},Mm i j k M m->Mm i j k M' m'->M<=M':=fun h h'=>by
  rcases h.M with q | q | q<;>rw [q]
  ·exact h'.iM
  ·exact h'.jM
  ·exact h'.kM
 have low:∀ {M m M' m':Int},Mm i j k M m->Mm i j k M' m'->m'<=m:=fun h h'=>by
  rcases h.m with q | q | q<;>rw [q]
  ·exact h'.im
  ·exact h'.jm
  ·exact h'.km
 exact ⟨Int.le_antisymm (top h h') (top h' h),Int.le_antisymm (low h' h) (low h h')⟩
theorem o5 {c:Co} {s n:Nat} (hs:s*n=524288) (h:c.Lt n):Grid (dP (c.r:Int) (n:Int)) (dP (c.g:Int) (n:Int)) (dP (c.b:Int) (n:Int)) c s:=by
 have s0:0<s:=by
  rcases Nat.eq_zero_or_pos s with rfl | h
  ·rw [Nat.zero_mul] at hs;exact absurd hs (by decide)
  ·exact h
 have ga:=lM hs (Nat.le_of_lt h.1)
 have gb:=lM hs (Nat.le_of_lt h.2.1)
 have gc:=lM hs (Nat.le_of_lt h.2.2)
 obtain ⟨M,m,X,hM,hm⟩:=ga.mm gb gc
 obtain ⟨e1,e2⟩:=Af X (DC c s)
 subst e1
 subst e2
 refine ⟨s0,ga,gb,gc,X,hM,hm,?_,fun q=>by rw [q]⟩
 rw [<-hs,Nat.mul_comm s n]
 exact Nat.mul_le_mul_right s (Nat.le_of_lt (Co.mx_lt h))
section
variable {r g b:UInt64} {c:Co} {s:Nat}
theorem Grid.grey (G:Grid r g b c s):feq (mnF r g b) (mxF r g b)=decide (c.mn=c.mx):=by
 rw [G.m.feq G.M,decide_eq_decide]
 constructor
 ·intro h
  exact Nat.eq_of_mul_eq_mul_right G.s0 (Int.ofNat.inj h)
 ·intro h;rw [h]
theorem Grid.ne (G:Grid r g b c s) (h:c.mn≠c.mx):((c.mn*s:Nat):Int)<((c.mx*s:Nat):Int):=by
 have h1:c.mn<c.mx:=Nat.lt_of_le_of_ne (Nat.le_trans c.mn_le.1 c.mx_ge.1) h
 exact Int.ofNat_lt.mpr (Nat.mul_lt_mul_of_pos_right h1 G.s0)
theorem Grid.hue (G:Grid r g b c s) (h:c.mn≠c.mx):∃ t,i6 (fY r g b) t/\Wheel (((c.r*s:Nat):Int):Rat) (((c.g*s:Nat):Int):Rat) (((c.b*s:Nat):Int):Rat) (((c.mx*s:Nat):Int):Rat) (((c.mn*s:Nat):Int):Rat) t :=
 B0 G.gr G.gg G.gb (fun q=>G.same (Nat.eq_of_mul_eq_mul_right G.s0 (Int.ofNat.inj q))) G.X G.M G.m (Int.natCast_nonneg _) (Int.ofNat_le.mpr G.M1) (G.ne h)
end
theorem A4:Fn' (dP 1 2)/\2*rv (dP 1 2)=1:=by
 have e:dP 1 2=Fh:=by decide +kernel
 rw [e];exact fh
theorem CP {hue:UInt64} {t:Rat} (H:i6 hue t):Fn' (Float64.add hue (dP 1 2))/\0<=rv (Float64.add hue (dP 1 2))/\rv (Float64.add hue (dP 1 2))<=2/\Nr (6*rv (Float64.add hue (dP 1 2))) (t+3) (40*eps):=by
 have he:=dk
 obtain ⟨f,lo,up,_,_,nr⟩:=H
 obtain ⟨g,a1⟩:=A4
 obtain ⟨n1,n2⟩:=nr
 obtain ⟨o1,o2,o3⟩:=Bs f g (by grind -abstractProof) (by grind -abstractProof)
 exact ⟨o1,by grind -abstractProof,by grind -abstractProof,by grind -abstractProof,by grind -abstractProof⟩
theorem AM {hue:UInt64} {t:Rat} (H:i6 hue t):Fn' (Float64.sub hue (dP 1 2))/\-1<=rv (Float64.sub hue (dP 1 2))/\rv (Float64.sub hue (dP 1 2))<=1/\Nr (6*rv (Float64.sub hue (dP 1 2))) (t+3+6*((-1:Int):Rat)) (30*eps):=by
 have he:=dk
 obtain ⟨f,lo,up,_,_,nr⟩:=H
 obtain ⟨g,a1⟩:=A4
 obtain ⟨n1,n2⟩:=nr
 obtain ⟨o1,o2,o3⟩:=AC f g (by grind -abstractProof) (by grind -abstractProof)
 have e:((-1:Int):Rat)=-1:=rfl
 rw [e]
 exact ⟨o1,by grind -abstractProof,by grind -abstractProof,by grind -abstractProof,by grind -abstractProof⟩
theorem mN {c:Co} {s x:Nat} (h:x<=c.mx):((((c.mx+c.mn - x)*s:Nat):Int):Rat)=(((c.mx*s:Nat):Int):Rat)+(((c.mn*s:Nat):Int):Rat) - (((x*s:Nat):Int):Rat):=by
 rw [<-Rat.intCast_add,<-Rat.intCast_sub,Rat.intCast_inj,Nat.sub_mul,Nat.add_mul]
 have:=Nat.mul_le_mul_right s h
 generalize x*s=X at *
 generalize c.mx*s=A at *
 generalize c.mn*s=B at *
 omega
theorem nW {a0:UInt64} {mn R X:Rat} {m M:Int} {p:Nat} (hp:p<=32768) (hl:Lit a0 mn R X (2000*eps)) (hw:∃ w,Tn X w/\(((p*16:Nat):Int):Rat)=(m:Rat)+((M:Rat) - (m:Rat))*w) (e1:mn*524288=(m:Rat)) (e2:R*524288=(M:Rat) - (m:Rat)) :
 Float64.isFinite (fB 65536 a0)=true/\iF 65536 a0=(p:Int):=by
 obtain ⟨k1,k2⟩:=hl.part hw e1 e2
 exact uw (s:=16) (n:=32768) k1 (by decide) hp k2
theorem nT {a:UInt64} {p:Nat} (ha:Fn' a) (hp:p<=32768) (h:Nr (rv a*524288) (((p*16:Nat):Int):Rat) (524288*eps)):Float64.isFinite (fB 65536 a)=true/\iF 65536 a=(p:Int):=by
 have he:=eT
 refine uw (s:=16) (n:=32768) ha (by decide) hp ?_
 rw [Rat.mul_comm]
 exact h.mono (by grind -abstractProof)
theorem Turned.v {deep:Nat} {r g b hue a0 a1 a2:UInt64} (hd:deep=0) (h:(feq (mnF r g b) (mxF r g b)=true/\hue=0/\a0=mxF r g b/\a1=mxF r g b/\a2=mxF r g b)\/(hue=fY r g b/\tP r g b (Float64.add hue (dP 1 2)) a0 a1 a2)):Turned deep r g b hue a0 a1 a2:=by
 unfold Turned;rw [if_pos hd];exact h
theorem Turned.l {deep:Nat} {r g b hue a0 a1 a2:UInt64} (hd:deep≠0) (h:(feq (mnF r g b) (mxF r g b)=true/\hue=0/\a0=de r g b/\a1=de r g b/\a2=de r g b)\/(hue=fY r g b/\tQ r g b (Float64.sub hue (dP 1 2)) a0 a1 a2)):Turned deep r g b hue a0 a1 a2:=by
 unfold Turned;rw [if_neg hd];exact h
theorem xZ {r g b:UInt64} {N:Nat} (hM:Gd (mxF r g b) (N:Int)) (hm:Gd (mnF r g b) (N:Int)) (hN:N<=524288):Fn' (de r g b)/\Nr (rv (de r g b)*524288) (((N:Nat):Int):Rat) (524288*eps):=by
 have S:=hM.add hm (by omega)
 have w:=S.rv
 rw [Rat.intCast_add] at w
 have n0:(0:Rat)<=((N:Int):Rat):=Rat.intCast_nonneg.mpr (Int.natCast_nonneg N)
 have n1:((N:Int):Rat)<=524288:=Rat.intCast_le_intCast.mpr (by omega:(N:Int)<=524288)
 obtain ⟨q0,q1⟩:=Rat.div_bd (a:=((N:Int):Rat)) (b:=524288) (by decide) n0 n1
 have hq:((N:Int):Rat) / 524288*524288=((N:Int):Rat):=Rat.div_mul_cancel (by decide)
 generalize ((N:Int):Rat) / 524288=q at *
 have A:Ap (de r g b) q 1 1:=Ap.div S.1 f2.1 (by rw [f2.2];decide) (by rw [f2.2,w];grind -abstractProof) (Rat.le_trans (by rfl) q0) q1 (by simp)
 refine ⟨A.fn,?_⟩
 have:=A.nr
 rw [<-hq]
 have e1:((1:Nat):Rat)=1:=rfl
 rw [e1] at this
 unfold Nr at *
 grind -abstractProof
theorem wK:eS:=fun deep c h=>by
 have G:=o5 (c:=c) (s:=16) (n:=32768) (by decide) h
 have hx:=Co.mx_lt h
 obtain ⟨a1,a2,a3⟩:=c.mx_ge
 obtain ⟨b1,b2,b3⟩:=c.mn_le
 refine ⟨h,?_⟩
 by_cases hg:c.mn=c.mx
 ·have fq:feq (mnF (q15 c.r) (q15 c.g) (q15 c.b)) (mxF (q15 c.r) (q15 c.g) (q15 c.b))=true:=by rw [G.grey];exact decide_eq_true hg
  have e0:j1 c=0:=by unfold j1;rw [fq];rfl
  rw [e0]
  have o1:c.opp.r=c.mx:=by show c.mx+c.mn - c.r=c.mx;omega
  have o2:c.opp.g=c.mx:=by show c.mx+c.mn - c.g=c.mx;omega
  have o3:c.opp.b=c.mx:=by show c.mx+c.mn - c.b=c.mx;omega
  rw [o1,o2,o3]
  by_cases hd:deep=0
  ·have T:=fun {r g b hue a0 a1 a2:UInt64}=>@Turned.v deep r g b hue a0 a1 a2 hd
   have L:=nT (p:=c.mx) G.M.1 (Nat.le_of_lt hx) (by
    have he:=eT
    rw [G.M.rv,Rat.div_mul_cancel (by decide)]
    refine (Nr.self _).mono ?_
    grind -abstractProof)
   exact ⟨_,_,_,T (.inl ⟨fq,rfl,rfl,rfl,rfl⟩),L.1,L.1,L.1,L.2,L.2,L.2⟩
  ·have T:=fun {r g b hue a0 a1 a2:UInt64}=>@Turned.l deep r g b hue a0 a1 a2 hd
   have Q:=xZ G.M (hg▸G.m) G.M1
   have L:=nT (p:=c.mx) Q.1 (Nat.le_of_lt hx) Q.2
   exact ⟨_,_,_,T (.inl ⟨fq,rfl,rfl,rfl,rfl⟩),L.1,L.1,L.1,L.2,L.2,L.2⟩
 ·have fq:feq (mnF (q15 c.r) (q15 c.g) (q15 c.b)) (mxF (q15 c.r) (q15 c.g) (q15 c.b))=false:=by rw [G.grey];exact decide_eq_false hg
  have e0:j1 c=fY (q15 c.r) (q15 c.g) (q15 c.b):=by unfold j1;rw [fq];rfl
  rw [e0]
  obtain ⟨t,H,W⟩:=G.hue hg
  have W2:=W.half
  rw [<-mN a1,<-mN a2,<-mN a3] at W2
  have p1:c.mx+c.mn - c.r<=32768:=by omega
  have p2:c.mx+c.mn - c.g<=32768:=by omega
  have p3:c.mx+c.mn - c.b<=32768:=by omega
  by_cases hd:deep=0
  ·have T:=fun {r g b hue a0 a1 a2:UInt64}=>@Turned.v deep r g b hue a0 a1 a2 hd
   obtain ⟨o1,o2,o3,hY⟩:=CP H
   obtain ⟨x0,x1,x2,mn,R,e1,e2,tn,l0,l1,l2⟩:=yJ G.M G.m (Int.natCast_nonneg _) (G.ne hg) (Int.ofNat_le.mpr G.M1) o1 o2 o3 hY
   obtain ⟨f0,i0⟩:=nW p1 l0 W2.i e1 e2
   obtain ⟨f1,i1⟩:=nW p2 l1 W2.j e1 e2
   obtain ⟨f2,i2⟩:=nW p3 l2 W2.k e1 e2
   exact ⟨x0,x1,x2,T (.inr ⟨rfl,tn⟩),f0,f1,f2,i0,i1,i2⟩
  ·have T:=fun {r g b hue a0 a1 a2:UInt64}=>@Turned.l deep r g b hue a0 a1 a2 hd
   obtain ⟨o1,o2,o3,hY⟩:=AM H
   obtain ⟨x0,x1,x2,mn,R,e1,e2,tn,l0,l1,l2⟩:=yK G.M G.m (Int.natCast_nonneg _) (G.ne hg) (Int.ofNat_le.mpr G.M1) o1 o2 o3 hY
   have W3:=W2.shift (-1)
   obtain ⟨f0,i0⟩:=nW p1 l0 W3.i e1 e2
   obtain ⟨f1,i1⟩:=nW p2 l1 W3.j e1 e2
   obtain ⟨f2,i2⟩:=nW p3 l2 W3.k e1 e2
   exact ⟨x0,x1,x2,T (.inr ⟨rfl,tn⟩),f0,f1,f2,i0,i1,i2⟩
end
section
open PySem PySem.Float64
set_option exponentiation.threshold 3000
theorem tb1 {Y:Rat} (h:Y<=-1):tb Y=Y+2:=if_pos h
theorem tb3 {Y:Rat} (h0:1<=Y) (h:Y<=2):tb Y=2 - Y:=by unfold tb;grind -abstractProof
theorem wz {i j k M m:Int} {t:Rat} (W:Wheel (i:Rat) (j:Rat) (k:Rat) (M:Rat) (m:Rat) t):∃ n:Int,((M:Rat) - (m:Rat))*t=(n:Rat):=by
 obtain ⟨⟨u,h1,e1⟩,⟨v,h2,e2⟩,⟨w,h3,e3⟩⟩:=W
 obtain ⟨n,Y,rfl,y1,y2,rfl⟩:=h1
 have cast:∀ a b:Int,∃ N:Int,(a:Rat)+((M:Rat) - (m:Rat))*((b:Int):Rat)=(N:Rat):=fun a b=>⟨a+(M - m)*b,by rw [Rat.intCast_add,Rat.intCast_mul,Rat.intCast_sub]⟩
 have go:∀ a b:Int,((M:Rat) - (m:Rat))*(Y+6*(n:Rat))=(a:Rat)+((M:Rat) - (m:Rat))*((b:Int):Rat)->∃ N:Int,((M:Rat) - (m:Rat))*(Y+6*(n:Rat))=(N:Rat):=fun a b h=>by
  obtain ⟨N,e⟩:=cast a b
  exact ⟨N,h.trans e⟩
 have c6:∀ d:Int,((d+6*n:Int):Rat)=(d:Rat)+6*(n:Rat):=fun d=>by rw [Rat.intCast_add,Rat.intCast_mul];rfl
 by_cases q1:Y<=-1
 ·rw [tb1 q1] at e1
  exact go (i - m) (-2+6*n) (by rw [c6,Rat.intCast_sub];have:((-2:Int):Rat)=-2:=rfl;rw [this];grind -abstractProof)
 ·by_cases q2:Y<=0
  ·have T:Tn (Y+6*(n:Rat) - 4) (tb (Y+2)):=⟨n - 1,Y+2,by rw [Rat.intCast_sub];grind -abstractProof,by grind -abstractProof,by grind -abstractProof,rfl⟩
   have:=h3.uniq T
   rw [this,tb3 (by grind -abstractProof) (by grind -abstractProof)] at e3
   exact go (m - k) (0+6*n) (by rw [c6,Rat.intCast_sub];have:((0:Int):Rat)=0:=rfl;rw [this];grind -abstractProof)
  ·by_cases q3:Y<=1
   ·have T:Tn (Y+6*(n:Rat) - 2) (tb (Y - 2)):=⟨n,Y - 2,by grind -abstractProof,by grind -abstractProof,by grind -abstractProof,rfl⟩
    have:=h2.uniq T
    rw [this,tb1 (by grind -abstractProof)] at e2
    exact go (j - m) (0+6*n) (by rw [c6,Rat.intCast_sub];have:((0:Int):Rat)=0:=rfl;rw [this];grind -abstractProof)
   ·by_cases q4:Y<=2
    ·rw [tb3 (by grind -abstractProof) q4] at e1
     exact go (m - i) (2+6*n) (by rw [c6,Rat.intCast_sub];have:((2:Int):Rat)=2:=rfl;rw [this];grind -abstractProof)
    ·by_cases q5:Y<=3
     ·have T:Tn (Y+6*(n:Rat) - 4) (tb (Y - 4)):=⟨n,Y - 4,by grind -abstractProof,by grind -abstractProof,by grind -abstractProof,rfl⟩
      have:=h3.uniq T
      rw [this,tb1 (by grind -abstractProof)] at e3
      exact go (k - m) (2+6*n) (by rw [c6,Rat.intCast_sub];have:((2:Int):Rat)=2:=rfl;rw [this];grind -abstractProof)
     ·have T:Tn (Y+6*(n:Rat) - 2) (tb (Y - 2)):=⟨n,Y - 2,by grind -abstractProof,by grind -abstractProof,by grind -abstractProof,rfl⟩
      have:=h2.uniq T
      rw [this,tb3 (by grind -abstractProof) (by grind -abstractProof)] at e2
      exact go (m - j) (4+6*n) (by rw [c6,Rat.intCast_sub];have:((4:Int):Rat)=4:=rfl;rw [this];grind -abstractProof)
theorem nP {y m n:Int} (h1:-m<=y) (h2:y<m):(y+m*n).fmod m=if 0<=y then y else y+m:=by
 rw [Int.fmod_eq_emod_of_nonneg _ (by omega),Int.add_mul_emod_self_left]
 split
 ·exact Int.emod_eq_of_lt (by assumption) h2
 ·rw [<-Int.add_emod_right]
  exact Int.emod_eq_of_lt (by omega) (by omega)
theorem xJ {sp T:Int} {t w:Rat} {k:Nat} (h0:0<sp) (hT:(sp:Rat)*t=(T:Rat)) (h:Tn (t - 2*((k:Nat):Rat)) w):((max 0 (min sp (2*sp - oZ T sp (6*sp) (k:Int))):Int):Rat)=(sp:Rat)*w:=by
 obtain ⟨n,Y,e,y1,y2,rfl⟩:=h
 have hs:(0:Rat)<(sp:Rat):=Rat.intCast_pos.mpr h0
 have hy:(sp:Rat)*Y=((T - 2*sp*(k:Int) - 6*sp*n:Int):Rat):=by
  simp only [Rat.intCast_sub,Rat.intCast_mul,Rat.intCast_natCast]
  have e2:((2:Int):Rat)=2:=rfl
  have e6:((6:Int):Rat)=6:=rfl
  rw [e2,e6,<-hT]
  have:Y=t - 2*((k:Nat):Rat) - 6*(n:Rat):=by grind -abstractProof
  rw [this];grind -abstractProof
 generalize hyd:T - 2*sp*(k:Int) - 6*sp*n=y at *
 have b1:-2*sp<=y:=by
  refine Rat.intCast_le_intCast.mp ?_
  rw [<-hy,Rat.intCast_mul]
  have:=Rat.mul_le_mul_of_nonneg_left y1 (Rat.le_of_lt hs)
  have e2:((-2:Int):Rat)=-2:=rfl
  rw [e2];grind -abstractProof
 have b2:y<=4*sp:=by
  refine Rat.intCast_le_intCast.mp ?_
  rw [<-hy,Rat.intCast_mul]
  have:=Rat.mul_le_mul_of_nonneg_left y2 (Rat.le_of_lt hs)
  have e4:((4:Int):Rat)=4:=rfl
  rw [e4];grind -abstractProof
 have m1:(T - 2*sp*(k:Int)).fmod (6*sp)=if 0<=y then y else y+6*sp:=by
  rw [show T - 2*sp*(k:Int)=y+(6*sp)*n from (Int.sub_eq_iff_eq_add.mp hyd)]
  exact nP (by clear hyd;omega) (by clear hyd;omega)
 have m2:(2*sp*(k:Int) - T).fmod (6*sp)=if 0<=-y then -y else -y+6*sp:=by
  rw [show 2*sp*(k:Int) - T=-y+(6*sp)*(-n) by rw [Int.mul_neg];clear b1 b2;omega]
  exact nP (by clear hyd;omega) (by clear hyd;omega)
 have key:max 0 (min sp (2*sp - oZ T sp (6*sp) (k:Int)))=if y<=-sp then y+2*sp else if y<=sp then sp else if y<=2*sp then 2*sp - y else 0:=by
  unfold oZ
  rw [m1,m2]
  clear m1 m2 hy hyd e hT hs y1 y2
  have fin:∀ gp r:Int,(0<=r/\r<=sp)->((sp<=2*sp - gp/\r=sp)\/(2*sp - gp<=sp/\r=2*sp - gp)\/(2*sp - gp<=0/\r=0))->max 0 (min sp (2*sp - gp))=r:=fun gp r h1 h2=>by
   rcases h2 with ⟨q,e⟩ | ⟨q,e⟩ | ⟨q,e⟩
   ·rw [Int.min_eq_left q,e];exact Int.max_eq_right (Int.le_of_lt h0)
   ·rw [Int.min_eq_right q,<-e];exact Int.max_eq_right h1.1
   ·rw [Int.min_eq_right (Int.le_trans q (Int.le_of_lt h0)),e];exact Int.max_eq_left q
  by_cases p1:y<=0
  ·rw [if_pos (Int.neg_nonneg_of_nonpos p1)]
   have g:min (if 0<=y then y else y+6*sp) (-y)=-y:=Int.min_eq_right (by split<;>omega)
   rw [g]
   by_cases q1:y<=-sp
   ·rw [if_pos q1];exact fin _ _ (by omega) (.inr (.inl (by omega)))
   ·rw [if_neg q1,if_pos (by omega)];exact fin _ _ (by omega) (.inl (by omega))
  ·rw [if_neg (show ¬ 0<=-y by omega),if_pos (show 0<=y by omega),if_neg (show ¬ y<=-sp by omega)]
   by_cases p2:y<=2*sp
   ·rw [show min y (-y+6*sp)=y from Int.min_eq_left (by omega)]
    by_cases q1:y<=sp
    ·rw [if_pos q1];exact fin _ _ (by omega) (.inl (by omega))
    ·rw [if_neg q1,if_pos p2];exact fin _ _ (by omega) (.inr (.inl (by omega)))
   ·rw [if_neg (by omega),if_neg p2]
    refine fin _ _ (by omega) (.inr (.inr ⟨?_,rfl⟩))
    have:2*sp<=min y (-y+6*sp):=Int.le_min.mpr ⟨by omega,by omega⟩
    omega
 rw [key]
 have lt:∀ (a:Int) (c:Rat),((a:Int):Rat)=(sp:Rat)*c->(y<=a↔Y<=c):=fun a c ha=>by
  rw [<-Rat.intCast_le_intCast,<-hy,ha]
  exact ⟨fun h=>Rat.le_of_mul_le_mul_left h hs,fun h=>Rat.mul_le_mul_of_nonneg_left h (Rat.le_of_lt hs)⟩
 have l1:=lt (-sp) (-1) (by rw [Rat.intCast_neg];grind -abstractProof)
 have l2:=lt sp 1 (by grind -abstractProof)
 have l3:=lt (2*sp) 2 (by rw [Rat.intCast_mul];have e2:((2:Int):Rat)=2:=rfl;rw [e2];grind -abstractProof)
 have e2:((2:Int):Rat)=2:=rfl
 unfold tb
 by_cases q1:y<=-sp
 ·rw [if_pos q1,if_pos (l1.mp q1),Rat.intCast_add,Rat.intCast_mul,<-hy,e2];grind -abstractProof
 ·rw [if_neg q1,if_neg (fun h=>q1 (l1.mpr h))]
  by_cases q2:y<=sp
  ·rw [if_pos q2,if_pos (l2.mp q2)];grind -abstractProof
  ·rw [if_neg q2,if_neg (fun h=>q2 (l2.mpr h))]
   by_cases q3:y<=2*sp
   ·rw [if_pos q3,if_pos (l3.mp q3),Rat.intCast_sub,Rat.intCast_mul,<-hy,e2];grind -abstractProof
   ·rw [if_neg q3,if_neg (fun h=>q3 (l3.mpr h))]
    have:((0:Int):Rat)=0:=rfl
    rw [this];grind -abstractProof
end
section
open PySem PySem.Float64
set_option exponentiation.threshold 3000
theorem DR:tw 20=1048576:=by rfl
theorem DS:tw 20 / tw 53=131072*eps:=by rw [gB];decide +kernel
theorem CA {s:Rat} (h0:0<=s) (h1:s<=32768):-196608<=6*s/\6*s<=196608/\-32768<=s:=⟨by grind -abstractProof,by grind -abstractProof,by grind -abstractProof⟩
theorem Az {hue:UInt64} {t:Rat} {sp:Nat} {T:Int} (H:i6 hue t) (h1:sp<32768) (hT:(sp:Rat)*t=(T:Rat)):Float64.isFinite (uS hue (6*sp))=true/\(jY (uS hue (6*sp))).fdiv 2=T:=by
 show Float64.isFinite (Float64.add (Float64.mul (Float64.mul hue (Float64.ofInt 2)) (Float64.ofInt ((6*sp:Nat):Int))) (Float64.ofInt 1))=true/\(jY (Float64.add (Float64.mul (Float64.mul hue (Float64.ofInt 2)) (Float64.ofInt ((6*sp:Nat):Int))) (Float64.ofInt 1))).fdiv 2=T
 have he:=dk
 obtain ⟨hf,lo,up,t0,t6,n1,n2⟩:=H
 obtain ⟨o1,o2⟩:=gY (i:=2) (by decide)
 obtain ⟨i1,i2⟩:=gY (i:=1) (by decide)
 obtain ⟨r1,r2⟩:=gY (i:=((6*sp:Nat):Int)) (by rw [Int.natAbs_natCast];omega)
 have e2:((2:Int):Rat)=2:=rfl
 have e1:((1:Int):Rat)=1:=rfl
 have e6:(((6*sp:Nat):Int):Rat)=6*(sp:Rat):=by rw [Rat.intCast_natCast,Rat.natCast_mul];rfl
 rw [e2] at o2
 rw [e1] at i2
 rw [e6] at r2
 have s0:(0:Rat)<=(sp:Rat):=Rat.natCast_nonneg
 have s1:(sp:Rat)<=32768:=Rat.natCast_le_natCast.mpr (Nat.le_of_lt h1)
 obtain ⟨a1,a2,a3⟩:=DE hf o1 (by rw [o2];grind -abstractProof) (by rw [o2];grind -abstractProof)
 rw [o2] at a2 a3
 obtain ⟨k1,k2,k3⟩:=CA s0 s1
 have bd:-3<=rv (Float64.mul hue (Float64.ofInt 2))/\rv (Float64.mul hue (Float64.ofInt 2))<=3:=⟨by clear hT k1 k2 k3 s0 s1 o2 r2;grind -abstractProof,by clear hT k1 k2 k3 s0 s1 o2 r2;grind -abstractProof⟩
 have v1:=ia bd.1 bd.2 k1 k2
 obtain ⟨b1,b2,b3⟩:=pj a1 r1 20 (by simp) (by rw [DR,r2];exact Std.lt_of_lt_of_le (show -1048576 < -(3*196608:Rat) by decide +kernel) v1.1) (by rw [DR,r2];exact Std.lt_of_le_of_lt v1.2 (show (3*196608:Rat)<1048576 by decide +kernel))
 rw [r2,DS] at b2 b3
 have v2:=ia (x:=rv (Float64.mul hue (Float64.ofInt 2)) - rv hue*2) (A:=eps) (by clear hT k1 k2 k3 s0 s1 b2 b3 v1;grind -abstractProof) (by clear hT k1 k2 k3 s0 s1 b2 b3 v1;grind -abstractProof) k1 k2
 have v3:=ia (x:=6*rv hue - t) (A:=16*eps) (by clear hT k1 k2 k3 s0 s1 b2 b3 v1 v2;grind -abstractProof) (by clear hT k1 k2 k3 s0 s1 b2 b3 v1 v2;grind -abstractProof) k3 s1
 have l1:(rv (Float64.mul hue (Float64.ofInt 2)) - rv hue*2)*(6*(sp:Rat))=rv (Float64.mul hue (Float64.ofInt 2))*(6*(sp:Rat)) - 12*(rv hue*(sp:Rat)):=by grind -abstractProof
 have l2:(6*rv hue - t)*(sp:Rat)=6*(rv hue*(sp:Rat)) - (T:Rat):=by rw [<-hT];grind -abstractProof
 rw [l1] at v2
 rw [l2] at v3
 have T0:(0:Rat)<=(T:Rat):=by rw [<-hT];exact Rat.mul_nonneg s0 t0
 generalize rv (Float64.mul hue (Float64.ofInt 2))*(6*(sp:Rat))=A at *
 generalize rv hue*(sp:Rat)=B at *
 generalize Float64.mul (Float64.mul hue (Float64.ofInt 2)) (Float64.ofInt ((6*sp:Nat):Int))=x at *
 clear l1 l2 a2 a3 n1 n2 bd o2 r2 hT t0 t6 lo up k1 k2 k3 s0 s1
 obtain ⟨c1,c2,c3⟩:=oz b1 i1 21 (by simp) (by rw [wx,i2];grind -abstractProof) (by rw [wx,i2];grind -abstractProof)
 rw [i2,yO] at c2 c3
 generalize Float64.add x (Float64.ofInt 1)=z at *
 obtain ⟨k1,k2,k3⟩:=oR c1 (by grind -abstractProof)
 refine ⟨c1.fin,?_⟩
 generalize jY z=q at *
 have d1:((2*T - 1:Int):Rat)<(q:Rat):=by
  rw [Rat.intCast_sub,Rat.intCast_mul,e2,e1];clear k1 c3;grind -abstractProof
 have d2:(q:Rat)<((2*T+2:Int):Rat):=by
  rw [Rat.intCast_add,Rat.intCast_mul,e2];clear k2 c2;grind -abstractProof
 have d1:=Rat.intCast_lt_intCast.mp d1
 have d2:=Rat.intCast_lt_intCast.mp d2
 rw [Int.fdiv_eq_ediv_of_nonneg _ (by simp)]
 omega
theorem kT {s x m M:Nat} {w:Rat} (hs:0<s) (h:(((x*s:Nat):Int):Rat)=(((m*s:Nat):Int):Rat)+((((M*s:Nat):Int):Rat) - (((m*s:Nat):Int):Rat))*w):(((x:Nat):Int):Rat)=(((m:Nat):Int):Rat)+((((M:Nat):Int):Rat) - (((m:Nat):Int):Rat))*w:=by
 simp only [Rat.intCast_natCast,Rat.natCast_mul] at *
 have hs':(0:Rat)<(s:Rat):=Rat.natCast_pos.mpr hs
 have:((x:Rat) - ((m:Rat)+((M:Rat) - (m:Rat))*w))*(s:Rat)=0:=by grind -abstractProof
 rcases Rat.mul_eq_zero.mp this with z | z<;>grind -abstractProof
theorem tG {c:Co} {s:Nat} {t:Rat} (hs:0<s) (W:Wheel (((c.r*s:Nat):Int):Rat) (((c.g*s:Nat):Int):Rat) (((c.b*s:Nat):Int):Rat) (((c.mx*s:Nat):Int):Rat) (((c.mn*s:Nat):Int):Rat) t) :
 Wheel (((c.r:Nat):Int):Rat) (((c.g:Nat):Int):Rat) (((c.b:Nat):Int):Rat) (((c.mx:Nat):Int):Rat) (((c.mn:Nat):Int):Rat) t:=by
 obtain ⟨⟨u,h1,e1⟩,⟨v,h2,e2⟩,⟨w,h3,e3⟩⟩:=W
 exact ⟨⟨u,h1,kT hs e1⟩,⟨v,h2,kT hs e2⟩,⟨w,h3,kT hs e3⟩⟩
theorem Bc {c:Co} {x:Nat} (h:x=c.r\/x=c.g\/x=c.b):x∈c.l:=by
 show x∈[c.r,c.g,c.b]
 simpa using h
theorem DF {c:Co} {x:Nat} (h:x∈c.l):x=c.r\/x=c.g\/x=c.b:=by
 have:x∈[c.r,c.g,c.b]:=h
 simpa using this
theorem rk (c:Co):c.add c.opp=⟨c.mn+(c.mx - c.mn)+c.mn,c.mn+(c.mx - c.mn)+c.mn,c.mn+(c.mx - c.mn)+c.mn⟩:=by
 obtain ⟨a1,a2,a3⟩:=c.mx_ge
 obtain ⟨b1,b2,b3⟩:=c.mn_le
 have e:∀ x,x<=c.mx->x+(c.mx+c.mn - x)=c.mn+(c.mx - c.mn)+c.mn:=fun x hx=>(Nat.add_sub_cancel' (Nat.le_trans hx (Nat.le_add_right _ _))).trans (congrArg (·+c.mn) (Nat.add_sub_cancel' (Nat.le_trans b1 a1)).symm)
 show (⟨c.r+(c.mx+c.mn - c.r),c.g+(c.mx+c.mn - c.g),c.b+(c.mx+c.mn - c.b)⟩:Co)=_
 rw [e _ a1,e _ a2,e _ a3]
theorem yt (c:Co) (h:c.Lt 32768):∃ m sp ring t,sj c (j1 c) c.opp m sp ring t:=by
 have G:=o5 (c:=c) (s:=16) (n:=32768) (by decide) h
 have hx:=Co.mx_lt h
 obtain ⟨a1,a2,a3⟩:=c.mx_ge
 obtain ⟨b1,b2,b3⟩:=c.mn_le
 have em:c.mn+(c.mx - c.mn)=c.mx:=Nat.add_sub_cancel' (Nat.le_trans b1 a1)
 have mm:c.mn∈c.l:=Bc (uz c)
 have xm:c.mn+(c.mx - c.mn)∈c.l:=by rw [em];exact Bc (qY c)
 have ml:∀ x∈c.l,c.mn<=x:=fun x hx=>by rcases DF hx with rfl | rfl | rfl<;>assumption
 have xl:∀ x∈c.l,x<=c.mn+(c.mx - c.mn):=fun x hx=>by rw [em];rcases DF hx with rfl | rfl | rfl<;>assumption
 by_cases hg:c.mn=c.mx
 ·have fq:feq (mnF (q15 c.r) (q15 c.g) (q15 c.b)) (mxF (q15 c.r) (q15 c.g) (q15 c.b))=true:=by rw [G.grey];exact decide_eq_true hg
  have e0:j1 c=0:=by unfold j1;rw [fq];rfl
  have es:c.mx - c.mn=0:=Nat.sub_eq_zero_of_le (Nat.le_of_eq hg.symm)
  rw [e0]
  have part:∀ k,k<3->c.l.getD k 0=c.mn:=at3 (Nat.le_antisymm (hg▸a1) b1) (Nat.le_antisymm (hg▸a2) b2) (Nat.le_antisymm (hg▸a3) b3)
  refine ⟨c.mn,c.mx - c.mn,1,0,mm,ml,xm,xl,(if_pos es).symm,by decide,by decide +kernel,by decide +kernel,by decide +kernel,by decide +kernel,fun _=>by decide +kernel,fun k hk=>?_,rk c⟩
  rw [part k hk,es]
  have:∀ y:Int,max 0 (min ((0:Nat):Int) y)=0:=fun y=>Int.max_eq_left (Int.min_le_left _ _)
  rw [this];exact Int.add_zero _
 ·have fq:feq (mnF (q15 c.r) (q15 c.g) (q15 c.b)) (mxF (q15 c.r) (q15 c.g) (q15 c.b))=false:=by rw [G.grey];exact decide_eq_false hg
  have e0:j1 c=fY (q15 c.r) (q15 c.g) (q15 c.b):=by unfold j1;rw [fq];rfl
  rw [e0]
  obtain ⟨t,H,W⟩:=G.hue hg
  have W:=tG G.s0 W
  obtain ⟨n,hn⟩:=wz W
  have hs:0<c.mx - c.mn:=Nat.sub_pos_of_lt (Nat.lt_of_le_of_ne (Nat.le_trans b1 a1) hg)
  have esp:(((c.mx - c.mn:Nat):Int):Rat)=(((c.mx:Nat):Int):Rat) - (((c.mn:Nat):Int):Rat):=by rw [<-Rat.intCast_sub,Rat.intCast_inj];exact Int.ofNat_sub (Nat.le_trans b1 a1)
  rw [<-esp] at hn
  generalize hsp:c.mx - c.mn=sp at *
  have n0:0<=n:=by
   refine Rat.intCast_nonneg.mp ?_
   rw [<-hn]
   exact Rat.mul_nonneg (Rat.intCast_nonneg.mpr (Int.natCast_nonneg _)) H.t0
  obtain ⟨N,rfl⟩:=Int.eq_ofNat_of_zero_le n0
  obtain ⟨f,st⟩:=Az (sp:=sp) H (by omega) (by rw [Rat.intCast_natCast] at hn;exact hn)
  obtain ⟨lo,up⟩:=z8 H
  have gp:∀ (k x:Nat) (w:Rat),Tn (t - 2*((k:Nat):Rat)) w->(((x:Nat):Int):Rat)=(((c.mn:Nat):Int):Rat)+((sp:Int):Rat)*w->(c.mn:Int)+max 0 (min (sp:Int) (2*(sp:Int) - oZ N sp ((6*sp:Nat):Int) (k:Int)))=(x:Int):=fun k x w hw hx=>by
   have:=xJ (sp:=(sp:Int)) (T:=(N:Int)) (t:=t) (k:=k) (by omega) hn hw
   have e6:((6*sp:Nat):Int)=6*(sp:Int):=Int.natCast_mul 6 sp
   rw [e6,<-Rat.intCast_inj,Rat.intCast_add,this,hx]
  obtain ⟨⟨u,u1,u2⟩,⟨v,v1,v2⟩,⟨w,w1,w2⟩⟩:=W
  rw [<-esp] at u2 v2 w2
  refine ⟨c.mn,sp,6*sp,N,mm,ml,xm,xl,(if_neg (by omega)).symm,by omega,f,st,lo,up,fun q=>by omega,?_,hsp▸rk c⟩
  have s0:t - 2*((0:Nat):Rat)=t:=by rw [show ((0:Nat):Rat)=0 from rfl];grind -abstractProof
  have s1:t - 2*((1:Nat):Rat)=t - 2:=by rw [show ((1:Nat):Rat)=1 from rfl];grind -abstractProof
  have s2:t - 2*((2:Nat):Rat)=t - 4:=by rw [show ((2:Nat):Rat)=2 from rfl];grind -abstractProof
  exact at3 (gp 0 c.r u (s0.symm▸u1) u2) (gp 1 c.g v (s1.symm▸v1) v2) (gp 2 c.b w (s2.symm▸w1) w2)
end
section
open PySem PySem.Float64
set_option exponentiation.threshold 3000
theorem uu {c:Co} (h:c.Lt 262144):wE c/\Fn' (dT c):=by
 have G:=o5 (c:=c) (s:=2) (n:=262144) (by decide) h
 have G':Grid (q18 c.r) (q18 c.g) (q18 c.b) c 2:=G
 unfold wE dT
 rw [G'.grey]
 by_cases hg:c.mn=c.mx
 ·rw [decide_eq_true hg]
  exact ⟨⟨h,fun q=>by cases q⟩,z0.1⟩
 ·rw [decide_eq_false hg]
  obtain ⟨t,H,W⟩:=G'.hue hg
  have m0:(0:Int)<=((c.mn*2:Nat):Int):=Int.natCast_nonneg _
  have M1:((c.mx*2:Nat):Int)<=524288:=Int.ofNat_le.mpr G.M1
  obtain ⟨hR,_,zm,zr⟩:=o4 G'.M G'.m m0 (G'.ne hg) M1
  obtain ⟨A,B,kA,kB,b0,a1,lo⟩:=sH m0 (G'.ne hg) M1
  obtain ⟨c1,c2,_⟩:=Bd G'.M G'.m m0 (G'.ne hg) M1 (l:=de (q18 c.r) (q18 c.g) (q18 c.b)) (s:=jz (q18 c.r) (q18 c.g) (q18 c.b)) (rg:=rgF (q18 c.r) (q18 c.g) (q18 c.b)) rfl rfl rfl kA kB
  exact ⟨⟨h,fun _=>⟨zm,fun _=>c1,fun _=>c2,zr⟩⟩,H.fn⟩
theorem wh {f:Nat->Co} {s m:Nat} (hf:∀ j,j<8->(f j).Lt 4096) (hs:s<2097152):hV f s m (g1 m s f) (g2 m s f) (g3 m s f):=by
 have P:=wg (m:=m) (s:=s) hf
 have hp:m / 1088 % 8<8:=Nat.mod_lt _ (by decide)
 have hb:(aR (fun k=>(g3 m s f k).c) (m / 1088 % 8) 8).Lt 262144:=by
  obtain ⟨x,y,z⟩:=tS (g:=fun k=>(g3 m s f k).c) (j:=m / 1088 % 8) (fun k hk=>(P.o3 k hk).2) 8 (Nat.le_refl _)
  exact ⟨Nat.lt_of_le_of_lt x (by decide),Nat.lt_of_le_of_lt y (by decide),Nat.lt_of_le_of_lt z (by decide)⟩
 have hc:=hf _ hp
 have hF:=uu (hc.mono (by decide))
 have eb:=y6 (m:=m) (s:=s) (f:=f) hp
 refine ⟨wK,yt,P,Bk hs,?_,fun k _=>by rw [qU];exact (iD m k).mask,fun k _=>yH m k,fun k _=>by rw [ku];exact (iD m k).chars,fun k _=>CC m k,El m,AI,eb,(uu hb).1,hF.1,vO hb (hc.mono (by decide)) eb,?_⟩
 ·exact Bk (f:=fun j=>f (j+4)) (u:=s / 256) hs
 ·rw [sN hF.2 hF.2];exact decide_eq_true rfl
theorem zq (l:List Int) (k:Nat):(bY l k).Lt 4096:=⟨Nat.mod_lt _ (by decide),Nat.mod_lt _ (by decide),Nat.mod_lt _ (by decide)⟩
theorem Cj (l:List Int):hV (bY l) (br l) (aw l) (g1 (aw l) (br l) (bY l)) (g2 (aw l) (br l) (bY l)) (g3 (aw l) (br l) (bY l)) :=
 wh (fun j _=>zq l j) (Nat.mod_lt _ (by decide))
end
section
end
section
theorem Ci {l:List Int} (hl:l.length<=63):(ck l none (some 60) none).length<=1000:=by
 unfold ck
 refine Nat.le_trans (List.length_filterMap_le _ _) ?_
 show (PySem.sliceRange 0 (max 0 (min 60 (l.length:Int))) 1).length<=1000
 have:max 0 (min 60 (l.length:Int))=((min 60 l.length:Nat):Int):=by lia -abstractProof
 rw [this]
 have h60:min 60 l.length<=60:=Nat.min_le_left _ _
 generalize min 60 l.length=n at *
 unfold PySem.sliceRange
 rw [List.length_map,List.length_range,if_pos (by exact Int.one_pos)]
 split<;>lia -abstractProof
end
section
open PySem PySem.W PyProof.Rows
theorem qQ {α:Type}:∀ {ps:List Str} {vals:List α} {x:Str},ps.length=vals.length->x∈ps->((ps.zip vals).lookup x).isSome=true
 | [],_,_,_,h=>nomatch h
 | p::ps,[],_,h,_=>nomatch h
 | p::ps,v::vals,x,h,hx=>by
   simp only [List.zip_cons_cons,List.lookup_cons]
   cases e:x==p with
   | true=>rfl
   | false =>
     rcases List.mem_cons.mp hx with rfl | hx
     ·simp at e
     ·exact qQ (by simpa using h) hx
theorem qP {α:Type}:∀ {ps:List Str} {vals:List α} {l:List (Str × α)},ps.Nodup->ps.length=vals.length->(∀ x∈ps,l.lookup x=(ps.zip vals).lookup x)->ps.filterMap (fun n=>(l.lookup n).map (n,·))=ps.zip vals
 | [],_,_,_,_,_=>rfl
 | p::ps,[],_,_,h,_=>nomatch h
 | p::ps,v::vals,l,hn,h,hl=>by
   obtain ⟨n1,n2⟩:=List.nodup_cons.mp hn
   rw [List.filterMap_cons,hl p (.head _),List.zip_cons_cons,List.lookup_cons,beq_self_eq_true]
   simp only [Option.map_some]
   rw [qP n2 (by simpa using h) fun x hx=>?_]
   rw [hl x (.tail _ hx),List.zip_cons_cons,List.lookup_cons,beq_eq_false_iff_ne.mpr (fun q=>n1 (by rw [<-q];exact hx))]
noncomputable def rp (p:Arguments) (ps:List Str):Bool:=p.posonlyargs.isEmpty&&p.kwonlyargs.isEmpty&&p.vararg.isNone&&p.kwarg.isNone&&decide (p.args.map (·.arg)=ps)
theorem q8 {α:Type} {c:Prop} [Decidable c] {x y r:α} (h:¬ c) (e:y=r):(if c then x else y)=r:=(if_neg h).trans e
theorem wN {β γ δ:Type} {z:List γ} {s:β} {f:γ->β->Sem (ForInStep β)} {g:β->Sem δ} {r:Sem δ} (h:z=[]) (e:g s=r):(forIn z s f >>= g)=r:=by subst h;exact e
theorem tU {fd:FuncData} {ps:List Str} (h:rp fd.params ps=true) (hn:ps.Nodup) (hd:fd.defaults=.none) {vals:List Value} (hl:vals.length=ps.length):bindArgs fd ⟨vals,[]⟩=pure (ps.zip vals):=by
 obtain ⟨n,qn,⟨po,ar,va,ko,kd,kw,df⟩,bd,sc,gl,cl,d,kwd,doc,pm,an,co,ct,bl⟩:=fd
 unfold rp at h
 simp only [Bool.and_eq_true,List.isEmpty_iff,Option.isNone_iff_eq_none,decide_eq_true_eq] at h hd
 obtain ⟨⟨⟨⟨rfl,rfl⟩,rfl⟩,rfl⟩,hp⟩:=h
 subst hd
 subst hp
 refine q8 (fun q=>Nat.lt_irrefl _ (Nat.lt_of_lt_of_eq (of_decide_eq_true (Bool.and_eq_true_iff.mp q).1) hl)) (q8 (fun q=>Bool.noConfusion ((congrArg (fun l=>!(List.isEmpty l)) (List.filter_eq_nil_iff.mpr fun x hx=>?_)).symm.trans q)) ?_)
 ·have s:=qQ hl.symm (List.mem_of_mem_take hx)
  exact fun q=>Bool.false_ne_true ((congrArg Option.isSome (Option.isNone_iff_eq_none.mp q)).symm.trans s)
 ·have hz:∀ (l:List Str) (i j:Nat),(l.drop i).zip (([]:List Value).drop j)=[]:=fun l i j=>by rw [List.drop_nil,List.zip_nil_right]
  refine wN (hz _ _ _) ?_
  exact congrArg (fun l=>(pure l:Sem (List (Str × Value)))) ((congrArg (List.filterMap fun n=>(((ar.map fun x=>x.arg).zip vals).lookup n).map (n,·)) (List.append_nil (ar.map fun x=>x.arg))).trans (qP hn hl.symm fun x _=>rfl))
noncomputable def DL (sc:Scope) (ps:List Str):Bool:=decide (sc.kind=.function)&&!sc.isCoroutine&&!sc.isGenerator&&decide (sc.names.map (·.1)).Nodup&&ps.all (fun x=>iv (kindIn sc x))&&decide ps.Nodup&&sc.names.all fun p=>decide (p.2≠.free)
noncomputable def lH:Data->Option (Array Value)
 | .fields vs=>some vs
 | _=>none
noncomputable def um:Data->Option FuncData
 | .func fd=>some fd
 | _=>none
noncomputable def AB:Value->Option Str
 | .str q _=>some q
 | _=>none
noncomputable def yp:Value->Option Addr
 | .ref c=>some c
 | _=>none
noncomputable def uF:Value->Bool
 | .none=>true
 | _=>false
noncomputable def tu:FuncBody->Option (List Stmt)
 | .stmts b=>some b
 | _=>none
theorem sO {d:Data} {vs:Array Value} (h:lH d=some vs):d=.fields vs:=by unfold lH at h;split at h<;>cases h;rfl
theorem qI {d:Data} {fd:FuncData} (h:um d=some fd):d=.func fd:=by unfold um at h;split at h<;>cases h;rfl
theorem uU {v:Value} {q:Str} (h:AB v=some q):∃ t,v=.str q t:=by unfold AB at h;split at h<;>cases h;exact ⟨_,rfl⟩
theorem pP {v:Value} {c:Addr} (h:yp v=some c):v=.ref c:=by unfold yp at h;split at h<;>cases h;rfl
theorem yc {v:Value} (h:uF v=true):v=.none:=by
 unfold uF at h
 split at h
 ·rfl
 ·cases h
theorem wq {d:FuncBody} {b:List Stmt} (h:tu d=some b):d=.stmts b:=by unfold tu at h;split at h<;>cases h;rfl
noncomputable def lX (h:Heap) (c:Addr):Option Str:=(h.get? c).bind fun o=>(lH o.data).bind fun vs=>(vs[1]?:Option Value).bind AB
theorem vn {h:Heap} {c:Addr} {q:Str} (e:lX h c=some q):h.CodeRec (.ref c) q:=by
 obtain ⟨o,ho,e⟩:=Option.bind_eq_some_iff.mp e
 obtain ⟨vs,hd,e⟩:=Option.bind_eq_some_iff.mp e
 obtain ⟨v,hv,e⟩:=Option.bind_eq_some_iff.mp e
 obtain ⟨t,rfl⟩:=uU e
 exact ⟨c,o,vs,t,rfl,ho,sO hd,hv⟩
noncomputable def mq (h:Heap) (tab a:Addr) (ps:List Str):Option (List Stmt × Scope):=(h.get? a).bind fun o=>(um o.data).bind fun fd=>(tu fd.body).bind fun b=>(yp fd.code).bind fun c =>
 bif (uF fd.defaults&&(a != tab&&(c != tab&&(fd.closure.isEmpty&&(fd.globals==mainGlobals&&(fd.builtins==builtinsNs&&(rp fd.params ps&&(decide (lX h c=some fd.qualname)&&DL fd.scope ps)))))))) then some (b,fd.scope) else none
theorem eo {a b:Bool} (h:(a&&b)=true):a=true/\b=true:=Bool.and_eq_true_iff.mp h
theorem zY {sc:Scope} (h:(sc.names.all fun p=>decide (p.2≠.free))=true) (x:Str):kindIn sc x≠some .free:=fun q=>by
 unfold kindIn at q
 have:∀ l:List (Str × NameKind),(l.all fun p=>decide (p.2≠.free))=true->l.lookup x≠some .free:=fun l=>by
  induction l with
  | nil=>intro _ q;cases q
  | cons p l ih =>
    intro h q
    rw [List.all_cons,Bool.and_eq_true] at h
    rw [List.lookup_cons] at q
    split at q
    ·lia -abstractProof
    ·exact ih h.2 q
 exact this _ h q
theorem lL {C:Cx} {h:Heap} {a:Addr} {ps:List Str} {b:List Stmt} {sc:Scope} (hk:∀ b o,h.get? b=some o->C.base.get? b=some o) (e:mq h C.tab a ps=some (b,sc)):sd C a ps sc b/\Fn C (.ref a):=by
 obtain ⟨o,ho,e⟩:=Option.bind_eq_some_iff.mp e
 obtain ⟨fd,hd,e⟩:=Option.bind_eq_some_iff.mp e
 obtain ⟨b',h1,e⟩:=Option.bind_eq_some_iff.mp e
 obtain ⟨c,h2,e⟩:=Option.bind_eq_some_iff.mp e
 cases ht:(uF fd.defaults&&(a != C.tab&&(c != C.tab&&(fd.closure.isEmpty&&(fd.globals==mainGlobals&&(fd.builtins==builtinsNs&&(rp fd.params ps&&(decide (lX h c=some fd.qualname)&&DL fd.scope ps)))))))) with
 | false=>rw [ht] at e;cases e
 | true =>
   rw [ht] at e
   cases e
   have t:=eo ht
   have t2:=eo t.2
   have t3:=eo t2.2
   have t4:=eo t3.2
   have t5:=eo t4.2
   have t6:=eo t5.2
   have t7:=eo t6.2
   have t8:=eo t7.2
   have n1:a≠C.tab:=bne_iff_ne.mp t2.1
   have hd':=qI hd
   obtain ⟨s1,s2⟩:=eo t8.2
   obtain ⟨s3,s4⟩:=eo s1
   obtain ⟨s5,s6⟩:=eo s3
   obtain ⟨s7,s8⟩:=eo s5
   obtain ⟨s9,s10⟩:=eo s7
   obtain ⟨s11,s12⟩:=eo s9
   have f1:fd.scope.isCoroutine=false:=by cases q:fd.scope.isCoroutine with | false=>rfl | true=>rw [q] at s12;cases s12
   have f2:fd.scope.isGenerator=false:=by cases q:fd.scope.isGenerator with | false=>rfl | true=>rw [q] at s10;cases s10
   refine ⟨⟨⟨o,fd,c,hk _ _ ho,n1,hd',wq h1,rfl,List.isEmpty_iff.mp t4.1,beq_iff_eq.mp t5.1,beq_iff_eq.mp t6.1,pP h2,bne_iff_ne.mp t3.1,?_,fun vals hl=>tU t7.1 (of_decide_eq_true s4) (yc t.1) hl⟩,of_decide_eq_true s11,f1,f2,of_decide_eq_true s8,List.all_eq_true.mp s6,of_decide_eq_true s4,zY s2⟩,.fn a o fd (hk _ _ ho) n1 hd'⟩
   rw [pP h2]
   exact (vn (of_decide_eq_true t8.1)).keeps hk
noncomputable def Dr:Stmt->Option (Str × List Str × List Stmt × Scope)
 | .FunctionDef name prm body _ _ _ sc _ _ _=>some (name,prm.args.map (·.arg),body,sc)
 | _=>none
noncomputable def lg (p:Program):List (Str × List Str × List Stmt × Scope):=p.main.body.filterMap Dr
noncomputable def ew (p:Program):List (Str × List Str × List Stmt × Scope):=(p.main.body.filterMap fun
 | .ClassDef _ _ _ body _ _ _ _ _ _ _=>some (body.filterMap Dr)
 | _=>none).flatten
noncomputable def adr (h:Heap) (x:Str):Addr:=match h.nsMap mainGlobals x with
 | some (.ref a)=>a
 | _=>0
end
section
open PySem PySem.W PyProof.Rows
noncomputable def B2:Value->Option Int
 | .int k _=>some k
 | _=>none
theorem Aa {v:Value} {k:Int} (h:B2 v=some k):∃ t,v=.int k t:=by unfold B2 at h;split at h<;>cases h;exact ⟨_,rfl⟩
noncomputable def gU:List DictEntry->Option (List (Int × List Nat))
 | []=>some []
 | e::r=>(B2 e.key).bind fun k=>(AB e.val).bind fun s=>bif e.hash==hashInt k then (gU r).map ((k,nm s)::·) else none
theorem i7 {e:DictEntry} {r:List DictEntry} {l:List (Int × List Nat)} (h:gU (e::r)=some l):∃ k t s u l',e.key=.int k t/\e.val=.str s u/\e.hash=hashInt k/\gU r=some l'/\l=(k,nm s)::l':=by
 obtain ⟨k,hk,h⟩:=Option.bind_eq_some_iff.mp h
 obtain ⟨s,hv,h⟩:=Option.bind_eq_some_iff.mp h
 obtain ⟨t,ht⟩:=Aa hk
 obtain ⟨u,hu⟩:=uU hv
 cases hh:(e.hash==hashInt k) with
 | false=>rw [hh] at h;cases h
 | true =>
   rw [hh,cond_true] at h
   obtain ⟨l',h1,h2⟩:=Option.map_eq_some_iff.mp h
   exact ⟨k,t,s,u,l',ht,hu,beq_iff_eq.mp hh,h1,h2.symm⟩
theorem nJ:∀ {es:List DictEntry} {l:List (Int × List Nat)},gU es=some l->(∀ e∈es,∃ k,Value.isInt k e.key=true/\e.hash=hashInt k)/\(∀ k,(es.find? fun e=>Value.isInt k e.key).map (·.val)=wB (l.map (·.1)) (es.map (·.val)) k)
 | [],l,h=>by cases h;exact ⟨fun e he=>(nomatch he),fun k=>rfl⟩
 | e::r,l,h=>by
   obtain ⟨k,t,s,u,l',h1,h2,h3,h4,rfl⟩:=i7 h
   obtain ⟨i1,i2⟩:=nJ h4
   refine ⟨fun e' he=>?_,fun k'=>?_⟩
   ·rcases List.mem_cons.mp he with rfl | he
    ·exact ⟨k,by rw [h1];exact W.isInt_self k t,h3⟩
    ·exact i1 e' he
   ·rw [List.find?_cons,h1]
    show Option.map _ (match Value.isInt k' (.int k t) with | true=>some e | false=>_)=_
    unfold wB
    rw [List.map_cons,List.map_cons,List.zip_cons_cons,List.lookup_cons]
    have e1:Value.isInt k' (.int k t)=(k==k'):=rfl
    rw [e1]
    by_cases q:k=k'
    ·subst q;simp
    ·rw [beq_eq_false_iff_ne.mpr q,beq_eq_false_iff_ne.mpr (Ne.symm q)];exact i2 k'
theorem nK {C:Cx} {X:Wld} {n:Nat} {h:Heap}:∀ {es:List DictEntry} {l:List (Int × List Nat)},gU es=some l->VsRel C X n h (a9 (l.map (·.2))) (es.map (·.val))
 | [],l,e=>by cases e;exact .nil
 | e::r,l,q=>by
   obtain ⟨k,t,s,u,l',h1,h2,h3,h4,rfl⟩:=i7 q
   rw [List.map_cons,List.map_cons]
   refine .cons ?_ (nK h4)
   exact ⟨u,by assumption⟩
noncomputable def jP (h:Heap) (tab:Addr) (x:Str):Option (List (Int × List Nat)):=match h.nsMap mainGlobals x with
 | some (.ref p)=>(match h.get? p with
   | some ⟨.type t,none,.dict es _,sl⟩=>bif t == "dict"&&sl.isEmpty&&p != sysModules&&p != tab then gU es.toList else none
   | _=>none)
 | _=>none
theorem vw {C:Cx} {h:Heap} {x:Str} {l:List (Int × List Nat)} (e:jP h C.tab x=some l):∃ p,h.nsMap mainGlobals x=some (.ref p) /\
 ∀ X n h',(∀ b o,h.get? b=some o->b≠C.tab->X.Z b/\h'.get? b=some o)->VRel C X n h' (.dict (l.map (·.1)) (a9 (l.map (·.2)))) (.ref p):=by
 unfold jP at e
 split at e
 ·rename_i p hp
  split at e
  ·rename_i t es ep sl ho
   cases ht:(t == "dict"&&sl.isEmpty&&p != sysModules&&p != C.tab) with
   | false=>rw [ht] at e;cases e
   | true =>
     rw [ht,cond_true] at e
     simp only [Bool.and_eq_true,beq_iff_eq,bne_iff_ne] at ht
     obtain ⟨⟨⟨t1,t2⟩,t3⟩,t4⟩:=ht
     refine ⟨p,hp,fun X n h' hk=>?_⟩
     obtain ⟨z,g⟩:=hk p _ ho t4
     obtain ⟨k1,k2⟩:=nJ e
     refine ⟨p,es.toList.map (·.val),rfl,z,t3,⟨_,es,ep,g,⟨by rw [t1],rfl,Array.isEmpty_iff.mp t2⟩,rfl,fun e' he=>k1 e' (Array.mem_toList_iff.mpr he),fun k=>?_⟩,nK e⟩
     unfold findBy
     rw [<-Array.find?_toList]
     exact k2 k
  ·cases e
 ·cases e
noncomputable def ud (h:Heap) (x:Str):Option UInt64:=match h.nsMap mainGlobals x with
 | some (.float b _)=>some b
 | _=>none
theorem xz {h:Heap} {x:Str} {b:UInt64} (e:ud h x=some b):∃ t,h.nsMap mainGlobals x=some (.float b t):=by
 unfold ud at e
 split at e
 ·rename_i b' t hb
  cases e
  exact ⟨t,hb⟩
 ·cases e
noncomputable def pe (h:Heap):Option (Addr × Str):=(h.get? (adr h "_law_lexer")).bind fun o=>(um o.data).bind fun fd=>(yp fd.code).bind fun c=>some (c,fd.qualname)
noncomputable def vU (h:Heap):Addr:=match pe h with | some (c,_)=>c | none=>0
noncomputable def dX (h:Heap):Addr:=(((h.get? (vU h)).bind fun o=>(lH o.data).bind fun vs=>(vs[11]?:Option Value).bind yp)).getD 0
noncomputable def xH (h:Heap) (tab:Addr) (n:Nat):Frag:=(List.range n).filterMap fun a=>bif a==tab then none else (h.get? a).map (a,·)
noncomputable def aT (h:Heap):Frag:=xH h (dX h) h.objs.size
theorem qR {f:Addr->Option Obj} {a:Addr} {o:Obj}:∀ {l:List Nat},(l.filterMap fun a=>(f a).map (a,·)).lookup a=some o->f a=some o:=by
 intro l
 induction l with
 | nil =>
   intro e
   cases e
 | cons b l ih =>
   intro e
   rw [List.filterMap_cons] at e
   cases hb:f b with
   | none=>rw [hb] at e;exact ih e
   | some o' =>
     rw [hb] at e
     dsimp only [Option.map_some,List.lookup_cons] at e
     split at e
     ·rename_i q
      rw [beq_iff_eq.mp q,hb];exact e
     ·exact ih e
theorem uk {h:Heap} {a:Addr} {o:Obj} (e:(aT h).lookup a=some o):a≠dX h/\h.get? a=some o:=by
 unfold aT xH at e
 have:(fun a=>bif a==dX h then none else (h.get? a).map (a,·))=fun a=>((bif a==dX h then none else h.get? a:Option Obj)).map (a,·):=by
  funext a;cases a==dX h<;>rfl
 rw [this] at e
 have:=qR e
 cases q:a==dX h with
 | true=>rw [q] at this;cases this
 | false=>rw [q] at this;exact ⟨beq_eq_false_iff_ne.mp q,this⟩
end
section
open PySem PySem.W PyProof.Rows
set_option maxRecDepth 100000
noncomputable def fU (h:Heap):Addr:=adr h "_netrclex"
noncomputable def Bl:Option (Option Value)->Addr
 | some (some (.ref a))=>a
 | _=>0
noncomputable def lN:Option (Option Value)->Bool
 | some (some (.ref _))=>true
 | _=>false
theorem tr {r:Option (Option Value)} (h:lN r=true):r=some (some (.ref (Bl r))):=by
 unfold lN at h
 split at h
 ·rfl
 ·cases h
noncomputable def nS:Option Value->Bool
 | some (.ref _)=>true
 | _=>false
theorem wJ {h:Heap} {x:Str} (e:nS (h.nsMap mainGlobals x)=true):h.nsMap mainGlobals x=some (.ref (adr h x)):=by
 unfold adr
 unfold nS at e
 split at e
 ·rename_i a q;rw [q]
 ·cases e
noncomputable def fC (h:Heap) (x:Str):Addr:=Bl (findIn (aT h) (.ref (fU h)) x)
noncomputable def bfL:List (Nm × Bf):=[(mI,.sum),(uC,.len),(j7,.max),(i9,.min),(aY,.range),(lj,.int),(uB,.chr),(uD,.ord),(li,.hex),(mE,.list),(jr,.iter),(mF,.next),(q6,.sorted)]
noncomputable def fltL:List (Nm × UInt64):=[(gG,F13),(gF,F16),(fc,F23)]
noncomputable def y8 (h:Heap):Bool:=match h.nsMap mainGlobals "__builtins__" with
 | some (.ref bm)=>(match h.get? bm with
   | some ⟨.type t,some d,.plain,_⟩=>bm != builtinsNs&&bm != mainGlobals&&bm != dX h&&t == "module"&&d==builtinsNs
   | _=>false)
 | _=>false
theorem y9 {h:Heap} (e:y8 h=true):h.BuiltinsAt (h.nsMap mainGlobals) (dX h):=by
 unfold y8 at e
 split at e
 ·rename_i bm hb
  split at e
  ·rename_i t d sl ho
   simp only [Bool.and_eq_true,beq_iff_eq,bne_iff_ne] at e
   obtain ⟨⟨⟨⟨e1,e2⟩,e3⟩,e4⟩,e5⟩:=e
   exact ⟨bm,_,hb,e1,e2,e3,ho,by rw [e4],by rw [e5],rfl⟩
  ·cases e
 ·cases e
noncomputable def uv:Str := "_law_lexer.<locals>.<lambda>"
noncomputable def to (h:Heap):Bool:=match pe h with
 | some (_,q)=>decide ((q ++ ".<locals>.") ++ "<lambda>"=uv)
 | none=>false
noncomputable def BG (p:Program) (h:Heap):Bool :=
 plainGet (aT h) (fU h) default&&hasDictIn (aT h) (fU h)&&plainOver (aT h) (fU h)&&makesIn (aT h) (fU h)&&keepIn (aT h) (.ref (fU h)) &&
 codeHdIn (aT h) (vU h) (dX h)&&to h&&y8 h&&mainGlobals != dX h&&builtinsNs != dX h&&cStatics != dX h&&h.isNs mainGlobals&&h.isNs builtinsNs&&h.isNs cStatics&&(h.nsMap cStatics "sys.recursionlimit").isNone&&(h.nsMap cStatics sharingNotToldKey).isNone &&
 (ew p).all (fun d=>lN (findIn (aT h) (.ref (fU h)) d.1)&&isFn (aT h) (.ref (fC h d.1)))&&nS (h.nsMap mainGlobals "_netrclex")&&(lg p).all fun d=>nS (h.nsMap mainGlobals d.1)
noncomputable abbrev Data:Type:=List (Option (List Stmt × Scope)) × List (Option (List Stmt × Scope)) × Option (List (Int × List Nat)) × List (Option UInt64) × List (Option Value × Option Value) × List (Option (Option Value)) × Option Bool × Option Value × List (Option (Option Value) × Option (Option Value)) × Option Obj × Bool
noncomputable def pC (p:Program) (h:Heap):Data :=
 ((lg p).map (fun d=>mq h (dX h) (adr h d.1) d.2.1),(ew p).map (fun d=>mq h (dX h) (fC h d.1) d.2.1),jP h (dX h) "COMPILER_FLAG_NAMES",fltL.map (fun x=>ud h (ao x.1)),
  bfL.map (fun b=>(h.nsMap mainGlobals (ao b.1),h.nsMap builtinsNs (ao b.1))),[findIn (aT h) (.ref (fU h)) "__setattr__",specialIn (aT h) (.ref (fC h "_read_char")) "__get__"],takesIn (aT h) (.ref (fC h "_read_char")),
  typeIn (aT h) (.ref (fC h "__init__")),[aS,aN,bZ,dN].map (fun x=>(findIn (aT h) (.ref (fU h)) x,takerIn (aT h) (fU h) x)),h.get? (dX h),BG p h)
noncomputable def oG (p:Program):Data :=
 ((lg p).map (fun d=>some (d.2.2.1,d.2.2.2)),(ew p).map (fun d=>some (d.2.2.1,d.2.2.2)),some (flagKeys.zip wordsL),fltL.map (fun x=>some x.2),
  bfL.map (fun b=>(none,some b.2.val)),[some (some (.builtin "object.__setattr__")),some (some (.builtin "function.__get__"))],some false,some (.type "function"),[aS,aN,bZ,dN].map (fun _=>(some none,some none)),some (tabObj #[]),true)
noncomputable def fb (p:Program):Hook where
 α:=Data
 obs:=fun s=>pC p s.heap
 val:=fun _=>oG p
 says:=fun _ h'=>∃ h:Heap,pC p h=oG p/\∀ b o,h.get? b=some o->h'.get? b=some o
 of:=fun w s e=>⟨s.heap,e,fun _ _ q=>q⟩
 keeps:=fun w h h' x k=>let ⟨h0,e,q⟩:=x;⟨h0,e,fun b o g=>k _ _ (q b o g)⟩
structure Lam where
 P:Arguments
 B:Expr
 S:Scope
noncomputable def uo (p:Program) (h:Heap):Loc:=(lg p).map (fun d=>(nm d.1,V.fn (adr h d.1)))++((aX,jZ)::(gH,.fn (fU h))::(fltL.map (fun x=>(x.1,V.flt x.2))++bfL.map fun b=>(b.1,V.bf b.2)))
noncomputable def dS (p:Program) (w:World) (h h':Heap) (os:OsState) (L:Lam):Cx :=
 { prog:=p,w:=w,mg:=h.nsMap mainGlobals,mb:=h.nsMap builtinsNs,base:=h',os:=os,gens:=#[],tab:=dX h,cod:=vU h,glob:=Mine.get (uo p h),K:=aT h,cls:=fU h,rc:=fC h "_read_char",
   lamP:=L.P,lamB:=L.B,lamS:=L.S,lamN := "<lambda>",lamQ:=uv }
section
variable {p:Program} {w:World} {h h':Heap} {os:OsState} {L:Lam} (e:pC p h=oG p) (hk:∀ b o,h.get? b=some o->h'.get? b=some o)
theorem zZ:∀ {l:Loc} {x:Nm} {v:V},Mine.get l x=some v->(x,v)∈l:=by
 intro l
 induction l with
 | nil =>
   intro _ _ q
   exact nomatch q
 | cons hd0 r ih =>
   intro x v q
   obtain ⟨y,u⟩:=hd0
   rw [Mine.get] at q
   cases hq:eqn y x with
   | true=>rw [hq,cond_true] at q;cases q;rw [eqn_iff.mp hq];exact .head _
   | false=>rw [hq,cond_false] at q;exact .tail _ (ih q)
theorem j5 {α β:Type} {f g:α->β} {l:List α} (q:l.map f=l.map g):∀ x∈l,f x=g x:=List.map_inj_left.mp q
include e
theorem D0:BG p h=true:=(Prod.mk.inj (Prod.mk.inj (Prod.mk.inj (Prod.mk.inj (Prod.mk.inj (Prod.mk.inj (Prod.mk.inj (Prod.mk.inj (Prod.mk.inj (Prod.mk.inj e).2).2).2).2).2).2).2).2).2).2
theorem xE:∀ d∈lg p,mq h (dX h) (adr h d.1) d.2.1=some (d.2.2.1,d.2.2.2):=j5 (Prod.mk.inj e).1
theorem qW:∀ d∈ew p,mq h (dX h) (fC h d.1) d.2.1=some (d.2.2.1,d.2.2.2):=j5 (Prod.mk.inj (Prod.mk.inj e).2).1
theorem zu:jP h (dX h) "COMPILER_FLAG_NAMES"=some (flagKeys.zip wordsL):=(Prod.mk.inj (Prod.mk.inj (Prod.mk.inj e).2).2).1
theorem zQ:∀ x∈fltL,ud h (ao x.1)=some x.2:=j5 (Prod.mk.inj (Prod.mk.inj (Prod.mk.inj (Prod.mk.inj e).2).2).2).1
theorem Bz:∀ b∈bfL,(h.nsMap mainGlobals (ao b.1),h.nsMap builtinsNs (ao b.1))=((none:Option Value),some b.2.val):=j5 (Prod.mk.inj (Prod.mk.inj (Prod.mk.inj (Prod.mk.inj (Prod.mk.inj e).2).2).2).2).1
structure Br (p:Program) (h:Heap):Prop where
 plain:plainGet (aT h) (fU h) default=true
 hasDict:hasDictIn (aT h) (fU h)=true
 over:plainOver (aT h) (fU h)=true
 makes:makesIn (aT h) (fU h)=true
 keep:keepIn (aT h) (.ref (fU h))=true
 code:codeHdIn (aT h) (vU h) (dX h)=true
 qual:to h=true
 bm:y8 h=true
 ng:mainGlobals≠dX h
 nb:builtinsNs≠dX h
 ns:cStatics≠dX h
 gns:h.isNs mainGlobals=true
 bns:h.isNs builtinsNs=true
 sns:h.isNs cStatics=true
 lim:h.nsMap cStatics "sys.recursionlimit"=none
 bk:h.nsMap cStatics sharingNotToldKey=none
 meths:∀ d∈ew p,lN (findIn (aT h) (.ref (fU h)) d.1)=true/\isFn (aT h) (.ref (fC h d.1))=true
 cls:nS (h.nsMap mainGlobals "_netrclex")=true
 fns:∀ d∈lg p,nS (h.nsMap mainGlobals d.1)=true
theorem iC:Br p h:=by
 have b:=D0 e
 unfold BG at b
 simp only [Bool.and_eq_true,bne_iff_ne,ne_eq,List.all_eq_true,Option.isNone_iff_eq_none] at b
 obtain ⟨⟨⟨⟨⟨⟨⟨⟨⟨⟨⟨⟨⟨⟨⟨⟨⟨⟨b1,b2⟩,b3⟩,b4⟩,b5⟩,b6⟩,b7⟩,b8⟩,b9⟩,b10⟩,b11⟩,b12⟩,b13⟩,b14⟩,b15⟩,b16⟩,b17⟩,b18⟩,b19⟩:=b
 exact ⟨b1,b2,b3,b4,b5,b6,b7,b8,b9,b10,b11,b12,b13,b14,b15,b16,b17,b18,b19⟩
include hk
theorem booked:NoneBooked (dS p w h h' os L).base:=⟨_,(Heap.Ns.of_isNs (iC e).sns).keeps hk,(iC e).bk⟩
theorem cok:COk (dS p w h h' os L):=by
 have B:=iC e
 refine ⟨(Heap.Ns.of_isNs B.gns).keeps hk,(Heap.Ns.of_isNs B.bns).keeps hk,B.ng,B.nb,B.ns,⟨_,(Heap.Ns.of_isNs B.sns).keeps hk,B.lim⟩,fun x v q=>?_⟩
 have hm:=zZ q
 rcases List.mem_append.mp hm with hm | hm
 ·obtain ⟨d,hd,q⟩:=List.mem_map.mp hm
  cases q
  exact ⟨_,.inl (by rw [aP];exact wJ (B.fns d hd)),fun X n h0 _=>by rfl⟩
 ·rcases List.mem_cons.mp hm with hm | hm
  ·cases hm
   obtain ⟨a,h1,h2⟩:=vw (C:=dS p w h h' os L) (zu e)
   refine ⟨_,.inl h1,fun X n h0 k=>?_⟩
   exact h2 X n h0 fun b o g ne=>k b o (hk _ _ g) ne
  ·rcases List.mem_cons.mp hm with hm | hm
   ·cases hm
    exact ⟨_,.inl (wJ B.cls),fun X n h0 _=>by exact Eq.refl _⟩
   ·rcases List.mem_append.mp hm with hm | hm
    ·obtain ⟨d,hd,q⟩:=List.mem_map.mp hm
     cases q
     obtain ⟨t,ht⟩:=xz (zQ e d hd)
     exact ⟨_,.inl ht,fun X n h0 _=>by exact ⟨t,rfl⟩⟩
    ·obtain ⟨d,hd,q⟩:=List.mem_map.mp hm
     cases q
     obtain ⟨g1,g2⟩:=Prod.mk.inj (Bz e d hd)
     exact ⟨_,.inr ⟨g1,g2⟩,fun X n h0 _=>by rfl⟩
omit hk
theorem kK (hk:∀ b o,h.get? b=some o->h'.get? b=some o):(aT h).In h':=fun a o q=>hk _ _ (uk q).2
end
end
section
open PySem PySem.W PyProof.Rows
set_option maxRecDepth 1000000
set_option maxHeartbeats 8000000
noncomputable abbrev pw:Program:=PySem.Challenge.pw_rs0107_02
noncomputable def qw:Program:=view pw [31]
noncomputable def jp:List Str:=["_netrclex", "ONE_THIRD", "ONE_SIXTH", "TWO_THIRD", "rgb_to_hls", "hls_to_rgb", "_v", "rgb_to_hsv", "hsv_to_rgb", "COMPILER_FLAG_NAMES", "pretty_flags", "_parse_varint", "_law_name", "_law_word", "_law_written", "_law_lexer", "_law_parts", "_law_text", "_law_across", "_law_mixed", "_law_right", "_law_pass", "_law_run", "_law_sum", "_law_back", "_law_tint", "_law_hues"]
noncomputable def AK (p:Program) (w:World) (N:Nat) (s₀:Shared):Option Shared :=
 match s₀.heap.isNs mainGlobals&&s₀.gens.size==0 with
 | true=>(PySem.W.Fast.tw14082659384304107361 PySem.treeTable p w s₀.heap.objs.size (s₀.heap.nsMap mainGlobals "__annotations__") N s₀ (topStub p)).bind fun s₁=>match staticsOk (importedModules p.main.body) s₀.heap s₁.heap&&namesBound p s₁.heap&&gensDone s₁&&laidKept s₀.heap s₁.heap with
    | true=>some s₁
    | false=>none
 | false=>none
theorem uY (p w N s):topFrom PySem.treeTable p w N s=AK p w N s:=by
 delta topFrom AK
 rw [PySem.W.Fast.te14082659384304107361]
 rfl
noncomputable def yj (p:Program) (w:World) (N:Nat):Option Shared :=
 (PySem.W.Fast.tw10274390034422433532 PySem.treeTable (PySem.W.opening p) w N (PySem.W.Fast.tw1435165496053646825 (PySem.W.opening p)).1 (PySem.W.Fast.tw1435165496053646825 (PySem.W.opening p)).2).bind (PySem.W.Fast.tw14289696077712309145 p)
theorem yk (p w N):fencedOpening PySem.treeTable p w N=yj p w N:=by
 delta fencedOpening yj
 rw [PySem.W.Fast.te10274390034422433532,PySem.W.Fast.te1435165496053646825,PySem.W.Fast.te14289696077712309145]
noncomputable def xt (s:Shared):Bool:=true
theorem Dv:LeftO pw qw jp xt (fb pw).obs (fb pw).val 2500:=by
 refine LeftO.of_split "special-get-raises" fun w=>?_
 rw [yk,PySem.W.Fast.te4187177175401517315,funext (uY pw (w.withFollow "special-get-raises" false) 2500),funext (uY pw (w.withFollow "special-get-raises" true) 2500)]
 show ((yj pw w 2500).map fun s₀=>(((AK pw (w.withFollow "special-get-raises" false) 2500 s₀).map fun s=>(PySem.W.Fast.tw4187177175401517315 qw jp (importedModules pw.main.body) xt true s,pC pw s.heap)),((AK pw (w.withFollow "special-get-raises" true) 2500 s₀).map fun s=>(PySem.W.Fast.tw4187177175401517315 qw jp (importedModules pw.main.body) xt true s,pC pw s.heap)))) =
  some (some (openGood qw jp,oG pw),some (openGood qw jp,oG pw))
 kernel_rfl
end
section
open PySem PySem.W PyProof.Rows
set_option maxRecDepth 100000
section
variable {p:Program} {w:World} {h h':Heap} {os:OsState} {L:Lam} (e:pC p h=oG p) (hk:∀ b o,h.get? b=some o->h'.get? b=some o)
include e
theorem m9:([findIn (aT h) (.ref (fU h)) "__setattr__",specialIn (aT h) (.ref (fC h "_read_char")) "__get__"],takesIn (aT h) (.ref (fC h "_read_char")),typeIn (aT h) (.ref (fC h "__init__")),[aS,aN,bZ,dN].map (fun x=>(findIn (aT h) (.ref (fU h)) x,takerIn (aT h) (fU h) x)),h.get? (dX h)) =
 ([some (some (Value.builtin "object.__setattr__")),some (some (.builtin "function.__get__"))],some false,some (Value.type "function"),[aS,aN,bZ,dN].map (fun _=>((some none:Option (Option Value)),(some none:Option (Option Value)))),some (tabObj #[])):=by
 have q:=(Prod.mk.inj (Prod.mk.inj (Prod.mk.inj (Prod.mk.inj (Prod.mk.inj e).2).2).2).2).2
 obtain ⟨q1,q⟩:=Prod.mk.inj q
 obtain ⟨q2,q⟩:=Prod.mk.inj q
 obtain ⟨q3,q⟩:=Prod.mk.inj q
 obtain ⟨q4,q⟩:=Prod.mk.inj q
 simp only [q1,q2,q3,q4,(Prod.mk.inj q).1]
theorem pW:h.get? (dX h)=some (tabObj #[]):=(Prod.mk.inj (Prod.mk.inj (Prod.mk.inj (Prod.mk.inj (m9 e)).2).2).2).2
include hk
theorem Dx (hm:∃ d∈ew p,d.1=("_read_char" : Str)):LexOk (dS p w h h' os L):=by
 have B:=iC e
 have T:=m9 e
 obtain ⟨T1,T⟩:=Prod.mk.inj T
 obtain ⟨T2,T⟩:=Prod.mk.inj T
 obtain ⟨T3,T⟩:=Prod.mk.inj T
 have T4:=(Prod.mk.inj T).1
 obtain ⟨T1a,T1b⟩:=List.cons.inj T1
 have T1b:=(List.cons.inj T1b).1
 obtain ⟨d,hd,hdn⟩:=hm
 obtain ⟨m1,m2⟩:=B.meths d hd
 rw [hdn] at m1 m2
 refine ⟨kK e hk,?_,B.plain,T1a,B.hasDict,B.over,B.makes,tr m1,m2,T1b,T2,fun x hx=>Prod.mk.inj (j5 T4 x hx)⟩
 cases q:(aT h).lookup (dX h) with
 | none=>exact q
 | some o=>exact absurd rfl (uk q).1
theorem cz {j:Nat} {n:Nm} {P:List Nm} {T:List St} (hj:((lg p)[j]?).map (fun d=>(nm d.1,d.2.1.map nm,mapO (bT 30 d.2.2.2) d.2.2.1))=some (n,P,some T)) (hg:Mine.get (uo p h) n=some (.fn (adr h (ao n)))):DefAt (dS p w h h' os L) n P T:=by
 obtain ⟨d,hd,q⟩:=Option.map_eq_some_iff.mp hj
 obtain ⟨q1,q⟩:=Prod.mk.inj q
 obtain ⟨q2,q3⟩:=Prod.mk.inj q
 have hs:=lL (C:=dS p w h h' os L) hk (xE e d (List.mem_of_getElem? hd))
 have hx:d.1=ao n:=by exact StrLaws.mk_of_toList q1
 rw [hx] at hs
 exact ⟨⟨_,hg,⟨_,_,_,30,hs.1,q3,q2⟩,hs.2⟩⟩
theorem qV {j:Nat} {n:Nm} {P:List Nm} {T:List St} (hj:((ew p)[j]?).map (fun d=>(nm d.1,d.2.1.map nm,mapO (bT 30 d.2.2.2) d.2.2.1))=some (n,P,some T)):Def (dS p w h h' os L) (fC h (ao n)) P T /\
 findIn (aT h) (.ref (fU h)) (ao n)=some (some (.ref (fC h (ao n))))/\isFn (aT h) (.ref (fC h (ao n)))=true:=by
 have B:=iC e
 obtain ⟨d,hd,q⟩:=Option.map_eq_some_iff.mp hj
 obtain ⟨q1,q⟩:=Prod.mk.inj q
 obtain ⟨q2,q3⟩:=Prod.mk.inj q
 have hs:=lL (C:=dS p w h h' os L) hk (qW e d (List.mem_of_getElem? hd))
 have hx:d.1=ao n:=by exact StrLaws.mk_of_toList q1
 have hm:=B.meths d (List.mem_of_getElem? hd)
 rw [hx] at hs hm
 exact ⟨⟨⟨_,_,_,30,hs.1,q3,q2⟩,hs.2⟩,tr hm.1,hm.2⟩
theorem uy {j:Nat} {n:Nm} {P:List Nm} {T:List St} (hj:((ew p)[j]?).map (fun d=>(nm d.1,d.2.1.map nm,mapO (bT 30 d.2.2.2) d.2.2.1))=some (n,P,some T)) (hd:ka (ao n)=true):oy (dS p w h h' os L) n P T:=by
 obtain ⟨h1,h2,h3⟩:=qV (w:=w) (os:=os) (L:=L) e hk hj
 exact ⟨⟨_,ao n,fk n,hd,h2,h3,h1⟩⟩
theorem DH {P:List Nm} {T:List St} (d:Def (dS p w h h' os L) (fC h "_read_char") P T):yW (dS p w h h' os L):=by
 cases d.fn with
 | fn _ o fd ho ha hd=>exact ⟨⟨o,fd,ho,ha,hd⟩⟩
theorem xW {j:Nat} {sc:Scope} {q:Nat->Pos} {prm:Arguments} {sc0:Scope} {j':Nat} {scI:Scope} {pI:Nat->Pos}
 (hj:(lg p)[j]?=some (("_law_lexer" : Str),[eL],[
   .Assign [.Name bC (q 0)] (.Call (.Name "list" (q 1)) [.Name eL (q 2)] [] (q 3)) (q 4),
   .Assign [.Name bP (q 5)] (.Lambda prm (.Constant .none 0 (q 6)) sc0 (q 7)) (q 8),
   .Assign [.Attribute (.Name bP (q 9)) bQ (q 10)] (.Lambda L.P L.B L.S (q 11)) (q 12),
   .Return (some (.Call (.Name nC (q 13)) [.Name bP (q 14)] [] (q 15))) (q 16)],sc))
 (s1:kindIn sc bC=some .cell) (s2:kindIn sc eL=some .local) (s3:kindIn sc bP=some .local) (s4:kindIn sc "list"=some .globalImplicit) (s5:kindIn sc nC=some .globalImplicit) (s6:sc0.names=[]) (s7:∀ env,defaultsOf prm env=([],[]))
 (hI:(ew p)[j']?=some (("__init__" : Str),[eG,sFp],j2 pI,scI)) (i1:kindIn scI eG=some .local) (i2:kindIn scI sFp=some .local) (hL:∀ env,defaultsOf L.P env=([],[]))
 (hg:Mine.get (uo p h) cX=some (.fn (adr h "_law_lexer"))) (hc:Mine.get (uo p h) gH=some (.fn (fU h))):∃ a,(dS p w h h' os L).glob cX=some (.fn a)/\jC (dS p w h h' os L) a:=by
 have B:=iC e
 have hs:=lL (C:=dS p w h h' os L) hk (xE e _ (List.mem_of_getElem? hj))
 have hsI:=lL (C:=dS p w h h' os L) hk (qW e _ (List.mem_of_getElem? hI))
 have hm:=B.meths _ (List.mem_of_getElem? hI)
 have T3:=(Prod.mk.inj (Prod.mk.inj (Prod.mk.inj (m9 e)).2).2).1
 refine ⟨_,hg,⟨⟨sc,q,prm,sc0,hs.1,s1,s2,s3,s4,s5,s6,s7⟩,hs.2,?_,⟨_,scI,pI,tr hm.1,T3,hsI.1,i1,i2⟩,rfl,hL,?_,hc,B.keep⟩⟩
 ·have hq:=B.qual
  have hcd:=B.code
  unfold to at hq
  cases hl:pe h with
  | none=>rw [hl] at hq;cases hq
  | some cq =>
    obtain ⟨c,qn⟩:=cq
    rw [hl] at hq
    have hlc:vU h=c:=by unfold vU;rw [hl]
    rw [hlc] at hcd
    obtain ⟨o,ho,hl⟩:=Option.bind_eq_some_iff.mp hl
    obtain ⟨fd,hd,hl⟩:=Option.bind_eq_some_iff.mp hl
    obtain ⟨c',hc',hl⟩:=Option.bind_eq_some_iff.mp hl
    cases hl
    exact ⟨o,fd,_,hk _ _ ho,qI hd,pP hc',codeHd_of_K (kK e hk) hcd,of_decide_eq_true hq⟩
 ·obtain ⟨bm,o,h1,h2,h3,h4,h5,h6⟩:=y9 B.bm
  exact ⟨bm,o,h1,h2,h3,h4,hk _ _ h5,h6⟩
omit e hk
theorem B4 {l:Nat} (hB:L.B=lO ⟨l,47,l,51⟩ ⟨l,56,l,61⟩ ⟨l,65,l,66⟩ ⟨l,56,l,66⟩ ⟨l,47,l,66⟩ ⟨l,32,l,36⟩ ⟨l,32,l,40⟩ ⟨l,41,l,42⟩ ⟨l,32,l,43⟩ ⟨l,72,l,74⟩ ⟨l,32,l,74⟩)
 (hS:L.S={ kind:=.function,names:=[(fx,.local),(bC,.free)],isGenerator:=false,isCoroutine:=false,more:=[] }) (hP:rp L.P [fx]=true):k8 (dS p w h h' os L) :=
 ⟨⟨_,_,_,_,_,_,_,_,_,_,_,hB,rfl⟩,hS,fun cl pm c ct v=>tU (ps:=[fx]) hP (by decide) rfl rfl⟩
end
end
section
open PySem PySem.W PyProof.Rows
set_option maxRecDepth 1000000
noncomputable def x6:Nm:=[108,97,119]
noncomputable def at162:List Pos:=[⟨163,4,163,8⟩,⟨163,11,163,15⟩,⟨163,16,163,20⟩,⟨163,11,163,21⟩,⟨163,4,163,21⟩,⟨164,4,164,10⟩,⟨164,21,164,25⟩,⟨164,13,164,25⟩,⟨164,4,164,25⟩,⟨165,4,165,10⟩,⟨165,4,165,15⟩,⟨165,18,165,74⟩,⟨165,4,165,74⟩,⟨166,11,166,20⟩,⟨166,21,166,27⟩,⟨166,11,166,28⟩,⟨166,4,166,28⟩]
noncomputable def atIni:List Pos:=[⟨5,8,5,12⟩,⟨5,8,5,19⟩,⟨5,22,5,23⟩,⟨5,8,5,23⟩,⟨6,8,6,12⟩,⟨6,8,6,21⟩,⟨6,24,6,26⟩,⟨6,8,6,26⟩,⟨7,8,7,12⟩,⟨7,8,7,23⟩,⟨7,26,7,35⟩,⟨7,8,7,35⟩,⟨8,8,8,12⟩,⟨8,8,8,21⟩,⟨8,24,8,26⟩,⟨8,8,8,26⟩]
noncomputable def ya:Pos:=⟨0,0,0,0⟩
noncomputable def DG:Arguments:={ posonlyargs:=[],args:=[],vararg:=none,kwonlyargs:=[],kw_defaults:=[],kwarg:=none,defaults:=[] }
noncomputable def sc0:Scope:={ kind:=.function,names:=[],isGenerator:=false,isCoroutine:=false,more:=[] }
noncomputable def lA:Lam where
 P:={ posonlyargs:=[],args:=[{ arg:=fx,annotation:=none,pos:=⟨165,25,165,30⟩ }],vararg:=none,kwonlyargs:=[],kw_defaults:=[],kwarg:=none,defaults:=[] }
 B:=lO ⟨165,47,165,51⟩ ⟨165,56,165,61⟩ ⟨165,65,165,66⟩ ⟨165,56,165,66⟩ ⟨165,47,165,66⟩ ⟨165,32,165,36⟩ ⟨165,32,165,40⟩ ⟨165,41,165,42⟩ ⟨165,32,165,43⟩ ⟨165,72,165,74⟩ ⟨165,32,165,74⟩
 S:={ kind:=.function,names:=[(fx,.local),(bC,.free)],isGenerator:=false,isCoroutine:=false,more:=[] }
noncomputable def DK:Scope:={ kind:=.function,names:=[(eL,.local),(bP,.local),(bC,.cell),("list",.globalImplicit),(nC,.globalImplicit)],isGenerator:=false,isCoroutine:=false,more:=[] }
noncomputable def Cv:Scope:={ kind:=.function,names:=[(eG,.local),(sFp,.local)],isGenerator:=false,isCoroutine:=false,more:=[] }
section
variable {w:World} {h h':Heap} {os:OsState} (e:pC pw h=oG pw) (hk:∀ b o,h.get? b=some o->h'.get? b=some o)
include e hk
theorem bi1:Bi (dS pw w h h' os lA):=by
 refine ⟨?_,?_,?_,?_,?_,?_,?_,?_,?_,?_,?_,?_,?_⟩<;>kernel_rfl
theorem w5:hC (dS pw w h h' os lA) where
 H:=cok e hk
 B:=bi1 e hk
 third:=by kernel_rfl
 sixth:=by kernel_rfl
 two:=by kernel_rfl
 v:=cz (j:=2) (n:=vW) (P:=P_v) (T:=T_v) e hk (by kernel_rfl) (by kernel_rfl)
 hsv:=cz (j:=3) (n:=bS) (P:=jG) (T:=T_rgb_to_hsv) e hk (by kernel_rfl) (by kernel_rfl)
 hls:=cz (j:=0) (n:=bR) (P:=jF) (T:=T_rgb_to_hls) e hk (by kernel_rfl) (by kernel_rfl)
 rgbv:=cz (j:=4) (n:=dJ) (P:=jE) (T:=T_hsv_to_rgb) e hk (by kernel_rfl) (by kernel_rfl)
 rgbl:=cz (j:=1) (n:=dI) (P:=jD) (T:=T_hls_to_rgb) e hk (by kernel_rfl) (by kernel_rfl)
theorem Ae:LexOk (dS pw w h h' os lA):=Dx e hk ⟨_,List.mem_of_getElem? (by kernel_rfl:(ew pw)[1]?=some (((ew pw)[1]?).getD default)),by kernel_rfl⟩
theorem yo:Def (dS pw w h h' os lA) (fC h "_read_char") cO T_read_char:=(qV (j:=1) (n:=cG) (P:=cO) (T:=T_read_char) e hk (by kernel_rfl)).1
theorem Ee:Lex (dS pw w h h' os lA) where
 G:=⟨cok e hk,Ae e hk,B4 (l:=165) rfl rfl (by kernel_rfl),yo e hk,DH e hk (yo e hk)⟩
 it:=(bi1 e hk).iter
 gt:=uy (j:=2) (n:=aU) (P:=cN) (T:=T_get_token) e hk (by kernel_rfl) (by kernel_rfl)
 pt:=uy (j:=3) (n:=bw) (P:=fH) (T:=T_push_token) e hk (by kernel_rfl) (by kernel_rfl)
theorem B7:∃ a,(dS pw w h h' os lA).glob cX=some (.fn a)/\jC (dS pw w h h' os lA) a :=
 xW (j:=10) (sc:=DK) (q:=fun k=>at162.getD k ya) (prm:=DG) (sc0:=sc0) (j':=0) (scI:=Cv) (pI:=fun k=>atIni.getD k ya) e hk (by kernel_rfl) (by rfl) (by rfl) (by rfl) (by rfl) (by rfl) rfl (fun _=>rfl) (by kernel_rfl) (by rfl) (by rfl) (fun _=>rfl) (by kernel_rfl) (by kernel_rfl)
theorem Au:cU (dS pw w h h' os lA) where
 H:=cok e hk
 B:=bi1 e hk
 L:=Ee e hk
 K:=w5 e hk
 word:=cz (j:=8) (n:=cj) (P:=jg) (T:=T_law_word) e hk (by kernel_rfl) (by kernel_rfl)
 pv:=cz (j:=6) (n:=bv) (P:=du) (T:=T_parse_varint) e hk (by kernel_rfl) (by kernel_rfl)
 parts:=cz (j:=11) (n:=bI) (P:=gz) (T:=T_law_parts) e hk (by kernel_rfl) (by kernel_rfl)
 mixed:=cz (j:=14) (n:=bu) (P:=gy) (T:=T_law_mixed) e hk (by kernel_rfl) (by kernel_rfl)
 across:=cz (j:=13) (n:=bH) (P:=hG) (T:=T_law_across) e hk (by kernel_rfl) (by kernel_rfl)
theorem Dl:cI (dS pw w h h' os lA) where
 D:=Au e hk
 booked:=booked e hk
 pass:=cz (j:=16) (n:=dB) (P:=hH) (T:=T_law_pass) e hk (by kernel_rfl) (by kernel_rfl)
 run:=cz (j:=17) (n:=eP) (P:=iA) (T:=T_law_run_2) e hk (by kernel_rfl) (by kernel_rfl)
 right:=cz (j:=15) (n:=cY) (P:=iy) (T:=T_law_right) e hk (by kernel_rfl) (by kernel_rfl)
 sum:=cz (j:=18) (n:=d9) (P:=kD) (T:=T_law_sum) e hk (by kernel_rfl) (by kernel_rfl)
 back:=cz (j:=19) (n:=ei) (P:=jc) (T:=T_law_back) e hk (by kernel_rfl) (by kernel_rfl)
 tint:=cz (j:=20) (n:=a6) (P:=jf) (T:=T_law_tint) e hk (by kernel_rfl) (by kernel_rfl)
 hues:=cz (j:=21) (n:=cF) (P:=jd) (T:=T_law_hues) e hk (by kernel_rfl) (by kernel_rfl)
 name:=cz (j:=7) (n:=dA) (P:=je) (T:=T_law_name) e hk (by kernel_rfl) (by kernel_rfl)
 written:=cz (j:=9) (n:=bV) (P:=dR) (T:=T_law_written) e hk (by kernel_rfl) (by kernel_rfl)
 text:=cz (j:=12) (n:=cQ) (P:=hJ) (T:=T_law_text_2) e hk (by kernel_rfl) (by kernel_rfl)
 flags:=cz (j:=5) (n:=cK) (P:=fT) (T:=T_pretty_flags) e hk (by kernel_rfl) (by kernel_rfl)
 dict:=by kernel_rfl
 lexer:=B7 e hk
theorem B5:DefAt (dS pw w h h' os lA) x6 sh T_law2:=cz (j:=22) (n:=x6) (P:=sh) (T:=T_law2) e hk (by kernel_rfl) (by kernel_rfl)
end
end
section
open PySem PySem.W PyProof.Rows
set_option maxRecDepth 100000
theorem ou {P:Params} {h:Heap} {R:WRecords}:∀ {vs:List Value} {xs:List WData},WellAll P h vs xs->(∀ d∈xs,WShape.has R d .int=true)->∃ l:List Int,l.length=xs.length/\∀ (C:Cx) (X:Wld) (n:Nat) (h':Heap),VsRel C X n h' (zs l) vs
 | _,_,.nil,_=>⟨[],rfl,fun C X n h'=>.nil⟩
 | _,_,.cons (d:=d) w ws,hx=>by
   obtain ⟨l,h1,h2⟩:=ou ws fun d hd=>hx d (.tail _ hd)
   obtain ⟨i,rfl⟩:=hasW_int (hx d (.head _))
   cases w with
   | int _ t=>exact ⟨i::l,by simp [h1],fun C X n h'=>.cons (by exact ⟨t,rfl⟩) (h2 C X n h')⟩
noncomputable def CF:Sto:=⟨0,fun _=>none⟩
noncomputable def AN (tab:Addr) (h:Heap):Wld:=⟨fun _=>0,fun _=>0,fun _=>0,fun b=>(∃ o,h.get? b=some o)/\b≠tab⟩
theorem DM {p:Program} {w:World} {h:Heap} {L:Lam} {s:Shared} (e:pC p h=oG p) (hk:∀ b o,h.get? b=some o->s.heap.get? b=some o) (hg:s.gens=#[]):SRel (dS p w h s.heap s.os L) CF (AN (dX h) s.heap) s where
 base:=fun b o q _=>q
 tab:=⟨#[],hk _ _ (pW e),trivial,fun pos cv q=>by cases q⟩
 zb:=fun b o q ne=>⟨⟨o,q⟩,ne⟩
 zl:=fun b z=>z.1
 os:=rfl
 gens:=hg
 lt:=fun l o q=>nomatch q
 obj:=fun l o q=>nomatch q
 apart:=fun l l' o o' b q=>nomatch q
 zw:=fun b hw z=>by
  rcases hw with rfl | ⟨l,o,q,_⟩
  ·exact z.2 rfl
  ·cases q
 wl:=fun b hw=>by
  rcases hw with rfl | ⟨l,o,q,_⟩
  ·exact ⟨_,hk _ _ (pW e)⟩
  ·cases q
theorem Am {h h':Heap} {a:Addr} {m:Str->Option Value} (hn:h.isNs a=true) (hk:∀ b o,h.get? b=some o->h'.get? b=some o) (hm:h'.Ns a m) (x:Str):m x=h.nsMap a x:=by
 obtain ⟨o,es,ep,g,d,_,f⟩:=(Heap.Ns.of_isNs hn).keeps hk
 obtain ⟨o',es',ep',g',d',_,f'⟩:=hm
 rw [g] at g';cases g'
 rw [d] at d';cases d'
 rw [<-f',<-f]
theorem yD {K:Frag} {h:Heap} {c P:Addr} (X:CodeHd h c P):isCodeTable h P:=by
 obtain ⟨o,vs,file,tf,flags,tg,inF,text,tt,h1,h2,h3,h4,_⟩:=X
 exact ⟨c,o,vs,h1,h2,h3,h4⟩
theorem xV {p:Program} {w:World} {h:Heap} {L:Lam} {s₁:Shared} {fa:Addr} {l:List Int} {vals:List Value} {k:Nat} {n:Nm} {σ':Sto} (e:pC p h=oG p) (hk:∀ b o,h.get? b=some o->s₁.heap.get? b=some o) (hg:s₁.gens=#[])
 (hc:Calls (dS p w h s₁.heap s₁.os L) k n [.list (zs l)] CF (.bool true) σ') (hk9:k<=400) (hfa:(dS p w h s₁.heap s₁.os L).glob n=some (.fn fa)) (hv:VsRel (dS p w h s₁.heap s₁.os L) (AN (dX h) s₁.heap) 0 s₁.heap [.list (zs l)] vals)
 {Q:Value->Shared->Prop} {E:Value->Shared->Prop} (hQ:∀ s',OldK s₁.heap s'.heap->s'.os=s₁.os->s'.gens=#[]->Q (.bool true) s'):wpAny (model p w) callerA (PySem.call (.ref fa) vals) Q E s₁:=by
 obtain ⟨a,g,_,hf⟩:=hc.ex
 rw [hfa] at g
 cases g
 refine hf callerA (AN (dX h) s₁.heap) s₁ vals ⟨by show 301+k<=900;lia -abstractProof,by show 4+20*k<=9000;lia -abstractProof,rfl⟩ (DM e hk hg) hv Q E fun v X' s' S' ev r=>?_
 subst r
 have hK:OldK s₁.heap s'.heap:=by
  have key:∀ b o,s₁.heap.get? b=some o->asItWas s₁.heap s'.heap b o:=fun b o q=>by
   by_cases hb:b=dX h
   ·subst hb
    rw [hk _ _ (pW e)] at q
    cases q
    obtain ⟨ps,t1,_⟩:=S'.tab
    refine .inr (.inl ⟨yD (K:=aT h) (codeHd_of_K (kK e hk) (iC e).code),rfl,#[],ps,rfl,?_⟩)
    rw [Array.empty_append]
    exact t1
   ·refine .inl (ev.keep b o q (fun hw=>?_) fun hp=>hp)
    rcases hw with hw | ⟨l,o,q,_⟩
    ·exact hb hw
    ·cases q
  exact ⟨key,fun b o q=>by
   rcases key b o q with h1 | ⟨_,_,vs,more,_,h1⟩ | ⟨_,_,⟨o',es,n,h1,_⟩,_⟩
   ·exact ⟨_,h1⟩
   ·exact ⟨_,h1⟩
   ·exact ⟨_,h1⟩⟩
 exact hQ s' hK S'.os S'.gens
theorem Bt {P:Params} {h:Heap} {R:WRecords} {cl:Str->Option Addr} {args:List WData} {vals:List Value} (hh:WShape.hasAll R args [.list .int]=true) (hw:WellAll P h vals args) :
 ∃ xs l,args=[.list xs]/\l.length=xs.length/\∀ (C:Cx) (X:Wld) (n:Nat),(∀ a o,h.get? a=some o->o.cls≠.none->X.Z a)->VsRel C X n h [.list (zs l)] vals:=by
 obtain ⟨d,r,rfl,h1,h2⟩:=hasAllW_cons hh
 obtain rfl:=hasAllW_nil h2
 obtain ⟨xs,rfl,h3⟩:=hasW_list h1
 cases hw with
 | cons w ws =>
   cases ws
   cases w with
   | list g wa =>
     obtain ⟨l,q1,q2⟩:=ou (R:=R) wa fun d hd=>hasItemsW_at h3 d hd
     exact ⟨xs,l,rfl,q1,fun C X n hz=>.cons (by exact ⟨_,_,0,rfl,hz _ _ g (fun q=>by cases q),g,by exact q2 C X n h⟩) .nil⟩
end
section
open PySem PySem.W PyProof.Rows
set_option maxRecDepth 1000000
set_option maxHeartbeats 8000000
noncomputable abbrev row1:OpenRow:=PySem.Challenge.rw_rs0107_02.row
noncomputable def Dk:DefRec:=match defOf qw row1.name with
 | some (d,_)=>d
 | none=>⟨"",DG,[],sc0,ya⟩
theorem Ar {args:List WData} (h:row1.toRowW.claim.pre args=true):∀ xs,args=[.list xs]->xs.length<=63:=by
 rintro xs rfl
 have h2:=(pre_splitW h).2
 rcases Nat.lt_or_ge 63 xs.length with q | q
 ·exfalso
  have:WTm.holds (row1.toRowW).records (row1.toRowW).pre { args:=[.list xs] }=false:=by
   show (match (match (match (less? (.int 63) (.int ((xs.length:Nat):Int))).map WData.bool with | some (.bool b)=>some (WData.bool (!b)) | _=>none) with | some (.bool false)=>some (WData.bool false) | some (.bool true)=>_ | _=>none) with | some (.bool true)=>true | _=>false)=false
   have e:less? (.int 63) (.int ((xs.length:Nat):Int))=some (decide ((63:Int)<((xs.length:Nat):Int))):=rfl
   rw [e,decide_eq_true (by omega)]
   rfl
  rw [this] at h2;cases h2
 ·exact q
theorem DT:WalkO qw jp (fun _ _=>True) (fb pw).says row1.toRowW Dk [] (fun f vs=>PySem.call f vs):=by
 intro w s₀ s₁ mg mb G Y fa o pm cd doc dV kV ho hd hcd hD hmg hg args vals as hpre hlay hrd hwl hlo
 obtain ⟨h,he,hk⟩:=Y
 obtain ⟨xs,l,rfl,hl,hv⟩:=Bt (R:=row1.toRowW.records) (cl:=classAt s₀.heap) (pre_splitW hpre).1 hwl
 have hlen:l.length<=63:=hl▸Ar hpre xs rfl
 have hz:∀ a o,s₁.heap.get? a=some o->o.cls≠.none->(AN (dX h) s₁.heap).Z a:=fun a o q hc=>⟨⟨o,q⟩,fun ht=>by
  rw [ht,hk _ _ (pW he)] at q;cases q;exact hc rfl⟩
 obtain ⟨σ',hc⟩:=BB (C:=dS pw w h s₁.heap s₁.os lA) (k:=10) (σ:=CF) (Dl he hk) (B5 he hk) hlen (Ci hlen) (Cj l)
 have hfa:(dS pw w h s₁.heap s₁.os lA).glob x6=some (.fn fa):=by
  have h1:mg "law"=h.nsMap mainGlobals "law":=Am (iC he).gns hk G.T.g "law"
  have h2:mg "law"=some (.ref fa):=hmg
  rw [h1] at h2
  have h3:adr h "law"=fa:=by unfold adr;rw [h2]
  rw [<-h3]
  kernel_rfl
 refine xV he hk hg hc (by decide) hfa (hv _ _ _ hz) fun s' hK hos hgs=>?_
 exact ⟨.inl ⟨.bool true,.bool true,[],rfl,fun cls=>rfl,.bool true,by kernel_rfl,fun _=>⟨List.nodup_nil,fun a ha=>nomatch ha⟩⟩,hK,hos,.of_eq hgs⟩
theorem Du (said:row1.wellSaid=true):row1.Holds :=
 holds_open (q:=qw) (loose:=jp) (Xt:=xt) (XP:=fun _ _=>True) (Yf:=(fb pw).obs) (Ya:=(fb pw).val) (YP:=(fb pw).says) (d:=Dk) (kwd:=[]) (N:=2500) Dv (fb pw).of (fb pw).keeps (fun _ _=>trivial) (fun _ _ _ _ _=>trivial)
  (by kernel_rfl) (by kernel_rfl) (by kernel_rfl) (fun _ _=>recFacts_nil rfl) (by rfl) said (by decide +kernel) ⟨rfl,rfl,rfl,rfl,rfl,by decide +kernel⟩ ⟨[.list []],by decide +kernel,by decide +kernel⟩ DT
noncomputable abbrev law1:OpenLaw:=PySem.Challenge.rw_rs0107_02
theorem Cp:law1.row.wellSaid=true:=by decide +kernel
theorem Cq:(decide (law1.foot<=(behindTheImports law1.prog).length)&&law1.footing.all footLine&&noClassBlock law1.prog law1.footing&&law1.most.all (fun n=>decide (63<=n))&&law1.bound.all (fun n=>decide (2 ^ 63<=n))&&noRoadLSs { strict:=true,foot:=some law1.bound',writes:=law1.writes,may:=law1.may } law1.footing)=true:=by decide +kernel
theorem Cr:(defStands law1.about law1.above&&law1.namesIt&&(["type", "isinstance", "issubclass", "getattr", "hasattr"]:List Str).all (fun n=>law1.about != [n])&&law1.bound'.all (fun n=>!builtinNamed n||law1.about==[n]||!law1.reads n))=true:=by decide +kernel
theorem Cs:((!law1.writes||(law1.prog.main.body.flatMap importedNames).all fun n=>!law1.reads n)&&(law1.prog.main.body.flatMap importedNames).all (fun n=>!law1.reads n||(drawsOf n law1.prog.main.body).all fun mn=>mn.2 != ("attrgetter" : Str)&&mn.2 != ("methodcaller" : Str)) &&
 namesMeet law1.prog law1.footing (fun sc n=>(!(["type", "isinstance", "issubclass", "getattr", "hasattr"]:List Str).contains n||sc.names.lookup n==some .globalImplicit)&&(law1.may != some n||sc.kind==.module||sc.names.lookup n==some .globalImplicit)))=true:=by decide +kernel
theorem Ct:(law1.own.contains law1.name&&law1.own.eraseDups.length==law1.own.length&&law1.own.all (fun n=>!builtinNamed n))=true:=by decide +kernel
theorem Cu:(namesMeet law1.prog law1.above (fun _ n=>!law1.own.contains n)&&namesMeet law1.prog law1.footing fun sc n=>sc.kind==.module||sc.names.lookup n != some .globalExplicit)=true:=by decide +kernel
theorem DJ:law1.wellSaid=true:=by
 have b:=Cq
 have c:=Cr
 have d:=Cs
 have e:=Ct
 have f:=Cu
 simp only [Bool.and_eq_true] at b c d e f
 unfold OpenLaw.wellSaid
 simp only [Bool.and_eq_true]
 exact ⟨⟨⟨⟨⟨⟨⟨⟨⟨⟨⟨⟨⟨⟨⟨⟨⟨⟨Cp,b.1.1.1.1.1⟩,b.1.1.1.1.2⟩,b.1.1.1.2⟩,b.1.1.2⟩,b.1.2⟩,b.2⟩,c.1.1.1⟩,c.1.1.2⟩,c.1.2⟩,c.2⟩,d.1.1⟩,d.1.2⟩,d.2⟩,e.1.1⟩,e.1.2⟩,e.2⟩,f.1⟩,f.2⟩
end
end Mine
set_option maxRecDepth 100000 in
set_option maxHeartbeats 8000000 in
theorem PySem.Challenge.cw_rs0107_02_holds : PySem.Challenge.rw_rs0107_02.Holds := by
 exact PySem.W.holds_law Mine.DJ Mine.Du
