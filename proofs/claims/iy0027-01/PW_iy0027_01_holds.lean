import PyProof.Rows.All
import Wide.All
import OpenK.AllK
import Wide.FinOn
import KE.KNestM
import Lean
import PySem.Challenge.RW_iy0027_01
set_option Elab.async false
set_option maxRecDepth 100000
set_option linter.all false
set_option exponentiation.threshold 2000
set_option genSizeOf false
set_option genInjectivity false
set_option bootstrap.genMatcherCode false
set_option backward.match.sparseCases false
set_option tactic.hygienic false
noncomputable section
namespace Mine.Internal
open PySem PySem.W PySem.Calls PyProof.Rows
set_option compiler.extract_closed false in
open Lean in
local macro_rules
 | `(tactic|rw[$rs,*])=>do
   let mut t<- `(tactic|try with_reducible rfl)
   for r in rs.getElems.reverse do
    let e:=r.raw[1];let l:=mkNode `Lean.Parser.Term.ellipsis #[mkAtom ".."];let e:=if e.isOfKind `Lean.Parser.Term.app then e.modifyArg 1 λa=>mkNullNode (a.getArgs.push l)else Syntax.mkApp ⟨e⟩ #[⟨l⟩]
    t<- `(tactic|((first|refine $(mkIdent (if r.raw[0].isNone then `R9 else `Sa)) $(⟨e⟩) ?_|rewrite[$r]);$t))
   pure t
set_option compiler.extract_closed false in
open Lean in
local macro_rules
 | `(tactic|lia)=>do
   let mut t<- `(tactic|lia-abstractProof)
   for c in "QPMLKHGECBAwponmlkjihgfedcba".toList do
    t<- `(tactic|first|exact $(mkIdent (.mkSimple ("q".push c)))|($t:tactic))
   `(tactic|first|assumption|exact Nat.zero_le _|with_reducible rfl|($t:tactic))
@[elab_as_elim] theorem R9{α:Sort _}{a b:α}{motive:α->Prop}(h:a=b)(k:motive b):motive a:=h▸k
@[elab_as_elim] theorem Sa{α:Sort _}{a b:α}{motive:α->Prop}(h:b=a)(k:motive b):motive a:=h▸k
theorem ag{i:Sort _}{A B:i->Prop}(f:i)(h0:A f)(h1:B f):∃f,A f/\B f:=⟨f,h0,h1⟩
theorem dA{i:Sort _}{A B C:i->Prop}(f:i)(h0:A f)(h1:B f)(h2:C f):∃f,A f/\B f/\C f:=⟨f,h0,h1,h2⟩
theorem wD{i:Sort _}{A B C D:i->Prop}(f:i)(h0:A f)(h1:B f)(h2:C f)(u:D f):∃f,A f/\B f/\C f/\D f:=⟨f,h0,h1,h2,u⟩
theorem PE{i:Sort _}{A B C D E:i->Prop}(f:i)(h0:A f)(h1:B f)(h2:C f)(u:D f)(z:E f):∃f,A f/\B f/\C f/\D f/\E f:=⟨f,h0,h1,h2,u,z⟩
theorem GN{i:Sort _}{A B C D E F:i->Prop}(f:i)(h0:A f)(h1:B f)(h2:C f)(u:D f)(z:E f)(G:F f):∃f,A f/\B f/\C f/\D f/\E f/\F f:=⟨f,h0,h1,h2,u,z,G⟩
theorem zS{u z:Sort _}{A:u->z->Prop}(f:u)(i:z)(h0:A f i):∃f i,A f i:=⟨f,i,h0⟩
theorem jn{u z:Sort _}{A B:u->z->Prop}(f:u)(i:z)(h0:A f i)(h1:B f i):∃f i,A f i/\B f i:=⟨f,i,h0,h1⟩
theorem t4{u z:Sort _}{A B C:u->z->Prop}(f:u)(i:z)(h0:A f i)(h1:B f i)(h2:C f i):∃f i,A f i/\B f i/\C f i:=⟨f,i,h0,h1,h2⟩
theorem zR{u z:Sort _}{A B C D:u->z->Prop}(f:u)(i:z)(h0:A f i)(h1:B f i)(h2:C f i)(F:D f i):∃f i,A f i/\B f i/\C f i/\D f i:=⟨f,i,h0,h1,h2,F⟩
theorem PD{z B F:Sort _}{A:z->B->F->Prop}(f:z)(i:B)(u:F)(h0:A f i u):∃f i u,A f i u:=⟨f,i,u,h0⟩
theorem rU{z F G:Sort _}{A B:z->F->G->Prop}(f:z)(i:F)(u:G)(h0:A f i u)(h1:B f i u):∃f i u,A f i u/\B f i u:=⟨f,i,u,h0,h1⟩
theorem KO{z F G:Sort _}{A B C:z->F->G->Prop}(f:z)(i:F)(u:G)(h0:A f i u)(h1:B f i u)(h2:C f i u):∃f i u,A f i u/\B f i u/\C f i u:=⟨f,i,u,h0,h1,h2⟩
theorem T9{z F G:Sort _}{A B C D:z->F->G->Prop}(f:z)(i:F)(u:G)(h0:A f i u)(h1:B f i u)(h2:C f i u)(H:D f i u):∃f i u,A f i u/\B f i u/\C f i u/\D f i u:=⟨f,i,u,h0,h1,h2,H⟩
theorem qa{a b c:Nat}(h:a<=b:=by assumption)(k:b<=c:=by assumption):a<=c:=Nat.le_trans h k
theorem qb{a b c:Nat}(h:a<=b:=by assumption)(k:b<=c:=by decide):a<=c:=Nat.le_trans h k
theorem qc{a b c:Nat}(k:b<=c:=by assumption)(h:a<=b:=by decide):a<=c:=Nat.le_trans h k
theorem qd{a b:Nat}(h:a<b:=by assumption):a<=b:=Nat.le_of_lt h
theorem qe{a b c:Nat}(h:a+b<=c:=by assumption):b<=c:=Nat.le_trans (Nat.le_add_left _ _) h
theorem qf{a b c:Nat}(h:a+b<=c:=by assumption):a<=c:=Nat.le_trans (Nat.le_add_right _ _) h
theorem qg{a b c:Nat}(h:a<=b:=by assumption):a<=b+c:=Nat.le_trans h (Nat.le_add_right _ _)
theorem qh{a b c:Nat}(h:a<=b:=by assumption):a<=c+b:=Nat.le_trans h (Nat.le_add_left _ _)
theorem qi{a b c d:Nat}(k:a+d<=c:=by assumption)(h:b<=d:=by decide):a+b<=c:=Nat.le_trans (Nat.add_le_add_left h _) k
theorem qj{a b c d:Nat}(h:a<=b:=by assumption)(k:b<=c:=by assumption)(l:c<=d:=by assumption):a<=d:=Nat.le_trans h (Nat.le_trans k l)
theorem qk{a b c d:Nat}(h:a<=b:=by assumption)(k:b<=c:=by assumption)(l:c<=d:=by decide):a<=d:=Nat.le_trans h (Nat.le_trans k l)
theorem ql{a b c:Nat}(h:a<=b:=by assumption):c+a<=c+b:=Nat.add_le_add_left h _
theorem qm{a b c:Nat}(h:a<=b:=by assumption):a+c<=b+c:=Nat.add_le_add_right h _
theorem qn{a b c d:Nat}(h:a<=b:=by assumption)(k:c<=d:=by assumption):a+c<=b+d:=Nat.add_le_add h k
theorem qo{a b c:Nat}(h:a<=b:=by assumption)(k:b<c:=by assumption):a<c:=Nat.lt_of_le_of_lt h k
theorem qp{a b c:Nat}(h:a<=b:=by assumption)(k:b<c:=by decide):a<c:=Nat.lt_of_le_of_lt h k
theorem qw{a b:Nat}(h:¬b<a:=by assumption):a<=b:=Nat.le_of_not_lt h
theorem qA{a b c:Int}(h:a<=b:=by assumption)(k:b<=c:=by assumption):a<=c:=Int.le_trans h k
theorem qB{a b c:Int}(k:b<=c:=by assumption)(h:a<=b:=by decide):a<=c:=Int.le_trans h k
theorem qC{a b:Int}(h:a<b:=by assumption):a<=b:=Int.le_of_lt h
theorem qE{a b c:Int}(h:a<=b:=by assumption)(k:b<c:=by assumption):a<c:=Int.lt_of_le_of_lt h k
theorem qG{a b:Int}(h:b<a:=by assumption):a≠b:=Int.ne_of_gt h
theorem qH{a b c:Int}(k:c<=a:=by assumption)(h:b<c:=by decide):a≠b:=Int.ne_of_gt (Int.lt_of_lt_of_le h k)
theorem qK{a b:Int}(h:¬b<=a:=by assumption):a<b:=Int.not_le.mp h
theorem qL{a b:Int}(h:¬b<a:=by assumption):a<=b:=Int.not_lt.mp h
theorem qM{a b:Nat}(h:a<=b:=by assumption):(a:Int)<=b:=Int.ofNat_le.mpr h
theorem qP{a b c:Nat}(h:a<=b:=by decide):a<=c+b:=Nat.le_trans h (Nat.le_add_left _ _)
theorem qQ{a b c:Nat}(h:a<=b:=by decide):c+a<=c+b:=Nat.add_le_add_left h _
theorem dW{n:Nat}(h:1<=n):∃m,n=m+1:=⟨n-1,(Nat.sub_add_cancel h).symm⟩
theorem Fm{n:Nat}(h:2<=n):∃m,n=m+2:=⟨n-2,(Nat.sub_add_cancel h).symm⟩
theorem FI{x:Int}{K:Nat}:x.natAbs<=K<-> -(K:Int)<=x/\x<=K:=by
 induction x using Int.casesOn with
 |ofNat n=>exact⟨λh=>⟨Int.le_trans (Int.neg_nonpos_of_nonneg (Int.natCast_nonneg K)) (Int.natCast_nonneg n),Int.ofNat_le.mpr h⟩,λh=>Int.ofNat_le.mp h.2⟩
 |negSucc n=>exact⟨λh=>⟨Int.neg_le_neg (Int.ofNat_le.mpr h),Int.le_trans (Int.le_of_lt (Int.negSucc_lt_zero n)) (Int.natCast_nonneg K)⟩,λh=>Int.ofNat_le.mp (Int.le_of_neg_le_neg h.1)⟩
theorem QL(a:Int):(if a<0 then-a else a)=(a.natAbs:Int):=by
 by_cases h:a<0
 . rw[if_pos h,Int.ofNat_natAbs_of_nonpos (Int.le_of_lt h)]
 . rw[if_neg h,Int.natAbs_of_nonneg (Int.not_lt.mp h)]
theorem Jl{c:Prop}[Decidable c]{P Q:Prop}(h1:c->P)(h2:¬c->Q):if c then P else Q:=if h:c then(if_pos h).symm▸h1 h else(if_neg h).symm▸h2 h
theorem up{a b k:Nat}(h:b<=k)(e:Nat.ble a b=true):a<=k:=Nat.le_trans (Nat.le_of_ble_eq_true e) h
theorem bE{α β:Type}{m:Option α}{k:α->Option β}{a:α}{b:Option β}(h:m=some a)(r:k a=b):m.bind k=b:=by subst h;exact r
theorem af{A B:Prop}{Q:Prop}(h:A/\B)(k:A->B->Q):Q:=k h.1 h.2
theorem dh{A B C:Prop}{Q:Prop}(h:A/\B/\C)(k:A->B->C->Q):Q:=k h.1 h.2.1 h.2.2
theorem eM{A B C D:Prop}{Q:Prop}(h:A/\B/\C/\D)(k:A->B->C->D->Q):Q:=k h.1 h.2.1 h.2.2.1 h.2.2.2
theorem GM{A B C D E:Prop}{Q:Prop}(h:A/\B/\C/\D/\E)(k:A->B->C->D->E->Q):Q:=k h.1 h.2.1 h.2.2.1 h.2.2.2.1 h.2.2.2.2
theorem ax{i:Type}{A:i->Prop}{Q:Prop}(h:∃f,A f)(k:∀f,A f->Q):Q:=h.elim k
theorem ab{i:Type}{A B:i->Prop}{Q:Prop}(h:∃f,A f/\B f)(k:∀f,A f->B f->Q):Q:=h.elim λf h=>k f h.1 h.2
theorem bV{i:Type}{A B C:i->Prop}{Q:Prop}(h:∃f,A f/\B f/\C f)(k:∀f,A f->B f->C f->Q):Q:=h.elim λf h=>k f h.1 h.2.1 h.2.2
theorem CL{i:Type}{A B C D:i->Prop}{Q:Prop}(h:∃f,A f/\B f/\C f/\D f)(k:∀f,A f->B f->C f->D f->Q):Q:=h.elim λf h=>k f h.1 h.2.1 h.2.2.1 h.2.2.2
theorem KN{i:Type}{A B C D E:i->Prop}{Q:Prop}(h:∃f,A f/\B f/\C f/\D f/\E f)(k:∀f,A f->B f->C f->D f->E f->Q):Q:=h.elim λf h=>k f h.1 h.2.1 h.2.2.1 h.2.2.2.1 h.2.2.2.2
theorem cq{u:Type}{z:Type}{A:u->z->Prop}{Q:Prop}(h:∃f i,A f i)(k:∀f i,A f i->Q):Q:=h.elim λf h=>ax h (k f)
theorem aP{u:Type}{z:Type}{A B:u->z->Prop}{Q:Prop}(h:∃f i,A f i/\B f i)(k:∀f i,A f i->B f i->Q):Q:=h.elim λf h=>ab h (k f)
theorem cP{u:Type}{z:Type}{A B C:u->z->Prop}{Q:Prop}(h:∃f i,A f i/\B f i/\C f i)(k:∀f i,A f i->B f i->C f i->Q):Q:=h.elim λf h=>bV h (k f)
theorem wC{u:Type}{z:Type}{A B C D:u->z->Prop}{Q:Prop}(h:∃f i,A f i/\B f i/\C f i/\D f i)(k:∀f i,A f i->B f i->C f i->D f i->Q):Q:=h.elim λf h=>CL h (k f)
theorem KM{u:Type}{z:Type}{A B C D E:u->z->Prop}{Q:Prop}(h:∃f i,A f i/\B f i/\C f i/\D f i/\E f i)(k:∀f i,A f i->B f i->C f i->D f i->E f i->Q):Q:=h.elim λf h=>KN h (k f)
theorem CK{z:Type}{B:Type}{F:Type}{A:z->B->F->Prop}{Q:Prop}(h:∃f i u,A f i u)(k:∀f i u,A f i u->Q):Q:=h.elim λf h=>cq h (k f)
theorem ga{z:Type}{F:Type}{G:Type}{A B:z->F->G->Prop}{Q:Prop}(h:∃f i u,A f i u/\B f i u)(k:∀f i u,A f i u->B f i u->Q):Q:=h.elim λf h=>aP h (k f)
theorem rT{z:Type}{F:Type}{G:Type}{A B C:z->F->G->Prop}{Q:Prop}(h:∃f i u,A f i u/\B f i u/\C f i u)(k:∀f i u,A f i u->B f i u->C f i u->Q):Q:=h.elim λf h=>cP h (k f)
theorem CJ{z:Type}{F:Type}{G:Type}{A B C D:z->F->G->Prop}{Q:Prop}(h:∃f i u,A f i u/\B f i u/\C f i u/\D f i u)(k:∀f i u,A f i u->B f i u->C f i u->D f i u->Q):Q:=h.elim λf h=>wC h (k f)
theorem KL{B:Type}{F:Type}{G:Type}{H:Type}{A:B->F->G->H->Prop}{Q:Prop}(h:∃f i u z,A f i u z)(k:∀f i u z,A f i u z->Q):Q:=h.elim λf h=>CK h (k f)
theorem ad{α:Type}{a:α}{P:Prop}(h:none=some a):P:=nomatch h
theorem Jq{α:Type}{p:Prop}[Decidable p]{a b:α}(h:(if p then some a else none)=some b):p/\a=b:=by
 by_cases q:p
 . exact⟨q,Option.some.inj ((if_pos q).symm.trans h)⟩
 . exact ad ((if_neg q).symm.trans h)
theorem uH{α:Type}{a:α}{P:Prop}(h:a∈[]):P:=absurd h List.not_mem_nil
theorem HS{α:Type}{P:α->Prop}:∀x∈([]:List α),P x:=λ_ h=>uH h
theorem fm{α:Type}{P:α->Prop}{a:α}{l:List α}(h:P a)(t:∀x∈l,P x):∀x∈a::l,P x:=List.forall_mem_cons.mpr ⟨h,t⟩
inductive AV where
 |none
 |bool(b:Bool)
 |int(i:Int)
 |str(s:Str)
 |obj(C:Addr)(fl:List (Str×AV))
 |list(xs:List AV)
 |tup(xs:List AV)
 |dict(es:List (Str×AV))
inductive Ty where
 |obj(C:Addr)(fl:List (Str×AV))
 |bA(a:Addr)
 |list(xs:List AV)
 |tup(xs:List AV)
 |dict(es:List (Str×AV))
 |raw
 |code(q:Str)
noncomputable abbrev TM:=Addr->Option Ty
noncomputable def Sub(fl eK:List (Str×AV)):Prop:=∀k x,fl.lookup k=some x->eK.lookup k=some x
theorem Sub.refl(fl):Sub fl fl:=λ_ _ e=>e
theorem Sub.trans{a b c}(x:Sub a b)(y:Sub b c):Sub a c:=λk v e=>y k v (x k v e)
theorem Sub.snoc{fl:List (Str×AV)}{k:Str}{x:AV}:Sub fl (fl++[(k,x)]):=λk' v e=>by rw[List.lookup_append,e];rfl
noncomputable def I9(C:Addr):Str:=if C=284 then "_val" else "max"
noncomputable def bS(C:Addr)(fl:List (Str×AV)):Bool:=(fl.lookup (I9 C)).isSome
noncomputable def Kn(C:Addr)(fl eK:List (Str×AV)):Prop:=fl=eK\/(Sub fl eK/\bS C fl=false)
theorem Kn.sub{C fl eK}(x:Kn C fl eK):Sub fl eK:=x.elim (λe=>e▸ .refl _) (·.1)
theorem Kn.trans{C a b d}(x:Kn C a b)(y:Kn C b d):Kn C a d:=by
 rcases x with rfl|⟨x,h⟩
 . exact y
 . exact .inr ⟨x.trans y.sub,h⟩
noncomputable def ij(a b:Ty):Prop:=Ty.casesOn (motive:=λ_=>Prop) a (λC fl=>∃eK,b= .obj C eK/\Kn C fl eK) (λx=>b= .bA x) (λx=>b= .list x) (λx=>b= .tup x) (λx=>b= .dict x) (b= .raw) (λq=>b= .code q)
theorem ij.refl(t:Ty):ij t t:=by induction t<;>first|exact rfl|exact⟨_,rfl,.inl rfl⟩
theorem ij.obj{C fl eK}(h:Kn C fl eK):ij (.obj C fl) (.obj C eK):=⟨_,rfl,h⟩
theorem ij.od{a d}(q:ij a (.bA d)):a= .bA d:=by
 induction a with
 |obj=>obtain⟨_,q,_⟩:=q;injection q
 |bA=>exact q.symm
 |_=>injection q
theorem ij.trans{a b c:Ty}(x:ij a b)(y:ij b c):ij a c:=by
 induction a with
 |obj=>obtain⟨_,rfl,h⟩:=x;obtain⟨_,rfl,k⟩:=y;exact⟨_,rfl,h.trans k⟩
 |_=>obtain rfl:=x;exact y
noncomputable def js(T T':TM):Prop:=∀a ty,T a=some ty->∃j8,T' a=some j8/\ij ty j8
theorem js.refl(T:TM):js T T:=λ_ ty e=>⟨ty,e,.refl _⟩
theorem js.trans{f i u:TM}(x:js f i)(y:js i u):js f u:=λa ty e=>by refine ab (x a ty e) λz B l2=>?_;refine ab (y a z B) λF G H=>?_;exact⟨F,G,l2.trans H⟩
noncomputable def VR(T:TM)(v:Value)(x:AV):Prop:=AV.casesOn (motive_1:=λ_=>Prop) x (v= .none) (λb=>v= .bool b) (λi=>∃t,v= .int i t) (λs=>∃t,v= .str s t) (λC fl=>∃a eK,v= .ref a/\T a=some (.obj C eK)/\Kn C fl eK) (λxs=>∃a,v= .ref a/\T a=some (.list xs)) (λxs=>∃a,v= .ref a/\T a=some (.tup xs)) (λes=>∃a,v= .ref a/\T a=some (.dict es))
section
variable{T:TM}
theorem VR.none:VR T .none .none:=rfl
theorem VR.bool(b):VR T (.bool b) (.bool b):=rfl
theorem VR.int(i t):VR T (.int i t) (.int i):=⟨t,rfl⟩
theorem VR.str(s t):VR T (.str s t) (.str s):=⟨t,rfl⟩
theorem VR.obj{a C fl eK}(h:T a=some (.obj C eK))(f:Kn C fl eK):VR T (.ref a) (.obj C fl):=⟨_,_,rfl,h,f⟩
theorem VR.list{a xs}(h:T a=some (.list xs)):VR T (.ref a) (.list xs):=⟨_,rfl,h⟩
theorem VR.tup{a xs}(h:T a=some (.tup xs)):VR T (.ref a) (.tup xs):=⟨_,rfl,h⟩
theorem VR.dict{a es}(h:T a=some (.dict es)):VR T (.ref a) (.dict es):=⟨_,rfl,h⟩
theorem VR.is{P:Value->Prop}(n:P .none)(b:∀b,P (.bool b))(i:∀i t,P (.int i t))(s:∀s t,P (.str s t))(r:∀a,P (.ref a)){v x}(h:VR T v x):P v:=by
 induction x using AV.casesOn with
 |none=>obtain rfl:=h;exact n
 |bool=>obtain rfl:=h;exact b _
 |int=>obtain⟨_,rfl⟩:=h;exact i _ _
 |str=>obtain⟨_,rfl⟩:=h;exact s _ _
 |obj=>obtain⟨_,_,rfl,_⟩:=h;exact r _
 |_=>obtain⟨_,rfl,_⟩:=h;exact r _
theorem VR.inv{v:Value}{x:AV}(h:VR T v x):VR T v x:=h
end
noncomputable def VL(T T':TM):Prop:=∀{v x},VR T v x->VR T' v x
theorem VL.of{T T':TM}(l:∀a ty,T a=some ty->ty≠ .raw->∃i,T' a=some i/\ij ty i):VL T T':=λ{v x} h=>by
 have one:∀(ty:Ty),ty≠ .raw->(∀{t},ij ty t->t=ty)->(∃a,v= .ref a/\T a=some ty)->∃a,v= .ref a/\T' a=some ty:=λty h k=>λ⟨a,e,q⟩=>ab (l a _ q h) λt f q=>⟨a,e,k q▸f⟩
 induction x using AV.casesOn with
 |obj=>obtain⟨a,_,e,h,u⟩:=h;obtain⟨_,f,_,rfl,q⟩:=l _ _ h nofun;exact⟨a,_,e,f,u.trans q⟩
 |list x=>exact one (.list x) (λq=>by injection q) (λq=>q) h
 |tup x=>exact one (.tup x) (λq=>by injection q) (λq=>q) h
 |dict x=>exact one (.dict x) (λq=>by injection q) (λq=>q) h
 |_=>exact h
theorem js.vl{T T':TM}(l:js T T'):VL T T':=VL.of λa ty e _=>l a ty e
theorem VR.mono{T T':TM}{v:Value}{x:AV}(h:VR T v x)(l:js T T'):VR T' v x:=l.vl h
theorem FW{P:Nat->Prop}{i:Nat}(h:i<3)(a:P 0)(b:P 1)(c:P 2):P i:=by
 rcases i with _|_|_|i
 . exact a
 . exact b
 . exact c
 . exact absurd (Nat.lt_of_succ_lt_succ (Nat.lt_of_succ_lt_succ (Nat.lt_of_succ_lt_succ h))) (Nat.not_lt_zero _)
theorem Nt{P:Nat->Prop}{i:Nat}(h:i<4)(a:P 0)(b:P 1)(c:P 2)(d:P 3):P i:=by
 rcases i with _|i
 . exact a
 . exact FW (P:=λi=>P (i+1)) (Nat.lt_of_succ_lt_succ h) b c d
class inductive F2{α β:Type}(R:α->β->Prop):List α->List β->Prop
 |nil:F2 R [] []
 |cons {v x vs xs} (h:R v x) (t:F2 R vs xs):F2 R (v::vs) (x::xs)
section
variable{α β:Type}{R S:α->β->Prop}{vs:List α}{xs:List β}
theorem F2.inv(h:F2 R vs xs):List.casesOn (motive:=λ_=>Prop) xs (vs=[]) λx xs=>∃v r,vs=v::r/\R v x/\F2 R r xs:=F2.rec rfl (λh t _=>⟨_,_,rfl,h,t⟩) h
theorem F2.lift(h:F2 R vs xs)(l:∀v x,R v x->S v x):F2 S vs xs:=F2.rec .nil (λh _=> .cons (l _ _ h)) h
theorem F2.flip(h:F2 R vs xs):F2 (λx v=>R v x) xs vs:=F2.rec .nil (λh _=> .cons h) h
theorem F2.length(h:F2 R vs xs):vs.length=xs.length:=F2.rec rfl (λ_ _=>congrArg (· +1)) h
theorem F2.append{ws ys}(h:F2 R vs xs)(k:F2 R ws ys):F2 R (vs++ws) (xs++ys):=F2.rec (motive:=λvs xs _=>F2 R (vs++ws) (xs++ys)) k (λh _=> .cons h) h
theorem F2.get(h:F2 R vs xs):∀{i:Nat}{x:β},xs[i]? =some x->∃v,vs[i]? =some v/\R v x:=by
 induction h with
 |nil=>exact λe=>ad e
 |cons h _ ih=>
  intro i y e
  induction i using Nat.casesAuxOn with
  |zero=>exact⟨_,rfl,Option.some.inj e▸h⟩
  |succ i=>exact ih e
theorem F2.one{x}(h:F2 R vs [x]):∃v,vs=[v]/\R v x:=by obtain⟨v,r,rfl,h1,t⟩:=h.inv;obtain rfl:=t.inv;exact⟨v,rfl,h1⟩
theorem F2.two{x y}(h:F2 R vs [x,y]):∃v w,vs=[v,w]/\R v x/\R w y:=by obtain⟨v,r,rfl,h1,t⟩:=h.inv;obtain⟨w,rfl,k⟩:=t.one;exact⟨v,w,rfl,h1,k⟩
end
noncomputable abbrev dx(T:TM):=F2 (VR T)
theorem dx.lift{T T':TM}{vs xs}(h:dx T vs xs)(l:VL T T'):dx T' vs xs:=F2.lift h λ_ _=>l
theorem F2.mono{T T':TM}{vs xs}(h:dx T vs xs)(l:js T T'):dx T' vs xs:=dx.lift h l.vl
structure P9(T:TM)(P:Params)(e:DictEntry)(kx:Str×AV):Prop where
 key:∃t,e.key= .str kx.1 t
 hash:e.hash=PyData.keyHash P kx.1
 val:VR T e.val kx.2
noncomputable abbrev nZ(T:TM)(P:Params):=F2 (P9 T P)
theorem nZ.lift{T T':TM}{P es l}(h:nZ T P es l)(q:VL T T'):nZ T' P es l:=F2.lift h λ_ _ h=>⟨h.key,h.hash,q h.val⟩
theorem nZ.mono{T T':TM}{P es l}(h:nZ T P es l)(q:js T T'):nZ T' P es l:=h.lift q.vl
structure Cx where
 prog:Program
 w:World
 K:Frag
 h₀:Heap
 tab:Addr
 tx:AV->Option Str
 fT:Pos:=default
 i9:Str:=default
noncomputable abbrev Cx.M(c:Cx):Model:=model c.prog c.w
noncomputable def aB:Str:="_key"
noncomputable def az:List Str:=["a","b","min","max","nodes","expr","_val"]
noncomputable def dN(c:Cx)(T:TM)(C:Addr)(fl:List (Str×AV))(m:Str->Option Value):Prop:=
 ∀k,match fl.lookup k with
  |some x=>∃v,m k=some v/\VR T v x
  |none=>if k=aB then(∀v,m k=some v->bS C fl=true/\∃s t,v= .str s t/\c.tx (.obj C fl)=some s)else m k=none
noncomputable abbrev bo(vs:Array Value)(n:Nat):Obj:={cls:= .type "list",data:= .seq vs n}
noncomputable abbrev iz(vs:Array Value)(n:Nat):Obj:={cls:= .type "tuple",data:= .seq vs n}
noncomputable abbrev aC(es:Array DictEntry)(n:Nat):Obj:={cls:= .type "dict",data:= .dict es n}
inductive Lp(c:Cx)(T:TM)(h:Heap)(a C:Addr)(fl:List (Str×AV)):Prop
 |mk (d:Addr) (m:Str->Option Value) (es:Array DictEntry) (n:Nat) (at_:h.get? a=some (instObj C d)) (own:T d=some (.bA a)) (dat:h.get? d=some (aC es n)) (ns:h.Ns d m) (fields:dN c T C fl m) (names:∀k x,fl.lookup k=some x->az.contains k=true) (sz:es.size<=fl.length+(if(m aB).isSome=true then 1 else 0)) (lt:fl.length<=100)
noncomputable def dB(c:Cx)(T:TM)(h:Heap)(a:Addr):Ty->Prop
 | .obj C fl=>Lp c T h a C fl
 | .bA _=>∃o,h.get? a=some o
 | .list xs=>∃vs n,h.get? a=some (bo vs n)/\dx T vs.toList xs
 | .tup xs=>∃vs n,h.get? a=some (iz vs n)/\dx T vs.toList xs
 | .dict l=>∃es n,h.get? a=some (aC es n)/\nZ T c.w.params es.toList l/\(l.map (·.1)).Nodup
 | .raw=>∃o,h.get? a=some o
 | .code q=>∃o vs t,h.get? a=some o/\o.data= .fields vs/\vs[1]? =some (.str q t)
section
variable{c:Cx}{T:TM}{h:Heap}
theorem dB.bA{a d o}(at_:h.get? d=some o):dB c T h d (.bA a):=⟨o,at_⟩
theorem dB.list{a xs vs n}(at_:h.get? a=some (bo vs n))(items:dx T vs.toList xs):dB c T h a (.list xs):=⟨_,_,at_,items⟩
theorem dB.tup{a xs vs n}(at_:h.get? a=some (iz vs n))(items:dx T vs.toList xs):dB c T h a (.tup xs):=⟨_,_,at_,items⟩
theorem dB.dict{a l es n}(at_:h.get? a=some (aC es n))(items:nZ T c.w.params es.toList l)(nd:(l.map (·.1)).Nodup):dB c T h a (.dict l):=⟨_,_,at_,items,nd⟩
theorem dB.raw{a o}(at_:h.get? a=some o):dB c T h a .raw:=⟨o,at_⟩
theorem dB.code{a o vs q t}(at_:h.get? a=some o)(hd:o.data= .fields vs)(f:vs[1]? =some (.str q t)):dB c T h a (.code q):=⟨_,_,_,at_,hd,f⟩
theorem dB.inv{a ty}(x:dB c T h a ty):dB c T h a ty:=x
end
structure nW(c:Cx)(T:TM)(ps:Array Value):Prop where
 pW:TriplesOk ps.toList
 lam:∀cv,codeAmong c.fT ps.toList=some cv->∃a,cv= .ref a/\T a=some (.code c.i9)
theorem nW.le{c T T' ps}(x:nW c T ps)(l:js T T'):nW c T' ps:=⟨x.pW,λf e=>by
 refine ab (x.lam f e) λa i u=>?_;refine ab (l a _ u) λty z q=>?_;obtain rfl:=q;exact⟨a,i,z⟩⟩
structure W(c:Cx)(T:TM)(h:Heap):Prop where
 base:∀b o,c.h₀.get? b=some o->h.get? b=some o
 lo:∀a ty,T a=some ty->c.h₀.get? a=none/\a≠c.tab
 ok:∀a ty,T a=some ty->dB c T h a ty
 tab:∃ps,h.get? c.tab=some (tabObj ps)/\nW c T ps
theorem dB.ex{c T h a ty}(x:dB c T h a ty):∃o,h.get? a=some o:=by
 induction ty with
 |obj=>obtain⟨_,_,_,_,e,_⟩:=x;exact⟨_,e⟩
 |bA=>exact x
 |raw=>exact x
 |code=>obtain⟨_,_,_,e,_⟩:=x;exact⟨_,e⟩
 |_=>obtain⟨_,_,e,_⟩:=x;exact⟨_,e⟩
theorem W.none_of{c T h a}(x:W c T h)(e:h.get? a=none):T a=none:=by
 induction q:T a with
 |none=>rfl
 |some ty=>exact ax (x.ok a ty q).ex λo f=>ad (e.symm.trans f)
theorem W.free{c T h a}(x:W c T h)(e:h.get? a=none):c.h₀.get? a=none/\a≠c.tab:=by
 refine⟨?_,?_⟩
 . induction q:c.h₀.get? a with
   |none=>rfl
   |some o=>exact ad (e.symm.trans (x.base a o q))
 . rintro rfl;exact ab x.tab λps h _=>ad (e.symm.trans h)
noncomputable def AT(T:TM)(a:Addr):Prop:=∀d,T a≠some (.bA d)
theorem AT.none{T:TM}{a:Addr}(h:T a= .none):AT T a:=λd q=>ad (h.symm.trans q)
theorem AT.le{T T':TM}{a:Addr}(x:AT T a)(l:js T T')(h:T a= .none->T' a= .none):AT T' a:=by
 induction e:T a with
 |none=>exact .none (h e)
 |some ty=>refine ab (l a ty e) λi f q=>?_;intro d hd;obtain rfl:=Option.some.inj (f.symm.trans hd);exact x d (e.trans (congrArg some q.od))
structure bF(c:Cx)(T:TM)(s:Shared)(T':TM)(s':Shared):Prop where
 eq:∀a ty,T a=some ty->T' a=some ty
 keep:∀a o,AT T a->a≠c.tab->s.heap.get? a=some o->s'.heap.get? a=some o
 cN:∀a o,a≠c.tab->s.heap.get? a=some o->T a=none->T' a=none
 gens:AllBare s.gens->AllBare s'.gens
 os:s'.os=s.os
theorem bF.le{c T s T' s'}(x:bF c T s T' s'):js T T':=λa ty e=>⟨ty,x.eq a ty e,.refl _⟩
theorem bF.refl(c:Cx)(T:TM)(s:Shared):bF c T s T s:=⟨λ_ _ e=>e,λ_ _ _ _ e=>e,λ_ _ _ _ e=>e,λh=>h,rfl⟩
theorem bF.trans{c:Cx}{f i u:TM}{z B F:Shared}(x:bF c f z i B)(y:bF c i B u F):bF c f z u F:=
 ⟨λa ty e=>y.eq a ty (x.eq a ty e),λa o h1 h2 G=>y.keep a o (h1.le x.le λq=>x.cN a o h2 G q) h2 (x.keep a o h1 h2 G),
  λa o h0 h1 h2=>y.cN a o h0 (x.keep a o (.none h2) h0 h1) (x.cN a o h0 h1 h2),λh=>y.gens (x.gens h),y.os.trans x.os⟩
theorem bF.np{c:Cx}{T T':TM}{s s':Shared}(x:bF c T s T' s'):∀a o,T a=none->a≠c.tab->s.heap.get? a=some o->s'.heap.get? a=some o:=λa o h=>x.keep a o (.none h)
theorem bF.toks{c:Cx}{T T':TM}{s s':Shared}(x:bF c T s T' s')(t:Nat):bF c T s T' {s' with toks:=t}:=⟨x.eq,x.keep,x.cN,x.gens,x.os⟩
theorem bF.j9{c:Cx}{T:TM}{s:Shared}(t:Nat):bF c T s T {s with toks:=t}:=(bF.refl c T s).toks t
theorem bF.grown{c:Cx}{T:TM}{s:Shared}{h':Heap}(k:∀b o,s.heap.get? b=some o->h'.get? b=some o)(t:Nat):bF c T s T {s with heap:=h',toks:=t}:=
 ⟨λ_ _ e=>e,λa o _ _ e=>k a o e,λ_ _ _ _ e=>e,λh=>h,rfl⟩
theorem bF.fresh{c aj ae T s}(x:bF c aj ae T s)(w:W c T s.heap){a:Addr}(e:s.heap.get? a=none):ae.heap.get? a=none:=by
 induction q:ae.heap.get? a with
 |none=>rfl
 |some o=>
  have hn:=w.none_of e;have h0:aj a=none:=by
   induction q2:aj a with
   |none=>rfl
   |some ty=>exact ad (hn.symm.trans (x.eq a ty q2))
  exact ad (e.symm.trans (x.np a o h0 (w.free e).2 q))
inductive Got(c:Cx)(T:TM)(s:Shared)(x:AV)(v:Value)(s':Shared):Prop
 |mk (T':TM) (e:bF c T s T' s') (w:W c T' s'.heap) (r:VR T' v x)
inductive Dj(c:Cx)(T:TM)(s:Shared)(xs:List AV)(vs:List Value)(s':Shared):Prop
 |mk (T':TM) (e:bF c T s T' s') (w:W c T' s'.heap) (r:dx T' vs xs)
noncomputable def fw(T:TM)(a:Addr)(ty:Ty):TM:=λb=>if b=a then some ty else T b
theorem kK{T:TM}{a:Addr}{ty:Ty}(h:T a=none):∀b t,T b=some t->fw T a ty b=some t:=λb t e=>(if_neg λq:b=a=>ad ((q▸h:T b=none).symm.trans e)).trans e
theorem dH{T:TM}{a:Addr}{ty:Ty}(h:T a=none):js T (fw T a ty):=λb t e=>⟨t,kK h b t e,.refl _⟩
theorem bP{T:TM}{a:Addr}{ty:Ty}:fw T a ty a=some ty:=if_pos rfl
theorem dq{T:TM}{a b:Addr}{ty:Ty}(h:b≠a):fw T a ty b=T b:=if_neg h
theorem dN.lift{c T T' C fl m}(x:dN c T C fl m)(l:VL T T'):dN c T' C fl m:=λk=>by
 have:=x k;generalize fl.lookup k=y at*
 induction y with
 |some=>exact ab this λv a b=>⟨v,a,l b⟩
 |none=>exact this
theorem dN.mono{c T T' C fl m}(x:dN c T C fl m)(l:js T T'):dN c T' C fl m:=x.lift l.vl
theorem dB.map{c:Cx}{T T':TM}{h h':Heap}{a:Addr}{ty:Ty}(x:dB c T h a ty)(l:VL T T')(k:∀{o},h.get? a=some o->h'.get? a=some o)(kd:∀{d},T d=some (.bA a)->T' d=some (.bA a)/\∀{o},h.get? d=some o->h'.get? d=some o):dB c T' h' a ty:=by
 induction ty with
 |obj=>obtain⟨d,m,u,n,at_,own,i,ns,f,r1,r2,r3⟩:=x;exact af (kd own) λz kd=>⟨d,m,u,n,k at_,z,kd i,CK ns λo B F g=>⟨o,B,F,kd g.1,g.2⟩,f.lift l,r1,r2,r3⟩
 |list=>exact aP x λ_ _ at_ items=> .list (k at_) (items.lift l)
 |tup=>exact aP x λ_ _ at_ items=> .tup (k at_) (items.lift l)
 |dict=>exact cP x λ_ _ at_ items nd=> .dict (k at_) (items.lift l) nd
 |code=>exact rT x λ_ _ _ at_ a b=> .code (k at_) a b
 |_=>exact ax x λ_ at_=>⟨_,k at_⟩
theorem dB.keeps{c:Cx}{T T':TM}{h h':Heap}{a:Addr}{ty:Ty}(x:dB c T h a ty)(l:js T T')(k:∀b o,(∃ty,T b=some ty)->h.get? b=some o->h'.get? b=some o)(e:T a=some ty):dB c T' h' a ty:=
 x.map l.vl (k _ _ ⟨_,e⟩) λ{d} own=>ab (l _ _ own) λt e(q:t= .bA a)=>⟨q▸e,k _ _ ⟨_,own⟩⟩
theorem W.grown{c T h h'}(x:W c T h)(k:∀b o,h.get? b=some o->h'.get? b=some o):W c T h':=
 ⟨λb f e=>k _ _ (x.base b f e),x.lo,λa ty e=>(x.ok a ty e).keeps (.refl T) (λb f _ i=>k _ _ i) e,let⟨ps,e,r⟩:=x.tab;⟨ps,k _ _ e,r⟩⟩
theorem W.push{c T h}(x:W c T h)(o:Obj):W c T (h.push o):=x.grown λ_ _ e=>Heap.get?_push_of_some _ e
theorem bF.push{c:Cx}{T:TM}{s:Shared}(o:Obj):bF c T s T {s with heap:=s.heap.push o}:=bF.grown (t:=s.toks) λ_ _ e=>Heap.get?_push_of_some _ e
theorem W.upd{c T h h'}{a:Addr}(x:W c T h)(f:Heap.SameBut a h h')(i:T a=none)(hb:c.h₀.get? a=none/\a≠c.tab):W c T h':=
 ⟨λb o e=>(f.2 b (λq=>ad (hb.1.symm.trans (q▸e)))).trans (x.base b o e),x.lo,
  λb ty e=>(x.ok b ty e).keeps (.refl T) (λb o⟨ty,e⟩ u=>(f.2 b (λq=>ad (i.symm.trans (q▸e)))).trans u) e,
  let⟨ps,e,r⟩:=x.tab;⟨ps,(f.2 _ hb.2.symm).trans e,r⟩⟩
theorem W.type{c T h}{a:Addr}{ty:Ty}(x:W c T h)(i:T a=none)(hb:c.h₀.get? a=none/\a≠c.tab)(u:dB c (fw T a ty) h a ty):W c (fw T a ty) h:=
 ⟨x.base,λb t e=>by
  by_cases q:b=a
  . rw[q];exact hb
  . rw[dq q]at e;exact x.lo b t e,
  λb t e=>by
   by_cases q:b=a
   . subst q;rw[bP]at e;obtain rfl:=Option.some.inj e;exact u
   . have f:=e;rw[dq q]at f;exact(x.ok b t f).keeps (dH i) (λ_ _ _ e=>e) f,let⟨ps,e,r⟩:=x.tab;⟨ps,e,r.le (dH i)⟩⟩
theorem bF.type{c:Cx}{aj T:TM}{ae s:Shared}{a:Addr}{ty:Ty}(x:bF c aj ae T s)(f:T a=none)(hb:ae.heap.get? a=none):bF c aj ae (fw T a ty) s:=
 ⟨λb t e=>kK f b t (x.eq b t e),x.keep,λb o h0 h1 h2=>(dq (λq=>ad (hb.symm.trans (q▸h1)))).trans (x.cN b o h0 h1 h2),x.gens,x.os⟩
theorem aG(h:Heap):h.get? h.objs.size=none:=by
 induction q:h.get? h.objs.size with
 |none=>rfl
 |some o=>exact absurd (Heap.lt_size q) (Nat.lt_irrefl _)
theorem pj{c T s s' ty}{a:Addr}(w:W c T s.heap)(e:bF c T s T s')(i:W c T s'.heap)(f:s.heap.get? a=none)(u:dB c (fw T a ty) s'.heap a ty):bF c T s (fw T a ty) s'/\W c (fw T a ty) s'.heap:=by have hn:=w.none_of f;exact⟨e.type hn f,i.type hn (w.free f) u⟩
theorem lT{c T s xs}{vs:List Value}(w:W c T s.heap)(h:dx T vs xs):Got c T s (.list xs) (.ref s.heap.objs.size) {s with heap:=s.heap.push (bo vs.toArray 0)}:=by have hn:=w.none_of (aG _);refine af (pj (ty:= .list xs) w (bF.push (bo vs.toArray 0)) (w.push _) (aG _) (.list (Heap.get?_push_size _ rfl) (h.mono (dH hn)))) λa b=>?_;exact⟨_,a,b,.list bP⟩
theorem Cp{c T s xs}{vs:List Value}(w:W c T s.heap)(h:dx T vs xs):Got c T s (.tup xs) (.ref s.heap.objs.size) {s with heap:=s.heap.push (iz vs.toArray 0)}:=by have hn:=w.none_of (aG _);refine af (pj (ty:= .tup xs) w (bF.push (iz vs.toArray 0)) (w.push _) (aG _) (.tup (Heap.get?_push_size _ rfl) (h.mono (dH hn)))) λa b=>?_;exact⟨_,a,b,.tup bP⟩
theorem Got.int{c T s}(w:W c T s.heap)(i t n):Got c T s (.int i) (.int i t) {s with toks:=n}:=⟨T,.j9 _,w,.int _ _⟩
theorem Got.fN{c T s}(w:W c T s.heap)(b):Got c T s (.bool b) (.bool b) s:=⟨T,.refl ..,w,.bool _⟩
theorem Got.trans{c T s T' s' x v fq}(e:bF c T s T' s')(g:Got c T' s' x v fq):Got c T s x v fq:=
 let⟨ub,e',w,r⟩:=g;⟨ub,e.trans e',w,r⟩
set_option tactic.hygienic true
inductive EV where
 |fz(x:AV)
 |ol(xs:List AV)
 |od(es:List (Str×AV))
 |self(a:Addr)(C:Addr)(fl:List (Str×AV))
 |raw(v:Value)
noncomputable def EV.owned:EV->Bool
 | .fz _=>false
 | .raw _=>false
 |_=>true
noncomputable abbrev ah:=List (Str×EV)
noncomputable def aQ:ah->Str->EV->ah
 |[],x,e=>[(x,e)]
 |(y,f)::r,x,e=>if y=x then(x,e)::r else(y,f)::aQ r x e
theorem dP:∀(σ:ah)(x:Str)(e:EV)(y:Str),(aQ σ x e).lookup y=if y=x then some e else σ.lookup y
 |[],x,e,y=>by
  simp only[aQ,List.lookup_cons,List.lookup_nil];by_cases h:y=x
  . simp[h]
  . simp[h,beq_eq_false_iff_ne.mpr h]
 |(z,f)::r,x,e,y=>by
  simp only[aQ];by_cases i:z=x
  . subst i;simp only[if_true,List.lookup_cons];by_cases h:y=z
    . simp[h]
    . simp[h,beq_eq_false_iff_ne.mpr h]
  . simp only[i,if_false,List.lookup_cons];rw[dP r x e y];by_cases h:y=x
    . subst h;have:(y==z)=false:=beq_eq_false_iff_ne.mpr (λq=>i q.symm);simp[this]
    . simp[h]
theorem b9{σ:ah}{x:Str}{ev:EV}{P:Str->EV->Prop}(a:P x ev)(b:∀y f,y≠x->σ.lookup y=some f->P y f)(y:Str)(f:EV)(h:(aQ σ x ev).lookup y=some f):P y f:=by
 have h:=(dP σ x ev y).symm.trans h;by_cases q:y=x
 . exact Option.some.inj ((if_pos q).symm.trans h)▸q▸a
 . exact b y f q ((if_neg q).symm.trans h)
noncomputable def kE(env:Env)(m:Str->Option Value)(h:Heap)(x:Str)(v:Value):Prop:=
 (env.kindOf x=some .local/\m x=some v)\/
 ((env.kindOf x=some .cell\/(env.kindOf x=some .free/\(x==("__classdict__":Str))=false))/\∃a,env.cells.lookup x=some a/\h.IsCell a (some v))
noncomputable def ER(c:Cx)(T:TM)(h:Heap)(H₀:Heap)(r:Addr)(v:Value):EV->Prop
 | .fz x=>VR T v x
 | .raw w=>v=w
 | .ol xs=>v= .ref r/\∃vs n,h.get? r=some (bo vs n)/\H₀.get? r=none/\T r=none/\dx T vs.toList xs
 | .od l=>v= .ref r/\∃es n,h.get? r=some (aC es n)/\H₀.get? r=none/\T r=none/\nZ T c.w.params es.toList l/\(l.map (·.1)).Nodup
 | .self a C fl=>a=r/\v= .ref r/\H₀.get? r=none/\T r=some (.obj C fl)/\∃d,h.get? r=some (instObj C d)
section
variable{c:Cx}{T:TM}{h H₀:Heap}
theorem ER.fz{r v x}(q:VR T v x):ER c T h H₀ r v (.fz x):=q
theorem ER.raw{r v}:ER c T h H₀ r v (.raw v):=rfl
theorem ER.ol{r vs n xs}(at_:h.get? r=some (bo vs n))(lo:H₀.get? r=none)(f:T r=none)(items:dx T vs.toList xs):ER c T h H₀ r (.ref r) (.ol xs):=⟨rfl,_,_,at_,lo,f,items⟩
theorem ER.od{r es n l}(at_:h.get? r=some (aC es n))(lo:H₀.get? r=none)(f:T r=none)(items:nZ T c.w.params es.toList l)(nd:(l.map (·.1)).Nodup):ER c T h H₀ r (.ref r) (.od l):=⟨rfl,_,_,at_,lo,f,items,nd⟩
theorem ER.self{r C fl d}(at_:h.get? r=some (instObj C d))(lo:H₀.get? r=none)(ty:T r=some (.obj C fl)):ER c T h H₀ r (.ref r) (.self r C fl):=⟨rfl,rfl,lo,ty,_,at_⟩
theorem ER.inv{r v x}(q:ER c T h H₀ r v x):ER c T h H₀ r v x:=q
theorem ER.at_{r v ev}(x:ER c T h H₀ r v ev)(f:ev.owned=true):∃o,h.get? r=some o/\∀y,o.data≠ .cell y:=by
 induction ev with
 |ol=>obtain⟨_,_,_,e,_⟩:=x;exact ag _ e (λ_ q=>by injection q)
 |od=>obtain⟨_,_,_,e,_⟩:=x;exact ag _ e (λ_ q=>by injection q)
 |self=>obtain⟨_,_,_,_,_,e⟩:=x;exact ag _ e (λ_ q=>by injection q)
 |_=>injection f
noncomputable def Ob(T:TM)(a:Addr):Prop:=T a=none\/∃C fl,T a=some (.obj C fl)
theorem Ob.fix{a}(h:Ob T a):AT T a:=λd q=>h.elim (λe=>ad (e.symm.trans q)) λ⟨_,_,e⟩=>by injection e.symm.trans q with z;injection z
theorem ER.map{T':TM}{h':Heap}{r v ev}(x:ER c T h H₀ r v ev)(l:VL T T')(k:ev.owned=true->Ob T r->H₀.get? r=none->∀{o},h.get? r=some o->h'.get? r=some o)(nn:ev.owned=true->H₀.get? r=none->T r=none->∀{o},h.get? r=some o->T' r=none)(i:ev.owned=true->∀{C fl},T r=some (.obj C fl)->T' r=some (.obj C fl)):ER c T' h' H₀ r v ev:=by
 induction ev with
 |fz=>exact l x
 |raw=>exact x
 |ol=>exact af x λe x=>wC x λ_ _ at_ lo f items=>⟨e,_,_,k rfl (.inl f) lo at_,lo,nn rfl lo f at_,items.lift l⟩
 |od=>exact af x λe x=>KM x λ_ _ at_ lo f items nd=>⟨e,_,_,k rfl (.inl f) lo at_,lo,nn rfl lo f at_,items.lift l,nd⟩
 |self=>exact GM x λe u lo ty x=>ax x λ_ at_=>⟨e,u,lo,i rfl ty,_,k rfl (.inr ⟨_,_,ty⟩) lo at_⟩
end
noncomputable def AJ(σ:ah)(ρ:Str->Addr):Prop:=∀x y e f,σ.lookup x=some e->σ.lookup y=some f->e.owned=true->f.owned=true->ρ x=ρ y->x=y
structure ig(c:Cx)(env:Env)(H₀:Heap)(σ:ah)(T:TM)(h:Heap)(m:Str->Option Value)(ρ:Str->Addr):Prop where
 ns:h.Ns env.locals m
 inj:AJ σ ρ
 apart:∀x ev,σ.lookup x=some ev->ev.owned=true->ρ x≠env.locals
 val:∀x ev,σ.lookup x=some ev->∃v,kE env m h x v/\ER c T h H₀ (ρ x) v ev
structure FR(c:Cx)(env:Env)(H₀:Heap)(σ:ah)(T:TM)(h:Heap):Prop where
 kind:env.scope.kind= .function
 glob:env.globals=mainGlobals
 blt:env.builtins=builtinsNs
 jx:∀a,H₀.get? a=none->c.h₀.get? a=none/\a≠c.tab
 loc:T env.locals=none
 fE:H₀.get? env.locals=none
 cells:∀x a,env.cells.lookup x=some a->(∃v,h.IsCell a v)/\T a=none/\c.h₀.get? a=none/\a≠c.tab
 inj:∀x y a,env.cells.lookup x=some a->env.cells.lookup y=some a->x=y
 own:∀x,env.kindOf x=some .cell->∃a,env.cells.lookup x=some a
 vals:∃m ρ,ig c env H₀ σ T h m ρ
theorem FR.fz{c:Cx}{env:Env}{H₀ h:Heap}{σ:ah}{T:TM}{m}(k:env.scope.kind= .function)(g:env.globals=mainGlobals)(b:env.builtins=builtinsNs)(lo:∀a,H₀.get? a=none->c.h₀.get? a=none/\a≠c.tab)(l:T env.locals=none)(H:H₀.get? env.locals=none)
 (f:∀x a,env.cells.lookup x=some a->(∃v,h.IsCell a v)/\T a=none/\c.h₀.get? a=none/\a≠c.tab)(B:∀x y a,env.cells.lookup x=some a->env.cells.lookup y=some a->x=y)(own:∀x,env.kindOf x=some .cell->∃a,env.cells.lookup x=some a)
 (ns:h.Ns env.locals m)(G:∀p∈σ,∃v y,p.2= .fz y/\kE env m h p.1 v/\VR T v y):FR c env H₀ σ T h:=by
 have no:∀{z:Str}{e:EV},σ.lookup z=some e->e.owned=true->False:=λi u=>by refine aP (G _ (mem_of_lookup i)) λv y F _=>?_;subst F;exact absurd u Bool.false_ne_true
 refine⟨k,g,b,lo,l,H,f,B,own,m,λ_=>0,ns,λ_ _ _ _ i _ u=>(no i u).elim,λ_ _ i u=>(no i u).elim,λz e i=>?_⟩;refine cP (G _ (mem_of_lookup i)) λv y F h1 h2=>?_;subst F;exact ag v h1 (.fz h2)
noncomputable def eo(env:Env)(H₀:Heap)(x:Str):Prop:=∀a,env.cells.lookup x=some a->env.kindOf x=some .cell->H₀.get? a=none
theorem eo.local{env:Env}{H₀:Heap}{x:Str}(h:env.kindOf x=some .local):eo env H₀ x:=λa _ e=>by injection h.symm.trans e with z;injection z
theorem Heap.Ns.obj{h:Heap}{a m}(x:h.Ns a m):∃o f n,h.get? a=some o/\o.data= .dict f n:=let⟨o,f,n,e,d,_⟩:=x;⟨o,f,n,e,d⟩
theorem ig.ext{c env H₀ σ T T' s s' m ρ}(F:FR c env H₀ σ T s.heap)(V:ig c env H₀ σ T s.heap m ρ)(e:bF c T s T' s'):ig c env H₀ σ T' s'.heap m ρ:=by
 have kp:∀a o,T a=none->c.h₀.get? a=none/\a≠c.tab->s.heap.get? a=some o->s'.heap.get? a=some o:=λa o h1 h2 u=>e.np a o h1 h2.2 u;have f:∀x a v,env.cells.lookup x=some a->s.heap.IsCell a v->s'.heap.IsCell a v:=λx a v hx i=>by refine dh (F.cells x a hx) λ_ z B=>?_;refine ab i λo G hd=>?_;exact ag o (kp a o z B G) hd
 refine⟨?_,V.inj,V.apart,λx ev hx=>?_⟩
 . refine ga V.ns λo H I J N=>?_;exact rU o H I (kp _ _ F.loc (F.jx _ F.fE) J) N
 . refine ab (V.val x ev hx) λv h1 h2=>?_;refine ag v ?_ ?_
   . rcases h1 with h1|⟨hk,a,ha,i⟩
     . exact .inl h1
     . exact .inr ⟨hk,a,ha,f x a _ ha i⟩
   . exact h2.map e.le.vl (λ_ O lo _=>e.keep _ _ O.fix (F.jx _ lo).2) (λ_ lo P _ at_=>e.cN _ _ (F.jx _ lo).2 at_ P) λ_ _ _=>e.eq _ _
theorem FR.ext{c env H₀ σ T T' s s'}(F:FR c env H₀ σ T s.heap)(e:bF c T s T' s'):FR c env H₀ σ T' s'.heap:=by refine cq F.vals λm ρ V=>?_;refine ga (Heap.Ns.obj V.ns) λlo G H z I=>?_;refine⟨F.kind,F.glob,F.blt,F.jx,e.cN _ _ (F.jx _ F.fE).2 z F.loc,F.fE,λx a hx=>?_,F.inj,F.own,m,ρ,V.ext F e⟩;refine dh (F.cells x a hx) λB i f=>?_;refine aP B λv o u hd=>?_;exact⟨⟨v,o,e.np a o i f.2 u,hd⟩,e.cN _ _ f.2 u i,f⟩
theorem kE.load{c:Cx}{env H₀ σ T m}{s:Shared}{x:Str}{v:Value}{M A E}{Q:Value->Shared->Prop}(F:FR c env H₀ σ T s.heap)(f:s.heap.Ns env.locals m)(H:kE env m s.heap x v)(h:Q v s):wpAny M A (loadName env x) Q E s:=by
 rcases H with⟨hk,hm⟩|⟨hk|⟨hk,hn⟩,a,ha,hc⟩
 . exact wpAny_loadName_local F.kind hk f hm h
 . exact wpAny_loadName_cell F.kind hk ha hc h
 . exact wpAny_loadName_free F.kind hk ha hc h hn
theorem n8{c:Cx}{env H₀ σ T}{s:Shared}{x:Str}{y:AV}{M A E}{Q:Value->Shared->Prop}(F:FR c env H₀ σ T s.heap)(hx:σ.lookup x=some (.fz y))(h:∀v,VR T v y->Q v s):wpAny M A (loadName env x) Q E s:=by refine cq F.vals λm ρ V=>?_;refine ab (V.val x _ hx) λv h1 h2=>?_;exact h1.load F V.ns (h v h2.inv)
theorem vG{c:Cx}{env H₀ σ T}{s:Shared}{x:Str}{xs:List AV}{M A E}{Q:Value->Shared->Prop}(F:FR c env H₀ σ T s.heap)(hx:σ.lookup x=some (.ol xs))
 (h:∀a vs n,s.heap.get? a=some (bo vs n)->dx T vs.toList xs->T a=none->H₀.get? a=none->Q (.ref a) s):wpAny M A (loadName env x) Q E s:=by
 refine cq F.vals λm ρ V=>?_;refine ab (V.val x _ hx) λv h1 h2=>?_;obtain⟨rfl,_,_,at_,lo,f,items⟩:=h2.inv;exact h1.load F V.ns (h _ _ _ at_ items f lo)
theorem vH{c:Cx}{env H₀ σ T}{s:Shared}{x:Str}{l:List (Str×AV)}{M A E}{Q:Value->Shared->Prop}(F:FR c env H₀ σ T s.heap)(hx:σ.lookup x=some (.od l))
 (h:∀a f n,s.heap.get? a=some (aC f n)->nZ T c.w.params f.toList l->(l.map (·.1)).Nodup->T a=none->H₀.get? a=none->Q (.ref a) s):wpAny M A (loadName env x) Q E s:=by
 refine cq F.vals λm ρ V=>?_;refine ab (V.val x _ hx) λv h1 h2=>?_;obtain⟨rfl,_,_,at_,lo,i,items,nd⟩:=h2.inv;exact h1.load F V.ns (h _ _ _ at_ items nd i lo)
theorem qt{c:Cx}{env H₀ σ T}{s:Shared}{x:Str}{a C fl}{M A E}{Q:Value->Shared->Prop}(F:FR c env H₀ σ T s.heap)(hx:σ.lookup x=some (.self a C fl))
 (h:∀d,s.heap.get? a=some (instObj C d)->T a=some (.obj C fl)->H₀.get? a=none->Q (.ref a) s):wpAny M A (loadName env x) Q E s:=by
 refine cq F.vals λm ρ V=>?_;refine ab (V.val x _ hx) λv h1 h2=>?_;generalize ρ x=r at h2;obtain⟨rfl,rfl,lo,ty,_,at_⟩:=h2.inv;exact h1.load F V.ns (h _ at_ ty lo)
structure St(c:Cx)(aj:TM)(ae:Shared)(env:Env)(σ:ah)(T:TM)(s:Shared):Prop where
 w:W c T s.heap
 e:bF c aj ae T s
 f:FR c env ae.heap σ T s.heap
 hO:W c aj ae.heap
theorem bF.upd{c aj ae T}{s:Shared}{a:Addr}{h':Heap}{t:Nat}(x:bF c aj ae T s)(i:Heap.SameBut a s.heap h')(u:ae.heap.get? a=none):bF c aj ae T {s with heap:=h',toks:=t}:=
 ⟨x.eq,λb o h1 h2 f=>(i.2 b (λq=>ad (u.symm.trans (q▸f)))).trans (x.keep b o h1 h2 f),x.cN,x.gens,x.os⟩
theorem St.toks{c aj ae env σ T s}(x:St c aj ae env σ T s)(t:Nat):St c aj ae env σ T {s with toks:=t}:=⟨x.w,x.e.toks t,x.f,x.hO⟩
theorem St.ext{c aj ae env σ T s T' s'}(x:St c aj ae env σ T s)(e:bF c T s T' s')(w:W c T' s'.heap):St c aj ae env σ T' s':=⟨w,x.e.trans e,x.f.ext e,x.hO⟩
theorem ER.sameBut{c T h h' H₀ r v ev}{b:Addr}(x:ER c T h H₀ r v ev)(f:Heap.SameBut b h h')(hb:ev.owned=true->r≠b):ER c T h' H₀ r v ev:=
 x.map (λq=>q) (λo _ _ _=>(f.2 _ (hb o)).trans) (λ_ _ n _ _=>n) λ_ _ _ e=>e
theorem ER.kO{c T h H₀ r v ev a y}(x:ER c T h H₀ r v ev)(f:ev.owned=true)(i:h.IsCell a y):r≠a:=λq=>by refine ab (x.at_ f) λo e d=>?_;refine ab i λB u z=>?_;exact d _ (Option.some.inj (e.symm.trans (q▸u))▸z)
noncomputable def dS(env:Env)(T:TM)(s s':Shared):Prop:=(∀a ty o,T a=some ty->s.heap.get? a=some o->s'.heap.get? a=some o)/\
 ∀a o,a≠env.locals->(∀x,env.cells.lookup x≠some a)->s.heap.get? a=some o->s'.heap.get? a=some o
theorem dS.of{env:Env}{T:TM}{s s':Shared}{a:Addr}(i:Heap.SameBut a s.heap s'.heap)(hn:T a=none)(u:a=env.locals\/∃x,env.cells.lookup x=some a):dS env T s s':=
 ⟨λb ty o h1 f=>(i.2 b (λq=>ad (hn.symm.trans (q▸h1)))).trans f,λb o h1 h2 f=>(i.2 b (λq=>by
  rcases u with e|⟨x,e⟩
  . exact h1 (q.trans e)
  . exact h2 x (q▸e))).trans f⟩
theorem dS.refl(env T s):dS env T s s:=⟨λ_ _ _ _ e=>e,λ_ _ _ _ e=>e⟩
theorem dS.trans{env T s s' fq}(x:dS env T s s')(y:dS env T s' fq):dS env T s fq:=⟨λa ty o h1 h2=>y.1 a ty o h1 (x.1 a ty o h1 h2),λa o h1 h2 f=>y.2 a o h1 h2 (x.2 a o h1 h2 f)⟩
theorem jA{c aj ae env σ T}{s:Shared}{x:Str}{v:Value}{ev:EV}{M A E}{Q:Unit->Shared->Prop}(S:St c aj ae env σ T s)(oc:eo env ae.heap x)
 (H:env.kindOf x=some .local\/env.kindOf x=some .cell)
 {m:Str->Option Value}{ρ:Str->Addr}(V:ig c env ae.heap σ T s.heap m ρ)
 (r:Addr)(hv:ER c T s.heap ae.heap r v ev)(hl:ev.owned=true->r≠env.locals)(fresh:ev.owned=true->∀y f,y≠x->σ.lookup y=some f->f.owned=true->ρ y≠r)
 (h:∀s',St c aj ae env (aQ σ x ev) T s'->dS env T s s'->Q () s'):wpAny M A (storeName env x v) Q E s:=by
 have F:=S.f;let I:Str->Addr:=λy=>if y=x then r else ρ y
 have O:I x=r:=if_pos rfl;have N:∀y,y≠x->I y=ρ y:=λy hy=>if_neg hy;have wm:AJ (aQ σ x ev) I:=λy z e f hy U=>b9 (P:=λy e=>∀z f,(aQ σ x ev).lookup z=some f->e.owned=true->f.owned=true->I y=I z->y=z)
  (b9 (λ_ _ _=>rfl) λz f n U W of X=>absurd ((N z n).symm.trans (X.symm.trans O)) (fresh W z f n U of))
  (λy e n hy=>b9 (λW of X=>absurd ((N y n).symm.trans (X.trans O)) (fresh of y e n hy W)) λz f n' U W of X=>V.inj y z e f hy U W of ((N y n).symm.trans (X.trans (N z n')))) y e hy z f U
 have RB:∀y f,(aQ σ x ev).lookup y=some f->f.owned=true->I y≠env.locals:=
  b9 (λof q=>hl of (O.symm.trans q)) λy f n hy of q=>V.apart y f hy of ((N y n).symm.trans q)
 have nC:∀{a v},s.heap.IsCell a v->a≠env.locals:=λ⟨_,h1,h2⟩ q=>ga (Heap.Ns.obj V.ns) λ_ _ _ Y hd=>by injection h2.symm.trans (Option.some.inj ((q▸h1:s.heap.get? env.locals=_).symm.trans Y)▸hd)
 refine Or.elim H (λH=>?_) λH=>?_
 . refine wpAny_storeName_local H V.ns (λh' hn i=>?_) (by rw[F.kind];rfl);have B:∀a v,s.heap.IsCell a v->h'.IsCell a v:=λa v G=>G.sameBut i (nC G);refine h _ ?_ (dS.of i F.loc (.inl rfl));refine⟨S.w.upd i F.loc (F.jx _ F.fE),S.e.upd i F.fE,⟨F.kind,F.glob,F.blt,F.jx,F.loc,F.fE,λy a hy=>?_,F.inj,F.own,_,I,hn,wm,RB,b9 ⟨v,.inl ⟨H,if_pos rfl⟩,O▸hv.sameBut i hl⟩ λy f n hy=>?_⟩,S.hO⟩
   . exact af (F.cells y a hy) λ⟨v,G⟩ r=>⟨⟨v,B a v G⟩,r⟩
   . rw[N y n];refine ab (V.val y f hy) λu h2 h3=>⟨u,h2.imp (λ⟨Z,m2⟩=>⟨Z,(if_neg n).trans m2⟩) λ⟨Z,a,J,G⟩=>⟨Z,a,J,B a _ G⟩,h3.sameBut i (V.apart y f hy)⟩
 . refine ax (F.own x H) λa J=>?_;refine dh (F.cells x a J) λcr c2 c3=>?_;refine ax cr λRQ G=>?_;refine wpAny_storeName_cell F.kind H J G λh' hn i=>?_;refine h _ ?_ (dS.of i c2 (.inr ⟨x,J⟩));refine⟨S.w.upd i c2 c3,(S.e.upd (t:=s.toks) i (oc a J H)),⟨F.kind,F.glob,F.blt,F.jx,F.loc,F.fE,λy b hy=>?_,F.inj,F.own,m,I,?_,wm,RB,b9 ⟨v,.inr ⟨.inl H,a,J,hn⟩,O▸hv.sameBut i λY=>hv.kO Y G⟩ λy f n hy=>?_⟩,S.hO⟩
   . refine af (F.cells y b hy) λ⟨v1,JY⟩ r=>⟨?_,r⟩;by_cases q:b=a
     . exact⟨_,q▸hn⟩
     . exact⟨v1,JY.sameBut i q⟩
   . refine ga V.ns λo es n g1 g2=>?_;exact rU o es n ((i.2 _ (nC G).symm).trans g1) g2
   . rw[N y n];exact ab (V.val y f hy) λu h2 h3=>⟨u,h2.imp id λ⟨Z,b,hb,Cn⟩=>⟨Z,b,hb,Cn.sameBut i λq=>n (F.inj y x a (q▸hb) J)⟩,h3.sameBut i λY=>h3.kO Y G⟩
theorem gk{c aj ae env σ T}{s:Shared}{x:Str}{v:Value}{y:AV}{M A E}{Q:Unit->Shared->Prop}(S:St c aj ae env σ T s)(i:eo env ae.heap x)
 (u:env.kindOf x=some .local\/env.kindOf x=some .cell)(hv:VR T v y)
 (h:∀s',St c aj ae env (aQ σ x (.fz y)) T s'->dS env T s s'->Q () s'):wpAny M A (storeName env x v) Q E s:=by
 refine cq S.f.vals λm ρ V=>?_;exact jA S i u V 0 (.fz hv) (λq=>by exact absurd q Bool.false_ne_true) (λq=>by exact absurd q Bool.false_ne_true) h
theorem la{c aj ae env σ T T'}{s s':Shared}{x:Str}{r:Addr}{vs n}{xs:List AV}{M A E}{Q:Unit->Shared->Prop}(S:St c aj ae env σ T s)(u:eo env ae.heap x)
 (B:env.kindOf x=some .local\/env.kindOf x=some .cell)(e:bF c T s T' s')(w:W c T' s'.heap)(hr:s.heap.get? r=none)(hn:T' r=none)(F:s'.heap.get? r=some (bo vs n))(hi:dx T' vs.toList xs)
 (h:∀i,St c aj ae env (aQ σ x (.ol xs)) T' i->dS env T' s' i->Q () i):wpAny M A (storeName env x (.ref r)) Q E s':=by
 refine cq S.f.vals λm ρ V=>?_;refine jA (S.ext e w) u B (V.ext S.f e) r (.ol F (S.e.fresh S.w hr) hn hi) (λ_ q=>?_) (λ_ y f _ hy of q=>?_) h
 . exact ga (Heap.Ns.obj V.ns) λ_ _ _ z _=>ad (hr.symm.trans (q▸z))
 . exact ab (V.val y f hy) λv _ G=>ab (G.at_ of) λ_ e _=>ad (hr.symm.trans (q▸e))
theorem sI{c aj ae env σ T T'}{s s':Shared}{x:Str}{r:Addr}{es n}{l:List (Str×AV)}{M A E}{Q:Unit->Shared->Prop}(S:St c aj ae env σ T s)(u:eo env ae.heap x)
 (B:env.kindOf x=some .local\/env.kindOf x=some .cell)(e:bF c T s T' s')(w:W c T' s'.heap)(hr:s.heap.get? r=none)(hn:T' r=none)(F:s'.heap.get? r=some (aC es n))(hi:nZ T' c.w.params es.toList l)(nd:(l.map (·.1)).Nodup)
 (h:∀i,St c aj ae env (aQ σ x (.od l)) T' i->dS env T' s' i->Q () i):wpAny M A (storeName env x (.ref r)) Q E s':=by
 refine cq S.f.vals λm ρ V=>?_;refine jA (S.ext e w) u B (V.ext S.f e) r (.od F (S.e.fresh S.w hr) hn hi nd) (λ_ q=>?_) (λ_ y f _ hy of q=>?_) h
 . exact ga (Heap.Ns.obj V.ns) λ_ _ _ z _=>ad (hr.symm.trans (q▸z))
 . exact ab (V.val y f hy) λv _ G=>ab (G.at_ of) λ_ e _=>ad (hr.symm.trans (q▸e))
noncomputable def lU(σ:ah)(x:Str):ah:=match σ.lookup x with
 |some (.ol xs)=>aQ σ x (.fz (.list xs))
 |some (.od l)=>aQ σ x (.fz (.dict l))
 |_=>σ
theorem ER.type{c T h H₀ r v ev a ty}(x:ER c T h H₀ r v ev)(f:T a=none)(hb:ev.owned=true->r≠a):ER c (fw T a ty) h H₀ r v ev:=
 x.map (dH f).vl (λ_ _ _ _ e=>e) (λo _ n _ _=>(dq (hb o)).trans n) λ_ _ _=>kK f _ _
theorem St.D8{c aj ae env σ T s}{x:Str}{ev:EV}{ty:Ty}{y:AV}(S:St c aj ae env σ T s)(hx:σ.lookup x=some ev)(I:ev.owned=true)
 (hy:∀r v,ER c T s.heap ae.heap r v ev->VR (fw T r ty) v y/\T r=none/\ae.heap.get? r=none/\dB c (fw T r ty) s.heap r ty):
 ∃T',St c aj ae env (aQ σ x (.fz y)) T' s/\∀a ty,T a=some ty->T' a=some ty:=by
 refine cq S.f.vals λm ρ V=>?_;have F:=S.f;refine ab (V.val x ev hx) λv h1 h2=>?_;refine eM (hy _ v h2) λO H J Q=>?_;refine ag (fw T (ρ x) ty) ⟨S.w.type H (F.jx _ J) Q,S.e.type H J,⟨F.kind,F.glob,F.blt,F.jx,?_,F.fE,λz a i=>?_,F.inj,F.own,m,ρ,V.ns,?_,?_,λz f i=>?_⟩,S.hO⟩ (kK H)
 . rw[dq (V.apart x ev hx I).symm];exact F.loc
 . refine dh (F.cells z a i) λU W X=>?_;refine ax U λu N=>?_;exact⟨⟨u,N⟩,by rw[dq λq=>h2.kO I N q.symm];exact W,X⟩
 . exact λa b e f B hb=>b9 (ev:= .fz y) (P:=λa e=>∀b f,(aQ σ x (.fz y)).lookup b=some f->e.owned=true->f.owned=true->ρ a=ρ b->a=b) (λ_ _ _ G=>absurd G Bool.false_ne_true) (λa e _ B=>b9 (ev:= .fz y) (P:=λb f=>e.owned=true->f.owned=true->ρ a=ρ b->a=b) (λ_ G=>absurd G Bool.false_ne_true) λb f _ hb=>V.inj a b e f B hb) a e B b f hb
 . exact b9 (P:=λa e=>e.owned=true->ρ a≠env.locals) (λG=>absurd G Bool.false_ne_true) λa e _ B=>V.apart a e B
 . exact b9 (P:=λz f=>∃v,kE env m s.heap z v/\ER c (fw T (ρ x) ty) s.heap ae.heap (ρ z) v f) ⟨v,h1,.fz O⟩ (λz f q1 i=>ab (V.val z f i) λu Y Z=>⟨u,Y,Z.type H λof q=>q1 (V.inj z x f ev i hx of I q)⟩) z f i
theorem St.lU{c aj ae env σ T s}(S:St c aj ae env σ T s)(x:Str):∃T',St c aj ae env (lU σ x) T' s/\∀a ty,T a=some ty->T' a=some ty:=by
 unfold Mine.Internal.lU
 induction hx:σ.lookup x using Option.casesOn with
 |none=>exact ag T S λ_ _ e=>e
 |some e=>
  induction e using EV.casesOn with
  |ol xs=>exact S.D8 (ty:= .list xs) hx rfl λr v q=>by obtain⟨rfl,_,_,at_,lo,f,items⟩:=q.inv;exact⟨.list bP,f,lo,.list at_ (items.mono (dH f))⟩
  |od l=>exact S.D8 (ty:= .dict l) hx rfl λr v q=>by obtain⟨rfl,_,_,at_,lo,f,items,nd⟩:=q.inv;exact⟨.dict bP,f,lo,.dict at_ (items.mono (dH f)) nd⟩
  |_=>exact ag T S λ_ _ e=>e
set_option tactic.hygienic false
set_option tactic.hygienic true
structure cD(A:Around)(k:Nat):Prop where
 depth:A.depth+k<=999
 units:A.units+8*k+100<=9800
 guards:A.guards=some []
 handled:A.handled=none
theorem cD.in1{A:Around}{k:Nat}(x:cD A k)(h:A.units+8*k+101<=9800):cD A.in1 k:=⟨x.depth,by rw[Around.in1_units];lia,x.guards,x.handled⟩
theorem cD.le{A:Around}{k j:Nat}(x:cD A k)(h:j<=k):cD A j:=⟨by have:=x.depth;lia,by have:=x.units;lia,x.guards,x.handled⟩
theorem cD.line{A:Around}{k:Nat}(x:cD A k):A.units<cLine:=by have:=x.units;unfold cLine;lia
theorem cD.I5{A:Around}{k:Nat}(x:cD A k):A.in1.units<cLine:=by rw[Around.in1_units];have:=x.units;unfold cLine;lia
theorem cD.lim{A:Around}{k:Nat}(x:cD A k):A.depth<recursionLimit:=by have:=x.depth;unfold recursionLimit;lia
noncomputable def cg:Value->Shared->Prop:=λ_ _=>False
noncomputable def bQ(c:Cx)(env:Env)(A:Around)(H₀:Heap)(σ:ah)(e:Expr)(x:AV):Prop:=
 ∀T s,W c T s.heap->FR c env H₀ σ T s.heap->wpAny c.M A (eval e env) (Got c T s x) cg s
inductive AG(c:Cx)(T:TM)(s:Shared)(b b':Bool)(s':Shared):Prop
 |mk (q:b'=b) (T':TM) (e:bF c T s T' s') (w:W c T' s'.heap)
noncomputable def iU(c:Cx)(env:Env)(A:Around)(H₀:Heap)(σ:ah)(e:Expr)(b:Bool):Prop:=
 ∀T s,W c T s.heap->FR c env H₀ σ T s.heap->wpAny c.M A (isTrue e env (eval e env)) (AG c T s b) cg s
section
variable{c:Cx}{env:Env}{A:Around}{H₀:Heap}{σ:ah}
theorem bQ.then{e x}{T s}{α:Type}{f:Value->Sem α}{Q:α->Shared->Prop}{E}(h:bQ c env A H₀ σ e x)(w:W c T s.heap)(F:FR c env H₀ σ T s.heap)
 (k:∀v T' s',bF c T s T' s'->W c T' s'.heap->FR c env H₀ σ T' s'.heap->VR T' v x->wpAny c.M A (f v) Q E s'):wpAny c.M A (eval e env>>=f) Q E s:=
 wpAny_bind (wpAny_mono (h T s w F) (λv s'⟨T',ex,i,r⟩=>k v T' s' ex i (F.ext ex) r) λ_ _ z=>z.elim)
theorem bQ.hold{e x}{T s}{α:Type}{l:List Value}{f:Value->Sem α}{Q:α->Shared->Prop}{E}(h:bQ c env A H₀ σ e x)(w:W c T s.heap)(F:FR c env H₀ σ T s.heap)
 (k:∀v T' s',bF c T s T' s'->W c T' s'.heap->FR c env H₀ σ T' s'.heap->VR T' v x->wpAny c.M A (f v) Q E s'):wpAny c.M A (holding l (eval e env)>>=f) Q E s:=
 wpAny_bind (wpAny_holding (wpAny_mono (h T s w F) (λv s'⟨T',ex,i,r⟩=>k v T' s' ex i (F.ext ex) r) λ_ _ z=>z.elim))
theorem pv{i k pos}:bQ c env A H₀ σ (.Constant (.int i) k pos) (.int i):=λT s w F=>wpAny_Constant_int (.int w _ _ _)
theorem mP{k pos}:bQ c env A H₀ σ (.Constant .none k pos) .none:=λT s w F=>wpAny_Constant_none ⟨T,.refl ..,w,.none⟩
theorem mQ{b k pos}:bQ c env A H₀ σ (.Constant (.bool b) k pos) (.bool b):=λT s w F=>wpAny_Constant_bool ⟨T,.refl ..,w,.bool _⟩
theorem jm{x k pos}:bQ c env A H₀ σ (.Constant (.str x) k pos) (.str x):=λT s w F=>wpAny_Constant_str ⟨T,.j9 _,w,.str _ _⟩
theorem bY{x pos y}(h:σ.lookup x=some (.fz y))(hd:(x==("__debug__":Str))=false):bQ c env A H₀ σ (.Name x pos) y:=λT s w F=>
 wpAny_Name (n8 F h λv r=>⟨T,.refl ..,w,r⟩) hd
theorem rP{t b o pos x}{q:Bool}(ht:iU c env A H₀ σ t q)(hb:q=true->bQ c env A H₀ σ b x)(i:q=false->bQ c env A H₀ σ o x):bQ c env A H₀ σ (.IfExp t b o pos) x:=λT s w F=>by
 refine wpAny_bind (wpAny_mono (ht T s w F) (λu s'⟨e,T',ex,f⟩=>?_) λ_ _ z=>z.elim);subst e
 induction u with
 |true=>exact wpAny_mono (hb rfl T' s' f (F.ext ex)) (λv B g=>g.trans ex) λ_ _ z=>z
 |false=>exact wpAny_mono (i rfl T' s' f (F.ext ex)) (λv B g=>g.trans ex) λ_ _ z=>z
noncomputable def Hv(c:Cx)(A:Around)(op:Operator)(x y z:AV):Prop:=∀T s u v,W c T s.heap->VR T u x->VR T v y->wpAny c.M A (binaryOp op u v) (Got c T s z) cg s
theorem rQ{l op r pos x y z}(hl:bQ c env A H₀ σ l x)(hr:bQ c env A H₀ σ r y)(i:Hv c A op x y z):bQ c env A H₀ σ (.BinOp l op r pos) z:=λT s w F=>by rw[arm_eval_BinOp];refine hl.then w F λu T1 s1 B G H r1=>hr.hold G H λv I J f N F2 r2=>?_;refine wpAny_bind (wpAny_standAt (wpAny_operate' (wpAny_mono (i I J u v N (r1.mono f.le) r2) (λv s' g=>(g.trans f).trans B) λ_ _ z=>z)))
noncomputable def Sm(a:Int):Bool:=decide (a.natAbs<2^1900)
theorem uv{a:Int}(h:Sm a=true):Builtin.Int.intBits a<=2^20:=by
 have h:=of_decide_eq_true h;unfold Builtin.Int.intBits;split
 . exact Nat.zero_le _
 . rename_i q;have:a.natAbs≠0:=by simpa using q
   have:=(Nat.log2_lt this).mpr h;lia
theorem xH{a:Int}(h:Sm a=true):a.natAbs.log2<1920:=by
 by_cases q:a.natAbs=0
 . rw[q];decide
 . have:=(Nat.log2_lt q).mpr (of_decide_eq_true h);lia
theorem Bt{a b:Int}(h:Sm b=true):Builtin.divisionGoesByPylong a b=false:=by
 have h2:=xH h;unfold Builtin.divisionGoesByPylong;have:decide ((if b==0 then 0 else b.natAbs.log2/30+1)>300)=false:=by apply decide_eq_false;split<;>lia
 simp only[this,Bool.false_and]
noncomputable def binI(op:Operator)(a b:Int):Option AV:=match op with
 | .Add=>some (.int (a+b))
 | .Sub=>some (.int (a-b))
 | .Mult=>if Sm a&&Sm b then some (.int (a*b))else none
 | .FloorDiv=>if Sm b&&b !=0 then some (.int (a.fdiv b))else none
 | .Mod=>if b !=0 then some (.int (a.fmod b))else none
 |_=>none
theorem x6{op a b z}(h:binI op a b=some z):Hv c A op (.int a) (.int b) z:=λT s u v w i B=>by
 refine ax i.inv λt f=>?_;subst f;refine ax B.inv λF f=>?_;subst f
 induction op with
 |Add=>exact Option.some.inj h▸add_int (.int w _ _ _)
 |Sub=>exact Option.some.inj h▸sub_int (.int w _ _ _)
 |Mult=>refine af (Jq h) λq e=>e▸?_;have q:=(Bool.and_eq_true ..).mp q;exact mul_int (.int w _ _ _) (IntMulOk.of_bits (uv q.1) (uv q.2))
 |Mod=>exact af (Jq h) λq e=>e▸mod_int' (by simpa using q) (.int w _ _ _)
 |FloorDiv=>refine af (Jq h) λq e=>e▸?_;have q:=(Bool.and_eq_true ..).mp q;exact floordiv_int (by simpa using q.2) (.int w _ _ _) (.inl (Bt q.1))
 |_=>exact ad h
theorem Fp{a b:Str}(h:a.length+b.length<=sizeLine):Hv c A .Add (.str a) (.str b) (.str (a++b)):=λT s u v w z i=>by refine ax z.inv λt f=>?_;subst f;refine ax i λB f=>?_;clear i;subst f;exact add_str (λB tk=>⟨T,.j9 _,w,.str _ _⟩) h
noncomputable def sy(c:Cx)(A:Around)(op:CmpOp)(x y:AV)(b:Bool):Prop:=∀T s u v,W c T s.heap->VR T u x->VR T v y->wpAny c.M A (compareOp op u v) (Got c T s (.bool b)) cg s
noncomputable def G4(op:CmpOp)(a b:Int):Option Bool:=match op with
 | .Eq=>some (a==b)
 | .NotEq=>some (a !=b)
 | .Lt=>some (decide (a<b))
 | .LtE=>some (decide (a<=b))
 | .Gt=>some (decide (b<a))
 | .GtE=>some (decide (b<=a))
 |_=>none
theorem G7{op a b z}(h:G4 op a b=some z):sy c A op (.int a) (.int b) z:=λT s u v w i B=>by
 refine ax i.inv λt f=>?_;subst f;refine ax B.inv λF f=>?_;subst f
 induction op with
 |Eq=>exact Option.some.inj h▸eq_int (.fN w _)
 |NotEq=>exact Option.some.inj h▸ne_int (.fN w _)
 |Lt=>exact Option.some.inj h▸lt_int (.fN w _)
 |LtE=>exact Option.some.inj h▸le_int (.fN w _)
 |Gt=>exact Option.some.inj h▸gt_int (.fN w _)
 |GtE=>exact Option.some.inj h▸ge_int (.fN w _)
 |_=>exact ad h
theorem G5{a b:Str}:sy c A .Eq (.str a) (.str b) (a==b):=λT s u v w i z=>by refine ax i.inv λt f=>?_;subst f;refine ax z.inv λB f=>?_;subst f;exact eq_str (.fN w _)
noncomputable def isNone:AV->Bool
 | .none=>true
 |_=>false
theorem VR.none?{T:TM}{x u}(h:VR T u x):(u==Value.none)=isNone x:=by induction x using AV.casesOn<;>first|(obtain rfl:=h;rfl)|(refine ax h λ_ f=>?_;clear h;subst f;rfl)|(refine ab h λ_ f _=>?_;clear h;subst f;rfl)|(refine aP h λ_ _ i _=>?_;clear h;subst i;rfl)
theorem wH{x}:sy c A .Is x .none (isNone x):=λT s u v w f i=>by obtain rfl:=i.inv;exact is_none (f.none?.symm▸ .fN w _)
theorem pF{x}:sy c A .IsNot x .none (!isNone x):=λT s u v w f i=>by obtain rfl:=i.inv;exact isNot_none (f.none?.symm▸ .fN w _)
theorem cG{op:CmpOp}{e:Expr}{t:Sem Value}(h:behindInMarks op e=false):markedEach [op] [e] [t]=[t]:=by unfold markedEach;rw[markedBehindIn_of_false h]
theorem GI{l op r pos x y b}(i:behindInMarks op r=false)(hl:bQ c env A H₀ σ l x)(hr:bQ c env A H₀ σ r y)(B:sy c A op x y b):bQ c env A H₀ σ (.Compare l [op] [r] pos) (.bool b):=λT s w F=>by rw[arm_eval_Compare];refine hl.then w F λu T1 s1 G H I r1=>?_;rw[cG i];refine hr.hold H I λv J N f O F2 r2=>?_;exact wpAny_bind (wpAny_standAt (wpAny_operate' (wpAny_mono (B J N u v O (r1.mono f.le) r2) (λv s' g=>(g.trans f).trans G) λ_ _ z=>z)))
theorem EI{l op r pos x y b}(i:behindInMarks op r=false)(hl:bQ c env A H₀ σ l x)(hr:bQ c env A H₀ σ r y)(B:sy c A op x y b):iU c env A H₀ σ (.Compare l [op] [r] pos) b:=λT s w F=>by rw[arm_isTrue_Compare];refine hl.then w F λu T1 s1 G H I r1=>?_;rw[cG i];refine hr.hold H I λv J N f O F2 r2=>?_;refine wpAny_bind (wpAny_standAt (wpAny_bind (wpAny_operate' (wpAny_mono (B J N u v O (r1.mono f.le) r2) (λz s' g=>?_) λ_ _ z=>z))));obtain⟨T',ex,P,Q⟩:=g;obtain rfl:=Q.inv;exact wpAny_holding (wpAny_truthy_bool ⟨rfl,T',(G.trans f).trans ex,P⟩)
end
set_option tactic.hygienic false
structure aM(c:Cx):Prop where
 K:c.K.In c.h₀
 g:∃mg,c.h₀.Ns mainGlobals mg
 b:∃mb,c.h₀.Ns builtinsNs mb/\∀x:Str,x≠"__name__"->mb x=bootBuiltins x
 lim:c.h₀.NoLimit
 mods:∃o,c.h₀.get? sysModules=some o
theorem aM.iG{c:Cx}(O:aM c){a:Addr}(h:c.h₀.get? a=none):(a==sysModules)=false:=by refine ax O.mods λo f=>?_;refine beq_eq_false_iff_ne.mpr λq=>?_;rw[q,f]at h;injection h
theorem W.gj{c T h}(w:W c T h)(O:aM c):c.K.In h:=O.K.keeps w.base
noncomputable def kq(c:Cx)(env:Env)(A:Around)(H₀:Heap)(σ:ah)(e:Expr)(v:Value):Prop:=
 ∀T s,W c T s.heap->FR c env H₀ σ T s.heap->wpAny c.M A (eval e env) (λv' s'=>v'=v/\s'=s) cg s
noncomputable def Ul(c:Cx)(T:TM)(s:Shared)(x:AV):Result->Shared->Prop:=λr s'=>∃v,r= .ok (.ret v)/\Got c T s x v s'
noncomputable def KR(T:TM)(p:Str×Value)(q:Str×AV):Prop:=p.1=q.1/\VR T p.2 q.2
noncomputable abbrev jz(T:TM):=F2 (KR T)
theorem jz.cons{T:TM}{k v x vs xs}(h:VR T v x)(t:jz T vs xs):jz T ((k,v)::vs) ((k,x)::xs):=F2.cons ⟨rfl,h⟩ t
theorem jz.keys{T:TM}{vs xs}(h:jz T vs xs):vs.map (·.1)=xs.map (·.1):=by
 induction h with
 |nil=>rfl
 |cons h _ ih=>exact congr (congrArg List.cons h.1) ih
noncomputable def dz(c:Cx)(f:Addr)(xs:List AV)(kx:List (Str×AV))(r:AV)(k:Nat):Prop:=
 ∀A T s vs kv,cD A k->W c T s.heap->dx T vs xs->jz T kv kx->codeAny c.M A (.call (.ref f) ⟨vs,kv⟩) (Ul c T s r) s
theorem dz.run{c f xs kx r k A T s vs kv}(h:dz c f xs kx r k)(R:cD A k)(w:W c T s.heap)(hv:dx T vs xs)(i:jz T kv kx):wpAny c.M A (call (.ref f) vs kv) (Got c T s r) cg s:=
 wpAny_call (codeAny_mono (h A T s vs kv R w hv i) λu s'⟨v,e,g⟩=>by subst e;exact g)
section
variable{c:Cx}{env:Env}{A:Around}{H₀:Heap}{σ:ah}
theorem CF(O:aM c){x pos v}(hx:env.kindOf x=some .globalImplicit)(e:nsIn c.K mainGlobals x=some (some v))(hd:(x==("__debug__":Str))=false):kq c env A H₀ σ (.Name x pos) v:=λT s w F=>by refine Name_function_global F.kind hx ?_ hd;unfold loadGlobal;rw[F.glob];refine wpAny_bind ((looks_nsIn (w.gj O) e).here ?_);exact wpAny_pure ⟨rfl,rfl⟩
theorem va(O:aM c){x pos v}(hx:env.kindOf x=some .globalImplicit)(e:nsIn c.K mainGlobals x=some none)(hb:bootBuiltins x=some v)(hn:x≠"__name__")(hd:(x==("__debug__":Str))=false):kq c env A H₀ σ (.Name x pos) v:=λT s w F=>by refine Name_function_global F.kind hx ?_ hd;unfold loadGlobal;rw[F.glob,F.blt];refine wpAny_bind ((looks_nsIn (w.gj O) e).here ?_);refine ab O.b λf h1 h2=>?_;refine wpAny_bind (wpAny_nsGet (h1.keeps w.base) ?_);rw[h2 x hn,hb];exact wpAny_pure ⟨rfl,rfl⟩
noncomputable def noStar:List Expr->Bool
 |[]=>true
 |e::r=> !isStarred e&&noStar r
theorem aA{e:Expr}{r:List Expr}(h:isStarred e=false):starEach (e::r) env=(false,eval e env)::starEach r env:=by induction e using Expr.casesOn<;>first|rfl|injection h
theorem bW(pos:Pos):∀{f:List Expr},noStar f=true->(backTo pos (starEach f env)).any (·.1)=false
 |[],_=>rfl
 |e::r,h=>by rw[noStar,Bool.and_eq_true,Bool.not_eq_true']at h;rw[aA h.1];show(false||(backTo pos (starEach r env)).any (·.1))=false;rw[bW pos h.2];rfl
noncomputable def dT(c:Cx)(env:Env)(A:Around)(H₀:Heap)(σ:ah):=F2 λe x=>isStarred e=false/\bQ c env A H₀ σ e x
theorem dT.nil:dT c env A H₀ σ [] []:=F2.nil
theorem dT.cons{e es x xs}(f:isStarred e=false)(h:bQ c env A H₀ σ e x)(t:dT c env A H₀ σ es xs):dT c env A H₀ σ (e::es) (x::xs):=F2.cons ⟨f,h⟩ t
theorem nh{β:Type}{R:Expr->β->Prop}{es xs}(h:F2 R es xs)(k:∀{e x},R e x->isStarred e=false):noStar es=true:=by
 induction h with
 |nil=>rfl
 |cons h _ ih=>exact Bool.and_eq_true_iff.mpr ⟨by rw[k h];rfl,ih⟩
theorem dT.noStar{es xs}(h:dT c env A H₀ σ es xs):noStar es=true:=nh h (·.1)
theorem Dj.cons{T s x xs v vs s' T' fq}(e:bF c T s T' s')(r:VR T' v x)(g:Dj c T' s' xs vs fq):Dj c T s (x::xs) (v::vs) fq:=
 let⟨ub,e',w,rr⟩:=g;⟨ub,e.trans e',w,.cons (r.mono e'.le) rr⟩
theorem dT.run{es xs}(h:dT c env A H₀ σ es xs):∀{pos T s},W c T s.heap->FR c env H₀ σ T s.heap->wpAny c.M A (spliced (backTo pos (starEach es env))) (Dj c T s xs) cg s:=by
 induction h with
 |nil=>intro pos T s w F;exact wpAny_items_nil ⟨T,.refl ..,w,.nil⟩
 |cons h t ih=>intro pos T s w F;refine wpAny_items_cons (wpAny_mono (h.2 T s w F) (λv s'⟨T',ex,f,r⟩=>?_) λ_ _ z=>z) (aA h.1);exact wpAny_mono (ih f (F.ext ex)) (λvs i g=>g.cons ex r) λ_ _ z=>z
theorem ma{es xs k pos}(h:dT c env A H₀ σ es xs)(i:xs.length<=1000):bQ c env A H₀ σ (.Tuple es k pos) (.tup xs):=λT s w F=>by refine wpAny_Tuple (wpAny_mono (h.run w F) (λvs s'⟨T',ex,f,r⟩=>⟨by rw[r.length,sizeLine_eq];lia,(Cp f r).trans ex⟩) λ_ _ z=>z)
theorem dk{es xs pos f T s}{Q:Args->Shared->Prop}{E}(h:dT c env A H₀ σ es xs)(w:W c T s.heap)(F:FR c env H₀ σ T s.heap)
 (q:∀vs T' s',bF c T s T' s'->W c T' s'.heap->dx T' vs xs->Q ⟨vs,[]⟩ s'):wpAny c.M A (evalArgs f true (backTo pos (starEach es env)) []) Q E s:=by
 have i:=h.run (pos:=pos) w F
 induction es using List.casesOn with
 |nil=>obtain rfl:=h.flip.inv;exact evalArgs_nil3 (q [] T s (.refl ..) w .nil)
 |cons=>rcases h.flip.inv with⟨_,_,rfl,h,t⟩;rw[aA h.1]at i⊢;exact evalArgs_plain (wpAny_mono i (λvs s'⟨T',ex,u,r⟩=>q vs T' s' ex u r) λ_ _ z=>z.elim)
theorem gm(O:aM c){es xs pos f k T s first fx r}(B:keepIn c.K (.ref f)=true)(i:dT c env A H₀ σ es xs)(G:dz c f (fx++xs) [] r k)(R:cD A k)
 (w:W c T s.heap)(F:FR c env H₀ σ T s.heap)(hf:dx T first fx):wpAny c.M A (callWith pos (.ref f) first (backTo pos (starEach es env)) []) (Got c T s r) cg s:=by
 refine callWith_of (P:=λh=>c.K.In h) (by rw[bW pos i.noStar];rfl) (keeps_K B) ?_;refine dk i w F λvs T' s' ex u H=>⟨u.gj O,?_⟩;exact wpAny_mono (G.run R u ((hf.mono ex.le).append H) .nil) (λv I g=>g.trans ex) λ_ _ z=>z
theorem CG(O:aM c){id p es xs pos f k r}(hn:kq c env A H₀ σ (.Name id p) (.ref f))(i:keepIn c.K (.ref f)=true)(u:dT c env A H₀ σ es xs)(B:dz c f xs [] r k)(R:cD A k):
 bQ c env A H₀ σ (.Call (.Name id p) es [] pos) r:=λT s w F=>by
 rw[arm_eval_Call_Name'];refine wpAny_bind (wpAny_mono (hn T s w F) (λv s'⟨G,H⟩=>?_) λ_ _ z=>z);subst G;subst H;exact gm (fx:=[]) O i u B R w F .nil
end
noncomputable def one{α:Type}:List α->Option α
 |[]=>none
 |a::l=>match l with
  |[]=>some a
  |_::_=>none
noncomputable def two{α:Type}:List α->Option (α×α)
 |[]=>none
 |a::l=>(one l).map λb=>(a,b)
structure VE where
 nm:Option (Str×Pos)
 Hs:Option (Expr×Str×Pos)
 call:Option (Expr×List Expr×List Keyword×Pos)
 tup:Option (List Expr×Nat×Pos)
 MA:Option (Option Expr×Option Expr×Option Expr×Pos)
 cst:Option (Const×Nat×Pos)
 set:Bool
 plain:Bool
 comp:Bool
noncomputable def vE:Expr->VE
 | .Name x p=>⟨some (x,p),none,none,none,none,none,false,true,false⟩
 | .Attribute o x p=>⟨none,some (o,x,p),none,none,none,none,false,true,false⟩
 | .Call f as ks p=>⟨none,none,some (f,as,ks,p),none,none,none,false,true,false⟩
 | .Tuple es n p=>⟨none,none,none,some (es,n,p),none,none,false,true,false⟩
 | .Slice a b c p=>⟨none,none,none,none,some (a,b,c,p),none,false,true,false⟩
 | .Constant c n p=>⟨none,none,none,none,none,some (c,n,p),false,true,false⟩
 | .Set .. =>⟨none,none,none,none,none,none,true,true,false⟩
 | .UnaryOp .. =>⟨none,none,none,none,none,none,false,false,false⟩
 | .BoolOp .. =>⟨none,none,none,none,none,none,false,false,false⟩
 | .IfExp .. =>⟨none,none,none,none,none,none,false,false,false⟩
 | .Compare .. =>⟨none,none,none,none,none,none,false,false,false⟩
 | .ListComp .. =>⟨none,none,none,none,none,none,false,true,true⟩
 | .SetComp .. =>⟨none,none,none,none,none,none,false,true,true⟩
 | .DictComp .. =>⟨none,none,none,none,none,none,false,true,true⟩
 | .NamedExpr .. =>⟨none,none,none,none,none,none,false,false,false⟩
 |_=>⟨none,none,none,none,none,none,false,true,false⟩
noncomputable def iH(e:Expr):Option (Str×Pos):=(vE e).nm
noncomputable def GV:Const->Option Int
 | .int j=>some j
 |_=>none
theorem Jr{α:Type}{c:Prop}[Decidable c]{a:Option α}{b:α}(h:(if c then a else none)=some b):c/\a=some b:=by
 by_cases q:c
 . exact⟨q,(if_pos q).symm.trans h⟩
 . exact nomatch (if_neg q).symm.trans h
theorem sC{α:Type}{c:Bool}{a:Option α}{b:α}(h:(if c=true then none else a)=some b):c=false/\a=some b:=by
 induction c with
 |false=>exact⟨rfl,h⟩
 |true=>exact nomatch h
theorem rC{α:Type}{c:Bool}{a:Option α}{b:α}(h:(if c=true then a else none)=some b):c=true/\a=some b:=Jr h
theorem bL{α β:Type}{o:Option α}{f:α->Option β}{b:β}(h:o.bind f=some b):∃a,o=some a/\f a=some b:=Option.bind_eq_some_iff.mp h
theorem ar{α β:Type}{P:Prop}{o:Option α}{f:α->Option β}{b:β}(h:o.bind f=some b)(k:∀a,o=some a->f a=some b->P):P:=let⟨a,x,y⟩:=Option.bind_eq_some_iff.mp h;k a x y
theorem bK{a b:Bool}{P:Prop}(h:(a&&b)=true)(k:a=true->b=true->P):P:=k (Bool.and_eq_true_iff.mp h).1 (Bool.and_eq_true_iff.mp h).2
theorem bD{α:Type}{p P:Prop}[Decidable p]{a:Option α}{b:α}(h:(if p then a else none)=some b)(k:p->a=some b->P):P:=by
 by_cases q:p
 . rw[if_pos q]at h;exact k q h
 . rw[if_neg q]at h;exact nomatch h
theorem yz{α β:Type}{P:Prop}{o:Option α}{f:α->β}{b:β}(h:o.map f=some b)(k:∀a,o=some a->f a=b->P):P:=let⟨a,x,y⟩:=Option.map_eq_some_iff.mp h;k a x y
theorem de{α:Type}{l:List α}{a}(h:one l=some a):l=[a]:=by
 match l,h with
 |[b],h=>exact congrArg (λx=>[x]) (Option.some.inj h)
theorem iy{α:Type}{l:List α}{p:α×α}(h:two l=some p):l=[p.1,p.2]:=by
 rcases l with _|⟨b,l⟩
 . exact nomatch h
 . refine ab (Option.map_eq_some_iff.mp h) λd e q=>?_;rw[de e,<-q]
theorem Ry{a:Bool}(h:(!a)=false):a=true:=by induction a;exact nomatch h;rfl
theorem CV{a:Bool}(h:(!a)=true):a=false:=by induction a;rfl;exact nomatch h
theorem be{a b:Bool}(h:(a&&b)=true):a=true/\b=true:=Bool.and_eq_true_iff.mp h
theorem cj{e p}(h:iH e=some p):e= .Name p.1 p.2:=by
 have:(match iH e with|some p=> .Name p.1 p.2|none=>e)=e:=by induction e using Expr.casesOn<;>rfl
 rw[h]at this;exact this.symm
theorem t9{e p}(h:(vE e).Hs=some p):e= .Attribute p.1 p.2.1 p.2.2:=by
 have:(match(vE e).Hs with|some p=> .Attribute p.1 p.2.1 p.2.2|none=>e)=e:=by induction e using Expr.casesOn<;>rfl
 rw[h]at this;exact this.symm
theorem pG{e p}(h:(vE e).call=some p):e= .Call p.1 p.2.1 p.2.2.1 p.2.2.2:=by
 have:(match(vE e).call with|some p=> .Call p.1 p.2.1 p.2.2.1 p.2.2.2|none=>e)=e:=by induction e using Expr.casesOn<;>rfl
 rw[h]at this;exact this.symm
theorem lr{e p}(h:(vE e).tup=some p):e= .Tuple p.1 p.2.1 p.2.2:=by
 have:(match(vE e).tup with|some p=> .Tuple p.1 p.2.1 p.2.2|none=>e)=e:=by induction e using Expr.casesOn<;>rfl
 rw[h]at this;exact this.symm
theorem GU{e p}(h:(vE e).cst=some p):e= .Constant p.1 p.2.1 p.2.2:=by
 have:(match(vE e).cst with|some p=> .Constant p.1 p.2.1 p.2.2|none=>e)=e:=by induction e using Expr.casesOn<;>rfl
 rw[h]at this;exact this.symm
theorem Fb{e p}(h:(vE e).MA=some p):e= .Slice p.1 p.2.1 p.2.2.1 p.2.2.2:=by
 have:(match(vE e).MA with|some p=> .Slice p.1 p.2.1 p.2.2.1 p.2.2.2|none=>e)=e:=by induction e using Expr.casesOn<;>rfl
 rw[h]at this;exact this.symm
theorem CQ{q j}(h:GV q=some j):q= .int j:=by
 have:(match GV q with|some j=> .int j|none=>q)=q:=by induction q<;>rfl
 rw[h]at this;exact this.symm
set_option tactic.hygienic true
theorem eB{h:Heap}{d:Addr}{m:Str->Option Value}{es n}(hn:h.Ns d m)(i:h.get? d=some (aC es n))(name:Str):lookIn name (aC es n)=some (m name):=by
 refine CJ hn λo G H f u B F=>?_;rw[i]at f;obtain rfl:=Option.some.inj f;(injection u with z;subst z);rw[<-F name];unfold lookIn nsFind findBy;dsimp only;rw[<-Array.find?_toList]
 cases hf:es.toList.find? (·.key.isStr name)with
 |some e=>rfl
 |none=>
  have:es.toList.any (·.refKey)=false:=by rw[List.any_eq_false];intro e he;refine cq (B e (Array.mem_toList_iff.mp he)) λn t h=>?_;simp[DictEntry.refKey,h]
  simp[this]
noncomputable def MG(K:Frag):Value->Option Addr
 | .ref f=>if typeIn K (.ref f)==some (.type "function")then some f else none
 |_=>none
noncomputable def jM(K:Frag)(C:Addr)(name:Str):Option Addr:=(findIn K (.ref C) name).bind λo=>o.bind (MG K)
theorem wf{K C name f}(h:jM K C name=some f):findIn K (.ref C) name=some (some (.ref f))/\typeIn K (.ref f)=some (.type "function"):=
 ar h λo e h=>ar h λv i h=>by
  subst i
  induction v with
  |ref g=>exact af (Jq h) λq z=>z▸⟨e,beq_iff_eq.mp q⟩
  |_=>exact ad h
structure f5(K:Frag)(C:Addr):Prop where
 get:findIn K (.ref C) "__getattribute__"=some (some (.builtin "object.__getattribute__"))
 hook:findIn K (.ref C) "__getattr__"=some none
 has:hasDictIn K C=true
 plain:∀k,az.contains k=true->findIn K (.ref C) k=some none
section
variable{c:Cx}{env:Env}{A:Around}{H₀:Heap}{σ:ah}
structure Lq(c:Cx)(T:TM)(h:Heap)(a C:Addr)(fl:List (Str×AV))(d:Addr)(m:Str->Option Value)(es:Array DictEntry)(n:Nat):Prop where
 inst:InstAt h a (instObj C d) C (some (aC es n))
 ns:h.Ns d m
 fld:∀k x,fl.lookup k=some x->∃v,m k=some v/\VR T v x
 off:∀k,az.contains k=false->k≠aB->m k=none
inductive PW(c:Cx)(T:TM)(h:Heap)(v:Value)(C:Addr)(fl:List (Str×AV)):Prop
 |mk (a d:Addr) (m:Str->Option Value) (es:Array DictEntry) (n:Nat) (ev:v= .ref a) (I:Lq c T h a C fl d m es n)
theorem il{T h v C fl}(w:W c T h)(r:VR T v (.obj C fl)):PW c T h v C fl:=by
 refine cP r λa u z ht B=>?_;clear r;subst z;obtain⟨_,_,_,_,at_,own,i,ns,f,names,F,_⟩:=w.ok _ _ ht;refine⟨a,_,_,_,_,rfl,⟨at_,rfl,rfl,i⟩,ns,λk x e=>?_,λk h1 h2=>?_⟩<;>have:=f k
 . rw[B.sub k x e]at this;exact this
 . induction e:u.lookup k with
   |some x=>exact absurd (h1.symm.trans (names k x e)) Bool.false_ne_true
   |none=>rw[e]at this;exact(if_neg h2).mp this
theorem jR{T v x}(r:VR T v x):handedIn v=true:=r.is (P:=λv=>handedIn v=true) rfl (λ_=>rfl) (λ_ _=>rfl) (λ_ _=>rfl) λ_=>rfl
theorem xe(O:aM c){T s v C fl k x}{f:Bool}(X:f5 c.K C)(i:az.contains k=true)(e:fl.lookup k=some x)(w:W c T s.heap)(r:VR T v (.obj C fl)):wpAny c.M A (getAttr v k f) (Got c T s x) cg s:=by obtain⟨a,d,m,z,n,rfl,I⟩:=il w r;refine ab (I.fld k x e) λu h1 h2=>?_;refine get_value (w.gj O) I.inst X.get (findObj_own X.has (X.plain k i) rfl ?_) (jR h2) ⟨T,.j9 _,w,h2⟩;rw[eB I.ns I.inst.dict,h1]
noncomputable def bk(o:Expr):Bool:=(vE o).call.all λp=> !(p.2.1.isEmpty&&p.2.2.1.isEmpty&&(iH p.1).isSome)
theorem dw{o:Expr}{i:Str}{t:Sem Value}(h:bk o=true):attributeBase o i env t=t:=by
 induction o using Expr.casesOn<;>try rfl
 rename_i f u z pos;induction f using Expr.casesOn<;>try rfl
 induction u using List.casesOn<;>try rfl
 induction z using List.casesOn<;>try rfl
 exact absurd h Bool.false_ne_true
theorem vf{o attr pos C fl y}(hb:bk o=true)(f:bQ c env A H₀ σ o (.obj C fl))(i:∀T s v,W c T s.heap->VR T v (.obj C fl)->wpAny c.M A (getAttr v attr true) (Got c T s y) cg s):bQ c env A H₀ σ (.Attribute o attr pos) y:=λT s w F=>by rw[arm_eval_Attribute,dw hb];refine f.then w F λv T1 s1 B G H r1=>wpAny_bind (wpAny_standAt (wpAny_bind (wpAny_holding (wpAny_mono (i T1 s1 v G r1) (λu I g=>?_) λ_ _ z=>z))));exact wpAny_bind (wpAny_letTemporaryGo (wpAny_pure (g.trans B)))
theorem zM(O:aM c){o attr pos C fl x}(hb:bk o=true)(f:bQ c env A H₀ σ o (.obj C fl))(X:f5 c.K C)(i:az.contains attr=true)(e:fl.lookup attr=some x):bQ c env A H₀ σ (.Attribute o attr pos) x:=
 vf hb f λT s v w r=>xe O X i e w r
structure uc(K:Frag)(C:Addr)(name:Str)(p f:Addr):Prop where
 find:findIn K (.ref C) name=some (some (.ref p))
 get:specialIn K (.ref p) "__get__"=some (some (.builtin "property.__get__"))
 takes:takesIn K (.ref p)=some true
 made:∃rest,recIn K p "property"=some (.ref f::rest)
theorem y4{K C}(h:hasDictIn K C=true):(clsIn K C).isSome=true:=by refine ab (any_some h) λf e _=>?_;rw[e];rfl
theorem AW(O:aM c){T s v C fl k name p f y}{i:Bool}(X:f5 c.K C)(P:uc c.K C name p f)(B:dz c f [.obj C fl] [] y k)(R:cD A k)(F:A.units+8*k+101<=9800)(w:W c T s.heap)(r:VR T v (.obj C fl)):wpAny c.M A (getAttr v name i) (Got c T s y) cg s:=by obtain⟨a,d,m,N,n,rfl,I⟩:=il w r;refine ax P.made λrest hr=>?_;refine get_bind (w.gj O) I.inst X.get (findObj_data (y4 X.has) P.find P.get P.takes) X.hook (wpAny_call (prop_get (s:={s with toks:=s.toks+1}) (w.gj O) hr ?_));refine codeAny_mono (B A.in1 T {s with toks:=s.toks+1} [.ref a] [] (R.in1 F) w (.cons r .nil) .nil) λG s'⟨u,H,T',ex,J,z⟩=>?_;subst H;exact handed_on (jR z) ⟨T',(bF.j9 _).trans ex,J,z⟩
theorem iV(O:aM c){T s v C fl name f}{i:Sem Bool}{Q:Value×List Value->Shared->Prop}{E}(X:f5 c.K C)(u:jM c.K C name=some f)(h1:az.contains name=false)(h2:name≠aB)(w:W c T s.heap)(r:VR T v (.obj C fl))
 (h:Q (.ref f,[v]) s):wpAny c.M A (getMethod v name i) Q E s:=by
 obtain⟨a,d,m,z,n,rfl,I⟩:=il w r;refine af (wf u) λB F=>?_;refine method_fn (w.gj O) I.inst X.get X.hook B F ?_ h;show(lookIn name (aC z n)).map _=_;rw[eB I.ns I.inst.dict,I.off name h1 h2];rfl
theorem cy{o:Expr}{name:Str}{i pos:Pos}{u:Value}{n:Nat}{f:List (Bool×Sem Value)}{s:Shared}{Q:Value->Shared->Prop}{E}(hl:(i.endLine==pos.line)=true)(hn:n<30)(B:f.any (·.1)=false)
 (F:∀G,wpAny c.M A (getMethod u name G) (λfx s'=>wpAny c.M A (callWith pos fx.1 fx.2 f []) Q E s') E s):wpAny c.M A (methodCall o name i pos env u n f []) Q E s:=by
 unfold methodCall;have hf:methodCallForm n f []=true:=by
  unfold methodCallForm;have:f.all (λx=> !x.1)=true:=by rw[List.all_eq_true];intro x hx;rw[List.any_eq_false]at B;simpa using B x hx
  simp only[this,List.all_nil,Bool.true_and,List.isEmpty_nil,if_true,Nat.add_zero];exact decide_eq_true hn
 rw[hf];unfold calleeOf methodCallPos;rw[if_pos rfl];refine wpAny_bind (wpAny_holding (wpAny_mono (F _) (λfx s' h=>?_) λ_ _ z=>z));rw[hl];exact wpAny_bind (wpAny_pure h)
theorem wz(O:aM c){o name apos pos es xs C fl f r k}(hb:bk o=true)(G:bQ c env A H₀ σ o (.obj C fl))(X:f5 c.K C)(H:jM c.K C name=some f)(h1:az.contains name=false)(h2:name≠aB)
 (I:keepIn c.K (.ref f)=true)(i:dT c env A H₀ σ es xs)(J:dz c f (.obj C fl::xs) [] r k)(R:cD A k)(hl:(apos.endLine==pos.line)=true)(hn:es.length<30):bQ c env A H₀ σ (.Call (.Attribute o name apos) es [] pos) r:=λT s w F=>by
 rw[arm_eval_Call,dw hb];refine G.then w F λv T1 s1 N B P r1=>wpAny_bind (wpAny_standAt ?_);refine cy hl (by exact hn) (bW pos i.noStar) λQ=>iV O X H h1 h2 B r1 ?_;exact wpAny_mono (gm O (fx:=[.obj C fl]) I i J R B P (.cons r1 .nil)) (λu U g=>g.trans N) λ_ _ z=>z
noncomputable def mA(c:Cx)(C f:Addr)(name:Str):Prop:=∀A T s,W c T s.heap->wpAny c.M A (getAttr (.ref C) name) (λv s'=>v= .ref f/\∃t,s'={s with toks:=t}) cg s
theorem wK(O:aM c){C f mc name}(hr:readsIn c.K C mc=true)(e:findCls c.K (.ref C) mc name=some (.val (.ref f))):mA c C f name:=λA T s w=>
 cls_value (w.gj O) hr e rfl ⟨rfl,_,rfl⟩
theorem mR(O:aM c){C f mc name p rest}(hr:readsIn c.K C mc=true)(e:findCls c.K (.ref C) mc name=some (.get (.builtin "staticmethod.__get__") (.ref p) .none (.ref C)))(i:recIn c.K p "staticmethod"=some (.ref f::rest)):mA c C f name:=λA T s w=>
 cls_bind (w.gj O) hr e (wpAny_call (sm_get (s:={s with toks:=s.toks+1}) (w.gj O) i (handed_on rfl ⟨rfl,_,rfl⟩)))
theorem tZ(O:aM c){id p name apos pos es xs C f r k}(hb:kq c env A H₀ σ (.Name id p) (.ref C))(H:specialIn c.K (.ref C) "__getattribute__"=some (some (.builtin "type.__getattribute__")))(I:mA c C f name)
 (J:keepIn c.K (.ref f)=true)(G:dT c env A H₀ σ es xs)(N:dz c f xs [] r k)(R:cD A k)(hl:(apos.endLine==pos.line)=true)(hn:es.length<30):bQ c env A H₀ σ (.Call (.Attribute (.Name id p) name apos) es [] pos) r:=λT s w F=>by
 rw[arm_eval_Call,dw rfl];refine wpAny_bind (wpAny_mono (hb T s w F) (λv s'⟨i,B⟩=>?_) λ_ _ z=>z);subst i;subst B;refine wpAny_bind (wpAny_standAt ?_);refine cy hl (by exact hn) (bW pos G.noStar) λP=>method_cls (w.gj O) H (wpAny_mono (I A T _ w) (λv s'⟨i,t,B⟩=>?_) λ_ _ z=>z);subst i;subst B;exact wpAny_mono (gm O (fx:=[]) (T:=T) J G N R w F .nil) (λu Q g=>g.trans (.j9 t)) λ_ _ z=>z
end
set_option tactic.hygienic false
inductive Ar where
 |a(x:AV)
 |k(v:Value)
noncomputable def HZ(T:TM)(v:Value)(a:Ar):Prop:=Ar.casesOn (motive:=λ_=>Prop) a (λx=>VR T v x) (λw=>v=w)
noncomputable def n4(T:TM):=F2 (HZ T)
theorem n4.nil{T:TM}:n4 T [] []:=F2.nil
theorem n4.a{T:TM}{v x vs xs}(h:VR T v x)(t:n4 T vs xs):n4 T (v::vs) (.a x::xs):=F2.cons h t
theorem n4.k{T:TM}{v vs xs}(t:n4 T vs xs):n4 T (v::vs) (.k v::xs):=F2.cons rfl t
noncomputable def Qb(T:TM)(vs:List Value):List Ar->Prop
 |[]=>vs=[]
 | .a x::xs=>∃v r,vs=v::r/\VR T v x/\n4 T r xs
 | .k v::xs=>∃r,vs=v::r/\n4 T r xs
theorem n4.inv{T:TM}{vs xs}(h:n4 T vs xs):Qb T vs xs:=by
 have h:=F2.inv h
 induction xs using List.casesOn with
 |nil=>exact h
 |cons x=>
  obtain⟨v,r,rfl,h,t⟩:=h
  induction x with
  |a=>exact t4 _ _ rfl h t
  |k=>obtain rfl:=h;exact ag _ rfl t
theorem DO{T:TM}:∀{f vs:List Value},n4 T vs (f.map .k)->vs=f
 |[],_,h=>by obtain rfl:=h.inv;rfl
 |c::r,_,h=>by refine ab h.inv λ_ i t=>?_;subst i;rw[DO t]
section
variable{c:Cx}{env:Env}{A:Around}{H₀:Heap}{σ:ah}
noncomputable def HA(c:Cx)(env:Env)(A:Around)(H₀:Heap)(σ:ah)(e:Expr)(a:Ar):Prop:=isStarred e=false/\Ar.casesOn (motive:=λ_=>Prop) a (λx=>bQ c env A H₀ σ e x) λv=>kq c env A H₀ σ e v
noncomputable def gf(c:Cx)(env:Env)(A:Around)(H₀:Heap)(σ:ah):=F2 (HA c env A H₀ σ)
theorem gf.nil:gf c env A H₀ σ [] []:=F2.nil
theorem gf.a{e es x xs}(f:isStarred e=false)(h:bQ c env A H₀ σ e x)(t:gf c env A H₀ σ es xs):gf c env A H₀ σ (e::es) (.a x::xs):=F2.cons ⟨f,h⟩ t
theorem gf.k{e es v xs}(f:isStarred e=false)(h:kq c env A H₀ σ e v)(t:gf c env A H₀ σ es xs):gf c env A H₀ σ (e::es) (.k v::xs):=F2.cons ⟨f,h⟩ t
theorem gf.noStar{es xs}(h:gf c env A H₀ σ es xs):noStar es=true:=nh h (·.1)
theorem HZ.mono{T T':TM}{v a}(h:HZ T v a)(l:js T T'):HZ T' v a:=by
 induction a with
 |a=>exact VR.mono h l
 |k=>exact h
theorem HA.run{e a T s}(h:HA c env A H₀ σ e a)(w:W c T s.heap)(F:FR c env H₀ σ T s.heap):wpAny c.M A (eval e env) (λv s'=>∃T',bF c T s T' s'/\W c T' s'.heap/\HZ T' v a) cg s:=by
 have h:=h.2
 induction a with
 |a=>exact wpAny_mono (h T s w F) (λv s'⟨T',ex,f,r⟩=>⟨T',ex,f,r⟩) λ_ _ z=>z
 |k=>exact wpAny_mono (h T s w F) (λv s'⟨q1,q2⟩=>⟨T,q2▸ .refl ..,q2▸w,q1⟩) λ_ _ z=>z
theorem gf.run{es xs}(h:gf c env A H₀ σ es xs):∀{pos T s},W c T s.heap->FR c env H₀ σ T s.heap->wpAny c.M A (spliced (backTo pos (starEach es env))) (λvs s'=>∃T',bF c T s T' s'/\W c T' s'.heap/\n4 T' vs xs) cg s:=by
 induction h with
 |nil=>intro pos T s w F;exact wpAny_items_nil ⟨T,.refl ..,w,.nil⟩
 |cons h t ih=>intro pos T s w F;refine wpAny_items_cons (wpAny_mono (h.run w F) (λv s'⟨T',ex,i,r⟩=>?_) λ_ _ z=>z) (aA h.1);exact wpAny_mono (ih i (F.ext ex)) (λvs H⟨u,f,B,G⟩=>⟨u,ex.trans f,B,F2.cons (r.mono f.le) G⟩) λ_ _ z=>z
theorem n9{es xs pos f T s}{Q:Args->Shared->Prop}{E}(h:gf c env A H₀ σ es xs)(w:W c T s.heap)(F:FR c env H₀ σ T s.heap)
 (q:∀vs T' s',bF c T s T' s'->W c T' s'.heap->n4 T' vs xs->Q ⟨vs,[]⟩ s'):wpAny c.M A (evalArgs f true (backTo pos (starEach es env)) []) Q E s:=by
 have i:=h.run (pos:=pos) w F
 induction es using List.casesOn with
 |nil=>obtain rfl:=(F2.flip h).inv;exact evalArgs_nil3 (q [] T s (.refl ..) w .nil)
 |cons=>rcases(F2.flip h).inv with⟨_,_,rfl,h,t⟩;rw[aA h.1]at i⊢;exact evalArgs_plain (wpAny_mono i (λvs s'⟨T',ex,u,r⟩=>q vs T' s' ex u r) λ_ _ z=>z.elim)
noncomputable def HC(c:Cx)(A:Around)(f:Value)(xs:List Ar)(r:AV):Prop:=∀T s vs,W c T s.heap->n4 T vs xs->wpAny c.M A (call f vs) (Got c T s r) cg s
theorem df{id p bi es xs pos r}(hn:kq c env A H₀ σ (.Name id p) (.builtin bi))(f:gf c env A H₀ σ es xs)(i:HC c A (.builtin bi) xs r):bQ c env A H₀ σ (.Call (.Name id p) es [] pos) r:=λT s w F=>by rw[arm_eval_Call_Name'];refine wpAny_bind (wpAny_mono (hn T s w F) (λv s'⟨B,G⟩=>?_) λ_ _ z=>z);subst B;subst G;refine callWith_builtin (bW pos f.noStar) (n9 f w F λvs T' s' ex H r=>?_);exact wpAny_mono (i T' s' vs H r) (λu I g=>g.trans ex) λ_ _ z=>z
noncomputable def iW:AV->Value
 | .none=> .type "NoneType"
 | .bool _=> .type "bool"
 | .int _=> .type "int"
 | .str _=> .type "str"
 | .obj C _=> .ref C
 | .list _=> .type "list"
 | .tup _=> .type "tuple"
 | .dict _=> .type "dict"
structure kr(K:Frag)(C:Addr):Prop where
 get:plainGet K C "__class__"=true
 has:hasDictIn K C=true
 find:findIn K (.ref C) "__class__"=some (some (.builtin "object.__class__"))
 mro:mroIn K C (.type "object")=some true
structure Lv(K:Frag):Prop where
 n:specialIn K (.builtin "object.__class__") "__get__"=some (some (.builtin "getset_descriptor.__get__"))
 t:takesIn K (.builtin "object.__class__")=some true
theorem tE{T:TM}{s:Shared}{v x}(w:W c T s.heap)(r:VR T v x)(Z:Lv c.K)(i:∀C fl,x= .obj C fl->kr c.K C):∃H:Heap->Prop,KitX c.K v (iW x) H/\H s.heap:=by
 induction x using AV.casesOn with
 |none=>obtain rfl:=r;exact ag _ kitx_none trivial
 |bool=>obtain rfl:=r;exact ag _ kitx_bool trivial
 |int=>refine ax r λ_ f=>?_;clear r;subst f;exact ag _ kitx_int trivial
 |str=>refine ax r λ_ f=>?_;clear r;subst f;exact ag _ kitx_str trivial
 |obj=>obtain⟨a,d,m,G,n,rfl,I⟩:=il w r;obtain⟨u,z,B,F⟩:=i _ _ rfl;exact ag _ (kitx_own u z B Z.n Z.t F) I.inst
 |list=>refine ab r λ_ f h=>?_;clear r;subst f;exact aP (w.ok _ _ h) λ_ _ at_ _=>⟨_,kitx_list,_,at_,rfl⟩
 |tup=>refine ab r λ_ f h=>?_;clear r;subst f;exact aP (w.ok _ _ h) λ_ _ at_ _=>⟨_,kitx_tuple,_,at_,rfl⟩
 |dict=>refine ab r λ_ f h=>?_;clear r;subst f;exact cP (w.ok _ _ h) λ_ _ at_ _ _=>⟨_,kitx_dict,_,at_,rfl⟩
theorem iE{T v x}(r:VR T v x):v≠ .builtin "__main__.__loader__#opaque":=
 r.is (P:=λv=>v≠ .builtin "__main__.__loader__#opaque") (λh=>by injection h) (λ_ h=>by injection h) (λ_ _ h=>by injection h) (λ_ _ h=>by injection h) λ_ h=>by injection h
theorem xh{T:TM}{s:Shared}{v x}(w:W c T s.heap)(r:VR T v x):Looks c.M s.heap (typeOf v) (iW x):=by
 have L:∀{a o ty},v= .ref a->s.heap.get? a=some o->o.cls=ty->Looks c.M s.heap (typeOf v) ty:=λe at_ h=>e▸h▸(Looks.ld (part:=none) at_).andThen .now
 induction x using AV.casesOn with
 |none=>obtain rfl:=r;exact Looks.of_pure rfl
 |bool=>obtain rfl:=r;exact Looks.of_pure rfl
 |int=>refine ax r λ_ f=>?_;clear r;subst f;exact Looks.of_pure rfl
 |str=>refine ax r λ_ f=>?_;clear r;subst f;exact Looks.of_pure rfl
 |obj=>obtain⟨a,d,m,i,n,rfl,I⟩:=il w r;exact I.inst.type
 |list=>exact ab r λ_ e h=>aP (w.ok _ _ h) λ_ _ at_ _=>L e at_ rfl
 |tup=>exact ab r λ_ e h=>aP (w.ok _ _ h) λ_ _ at_ _=>L e at_ rfl
 |dict=>exact ab r λ_ e h=>cP (w.ok _ _ h) λ_ _ at_ _ _=>L e at_ rfl
theorem wO(O:aM c)(Z:Lv c.K){x cv b}(f:∀C fl,x= .obj C fl->kr c.K C)(e:kitOne c.K (iW x) cv=some b):HC c A (.builtin "isinstance") [.a x,.k cv] (.bool b):=λT s vs w r=>by refine cP r.inv λ_ _ i h t=>?_;subst i;refine ab t.inv λ_ u z=>?_;subst u;obtain rfl:=z.inv;refine ab (tE w h Z f) λH X p=>?_;exact kia_one X (w.gj O) p e (iE h) λtk=>⟨T,.j9 _,w,.bool _⟩
theorem tW(O:aM c)(Z:Lv c.K){p e x es sH k tp pos b}(hn:kq c env A H₀ σ (.Name "isinstance" p) (.builtin "isinstance"))(i:isStarred e=false)(he:bQ c env A H₀ σ e x)(ht:gf c env A H₀ σ es (sH.map .k))(U:sH.length<=1000)
 (G:∀C fl,x= .obj C fl->kr c.K C)(q:kitAny c.K (iW x) sH=some b):bQ c env A H₀ σ (.Call (.Name "isinstance" p) [e,.Tuple es k tp] [] pos) (.bool b):=λT s w F=>by
 rw[arm_eval_Call_Name'];refine wpAny_bind (wpAny_mono (hn T s w F) (λv s'⟨I,J⟩=>?_) λ_ _ z=>z);subst I;subst J;refine callWith_builtin (by rw[aA i];rfl) ?_;rw[aA i];refine evalArgs_plain (spliced_cons (wpAny_mono (he T _ w F) (λv s1⟨T1,ex,N,r1⟩=>?_) λ_ _ z=>z.elim));show wpAny _ _ (spliced ((false,eval (.Tuple es k tp) env)::[])) _ _ _;refine spliced_cons (wpAny_Tuple (wpAny_mono (ht.run N (F.ext ex)) (λvs u⟨P,B,Q,r2⟩=>?_) λ_ _ z=>z.elim));have hv:=DO r2;subst hv;refine⟨by rw[sizeLine_eq];lia,spliced_nil ?_⟩;have f:=Q.push (iz vs.toArray 0);refine ab (tE (s:={u with heap:=u.heap.push (iz vs.toArray 0)}) f (r1.mono B.le) Z G) λH X p=>?_;refine kia_tup X (f.gj O) p (Heap.get?_push_size _ rfl) q (iE r1) λtk=>⟨P,((ex.trans B).trans (bF.push _)).toks tk,f,.bool _⟩
theorem xk{e:Expr}{x:AV}{b:Bool}(he:isTrue e env (eval e env)=(do let v<-eval e env;standAt e.pos;holding [v] (truthy v)))(h:bQ c env A H₀ σ e x)
 (ht:∀T s v,W c T s.heap->VR T v x->wpAny c.M A (truthy v) (AG c T s b) cg s):iU c env A H₀ σ e b:=λT s w F=>by
 rw[he];refine h.then w F λv T1 s1 f i H r1=>wpAny_bind (wpAny_standAt (wpAny_holding (wpAny_mono (ht T1 s1 v i r1) (λI J⟨q,u,B,G⟩=>⟨q,u,f.trans B,G⟩) λ_ _ z=>z)))
theorem EH{x pos b}(h:iU c env A H₀ σ x b):iU c env A H₀ σ (.UnaryOp .Not x pos) (!b):=λT s w F=>by rw[arm_isTrue_UnaryOp];exact wpAny_bind (wpAny_mono (h T s w F) (λf s'⟨e,T',x,w⟩=>wpAny_pure ⟨by rw[e],T',x,w⟩) λ_ _ z=>z)
theorem qz{t b o pos q r}(ht:iU c env A H₀ σ t q)(hb:q=true->iU c env A H₀ σ b r)(G:q=false->iU c env A H₀ σ o r):iU c env A H₀ σ (.IfExp t b o pos) r:=λT s w F=>by
 rw[arm_isTrue_IfExp];refine wpAny_bind (wpAny_mono (ht T s w F) (λH s'⟨e,T',ex,B⟩=>?_) λ_ _ z=>z.elim);subst e
 induction H with
 |true=>exact wpAny_mono (hb rfl T' s' B (F.ext ex)) (λv I⟨e,f,i,u⟩=>⟨e,f,ex.trans i,u⟩) λ_ _ z=>z
 |false=>exact wpAny_mono (G rfl T' s' B (F.ext ex)) (λv I⟨e,f,i,u⟩=>⟨e,f,ex.trans i,u⟩) λ_ _ z=>z
noncomputable def iS(c:Cx)(env:Env)(A:Around)(H₀:Heap)(σ:ah)(es:List Expr)(b:Bool):Prop:=es.foldr (λe P=>(b=false/\iU c env A H₀ σ e false)\/(iU c env A H₀ σ e true/\P)) (b=true)
noncomputable def ud(c:Cx)(env:Env)(A:Around)(H₀:Heap)(σ:ah)(es:List Expr)(b:Bool):Prop:=es.foldr (λe P=>(b=true/\iU c env A H₀ σ e true)\/(iU c env A H₀ σ e false/\P)) (b=false)
theorem iS.nil:iS c env A H₀ σ [] true:=rfl
theorem iS.no{e es}(h:iU c env A H₀ σ e false):iS c env A H₀ σ (e::es) false:= .inl ⟨rfl,h⟩
theorem iS.yes{e es b}(h:iU c env A H₀ σ e true)(t:iS c env A H₀ σ es b):iS c env A H₀ σ (e::es) b:= .inr ⟨h,t⟩
theorem ud.nil:ud c env A H₀ σ [] false:=rfl
theorem ud.yes{e es}(h:iU c env A H₀ σ e true):ud c env A H₀ σ (e::es) true:= .inl ⟨rfl,h⟩
theorem ud.no{e es b}(h:iU c env A H₀ σ e false)(t:ud c env A H₀ σ es b):ud c env A H₀ σ (e::es) b:= .inr ⟨h,t⟩
theorem iS.un{e es b}(h:iS c env A H₀ σ (e::es) b):(b=false/\iU c env A H₀ σ e false)\/(iU c env A H₀ σ e true/\iS c env A H₀ σ es b):=h
theorem ud.un{e es b}(h:ud c env A H₀ σ (e::es) b):(b=true/\iU c env A H₀ σ e true)\/(iU c env A H₀ σ e false/\ud c env A H₀ σ es b):=h
theorem AG.then{T s b' T' s'}(ex:bF c T s T' s'){M A}{t:Sem Bool}{E}(h:wpAny M A t (AG c T' s' b') E s'):wpAny M A t (AG c T s b') E s':=wpAny_mono h (λv B⟨e,f,i,u⟩=>⟨e,f,ex.trans i,u⟩) λ_ _ z=>z
theorem iS.run{es b}:iS c env A H₀ σ es b->∀{T s},W c T s.heap->FR c env H₀ σ T s.heap->wpAny c.M A (allTrue .And es env) (AG c T s b) cg s:=by
 induction es with
 |nil=>exact λh T s w F=>wpAny_allTrue_And_nil ⟨h.symm,T,.refl ..,w⟩
 |cons e es ih=>
  refine λh T s w F=>wpAny_allTrue_And_cons ((iS.un h).elim (λ⟨q,h⟩=>wpAny_mono (h T s w F) (λf s'⟨e,T',x,w⟩=>?_) λ_ _ z=>z) λ⟨h,t⟩=>wpAny_mono (h T s w F) (λf s'⟨e,T',x,w⟩=>?_) λ_ _ z=>z)
  . subst e;subst q;exact⟨rfl,T',x,w⟩
  . subst e;exact AG.then x (ih t w (F.ext x))
theorem ud.run{es b}:ud c env A H₀ σ es b->∀{T s},W c T s.heap->FR c env H₀ σ T s.heap->wpAny c.M A (allTrue .Or es env) (AG c T s b) cg s:=by
 induction es with
 |nil=>exact λh T s w F=>wpAny_allTrue_Or_nil ⟨h.symm,T,.refl ..,w⟩
 |cons e es ih=>
  refine λh T s w F=>wpAny_allTrue_Or_cons ((ud.un h).elim (λ⟨q,h⟩=>wpAny_mono (h T s w F) (λf s'⟨e,T',x,w⟩=>?_) λ_ _ z=>z) λ⟨h,t⟩=>wpAny_mono (h T s w F) (λf s'⟨e,T',x,w⟩=>?_) λ_ _ z=>z)
  . subst e;subst q;exact⟨rfl,T',x,w⟩
  . subst e;exact AG.then x (ih t w (F.ext x))
theorem EJ{es b pos}(h:iS c env A H₀ σ es b):iU c env A H₀ σ (.BoolOp .And es pos) b:=λT s w F=>wpAny_isTrue_BoolOp (h.run w F)
theorem Ib{es b pos}(h:ud c env A H₀ σ es b):iU c env A H₀ σ (.BoolOp .Or es pos) b:=λT s w F=>wpAny_isTrue_BoolOp (h.run w F)
noncomputable def ib:AV->Option Bool
 | .none=>some false
 | .bool b=>some b
 | .int i=>some (i !=0)
 | .list xs=>if xs.length<=1000 then some (!xs.isEmpty)else none
 |_=>none
theorem oo{x b}(h:ib x=some b){T s v}(w:W c T s.heap)(r:VR T v x):wpAny c.M A (truthy v) (AG c T s b) cg s:=by
 induction x using AV.casesOn with
 |none=>obtain rfl:=r;exact λ_ _ _=>⟨Option.some.inj h,T,.refl ..,w⟩
 |bool=>obtain rfl:=r;exact wpAny_truthy_bool ⟨Option.some.inj h,T,.refl ..,w⟩
 |int=>refine ax r λ_ f=>?_;clear r;subst f;exact truthy_int ⟨Option.some.inj h,T,.refl ..,w⟩
 |list xs=>refine ab r λ_ f ht=>?_;clear r;subst f;refine af (Jq h) λu e=>e▸?_;refine aP (w.ok _ _ ht) λvs _ at_ items=>?_;have i:vs.size=xs.length:=items.length;refine wpAny_truthy_list ⟨_,at_,rfl,_,rfl⟩ (by rw[i];lia-abstractProof) ⟨congrArg (!·) ?_,T,.j9 _,w⟩;exact(congrArg (λn=>decide (n=0)) i).trans (by induction xs using List.casesOn<;>rfl)
 |_=>exact ad h
structure HB(c:Cx)(C:Addr)(tb:Value)(nm:String):Prop where
 same:tb= .ref C\/∃right rp ro,∀h,c.K.In h->Looks c.M h (fillsNumberSlot tb nm) right/\Looks c.M h (isSubtype tb (.ref C)) false/\Looks c.M h (numberSlotInPython tb nm) rp/\Looks c.M h (typeLookup tb (dunderR nm)) ro
theorem vu{α}{M:Model}{E}{s:Shared}{t:Sem (Option Value)}{k:Option Value->Sem α}{Q:α->Shared->Prop}{f:Value->α}(h:wpAny M A t (λr s'=>∃v,r=some v/\Q (f v) s') E s)(e:∀v,k (some v)=pure (f v)):wpAny M A (t>>=k) Q E s:=
 wpAny_bind (wpAny_mono h (λr s'⟨v,h1,h2⟩=>by rw[h1,e];exact wpAny_pure h2) λ_ _ z=>z)
theorem La{α β}{M:Model}{E}{s:Shared}{q:Prop}[Decidable q]{i u:Sem β}{j:β->Sem α}{r1 r2:β}{Q:α->Shared->Prop}(h1:q->Looks M s.heap i r1)(h2:¬q->Looks M s.heap u r2)(h:∀r,(q/\r=r1)\/(¬q/\r=r2)->wpAny M A (j r) Q E s):wpAny M A (if q then i>>=j else u>>=j) Q E s:=by
 by_cases f:q
 . rw[if_pos f];exact wpAny_bind ((h1 f).here (h r1 (.inl ⟨f,rfl⟩)))
 . rw[if_neg f];exact wpAny_bind ((h2 f).here (h r2 (.inr ⟨f,rfl⟩)))
noncomputable def LC(c:Cx)(h:Heap)(C:Addr)(tb:Value)(nm:String)(rt rp:Bool)(ro:Option Value):Prop:=¬(Value.ref C==tb)=true->Looks c.M h (fillsNumberSlot tb nm) rt/\Looks c.M h (isSubtype tb (.ref C)) false/\Looks c.M h (numberSlotInPython tb nm) rp/\Looks c.M h (typeLookup tb (dunderR nm)) ro
theorem K7{E}{s:Shared}{a C:Addr}{ox od}{nm:String}{b tb:Value}{Q:Option Value->Shared->Prop}{rt rp ro}(I:InstAt s.heap a ox C od)(hb:Looks c.M s.heap (typeOf b) tb)
 (f:Looks c.M s.heap (fillsNumberSlot (.ref C) nm) true)(i:Looks c.M s.heap (numberSlotInPython (.ref C) nm) true)
 (B:LC c s.heap C tb nm rt rp ro)
 (one:wpAny c.M A (tryMethod (.ref a) (PySem.dunder nm) b) (λr s'=>∃v,r=some v/\Q (some v) s') E s):wpAny c.M A (binaryOp1 nm (.ref a) b) Q E s:=by
 unfold binaryOp1;refine wpAny_bind ((show Looks c.M s.heap (typeOf (.ref a)) (.ref C)from I.type).here (wpAny_bind (hb.here (wpAny_bind (f.here ?_)))));refine La (r1:=false) (r2:=rt) (λ_=> .now) (λq=>(B q).1) λr hr=>?_
 induction r with
 |false=>exact wpAny_bind (wpAny_pure (vu one λv=>rfl))
 |true=>
  have B:=B (hr.elim (λh=>nomatch h.2) (·.1));refine wpAny_bind (B.2.1.here (wpAny_bind (i.here (wpAny_bind (B.2.2.1.here ?_)))))
  induction rp with
  |true=>exact vu one λv=>rfl
  |false=>exact wpAny_bind (B.2.2.2.here (vu one λv=>rfl))
theorem K6{E}{s:Shared}{op:Operator}{a b:Value}{Q:Value->Shared->Prop}
 (one:wpAny c.M A (binaryOp1 op.info.2 a b) (λr s'=>∃v,r=some v/\Q v s') E s):wpAny c.M A (binaryOp op a b) Q E s:=by
 unfold binaryOp;exact wpAny_holding (vu one λ_=>rfl)
theorem CW{E}{s:Shared}{a C f g:Addr}{ox od}{op:Operator}{b tb:Value}{Q:Value->Shared->Prop}(X:c.K.In s.heap)(I:InstAt s.heap a ox C od)(hb:Looks c.M s.heap (typeOf b) tb)(H:selfFirst c.K C=true)
 (G:findIn c.K (.ref C) (PySem.dunder op.info.2)=some (some (.ref f)))(hf:isFn c.K (.ref f)=true)(hr:findIn c.K (.ref C) (dunderR op.info.2)=some (some (.ref g)))
 (B:HB c C tb op.info.2)(h:wpAny c.M A (call (.ref f) [.ref a,b]) (PySem.W.CmpBack Q) E s):wpAny c.M A (binaryOp op (.ref a) b) Q E s:=by
 refine aP (ksp_first H) λP rest J N=>?_;obtain⟨i,u,F,O⟩:∃i u F,LC c s.heap C tb op.info.2 i u F:=match B.same with
  | .inl e=>⟨false,false,none,λq=>absurd (e▸beq_self_eq_true _) q⟩
  | .inr ⟨i,u,F,L⟩=>⟨i,u,F,λ_=>L _ X⟩
 exact K6 (K7 I hb (fills_K X J N G) (ksp_inPy X G hr (.inr ⟨_,rfl⟩)) O (wpAny_mono (ksp_try X I G hf h) (λr s'⟨v,h1,h2⟩=>⟨v,h1,v,rfl,h2⟩) λ_ _ z=>z))
end
section
variable{c:Cx}{env:Env}{A:Around}{H₀:Heap}{σ:ah}
theorem Got.grown{T:TM}{s:Shared}{x:AV}{v:Value}{h':Heap}{tk:Nat}(w:W c T s.heap)(k:∀b o,s.heap.get? b=some o->h'.get? b=some o)(r:VR T v x):Got c T s x v {s with heap:=h',toks:=tk}:=
 ⟨T,bF.grown k tk,w.grown k,r⟩
structure Hw(c:Cx)(C:Addr)(op:Operator)(tb:Value)(f:Addr):Prop where
 first:selfFirst c.K C=true
 find:findIn c.K (.ref C) (PySem.dunder op.info.2)=some (some (.ref f))
 fn:isFn c.K (.ref f)=true
 refl:∃g:Addr,findIn c.K (.ref C) (dunderR op.info.2)=some (some (.ref g))
 types:HB c C tb op.info.2
theorem vt{Q:Value->Shared->Prop}{T v x s'}(r:VR T v x)(h:Q v s'):PySem.W.CmpBack Q v s':=
 r.is (P:=λv=>Q v s'->PySem.W.CmpBack Q v s') (λh=>h) (λ_ h=>h) (λ_ _ h=>h) (λ_ _ h=>h) (λ_ h=>h) h
theorem Fq(O:aM c){op C fl y f r k}(X:Hw c C op (iW y) f)(G:dz c f [.obj C fl,y] [] r k)(R:cD A k):Hv c A op (.obj C fl) y r:=λT s u v w i B=>by obtain⟨a,d,m,N,n,rfl,I⟩:=il w i;refine ax X.refl λg H=>?_;refine CW (w.gj O) I.inst (xh w B) X.first X.find X.fn H X.types (wpAny_mono (G.run R w (.cons i (.cons B .nil)) .nil) (λz s' q=>?_) λ_ _ z=>z);obtain⟨T',ex,J,F⟩:=q;exact vt F ⟨T',ex,J,F⟩
structure Dk(c:Cx)(C:Addr)(tb:Value)(f:Addr):Prop where
 notFirst:notFirst c.K C tb=true
 find:findIn c.K (.ref C) "__eq__"=some (some (.ref f))
 fn:isFn c.K (.ref f)=true
theorem G6(O:aM c){C fl y f b k}(X:Dk c C (iW y) f)(N:dz c f [.obj C fl,y] [] (.bool b) k)(R:cD A k):sy c A .Eq (.obj C fl) y b:=λT s u v w F G=>by
 obtain⟨a,d,m,U,n,rfl,I⟩:=il w F;have H:=w.gj O;have P:wpAny c.M A (call (.ref f) [.ref a,v]) (PySem.W.CmpBack (Got c T s (.bool b))) cg s:=wpAny_mono (N.run R w (.cons F (.cons G .nil)) .nil) (λz s' q=>by
  obtain⟨T',ex,Q,J⟩:=q;exact vt J ⟨T',ex,Q,J⟩) λ_ _ z=>z
 have one:wpAny c.M A (tryCompare (.ref a) (cmpInfo .Eq).2.1 v) (λr s'=>∃v,r=some v/\Got c T s (.bool b) v s') cg s:=by unfold tryCompare;refine wpAny_bind (ifBound_K H I.inst X.find X.fn (wpAny_mono P (λv s' hv=>?_) λ_ _ e=>e));induction v<;>first|exact hv.elim|exact wpAny_pure ⟨_,rfl,hv⟩
 refine cmp_ofEq ?_;unfold richCompare;dsimp only[oneThing_ref];refine wpAny_holding (wpAny_bind (wpAny_cRoomFor R.line ?_));refine wpAny_bind (I.inst.type.here (wpAny_bind ((xh w G).here (wpAny_ite_split (λq=>?_) λ_=>?_))))
 . have e:subIn c.K (iW y) (.ref C)=some false:=by
    refine Or.elim (Bool.or_eq_true_iff.mp X.notFirst) (λe=>?_) λe=>?_
    . rw[beq_iff_eq.mp e]at q;simp at q
    . exact beq_iff_eq.mp e
   refine wpAny_bind ((looks_subIn H e).here ?_);simp only[Bool.false_eq_true,if_false];refine wpAny_bind (wpAny_mono one (λr s' z=>?_) λ_ _ e=>e);refine ab z λv i B=>?_;clear z;subst i;exact wpAny_pure B
 . refine wpAny_bind (wpAny_pure ?_);simp only[Bool.false_eq_true,if_false];refine wpAny_bind (wpAny_mono one (λr s' z=>?_) λ_ _ e=>e);refine ab z λv i B=>?_;clear z;subst i;exact wpAny_pure B
noncomputable def Hx(c:Cx)(A:Around)(x z:AV):Prop:=∀T s u,W c T s.heap->VR T u x->wpAny c.M A (unaryOp .USub u) (Got c T s z) cg s
theorem BQ(O:aM c){C fl f r k}(h1:findIn c.K (.ref C) "__neg__"=some (some (.ref f)))(h2:isFn c.K (.ref f)=true)(B:dz c f [.obj C fl] [] r k)(R:cD A k):Hx c A (.obj C fl) r:=λT s u w i=>by obtain⟨a,d,m,F,n,rfl,I⟩:=il w i;unfold unaryOp;refine wpAny_holding ?_;exact wpAny_bind (special_fn (w.gj O) I.inst h1 (beq_iff_eq.mp h2) (wpAny_mono (B.run R w (.cons i .nil) .nil) (λ_ _ z=>wpAny_pure z) λ_ _ z=>z))
theorem IO{a:Int}:Hx c A (.int a) (.int (-a)):=λT s u w f=>by refine ax f λ_ i=>?_;clear f;subst i;exact neg_int (.int w _ _ _)
theorem zK{e pos x z}(h:bQ c env A H₀ σ e x)(hn:Hx c A x z):bQ c env A H₀ σ (.UnaryOp .USub e pos) z:=λT s w F=>by rw[arm_eval_UnaryOp];refine h.then w F λv T1 s1 f i u r1=>wpAny_bind (wpAny_standAt (wpAny_holding (wpAny_mono (hn T1 s1 v i r1) (λ_ _ g=>g.trans f) λ_ _ z=>z)))
theorem n4.a1{T:TM}{vs x}(r:n4 T vs [.a x]):∃v,vs=[v]/\VR T v x:=F2.one (R:=HZ T) r
theorem n4.i2{T:TM}{vs a b}(r:n4 T vs [.a (.int a),.a (.int b)]):∃t u,vs=[.int a t,.int b u]:=by obtain⟨_,_,rfl,⟨_,rfl⟩,_,rfl⟩:=F2.two r;exact zS _ _ rfl
theorem Aq{a:Int}:HC c A (.builtin "abs") [.a (.int a)] (.int (if a<0 then-a else a)):=λT s vs w r=>by obtain⟨_,rfl,_,rfl⟩:=r.a1;exact call_abs_int λu tk=> .int w _ _ _
theorem Got.either{T s s' p}[Decidable p]{a b:Int}{u v}(h:Got c T s (.int a) (.int a u) s')(h':Got c T s (.int b) (.int b v) s'):Got c T s (.int (if p then a else b)) (if p then .int a u else .int b v) s':=by
 by_cases q:p
 . rw[if_pos q,if_pos q];exact h
 . rw[if_neg q,if_neg q];exact h'
theorem Hm(f:A.handled=none){a b:Int}:HC c A (.builtin "max") [.a (.int a),.a (.int b)] (.int (if b>a then b else a)):=λT s vs w r=>by refine cq r.i2 λ_ _ i=>?_;subst i;exact max_two_ints f λh' tk k=> .either (.grown w k (.int _ _)) (.grown w k (.int _ _))
theorem Hl(f:A.handled=none){a b:Int}:HC c A (.builtin "min") [.a (.int a),.a (.int b)] (.int (if b<a then b else a)):=λT s vs w r=>by refine cq r.i2 λ_ _ i=>?_;subst i;exact min_two_ints f λh' tk k=> .either (.grown w k (.int _ _)) (.grown w k (.int _ _))
inductive PZ(T:TM)(h:Heap)(v:Value)(xs:List AV):Prop
 |mk (a:Addr) (vs:Array Value) (n:Nat) (ev:v= .ref a) (ho:h.get? a=some (bo vs n)) (hi:dx T vs.toList xs)
theorem listAt{T:TM}{h:Heap}{v:Value}{xs:List AV}(w:W c T h)(r:VR T v (.list xs)):PZ T h v xs:=by refine ab r.inv λ_ f ht=>?_;subst f;refine aP ((w.ok _ _ ht).inv) λ_ _ at_ items=>?_;exact⟨_,_,_,rfl,at_,items⟩
theorem bw{h:Heap}{a vs n}(f:h.get? a=some (bo vs n)):h.IsList a vs:=⟨_,f,rfl,_,rfl⟩
theorem dd{T:TM}{vs:Array Value}{xs}(h:dx T vs.toList xs):vs.size=xs.length:=by rw[<-h.length,Array.length_toList]
noncomputable def F9:AV->Option Int
 | .int i=>some i
 |_=>none
noncomputable def E6:AV->Option Str
 | .str i=>some i
 |_=>none
noncomputable def C9{α:Type}(f:AV->Option α)(xs:List AV):Option (List α):=xs.foldr (λx r=>(f x).bind λi=>r.map (i:: ·)) (some [])
theorem r9{α:Type}{f:AV->Option α}{g:α->AV}(h:∀a,f (g a)=some a)(l:List α):C9 f (l.map g)=some l:=by
 induction l with
 |nil=>rfl
 |cons a l ih=>exact bE (h a) (congrArg (Option.map (a:: ·)) ih)
noncomputable def gD(xs:List AV):=C9 F9 xs
noncomputable def fu(xs:List AV):=C9 E6 xs
theorem vC{α:Type}{f:AV->Option α}{T:TM}{R:List Value->List α->Prop}(n:R [] [])(k:∀{v x i vs is},VR T v x->f x=some i->R vs is->R (v::vs) (i::is)){vs xs}(h:dx T vs xs):∀{ns},C9 f xs=some ns->R vs ns:=by
 induction h with
 |nil=>exact λe=>Option.some.inj e▸n
 |cons h _ ih=>exact λe=>ar e λi u e=>yz e λl z e=>e▸k h u (ih z)
theorem pd{T:TM}{vs xs ns}(hv:dx T vs xs)(hn:gD xs=some ns):IntsAre vs ns:=vC (f:=F9) (R:=IntsAre) .nil (λ{v x i vs is} h e t=>by
 induction x using AV.casesOn with
 |int=>refine ax h λ_ u=>?_;clear h;subst u;exact Option.some.inj e▸ .cons _ _ t
 |_=>exact ad e) hv hn
theorem kJ{T:TM}{vs xs ns}(hv:dx T vs xs)(hn:fu xs=some ns):StrsAre vs ns:=vC (f:=E6) (R:=StrsAre) .nil (λ{v x i vs is} h e t=>by
 induction x using AV.casesOn with
 |str=>refine ax h λ_ u=>?_;clear h;subst u;exact Option.some.inj e▸ .cons _ _ t
 |_=>exact ad e) hv hn
theorem Hk(f:A.handled=none){xs ns}(e:gD xs=some ns):HC c A (.builtin "sum") [.a (.list xs)] (.int ns.sum):=λT s vs w r=>by
 refine ab r.a1 λ_ i h=>?_;subst i;obtain⟨a,u,n,rfl,z,hi⟩:=listAt w h;have hI:=pd hi e;refine ax hI.allInts.items λys hx=>?_;have hl:s.heap.IsList a (intItems ys):=by rw[<-hx];exact bw z
 refine sum_intListG f hl λh' tk B k=>?_;have:preSum (numAt ys) ys.size=ns.sum:=by rw[preSum_eq,List.take_of_length_le (by simp)];have:=hI.numsOf;rw[show u.toList=(intItems ys).toList from by rw[<-hx],nums_intItems]at this;rw[this]
 rw[this];exact Got.grown w k (.int _ _)
theorem StrsAre.RT{T:TM}{vs ss}(h:StrsAre vs ss):dx T vs (ss.map .str):=by
 induction h with
 |nil=>exact .nil
 |cons y t _ ih=>exact .cons (.str _ _) ih
theorem BN{xs ys}(I:xs.length+ys.length<=1000):Hv c A .Add (.list xs) (.list ys) (.list (xs++ys)):=λT s u v w G H=>by obtain⟨a,vs,n,rfl,i,hi⟩:=listAt w G;obtain⟨b,f,m,rfl,z,B⟩:=listAt w H;refine concat_meets ⟨_,i,rfl⟩ ⟨_,z,rfl⟩ noFill_list_add seq_list_add PySem.F.slot_list_add PySem.F.entry_list_add (PySem.F.args_list_add_2 _ _) (list_addW a b vs f n m _ _ _ _ (by rw[dd hi,dd B,sizeLine_eq];lia)) ⟨i,z,?_⟩;rw[(by simp:vs++f=(vs.toList++f.toList).toArray)];exact lT w (hi.append B)
theorem wJ{k:Int}{xs ns}(e:gD xs=some ns):sy c A .In (.int k) (.list xs) (ns.any (· ==k)):=λT s u v w f i=>by obtain⟨a,vs,n,rfl,z,hi⟩:=listAt w i;refine ax f λ_ B=>?_;clear f;subst B;exact in_list_ints (bw z) (pd hi e) (.fN w _)
theorem wI{k:Str}{xs ns}(e:fu xs=some ns):sy c A .In (.str k) (.list xs) (ns.any (· ==k)):=λT s u v w f i=>by obtain⟨a,vs,n,rfl,z,hi⟩:=listAt w i;refine ax f λ_ B=>?_;clear f;subst B;exact in_list_strs (bw z) (kJ hi e) (.fN w _)
theorem pE{k:Int}{xs ns}(e:gD xs=some ns):sy c A .NotIn (.int k) (.list xs) (!(ns.any (· ==k))):=λT s u v w f i=>by obtain⟨a,vs,n,rfl,z,hi⟩:=listAt w i;refine ax f λ_ B=>?_;clear f;subst B;exact notin_list_ints (bw z) (pd hi e) (.fN w _)
theorem pD{k:Str}{xs ns}(e:fu xs=some ns):sy c A .NotIn (.str k) (.list xs) (!(ns.any (· ==k))):=λT s u v w f i=>by obtain⟨a,vs,n,rfl,z,hi⟩:=listAt w i;refine ax f λ_ B=>?_;clear f;subst B;exact notin_list_strs (bw z) (kJ hi e) (.fN w _)
theorem mU{xs ns}(e:fu xs=some ns)(B:xs.length<64)(T:TM)(s:Shared)(v:Value)(w:W c T s.heap)(r:VR T v (.list xs)):
 wpAny c.M A (call (.builtin "sorted") [v]) (λu s'=>∃ms:List Str,ms.Perm ns/\sortedS ms=true/\Got c T s (.list (ms.map .str)) u s') cg s:=by
 obtain⟨a,vs,n,rfl,F,hi⟩:=listAt w r;refine sorted_strs (vs:=vs.toList) (bw F) (kJ hi e) (by rw[hi.length];exact B) λf i h1 h2 G=>⟨i,h2,G,?_⟩;refine ax (sortedAll_at s.heap vs.toList f) λJ he=>?_;have z:∀b o,s.heap.get? b=some o->(sortedAll s.heap vs.toList f).get? b=some o:=λb o h=>sortedAll_old h;have hf:s.heap.get? (s.heap.objs.size+1)=none:=by
  induction q:s.heap.get? (s.heap.objs.size+1)with
  |none=>rfl
  |some o=>exact absurd (Heap.lt_size q) (Nat.not_lt.mpr (Nat.le_succ _))
 refine af (pj (s':={s with heap:=sortedAll s.heap vs.toList f}) (ty:= .list (i.map .str)) w (bF.grown z s.toks) (w.grown z) hf (.list he (StrsAre.RT h1))) λH I=>?_;exact⟨_,H,I,.list bP⟩
end
set_option tactic.hygienic true
theorem jz.get{T:TM}{vs xs}(h:jz T vs xs){i:Nat}{k:Str}{v:Value}(e:vs[i]? =some (k,v)):∃x,xs[i]? =some (k,x)/\VR T v x:=by refine bV (F2.get h.flip e) λf e u h=>?_;obtain⟨_,x⟩:=f;subst u;exact ag x e h
noncomputable def fe(l:List (Str×AV))(k:Str):Option AV:=l.lookup k
noncomputable def bI(l:List (Str×AV))(k:Str)(x:AV):List (Str×AV):=
 if l.any (λkv=>decide (kv.1=k))then l.map (λkv=>if kv.1=k then(kv.1,x)else kv)else l++[(k,x)]
theorem jz.at{T:TM}{vs xs}(h:jz T vs xs)(k:Str):match fe xs k with
 |some x=>∃v,valueAt vs k=some v/\VR T v x
 |none=>valueAt vs k=none:=by
 induction h with
 |nil=>rfl
 | @cons p q vs xs h _ ih=>
   obtain⟨k',v⟩:=p;obtain⟨_,x⟩:=q;obtain⟨rfl:k'=_,h⟩:=h;unfold fe valueAt at*
   by_cases e:k=k'
   . subst e;simp;exact h
   . rw[List.lookup_cons,beq_eq_false_iff_ne.mpr e,List.find?_cons_of_neg (by simpa using λq=>e q.symm)];exact ih
theorem jz.isSome{T:TM}{vs xs}(h:jz T vs xs)(k:Str):(valueAt vs k).isSome=(fe xs k).isSome:=by
 have:=h.at k;generalize fe xs k=y at*
 induction y with
 |some=>exact ab this λv e _=>e▸rfl
 |none=>exact this▸rfl
theorem jz.stored{T:TM}{vs xs}(h:jz T vs xs){k:Str}{v:Value}{x:AV}(hv:VR T v x):jz T (PySem.stored vs k v) (bI xs k x):=by
 have f:vs.any (λi=>decide (i.1=k))=xs.any (λi=>decide (i.1=k)):=by
  induction h with
  |nil=>rfl
  |cons h _ ih=>exact congr (congrArg (λz=>or (decide (z=k))) h.1) ih
 unfold PySem.stored bI;rw[f];split
 . rename_i u;clear f u
   induction h with
   |nil=>exact .nil
   | @cons p q vs xs h _ ih=>
     obtain⟨k',B⟩:=p;obtain⟨_,F⟩:=q;obtain⟨rfl:k'=_,h⟩:=h;simp only[List.map_cons];by_cases e:k'=k
     . simp only[e,if_true];exact .cons hv ih
     . simp only[e,if_false];exact .cons h ih
 . rename_i u;clear f u
   induction h with
   |nil=>exact .cons hv .nil
   |cons h _ ih=>exact F2.cons h ih
section
variable{c:Cx}{env:Env}{A:Around}{H₀:Heap}{σ:ah}
theorem fP{T:TM}{h:Heap}{d:Addr}{f:Array DictEntry}{n:Nat}{l:List (Str×AV)}(z:h.get? d=some (aC f n))(hi:nZ T c.w.params f.toList l)(nd:(l.map (·.1)).Nodup):
 ∃kvs,h.DictAt (PySem.strKind c.prog c.w) d kvs n/\jz T kvs l:=by
 have key:∀{f:List DictEntry}{l},nZ T c.w.params f l->∃kvs,jz T kvs l/\Pairs (PySem.strKind c.prog c.w) f kvs/\∀e∈f,∃k,(PySem.strKind c.prog c.w).is k e.key=true/\e.hash=(PySem.strKind c.prog c.w).hash k:=by
  intro f l h
  induction h with
  |nil=>exact dA [] .nil .nil λ_ h=>uH h
  | @cons e kx f l h _ ih=>
    refine bV ih λkvs h1 h2 i=>?_;obtain⟨⟨t,B⟩,F,hv⟩:=h;have u:(PySem.strKind c.prog c.w).is kx.1 e.key=true:=by rw[B];exact beq_self_eq_true kx.1
    refine dA ((kx.1,e.val)::kvs) (.cons hv h1) (.cons u rfl h2) λG h'=>?_;rcases List.mem_cons.mp h' with rfl|h'
    . exact ag kx.1 u F
    . exact i G h'
 refine bV (key hi) λkvs h1 h2 i=>?_;exact ag kvs ⟨_,f,z,⟨rfl,rfl,rfl⟩,rfl,λe he=>i e (Array.mem_toList_iff.mpr he),h2,by rw[h1.keys];exact nd⟩ h1
theorem s8{T:TM}{h:Heap}{d:Addr}{kvs:List (Str×Value)}{l:List (Str×AV)}(hd:h.DictOf (PySem.strKind c.prog c.w) d kvs)(hi:jz T kvs l):
 ∃f n,h.get? d=some (aC f n)/\nZ T c.w.params f.toList l/\(l.map (·.1)).Nodup:=by
 obtain⟨o,f,I,u,⟨h1,h2,z⟩,B,F,G,nd⟩:=hd;obtain⟨cl,Q,U,W⟩:=o;simp only at h1 h2 z B;subst h1 h2 z B;refine t4 f I u ?_ (by rw[<-hi.keys];exact nd);have i:∀e∈f.toList,∃k,(PySem.strKind c.prog c.w).is k e.key=true/\e.hash=(PySem.strKind c.prog c.w).hash k:=λe he=>F e (Array.mem_toList_iff.mp he);generalize f.toList=el at G i;clear u F nd
 induction G generalizing l with
 |nil=>obtain rfl:=hi.flip.inv;exact .nil
 | @cons e kv f kvs g1 g2 g3 ih=>refine cP hi.flip.inv λJ xs N H ht=>?_;obtain⟨_,x⟩:=J;subst N;refine af H λO hv=>?_;clear H;subst O;refine ab (i e (.head _)) λk' q1 q2=>?_;have P:=(PySem.strKind c.prog c.w).inj _ _ _ q1 g1;subst P;refine ax (Value.isStrOf_shape q1) λt q3=>?_;exact .cons ⟨⟨t,q3⟩,q2,g2▸hv⟩ (ih ht.flip λe he=>i e (.tail _ he))
theorem cC{M:Model}{E}{s:Shared}{pos:Pos}{i:String}{first:List Value}{f:List (Bool×Sem Value)}{Q:Value->Shared->Prop}(u:f.any (·.1)=false)
 (h:wpAny M A (evalArgs (.builtin i) true f []) (λa z=>wpAny M A (call (.builtin i) (first++a.pos) a.kw) Q E z) E s):wpAny M A (callWith pos (.builtin i) first f []) Q E s:=
 callWith_builtin_kwB u rfl h
inductive PY(c:Cx)(T:TM)(s:Shared)(xs:List AV)(v:Value)(s':Shared):Prop
 |mk (T':TM) (a:Addr) (vs:Array Value) (n:Nat) (ev:v= .ref a) (e:bF c T s T' s') (w:W c T' s'.heap) (o:s'.heap.get? a=some (bo vs n)) (it:dx T' vs.toList xs) (fx:AT T' a) (ht:a≠c.tab) (h0:c.h₀.get? a=none)
inductive P8(c:Cx)(T:TM)(s:Shared)(l:List (Str×AV))(v:Value)(s':Shared):Prop
 |mk (T':TM) (a:Addr) (es:Array DictEntry) (n:Nat) (ev:v= .ref a) (e:bF c T s T' s') (w:W c T' s'.heap) (o:s'.heap.get? a=some (aC es n)) (it:nZ T' c.w.params es.toList l) (nd:(l.map (·.1)).Nodup) (fx:AT T' a) (ht:a≠c.tab) (h0:c.h₀.get? a=none)
noncomputable def sj(c:Cx)(env:Env)(A:Around)(H₀:Heap)(σ:ah)(e:Expr)(xs:List AV):Prop:=
 ∀T s,W c T s.heap->FR c env H₀ σ T s.heap->wpAny c.M A (eval e env) (PY c T s xs) cg s
noncomputable def pV(c:Cx)(env:Env)(A:Around)(H₀:Heap)(σ:ah)(e:Expr)(l:List (Str×AV)):Prop:=
 ∀T s,W c T s.heap->FR c env H₀ σ T s.heap->wpAny c.M A (eval e env) (P8 c T s l) cg s
theorem tB{e xs}(h:bQ c env A H₀ σ e (.list xs)):sj c env A H₀ σ e xs:=λT s w F=>wpAny_mono (h T s w F) (λv s'⟨T',ex,f,r⟩=>by
 refine ab r.inv λ_ i ht=>?_;subst i;have lo:=f.lo _ _ ht;exact aP (f.ok _ _ ht) λ_ _ at_ items=>⟨T',_,_,_,rfl,ex,f,at_,items,(λd q=>by rw[ht]at q;exact Ty.noConfusion (Option.some.inj q)),lo.2,lo.1⟩) λ_ _ z=>z
theorem zV{e l}(h:bQ c env A H₀ σ e (.dict l)):pV c env A H₀ σ e l:=λT s w F=>wpAny_mono (h T s w F) (λv s'⟨T',ex,f,r⟩=>by
 refine ab r.inv λ_ i ht=>?_;subst i;have lo:=f.lo _ _ ht;exact cP (f.ok _ _ ht) λ_ _ at_ items nd=>⟨T',_,_,_,rfl,ex,f,at_,items,nd,(λd q=>by rw[ht]at q;exact Ty.noConfusion (Option.some.inj q)),lo.2,lo.1⟩) λ_ _ z=>z
theorem yD{x pos xs}(h:σ.lookup x=some (.ol xs))(hd:(x==("__debug__":Str))=false):sj c env A H₀ σ (.Name x pos) xs:=λT s w F=>
 wpAny_Name (vG F h λa vs n at_ items f lo=>⟨T,a,vs,n,rfl,.refl ..,w,at_,items,.none f,(F.jx _ lo).2,(F.jx _ lo).1⟩) hd
theorem zW{x pos l}(h:σ.lookup x=some (.od l))(hd:(x==("__debug__":Str))=false):pV c env A H₀ σ (.Name x pos) l:=λT s w F=>
 wpAny_Name (vH F h λa f n at_ items nd i lo=>⟨T,a,f,n,rfl,.refl ..,w,at_,items,nd,.none i,(F.jx _ lo).2,(F.jx _ lo).1⟩) hd
noncomputable def bc(xs:List AV)(k:Int):Option AV:=
 if k< -1000||k>1000 then none else if 0<=k then xs[k.toNat]? else if-(xs.length:Int)<=k then xs[(k+xs.length).toNat]? else none
theorem c9{f:Expr}{o i:Value}:∃u,subscripted f false o i=operate u (getItem o i):=by
 induction f using Expr.casesOn<;>try exact⟨_,rfl⟩
 rename_i a b c d;induction c<;>exact ⟨_,rfl⟩
theorem zL{e i pos xs k y}(he:sj c env A H₀ σ e xs)(hi:bQ c env A H₀ σ i (.int k))(h:bc xs k=some y):bQ c env A H₀ σ (.Subscript e i pos) y:=λT s w F=>by
 rw[arm_eval_Subscript];refine wpAny_bind (wpAny_mono (he T s w F) (λv s1 g=>?_) λ_ _ z=>z);obtain⟨T1,a,vs,n,rfl,B,H,I,f,fx,nt,lo⟩:=g;refine hi.hold H (F.ext B) λv J N u O F2 r2=>wpAny_bind (wpAny_standAt ?_);refine ax r2.inv λt P=>?_;subst P;have hl:=bw (u.keep a _ fx nt I);have G:=dd f;refine ax (@c9 i (.ref a) (.int k t)) λQ U=>?_;refine tail_any hl.typeIs slot_list_getitem.lookup ?_ U;have g8:∀{v},VR T1 v y->Got c T s y v N:=λq=>⟨J,B.trans u,O,q.mono u.le⟩;unfold bc at h;split at h
 . injection h
 . rename_i hb;simp only[Bool.or_eq_true,decide_eq_true_eq,not_or,Int.not_lt]at hb;split at h
   . refine ab (f.get h) λv hv r=>?_;exact wpAny_getItem_list hl ‹_› (by lia) (by exact Array.getElem?_toList.symm.trans hv) (g8 r)
   . split at h
     . refine ab (f.get h) λv hv r=>?_;exact wpAny_getItem_list_neg hl (by lia) (by rw[G];assumption) (by lia) (by rw[G];exact Array.getElem?_toList.symm.trans hv) (g8 r)
     . injection h
theorem CC{e xs pos sp cp kk k}(he:sj c env A H₀ σ e xs)(h0:0<=k)(N:xs.length<=1000):bQ c env A H₀ σ (.Subscript e (.Slice none (some (.Constant (.int k) kk cp)) none sp) pos) (.list (xs.take k.toNat)):=λT s w F=>by
 rw[arm_eval_Subscript];refine wpAny_bind (wpAny_mono (he T s w F) (λv s1 g=>?_) λ_ _ z=>z);obtain⟨T1,a,vs,n,rfl,u,B,G,i,fx,nt,lo⟩:=g;refine wpAny_bind (wpAny_holding (wpAny_Slice ?_));rw[evalPart_none,evalPart_some];refine wpAny_pure (wpAny_Constant_int (wpAny_pure (wpAny_bind (wpAny_standAt ?_))));have f:(s1.heap.push {cls:= .type "slice",data:= .fields #[.none,.int k s1.toks,.none]}).get? a=some (bo vs n):=Heap.get?_push_of_some _ G;refine ax (@c9 (.Slice none (some (.Constant (.int k) kk cp)) none sp) (.ref a) (.ref s1.heap.objs.size)) λH I=>?_;refine tail_any (T:="list") ⟨_,f,rfl⟩ slot_list_getitem.lookup (wpAny_getItem_list_slice (bw f) (.new ..) .none (.int _ _) .none (by decide) ?_ (by rw[dd i,sizeLine_eq];lia)) I;have J:slicePick vs none (some k) none=(vs.toList.take k.toNat).toArray:=by rw[(by lia:k=(k.toNat:Int)),slicePick_upto' vs k.toNat,Int.toNat_natCast]
 rw[J];have ex:bF c T s T1 {s1 with heap:=s1.heap.push {cls:= .type "slice",data:= .fields #[.none,.int k s1.toks,.none]},toks:=s1.toks+1}:=u.trans ((bF.push _).toks _);refine(lT (s:={s1 with heap:=s1.heap.push {cls:= .type "slice",data:= .fields #[.none,.int k s1.toks,.none]},toks:=s1.toks+1}) ((B.push {cls:= .type "slice",data:= .fields #[.none,.int k s1.toks,.none]})) ?_).trans ex;have tk:∀{vs xs},dx T1 vs xs->∀m,dx T1 (vs.take m) (xs.take m):=by
  intro vs xs h
  induction h with
  |nil=>intro m;simp;exact .nil
  |cons h _ ih=>intro m;induction m using Nat.casesAuxOn with
   |zero=>exact .nil
   |succ m=>exact .cons h (ih m)
 exact tk i _
theorem CY{e xs p pos}(hn:kq c env A H₀ σ (.Name "len" p) (.builtin "len"))(i:isStarred e=false)(he:sj c env A H₀ σ e xs)(I:xs.length<=1000):bQ c env A H₀ σ (.Call (.Name "len" p) [e] [] pos) (.int xs.length):=λT s w F=>by rw[arm_eval_Call_Name'];refine wpAny_bind (wpAny_mono (hn T s w F) (λv s'⟨f,B⟩=>?_) λ_ _ z=>z);subst f;subst B;refine callWith_builtin (by rw[aA i];rfl) ?_;rw[aA i];refine evalArgs_plain (spliced_cons (wpAny_mono (he T _ w F) (λv s1 g=>?_) λ_ _ z=>z.elim));obtain⟨T1,a,vs,n,rfl,f,G,H,u,fx,nt,lo⟩:=g;refine spliced_nil (call_len_list (bw H) (by rw[dd u];lia-abstractProof) ?_);rw[dd u];exact(Got.int G _ _ _).trans f
theorem tX{e i pos l k y}(he:pV c env A H₀ σ e l)(hi:bQ c env A H₀ σ i (.str k))(h:fe l k=some y):bQ c env A H₀ σ (.Subscript e i pos) y:=λT s w F=>by rw[arm_eval_Subscript];refine wpAny_bind (wpAny_mono (he T s w F) (λv s1 g=>?_) λ_ _ z=>z);obtain⟨T1,a,X,n,rfl,u,G,H,I,nd,fx,nt,lo⟩:=g;refine hi.hold G (F.ext u) λv J Y f N F2 r2=>wpAny_bind (wpAny_standAt ?_);refine ax r2.inv λt O=>?_;subst O;refine ab (fP (f.keep a _ fx nt H) I nd) λkvs hd hv=>?_;have B:=hv.at k;rw[h]at B;refine ab B λv P Q=>?_;refine ax (@c9 i (.ref a) (.str k t)) λU W=>?_;refine tail_any hd.dictOf.typeIs slot_dict_getitem.lookup (wpAny_getItem_of (knd:=PySem.strKind c.prog c.w) (k:=k) (beq_self_eq_true k) hd.dictOf.mapOf P ?_) W;exact⟨J,(u.trans f).toks _,N,Q.mono f.le⟩
theorem wA{l op r pos k d}(O:aM c)(I:op= .In\/op= .NotIn)(J:behindInMarks op r=false)(hl:bQ c env A H₀ σ l (.str k))(hr:pV c env A H₀ σ r d):
 bQ c env A H₀ σ (.Compare l [op] [r] pos) (.bool (if op= .In then(fe d k).isSome else !(fe d k).isSome)):=λT s w F=>by
 rw[arm_eval_Compare];refine hl.then w F λu T1 s1 i N P r1=>?_;rw[cG J];refine wpAny_bind (wpAny_holding (wpAny_mono (hr T1 s1 N P) (λv W g=>?_) λ_ _ z=>z));obtain⟨B,a,X,n,rfl,G,H,f,Q,nd,fx,nt,lo⟩:=g;refine wpAny_bind (wpAny_standAt (wpAny_operate' ?_));refine ax r1.inv λt U=>?_;subst U;refine ab (fP f Q nd) λkvs hd hv=>?_;rcases I with rfl|rfl
 . exact wpAny_in_of (knd:=PySem.strKind c.prog c.w) (k:=k) (beq_self_eq_true k) (O.iG lo) hd.dictOf.mapOf ⟨B,(i.trans G).toks _,H,congrArg Value.bool (hv.isSome k)⟩
 . exact wpAny_notIn_of (knd:=PySem.strKind c.prog c.w) (k:=k) (beq_self_eq_true k) (O.iG lo) hd.dictOf.mapOf ⟨B,(i.trans G).toks _,H,congrArg (λb=>Value.bool (!b)) (hv.isSome k)⟩
theorem vO{l op r pos k d}(O:aM c)(I:op= .In\/op= .NotIn)(J:behindInMarks op r=false)(hl:bQ c env A H₀ σ l (.str k))(hr:pV c env A H₀ σ r d):
 iU c env A H₀ σ (.Compare l [op] [r] pos) (if op= .In then(fe d k).isSome else !(fe d k).isSome):=λT s w F=>by
 rw[arm_isTrue_Compare];refine hl.then w F λu T1 s1 i N P r1=>?_;rw[cG J];refine wpAny_bind (wpAny_holding (wpAny_mono (hr T1 s1 N P) (λv W g=>?_) λ_ _ z=>z));obtain⟨B,a,X,n,rfl,G,H,f,Q,nd,fx,nt,lo⟩:=g;refine wpAny_bind (wpAny_standAt (wpAny_bind (wpAny_operate' ?_)));refine ax r1.inv λt U=>?_;subst U;refine ab (fP f Q nd) λkvs hd hv=>?_;rcases I with rfl|rfl
 . exact wpAny_in_of (knd:=PySem.strKind c.prog c.w) (k:=k) (beq_self_eq_true k) (O.iG lo) hd.dictOf.mapOf (wpAny_holding (wpAny_truthy_bool ⟨hv.isSome k,B,(i.trans G).toks _,H⟩))
 . exact wpAny_notIn_of (knd:=PySem.strKind c.prog c.w) (k:=k) (beq_self_eq_true k) (O.iG lo) hd.dictOf.mapOf (wpAny_holding (wpAny_truthy_bool ⟨congrArg (!·) (hv.isSome k),B,(i.trans G).toks _,H⟩))
theorem tY{o apos pos es l k y}(O:aM c)(hb:bk o=true)(N:pV c env A H₀ σ o l)(f:dT c env A H₀ σ es [.str k,y])(hl:(apos.endLine==pos.line)=true)(hn:es.length<30):
 bQ c env A H₀ σ (.Call (.Attribute o "get" apos) es [] pos) ((fe l k).getD y):=λT s w F=>by
 rw[arm_eval_Call,dw hb];refine wpAny_bind (wpAny_mono (N T s w F) (λv s1 g=>?_) λ_ _ z=>z);obtain⟨T1,a,ds,n,rfl,H,P,I,J,nd,fx,nt,lo⟩:=g;refine wpAny_bind (wpAny_standAt ?_);refine ab (fP I J nd) λkvs hd hv=>?_;refine cy hl (by exact hn) (bW pos f.noStar) λpl=>getMethod_builtin hd.dictOf.typeIs PySem.F.plainAttrs_dict PySem.F.slot_dict_get PySem.F.type_dict_get hd.dictOf.mapOf.noDict ?_;refine cC (bW pos f.noStar) (dk f P (F.ext H) λvs Q s2 i U r2=>?_);refine cP r2.inv λv1 AY u h1 W=>?_;subst u;refine cP W.inv λX Qe u h2 Y=>?_;subst u;obtain rfl:=Y.inv;refine ax h1.inv λt Z=>?_;subst Z;have B:=i.keep a _ fx nt I;refine ab (fP B J nd) λkvs hd hv=>?_;refine call_meetsIn PySem.F.slot_dict_get hd.dictOf.typeIs PySem.F.entry_dict_get (PySem.F.args_dict_get_3 _ _ _) (meets_dict_get_default (PySem.strKind c.prog c.w) a (k:=k) (key:= .str k t) (beq_self_eq_true k) (O.iG lo) X) ⟨_,hd.dictOf.mapOf,?_⟩;refine⟨Q,(H.trans i).toks _,U,?_⟩;have G:=hv.at k;split at G
 . rename_i x e;refine ab G λv q1 q2=>?_;rw[e,q1];exact q2.mono i.le
 . rename_i e;rw[e,G];exact h2
end
set_option tactic.hygienic false
noncomputable def tD(a b:Str):Bool:= !Spec.ltCps b.cps.toList a.cps.toList
noncomputable def dn(l:List Str):List Str:=l.mergeSort tD
theorem kP{a b:Str}:tD a b=true<->a.cps.toList<=b.cps.toList:=by unfold tD;rw[PyProof.Rows.ltCps_eq];rw[Bool.not_eq_true',decide_eq_false_iff_not];exact List.not_lt
theorem nk(a b c:Str)(h:tD a b=true)(k:tD b c=true):tD a c=true:=by rw[kP]at*;exact List.le_trans h k
theorem wg(a b:Str):(tD a b||tD b a)=true:=by rw[Bool.or_eq_true,kP,kP];exact List.le_total _ _
theorem yG{a b:Str}(h:tD a b=true)(k:tD b a=true):a=b:=by
 rw[kP]at*
 have:=List.le_antisymm h k;obtain⟨a⟩:=a;obtain⟨b⟩:=b;exact congrArg Str.mk (Array.toList_inj.mp this)
theorem fQ(l:List Str):(dn l).Perm l:=List.mergeSort_perm _ _
theorem sO(l:List Str):(dn l).Pairwise (λa b=>tD a b=true):=List.pairwise_mergeSort nk wg l
theorem kg:∀(l:List Str)(p:Str),risingS p l=true->(p::l).Pairwise (λa b=>tD a b=true)
 |[],p,_=>List.pairwise_singleton ..
 |x::r,p,h=>by
  rw[risingS,Bool.and_eq_true]at h;have f:=kg r x h.2;refine List.pairwise_cons.mpr ⟨λy hy=>?_,f⟩;rcases List.mem_cons.mp hy with rfl|hy
  . exact h.1
  . exact nk _ _ _ h.1 ((List.pairwise_cons.mp f).1 y hy)
theorem qR:∀(l:List Str),sortedS l=true->l.Pairwise (λa b=>tD a b=true)
 |[],_=> .nil
 |x::r,h=>kg r x h
theorem uC:∀{l m:List Str},l.Perm m->l.Pairwise (λa b=>tD a b=true)->m.Pairwise (λa b=>tD a b=true)->l=m
 |[],m,hp,_,_=>by rw[List.nil_perm.mp hp]
 |x::l,[],hp,_,_=>absurd hp (by simp)
 |x::l,y::m,hp,h1,h2=>by
  refine af (List.pairwise_cons.mp h1) λa1 f=>?_;refine af (List.pairwise_cons.mp h2) λb1 b2=>?_;have e:x=y:=by
   refine Or.elim (List.mem_cons.mp (hp.subset (.head _))) (λe=>?_) λhx=>?_
   . exact e
   . refine Or.elim (List.mem_cons.mp (hp.symm.subset (.head _))) (λe=>?_) λhy=>?_
     . exact e.symm
     . exact yG (a1 y hy) (b1 x hx)
  subst e;rw[uC ((List.perm_cons x).mp hp) f b2]
section
variable{c:Cx}{env:Env}{A:Around}{H₀:Heap}{σ:ah}
theorem wM{xs ns}(e:fu xs=some ns)(f:xs.length<64):HC c A (.builtin "sorted") [.a (.list xs)] (.list ((dn ns).map .str)):=λT s vs w r=>by refine cP r.inv λ_ _ i h t=>?_;subst i;obtain rfl:=t.inv;refine wpAny_mono (mU e f T s _ w h) (λu s'⟨ms,h1,h2,g⟩=>?_) λ_ _ z=>z;have:ms=dn ns:=uC (h1.trans (fQ ns).symm) (qR _ h2) (sO _);rw[<-this];exact g
inductive Lr(c:Cx)(T:TM)(s:Shared)(xs:List AV)(v:Value)(s':Shared):Prop
 |mk (T':TM) (r:Addr) (vs:Array Value) (n:Nat) (ev:v= .ref r) (e:bF c T s T' s') (w:W c T' s'.heap) (h0:s.heap.get? r=none) (tn:T' r=none) (o:s'.heap.get? r=some (bo vs n)) (it:dx T' vs.toList xs)
inductive Ls(c:Cx)(T:TM)(s:Shared)(l:List (Str×AV))(v:Value)(s':Shared):Prop
 |mk (T':TM) (r:Addr) (es:Array DictEntry) (n:Nat) (ev:v= .ref r) (e:bF c T s T' s') (w:W c T' s'.heap) (h0:s.heap.get? r=none) (tn:T' r=none) (o:s'.heap.get? r=some (aC es n)) (it:nZ T' c.w.params es.toList l) (nd:(l.map (·.1)).Nodup)
noncomputable def si(c:Cx)(env:Env)(A:Around)(H₀:Heap)(σ:ah)(e:Expr)(xs:List AV):Prop:=
 ∀T s,W c T s.heap->FR c env H₀ σ T s.heap->wpAny c.M A (eval e env) (Lr c T s xs) cg s
noncomputable def pR(c:Cx)(env:Env)(A:Around)(H₀:Heap)(σ:ah)(e:Expr)(l:List (Str×AV)):Prop:=
 ∀T s,W c T s.heap->FR c env H₀ σ T s.heap->wpAny c.M A (eval e env) (Ls c T s l) cg s
theorem Got.M9{T T':TM}{s s':Shared}{r vs n xs}(w:W c T s.heap)(ex:bF c T s T' s')(f:W c T' s'.heap)(h0:s.heap.get? r=none)(hn:T' r=none)(i:s'.heap.get? r=some (bo vs n))(hi:dx T' vs.toList xs):Got c T s (.list xs) (.ref r) s':=
 ⟨_,ex.type hn h0,f.type hn (w.free h0) (.list i (hi.mono (dH hn))),.list bP⟩
theorem Got.newD{T T':TM}{s s':Shared}{r es n l}(w:W c T s.heap)(ex:bF c T s T' s')(f:W c T' s'.heap)(h0:s.heap.get? r=none)(hn:T' r=none)(i:s'.heap.get? r=some (aC es n))(hi:nZ T' c.w.params es.toList l)(nd:(l.map (·.1)).Nodup):Got c T s (.dict l) (.ref r) s':=
 ⟨_,ex.type hn h0,f.type hn (w.free h0) (.dict i (hi.mono (dH hn)) nd),.dict bP⟩
theorem si.ev{e xs}(h:si c env A H₀ σ e xs):bQ c env A H₀ σ e (.list xs):=λT s w F=>
 wpAny_mono (h T s w F) (λv s'⟨T',r,vs,n,f,ex,i,h0,hn,u,hi⟩=>by subst f;exact Got.M9 w ex i h0 hn u hi) λ_ _ z=>z
theorem pR.ev{e l}(h:pR c env A H₀ σ e l):bQ c env A H₀ σ e (.dict l):=λT s w F=>
 wpAny_mono (h T s w F) (λv s'⟨T',r,B,n,f,ex,i,h0,hn,u,hi,nd⟩=>by subst f;exact Got.newD w ex i h0 hn u hi nd) λ_ _ z=>z
theorem gT{es xs pos}(h:dT c env A H₀ σ es xs)(i:xs.length<=1000):si c env A H₀ σ (.List es pos) xs:=λT s w F=>by refine wpAny_List (wpAny_mono (h.run w F) (λvs s'⟨T',ex,f,r⟩=>⟨by rw[r.length,sizeLine_eq];lia,?_⟩) λ_ _ z=>z);exact⟨T',_,_,_,rfl,ex.trans (bF.push (bo vs.toArray 0)),f.push _,ex.fresh f (aG _),f.none_of (aG _),Heap.get?_push_size _ rfl,r⟩
theorem yl{l r pos x k}(h0:0<=k)(X:k<=1000)(hl:bQ c env A H₀ σ l (.list [x]))(hr:bQ c env A H₀ σ r (.int k)):si c env A H₀ σ (.BinOp l .Mult r pos) (List.replicate k.toNat x):=λT s w F=>by
 rw[arm_eval_BinOp];refine hl.then w F λu T1 s1 J N O r1=>hr.hold N O λv P Q H i F2 r2=>?_;refine wpAny_bind (wpAny_standAt (wpAny_operate' ?_));obtain⟨a,vs,n,rfl,f,hi⟩:=listAt i (r1.mono H.le);refine ax r2.inv λt W=>?_;subst W;refine ab hi.one λy hv h1=>?_;obtain rfl:vs= #[y]:=Array.toList_inj.mp hv;refine wpAny_binaryOp_repeat_ref (T:="list") (U:="int") (by decide) ⟨_,f,rfl⟩ (λs'=>typeIs_int s' k t) noFill_list_mul PySem.F.fills_int_mul PySem.F.slot_int_rmul repeat_list PySem.F.slot_int_index.lookup
  (call_meets PySem.F.slot_int_rmul (typeIs_int Q k t) PySem.F.entry_int_rmul (PySem.F.args_int_rmul_2 _ _) (int___rmul___int_list k t a #[y] n)
   ⟨f,rfl,⟨_,f,rfl⟩,call_meets PySem.F.slot_list_mul ⟨_,f,rfl⟩ PySem.F.entry_list_mul (PySem.F.args_list_mul_2 _ _)
    (AutoListH.list___mul___list_int_3 a #[y] n k t (by simp[Builtin.List.listFitsIndex];lia) (by have:(#[y]:Array Value).size=1:=rfl;rw[this];lia) (by have:(#[y]:Array Value).size=1:=rfl;simp[Builtin.List.listTooLong,sizeLine,this];lia))
    ⟨f,?_⟩⟩)
 have e:List.foldl (λz B=>z++B) #[] (List.replicate (if(#[y]:Array Value).isEmpty=true then 0 else k.toNat) #[y])=(List.replicate k.toNat y).toArray:=by
  have:(#[y]:Array Value).isEmpty=false:=rfl;rw[this];simp only[Bool.false_eq_true,if_false];have G:∀m(acc:Array Value),List.foldl (λz B=>z++B) acc (List.replicate m #[y])=acc++(List.replicate m y).toArray:=by
   intro m
   induction m with
   |zero=>intro acc;simp
   |succ m ih=>intro acc;rw[List.replicate_succ,List.foldl_cons,ih,List.replicate_succ];apply Array.toList_inj.mp;simp
  rw[G];simp
 rw[e];have I:=J.trans H;refine⟨P,_,_,_,rfl,I.trans (bF.push (bo (List.replicate k.toNat y).toArray 0)),i.push _,I.fresh i (aG _),i.none_of (aG _),Heap.get?_push_size _ rfl,?_⟩;generalize k.toNat=m
 induction m with
 |zero=>exact .nil
 |succ m ih=>rw[List.replicate_succ,List.replicate_succ];exact .cons h1 ih
theorem lG{pos}:pR c env A H₀ σ (.Dict [] [] pos) []:=λT s w F=>by rw[eval_Dict_empty];refine wpAny_bind (wpAny_standAt (wpAny_newObj_type ?_ (by size_fits)));exact⟨T,_,_,_,rfl,bF.push (aC #[] 0),w.push _,aG _,w.none_of (aG _),Heap.get?_push_size _ rfl,.nil,List.nodup_nil⟩
theorem ym{ke ve pos k x}(N:bQ c env A H₀ σ ke (.str k))(hv:bQ c env A H₀ σ ve x):pR c env A H₀ σ (.Dict [some ke] [ve] pos) [(k,x)]:=λT s w F=>by refine wpAny_Dict_pairs (knd:=PySem.strKind c.prog c.w) (pairs:=[(eval ke env,do let x<-eval ve env;standAt pos;pure x)]) rfl (by simp) (by simp) ?_;have u:bF c T s T {s with heap:=s.heap.push (aC #[] 0)}:=bF.push (aC #[] 0);have G:=w.none_of (aG s.heap);have f:=(w.free (aG s.heap)).2;have d0:({s with heap:=s.heap.push (aC #[] 0)}:Shared).heap.get? s.heap.objs.size=some (aC #[] 0):=Heap.get?_push_size _ rfl;refine evalPairs_cons (wpAny_mono (N T _ (w.push (aC #[] 0)) (F.ext u)) (λkv s1⟨T1,i,O,r1⟩=>?_) λ_ _ z=>z.elim);refine wpAny_bind (wpAny_mono (hv T1 s1 O ((F.ext u).ext i)) (λP s2⟨H,B,Q,r2⟩=>?_) λ_ _ z=>z.elim);refine wpAny_bind (wpAny_standAt (wpAny_pure (evalPairs_nil ?_)));refine ax r1.inv λt U=>?_;subst U;have n1:=i.cN _ _ f d0 G;have I:=i.np _ _ G f d0;have n2:=B.cN _ _ f I n1;refine dA [(k,P)] ⟨beq_self_eq_true k,rfl,trivial⟩ ⟨_,#[],0,(B.np _ _ n1 f I),⟨rfl,rfl,rfl⟩,rfl,λ_ he=>by simp at he,Pairs.nil,List.nodup_nil⟩ λh' hd J=>?_;refine cP (s8 (T:=H) (l:=[(k,x)]) hd (.cons r2 .nil)) λW n X Y Z=>?_;refine⟨H,_,W,n,rfl,((u.trans i).trans B).upd J (aG _),Q.upd J n2 (w.free (aG s.heap)),aG _,n2,X,Y,Z⟩
theorem zJ{id p e pos i}(hn:kq c env A H₀ σ (.Name id p) (.type "str"))(u:isStarred e=false)(he:bQ c env A H₀ σ e (.int i))(B:Sm i=true):bQ c env A H₀ σ (.Call (.Name id p) [e] [] pos) (.str (Str.ofString (toString i))):=λT s w F=>by rw[arm_eval_Call_Name'];refine wpAny_bind (wpAny_mono (hn T s w F) (λv s'⟨f,G⟩=>?_) λ_ _ z=>z);subst f;subst G;refine PyProof.Rows.callWith_type (by rw[aA u];rfl) ?_;rw[aA u];refine evalArgs_plain (spliced_cons (wpAny_mono (he T _ w F) (λv s1⟨T1,f,H,r1⟩=>?_) λ_ _ z=>z.elim));refine ax r1.inv λt I=>?_;subst I;refine spliced_nil (PySem.P.str_of_int (xH B) ?_);exact⟨T1,f.toks _,H,.str _ _⟩
theorem CE{o apos e pos sep xs ns}(f:bQ c env A H₀ σ o (.str sep))(hb:bk o=true)(z:isStarred e=false)(he:bQ c env A H₀ σ e (.list xs))(hn:fu xs=some ns)(B:sep.length<=64)(G:(ns.map (·.length)).sum+ns.length*64<=16777216)
 (hl:(apos.endLine==pos.line)=true):bQ c env A H₀ σ (.Call (.Attribute o "join" apos) [e] [] pos) (.str (Txt.join sep ns)):=λT s w F=>by
 rw[arm_eval_Call,dw hb];refine f.then w F λv T1 s1 H I J r1=>wpAny_bind (wpAny_standAt ?_);refine ax r1.inv λt N=>?_;subst N;have i:dT c env A H₀ σ [e] [.list xs]:= .cons z he .nil;refine cy hl (by simp) (bW pos i.noStar) λW=>getMethod_builtin (typeIs_str _ _ _) PySem.F.plainAttrs_str PySem.F.slot_str_join PySem.F.type_str_join (by intro a q;exact Value.noConfusion q) ?_;refine cC (bW pos i.noStar) (dk i I J λvs O X P u r2=>?_);refine cP r2.inv λ_ _ Q h1 U=>?_;subst Q;obtain rfl:=U.inv;obtain⟨a,Y,n,rfl,f,hi⟩:=listAt u h1;refine join_listC (bw f) (kJ hi hn) B G λZ k=>⟨O,(H.trans P).toks _,u,.str _ _⟩
end
section
variable{c:Cx}{env:Env}{A:Around}{H₀:Heap}{σ:ah}
theorem vX{h:Heap}{a:Addr}{m}{name:Str}{v:Value}{f:Array DictEntry}{n:Nat}(z:h.get? a=some (aC f n))(hn:h.Ns a m)(u:Int)(tk:Tok):
 ∃B I,(h.update a (Obj.putName name u (.str name tk) v)).get? a=some (aC B I)/\(h.update a (Obj.putName name u (.str name tk) v)).Ns a (λx=>if x=name then some v else m x)/\B.size<=f.size+(if(m name).isSome=true then 0 else 1):=by
 refine CJ hn λo B Q J hd G F=>?_;obtain rfl:=Option.some.inj (z.symm.trans J);refine af (Data.dict.inj hd) λN O=>?_;subst N;subst O
 induction hi:f.findIdx? (·.key.isStr name)with
 |some i=>
  have e:(h.update a (Obj.putName name u (.str name tk) v)).get? a=some (aC (f.modify i λe=>⟨e.hash,e.key,v⟩) n):=by rw[Heap.get?_update_self _ z (by rw[Obj.putName_eq,Obj.putNameByArray,hi];rfl)];rw[Obj.putName_eq,Obj.putNameByArray,hi]
  refine t4 _ _ e ⟨_,_,n,e,rfl,G.modify _ _,λx=>?_⟩ (by simp);show _=if x=name then some v else m x
  rw[<-F];exact findBy_modify (λn v=>v.isStr n) Value.isStr_inj f name x v i hi
 |none=>
  have e:(h.update a (Obj.putName name u (.str name tk) v)).get? a=some (aC (f.push ⟨u,.str name tk,v⟩) (n+1)):=by rw[Heap.get?_update_self _ z (by simp only[Obj.putName_eq,Obj.putNameByArray,hi];rfl)];simp only[Obj.putName_eq,Obj.putNameByArray,hi]
  have P:m name=none:=by rw[<-F];simp only[nsFind,findBy,Option.map_eq_none_iff];rw[<-Array.find?_toList,List.find?_eq_none];intro y hy H;have:=Array.findIdx?_eq_none_iff.mp hi y (Array.mem_toList_iff.mp hy);rw[this]at H;exact absurd H Bool.false_ne_true
  refine t4 _ _ e ⟨_,_,n+1,e,rfl,G.push _ _ _ _,λx=>?_⟩ (by rw[P];simp);show _=if x=name then some v else m x
  rw[<-F];exact findBy_push (λn v=>v.isStr n) f name x _ _ v (λy=>by
   show(name==y)=decide (y=name);by_cases h:y=name
   . subst h;simp
   . have:¬name=y:=λe=>h e.symm;simp[h,this]) hi
theorem oh{M:Model}{E}{s:Shared}{a:Addr}{m}{name:Str}{v:Value}{f:Array DictEntry}{n:Nat}{Q:Unit->Shared->Prop}(i:s.heap.get? a=some (aC f n))(hn:s.heap.Ns a m)
 (h:∀h' u z,h'.get? a=some (aC u z)->h'.Ns a (λx=>if x=name then some v else m x)->u.size<=f.size+(if(m name).isSome=true then 0 else 1)->Heap.SameBut a s.heap h'->Q () {s with heap:=h',toks:=s.toks+1}):
 wpAny M A (nsSet a name v) Q E s:=λB p _=>by
 refine CJ (id hn) λo u U F hd G W=>?_;obtain rfl:=Option.some.inj (i.symm.trans F);refine af (Data.dict.inj hd) λH I=>?_;subst H;subst I;simp only[nsSet,strHash,Sem.wp_bind',Sem.wp_cmd_ask,Sem.wp_pure',Sem.wp_cmd_mkText];rw[Sem.wp_loadPart_of M B _ p {s with toks:=s.toks+1} (o:=aC f n) _ i];have J:f.any (·.refKey)=false:=by rw[Array.any_eq_false'];intro e he;refine cq (G e he) λn t h=>?_;simp[DictEntry.refKey,h]
 simp only[aRefKeyMayBeTheName_at,J,Bool.and_false,Bool.false_eq_true,if_false,Sem.wp_cmd_updatePart];refine⟨by rw[i];rfl,?_⟩;obtain⟨u,z,N,O,P⟩:=vX (v:=v) (name:=name) i hn _ s.toks;exact h _ _ _ N O P (Heap.SameBut.update ..)
structure iu(K:Frag)(C:Addr):Prop where
 set:findIn K (.ref C) "__setattr__"=some (some (.builtin "object.__setattr__"))
 plain:plainOver K C=true
 has:(clsIn K C).any (·.hasDict)=true
 Id:∀k,az.contains k=true\/k=aB->takerIn K C k=some none
theorem BL{R:Result->Shared->Prop}{s:Shared}{x C d:Addr}{u:Obj}{f:Array DictEntry}{n:Nat}{m}{name:Str}{tk:Tok}{v:Value}(X:c.K.In s.heap)(Z:iu c.K C)(H:az.contains name=true\/name=aB)
 (I:InstAt s.heap x u C (some (aC f n)))(hd:u.dict=some d)(hn:s.heap.Ns d m)(W:f.size<=1000)
 (h:∀h' i z,h'.get? d=some (aC i z)->h'.Ns d (λx=>if x=name then some v else m x)->i.size<=f.size+(if(m name).isSome=true then 0 else 1)->Heap.SameBut d s.heap h'->R (.ok (.ret .none)) {s with heap:=h',toks:=s.toks+1}):
 codeAny c.M A (.call (.builtin "object.__setattr__") ⟨[.ref x,.str name tk,v],[]⟩) R s:=by
 refine osa_open X I Z.plain (Z.Id name H) λb=>?_;refine ab (any_some Z.has) λY J N=>?_;obtain⟨hx,B,UJ,O⟩:=I;obtain⟨oc,UA,UB,Uz⟩:=u;dsimp only at B hd;subst B hd;have P:s.heap.get? d=some (aC f n):=O;refine wpAny_bind (wpAny_pure (wpAny_bind (wpAny_bind (wpAny_loadPart hx (wpAny_bind ((looks_clsIn X J).here ?_))))));rw[N];refine wpAny_pure (a:=some d) (wpAny_bind (wpAny_pure (wpAny_bind ?_)));refine oh P hn λh' i z F Q G U=>?_;refine wpAny_bind (wpAny_lookBehind F (pastItsLine_dict (by rw[sizeLine_eq];split at G<;>lia)) ?_);exact wpAny_pure (h h' i z F Q G U)
theorem lg{E}{s:Shared}{x C d:Addr}{f:Array DictEntry}{n:Nat}{m}{name:Str}{v:Value}{Q:Unit->Shared->Prop}(X:c.K.In s.heap)(Z:iu c.K C)(z:az.contains name=true\/name=aB)
 (hx:s.heap.get? x=some (instObj C d))(B:s.heap.get? d=some (aC f n))(hn:s.heap.Ns d m)(F:f.size<=1000)
 (h:∀h' i u,h'.get? d=some (aC i u)->h'.Ns d (λx=>if x=name then some v else m x)->i.size<=f.size+(if(m name).isSome=true then 0 else 1)->Heap.SameBut d s.heap h'->Q () {s with heap:=h',toks:=s.toks+2}):
 wpAny c.M A (setAttr (.ref x) name v) Q E s:=by
 have I:InstAt s.heap x (instObj C d) C (some (aC f n)):=⟨hx,rfl,rfl,B⟩;exact set_plain X I Z.set (BL (s:={s with toks:=s.toks+1}) X Z z I rfl hn F λh' i u G H J N=>h h' i u G H J N)
theorem kl{fl:List (Str×AV)}{k k':Str}{x:AV}(h:fl.lookup k=none):(fl++[(k,x)]).lookup k'=if k'=k then some x else fl.lookup k':=by
 rw[List.lookup_append];by_cases e:k'=k
 . subst e;rw[h];simp
 . rw[if_neg e,List.lookup_cons,beq_eq_false_iff_ne.mpr e];simp
theorem W.other{T T':TM}{h h':Heap}{a d b:Addr}{ty:Ty}(w:W c T h)(hd:T d=some (.bA a))(l:VL T T')(ke:∀{d},T d=some (.bA b)->T' d=some (.bA b))(f:Heap.SameBut d h h')(e:T b=some ty)(q:b≠a)(q2:b≠d):dB c T' h' b ty:=
 (w.ok b ty e).map l (λ{_}=>(f.2 b q2).trans) λ{i} own=>⟨ke own,λ{_}=>(f.2 i λz=>q (by injection(z▸own:T d=some (.bA b)).symm.trans hd with e;injection e)).trans⟩
theorem W.Ep{T:TM}{h h':Heap}{a d b:Addr}{o:Obj}(w:W c T h)(hd:T d=some (.bA a))(f:Heap.SameBut d h h')(e:c.h₀.get? b=some o):h'.get? b=some o:=
 (f.2 b λq=>ad ((w.lo d _ hd).1.symm.trans (q▸e))).trans (w.base b o e)
theorem gu{T:TM}{a b d:Addr}{C fl}(ht:T a=some (.obj C fl))(hd:T d=some (.bA b)):d≠a:=λz=>by injection ht.symm.trans (z▸hd:T a=some (.bA b))with q;injection q
theorem W.setField{T:TM}{h h':Heap}{a C d:Addr}{fl:List (Str×AV)}{k:Str}{x:AV}{v:Value}{m}{B:Array DictEntry}{n:Nat}(w:W c T h)(ht:T a=some (.obj C fl))(hd:T d=some (.bA a))(at_:h.get? a=some (instObj C d))
 (hn:bS C fl=false)(hf:fl.lookup k=none)(F:az.contains k=true)(I:fl.length<100)(J:B.size<=fl.length+1+(if(m aB).isSome=true then 1 else 0))
 (f:dN c T C fl m)(names:∀k x,fl.lookup k=some x->az.contains k=true)(hv:VR T v x)
 (G:h'.get? d=some (aC B n))(N:h'.Ns d (λy=>if y=k then some v else m y))(i:Heap.SameBut d h h'):
 W c (λb=>if b=a then some (.obj C (fl++[(k,x)]))else T b) h'/\js T (λb=>if b=a then some (.obj C (fl++[(k,x)]))else T b):=by
 have H:=gu ht hd;have O:aB≠k:=by rintro rfl;exact absurd F (by decide)
 have le:js T (λb=>if b=a then some (.obj C (fl++[(k,x)]))else T b):=λb ty e=>by
  by_cases q:b=a
  . obtain rfl:=Option.some.inj (ht.symm.trans (q▸e));exact ag _ (if_pos q) (.obj (.inr ⟨.snoc,hn⟩))
  . exact ag ty ((if_neg q).trans e) (.refl _)
 refine⟨⟨λb o e=>w.Ep hd i e,λb ty e=>?_,λb ty e=>?_,?_⟩,le⟩
 . by_cases q:b=a
   . exact q▸w.lo a _ ht
   . exact w.lo b ty ((if_neg q).symm.trans e)
 . by_cases q:b=a
   . subst q;obtain rfl:=Option.some.inj ((if_pos rfl).symm.trans e);refine⟨d,λy=>if y=k then some v else m y,B,n,(i.2 b H.symm).trans at_,(if_neg H).trans hd,G,N,λy=>?_,λy z e=>?_,?_,?_⟩
     . rw[kl hf];by_cases q:y=k
       . rw[if_pos q];exact ag v (if_pos q) (hv.mono le)
       . simp only[if_neg q];have:=f y;generalize fl.lookup y=o at*
         induction o with
         |some=>exact ab this λu h1 h2=>⟨u,h1,h2.mono le⟩
         |none=>
          by_cases q2:y=aB
          . exact(if_pos q2).mpr λu P=>absurd (hn.symm.trans ((if_pos q2).mp this u P).1) Bool.false_ne_true
          . exact(if_neg q2).mpr ((if_neg q2).mp this)
     . by_cases q:y=k
       . exact q▸F
       . exact names y z ((if_neg q).symm.trans ((kl hf).symm.trans e))
     . show _<=_+if(if aB=k then some v else m aB).isSome=true then 1 else 0
       rw[List.length_append,List.length_singleton,if_neg O];exact J
     . rw[List.length_append];exact I
   . have e:=(if_neg q).symm.trans e;by_cases q2:b=d
     . obtain rfl:=Option.some.inj (hd.symm.trans (q2▸e));exact⟨_,q2▸G⟩
     . exact w.other hd le.vl (λ{Q} own=>(if_neg (gu ht own)).trans own) i e q q2
 . refine ab w.tab λps e r=>?_;exact ag ps ((i.2 _ (λq=>(w.lo d _ hd).2 q.symm)).trans e) (r.le le)
theorem W.Fd{T:TM}{h h':Heap}{a C d:Addr}{fl:List (Str×AV)}{x:Str}{t:Tok}{m}{z:Array DictEntry}{n:Nat}(w:W c T h)(ht:T a=some (.obj C fl))(hd:T d=some (.bA a))(at_:h.get? a=some (instObj C d))
 (F:bS C fl=true)(hx:c.tx (.obj C fl)=some x)(G:fl.length<=100)(H:z.size<=fl.length+1)
 (f:dN c T C fl m)(names:∀k x,fl.lookup k=some x->az.contains k=true)
 (B:h'.get? d=some (aC z n))(I:h'.Ns d (λy=>if y=aB then some (.str x t)else m y))(i:Heap.SameBut d h h'):W c T h':=by
 have J:fl.lookup aB=none:=by
  induction e:fl.lookup aB with
  |none=>rfl
  |some y=>exact absurd (names _ _ e) (by decide)
 refine⟨λb o e=>w.Ep hd i e,w.lo,λb ty e=>?_,?_⟩
 . by_cases q:b=a
   . subst q;obtain rfl:=Option.some.inj (ht.symm.trans e);refine⟨d,λy=>if y=aB then some (.str x t)else m y,z,n,(i.2 b (gu ht hd).symm).trans at_,hd,B,I,λy=>?_,names,H,G⟩;by_cases q:y=aB
     . subst q;rw[J];exact λu N=>⟨F,x,t,(Option.some.inj N).symm,hx⟩
     . simp only[if_neg q];have:=f y;generalize fl.lookup y=o at*
       induction o with
       |some=>exact this
       |none=>exact(if_neg q).mp this
   . by_cases q2:b=d
     . obtain rfl:=Option.some.inj (hd.symm.trans (q2▸e));exact⟨_,q2▸B⟩
     . exact w.other hd (λh=>h) (λown=>own) i e q q2
 . refine ab w.tab λps e r=>?_;exact ag ps ((i.2 _ (λq=>(w.lo d _ hd).2 q.symm)).trans e) r
end
set_option tactic.hygienic true
set_option backward.match.sparseCases true
structure Le(T:TM)(s:Shared)(T':TM)(s':Shared):Prop where
 le:js T T'
 wX:∀a ty o,T a=some ty->(∀d,ty≠ .bA d)->s.heap.get? a=some o->s'.heap.get? a=some o
theorem Le.refl(T s):Le T s T s:=⟨.refl T,λ_ _ _ _ _ e=>e⟩
theorem Le.trans{f i u:TM}{z B F:Shared}(x:Le f z i B)(y:Le i B u F):Le f z u F:=
 ⟨x.le.trans y.le,λa ty o h1 h2 G=>by
  refine ab (x.le a ty h1) λH I q=>?_;exact y.wX a H o I (λd hd=>h2 d (hd▸q:ij ty (.bA d)).od) (x.wX a ty o h1 h2 G)⟩
theorem bF.xl{c T s T' s'}(w:W c T s.heap)(x:bF c T s T' s'):Le T s T' s':=
 ⟨x.le,λa ty o h1 h2 f=>x.keep a o (λd q=>h2 d (Option.some.inj (h1.symm.trans q))) (w.lo a ty h1).2 f⟩
inductive fX where
 |next(σ:ah)
 |cont(σ:ah)
 |ret(x:AV)(σ:ah)
inductive RH(fl:Flow)(c:Cx)(aj:TM)(ae:Shared)(env:Env)(σ':ah)(T:TM)(s:Shared)(f:Flow)(s':Shared):Prop
 |mk (e:f=fl) (T':TM) (S:St c aj ae env σ' T' s') (l:Le T s T' s')
inductive Uk(c:Cx)(aj:TM)(ae:Shared)(env:Env)(x:AV)(σ':ah)(T:TM)(s:Shared)(f:Flow)(s':Shared):Prop
 |mk (v:Value) (T':TM) (e:f= .ret v) (S:St c aj ae env σ' T' s') (l:Le T s T' s') (r:VR T' v x)
inductive RF(c:Cx)(aj:TM)(ae:Shared)(env:Env)(σ':ah)(T:TM)(s:Shared)(s':Shared):Prop
 |mk (T':TM) (S:St c aj ae env σ' T' s') (l:Le T s T' s')
noncomputable def f0(c:Cx)(aj:TM)(ae:Shared)(env:Env)(T:TM)(s:Shared):fX->Flow->Shared->Prop
 | .next σ',f,s'=>RH .next c aj ae env σ' T s f s'
 | .cont σ',f,s'=>RH .cont c aj ae env σ' T s f s'
 | .ret x σ',f,s'=>Uk c aj ae env x σ' T s f s'
theorem f0.from{c aj ae env T s bp aS o f s'}(l:Le T s bp aS)(x:f0 c aj ae env bp aS o f s'):f0 c aj ae env T s o f s':=by
 induction o with
 |next σ'=>obtain⟨e,T',S,k⟩:=x;exact⟨e,T',S,l.trans k⟩
 |cont σ'=>obtain⟨e,T',S,k⟩:=x;exact⟨e,T',S,l.trans k⟩
 |ret y σ'=>obtain⟨v,T',e,S,k,r⟩:=x;exact⟨v,T',e,S,l.trans k,r⟩
noncomputable def d5(env:Env)(H₀:Heap):Prop:=∀x,eo env H₀ x
noncomputable def ju(c:Cx)(env:Env)(A:Around)(σ:ah)(st:Stmt)(o:fX):Prop:=
 ∀aj ae T s,St c aj ae env σ T s->d5 env ae.heap->wpAny c.M A (exec st env) (f0 c aj ae env T s o) cg s
noncomputable def dG(c:Cx)(env:Env)(A:Around)(σ:ah)(b:List Stmt)(o:fX):Prop:=
 ∀aj ae T s,St c aj ae env σ T s->d5 env ae.heap->wpAny c.M A (execs b env) (f0 c aj ae env T s o) cg s
section
variable{c:Cx}{env:Env}{A:Around}{H₀:Heap}{σ:ah}
theorem bT{α:Type}{M:Model}{A:Around}{m:Sem α}{Q:α->Shared->Prop}{E}{s:Shared}(h:wpAny M A m Q cg s):wpAny M A m Q E s:=wpAny_mono h (λ_ _ z=>z) λ_ _ z=>z.elim
theorem St.kp{aj ae T s T' s'}(S:St c aj ae env σ T s)(e:bF c T s T' s')(w:W c T' s'.heap):St c aj ae env σ T' s'/\Le T s T' s':=⟨S.ext e w,e.xl S.w⟩
theorem u7:dG c env A σ [] (.next σ):=λaj ae T s S f=>wpAny_execs_nil ⟨rfl,T,S,.refl ..⟩
theorem rM{st rest σ' o}(h:ju c env A σ st (.next σ'))(t:dG c env A σ' rest o):dG c env A σ (st::rest) o:=λaj ae T s S i=>by refine wpAny_execs_cons (wpAny_mono (h aj ae T s S i) (λf s'⟨e,T',u,l⟩=>?_) λ_ _ z=>z);subst e;exact wpAny_mono (t aj ae T' s' u i) (λf B q=>q.from l) λ_ _ z=>z
theorem zB{st rest σ'}(h:ju c env A σ st (.cont σ')):dG c env A σ (st::rest) (.cont σ'):=λaj ae T s S i=>by refine wpAny_execs_cons (wpAny_mono (h aj ae T s S i) (λf s'⟨e,T',u,l⟩=>?_) λ_ _ z=>z);subst e;exact⟨rfl,T',u,l⟩
theorem u6{st rest x σ'}(h:ju c env A σ st (.ret x σ')):dG c env A σ (st::rest) (.ret x σ'):=λaj ae T s S i=>by refine wpAny_execs_cons (wpAny_mono (h aj ae T s S i) (λf s'⟨v,T',e,u,l,r⟩=>?_) λ_ _ z=>z);subst e;exact⟨v,T',rfl,u,l,r⟩
theorem Cw{b o x}(h:dG c env A (lU σ x) b o):dG c env A σ b o:=λaj ae T s S i=>by refine ab (S.lU x) λT' u l=>?_;exact wpAny_mono (h aj ae T' s u i) (λf B q=>q.from (⟨λa ty e=>⟨ty,l a ty e,.refl _⟩,λ_ _ _ _ _ e=>e⟩)) λ_ _ z=>z
theorem gG{b o}:∀{xs:List Str}{σ:ah},dG c env A (xs.foldl lU σ) b o->dG c env A σ b o
 |[],_,h=>h
 |x::xs,σ,h=>Cw (gG (xs:=xs) h)
theorem Eg{t b o pos q r}(ht:∀H₀,iU c env A H₀ σ t q)(hb:q=true->dG c env A σ b r)(B:q=false->dG c env A σ o r):ju c env A σ (.If t b o pos) r:=λaj ae T s S i=>by
 refine wpAny_If (wpAny_mono (ht _ T s S.w S.f) (λF s'⟨e,T',ex,G⟩=>?_) λ_ _ z=>z.elim);subst e;refine af (S.kp ex G) λu l=>?_
 induction F with
 |true=>exact wpAny_mono (hb rfl aj ae T' s' u i) (λf H q=>q.from l) λ_ _ z=>z
 |false=>exact wpAny_mono (B rfl aj ae T' s' u i) (λf H q=>q.from l) λ_ _ z=>z
theorem zH{e pos x}(h:∀H₀,bQ c env A H₀ σ e x):ju c env A σ (.Return (some e) pos) (.ret x σ):=λaj ae T s S B=>
 wpAny_Return_some (wpAny_mono (h _ T s S.w S.f) (λv s'⟨T',ex,i,r⟩=>by
  refine af (S.kp ex i) λu l=>?_;exact⟨v,T',rfl,u,l,r⟩) λ_ _ z=>z)
theorem Cz{pos}:ju c env A σ (.Return none pos) (.ret .none σ):=λaj ae T s S f=>wpAny_Return_none ⟨_,T,rfl,S,.refl ..,.none⟩
theorem nJ{t m pos}(ht:∀H₀,iU c env A H₀ σ t true):ju c env A σ (.Assert t m pos) (.next σ):=λaj ae T s S B=>
 wpAny_Assert_holds (wpAny_mono (ht _ T s S.w S.f) (λF s'⟨e,T',ex,i⟩=>by
  refine af (S.kp ex i) λu l=>?_;exact⟨e,rfl,T',u,l⟩) λ_ _ z=>z)
theorem CA{pos}:ju c env A σ (.Pass pos) (.next σ):=λaj ae T s S f=>by rw[arm_exec_Pass];exact wpAny_bind (wpAny_standAt (wpAny_pure ⟨rfl,T,S,.refl ..⟩))
theorem CB{pos}:ju c env A σ (.Continue pos) (.cont σ):=λaj ae T s S f=>by rw[arm_exec_Continue];exact wpAny_bind (wpAny_standAt (wpAny_pure ⟨rfl,T,S,.refl ..⟩))
noncomputable def AH(c:Cx)(env:Env)(A:Around)(σ:ah)(t:Expr)(x:AV)(σ':ah):Prop:=
 ∀aj ae T s v,St c aj ae env σ T s->d5 env ae.heap->VR T v x->wpAny c.M A (assign t env v) (λ_ s'=>RF c aj ae env σ' T s s') cg s
theorem pN{env:Env}{t:Expr}{ts:List Expr}(f:isStarred t=false):assignEach (t::ts) env=(false,assign t env)::assignEach ts env:=by induction t using Expr.casesOn<;>first|rfl|exact absurd f Bool.noConfusion
noncomputable def ik(c:Cx)(env:Env)(A:Around)(σ:ah)(ts:List Expr)(xs:List AV)(σ':ah):Prop:=
 ts.foldr (λt P σ xs=>∃x r gh,xs=x::r/\isStarred t=false/\AH c env A σ t x gh/\P gh r) (λσ xs=>xs=[]/\σ=σ') σ xs
theorem ik.nil{τ}:ik c env A τ [] [] τ:=⟨rfl,rfl⟩
theorem ik.cons{τ σ' H0 t ts x xs}(f:isStarred t=false)(h:AH c env A τ t x σ')(r:ik c env A σ' ts xs H0):ik c env A τ (t::ts) (x::xs) H0:=⟨_,_,_,rfl,f,h,r⟩
theorem ik.un{σ σ' t ts xs}(h:ik c env A σ (t::ts) xs σ'):∃x r f,xs=x::r/\isStarred t=false/\AH c env A σ t x f/\ik c env A f ts r σ':=h
theorem dS.le{T:TM}{s s':Shared}(x:dS env T s s'):Le T s T s':=⟨.refl T,λa ty o h1 _ f=>x.1 a ty o h1 f⟩
theorem kI{x pos y}(f:env.kindOf x=some .local\/env.kindOf x=some .cell):AH c env A σ (.Name x pos) y (aQ σ x (.fz y)):=λaj ae T s v S i r=>
 wpAny_assign_Name (gk S (i x) f r λs' u st=>⟨T,u,st.le⟩)
theorem ik.run{σ' ts}:∀{xs σ},ik c env A σ ts xs σ'->∀{aj ae T s vs},St c aj ae env σ T s->d5 env ae.heap->dx T vs xs->
 wpAny c.M A (assignInOrder ((assignEach ts env).map (·.2)) vs) (λ_ s'=>RF c aj ae env σ' T s s') cg s:=by
 induction ts with
 |nil=>intro xs σ h aj ae T s vs S f r;refine af h λi u=>?_;clear h;subst i;subst u;obtain rfl:=r.inv;exact wpAny_pure ⟨T,S,.refl ..⟩
 |cons t ts ih=>intro xs σ h aj ae T s vs S f B;rcases ik.un h with⟨x,xs,_,rfl,hs,h,r⟩;refine cP B.inv λv vs F r1 r2=>?_;subst F;rw[pN hs];show wpAny _ _ (do holding vs (assign t env v);assignInOrder ((assignEach ts env).map (·.2)) vs) _ _ _;refine wpAny_bind (wpAny_holding (wpAny_mono (h aj ae T s v S f r1) (λ_ s'⟨T',G,l⟩=>?_) λ_ _ z=>z));exact wpAny_mono (ih r G f (r2.mono l.le)) (λ_ N⟨H,I,J⟩=>⟨H,I,l.trans J⟩) λ_ _ z=>z
theorem ik.each{σ' ts}:∀{xs σ},ik c env A σ ts xs σ'->(assignEach ts env).length=xs.length/\(assignEach ts env).findIdx? (·.1)=none:=by
 induction ts with
 |nil=>exact λh=>⟨h.1▸rfl,rfl⟩
 |cons t ts ih=>intro xs σ h;refine CJ (ik.un h) λx xs _ f i h r=>?_;subst f;rw[pN i];exact⟨congrArg (· +1) (ih r).1,by simp[List.findIdx?_cons,(ih r).2]⟩
theorem qD(R:A.handled=none){ts k pos xs σ'}(h:ik c env A σ ts xs σ'):AH c env A σ (.Tuple ts k pos) (.tup xs) σ':=λaj ae T s v S i r=>by refine ab r.inv λ_ u ht=>?_;subst u;rename_i a;refine aP ((S.w.ok _ _ ht).inv) λvs n at_ items=>?_;refine wpAny_assign_Tuple R (⟨_,at_,rfl,_,rfl⟩) (h.each.1.trans (by rw[<-items.length];simp)) h.each.2 λh' hx=>?_;have f:∀b o,s.heap.get? b=some o->h'.get? b=some o:=λb o e=>hx b o (Nat.ne_of_lt (Heap.lt_size e)) e;have ex:bF c T s T {s with heap:=h'}:=bF.grown f s.toks;refine af (S.kp ex (S.w.grown f)) λB l=>?_;refine wpAny_mono (h.run B i items) (λ_ I q=>?_) λ_ _ z=>z;obtain⟨F,G,H⟩:=q;exact⟨F,G,l.trans H⟩
noncomputable def gz(e:Expr):Bool:=(vE e).comp
theorem ou{e:Expr}{t line env}(h:gz e=false):swapsWith e (some t) line env=pure false:=by induction e using Expr.casesOn<;>first|rfl|exact nomatch h
theorem gQ{e t:Expr}{line env}(h:gz e=false):swapsWithSole [t] e line env=pure false:=by exact ou h
theorem jj{α β:Type}{f:α->Option β}:∀{l:List α},(∃x∈l,f x=none)->(l.filterMap f).length≠l.length
 |[],h=>by refine ab h λx hx _=>?_;exact uH hx
 |y::l,h=>by
  have le:(l.filterMap f).length<=l.length:=List.length_filterMap_le ..;rw[List.filterMap_cons]
  induction e:f y with
  |none=>simp;lia
  |some z=>
   have:∃x∈l,f x=none:=by refine ab h λx hx q=>?_;exact(List.mem_cons.mp hx).elim (λz=>ad (q.symm.trans (z▸e))) λhx=>⟨x,hx,q⟩
   have:=jj this;simpa using this
theorem xq{env:Env}{ts vs:List Expr}{n p m q}(h:∃x∈ts,∀y,iH x=some y->env.kindOf y.1≠some .local):swappedStores [.Tuple ts n p] (.Tuple vs m q) env=pure none:=by
 have hf:∃x∈ts,(λ(e:Expr)=>match e with| .Name id pos=>if env.kindOf id==some NameKind.local&&pos.line==(Option.map (λx=>x.pos.line) ts.head?).getD 0 then some id else none|_=>none) x=none:=by
  refine ab h λx hx q=>?_;refine ag x hx ?_;induction x using Expr.casesOn<;>try rfl
  exact if_neg λz=>q _ rfl (beq_iff_eq.mp (be z).1)
 unfold swappedStores;dsimp only;by_cases h1:(!(ts.length==2||ts.length==3)||vs.length !=ts.length||env.blockKind != .function)=true
 . exact if_pos h1
 refine(if_neg h1).trans ?_;split
 . rfl
 . exact if_pos (by rw[Bool.or_eq_true];exact .inl (bne_iff_ne.mpr (jj hf)))
theorem nH{t e pos x σ'}(i:gz e=false)(hw:swappedStores [t] e env=pure none)(u:isStarred t=false)(he:∀H₀,bQ c env A H₀ σ e x)(ht:AH c env A σ t x σ'):ju c env A σ (.Assign [t] e pos) (.next σ'):=λaj ae T s S B=>by refine wpAny_Assign_stores (wpAny_mono (he _ T s S.w S.f) (λv s'⟨T',ex,F,r⟩=>?_) λ_ _ z=>z) (gQ i) hw;refine af (S.kp ex F) λG l=>?_;rw[pN u];exact wpAny_mono (ht aj ae T' s' v G B r) (λ_ N⟨H,I,J⟩=>⟨rfl,H,I,l.trans J⟩) λ_ _ z=>z
theorem fW{x p e pos xs}(i:gz e=false)(u:env.kindOf x=some .local\/env.kindOf x=some .cell)(he:∀H₀,si c env A H₀ σ e xs):ju c env A σ (.Assign [.Name x p] e pos) (.next (aQ σ x (.ol xs))):=λaj ae T s S B=>by refine wpAny_Assign_stores (wpAny_mono (he _ T s S.w S.f) (λv s'⟨T',r,vs,n,F,ex,G,h0,hn,H,hi⟩=>?_) λ_ _ z=>z) (gQ i) rfl;subst F;exact wpAny_assign_Name (la S (B x) u ex G h0 hn H hi λJ I st=>⟨rfl,T',I,(ex.xl S.w).trans st.le⟩)
theorem tT{x p e pos xs}(i:gz e=false)(u:env.kindOf x=some .local\/env.kindOf x=some .cell)(he:∀H₀,pR c env A H₀ σ e xs):ju c env A σ (.Assign [.Name x p] e pos) (.next (aQ σ x (.od xs))):=λaj ae T s S B=>by refine wpAny_Assign_stores (wpAny_mono (he _ T s S.w S.f) (λv s'⟨T',r,vs,n,F,ex,G,h0,hn,H,hi,nd⟩=>?_) λ_ _ z=>z) (gQ i) rfl;subst F;exact wpAny_assign_Name (sI S (B x) u ex G h0 hn H hi nd λJ I st=>⟨rfl,T',I,(ex.xl S.w).trans st.le⟩)
theorem GH{x p op e pos a b z}(F:env.kindOf x=some .local\/env.kindOf x=some .cell)(hx:σ.lookup x=some (.fz (.int a)))(he:∀H₀,bQ c env A H₀ σ e (.int b))(G:(op= .Add/\z=a+b)\/(op= .Sub/\z=a-b)):
 ju c env A σ (.AugAssign (.Name x p) op e pos) (.next (aQ σ x (.fz (.int z)))):=λaj ae T s S H=>by
 rw[arm_exec_AugAssign];refine wpAny_bind (wpAny_standAt (wpAny_bind (n8 S.f hx λv r=>?_)));refine(he _).hold S.w S.f λu T1 s1 I J P r1=>wpAny_bind (wpAny_standAt ?_);refine af (S.kp I J) λN l1=>?_;have g8:∀tk(i:Tok),wpAny c.M A (do standAt p;bindName env x (.int z i);pure Flow.next) (f0 c aj ae env T s (.next (aQ σ x (.fz (.int z))))) cg {s1 with toks:=tk}:=λtk i=>by refine wpAny_bind (wpAny_standAt (wpAny_bind (wpAny_bindName (gk (N.toks tk) (H x) F (.int z i) λQ O st=>?_))));exact wpAny_pure ⟨rfl,T1,O,l1.trans ⟨st.le.le,st.le.wX⟩⟩
 refine ax r.inv λt B=>?_;subst B;refine ax r1.inv λU B=>?_;subst B;refine wpAny_bind (wpAny_operate' ?_);rcases G with⟨rfl,rfl⟩|⟨rfl,rfl⟩
 . exact AutoIntOps.iadd_0 (g8 _ _)
 . exact AutoIntOps.isub_0 (g8 _ _)
end
set_option backward.match.sparseCases false
set_option tactic.hygienic false
section
variable{c:Cx}{env:Env}{A:Around}{H₀:Heap}{σ:ah}
theorem ig.Iu{T T':TM}{h h' H₀:Heap}{m ρ x ev ev' v}(V:ig c env H₀ σ T h m ρ)(hx:σ.lookup x=some ev)(N:ev.owned=true)(ns:h'.Ns env.locals m)(B:∀{z u},kE env m h z u->kE env m h' z u)(hv:kE env m h x v)(hn:ER c T' h' H₀ (ρ x) v ev')
 (O:∀z f u,(f.owned=true->ρ z≠ρ x)->ER c T h H₀ (ρ z) u f->ER c T' h' H₀ (ρ z) u f):ig c env H₀ (aQ σ x ev') T' h' m ρ:=by
 have i:∀z e,(aQ σ x ev').lookup z=some e->e.owned=true->∃F,σ.lookup z=some F/\F.owned=true:=
  b9 (λ_=>⟨ev,hx,N⟩) λz e _ H G=>⟨e,H,G⟩
 refine⟨ns,λa b e f I hb G of P=>?_,λa e I G=>?_,b9 ⟨_,B hv,hn⟩ λz f q H=>?_⟩
 . refine ab (i a e I G) λF a1 J=>?_;refine ab (i b f hb of) λQ b1 b2=>?_;exact V.inj a b F Q a1 b1 J b2 P
 . exact ab (i a e I G) λF a1 J=>V.apart a F a1 J
 . exact ab (V.val z f H) λu U W=>⟨u,B U,O z f u (λof X=>q (V.inj z x f ev H hx of N X)) W⟩
theorem kE.but{h h':Heap}{m z u d}(x:kE env m h z u)(B:Heap.SameBut d h h')(hd:∀b,env.cells.lookup z=some b->h.IsCell b (some u)->b≠d):kE env m h' z u:=
 x.imp id λ⟨F,a,f,i⟩=>⟨F,a,f,i.sameBut B (hd a f i)⟩
theorem Ns.but{h h':Heap}{a d m}(x:h.Ns a m)(f:Heap.SameBut d h h')(hd:a≠d):h'.Ns a m:=by refine ga x λo i n u z=>?_;exact rU o i n ((f.2 _ hd).trans u) z
theorem St.own{aj ae T s}{x:Str}{ev ev':EV}{m ρ}{h':Heap}{t:Nat}(S:St c aj ae env σ T s)(V:ig c env ae.heap σ T s.heap m ρ)(hx:σ.lookup x=some ev)(G:ev.owned=true)(X:ev'.owned=true)
 (hv:∀r v,ER c T s.heap ae.heap r v ev->v= .ref r/\T r=none/\ae.heap.get? r=none)(i:Heap.SameBut (ρ x) s.heap h')(hn:ER c T h' ae.heap (ρ x) (.ref (ρ x)) ev'):
 St c aj ae env (aQ σ x ev') T {s with heap:=h',toks:=t}/\Le T s T {s with heap:=h',toks:=t}:=by
 have F:=S.f;refine ab (V.val x ev hx) λv h1 h2=>?_;refine dh (hv _ _ h2) λH I J=>?_;subst H;have N:∀{a y},s.heap.IsCell a y->a≠ρ x:=λB q=>h2.kO G B q.symm;refine⟨⟨S.w.upd i I (F.jx _ J),S.e.upd i J,⟨F.kind,F.glob,F.blt,F.jx,F.loc,F.fE,λz a O=>?_,F.inj,F.own,m,ρ,V.Iu hx G (Ns.but V.ns i (V.apart x ev hx G).symm) (λP=>P.but i λ_ _=>N) h1 hn λz f u q Q=>Q.sameBut i q⟩,S.hO⟩,⟨.refl T,λb ty o q1 _ q3=>(i.2 b (λq=>ad (I.symm.trans (q▸q1)))).trans q3⟩⟩;refine dh (F.cells z a O) λH U W=>?_;refine ax H λu B=>?_;exact⟨⟨u,B.sameBut i (N B)⟩,U,W⟩
theorem wa{T h H₀ r v xs}(x:ER c T h H₀ r v (.ol xs)):v= .ref r/\T r=none/\H₀.get? r=none:=by obtain⟨e,_,_,_,lo,f,_⟩:=x.inv;exact⟨e,f,lo⟩
theorem IG{T h H₀ r v l}(x:ER c T h H₀ r v (.od l)):v= .ref r/\T r=none/\H₀.get? r=none:=by obtain⟨e,_,_,_,lo,f,_⟩:=x.inv;exact⟨e,f,lo⟩
theorem g9{aj ae T s}{x:Str}{ev:EV}{m ρ}{pos}{Q:Value->Shared->Prop}{E}(S:St c aj ae env σ T s)(V:ig c env ae.heap σ T s.heap m ρ)(hx:σ.lookup x=some ev)
 (hv:∀r v,ER c T s.heap ae.heap r v ev->v= .ref r)(hd:(x==("__debug__":Str))=false)(h:Q (.ref (ρ x)) s):wpAny c.M A (eval (.Name x pos) env) Q E s:=by
 refine ab (V.val x ev hx) λv h1 h2=>?_;obtain rfl:=hv _ _ h2;exact wpAny_Name (h1.load S.f V.ns h) hd
theorem dx.push{T:TM}{vs:Array Value}{xs:List AV}{v x}(h:dx T vs.toList xs)(r:VR T v x):dx T (vs.push v).toList (xs++[x]):=by rw[Array.toList_push];exact h.append (.cons r .nil)
theorem dx.set{T:TM}{vs:List Value}{xs:List AV}(h:dx T vs xs){v x}(r:VR T v x):∀i,dx T (vs.set i v) (xs.set i x):=by
 induction h with
 |nil=>intro i;exact .nil
 |cons h t ih=>intro i;induction i using Nat.casesAuxOn with
  |zero=>exact .cons r t
  |succ i=>exact .cons h (ih i)
theorem Fu{ae T s x xs m ρ}(V:ig c env ae σ T s m ρ)(hx:σ.lookup x=some (.ol xs)):∃n vs,s.get? (ρ x)=some (bo vs n)/\ae.get? (ρ x)=none/\T (ρ x)=none/\dx T vs.toList xs:=by refine ab (V.val x _ hx) λf h1 h2=>?_;obtain⟨_,vs,n,g⟩:=h2.inv;exact zS n vs g
theorem iC{aj ae T s x xs e y p pos ap m ρ}{o:Expr}{Q:Value->Shared->Prop}(S:St c aj ae env σ T s)(V:ig c env ae.heap σ T s.heap m ρ)(hx:σ.lookup x=some (.ol xs))(H:isStarred e=false)(he:bQ c env A ae.heap σ e y)(hl:(ap.endLine==pos.line)=true)(hz:xs.length<=1000)
 (q:∀T' s',St c aj ae env (aQ σ x (.ol (xs++[y]))) T' s'->Le T s T' s'->Q .none s'):wpAny c.M A (methodCall o "append" ap pos env (.ref (ρ x)) 1 (backTo p (starEach [e] env)) []) Q cg s:=by
 have i:dT c env A ae.heap σ [e] [y]:= .cons H he .nil;refine aP (Fu V hx) λn0 Ux at_ _=>?_;refine cy hl (by decide) (bW p i.noStar) λpl=>getMethod_builtin (T:="list") ⟨_,at_,rfl⟩ PySem.F.plainAttrs_list PySem.F.slot_list_append type_list_append (λa q=>by obtain rfl:=Value.ref.inj q;exact ag _ at_ rfl) ?_;refine cC (bW p i.noStar) (dk i S.w S.f λvs T1 s1 z I r1=>?_);refine ab r1.one λv J N=>?_;subst J;refine af (S.kp z I) λO l1=>?_;have B:=V.ext S.f z;refine wC (Fu B hx) λn1 P U u W G=>?_;refine wpAny_list_append_plain (items:=P) ⟨n1,U⟩ (λh'⟨n',X⟩ Y=>?_) (by rw[dd G,sizeLine_eq];lia);refine af (O.own (t:=s1.toks) (ev':= .ol (xs++[y])) B hx rfl rfl (λr v q=>wa q) Y (.ol X u W (G.push N))) λZ l2=>?_;exact q T1 _ Z (l1.trans l2)
theorem wy{x p ap e pos pos' xs y}(i:env.scope.kind= .function)(hx:σ.lookup x=some (.ol xs))(hd:(x==("__debug__":Str))=false)(u:isStarred e=false)(he:∀H₀,bQ c env A H₀ σ e y)(hl:(ap.endLine==pos.line)=true)(z:xs.length<=1000):
 ju c env A σ (.Expr (.Call (.Attribute (.Name x p) "append" ap) [e] [] pos) pos') (.next (aQ σ x (.ol (xs++[y])))):=λaj ae T s S F=>by
 refine wpAny_Expr_any ?_ (by unfold interactive;rw[i];rfl) (by rfl);rw[arm_eval_Call,dw rfl];refine cq S.f.vals λm ρ V=>?_;refine wpAny_bind (g9 S V hx (λr v q=>(wa q).1) hd (wpAny_bind (wpAny_standAt ?_)));exact iC S V hx u (he _) hl z λT' s' B l=>⟨rfl,T',B,l⟩
theorem hY{prog w}{E}{s:Shared}{l:Addr}{items:Array Value}{n:Nat}{k:Int}{t:Tok}{v:Value}{Q:Unit->Shared->Prop}(i:s.heap.get? l=some (bo items n))
 (h0:0<=k)(u:k<2^63)(hn:k<items.size)
 (z:∀h' f,h'.get? l=some (bo (items.setIfInBounds k.toNat v) f)->Heap.SameBut l s.heap h'->Q () {s with heap:=h'}):
 wpAny (model prog w) A (setItem (.ref l) (.int k t) v) Q E s:=by
 have hl:=bw i;unfold setItem
 try with_reducible refine wpAny_holding ?_
 first|refine wpAny_bind (wpAny_pure ?_)|skip
 refine wpAny_bind (wpAny_sequenceKey hl.typeIs (by decide) ?_);refine wpAny_bind (wpAny_callSpecial?_slot (name:=Str.ofString "__setitem__") hl.typeIs slot_list_setitem
  (wpAny_call_entry slot_list_setitem hl.typeIs entry_list_setitem ?_ (args_list_setitem _ _ _)))
 show wpAny _ _ (Builtin.List.listSubscript? (.int k t)>>=_) _ _ s;refine wpAny_bind (wpAny_listSubscript_int (fitsIndex_of h0 u) ?_);clear u;refine ax (Int.eq_ofNat_of_zero_le h0) λj G=>?_;subst G;have H:j<items.size:=by lia
 refine wpAny_bind (wpAny_bind (wpAny_seqItemAt i rfl (wpAny_pure ?_)));rw[(Array.getElem?_eq_getElem H)];obtain⟨f,B⟩:∃f,Obj.mapSeq (·.setIfInBounds j v) (bo items n)=bo (items.setIfInBounds j v) f:=⟨_,rfl⟩;have F:(s.heap.update l (Obj.mapSeq (·.setIfInBounds j v))).get? l=some (bo (items.setIfInBounds j v) f):=by rw[Heap.get?_update_self _ i (by rw[B];rfl),B]
 refine wpAny_bind (wpAny_setSeqItemAt i rfl ?_)
 first
  |exact wpAny_bind (wpAny_pure (wpAny_pure ⟨.none,rfl,wpAny_pure (z _ _ F (Heap.SameBut.update ..))⟩))
  |exact wpAny_pure ⟨.none,rfl,wpAny_pure (z _ _ F (Heap.SameBut.update ..))⟩
theorem MZ{ae T s x l m ρ}(V:ig c env ae σ T s m ρ)(hx:σ.lookup x=some (.od l)):∃n f,s.get? (ρ x)=some (aC f n)/\ae.get? (ρ x)=none/\T (ρ x)=none/\nZ T c.w.params f.toList l/\(l.map (·.1)).Nodup:=by refine ab (V.val x _ hx) λi h1 h2=>?_;obtain⟨_,f,n,g⟩:=h2.inv;exact zS n f g
theorem Bb{x p i pos xs y k}(hx:σ.lookup x=some (.ol xs))(hd:(x==("__debug__":Str))=false)(hi:∀H₀,bQ c env A H₀ σ i (.int k))(h0:0<=k)(h1:k<xs.length)(W:xs.length<=1000):
 AH c env A σ (.Subscript (.Name x p) i pos) y (aQ σ x (.ol (xs.set k.toNat y))):=λaj ae T s v S X r=>by
 rw[arm_assign_Subscript];refine cq S.f.vals λm ρ V=>?_;refine wpAny_bind (wpAny_holding (g9 S V hx (λr v q=>(wa q).1) hd ((hi _).hold S.w S.f λu T1 s1 z H Y r1=>wpAny_bind (wpAny_standAt (wpAny_bind (wpAny_holding ?_))))));refine af (S.kp z H) λI l1=>?_;have F:=V.ext S.f z;refine ax r1.inv λt J=>?_;subst J;refine wC (Fu F hx) λn1 Z N B O G=>?_;refine hY N h0 (by lia) (by rw[dd G];exact h1) λh' n' P Q=>wpAny_release ?_;refine af (I.own (t:=s1.toks) (ev':= .ol (xs.set k.toNat y)) F hx rfl rfl (λr v q=>wa q) Q (.ol P B O (by rw[Array.toList_setIfInBounds];exact G.set (r.mono z.le) _))) λU l2=>?_;exact⟨T1,U,l1.trans l2⟩
theorem Bc{x p i pos l y k}(hx:σ.lookup x=some (.od l))(hd:(x==("__debug__":Str))=false)(hi:∀H₀,bQ c env A H₀ σ i (.str k))(hz:l.length<=1000):
 AH c env A σ (.Subscript (.Name x p) i pos) y (aQ σ x (.od (bI l k y))):=λaj ae T s v S oc r=>by
 rw[arm_assign_Subscript];refine cq S.f.vals λm ρ V=>?_;refine wpAny_bind (wpAny_holding (g9 S V hx (λr v q=>(IG q).1) hd ((hi _).hold S.w S.f λu T1 s1 z G F1 r1=>wpAny_bind (wpAny_standAt (wpAny_bind (wpAny_holding ?_))))));refine af (S.kp z G) λH l1=>?_;have F:=V.ext S.f z;refine ax r1.inv λt I=>?_;subst I;refine KM (MZ F hx) λn1 es J B N O P=>?_;refine ab (fP J O P) λkvs Q hv=>?_;refine wpAny_setItem_pairs (knd:=PySem.strKind c.prog c.w) (k:=k) (kvs:=kvs) (beq_self_eq_true k) Q.dictOf (λh' U W=>wpAny_release ?_) (by rw[hv.length,sizeLine_eq];lia);refine cP (s8 U (hv.stored (r.mono z.le))) λjy n' X Y Z=>?_;refine af (H.own (t:=s1.toks+1) (ev':= .od (bI l k y)) F hx rfl rfl (λr v q=>IG q) W (.od X B N Y Z)) λS2 l2=>?_;exact⟨T1,S2,l1.trans l2⟩
end
section
variable{c:Cx}{env:Env}{A:Around}{H₀:Heap}{σ:ah}
theorem rO{x pos a C fl}(h:σ.lookup x=some (.self a C fl))(hd:(x==("__debug__":Str))=false):bQ c env A H₀ σ (.Name x pos) (.obj C fl):=λT s w F=>
 wpAny_Name (qt F h λd at_ ty lo=>⟨T,.refl ..,w,.obj ty (.inl rfl)⟩) hd
theorem IN{T:TM}{C fl m}(f:dN c T C fl m)(names:∀k x,fl.lookup k=some x->az.contains k=true)(i:bS C fl=false):m aB=none:=by
 have h:=f aB;have z:fl.lookup aB=none:=by
  induction e:fl.lookup aB with
  |none=>rfl
  |some y=>exact absurd (names _ _ e) (by decide)
 rw[z]at h
 induction q:m aB with
 |none=>rfl
 |some u=>exact absurd ((if_pos rfl▸h) u q).1 (by rw[i];decide)
theorem ER.grow{T:TM}{h h' H₀:Heap}{a d C fl eK r v ev}(x:ER c T h H₀ r v ev)(i:Heap.SameBut d h h')(le:js T (λb=>if b=a then some (.obj C eK)else T b))(ty:T a=some (.obj C fl))(own:T d=some (.bA a))(hr:ev.owned=true->r≠a):
 ER c (λb=>if b=a then some (.obj C eK)else T b) h' H₀ r v ev:=
 x.map le.vl (λ_ u _{_}=>(i.2 _ λq=>u.fix _ (q▸own)).trans) (λ_ _ f _ _=>(if_neg λq=>ad (f.symm.trans (q▸ty))).trans f) λo _ _=>(if_neg (hr o)).trans
theorem St.grow{aj ae T s}{x:Str}{a d:Addr}{C fl eK}{h':Heap}{t:Nat}{m ρ}(S:St c aj ae env σ T s)(V:ig c env ae.heap σ T s.heap m ρ)(hx:σ.lookup x=some (.self a C fl))(hr:ρ x=a)(hv:kE env m s.heap x (.ref a))(at_:s.heap.get? a=some (instObj C d))(lo:ae.heap.get? a=none)
 (ty:T a=some (.obj C fl))(own:T d=some (.bA a))(I:W c (λb=>if b=a then some (.obj C eK)else T b) h')(le:js T (λb=>if b=a then some (.obj C eK)else T b))(i:Heap.SameBut d s.heap h'):
 St c aj ae env (aQ σ x (.self a C eK)) (λb=>if b=a then some (.obj C eK)else T b) {s with heap:=h',toks:=t}/\Le T s (λb=>if b=a then some (.obj C eK)else T b) {s with heap:=h',toks:=t}:=by
 subst hr;have F:=S.f;have H:∀{b},T b=none->b≠ρ x:=λ{b} hb q=>ad (hb.symm.trans (q▸ty:T b=_));have B:∀{b},T b=none->b≠d:=λ{b} hb q=>ad (hb.symm.trans (q▸own:T b=_));refine⟨⟨I,⟨λb t e=>(if_neg λq=>?_).trans (S.e.eq _ _ e),λb o q1 q2 q3=>(i.2 b λq=>?_).trans (S.e.keep b o q1 q2 q3),λb o q1 q2 q3=>(if_neg λq=>?_).trans (S.e.cN b o q1 q2 q3),S.e.gens,S.e.os⟩,⟨F.kind,F.glob,F.blt,F.jx,(if_neg (H F.loc)).trans F.loc,F.fE,λz b hb=>?_,F.inj,F.own,m,ρ,
  V.Iu hx rfl (Ns.but V.ns i (B F.loc)) (λJ=>J.but i λb hb _=>B (F.cells _ b hb).2.1) hv (.self ((i.2 _ (λq=>gu ty own q.symm)).trans at_) lo (if_pos rfl)) λz f u q N=>N.grow i le ty own q⟩,S.hO⟩,⟨le,λb t o q1 q2 q3=>(i.2 b λq=>?_).trans q3⟩⟩
 . exact ad ((S.hO.none_of lo).symm.trans (q▸e))
 . subst q
   induction z:aj b with
   |none=>exact ad ((S.e.cN _ _ (S.w.lo _ _ own).2 q3 z).symm.trans own)
   |some t=>exact q1 _ (z.trans ((S.e.eq _ _ z).symm.trans own))
 . exact ad (lo.symm.trans (q▸q2))
 . refine dh (F.cells z b hb) λO G P=>?_;refine ax O λu Q=>?_;exact⟨⟨u,Q.sameBut i (B G)⟩,(if_neg (H G)).trans G,P⟩
 . exact q2 _ (Option.some.inj ((q▸q1:T d=_).symm.trans own))
theorem Be(O:aM c){x p attr pos Lb C fl y}(Z:iu c.K C)(hx:σ.lookup x=some (.self Lb C fl))(hd:(x==("__debug__":Str))=false)(F:bS C fl=false)(hf:fl.lookup attr=none)(G:az.contains attr=true)(H:fl.length<100):
 AH c env A σ (.Attribute (.Name x p) attr pos) y (aQ σ x (.self Lb C (fl++[(attr,y)]))):=λaj ae T s v S oc r=>by
 rw[arm_assign_Attribute];refine cq S.f.vals λm ρ V=>?_;refine ab (V.val x _ hx) λv0 h1 h2=>?_;refine wpAny_bind (wpAny_holding (g9 S V hx (λr v q=>q.inv.2.1) hd (wpAny_bind (wpAny_standAt (wpAny_bind (wpAny_holding ?_))))));obtain⟨rfl,rfl,lo,ty,d,at_⟩:=h2.inv;obtain⟨N,m',P,n,u,own,B,ns,i,names,z,_⟩:=(S.w.ok _ _ ty).inv;obtain rfl:N=d:=by rw[at_]at u;injection u with q;injection q with q1 q2;injection q2 with q2;exact q2.symm
 have I:=IN i names F;rw[I]at z;have z:P.size<=fl.length:=z;refine lg (S.w.gj O) Z (.inl G) at_ B ns (Nat.le_trans z (Nat.le_of_lt (Nat.lt_trans H (by decide)))) λh' Q n' U X Y J=>wpAny_release ?_;have Og:Q.size<=fl.length+1:=by split at Y<;>lia
 refine af (W.setField S.w ty own at_ F hf G H (by rw[I];exact Og) i names r U X J) λw' le=>?_;refine af (S.grow (t:=s.toks+2) V hx rfl h1 at_ lo ty own w' le J) λS' l=>?_;exact⟨_,S',l⟩
end
noncomputable def Mb(T T':TM):Prop:=∀a ty,T a=some ty->ty≠ .raw->T' a=some ty
theorem Mb.vl{T T':TM}(l:Mb T T'):VL T T':=VL.of λa ty e h=>⟨ty,l a ty e h,.refl _⟩
noncomputable def sZ(T:TM)(wr:List Addr):TM:=λb=>if b∈wr then none else T b
theorem sY{T:TM}{wr:List Addr}(h:∀b∈wr,T b=none\/T b=some .raw):Mb T (sZ T wr):=λa ty e q=>by exact(if_neg λf=>(h a f).elim (λz=>ad (z.symm.trans e)) λz=>q (Option.some.inj (e.symm.trans z))).trans e
theorem W.off{c T h h'}{wr:List Addr}(w:W c T h)(hw:∀b∈wr,T b=none\/T b=some .raw)(hl:∀b∈wr,c.h₀.get? b=none/\b≠c.tab)(k:∀b o,b∉wr->h.get? b=some o->h'.get? b=some o):W c (sZ T wr) h':=by
 have l:=sY hw;have le:∀{a ty},sZ T wr a=some ty->a∉wr/\T a=some ty:=λ{a ty} e=>by
  by_cases q:a∈wr
  . exact ad ((if_pos q).symm.trans e)
  . exact⟨q,(if_neg q).symm.trans e⟩
 refine⟨λb o e=>k b o (λq=>ad ((hl b q).1.symm.trans e)) (w.base b o e),λa ty e=>w.lo a ty (le e).2,λa ty e=>?_,?_⟩
 . refine af (le e) λq1 q2=>?_;exact(w.ok a ty q2).map l.vl (k _ _ q1) λown=>⟨l _ _ own nofun,k _ _ λq=>(hw _ q).elim (λz=>ad (z.symm.trans own)) λz=>by injection z.symm.trans own with z;injection z⟩
 . refine ab w.tab λps e r=>?_;exact⟨ps,k _ _ (λq=>(hl _ q).2 rfl) e,r.pW,λf e=>ab (r.lam f e) λa i u=>⟨a,i,l a _ u nofun⟩⟩
theorem W.xR{c T h h'}{wr:List Addr}(w:W c T h)(hw:∀b∈wr,T b=some .raw)(k:∀b o,b∉wr->h.get? b=some o->h'.get? b=some o)(hx:∀b∈wr,∃o,h'.get? b=some o):W c T h':=by
 refine⟨λb o e=>k b o (λq=>ad ((w.lo b _ (hw b q)).1.symm.trans e)) (w.base b o e),w.lo,λa ty e=>?_,?_⟩
 . by_cases q:a∈wr
   . obtain rfl:=Option.some.inj ((hw a q).symm.trans e);exact hx a q
   . exact(w.ok a ty e).map (λh=>h) (k _ _ q) λown=>⟨own,k _ _ λq=>by injection(hw _ q).symm.trans own with z;injection z⟩
 . refine ab w.tab λps e r=>?_;exact ag ps (k _ _ (λq=>(w.lo _ _ (hw _ q)).2 rfl) e) r
noncomputable def fo(T:TM)(fp:List Addr):TM:=λb=>if b∈fp then(match T b with|none=>some .raw|some ty=>some ty)else T b
theorem gS{T:TM}{fp}:∀a ty,T a=some ty->fo T fp a=some ty:=λa ty e=>by unfold fo;rw[e];exact ite_self _
theorem kL{T:TM}{fp}:js T (fo T fp):=λa ty e=>⟨ty,gS a ty e,.refl _⟩
theorem oG{T:TM}{fp a}(h:a∉fp):fo T fp a=T a:=by unfold fo;rw[if_neg h]
theorem oH{T:TM}{fp a}(h:a∈fp)(e:T a=none):fo T fp a=some .raw:=by unfold fo;rw[if_pos h,e]
theorem qW{T:TM}{fp a ty}(h:fo T fp a=some ty)(e:T a=none):a∈fp/\ty= .raw:=by
 unfold fo at h;rw[e]at h;by_cases q:a∈fp
 . exact⟨q,(Option.some.inj ((if_pos q).symm.trans h)).symm⟩
 . exact ad ((if_neg q).symm.trans h)
theorem W.DQ{c T h}{fp:List Addr}(w:W c T h)(hf:∀b∈fp,T b=none->(c.h₀.get? b=none/\b≠c.tab)/\∃o,h.get? b=some o):W c (fo T fp) h:=by
 refine⟨w.base,λa ty e=>?_,λa ty e=>?_,let⟨ps,e,r⟩:=w.tab;⟨ps,e,r.le kL⟩⟩
 . induction q:T a with
   |some t=>exact w.lo a t q
   |none=>exact(hf a (qW e q).1 q).1
 . induction q:T a with
   |some t=>obtain rfl:=Option.some.inj ((gS (fp:=fp) a t q).symm.trans e);exact(w.ok a t q).keeps kL (λ_ _ _ e=>e) q
   |none=>refine af (qW e q) λh1 f=>?_;subst f;refine ax ((hf a h1 q).2) λo i=>?_;exact .raw i
section
variable{c:Cx}{env:Env}{A:Around}{H₀:Heap}{σ:ah}
theorem FR.xR{T T':TM}{h h':Heap}{wr:List Addr}(F:FR c env H₀ σ T h)(hw:∀b∈wr,T b≠none/\∀C fl,T b≠some (.obj C fl))(k:∀b o,b∉wr->h.get? b=some o->h'.get? b=some o)(l:Mb T T')(hn:∀a,T a=none->h.get? a≠none->T' a=none):FR c env H₀ σ T' h':=by
 refine cq F.vals λm ρ V=>?_;have off:∀{a},T a=none->a∉wr:=λe q=>(hw _ q).1 e;refine⟨F.kind,F.glob,F.blt,F.jx,hn _ F.loc ?_,F.fE,λx a hx=>?_,F.inj,F.own,m,ρ,?_,V.inj,V.apart,λx ev hx=>?_⟩
 . exact ga (Heap.Ns.obj V.ns) λo i n e _ q=>ad (q.symm.trans e)
 . refine dh (F.cells x a hx) λz u B=>?_;refine aP z λv o f hd=>?_;exact⟨⟨v,o,k _ _ (off u) f,hd⟩,hn _ u (λq=>ad (q.symm.trans f)),B⟩
 . refine ga V.ns λo i G H I=>?_;exact rU o i G (k _ _ (off F.loc) H) I
 . refine ab (V.val x ev hx) λv h1 h2=>?_;refine ag v ?_ ?_
   . rcases h1 with h1|⟨hk,a,ha,o,f,hd⟩
     . exact .inl h1
     . exact .inr ⟨hk,a,ha,o,k _ _ (off (F.cells x a ha).2.1) f,hd⟩
   . exact h2.map l.vl (λ_ J _=>k _ _ λq=>J.elim (hw _ q).1 λ⟨_,_,e⟩=>(hw _ q).2 _ _ e) (λ_ _ N _ at_=>hn _ N λq=>ad (q.symm.trans at_)) λ_ _ _ e=>l _ _ e nofun
end
noncomputable def t6(M:Model)(A:Around)(env:Env)(Q:Unit->Shared->Prop)(E:Value->Shared->Prop):List Str->List Value->Shared->Prop
 |n::ns,v::vs,s=>wpAny M A (storeName env n v) (λ_ s'=>t6 M A env Q E ns vs s') E s
 |_,_,s=>Q () s
structure ug(c:Cx)(A:Around)(it:Value)(fp wr:List Addr)(n:Nat)(dK:Nat->Heap->Prop)(P:Nat->List Value->Prop)(tg:Expr)(names:List Str):Prop where
 sub:∀b∈wr,b∈fp
 frame:∀i h h',dK i h->(∀b∈fp,∀o,h.get? b=some o->h'.get? b=some o)->dK i h'
 ex:∀i h,dK i h->∀b∈fp,∃o,h.get? b=some o
 item:∀i(s:Shared)(env:Env)(Q:Unit->Shared->Prop)(E:Value->Shared->Prop),i<n->dK i s.heap->
  (∀vs h' tk,P i vs->dK (i+1) h'->(∀b o,b∉wr->s.heap.get? b=some o->h'.get? b=some o)->t6 c.M A env Q E names vs {s with heap:=h',toks:=tk})->
  wpAny c.M A (pyNext it) (λr aS=>∃v,r=some v/\wpAny c.M A (letOwnedTupleGo tg it v) (λ_ aZ=>wpAny c.M A (assign tg env v) Q E aZ) E aS) E s
 done:∀(s:Shared)(Q:Option Value->Shared->Prop)(E:Value->Shared->Prop),dK n s.heap->
  (∀h' tk,(∀b o,b∉wr->s.heap.get? b=some o->h'.get? b=some o)->Q none {s with heap:=h',toks:=tk})->wpAny c.M A (pyNext it) Q E s
 self:∀i(s:Shared)(Q:Value->Shared->Prop)(E:Value->Shared->Prop),dK i s.heap->Q it s->wpAny c.M A (pyIter it) Q E s
theorem ug.one{c:Cx}{A:Around}{I:Addr}{fp wr n}{P:Nat->Value->Prop}{f:Nat->Heap->Prop}{x p}(X:Walks c.prog c.w A I fp wr n P f)(hx:∀i h,f i h->∀b∈fp,∃o,h.get? b=some o):
 ug c A (.ref I) fp wr n f (λi vs=>∃v,vs=[v]/\P i v) (.Name x p) [x] where
 sub:=X.sub
 frame:=X.frame
 ex:=hx
 done:=X.done
 self:=X.self
 item:=λi s env Q E hi st h=>X.item i s _ _ hi st λv h' tk u z B=>by refine ag v rfl ?_;refine wpAny_pure (wpAny_assign_Name ?_);exact h [v] h' tk ⟨v,rfl,u⟩ z B
theorem ug.two{c:Cx}{A:Around}(O:A.handled=none){I:Addr}{fp wr n}{F:Nat->Array Value->Prop}{u:Nat->Heap->Prop}{P:Nat->Addr->Heap->Prop}{x y p q k r}(X:WalksT c.prog c.w A I fp wr n F u P)(hx:∀i h,u i h->∀b∈fp,∃o,h.get? b=some o)
 (h2:∀i f,F i f->∃B v1,f= #[B,v1]):ug c A (.ref I) fp wr n u (λi vs=>F i vs.toArray) (.Tuple [.Name x p,.Name y q] k r) [x,y] where
 sub:=X.sub
 frame:=X.frame
 ex:=hx
 done:=X.done
 self:=X.self
 item:=λi s env Q E hi st h=>X.item i s _ _ hi st λT f h' tk H _ U J W=>by refine ag (.ref T) rfl ?_;refine X.go _ _ _ i T _ _ _ J λY vR N=>?_;refine cq (h2 i f H) λB v1 Z=>?_;subst Z;refine wpAny_assign_Tuple O (U.at λo e=>N T o (X.apart i T h' J) e) rfl rfl λG SF=>?_;have up:∀b o,Y.get? b=some o->G.get? b=some o:=λb o x=>SF b o (Nat.ne_of_lt (Heap.lt_size x)) x;have Bp:u (i+1) G:=X.frame _ _ _ vR λb _ o e=>up b o e;have:=h [B,v1] G tk H Bp λb o hb e=>up b o (N b o hb (W b o hb e));show wpAny _ A (do holding [v1] (assign (.Name x p) env B);do holding [] (assign (.Name y q) env v1);pure ()) _ _ _;refine wpAny_bind (wpAny_holding (wpAny_assign_Name (wpAny_mono this (λ_ s' q=>?_) λ_ _ z=>z)));exact wpAny_bind (wpAny_holding (wpAny_assign_Name (wpAny_mono q (λ_ s' q=>wpAny_pure q) λ_ _ z=>z)))
structure uf(c:Cx)(A:Around)(T:TM)(s:Shared)(tg:Expr)(names:List Str)(rows:List (List AV))(it:Value)(aZ:Shared)(cf:TM)(fp wr:List Addr)(dK:Nat->Heap->Prop)(P:Nat->List Value->Prop):Prop where
 e:bF c T s cf aZ
 w:W c cf aZ.heap
 d:ug c A it fp wr rows.length dK P tg names
 st:dK 0 aZ.heap
 rows:∀i vs,i<rows.length->P i vs->∃row,rows[i]? =some row/\dx cf vs row
 at_:∀b∈fp,(cf b=none/\s.heap.get? b=none)\/((∃ty,cf b=some ty/\∀d,ty≠ .bA d)/\b∉wr)
inductive P5(c:Cx)(A:Around)(T:TM)(s:Shared)(tg:Expr)(names:List Str)(rows:List (List AV))(it:Value)(aZ:Shared):Prop
 |mk (cf:TM) (fp wr:List Addr) (dK:Nat->Heap->Prop) (P:Nat->List Value->Prop) (X:uf c A T s tg names rows it aZ cf fp wr dK P)
noncomputable def eT(c:Cx)(env:Env)(A:Around)(H₀:Heap)(σ:ah)(e tg:Expr)(names:List Str)(rows:List (List AV)):Prop:=
 ∀T s,W c T s.heap->FR c env H₀ σ T s.heap->wpAny c.M A (eval e env) (λx aS=>wpAny c.M A (pyIter x) (P5 c A T s tg names rows) cg aS) cg s
noncomputable def aX(σ:ah):List Str->List AV->ah
 |n::ns,x::xs=>aX (aQ σ n (.fz x)) ns xs
 |_,_=>σ
structure su(c:Cx)(A:Around)(T:TM)(s:Shared)(tg:Expr)(names:List Str)(rows:List (List AV))(it:Value)(bp:TM)(fp wr:List Addr)(dK:Nat->Heap->Prop)(P:Nat->List Value->Prop):Prop where
 d:ug c A it fp wr rows.length dK P tg names
 rows:∀i vs,i<rows.length->P i vs->∃row,rows[i]? =some row/\dx bp vs row
 fp:∀b∈fp,∃ty,bp b=some ty/\∀d,ty≠ .bA d
 wr:∀b∈wr,bp b=some .raw/\s.heap.get? b=none/\T b=none
 le:∀a ty,T a=some ty->bp a=some ty
section
variable{c:Cx}{env:Env}{A:Around}{H₀:Heap}{σ:ah}
theorem uf.go{T s tg names rows it aZ cf fp wr dK P}(X:uf c A T s tg names rows it aZ cf fp wr dK P)(w:W c T s.heap):
 su c A T s tg names rows it (fo cf fp) fp wr dK P/\W c (fo cf fp) aZ.heap/\bF c T s (fo cf fp) aZ:=by
 have fresh:∀b∈fp,cf b=none->s.heap.get? b=none:=λb hb e=>by
  rcases X.at_ b hb with h|⟨⟨ty,h,_⟩,_⟩
  . exact h.2
  . exact ad (e.symm.trans h)
 refine⟨⟨X.d,λi vs hi h=>?_,λb hb=>?_,λb hb=>?_,λa ty e=>gS _ _ (X.e.eq _ _ e)⟩,X.w.DQ λb hb e=>⟨w.free (fresh b hb e),X.d.ex 0 _ X.st b hb⟩,⟨λa ty e=>gS _ _ (X.e.eq _ _ e),X.e.keep,λa o h1 h2 f=>?_,X.e.gens,X.e.os⟩⟩
 . refine ab (X.rows i vs hi h) λrow h1 h2=>?_;exact ag row h1 (h2.mono kL)
 . rcases X.at_ b hb with h|⟨⟨ty,h,hd⟩,_⟩
   . exact ag .raw (oH hb h.1) (λd q=>by injection q)
   . exact ag ty (gS _ _ h) hd
 . rcases X.at_ b (X.d.sub b hb)with h|⟨_,h⟩
   . exact⟨oH (X.d.sub b hb) h.1,h.2,w.none_of h.2⟩
   . exact absurd hb h
 . by_cases hb:a∈fp
   . exact ad ((fresh a hb (X.e.cN a o h1 h2 f)).symm.trans h2)
   . rw[oG hb];exact X.e.cN a o h1 h2 f
theorem su.mono{T s tg names rows it bp cf fp wr dK P}(X:su c A T s tg names rows it bp fp wr dK P)(l:js bp cf)(z:∀a ty,T a=some ty->∃f,cf a=some f/\ij ty f):∀b∈fp,∃ty,cf b=some ty/\∀d,ty≠ .bA d:=λb hb=>by refine ab (X.fp b hb) λty h1 h2=>?_;refine ab (l b ty h1) λf i u=>?_;exact ag f i λd q=>h2 d (q▸u:ij ty (.bA d)).od
theorem sS{f i:TM}{b}(l:js f i)(h:f b=some .raw):i b=some .raw:=ab (l b _ h) λu z(B:u= .raw)=>B▸z
theorem xS{T:TM}{b}(h:T b=some .raw):T b≠none/\∀C fl,T b≠some (.obj C fl):=⟨λq=>ad (q.symm.trans h),λC fl q=>by injection h.symm.trans q with z;injection z⟩
theorem nf{T:TM}{wr a}(h:T a=none):sZ T wr a=none:=by unfold sZ;rw[h];exact ite_self _
theorem St.drawn{aj ae T s}{h':Heap}{tk:Nat}{wr:List Addr}(S:St c aj ae env σ T s)(hw:∀b∈wr,T b=some .raw/\ae.heap.get? b=none)(k:∀b o,b∉wr->s.heap.get? b=some o->h'.get? b=some o)(hx:∀b∈wr,∃o,h'.get? b=some o):
 St c aj ae env σ T {s with heap:=h',toks:=tk}:=
 ⟨S.w.xR (λb hb=>(hw b hb).1) k hx,⟨S.e.eq,λa o h1 h2 i=>k a o (λq=>ad ((hw a q).2.symm.trans i)) (S.e.keep a o h1 h2 i),S.e.cN,S.e.gens,S.e.os⟩,
  S.f.xR (T':=T) (λb hb=>xS (hw b hb).1) k (λ_ _ e _=>e) λ_ e _=>e,S.hO⟩
theorem St.done{aj ae T s}{h':Heap}{tk:Nat}{wr:List Addr}(S:St c aj ae env σ T s)(hw:∀b∈wr,T b=some .raw/\ae.heap.get? b=none)(k:∀b o,b∉wr->s.heap.get? b=some o->h'.get? b=some o):
 St c aj ae env σ (sZ T wr) {s with heap:=h',toks:=tk}:=by
 refine⟨S.w.off (λb hb=> .inr (hw b hb).1) (λb hb=>S.w.lo b _ (hw b hb).1) k,⟨λa ty e=>?_,λa o h1 h2 i=>k a o (λq=>ad ((hw a q).2.symm.trans i)) (S.e.keep a o h1 h2 i),λa o h1 h2 i=>?_,S.e.gens,S.e.os⟩,
  S.f.xR (λb hb=>xS (hw b hb).1) k (sY λb hb=> .inr (hw b hb).1) λa e _=>?_,S.hO⟩
 . exact(if_neg ((λa ty e q=>ad ((S.hO.none_of (hw a q).2).symm.trans e)) a ty e)).trans (S.e.eq a ty e)
 . exact nf (S.e.cN a o h1 h2 i)
 . exact nf e
theorem mj{names row}:∀{σ aj ae T s vs}{Q:Unit->Shared->Prop}{E},St c aj ae env σ T s->(∀x∈names,eo env ae.heap x/\(env.kindOf x=some .local\/env.kindOf x=some .cell))->dx T vs row->
 (∀s',St c aj ae env (aX σ names row) T s'->dS env T s s'->Q () s')->t6 c.M A env Q E names vs s:=by
 induction names generalizing row with
 |nil=>
  intro σ aj ae T s vs Q E S _ r h;have:aX σ [] row=σ:=by induction row using List.casesOn<;>rfl
  rw[this]at h;induction vs using List.casesOn<;>exact h s S (.refl ..)
 |cons n ns ih=>
  intro σ aj ae T s vs Q E S f r h
  induction row using List.casesOn with
  |nil=>obtain rfl:=r.inv;exact h s S (.refl ..)
  |cons=>refine cP r.inv λv vs i r1 r2=>?_;subst i;exact gk S (f n (.head _)).1 (f n (.head _)).2 r1 λs' u st=>ih u (λx hx=>f x (.tail _ hx)) r2 λz B F=>h z B (st.trans F)
noncomputable def Ly(c:Cx)(env:Env)(A:Around)(aj:TM)(ae:Shared)(σ:ah)(st:Stmt)(o:fX):Prop:=∀T s,St c aj ae env σ T s->wpAny c.M A (exec st env) (f0 c aj ae env T s o) cg s
noncomputable def sx(c:Cx)(env:Env)(A:Around)(aj:TM)(ae:Shared)(σ:ah)(b:List Stmt)(o:fX):Prop:=∀T s,St c aj ae env σ T s->wpAny c.M A (execs b env) (f0 c aj ae env T s o) cg s
theorem ju.f{aj ae st o}(h:ju c env A σ st o)(i:d5 env ae.heap):Ly c env A aj ae σ st o:=λT s S=>h aj ae T s S i
theorem dG.f{aj ae b o}(h:dG c env A σ b o)(i:d5 env ae.heap):sx c env A aj ae σ b o:=λT s S=>h aj ae T s S i
noncomputable def gc(B:ah->fX->Prop)(names:List Str):ah->List (List AV)->fX->Prop
 |τ,[],o=>o= .next τ
 |τ,row::rows,o=>∃o1,B (aX τ names row) o1/\match o1 with
  | .next dO=>gc B names dO rows o
  | .cont dO=>gc B names dO rows o
  | .ret x dO=>o= .ret x dO
theorem gc.imp{B f:ah->fX->Prop}{names}(h:∀σ o,B σ o->f σ o):∀{rows τ o},gc B names τ rows o->gc f names τ rows o
 |[],_,_,x=>x
 |_::_,_,_,x=>ab x λi a t=>⟨i,h _ _ a,by
  induction i with
  |ret=>exact t
  |_=>exact gc.imp h t⟩
noncomputable abbrev Lx(c:Cx)(env:Env)(A:Around)(names:List Str)(body:List Stmt):ah->List (List AV)->fX->Prop:=gc (λσ o=>dG c env A σ body o) names
noncomputable abbrev wR(c:Cx)(env:Env)(A:Around)(aj:TM)(ae:Shared)(names:List Str)(body:List Stmt):ah->List (List AV)->fX->Prop:=gc (λσ o=>sx c env A aj ae σ body o) names
theorem gc.done{B:ah->fX->Prop}{names τ}:gc B names τ [] (.next τ):=rfl
theorem gc.next{B:ah->fX->Prop}{names τ dO row rows o}(h:B (aX τ names row) (.next dO))(t:gc B names dO rows o):gc B names τ (row::rows) o:=⟨_,h,t⟩
theorem gc.cont{B:ah->fX->Prop}{names τ dO row rows o}(h:B (aX τ names row) (.cont dO))(t:gc B names dO rows o):gc B names τ (row::rows) o:=⟨_,h,t⟩
theorem gc.ret{B:ah->fX->Prop}{names τ dO row rows x}(h:B (aX τ names row) (.ret x dO)):gc B names τ (row::rows) (.ret x dO):=⟨_,h,rfl⟩
inductive P0(c:Cx)(env:Env)(aj:TM)(ae:Shared)(F:ah->List (List AV)->Prop)(rows:List (List AV))(T:TM)(s:Shared)(R:TM)(dK:Nat->Heap->Prop)(k:Nat)(s':Shared):Prop
 |mk (i:Nat) (τ:ah) (T':TM) (hk:k+i=rows.length+1) (hi:i<=rows.length) (S:St c aj ae env τ T' s') (l:Le T s T' s') (g:js R T') (st:dK i s'.heap) (f:F τ (rows.drop i))
theorem Le.upd{f i:TM}{u z B:Shared}(l:Le f u i z)(k:∀a ty o,f a=some ty->i a≠none->z.heap.get? a=some o->B.heap.get? a=some o):Le f u i B:=⟨l.le,λa ty o h1 h2 F=>by
 refine ab (l.le a ty h1) λH G _=>?_;exact k a ty o h1 (λq=>ad (q.symm.trans G)) (l.wX a ty o h1 h2 F)⟩
theorem u9{aj ae}(oc:d5 env ae.heap){tg iter body pos names rows o}(hs:∀x,foldedSetIterable iter env x=pure x)(hk:∀x∈names,env.kindOf x=some .local\/env.kindOf x=some .cell)(hi:∀H₀,eT c env A H₀ σ iter tg names rows)(hl:wR c env A aj ae names body σ rows o):
 Ly c env A aj ae σ (.For tg iter body [] pos) o:=λT s S=>by
 refine wpAny_For (wpAny_mono (hi _ T s S.w S.f) (λx aS fH=>bT (wpAny_mono fH (λit F⟨O,fp,wr,J,P,X⟩=>?_) λ_ _ z=>z)) λ_ _ z=>z) hs;refine dh (X.go S.w) λG w2 e2=>?_;refine af (S.kp e2 w2) λS2 l2=>?_;refine codeAny_forLoop_any (P0 c env aj ae (λτ l=>wR c env A aj ae names body τ l o) rows T s (fo O fp) J) ?_ (rows.length+1) ⟨0,σ,_,rfl,Nat.zero_le _,S2,l2,.refl _,X.st,hl⟩;rintro k s' ⟨i,Dm,Ti,UQ,Oy,Si,li,gi,Qn,fi⟩;have Z:∀b∈wr,Ti b=some .raw/\ae.heap.get? b=none:=λb hb=>⟨sS gi (G.wr b hb).1,S.e.fresh S.w (G.wr b hb).2.1⟩;have LZ:=G.mono gi (λa ty e=>li.le a ty e);have Q:∀{a ty},T a=some ty->a∉wr:=λe q=>ad ((G.wr _ q).2.2.symm.trans e);by_cases N:i<rows.length
 . refine wpAny_mono (G.d.item i s' env (λ_ F=>wpAny c.M A (execs body env) (λf u=>match f with
    | .next| .cont=>∃m,m<k/\P0 c env aj ae (λτ l=>wR c env A aj ae names body τ l o) rows T s (fo O fp) J m u
    | .brk=>f0 c aj ae env T s o .next u
    | .ret v=>f0 c aj ae env T s o (.ret v) u) cg F) cg N Qn λvs h' tk hP AN I=>?_) (λr aS⟨v,e,q⟩=>?_) λ_ _ z=>z.elim
   . have Sd:=Si.drawn (tk:=tk) Z I λb hb=>G.d.ex _ _ AN b (G.d.sub b hb);refine ab (G.rows i vs N hP) λrow hr hv=>?_;refine mj Sd (λx hx=>⟨oc x,hk x hx⟩) (hv.mono gi) λF Sb HD=>?_;have Mx:J (i+1) F.heap:=G.d.frame _ _ _ AN λb hb o U=>by
      refine ab (LZ b hb) λty h1 _=>?_;exact HD.1 b ty o h1 U
     have lb:Le T s Ti F:=li.upd λa ty o h1 h2 W=>by
      induction e:Ti a with
      |none=>exact absurd e h2
      |some Y=>exact HD.1 a Y o e (I a o (Q h1) W)
     obtain⟨h1,h2⟩:=List.getElem?_eq_some_iff.mp hr;rw[List.drop_eq_getElem_cons h1,h2]at fi;have A7:∀{σ':ah}{u:Shared}(T':TM),St c aj ae env σ' T' u->Le Ti F T' u->wR c env A aj ae names body σ' (rows.drop (i+1)) o->
      ∃m,m<k/\P0 c env aj ae (λτ l=>wR c env A aj ae names body τ l o) rows T s (fo O fp) J m u:=λ{σ' u} T' H B t=>by
      refine⟨rows.length-i,by lia,i+1,σ',T',by lia,N,H,lb.trans B,gi.trans B.le,G.d.frame _ _ _ Mx λb hb o U=>?_,t⟩;refine ab (LZ b hb) λty h1 h2=>?_;exact B.wX b ty o h1 h2 U
     refine ab fi λo1 h t=>?_;refine wpAny_mono (h Ti F Sb) (λf u q=>?_) λ_ _ z=>z
     induction o1 with
     |next dO=>obtain⟨rfl,T',H,B⟩:=q;exact A7 T' H B t
     |cont dO=>obtain⟨rfl,T',H,B⟩:=q;exact A7 T' H B t
     |ret x dO=>obtain⟨v,T',rfl,H,B,r⟩:=q;obtain rfl:o=_:=t;exact⟨v,T',rfl,H,lb.trans B,r⟩
   . subst e;dsimp only;exact bT (wpAny_mono q (λ_ Qm q=>wpAny_mono q (λ_ F q=>bT (wpAny_mono q (λf u q=>by induction f<;>exact q) λ_ _ z=>z)) λ_ _ z=>z.elim) λ_ _ z=>z)
 . obtain rfl:=Nat.le_antisymm Oy (Nat.not_lt.mp N);rw[List.drop_length]at fi;obtain rfl:o=_:=fi;refine G.d.done _ _ _ Qn λh' tk I=>wpAny_execs_nil ⟨rfl,_,Si.done (tk:=tk) Z I,⟨λa ty e=>?_,λa ty o h1 h2 W=>I a o (Q h1) (li.wX a ty o h1 h2 W)⟩⟩;refine ab (li.le a ty e) λY e' q=>?_;exact ag Y ((if_neg (Q e)).trans e') q
theorem GF{tg iter body pos names rows o}(u:∀x,foldedSetIterable iter env x=pure x)(z:∀x∈names,env.kindOf x=some .local\/env.kindOf x=some .cell)(hi:∀H₀,eT c env A H₀ σ iter tg names rows)(hl:Lx c env A names body σ rows o):
 ju c env A σ (.For tg iter body [] pos) o:=λaj ae T s S i=>u9 i u z hi (hl.imp λ_ _ h=>h.f i) T s S
end
theorem WalksT.items{prog:Program}{w:World}{A:Around}{K:Type}[DecidableEq K]{knd:KeyKind prog w K}(X:A.handled=none)(I d:Addr)(N:d≠I)(kvs:List (K×Value))(F:Nat):
 WalksT prog w A I [I,d] [I] kvs.length (λi z=>∃k x key,kvs[i]? =some (k,x)/\knd.is k key=true/\z= #[key,x])
  (λi h=>(∃ok f,IsItemIter h I d i kvs.length F ok f)/\h.DictAt knd d kvs F)
  (λi T h=>(∃ok f,IsItemIterOut h I d (i+1) kvs.length F ok f T)/\h.DictAt knd d kvs F/\T≠I) where
 sub:=λb hb=>by simp at hb;simp[hb]
 frame:=λi h h' st O=>by refine af st λu h2=>?_;refine cq u λok f h1=>?_;exact⟨⟨ok,f,O I (by exact List.mem_cons_self) _ h1⟩,h2.at' λo e=>O d (by exact List.mem_cons_of_mem _ List.mem_cons_self) o e⟩
 item:=λi s Q E hi st B=>by refine af st λu h2=>?_;refine cq u λok f h1=>?_;obtain⟨⟨k,x⟩,hx⟩:∃p,kvs[i]? =some p:=⟨kvs[i],by simp[hi]⟩;refine wpAny_pyNext_items_item h1 h2 hx λkey h' H G Y Z P=>?_;exact B s.heap.objs.size #[key,x] h' s.toks ⟨k,x,key,hx,H,rfl⟩ (Nat.le_refl _) ⟨_,Y,rfl,_,rfl⟩ ⟨⟨key,x,G⟩,h2.at' λo e=>P d o N e,(Nat.ne_of_gt (Heap.lt_size h1))⟩ λb o hb e=>P b o (λq=>hb (by simp[q])) e
 go:=λU k pos i T s Q E J B=>by refine dh J λu h2 _=>?_;refine cq u λok f h1=>?_;exact wpAny_letOwnedTupleGo_items h1 λh' H G=>B h' ⟨⟨ok,f,H⟩,h2.at' λo e=>G.extBut d o N e⟩ λb o hb e=>G.extBut b o (λq=>hb (by simp[q])) e
 apart:=λi T h J W=>by simp at W;exact J.2.2 W
 done:=λs Q E st B=>by refine af st λu h2=>?_;refine cq u λok f h1=>?_;exact wpAny_pyNext_items_end X h1 h2 (by simp) λh' he=>B h' s.toks λb o hb e=>he b o (λq=>hb (by simp[q])) e
 self:=λi s Q E st h=>by refine af st λu h2=>?_;refine cq u λok f h1=>?_;exact kcp_self h1 h
theorem ug.len{c A it fp wr n m dK P tg names}(D:ug c A it fp wr n dK P tg names)(h:m=n):ug c A it fp wr m dK P tg names:=by subst h;exact D
section
variable{c:Cx}{env:Env}{A:Around}{H₀:Heap}{σ:ah}
theorem dx.ix{T:TM}{vs:List Value}{xs:List AV}(h:dx T vs xs){i:Nat}{v:Value}(e:vs[i]? =some v):∃y,xs[i]? =some y/\VR T v y:=F2.get h.flip e
theorem oX{α β:Type}{f:α->β}{l:List α}{i:Nat}{x:α}(h:l[i]? =some x):(l.map f)[i]? =some (f x):=List.getElem?_map.trans (congrArg (Option.map f) h)
theorem sL{h:Heap}{a b:Addr}{f i:Obj}(h1:h.get? a=some f)(h2:h.get? b=some i):∀x∈[a,b],∃o,h.get? x=some o:=List.forall_mem_cons.mpr ⟨⟨_,h1⟩,List.forall_mem_singleton.mpr ⟨_,h2⟩⟩
theorem o7{T T1:TM}{s s1:Shared}{o:Obj}{a:Addr}{ty tg names rows n dK P}(e:bF c T s T1 s1)(w:W c T1 s1.heap)(ht:T1 a=some ty)(f:∀d,ty≠ .bA d)
 (D:ug c A (.ref s1.heap.objs.size) [s1.heap.objs.size,a] [s1.heap.objs.size] n dK P tg names)(hl:rows.length=n)(st:dK 0 (s1.heap.push o))(hr:∀i vs,i<n->P i vs->∃row,rows[i]? =some row/\dx T1 vs row):
 P5 c A T s tg names rows (.ref s1.heap.objs.size) {s1 with heap:=s1.heap.push o}:=by
 subst hl;refine ax ((w.ok _ _ ht).ex) λz u=>?_;exact⟨T1,_,_,_,_,e.trans (bF.push _),w.push _,D,st,hr,List.forall_mem_cons.mpr ⟨.inl ⟨w.none_of (aG _),e.fresh w (aG _)⟩,List.forall_mem_singleton.mpr (.inr ⟨⟨_,ht,f⟩,λq=>(Nat.ne_of_lt (Heap.lt_size u)) (List.mem_singleton.mp q)⟩)⟩⟩
theorem uT(B:A.handled=none){e x p xs}(he:bQ c env A H₀ σ e (.list xs)):eT c env A H₀ σ e (.Name x p) [x] (xs.map λy=>[y]):=λT s w F=>by refine wpAny_mono (he T s w F) (λv s1 g=>?_) λ_ _ z=>z;obtain⟨T1,G,u,r⟩:=g;refine ab r.inv λa f ht=>?_;subst f;refine aP ((u.ok _ _ ht).inv) λvs n at_ items=>?_;have hl:=bw at_;refine wpAny_pyIter_list hl (o7 G u ht nofun (ug.one (Walks.list B _ a (Nat.ne_of_lt (Heap.lt_size at_)) vs) λi h st=>by obtain⟨⟨_,h1,_⟩,_,h2,_⟩:=st;exact sL h1 h2) (by rw[List.length_map,dd items]) ⟨⟨_,Heap.get?_push_size _ rfl,rfl,rfl⟩,hl.push _⟩ λi H _ st=>?_);refine ab st λv f hv=>?_;clear st;subst f;refine ab (items.ix (Array.getElem?_toList.trans hv)) λy h1 h2=>?_;exact ag [y] (oX h1) (.cons h2 .nil)
theorem B8(O:aM c)(G:A.handled=none){e x p l}(he:bQ c env A H₀ σ e (.dict l)):eT c env A H₀ σ e (.Name x p) [x] (l.map λy=>[.str y.1]):=λT s w F=>by refine wpAny_mono (he T s w F) (λv s1 g=>?_) λ_ _ z=>z;obtain⟨T1,H,f,r⟩:=g;refine ab r.inv λa B ht=>?_;subst B;refine cP ((f.ok _ _ ht).inv) λJ n at_ items nd=>?_;refine ab (fP at_ items nd) λkvs hd hv=>?_;refine wpAny_pyIter_dict (O.iG (f.lo _ _ ht).1) hd (o7 H f ht nofun (ug.one (Walks.dictKeys (knd:=PySem.strKind c.prog c.w) G _ a (Nat.ne_of_lt (Heap.lt_size at_)) kvs n) λi h st=>by obtain⟨⟨_,h1,_⟩,_,_,h2,_⟩:=st;exact sL h1 h2) (by rw[List.length_map,hv.length]) ⟨⟨_,Heap.get?_push_size _ rfl,rfl,rfl⟩,hd.push _⟩ λi N _ st=>?_);obtain⟨v,rfl,k,u,h1,h2⟩:=st;refine ab (hv.get h1) λy I P=>?_;refine ax (Value.isStrOf_shape h2) λt B=>?_;subst B;exact ag [.str k] (oX I) (.cons (.str _ _) .nil)
theorem yX(O:aM c)(H:A.handled=none){o apos pos x y p q k r l}(hb:bk o=true)(he:bQ c env A H₀ σ o (.dict l))(hl:(apos.endLine==pos.line)=true):
 eT c env A H₀ σ (.Call (.Attribute o "items" apos) [] [] pos) (.Tuple [.Name x p,.Name y q] k r) [x,y] (l.map λz=>[.str z.1,z.2]):=λT s w F=>by
 rw[arm_eval_Call,dw hb];refine he.then w F λv T1 s1 J B X N=>wpAny_bind (wpAny_standAt ?_);refine ab N.inv λa G ht=>?_;subst G;refine cP ((B.ok _ _ ht).inv) λY n at_ items nd=>?_;refine ab (fP at_ items nd) λkvs hd hv=>?_;refine cy hl (by decide) (by rfl) λZ=>getMethod_builtin hd.dictOf.typeIs PySem.F.plainAttrs_dict PySem.F.slot_dict_items PySem.F.type_dict_items hd.dictOf.mapOf.noDict ?_;refine cC (by rfl) (evalArgs_nil3 (call_meetsIn PySem.F.slot_dict_items hd.dictOf.typeIs PySem.F.entry_dict_items (PySem.F.args_dict_items_1 _) (meets_dict_items (PySem.strKind c.prog c.w) a (O.iG (B.lo _ _ ht).1)) ⟨⟨kvs,hd.dictOf⟩,?_⟩));have f:=hd.push {cls:= .type "dict_items",data:= .fields #[.ref a]};refine wpAny_pyIter_items (s:={s1 with heap:=s1.heap.push {cls:= .type "dict_items",data:= .fields #[.ref a]}}) ⟨_,Heap.get?_push_size _ rfl,rfl,rfl⟩ f (o7 (J.trans (bF.push _)) (B.push _) ht nofun (ug.two H (WalksT.items (knd:=PySem.strKind c.prog c.w) H _ a (Nat.ne_of_lt (Heap.lt_size (Heap.get?_push_of_some _ at_))) kvs n) (λi h st=>by obtain⟨⟨_,_,h1⟩,_,_,h2,_⟩:=st;exact sL h1 h2) λi I st=>by refine rT st λk x key _ _ h=>?_;exact zS key x h) (by rw[List.length_map,hv.length]) ⟨⟨_,_,Heap.get?_push_size _ rfl⟩,f.push _⟩ λi P _ st=>?_);refine rT st λk u key h1 h2 Q=>?_;refine ab (hv.get h1) λz U W=>?_;refine ax (Value.isStrOf_shape h2) λt G=>?_;subst G;obtain rfl:P=[.str k t,u]:=congrArg Array.toList Q;exact ag [.str k,z] (oX U) (.cons (.str _ _) (.cons W .nil))
theorem qX{n:Int}(h0:0<=n):Builtin.Range.rangeSize 0 n 1=n:=by
 unfold Builtin.Range.rangeSize;split
 . split
   . rw[Int.ediv_one];lia
   . lia
 . lia
theorem xT{n:Int}(h0:0<=n)(f:n<=1000):Builtin.Range.small 0 n 1=true:=by unfold Builtin.Range.small;rw[qX h0];simp[Builtin.Range.rangeFitsLong];lia
theorem yW(I:A.handled=none){id p0 e pos x p n}(hn:kq c env A H₀ σ (.Name id p0) (.type "range"))(B:isStarred e=false)(he:bQ c env A H₀ σ e (.int n))(h0:0<=n)(J:n<=1000):
 eT c env A H₀ σ (.Call (.Name id p0) [e] [] pos) (.Name x p) [x] ((List.range n.toNat).map λ(i:Nat)=>[.int i]):=λT s w F=>by
 rw[arm_eval_Call_Name'];refine wpAny_bind (wpAny_mono (hn T s w F) (λv s' g=>?_) λ_ _ z=>z);refine af g λN f=>?_;clear g;subst N;subst f;refine PyProof.Rows.callWith_type (by rw[aA B];rfl) ?_;rw[aA B];refine evalArgs_plain (spliced_cons (wpAny_mono (he T _ w F) (λv s1⟨T1,O,P,r1⟩=>?_) λ_ _ z=>z.elim));refine ax r1.inv λt f=>?_;subst f;refine spliced_nil (call_range_1 (wpAny_pyIter_range (IsRange.new ..) (xT h0 J) ?_));rw[(qX h0)];generalize Tj:s1.heap.push {cls:= .type "range",data:= .fields #[.int 0 s1.toks,.int n t,.int 1 (s1.toks+1)]}=h2;have G:∀b o,s1.heap.get? b=some o->h2.get? b=some o:=λb o e=>by rw[<-Tj];exact Heap.get?_push_of_some _ e
 have u:=P.grown G;have H:=O.trans (bF.grown G (s1.toks+1+1));refine ax (Int.eq_ofNat_of_zero_le h0) λm f=>?_;subst f;refine⟨T1,_,_,_,_,H.trans (bF.push _),u.push _,(ug.one (Walks.range (prog:=c.prog) (w:=c.w) I h2.objs.size 0 1 m) λi h st=>List.forall_mem_singleton.mpr ⟨_,st⟩).len (by rw[List.length_map,List.length_range];rfl),?_,?_,List.forall_mem_singleton.mpr (.inl ⟨u.none_of (aG _),H.fresh u (aG _)⟩)⟩
 . rw[show((m:Int)-((0:Nat):Int))=m from Int.sub_zero _];exact Heap.get?_push_size _ rfl
 . rintro i AL hi ⟨v,rfl,t',rfl⟩;rw[List.length_map,List.length_range]at hi;refine ag [.int i] (oX (List.getElem?_range hi)) (.cons ?_ .nil);rw[Int.mul_one,Int.zero_add];exact .int _ _
end
section
variable{c:Cx}{env:Env}{A:Around}{H₀:Heap}{σ:ah}
noncomputable def qs(xs ys:List AV):List (List AV):=xs.zipWith (λx y=>[x,y]) ys
theorem qr(xs ys):(qs xs ys).length=min xs.length ys.length:=List.length_zipWith
theorem xb{xs ys:List AV}{i:Nat}{x y:AV}(h1:xs[i]? =some x)(h2:ys[i]? =some y):(qs xs ys)[i]? =some [x,y]:=List.getElem?_zipWith.trans (by rw[h1,h2])
theorem Ex{N l1 l2:Nat}(h1:l1<N)(h2:l2<N):ZipApart (N+4) (N+2) (N+3) N (N+1) l1 l2:=
 have n:∀a b,Nat.beq a b=false->N+a≠N+b:=λa b h e=>Nat.ne_of_beq_eq_false h (Nat.add_left_cancel e);have l:∀a{x},x<N->x≠N+a:=λa _ h=>Nat.ne_of_lt (Nat.lt_of_lt_of_le h (Nat.le_add_right N a))
 ⟨n 2 4 rfl,n 3 4 rfl,n 0 4 rfl,n 1 4 rfl,n 2 3 rfl,n 2 0 rfl,n 2 1 rfl,n 3 0 rfl,n 3 1 rfl,n 0 1 rfl,l 4 h1,l 3 h1,l 0 h1,l 1 h1,l 4 h2,l 3 h2,l 0 h2,l 1 h2⟩
theorem PU{P:Nat->Prop}{N l1 l2:Nat}(h:∀a,P (N+a))(h1:P l1)(h2:P l2):∀b∈[N+4,N+2,N+3,N,N+1,l1,l2],P b:=fm (h 4) (fm (h 2) (fm (h 3) (fm (h 0) (fm (h 1) (fm h1 (fm h2 HS))))))
theorem uh{N l:Nat}(h:l<N):l∉[N+4,N+3,N,N+1]:=λhb=>
 have n:∀a,l≠N+a:=λa=>Nat.ne_of_lt (Nat.lt_of_lt_of_le h (Nat.le_add_right N a))
 fm (P:=λx=>l≠x) (n 4) (fm (n 3) (fm (n 0) (fm (n 1) HS))) l hb rfl
theorem Ew(N:A.handled=none){T F:TM}{s f:Shared}{l1 l2:Addr}{xs ys x y p q k r}(e:bF c T s F f)(w:W c F f.heap)(h1:F l1=some (.list xs))(h2:F l2=some (.list ys)):
 wpAny c.M A (call (.type "zip") [.ref l1,.ref l2]) (λz X=>wpAny c.M A (pyIter z) (P5 c A T s (.Tuple [.Name x p,.Name y q] k r) [x,y] (qs xs ys)) cg X) cg f:=by
 refine aP ((w.ok _ _ h1).inv) λY n1 H O=>?_;refine aP ((w.ok _ _ h2).inv) λZ n2 B i2=>?_;have LI:=Heap.lt_size H;have LH:=Heap.lt_size B;refine call_zip_2 (bw H) (bw B) λh' Q g2 g3 g4 g5 g6 G=>wpAny_pyIter_zip Q ?_;have fr:∀a,F (f.heap.objs.size+a)=none/\s.heap.get? (f.heap.objs.size+a)=none:=λa=>
  have z:f.heap.get? (f.heap.objs.size+a)=none:=by
   induction e:f.heap.get? (f.heap.objs.size+a)with
   |none=>rfl
   |some o=>exact absurd (Heap.lt_size e) (Nat.not_lt.mpr (Nat.le_add_right ..))
  ⟨w.none_of z,e.fresh w z⟩
 refine⟨F,_,_,_,_,e.trans (bF.grown G f.toks),w.grown G,(ug.two N (WalksT.zip2 N _ _ _ _ _ l1 l2 (Ex LI LH) Y Z) (λi h st=>?_) λi U st=>by refine cP st λx y _ _ h=>?_;exact zS x y h).len (by rw[qr,dd O,dd i2]),?_,?_,PU (λa=> .inl (fr a)) (.inr ⟨⟨_,h1,λd q=>nomatch q⟩,uh LI⟩) (.inr ⟨⟨_,h2,λd q=>nomatch q⟩,uh LH⟩)⟩
 . obtain⟨a1,I,⟨_,_,J⟩,⟨_,a4,_⟩,⟨_,a5,_⟩,⟨_,a6,_⟩,_,a7,_⟩:=st;exact fm (P:=λb=>∃o,h.get? b=some o) ⟨_,a1⟩ (fm ⟨_,I⟩ (fm ⟨_,J⟩ (fm ⟨_,a4⟩ (fm ⟨_,a5⟩ (fm ⟨_,a6⟩ (fm ⟨_,a7⟩ HS))))))
 . exact⟨Q,g2,⟨_,_,g3⟩,g4,g5,(bw H).at λo e=>G _ o e,(bw B).at λo e=>G _ o e⟩
 . rintro i AL hi ⟨u,v,a1,I,J⟩;obtain rfl:AL=[u,v]:=congrArg Array.toList J;refine ab (O.ix (Array.getElem?_toList.trans a1)) λy1 b1 b2=>?_;refine ab (i2.ix (Array.getElem?_toList.trans I)) λy2 c1 c2=>?_;exact ag [y1,y2] (xb b1 c1) (.cons b2 (.cons c2 .nil))
theorem F8(H:A.handled=none){id p0 e1 e2 pos x y p q k r xs ys}(hn:kq c env A H₀ σ (.Name id p0) (.type "zip"))(i:isStarred e1=false)(u:isStarred e2=false)(I:bQ c env A H₀ σ e1 (.list xs))(J:bQ c env A H₀ σ e2 (.list ys)):
 eT c env A H₀ σ (.Call (.Name id p0) [e1,e2] [] pos) (.Tuple [.Name x p,.Name y q] k r) [x,y] (qs xs ys):=λT s w F=>by
 rw[arm_eval_Call_Name'];refine wpAny_bind (wpAny_mono (hn T s w F) (λv s' g=>?_) λ_ _ z=>z);refine af g λN f=>?_;clear g;subst N;subst f;refine PyProof.Rows.callWith_type (by rw[aA i,aA u];rfl) ?_;rw[aA i,aA u];refine evalArgs_plain (spliced_cons (wpAny_mono (I T _ w F) (λv1 s1⟨T1,B,O,r1⟩=>?_) λ_ _ z=>z.elim));refine spliced_cons (wpAny_mono (J T1 _ O (F.ext B)) (λQ U⟨W,G,P,r2⟩=>?_) λ_ _ z=>z.elim);refine ab ((r1.mono G.le).inv) λl1 f h1=>?_;subst f;refine ab r2.inv λl2 f h2=>?_;subst f;exact spliced_nil (Ew H (B.trans G) P h1 h2)
end
set_option tactic.hygienic true
set_option backward.match.sparseCases true
noncomputable def me(e:Expr)(acc:Value)(env:Env):Sem Unit:=match e with
 | .ListComp elt _ _ _=>do let _<-call (.builtin "list.append") [acc,<-eval elt env]
 | .DictComp k v _ _ _=>do
  let kv<-eval k env;let vv<-holding [kv] (eval v env)
  match acc with
  | .ref d=>do
    standAt {k.pos with endLine:=v.pos.endLine,endCol:=v.pos.endCol}
    holding [kv,vv] (dictSet d kv vv)
  |_=>unsupported "internal:dictcomp"
 |_=>unsupported ""
noncomputable def o9:Expr->Bool
 | .ListComp .. =>true
 | .DictComp .. =>true
 |_=>false
theorem lO{P:Expr->Prop}{e:Expr}(he:o9 e=true)(l:∀a b c d,P (.ListComp a b c d))(k:∀a b c d f,P (.DictComp a b c d f)):P e:=by induction e using Expr.casesOn<;>first|exact l .. |exact k .. |exact absurd he Bool.false_ne_true
theorem rX{e z f:Expr}{i:List Expr}{d:Nat}{B acc:Value}{env:Env}(he:o9 e=true)(u:(clausesOf e)[d]? =some ⟨z,f,i,0⟩):compTurn e d B acc env=(do
 standAt f.pos
 match<-pyNext B with
 |none=>pure (.done .next)
 |some v=>
  letOwnedTupleGo z B v
  assign z env v
  let mut ok:=true
  for c in i do
   if ok then ok<-isTrue c env (eval c env)
  if ok then
   match(clausesOf e)[d+1]? with
   |some g'=>
    let x<-eval g'.iter env
    standAt g'.iter.pos
    let x<-if g'.is_async !=0 then foldedIterable g'.iter x else foldedSetIterable g'.iter env x
    let _<-runOwn (.compStart e (d+1) (<-holding [x] (if g'.is_async !=0 then asyncIter x else pyIter x)) acc env) env
   |none=>me e acc env
  again (.compLoop e d B acc env)):=by
 revert u;apply lO he
 . intro _ g _ _ u;have u:g[d]? =some ⟨z,f,i,0⟩:=u;unfold compTurn;dsimp only;rw[u];rfl
 . intro _ _ g _ _ u;have u:g[d]? =some ⟨z,f,i,0⟩:=u;unfold compTurn;dsimp only;rw[u];rfl
section
variable{c:Cx}{env:Env}{A:Around}{H₀:Heap}{σ:ah}
noncomputable def ot(ifs:List Expr)(env:Env):Sem Bool:=forIn ifs true λc r=>if r=true then do let ok<-isTrue c env (eval c env);pure (ForInStep.yield ok)else pure (ForInStep.yield r)
theorem rV{e:Expr}{d:Nat}{f acc:Value}(he:o9 e=true):A.under (.compLoop e d f acc env)=A/\c.M.den (.compLoop e d f acc env)=(compTurn e d f acc env).onRaise (λx=>do noteFrame x env;theTreesLotGoes x):=by apply lO he<;>intros<;>exact ⟨rfl,rfl⟩
theorem nM{e:Expr}{d:Nat}{f acc:Value}(he:o9 e=true):A.under (.compStart e d f acc env)=A/\c.M.den (.compStart e d f acc env)=(compStart e d f acc env).onRaise (λx=>do noteFrame x env;standAt theWindowsPlace):=by apply lO he<;>intros<;>exact ⟨rfl,rfl⟩
theorem ir{e J B:Expr}{F:List Expr}{d:Nat}{u acc:Value}{s:Shared}{R:Result->Shared->Prop}(he:o9 e=true)(Z:(clausesOf e)[d]? =some ⟨J,B,F,0⟩)
 (h:wpAny c.M A (pyNext u) (λr N=>match r with
  |none=>R (.ok .next) N
  |some v=>wpAny c.M A (letOwnedTupleGo J u v) (λ_ P=>wpAny c.M A (assign J env v) (λ_ Q=>wpAny c.M A (ot F env) (λok I=>
   if ok=true then(match(clausesOf e)[d+1]? with
    |some G=>G.is_async=0/\(∀x,foldedSetIterable G.iter env x=pure x)/\wpAny c.M A (eval G.iter env) (λx H=>wpAny c.M A (pyIter x) (λU W=>codeAny c.M A (.compStart e (d+1) U acc env) (λr X=>(∃f,r= .ok f)/\codeAny c.M A (.compLoop e d u acc env) R X) W) cg H) cg I
    |none=>wpAny c.M A (me e acc env) (λ_ H=>codeAny c.M A (.compLoop e d u acc env) R H) cg I)
   else codeAny c.M A (.compLoop e d u acc env) R I) cg Q) cg P) cg N) cg s):
 codeAny c.M A (.compLoop e d u acc env) R s:=by
 refine codeAny_of_tree ?_;rw[(rV (c:=c) (A:=A) he).1,(rV (c:=c) (A:=A) he).2];refine wpAny_noted ?_;rw[rX he Z];refine wpAny_bind (wpAny_standAt (wpAny_bind (bT (wpAny_mono h (λr N Y=>?_) λ_ _ z=>z))))
 induction r with
 |none=>exact wpAny_pure Y
 |some v=>
  refine wpAny_bind (bT (wpAny_mono Y (λ_ P N9=>?_) λ_ _ z=>z));refine wpAny_bind (bT (wpAny_mono N9 (λ_ Q N8=>?_) λ_ _ z=>z));refine wpAny_bind (bT (wpAny_mono N8 (λok I i=>?_) λ_ _ z=>z))
  induction ok with
  |false=>exact wpAny_pure ⟨rfl,i⟩
  |true=>
   simp only[if_true]at i⊢;split at i
   . rename_i G Gh;refine dh i λha hf i=>?_;have hb:(G.is_async !=0)=false:=by rw[ha];rfl
     simp only[hb,Bool.false_eq_true,if_false];refine wpAny_bind (bT (wpAny_mono i (λx H O=>?_) λ_ _ z=>z));refine wpAny_bind (wpAny_standAt (wpAny_bind (wpAny_of_eq (hf x) (wpAny_bind (wpAny_holding (bT (wpAny_mono O (λU W N7=>?_) λ_ _ z=>z)))))));refine wpAny_bind (wpAny_runOwn (codeAny_mono N7 λr X q=>?_));obtain⟨⟨f,rfl⟩,q⟩:=q;exact wpAny_pure ⟨rfl,q⟩
   . rename_i Gh;exact wpAny_bind (bT (wpAny_mono i (λ_ H O=>wpAny_pure ⟨rfl,O⟩) λ_ _ z=>z))
theorem gJ{e B f:Expr}{i:List Expr}{d:Nat}{u acc:Value}{s:Shared}{R:Result->Shared->Prop}(he:o9 e=true)(F:(clausesOf e)[d]? =some ⟨B,f,i,0⟩)
 (h0:codeAny c.M A (.compLoop e d u acc env) R s)(h:wpAny c.M A (pyIter u) (λz s'=>codeAny c.M A (.compLoop e d z acc env) R s') cg s):
 codeAny c.M A (.compStart e d u acc env) R s:=by
 refine codeAny_of_tree ?_;rw[(nM (c:=c) (A:=A) he).1,(nM (c:=c) (A:=A) he).2];refine wpAny_notedAt ?_;unfold compStart;rw[F];show wpAny _ A (ask>>=_) _ _ s;refine wpAny_bind (wpAny_askSetting (wpAny_ite (Jl (λ_=>?_) λ_=>?_)))
 . first
    |exact wpAny_bind (wpAny_pure (wpAny_pure (And.intro rfl h0)))
    |exact wpAny_pure (And.intro rfl h0)
 . refine wpAny_bind (wpAny_rule ?_)
   first
    |exact wpAny_bind (wpAny_standAt (wpAny_bind (bT (wpAny_mono h (λz s' h'=>wpAny_pure (And.intro rfl h')) λ_ _ x=>x))))
    |(show wpAny _ _ (standAt f.pos>>=_) _ _ s;exact wpAny_bind (wpAny_standAt (wpAny_bind (bT (wpAny_mono h (λz s' h'=>wpAny_pure (And.intro rfl h')) λ_ _ x=>x)))))
end
set_option backward.match.sparseCases false
set_option tactic.hygienic false
inductive Acc where
 |l(xs:List AV)
 |d(l:List (Str×AV))
noncomputable def AccAt(c:Cx)(T:TM)(h:Heap)(D:Addr):Acc->Prop
 | .l xs=>∃vs n,h.get? D=some (bo vs n)/\dx T vs.toList xs
 | .d l=>∃es n,h.get? D=some (aC es n)/\nZ T c.w.params es.toList l/\(l.map (·.1)).Nodup
structure iw(c:Cx)(env:Env)(ae:Shared)(T:TM)(s:Shared)(D:Addr)(a:Acc):Prop where
 at_:AccAt c T s.heap D a
 cN:T D=none
 lo:ae.heap.get? D=none
 nl:D≠env.locals
 nc:∀x,env.cells.lookup x≠some D
theorem AccAt.ex{c T h D a}(x:AccAt c T h D a):∃o,h.get? D=some o:=by
 induction a with
 |l=>refine aP x λvs n e _=>?_;exact⟨_,e⟩
 |d=>refine aP x λvs n e _=>?_;exact⟨_,e⟩
theorem AccAt.lift{c T T' h h' D a}(x:AccAt c T h D a)(k:∀{o},h.get? D=some o->h'.get? D=some o)(l:VL T T'):AccAt c T' h' D a:=by
 induction a with
 |l=>exact aP x λ_ _ e i=>⟨_,_,k e,i.lift l⟩
 |d=>exact cP x λ_ _ e i nd=>⟨_,_,k e,i.lift l,nd⟩
noncomputable def aJ:Expr->List Str
 | .Name x _=>[x]
 | .Tuple [.Name x _,.Name y _] _ _=>[x,y]
 |_=>[]
noncomputable def jw(σ:ah):Prop:=∀x e,σ.lookup x=some e->e.owned=false
theorem jw.bind:∀{ns row σ},jw σ->jw (aX σ ns row)
 |[],_,_,h=>h
 |n::ns,[],_,h=>h
 |n::ns,x::xs,σ,h=>jw.bind (ns:=ns) (b9 (P:=λ_ e=>e.owned=false) rfl λy e _ hy=>h y e hy)
section
variable{c:Cx}{env:Env}{A:Around}{H₀:Heap}{σ:ah}
theorem iw.ext{ae T s T' s' D a}(x:iw c env ae T s D a)(f:∀a,ae.heap.get? a=none->c.h₀.get? a=none/\a≠c.tab)(e:bF c T s T' s'):iw c env ae T' s' D a:=
 have⟨o,ho⟩:=x.at_.ex
 ⟨x.at_.lift (e.np _ _ x.cN (f _ x.lo).2) e.le.vl,e.cN _ o (f _ x.lo).2 ho x.cN,x.lo,x.nl,x.nc⟩
inductive nY(c:Cx)(env:Env)(A:Around)(σ:ah):Expr->Acc->Acc->Prop
 |list {elt gens scope pos xs x} (h:∀H₀,bQ c env A H₀ σ elt x) (hz:xs.length<=1000):nY c env A σ (.ListComp elt gens scope pos) (.l xs) (.l (xs++[x]))
 |dict {k v gens scope pos l kx x} (hk:∀H₀,bQ c env A H₀ σ k (.str kx)) (hv:∀H₀,bQ c env A H₀ σ v x) (hz:l.length<=1000):nY c env A σ (.DictComp k v gens scope pos) (.d l) (.d (bI l kx x))
noncomputable def mV(c:Cx)(env:Env)(A:Around)(σ:ah)(ts:List Expr)(b:Bool):Prop:=(ts=[]/\b=true)\/∃t,ts=[t]/\∀H₀,iU c env A H₀ σ t b
theorem mV.nil:mV c env A σ [] true:= .inl ⟨rfl,rfl⟩
theorem mV.one{t b}(h:∀H₀,iU c env A H₀ σ t b):mV c env A σ [t] b:= .inr ⟨_,rfl,h⟩
class inductive dy(c:Cx)(env:Env)(A:Around)(e:Expr):Nat->ah->List (List AV)->Acc->ah->Acc->Prop
 |done {d τ a}:dy c env A e d τ [] a τ a
 |skip {d τ row rows a dO a' g} (hg:(clausesOf e)[d]? =some g) (ht:mV c env A (aX τ (aJ g.target) row) g.ifs false) (t:dy c env A e d (aX τ (aJ g.target) row) rows a dO a'):
  dy c env A e d τ (row::rows) a dO a'
 |emit {d τ row rows a a1 dO a' g} (hg:(clausesOf e)[d]? =some g) (ht:mV c env A (aX τ (aJ g.target) row) g.ifs true) (hn:(clausesOf e)[d+1]? =none) (he:nY c env A (aX τ (aJ g.target) row) e a a1)
  (t:dy c env A e d (aX τ (aJ g.target) row) rows a1 dO a'):dy c env A e d τ (row::rows) a dO a'
 |nest {d τ row rows qU a a1 Qc dO a' g Do lL Gb} (hg:(clausesOf e)[d]? =some g) (ht:mV c env A (aX τ (aJ g.target) row) g.ifs true) (hn:(clausesOf e)[d+1]? =some ⟨Do,lL,Gb,0⟩)
  (hf:∀x,foldedSetIterable lL env x=pure x) (hk:∀x∈aJ Do,env.kindOf x=some .local) (hi:∀H₀,eT c env A H₀ (aX τ (aJ g.target) row) lL Do (aJ Do) qU)
  (inner:dy c env A e (d+1) (aX τ (aJ g.target) row) qU a Qc a1) (t:dy c env A e d Qc rows a1 dO a'):dy c env A e d τ (row::rows) a dO a'
theorem mV.run{ifs b}(h:mV c env A σ ifs b){T s}(w:W c T s.heap)(F:FR c env H₀ σ T s.heap):wpAny c.M A (ot ifs env) (AG c T s b) cg s:=by
 rcases h with⟨rfl,rfl⟩|⟨_,rfl,h⟩
 . exact wpAny_tests_nil ⟨rfl,T,.refl ..,w⟩
 . exact wpAny_tests_one (h H₀ T s w F)
theorem St.foreign{aj ae T s D}{h':Heap}{t:Nat}(S:St c aj ae env σ T s)(fz:jw σ)(z:T D=none)(h0:ae.heap.get? D=none)(hl:D≠env.locals)(B:∀x,env.cells.lookup x≠some D)(i:Heap.SameBut D s.heap h'):
 St c aj ae env σ T {s with heap:=h',toks:=t}/\Le T s T {s with heap:=h',toks:=t}:=by
 have F:=S.f;refine cq F.vals λm ρ V=>?_;refine⟨⟨S.w.upd i z (F.jx _ h0),S.e.upd i h0,⟨F.kind,F.glob,F.blt,F.jx,F.loc,F.fE,λx a hx=>?_,F.inj,F.own,m,ρ,?_,V.inj,V.apart,λx ev hx=>?_⟩,S.hO⟩,⟨.refl T,λb ty o q1 _ q3=>(i.2 b (λq=>ad (z.symm.trans (q▸q1)))).trans q3⟩⟩
 . refine dh (F.cells x a hx) λH I J=>?_;refine ax H λv u=>?_;exact⟨⟨v,u.sameBut i λq=>B x (q▸hx)⟩,I,J⟩
 . refine ga V.ns λo N n O P=>?_;exact rU o N n ((i.2 _ (Ne.symm hl)).trans O) P
 . refine ab (V.val x ev hx) λv h1 h2=>?_;exact ag v (h1.imp id λ⟨Q,a,G,u⟩=>⟨Q,a,G,u.sameBut i λq=>B x (q▸G)⟩) (h2.sameBut i λq=>absurd ((fz x ev hx).symm.trans q) Bool.false_ne_true)
theorem nY.run{e a a1 aj ae T s D}(he:nY c env A σ e a a1)(S:St c aj ae env σ T s)(fz:jw σ)(X:iw c env ae T s D a):
 wpAny c.M A (me e (.ref D) env) (λ_ s'=>∃T',St c aj ae env σ T' s'/\Le T s T' s'/\iw c env ae T' s' D a1) cg s:=by
 induction he with
 | @list elt gens scope pos xs x h hz=>refine(h _).then S.w S.f λv T1 s1 B F P r1=>?_;refine af (S.kp B F) λG l1=>?_;have i:=X.ext S.f.jx B;refine aP i.at_ λvs n H hi=>?_;refine wpAny_bind (wpAny_list_append_plain (items:=vs) ⟨n,H⟩ (λh'⟨I,Y⟩ J=>?_) (by rw[dd hi,sizeLine_eq];lia));refine af (G.foreign (t:=s1.toks) fz i.cN i.lo i.nl i.nc J) λN l2=>?_;exact wpAny_pure ⟨T1,N,l1.trans l2,⟨⟨_,I,Y,hi.push r1⟩,i.cN,i.lo,i.nl,i.nc⟩⟩
 | @dict k v gens scope pos l kx x hk hv hz=>
   show wpAny _ _ (do
    let O<-eval k env;let Q<-holding [O] (eval v env)
    standAt {k.pos with endLine:=v.pos.endLine,endCol:=v.pos.endCol}
    holding [O,Q] (dictSet D O Q)) _ _ _
   refine(hk _).then S.w S.f λu T1 s1 B F P r1=>?_;refine af (S.kp B F) λG l1=>?_;refine(hv _).hold F P λu2 Z s2 U w2 F2 r2=>wpAny_bind (wpAny_standAt (wpAny_holding ?_));refine af (G.kp U w2) λN l2=>?_;have z:=(X.ext S.f.jx B).ext S.f.jx U;refine cP z.at_ λes n H hi nd=>?_;refine ax r1.inv λt aK=>?_;subst aK;refine ab (fP H hi nd) λkvs JT W=>?_;refine wpAny_dictSet_pairs (knd:=PySem.strKind c.prog c.w) (k:=kx) (kvs:=kvs) (beq_self_eq_true kx) JT.dictOf (λh' zg J=>?_) (by rw[W.length,sizeLine_eq];lia);refine cP (s8 zg (W.stored r2)) λjy I g1 g2 g3=>?_;refine af (N.foreign (t:=s2.toks+1) fz z.cN z.lo z.nl z.nc J) λS3 l3=>?_;exact dA Z S3 ((l1.trans l2).trans l3) ⟨⟨jy,I,g1,g2,g3⟩,z.cN,z.lo,z.nl,z.nc⟩
theorem iP{e tg iter ifs d it fp wr dK P aj ae T s Tb sb bp rows0 i D a row rows τ}{R:Result->Shared->Prop}(he:o9 e=true)(hg:(clausesOf e)[d]? =some ⟨tg,iter,ifs,0⟩)
 (G:su c A Tb sb tg (aJ tg) rows0 it bp fp wr dK P)(hr:rows0.drop i=row::rows)(S:St c aj ae env τ T s)(l:Le Tb sb T s)(g:js bp T)(st:dK i s.heap)(X:iw c env ae T s D a)
 (hw:∀b∈wr,ae.heap.get? b=none)(W:∀x∈aJ tg,env.kindOf x=some .local)
 (K:∀u,i+1<=rows0.length->rows0.drop (i+1)=rows->(∀{T' s'},Le T u T' s'->dK (i+1) s'.heap)->St c aj ae env (aX τ (aJ tg) row) T u->Le Tb sb T u->iw c env ae T u D a->wpAny c.M A (ot ifs env) (λok B=>
  if ok=true then(match(clausesOf e)[d+1]? with
   |some g'=>g'.is_async=0/\(∀x,foldedSetIterable g'.iter env x=pure x)/\wpAny c.M A (eval g'.iter env) (λx F=>wpAny c.M A (pyIter x) (λJ N=>codeAny c.M A (.compStart e (d+1) J (.ref D) env) (λr O=>(∃f,r= .ok f)/\codeAny c.M A (.compLoop e d it (.ref D) env) R O) N) cg F) cg B
   |none=>wpAny c.M A (me e (.ref D) env) (λ_ F=>codeAny c.M A (.compLoop e d it (.ref D) env) R F) cg B)
  else codeAny c.M A (.compLoop e d it (.ref D) env) R B) cg u):codeAny c.M A (.compLoop e d it (.ref D) env) R s:=by
 have H:i<rows0.length:=Nat.lt_of_not_le λh=>by injection(List.drop_eq_nil_of_le h).symm.trans hr
 have hd:rows0[i]::rows0.drop (i+1)=row::rows:=(List.drop_eq_getElem_cons H).symm.trans hr;have Y:∀b∈wr,T b=some .raw/\ae.heap.get? b=none:=λb hb=>⟨sS g (G.wr b hb).1,hw b hb⟩;have LZ:=G.mono g (λa ty e=>l.le a ty e);refine ir he hg (wpAny_mono (G.d.item i s env (λ_ u=>wpAny c.M A (ot ifs env) (λok B=>if ok=true then(match(clausesOf e)[d+1]? with|some g'=>g'.is_async=0/\(∀x,foldedSetIterable g'.iter env x=pure x)/\wpAny c.M A (eval g'.iter env) (λx F=>wpAny c.M A (pyIter x) (λJ N=>codeAny c.M A (.compStart e (d+1) J (.ref D) env) (λr O=>(∃f,r= .ok f)/\codeAny c.M A (.compLoop e d it (.ref D) env) R O) N) cg F) cg B|none=>wpAny c.M A (me e (.ref D) env) (λ_ F=>codeAny c.M A (.compLoop e d it (.ref D) env) R F) cg B)else codeAny c.M A (.compLoop e d it (.ref D) env) R B) cg u) cg H st λvs h' tk hP Z Q=>?_) (λr aS hq=>?hend) λ_ _ z=>z)
 case hend=>refine ab hq λv e q=>?_;subst e;exact q
 refine ab (G.rows i vs H hP) λMF wm hv=>?_;obtain rfl:MF=row:=(Option.some.inj ((List.getElem?_eq_getElem H).symm.trans wm)).symm.trans (List.cons.inj hd).1;refine mj (S.drawn (tk:=tk) Y Q λb hb=>G.d.ex _ _ Z b (G.d.sub b hb)) (λx hx=>⟨eo.local (W x hx),.inl (W x hx)⟩) (hv.mono g) λu Sb U=>?_;refine K u H (List.cons.inj hd).2 (λl'=>G.d.frame _ _ _ (G.d.frame _ _ _ Z λb hb o I=>ab (LZ b hb) λty h1 _=>U.1 b ty o h1 I) λb hb o I=>ab ((G.mono g (λa ty e=>l.le a ty e)) b hb) λty h1 h2=>l'.wX b ty o h1 h2 I) Sb ?_ ?_
 . refine⟨l.le,λa ty o h1 h2 h3=>?_⟩;refine ab (l.le a ty h1) λj8 e' _=>?_;exact U.1 a j8 o e' (Q a o (λq=>ad ((G.wr a q).2.2.symm.trans h1)) (l.wX a ty o h1 h2 h3))
 . exact⟨X.at_.lift (λI=>U.2 D _ X.nl X.nc (Q D _ (λq=>ad (X.cN.symm.trans (Y D q).1)) I)) λh=>h,X.cN,X.lo,X.nl,X.nc⟩
theorem zZ{e d τ rows a dO a'}(he:o9 e=true)(h:dy c env A e d τ rows a dO a'):
 ∀{O B H Z fp wr dK P aj ae T s Tb sb bp u i D}{R:Result->Shared->Prop},(clausesOf e)[d]? =some ⟨O,B,H,0⟩->su c A Tb sb O (aJ O) u Z bp fp wr dK P->u.drop i=rows->i<=u.length->
  St c aj ae env τ T s->jw τ->Le Tb sb T s->js bp T->dK i s.heap->iw c env ae T s D a->(∀b∈wr,ae.heap.get? b=none)->(∀x∈aJ O,env.kindOf x=some .local)->
  (∀T' s',St c aj ae env dO T' s'->jw dO->Le Tb sb T' s'->iw c env ae T' s' D a'->R (.ok .next) s')->codeAny c.M A (.compLoop e d Z (.ref D) env) R s:=by
 induction h with
 |done=>
  intro O B H Z fp wr dK P aj ae T s Tb sb bp u i D R F G hr hi S fz l g st X hw N hR;have Ox:i=u.length:=by exact Nat.le_antisymm hi (Nat.le_of_sub_eq_zero (List.length_drop.symm.trans (congrArg List.length hr)))
  subst Ox;have Cc:∀b∈wr,T b=some .raw/\ae.heap.get? b=none:=λb hb=>⟨sS g (G.wr b hb).1,hw b hb⟩;refine ir he F (G.d.done _ _ _ st λh' tk iO=>?_);have nw:D∉wr:=λq=>ad (X.cN.symm.trans (Cc D q).1);have HJ:∀{b ty},Tb b=some ty->b∉wr:=λe q=>ad ((G.wr _ q).2.2.symm.trans e);refine hR _ _ (S.done (tk:=tk) Cc iO) fz ⟨λb ty e=>?_,λb ty o h1 h2 h3=>iO b o (HJ h1) (l.wX b ty o h1 h2 h3)⟩ ⟨X.at_.lift (iO D _ nw) (sY λb hb=> .inr (Cc b hb).1).vl,(if_neg nw).trans X.cN,X.lo,X.nl,X.nc⟩;exact ab (l.le b ty e) λj8 e' q=>⟨j8,(if_neg (HJ e)).trans e',q⟩
 |skip JR ht t ih=>intro O B H Z fp wr dK P aj ae T s Tb sb bp u i D R F G hr hi S fz l g st X hw N hR;obtain rfl:=Option.some.inj (JR.symm.trans F);refine iP he F G hr S l g st X hw N λcE JP JV Bp I l3 X3=>?_;refine wpAny_mono (ht.run I.w I.f) (λb ic g4=>?_) λ_ _ z=>z;obtain⟨rfl,T4,Q,U⟩:=g4;exact af (I.kp Q U) λS4 J=>ih F G JV JP S4 fz.bind (l3.trans J) (g.trans J.le) (Bp J) (X3.ext S.f.jx Q) hw N hR
 |emit JR ht hn To t ih=>intro O B H Z fp wr dK P aj ae T s Tb sb bp u i D R F G hr hi S fz l g st X hw N hR;obtain rfl:=Option.some.inj (JR.symm.trans F);refine iP he F G hr S l g st X hw N λcE JP JV Bp I l3 X3=>?_;refine wpAny_mono (ht.run I.w I.f) (λb ic g4=>?_) λ_ _ z=>z;obtain⟨rfl,T4,Q,U⟩:=g4;refine af (I.kp Q U) λS4 J=>?_;rw[hn];refine wpAny_mono (To.run S4 fz.bind (X3.ext S.f.jx Q)) (λ_ iB g5=>?_) λ_ _ z=>z;refine bV g5 λT5 S5 l5 X5=>?_;exact ih F G JV JP S5 fz.bind (l3.trans (J.trans l5)) (g.trans (J.trans l5).le) (Bp (J.trans l5)) X5 hw N hR
 |nest JR ht hn hf iO hit inner t SA ih=>
  intro O B H Z fp wr dK P aj ae T s Tb sb bp u i D R F G hr hi S fz l g st X hw N hR;obtain rfl:=Option.some.inj (JR.symm.trans F);refine iP he F G hr S l g st X hw N λcE JP JV Bp I l3 X3=>?_;refine wpAny_mono (ht.run I.w I.f) (λb ic g4=>?_) λ_ _ z=>z;obtain⟨rfl,T4,Q,U⟩:=g4;refine af (I.kp Q U) λS4 J=>?_;rw[hn];refine⟨by first|rfl|trivial,⟨hf,wpAny_mono (hit _ T4 ic U S4.f) (λx iB za=>wpAny_mono za (λwW qI g6=>?_) λ_ _ z=>z) λ_ _ z=>z⟩⟩;obtain⟨cf,UX,Uw,Uj,P',Y⟩:=g6;refine dh (Y.go U) λG' w6 e6=>?_;refine af (S4.kp e6 w6) λS6 l6=>?_;have X6:=(X3.ext S.f.jx Q).ext S.f.jx e6;have W:codeAny c.M A (.compLoop e (_+1) wW (.ref D) env) (λr qF=>(∃f,r= .ok f)/\codeAny c.M A (.compLoop e _ Z (.ref D) env) R qF) qI:=
   SA hn G' rfl (Nat.zero_le _) S6 fz.bind l6 (.refl _) Y.st X6 (λb hb=>S4.e.fresh U (G'.wr b hb).2.1) iO λT7 s7 S7 TO l7 X7=>⟨⟨_,rfl⟩,ih F G JV JP S7 TO (l3.trans (J.trans l7)) (g.trans (J.trans l7).le) (Bp (J.trans l7)) X7 hw N hR⟩
  exact gJ he hn W (G'.d.self 0 _ _ _ Y.st W)
end
set_option tactic.hygienic true
noncomputable def jr(env:Env):List (Str×NameKind)->List (Str×Addr)->List (Str×Addr)
 |[],acc=>acc
 |(n,k)::r,acc=>if k== .free then(match env.cells.lookup n with|some a=>jr env r ((n,a)::acc)|none=>jr env r acc)else jr env r acc
theorem gK{env:Env}:∀{names acc x a},(∀y b,acc.lookup y=some b->env.cells.lookup y=some b)->(jr env names acc).lookup x=some a->env.cells.lookup x=some a
 |[],acc,x,a,h,e=>h x a e
 |(n,k)::r,acc,x,a,h,e=>by
  unfold jr at e;split at e
  . split at e
    . rename_i b hb;refine gK (λy f hy=>?_) e;rw[List.lookup_cons]at hy;by_cases q:y=n
      . subst q;simp at hy;rw[<-hy];exact hb
      . rw[beq_eq_false_iff_ne.mpr q]at hy;exact h y f hy
    . exact gK h e
  . exact gK h e
theorem hH{env:Env}:∀{names acc x},(∃a,acc.lookup x=some a)->∃a,(jr env names acc).lookup x=some a
 |[],acc,x,h=>h
 |(n,k)::r,acc,x,h=>by
  unfold jr;split
  . split
    . rename_i b hb;refine hH ?_;rw[List.lookup_cons];split
      . exact⟨_,rfl⟩
      . exact h
    . exact hH h
  . exact hH h
theorem gL{env:Env}:∀{names acc x},(x,NameKind.free)∈names->(∃a,env.cells.lookup x=some a)->∃a,(jr env names acc).lookup x=some a
 |(n,k)::r,acc,x,f,hx=>by
  unfold jr;refine Or.elim (List.mem_cons.mp f) (λe=>?_) λf=>?_
  . cases e;refine ax hx λa i=>?_;simp only[beq_self_eq_true,if_true,i];exact hH ⟨a,by simp⟩
  . split
    . split
      . exact gL f hx
      . exact gL f hx
    . exact gL f hx
theorem mS{scope:Scope}{env:Env}(h:∀x∈scope.names,x.2= .free->∃a,env.cells.lookup x.1=some a):closureFor scope env=pure (jr env scope.names []):=by
 dsimp only[closureFor];have key:∀(names:List (Str×NameKind))(acc:List (Str×Addr)),(∀x∈names,x.2= .free->∃a,env.cells.lookup x.1=some a)->
  (forIn names acc λ(x:Str×NameKind)(f:List (Str×Addr))=>if(x.2==NameKind.free)=true then(do let __do_lift<-cellOf env x.1;pure (ForInStep.yield ((x.1,__do_lift)::f)))else pure (ForInStep.yield f))=(pure (jr env names acc):Sem _):=by
  intro names
  induction names with
  |nil=>intro acc _;rfl
  |cons y r ih=>
   intro acc hn;obtain⟨n,k⟩:=y;rw[List.forIn_cons];unfold jr;by_cases q:k= .free
   . subst q;refine ax (hn (n,.free) (.head _) rfl) λa i=>?_;simp only[beq_self_eq_true,if_true,i,cellOf];rw[pure_bind];exact ih _ λx hx=>hn x (.tail _ hx)
   . have hb:(k==NameKind.free)=false:=by simpa using q
     simp only[hb,Bool.false_eq_true,if_false,pure_bind];exact ih _ λx hx=>hn x (.tail _ hx)
 have:=key scope.names [] h;rw[this];rfl
structure hJ(env:Env)(σ:ah)(scope:Scope)(sc:ah):Prop where
 kind:scope.kind= .function
 yg:∀x∈scope.names,x.2≠ .cell
 locs:∀x∈scope.names,x.2= .local->scope.names.lookup x.1=some .local
 free:∀x∈scope.names,x.2= .free->∃y,σ.lookup x.1=some (.fz y)/\(env.kindOf x.1=some .cell\/env.kindOf x.1=some .free)
 Em:∀x e,sc.lookup x=some e->∃y,e= .fz y/\σ.lookup x=some (.fz y)/\(x,NameKind.free)∈scope.names/\scope.names.lookup x=some .free/\(x==("__classdict__":Str))=false
theorem iZ{env:Env}:∀{names:List (Str×NameKind)}{x:Str},names.lookup x=some .free->
 (names.map λ(n,k)=>if(k==NameKind.free&&env.scope.kind== .function&&env.kindOf n==some .cell)then(n,NameKind.cell)else(n,k)).lookup x=some .cell\/
 (names.map λ(n,k)=>if(k==NameKind.free&&env.scope.kind== .function&&env.kindOf n==some .cell)then(n,NameKind.cell)else(n,k)).lookup x=some .free
 |[],_,h=>by simp at h
 |(n,k)::r,x,h=>by
  rw[List.map_cons]
  induction hx:x==n with
  |true=>
   simp only[List.lookup_cons,hx]at h;obtain rfl:=Option.some.inj h;by_cases f:(NameKind.free==NameKind.free&&env.scope.kind== .function&&env.kindOf n==some .cell)=true
   . left;simp only[if_pos f,List.lookup_cons,hx]
   . right;simp only[if_neg f,List.lookup_cons,hx]
  |false=>
   simp only[List.lookup_cons,hx]at h;have e:∀q:NameKind×Unit,True:=λ_=>trivial;refine Or.elim ((@iZ env r x) h) (λh'=>?_) λh'=>?_
   . left;by_cases f:(k==NameKind.free&&env.scope.kind== .function&&env.kindOf n==some .cell)=true
     . simp only[if_pos f,List.lookup_cons,hx];exact h'
     . simp only[if_neg f,List.lookup_cons,hx];exact h'
   . right;by_cases f:(k==NameKind.free&&env.scope.kind== .function&&env.kindOf n==some .cell)=true
     . simp only[if_pos f,List.lookup_cons,hx];exact h'
     . simp only[if_neg f,List.lookup_cons,hx];exact h'
theorem fR{env:Env}:∀{names:List (Str×NameKind)}{x:Str},(∀y∈names,y.2≠ .cell)->
 (names.map λ(n,k)=>if(k==NameKind.free&&env.scope.kind== .function&&env.kindOf n==some .cell)then(n,NameKind.cell)else(n,k)).lookup x=some .cell->(x,NameKind.free)∈names
 |[],_,_,h=>by simp at h
 |(n,k)::r,x,hn,h=>by
  rw[List.map_cons]at h;by_cases f:(k==NameKind.free&&env.scope.kind== .function&&env.kindOf n==some .cell)=true
  . simp only[if_pos f,List.lookup_cons]at h;have i:k= .free:=by simp at f;exact f.1.1
    induction hx:x==n with
    |true=>rw[beq_iff_eq.mp hx,i];exact .head _
    |false=>rw[hx]at h;exact .tail _ (fR (λy hy=>hn y (.tail _ hy)) h)
  . simp only[if_neg f,List.lookup_cons]at h
    induction hx:x==n with
    |true=>rw[hx]at h;obtain rfl:=Option.some.inj h;exact absurd rfl (hn (n,.cell) (.head _))
    |false=>rw[hx]at h;exact .tail _ (fR (λy hy=>hn y (.tail _ hy)) h)
noncomputable def pP:Acc->Obj
 | .l _=>bo #[] 0
 | .d _=>aC #[] 0
noncomputable def wP(b:Bool):Acc:=if b then .l []else .d []
section
variable{c:Cx}{env:Env}{A:Around}{H₀:Heap}{σ:ah}
theorem ll{e:Expr}{scope:Scope}{pos tg iter ifs gs rows sc dO a' b}{yn:Sem Value}{use:Option (Value->Sem Unit)}{Q:Value->Shared->Prop}{E}{T s}(he:o9 e=true)(mF:clausesOf e=⟨tg,iter,ifs,0⟩::gs)(X:hJ env σ scope sc)
 (hk:∀x∈aJ tg,scope.names.lookup x=some .local)(hf:∀x,foldedSetIterable iter env x=pure x)(hi:eT c env A H₀ σ iter tg (aJ tg) rows)
 (hS:∀H:Env,H.scope=relabel scope env->dy c H A e 0 sc rows (wP b) dO a')(OG:∀(s:Shared)(Q:Value->Shared->Prop)(E:Value->Shared->Prop),Q (.ref s.heap.objs.size) {s with heap:=s.heap.push (pP (wP b))}->wpAny c.M A yn Q E s)
 (w:W c T s.heap)(F:FR c env H₀ σ T s.heap)
 (hQ:∀T' s' D C m,bF c T s T' s'->W c T' s'.heap->s.heap.get? D=none->T' D=none->AccAt c T' s'.heap D a'->s.heap.get? C=none->T' C=none->C≠D->s'.heap.Ns C m->compPost c.M A E use Q (.ref D) C (.ok .next) s'):
 wpAny c.M A (comprehension e scope env pos yn false (eval iter env) use) Q E s:=by
 have rD:∀x∈scope.names,x.2= .free->∃a,env.cells.lookup x.1=some a:=λx hx O=>by
  refine ab (X.free x hx O) λy h1 h2=>?_;refine cq F.vals λm ρ V=>?_;refine ab (V.val x.1 _ h1) λv U _=>?_;rcases U with⟨U,_⟩|⟨_,a,Z,_⟩
  . refine Or.elim h2 (λh2=>?_) λh2=>?_<;>rw [U]at h2<;>cases h2
  . exact⟨a,Z⟩
 refine wpAny_comprehension_free mF hf (mS rD) X.kind X.locs (bT (wpAny_mono (hi T s w F) (λx aS I=>bT (wpAny_mono I (λit i⟨cf,fp,wr,dK,P,Y⟩=>?_) λ_ _ z=>z)) λ_ _ z=>z));refine dh (Y.go w) λG w2 e2=>?_;refine OG i _ _ (wpAny_newFunctionEnv X.yg (by intro y hy;simp at hy) (λI wo mO=>?_) X.kind);generalize UU:fo cf fp=T3 at*
 dsimp only at wo mO⊢;generalize OJ:i.heap.push (pP (wP b))=H2 at wo mO⊢;have TF:H2.get? i.heap.objs.size=some (pP (wP b)):=by rw[<-OJ];refine Heap.get?_push_size _ ?_;induction b<;>rfl
 have hC:H2.objs.size=i.heap.objs.size+1:=by rw[<-OJ,Heap.size_push]
 have OL:i.heap.objs.size≠H2.objs.size:=by rw[hC];exact Nat.ne_of_lt (Nat.lt_succ_self _)
 have u:∀b o,i.heap.get? b=some o->I.get? b=some o:=λb o e=>mO.extBut b o (by rw[hC];exact Nat.ne_of_lt (Nat.lt_succ_of_lt (Heap.lt_size e))) (Heap.get?_push_of_some _ (OJ▸Heap.get?_push_of_some _ e));have Re:I.get? i.heap.objs.size=some (pP (wP b)):=mO.extBut _ _ OL (Heap.get?_push_of_some _ TF);have D5:i.heap.get? H2.objs.size=none:=by
  induction q:i.heap.get? H2.objs.size with
  |none=>rfl
  |some o=>exact absurd (Heap.lt_size q) (by rw[hC];exact Nat.not_lt.mpr (Nat.le_succ _))
 have fD:s.heap.get? i.heap.objs.size=none:=e2.fresh w2 (aG _);have fC:s.heap.get? H2.objs.size=none:=e2.fresh w2 D5;have nD:=w2.none_of (aG i.heap);generalize UW:i.heap.objs.size=D at*
 generalize TG:H2.objs.size=C at*
 have e3:bF c T s T3 {i with heap:=I,toks:=i.toks+([]:List (Str×Value)).length}:=e2.trans (bF.grown u _);have J:∃H:Env,H={newEnv scope C env.globals (jr env scope.names []) env.qual none .none (some env) builtinsNs with scope:=relabel scope env}:=⟨_,rfl⟩;refine ax J λH J=>?_;have c1:H.scope=relabel scope env:=by rw[J]
 have c2:H.locals=C:=by rw[J];rfl
 have c3:H.cells=jr env scope.names []:=by rw[J];rfl
 have c4:H.globals=env.globals:=by rw[J];rfl
 have c5:H.builtins=env.builtins:=by rw[J];rfl
 have sub:∀{x a},H.cells.lookup x=some a->env.cells.lookup x=some a:=λ{x a} h=>by rw[c3]at h;exact gK (acc:=[]) (λy b hy=>by simp at hy) h
 have B:∀x,H.kindOf x=(scope.names.map λ(n,k)=>if(k==NameKind.free&&env.scope.kind== .function&&env.kindOf n==some .cell)then(n,NameKind.cell)else(n,k)).lookup x:=λx=>by unfold Env.kindOf;rw[c1];rfl
 have Fx:=(F.ext e2).xR (T':=T3) (h':=I) (wr:=[]) (λb hb=>by cases hb) (λb o _ e=>u b o e) (λ_ _ e _=>e) λ_ e _=>e;have S:St c T s H sc T3 {i with heap:=I,toks:=i.toks+([]:List (Str×Value)).length}:=by
  refine⟨(w2.grown u),e3,⟨by rw[c1];exact X.kind,by rw[c4];exact F.glob,by rw[c5];exact F.blt,λa Z=>w.free Z,by rw[c2];exact(w2.none_of D5),by rw[c2];exact fC,λx a hx=>Fx.cells x a (sub hx),λx y a hx hy=>F.inj x y a (sub hx) (sub hy),λx hx=>?_,(λx=>([]:List (Str×Value)).reverse.lookup x),λ_=>0,?_,?_,?_,λx ev hx=>?_⟩,w⟩
  . rw[B]at hx;have hm:=fR X.yg hx;rw[c3];exact gL hm (rD _ hm rfl)
  . rw[c2];exact wo
  . intro x y ex ey hx hy oe of _;refine ab (X.Em x ex hx) λz e _=>?_;rw[e]at oe;exact absurd oe Bool.false_ne_true
  . intro x ex hx oe;refine ab (X.Em x ex hx) λz e _=>?_;rw[e]at oe;exact absurd oe Bool.false_ne_true
  . refine KN (X.Em x ev hx) λy aK h2 U h4 h5=>?_;subst aK;refine cq Fx.vals λm ρ V=>?_;refine ab (V.val x _ h2) λv g1 g2=>?_;refine ab (X.free _ U rfl) λz _ O=>?_;refine ag v (.inr ⟨?_,?_⟩) ?_
    . rw[B];refine Or.elim (iZ (env:=env) h4) (λq=>?_) λq=>?_
      . exact .inl q
      . exact .inr ⟨q,h5⟩
    . rcases g1 with⟨g1,_⟩|⟨_,a,Z,hc⟩
      . refine Or.elim O (λO=>?_) λO=>?_<;>(have QW:env.kindOf x=_:=O;rw[g1]at QW;cases QW)
      . refine ax (gL (env:=env) (acc:=[]) U ⟨a,Z⟩) λa' J1=>?_;have:a'=a:=by
         have:=gK (acc:=[]) (λy b hy=>by simp at hy) J1;rw[Z]at this;exact(Option.some.inj this).symm
        subst this;exact ag a' (by rw[c3];exact J1) hc
    . have q:=g2.inv;exact .fz q
 have iO:∀x∈aJ tg,H.kindOf x=some .local:=λx hx=>by rw[B];exact lookup_relabel_local (hk x hx)
 have fz:jw sc:=λx ev hx=>by refine ab (X.Em x ev hx) λy e _=>?_;rw[e];rfl
 have XA:iw c H s T3 {i with heap:=I,toks:=i.toks+([]:List (Str×Value)).length} D (wP b):=by
  refine⟨?_,nD,fD,by rw[c2];exact OL,λx hx=>?_⟩
  . induction b with
    |true=>exact jn (#[]) 0 Re .nil
    |false=>exact t4 (#[]) 0 Re .nil List.nodup_nil
  . have:=(F.cells x D (sub hx)).1;refine aP this λv o ho _=>?_;rw[fD]at ho;exact ad ho
 have HF:dK 0 I:=Y.d.frame _ _ _ Y.st λb _ o e=>u b o e;have SH:∀b∈wr,s.heap.get? b=none:=λb hb=>(G.wr b hb).2.1;have N:codeAny c.M A (.compLoop e 0 it (.ref D) H) (compPost c.M A E use Q (.ref D) C) {i with heap:=I,toks:=i.toks+([]:List (Str×Value)).length}:=by refine zZ he (hS H c1) (by rw[mF];rfl) G rfl (Nat.zero_le _) S fz (e3.xl w) (.refl _) HF XA SH iO λT' s' S' _ _ X'=>?_;refine cq S'.f.vals λm ρ V=>?_;have nl:=S'.f.loc;rw[c2]at nl;have ns:=V.ns;rw[c2]at ns;exact hQ T' s' D C m S'.e S'.w fD X'.cN X'.at_ fC nl (Ne.symm OL) ns
 have:=gJ he (by rw[mF];rfl) N (Y.d.self 0 _ _ _ HF N);rw[J]at this;exact this
end
set_option tactic.hygienic false
section
variable{c:Cx}{env:Env}{A:Around}{H₀:Heap}{σ:ah}
theorem l8(k v gens scope pos):eval (.DictComp k v gens scope pos) env=comprehension (.DictComp k v gens scope pos) scope env (firstIterPos gens pos) newDict (firstAsync gens) (firstIter gens env):=rfl
theorem wc{elt tg iter ifs gs scope pos rows sc dO xs}(X:hJ env σ scope sc)
 (B:∀x∈aJ tg,scope.names.lookup x=some .local)(hf:∀x,foldedSetIterable iter env x=pure x)(hi:∀H₀,eT c env A H₀ σ iter tg (aJ tg) rows)
 (G:∀u:Env,u.scope=relabel scope env->dy c u A (.ListComp elt (⟨tg,iter,ifs,0⟩::gs) scope pos) 0 sc rows (.l []) dO (.l xs)):si c env A H₀ σ (.ListComp elt (⟨tg,iter,ifs,0⟩::gs) scope pos) xs:=λT s w F=>by
 rw[eval_ListComp];refine ll (b:=true) (use:=none) rfl rfl X B hf (hi H₀) G (λs Q E h=>wpAny_newObj_type h (by size_fits)) w F λT' s' D C m H I h0 hn J z N O ns=>?_;refine aP J λvs n P f=>?_;refine ag m ns λh' i=>⟨T',D,vs,n,rfl,H.upd i z,I.upd i N (w.free z),h0,hn,(i.2 _ (Ne.symm O)).trans P,f⟩
theorem wd{ke ve tg iter ifs gs scope pos rows sc dO l}(X:hJ env σ scope sc)
 (B:∀x∈aJ tg,scope.names.lookup x=some .local)(hf:∀x,foldedSetIterable iter env x=pure x)(hi:∀H₀,eT c env A H₀ σ iter tg (aJ tg) rows)
 (G:∀u:Env,u.scope=relabel scope env->dy c u A (.DictComp ke ve (⟨tg,iter,ifs,0⟩::gs) scope pos) 0 sc rows (.d []) dO (.d l)):pR c env A H₀ σ (.DictComp ke ve (⟨tg,iter,ifs,0⟩::gs) scope pos) l:=λT s w F=>by
 rw[l8];refine ll (b:=false) (use:=none) rfl rfl X B hf (hi H₀) G (λs Q E h=>wpAny_newObj_type h (by size_fits)) w F λT' s' D C m H I h0 hn J z N O ns=>?_;refine cP J λP n U f nd=>?_;refine ag m ns λh' i=>⟨T',D,P,n,rfl,H.upd i z,I.upd i N (w.free z),h0,hn,(i.2 _ (Ne.symm O)).trans U,f,nd⟩
theorem tU{y py elt tg iter ifs gs scope pos Iq rows sc dO xs}(O:swapsWith (.ListComp elt (⟨tg,iter,ifs,0⟩::gs) scope pos) (some (.Name y py)) Iq.line env=pure true)(hy:env.kindOf y=some .local)(X:hJ env σ scope sc)
 (P:∀x∈aJ tg,scope.names.lookup x=some .local)(hf:∀x,foldedSetIterable iter env x=pure x)(hi:∀H₀,eT c env A H₀ σ iter tg (aJ tg) rows)
 (U:∀G:Env,G.scope=relabel scope env->dy c G A (.ListComp elt (⟨tg,iter,ifs,0⟩::gs) scope pos) 0 sc rows (.l []) dO (.l xs)):
 ju c env A σ (.Assign [.Name y py] (.ListComp elt (⟨tg,iter,ifs,0⟩::gs) scope pos) Iq) (.next (aQ σ y (.ol xs))):=λaj ae T s S Y=>by
 rw[exec_Assign_Name_used _ _ _ _ O];refine wpAny_bind (wpAny_standAt (wpAny_bind ?_));refine wpAny_bind (wpAny_mono (Q:=λ_ s'=>f0 c aj ae env T s (.next (aQ σ y (.ol xs))) .next s') ?_ (λ_ s' q=>wpAny_pure (wpAny_pure q)) λ_ _ z=>z);refine ll (b:=true) (use:=some (assign (.Name y py) env)) rfl rfl X P hf (hi _) U (λs Q E h=>wpAny_newObj_type h (by size_fits)) S.w S.f λT' s' D C m i Z h0 hn ha u D5 J3 ns=>?_;refine aP ha λvs n ho F=>?_;refine ga (Heap.Ns.obj ns) λoC eC nC SZ UT=>?_;have w5:W c (fo T' [C]) s'.heap:=Z.DQ λb hb e=>by simp at hb;subst hb;exact⟨S.w.free u,oC,SZ⟩
 have H:bF c T s (fo T' [C]) s':=⟨λa ty e=>gS _ _ (i.eq a ty e),i.keep,λa o h1 h2 B=>by
  have f8:a≠C:=λq=>by rw[q,u]at h2;exact ad h2
  rw[oG (by simpa using f8)];exact i.cN a o h1 h2 B,i.gens,i.os⟩
 have Td:fo T' [C] D=none:=by rw[oG (by simpa using Ne.symm J3)];exact hn
 have I:fo T' [C] C=some .raw:=oH (by exact List.mem_cons_self) D5;refine wpAny_assign_Name (la S (Y y) (.inl hy) H w5 h0 Td ho (F.mono kL) λfq pQ st=>?_);refine ag m ?_ (λh' J=>⟨rfl,_,pQ.done (wr:=[C]) (tk:=fq.toks) (λb hb=>by simp at hb;subst hb;exact⟨I,S.e.fresh S.w u⟩) (λb o hb e=>by simp at hb;exact(J.2 _ hb).trans e),?_⟩)
 . refine ga ns λo es ep g1 g2=>?_;exact rU o es ep (st.1 C .raw o I g1) g2
 . have lw:=(H.xl S.w).trans st.le;refine⟨λa ty e=>?_,λa ty o h1 h2 B=>(J.2 a (λq=>?_)).trans (lw.wX a ty o h1 h2 B)⟩
   . refine ab (lw.le a ty e) λj8 Uc q=>?_;refine ag j8 ?_ q;unfold sZ;rewrite[if_neg ?_];exact Uc;intro N;simp at N;subst N;rw[S.w.none_of u]at e;exact ad e
   . subst q;rw[u]at B;exact ad B
end
set_option tactic.hygienic true
set_option backward.match.sparseCases true
structure bq(A:Around)(k:Nat):Prop where
 r:cD A k
 u:A.units+8*k+105<=9800
theorem cD.frame{A:Around}{k:Nat}(x:cD A (k+1))(env:Env):bq (A.deeper env) k:=by
 obtain⟨h1,h2,f,i⟩:=x;refine⟨⟨?_,?_,f,i⟩,?_⟩
 . show A.depth+1+k<=999;lia
 . rw[Around.deeper_units];lia
 . rw[Around.deeper_units];lia
structure sw(K:Frag)(f:Addr)(fd:FuncData)(body:List Stmt):Prop where
 look:∃o,K.lookup f=some o/\o.data= .func fd
 body:fd.body= .stmts body
 Uf:fd.closure=[]
 glob:fd.globals=mainGlobals
 blt:fd.builtins=builtinsNs
 code:codeIn K fd.code fd.qualname=true
 co:fd.scope.isCoroutine=false
 gen:fd.scope.isGenerator=false
 kind:fd.scope.kind= .function
theorem nQ{i:Str->Option NameKind}:∀{f:List (Str×Value)}{m:Str->Option Value}{n:Str},(∀v,(n,v)∉f)->bindL i f m n=m n
 |[],_,_,_=>rfl
 |(x,v)::r,m,n,h=>by
  unfold bindL;rw[nQ λv hv=>h v (.tail _ hv)];split
  . have:n≠x:=λq=>h v (by rw[q];exact .head _);simp only[if_neg this]
  . rfl
theorem nR{i:Str->Option NameKind}:∀{f:List (Str×Value)}{m:Str->Option Value}{n:Str},(∀v,(n,v)∉f)->bindC i f m n=m n
 |[],_,_,_=>rfl
 |(x,v)::r,m,n,h=>by
  unfold bindC;rw[nR λv hv=>h v (.tail _ hv)];split
  . rfl
  . have:n≠x:=λq=>h v (by rw[q];exact .head _);simp only[if_neg this]
theorem r5{i:Str->Option NameKind}{n:Str}{v:Value}(z:i n=some .local):∀{f:List (Str×Value)}{m:Str->Option Value},(f.map (·.1)).Nodup->(n,v)∈f->bindL i f m n=some v
 |(x,u)::r,m,nd,h=>by
  unfold bindL;rw[List.map_cons,List.nodup_cons]at nd;refine Or.elim (List.mem_cons.mp h) (λe=>?_) λh=>?_
  . refine af (Prod.mk.inj e) λB F=>?_;subst B;subst F;rw[nQ λv hv=>nd.1 (List.mem_map.mpr ⟨_,hv,rfl⟩),if_pos z];simp
  . exact r5 z nd.2 h
theorem r6{i:Str->Option NameKind}{n:Str}{v:Value}(z:i n≠some .local):∀{f:List (Str×Value)}{m:Str->Option Value},(f.map (·.1)).Nodup->(n,v)∈f->bindC i f m n=some v
 |(x,u)::r,m,nd,h=>by
  unfold bindC;rw[List.map_cons,List.nodup_cons]at nd;refine Or.elim (List.mem_cons.mp h) (λe=>?_) λh=>?_
  . refine af (Prod.mk.inj e) λB F=>?_;subst B;subst F;rw[nR λv hv=>nd.1 (List.mem_map.mpr ⟨_,hv,rfl⟩),if_neg z];simp
  . exact r6 z nd.2 h
theorem cH:∀{names:List (Str×NameKind)}{n:Nat}{acc:List (Str×Addr)}{x:Str},(∃a,acc.lookup x=some a)\/(x,NameKind.cell)∈names->∃a,(cellsFrom n names acc).lookup x=some a
 |[],n,acc,x,h=>by
  refine Or.elim h (λh=>?_) λh=>?_
  . exact h
  . exact uH h
 |(y,k)::r,n,acc,x,h=>by
  unfold cellsFrom;split
  . rename_i f;refine cH ?_;rcases h with⟨a,h⟩|h
    . left;rw[List.lookup_cons];split
      . exact⟨_,rfl⟩
      . exact⟨a,h⟩
    . refine Or.elim (List.mem_cons.mp h) (λe=>?_) λh=>?_
      . (injection e with z;subst z);left;exact⟨n,by simp⟩
      . exact .inr h
  . rename_i f;refine cH ?_;refine Or.elim h (λh=>?_) λh=>?_
    . exact .inl h
    . refine Or.elim (List.mem_cons.mp h) (λe=>?_) λh=>?_
      . exact absurd (beq_iff_eq.mpr (congrArg Prod.snd e).symm) f
      . exact .inr h
structure j7(scope:Scope)(ns:List Str):Prop where
 nd:ns.Nodup
 kind:∀n∈ns,scope.names.lookup n=some .local\/scope.names.lookup n=some .cell
noncomputable def BR(c:Cx)(T:TM)(h H₀:Heap)(p:Str×Value)(q:Str×EV):Prop:=p.1=q.1/\∃r,ER c T h H₀ r p.2 q.2
noncomputable abbrev AU(c:Cx)(T:TM)(h H₀:Heap):=F2 (BR c T h H₀)
theorem AU.cons{c T h H₀}{n v ev r vs xs}(q:ER c T h H₀ r v ev)(t:AU c T h H₀ vs xs):AU c T h H₀ ((n,v)::vs) ((n,ev)::xs):=F2.cons ⟨rfl,r,q⟩ t
theorem AU.get{c T h H₀ vs xs}(x:AU c T h H₀ vs xs):∀{n:Str}{ev:EV},xs.lookup n=some ev->∃r v,(n,v)∈vs/\ER c T h H₀ r v ev:=by
 induction x with
 |nil=>exact λe=>ad e
 | @cons p p' vs xs q t ih=>
   intro n ev e;obtain⟨f,v⟩:=p;obtain⟨_,ev'⟩:=p';obtain⟨rfl:f=_,r,q⟩:=q;rw[List.lookup_cons]at e;by_cases i:n=f
   . subst i;rw[beq_self_eq_true]at e;exact jn r v (.head _) (Option.some.inj e▸q)
   . rw[beq_eq_false_iff_ne.mpr i]at e;exact aP (ih e) λr v h1 h2=>⟨r,v,.tail _ h1,h2⟩
theorem dX{names:List (Str×NameKind)}{n:Str}{k:NameKind}(h:names.lookup n=some k):(n,k)∈names:=mem_of_lookup h
section
variable{c:Cx}{A:Around}
noncomputable def k7(xs:List (Str×EV)):Prop:=∀x y e f,xs.lookup x=some e->xs.lookup y=some f->e.owned=true->f.owned=true->x=y
noncomputable abbrev Ix:Flow->Value:=λfl=>match fl with| .ret v=>v|_=> .none
theorem ko(O:aM c){f fd body}{T s bp aS vs kv binds bs}{X:Obj}{k:Nat}{R:Result->Shared->Prop}(wY:aS.heap.get? f=some X)(hd:X.data= .func fd)(rG:fd.body= .stmts body)(Gj:fd.closure=[])(zf:fd.globals=mainGlobals)(Gl:fd.builtins=builtinsNs)(wq:aS.heap.CodeRec fd.code fd.qualname)
 (Cm:fd.scope.isCoroutine=false)(tN:fd.scope.isGenerator=false)(Y:fd.scope.kind= .function)(Z:cD A (k+1))(w:W c T s.heap)(e:bF c T s bp aS)(F:W c bp aS.heap)
 (hb:BindsTo aS fd ⟨vs,kv⟩ binds)(br:AU c bp aS.heap s.heap binds bs)(B:j7 fd.scope (binds.map (·.1)))(one:k7 bs)
 (fJ:∀env A',env.scope=fd.scope->(env.code=fd.code/\env.qual=fd.qualname++".<locals>.")->bq A' k->∀aZ,St c T s env bs bp aZ->d5 env s.heap->wpAny c.M A' (execs body env) (λfl s'=>R (.ok (.ret (Ix fl))) s') cg aZ):
 codeAny c.M A (.call (.ref f) ⟨vs,kv⟩) R aS:=by
 refine codeAny_call_function (by have:=Z.depth;unfold recursionLimit;lia) wY hd Cm tN rG wq (hb _ _ _ _ ?_);rw[Gj];have uW:∀x∈binds,fd.scope.names.lookup x.1=some .local\/(fd.scope.names.lookup x.1=some .cell/\((cellsFrom (aS.heap.objs.size+1) fd.scope.names []).lookup x.1).isSome=true):=λx hx=>by
  refine Or.elim (B.kind x.1 (List.mem_map.mpr ⟨x,hx,rfl⟩)) (λh=>?_) λh=>?_
  . exact .inl h
  . refine .inr ⟨h,?_⟩;refine ax (cH (n:=aS.heap.objs.size+1) (acc:=[]) (.inr (dX h))) λa u=>?_;rw[u];rfl
 refine wpAny_newFunctionEnv_cells Y uW λenv he s' I=>?_;have H:env.scope=fd.scope:=by rw[he];rfl
 have J:env.locals=aS.heap.objs.size:=by rw[he];rfl
 have Q:env.cells=cellsFrom (aS.heap.objs.size+1) fd.scope.names []:=by rw[he];rfl
 have c4:env.globals=fd.globals:=by rw[he];rfl
 have c5:env.builtins=fd.builtins:=by rw[he];rfl
 refine aP I.done λh' tk zd N=>?_;subst zd;refine⟨(O.lim.keeps F.base).keeps N,codeAny_func ?_⟩;have w':W c bp h':=F.grown N;have e':bF c T s bp {aS with heap:=h',toks:=tk}:=e.trans (bF.grown N tk);have P:∀b,aS.heap.objs.size<=b->aS.heap.get? b=none:=λb hb=>by
  induction q:aS.heap.get? b with
  |none=>rfl
  |some o=>exact absurd (Heap.lt_size q) (Nat.not_lt.mpr hb)
 have fresh:∀b,aS.heap.objs.size<=b->bp b=none/\s.heap.get? b=none/\c.h₀.get? b=none/\b≠c.tab:=λb hb=>⟨F.none_of (P b hb),e.fresh F (P b hb),F.free (P b hb)⟩;have i:∀{x a},env.cells.lookup x=some a->aS.heap.objs.size<=a:=λ{x a} h=>by have:=I.above x a (mem_of_lookup h);rw[J]at this;exact Nat.le_of_lt this
 have S:St c T s env bs bp {aS with heap:=h',toks:=tk}:=by
  refine⟨w',e',⟨by rw[H];exact Y,by rw[c4];exact zf,by rw[c5];exact Gl,λa u=>w.free u,by rw[J];exact(fresh _ (Nat.le_refl _)).1,by rw[J];exact(fresh _ (Nat.le_refl _)).2.1,
   λx a hx=>⟨⟨_,I.cell x a hx⟩,(fresh a (i hx)).1,(fresh a (i hx)).2.2⟩,λx y a hx hy=>name_of_addr I.apart (mem_of_lookup hx) (mem_of_lookup hy),λx hx=>?_,?_⟩,w⟩
  . have:(x,NameKind.cell)∈fd.scope.names:=by unfold Env.kindOf at hx;rw[H]at hx;exact dX hx
    rw[Q];exact cH (.inr this)
  .
   have NZ:∀n,∃r:Addr,∀ev,bs.lookup n=some ev->∃v,(n,v)∈binds/\ER c bp aS.heap s.heap r v ev:=λn=>by
    induction q:bs.lookup n with
    |none=>exact⟨0,λev e=>ad e⟩
    |some ev=>exact aP (AU.get br q) λr v h1 h2=>⟨r,λev' e=>Option.some.inj e▸⟨v,h1,h2⟩⟩
   refine ax (Classical.axiomOfChoice NZ) λρ bh=>?_;have T0:∀{r v ev},ER c bp aS.heap s.heap r v ev->ER c bp h' s.heap r v ev:=λ{r v ev} x=>x.map (λh=>h) (λ_ _ _{_}=>N _ _) (λ_ _ n _ _=>n) λ_ _ _ e=>e;refine⟨_,ρ,I.toInCall.ns,λx y ex ey hx hy U oy _=>one x y ex ey hx hy U oy,λx ev hx U q=>?_,λx ev hx=>?_⟩
   . exact ab (bh x ev hx) λv _ h2=>ab (h2.at_ U) λo e _=>ad ((P _ (Nat.le_refl _)).symm.trans (q.trans J▸e))
   . refine ab (bh x ev hx) λv h1 h2=>?_;refine ag v ?_ (T0 h2);have kx:env.kindOf x=fd.scope.names.lookup x:=by unfold Env.kindOf;rw[H]
     refine Or.elim (B.kind x (List.mem_map.mpr ⟨_,h1,rfl⟩)) (λG=>?_) λG=>?_
     . exact .inl ⟨kx.trans G,r5 (kx.trans G) B.nd h1⟩
     . have Q3:env.kindOf x=some .cell:=kx.trans G;refine ax (cH (n:=aS.heap.objs.size+1) (acc:=[]) (.inr (dX G))) λa u=>?_;refine .inr ⟨.inl Q3,a,by rw[Q];exact u,?_⟩;have:=I.cell x a (by rw[Q];exact u);rw[r6 (λq=>by injection Q3.symm.trans q with z;injection z) B.nd h1]at this;exact this
 have oc:d5 env s.heap:=λx a hx _=>(fresh a (i hx)).2.1;exact bT (fJ env _ H ⟨by rw[he];rfl,by rw[he];rfl⟩ (Z.frame env) _ S oc)
theorem iQ(O:aM c){f fd body}(X:sw c.K f fd body){T s bp aS vs kv binds bs}{k:Nat}{R:Result->Shared->Prop}(F:cD A (k+1))(w:W c T s.heap)(e:bF c T s bp aS)(i:W c bp aS.heap)
 (hb:BindsTo aS fd ⟨vs,kv⟩ binds)(G:AU c bp aS.heap s.heap binds bs)(B:j7 fd.scope (binds.map (·.1)))(one:k7 bs)
 (H:∀env u,env.scope=fd.scope->(env.code=fd.code/\env.qual=fd.qualname++".<locals>.")->bq u k->∀z,St c T s env bs bp z->d5 env s.heap->wpAny c.M u (execs body env) (λfl s'=>R (.ok (.ret (Ix fl))) s') cg z):
 codeAny c.M A (.call (.ref f) ⟨vs,kv⟩) R aS:=
 let⟨_,ho,hd⟩:=X.look
 ko O (i.gj O _ _ ho) hd X.body X.Uf X.glob X.blt (codeRec_of (i.gj O) X.code) X.co X.gen X.kind F w e i hb G B one H
noncomputable def Eu(c:Cx)(fd:FuncData)(xs:List AV)(kx:List (Str×AV))(ps:List (Str×AV)):Prop:=
 ∀T s vs kv,W c T s.heap->dx T vs xs->jz T kv kx->∃binds,BindsTo s fd ⟨vs,kv⟩ binds/\jz T binds ps
noncomputable def sF(ps:List (Str×AV)):ah:=ps.map λp=>(p.1,.fz p.2)
theorem An{T:TM}{h H₀:Heap}{vs ps}(x:jz T vs ps):AU c T h H₀ vs (sF ps):=by
 induction x with
 |nil=>exact .nil
 |cons h _ ih=>exact F2.cons ⟨h.1,0,.fz h.2⟩ ih
theorem Cr{ps:List (Str×AV)}:k7 (sF ps):=by
 have:∀{ps:List (Str×AV)}{x e},(sF ps).lookup x=some e->e.owned=false:=by
  intro ps
  induction ps with
  |nil=>intro x e h;simp[sF]at h
  |cons p ps ih=>
   intro x e h;simp only[sF,List.map_cons,List.lookup_cons]at h;split at h
   . obtain rfl:=Option.some.inj h;rfl
   . exact ih h
 exact λx y e f hx _ i _=>absurd ((this hx).symm.trans i) Bool.false_ne_true
theorem mh(O:aM c){f fd body xs kx ps}{r:AV}{k:Nat}(X:sw c.K f fd body)(hb:Eu c fd xs kx ps)(B:j7 fd.scope (ps.map (·.1)))
 (J:∀env u,env.scope=fd.scope->(env.code=fd.code/\env.qual=fd.qualname++".<locals>.")->bq u k->∃o,dG c env u (sF ps) body o/\((∃σ,o= .ret r σ)\/(r= .none/\∃σ,o= .next σ))):dz c f xs kx r (k+1):=λA T s vs N P w hv Q=>by
 refine ab (hb T s vs N w hv Q) λF h1 h2=>?_;refine iQ O X P w (.refl ..) w h1 (An h2) (by rw[h2.keys];exact B) Cr λenv u e U R G S H=>?_;obtain⟨o,I,⟨σ,rfl⟩|⟨rfl,σ,rfl⟩⟩:=J env u e U R
 . exact wpAny_mono (I T s T G S H) (λfl s'⟨v,T',e,i,_,W⟩=>⟨v,by rw[e],T',i.e,i.w,W⟩) λ_ _ z=>z
 . exact wpAny_mono (I T s T G S H) (λfl s'⟨e,T',i,_⟩=>⟨.none,by rw[e],T',i.e,i.w,.none⟩) λ_ _ z=>z
end
set_option backward.match.sparseCases false
set_option tactic.hygienic false
theorem depth_under_make(A:Around)(C:Addr)(f:List Value):(A.under (.builtin "type.__call__" ⟨.ref C::f,[]⟩)).depth=A.depth+1:=by
 show A.depth+(Code.builtin "type.__call__" ⟨.ref C::f,[]⟩).weight=_;have:(Code.builtin "type.__call__" ⟨.ref C::f,[]⟩).weight=1:=by rfl
 rw[this]
theorem jg(A:Around)(C:Addr)(f:List Value)(h:A.guards=some []):(A.under (.builtin "type.__call__" ⟨.ref C::f,[]⟩)).guards=some []:=by
 show pushGuards (Code.builtin "type.__call__" ⟨.ref C::f,[]⟩).guards A.guards=_;have:(Code.builtin "type.__call__" ⟨.ref C::f,[]⟩).guards=[]:=by rfl
 rw[this,h];rfl
theorem cD.make{A:Around}{k:Nat}(x:cD A (k+1))(C:Addr)(f:List Value):cD (A.under (.builtin "type.__call__" ⟨.ref C::f,[]⟩)) k:=
 ⟨by rw[depth_under_make];have:=x.depth;lia,by rw[units_under_make];have:=x.units;lia,jg A C f x.guards,x.handled⟩
section
variable{c:Cx}{A:Around}
inductive Us(c:Cx)(T:TM)(s:Shared)(a C:Addr)(fl:List (Str×AV))(r:Result)(s':Shared):Prop
 |mk (q:r= .ok (.ret .none)) (T':TM) (e:bF c T s T' s') (w:W c T' s'.heap) (t:T' a=some (.obj C fl))
noncomputable def sr(c:Cx)(C f:Addr)(xs:List AV)(fl:List (Str×AV))(k:Nat):Prop:=
 ∀A T s bp aS a d vs,cD A k->W c T s.heap->bF c T s bp aS->W c bp aS.heap->bp a=some (.obj C [])->aS.heap.get? a=some (instObj C d)->s.heap.get? a=none->dx bp vs xs->
  codeAny c.M A (.call (.ref f) ⟨.ref a::vs,[]⟩) (Us c T s a C fl) aS
noncomputable def LB(c:Cx)(fd:FuncData)(self:Str)(xs:List AV)(ps:List (Str×AV)):Prop:=
 ∀T s v vs,W c T s.heap->dx T vs xs->∃binds,BindsTo s fd ⟨v::vs,[]⟩ ((self,v)::binds)/\jz T binds ps
theorem oQ{x a C fl}{ps:List (Str×AV)}:k7 ((x,.self a C fl)::sF ps):=by
 have:∀{ps:List (Str×AV)}{x e},(sF ps).lookup x=some e->e.owned=false:=by
  intro ps
  induction ps with
  |nil=>intro x e h;simp[sF]at h
  |cons p ps ih=>
   intro x e h;simp only[sF,List.map_cons,List.lookup_cons]at h;split at h
   . obtain rfl:=Option.some.inj h;rfl
   . exact ih h
 have key:∀{y e},((x,EV.self a C fl)::sF ps).lookup y=some e->e.owned=true->y=x:=by
  intro y e h o;rw[List.lookup_cons]at h;by_cases q:y=x
  . exact q
  . rw[beq_eq_false_iff_ne.mpr q]at h;rw[this h]at o;exact absurd o Bool.false_ne_true
 intro y z e f hy i u of;rw[key hy u,key i of]
theorem y7(O:aM c){C f fd body self xs ps fl k}(X:sw c.K f fd body)(hb:LB c fd self xs ps)(B:j7 fd.scope (self::ps.map (·.1)))
 (J:∀a env i,env.scope=fd.scope->(env.code=fd.code/\env.qual=fd.qualname++".<locals>.")->bq i k->∃σ,σ.lookup self=some (.self a C fl)/\dG c env i ((self,.self a C [])::sF ps) body (.next σ)):sr c C f xs fl (k+1):=λA T s G N a d vs P w e H Q hx hn hv=>by
 refine ab (hb G N (.ref a) vs H hv) λu h1 h2=>?_;refine iQ O X P w e H h1 (AU.cons (r:=a) (.self hx hn Q) (An h2)) (by rw[List.map_cons,h2.keys];exact B) oQ λenv i e U R W S Y=>?_;refine ab (J a env i e U R) λσ Z h4=>?_;refine wpAny_mono (h4 T s G W S Y) (λeK s'⟨e,T',F,_⟩=>?_) λ_ _ z=>z;rw[e];refine⟨rfl,T',F.e,F.w,?_⟩;refine cq F.f.vals λm ρ V=>?_;refine ab (V.val self _ Z) λv _ I=>?_;generalize ρ self=r at I;obtain⟨rfl,rfl,lo,ty,_,at_⟩:=I.inv;exact ty
structure iR(K:Frag)(C f:Addr):Prop where
 makes:makesIn K C=true
 init:findIn K (.ref C) "__init__"=some (some (.ref f))
 fn:typeIn K (.ref f)=some (.type "function")
theorem AX(O:aM c){C f xs fl k T s vs}(X:iR c.K C f)(hi:sr c C f xs fl k)(J:cD A (k+1))(w:W c T s.heap)(hv:dx T vs xs):wpAny c.M A (call (.ref C) vs) (Got c T s (.obj C fl)) cg s:=by
 refine wpAny_call ?_;have z:=w.gj O;obtain⟨i,g,d,t,u⟩:=s;refine make_core (makes_of z X.makes) (looks_findIn z X.init) (λself=>bind_fn z self X.fn) (.inl rfl) ?_;have hd:((i.push emptyDict).push (instObj C i.objs.size)).get? i.objs.size=some (aC #[] 0):=Heap.get?_push_of_some _ (Heap.get?_push_size _ rfl);have hx:((i.push emptyDict).push (instObj C i.objs.size)).get? (i.objs.size+1)=some (instObj C i.objs.size):=by rw[<-(Heap.size_push ..)];exact Heap.get?_push_size _ rfl
 have up:∀b o,i.get? b=some o->((i.push emptyDict).push (instObj C i.objs.size)).get? b=some o:=λb o e=>Heap.get?_push_of_some _ (Heap.get?_push_of_some _ e);have B:i.get? i.objs.size=none:=aG i;have n1:i.get? (i.objs.size+1)=none:=by
  induction q:i.get? (i.objs.size+1)with
  |none=>rfl
  |some o=>exact absurd (Heap.lt_size q) (Nat.not_lt.mpr (Nat.le_succ _))
 have F:=w.none_of B;have G:i.objs.size≠i.objs.size+1:=Nat.ne_of_lt (Nat.lt_succ_self _);have N:bF c T ⟨i,g,d,t,u⟩ T ⟨(i.push emptyDict).push (instObj C i.objs.size),g,d,t,u⟩:=bF.grown (s:=⟨i,g,d,t,u⟩) up t;have P:=(w.grown up).type (ty:= .bA (i.objs.size+1)) F (w.free B) (.bA hd);have H:fw T i.objs.size (.bA (i.objs.size+1)) (i.objs.size+1)=none:=by rw[dq (Ne.symm G)];exact(w.none_of n1)
 have own:fw (fw T i.objs.size (.bA (i.objs.size+1))) (i.objs.size+1) (.obj C []) i.objs.size=some (.bA (i.objs.size+1)):=by rw[dq G];exact bP
 have Q:=P.type (a:=i.objs.size+1) (ty:= .obj C []) H (w.free n1) ⟨i.objs.size,λ_=>none,#[],0,hx,own,hd,
  ⟨_,#[],0,hd,rfl,λe he=>by simp at he,λx=>rfl⟩,(λk=>by
   by_cases q:k=aB
   . exact(if_pos q).mpr λv e=>ad e
   . exact(if_neg q).mpr rfl),(λk x e=>ad e),by exact Nat.le_refl _,by exact Nat.zero_le _⟩
 have I:=(N.type (ty:= .bA (i.objs.size+1)) F B).type (a:=i.objs.size+1) (ty:= .obj C []) H n1;refine codeAny_mono (hi _ T ⟨i,g,d,t,u⟩ _ _ (i.objs.size+1) i.objs.size vs (J.make C vs) w I Q bP hx n1 (hv.mono I.le)) λr s'⟨e,T',U,Y,Z⟩=>?_;subst e;exact⟨rfl,T',U,Y,.obj Z (.inl rfl)⟩
variable{env:Env}{H₀:Heap}{σ:ah}
theorem CD(O:aM c){id p es xs pos C f fl k}(hn:kq c env A H₀ σ (.Name id p) (.ref C))(B:keepIn c.K (.ref C)=true)(i:dT c env A H₀ σ es xs)(X:iR c.K C f)(hi:sr c C f xs fl k)(G:cD A (k+1)):
 bQ c env A H₀ σ (.Call (.Name id p) es [] pos) (.obj C fl):=λT s w F=>by
 rw[arm_eval_Call_Name'];refine wpAny_bind (wpAny_mono (hn T s w F) (λv s'⟨H,I⟩=>?_) λ_ _ z=>z);subst H;subst I;refine callWith_of (P:=λh=>c.K.In h) (by rw[bW pos i.noStar];rfl) (keeps_K B) ?_;refine dk i w F λvs T' s' ex u J=>⟨u.gj O,?_⟩;exact wpAny_mono (AX O X hi G u J) (λv N g=>g.trans ex) λ_ _ z=>z
end
set_option tactic.hygienic true
structure sq(K:Frag)(C:Addr):Prop where
 cls:f5 K C
 set:iu K C
 key:findIn K (.ref C) aB=some (some .none)
section
variable{c:Cx}{env:Env}{A:Around}{H₀:Heap}{σ:ah}
theorem oS(K:Frag):specialIn K .none "__get__"=some none:=by rfl
noncomputable def pU(h:Heap)(v:Value)(C:Addr)(x:Str):Prop:=∃a d m t es n,v= .ref a/\h.get? a=some (instObj C d)/\h.get? d=some (aC es n)/\h.Ns d m/\m aB=some (.str x t)
theorem vM(O:aM c){T s v C x}{f:Bool}{E}{Q:Value->Shared->Prop}(Z:sq c.K C)(w:W c T s.heap)(k:pU s.heap v C x)(h:∀t tk,Q (.str x t) {s with toks:=tk}):wpAny c.M A (getAttr v aB f) Q E s:=by
 obtain⟨a,d,m,t,u,n,rfl,at_,i,ns,q⟩:=k;refine get_value (w.gj O) (⟨at_,rfl,rfl,i⟩) Z.cls.get (findObj_own Z.cls.has Z.key ?_ ?_) rfl (h t _)
 . show(specialIn c.K .none "__get__"==some none)=true;rw[oS];rfl
 . rw[eB ns i,q]
theorem sJ(O:aM c){T s v C fl}{z:Bool}(Z:sq c.K C)(G:bS C fl=true)(w:W c T s.heap)(r:VR T v (.obj C fl)):
 wpAny c.M A (getAttr v aB z) (λu s'=>(∃t,s'={s with toks:=t})/\(u= .none\/∃x t,u= .str x t/\c.tx (.obj C fl)=some x/\pU s.heap v C x)) cg s:=by
 refine cP r.inv λa H J ht N=>?_;subst J;have:fl=H:=by
  rcases N with h|⟨_,h⟩
  . exact h
  . rw[G]at h;exact absurd h.symm Bool.false_ne_true
 subst this;obtain⟨d,m,F,n,at_,own,f,ns,i,names,Q⟩:=(w.ok _ _ ht).inv;have I:InstAt s.heap a (instObj C d) C (some (aC F n)):=⟨at_,rfl,rfl,f⟩;have B:=i aB;have P:fl.lookup aB=none:=by
  induction e:fl.lookup aB with
  |none=>rfl
  |some y=>exact absurd (names _ _ e) (by decide)
 rw[P]at B;simp only[if_true]at B
 induction q:m aB with
 |none=>refine get_value (w.gj O) I Z.cls.get (findObj_cls Z.cls.has Z.key (oS _) rfl (by decide+kernel) ?_) rfl ⟨⟨_,rfl⟩,.inl rfl⟩;rw[eB ns f,q]
 |some u=>
  obtain⟨_,x,t,rfl,hx⟩:=B u q;refine get_value (w.gj O) I Z.cls.get (findObj_own Z.cls.has Z.key ?_ ?_) rfl ⟨⟨_,rfl⟩,.inr ⟨x,t,rfl,hx,a,d,m,t,F,n,rfl,at_,f,ns,q⟩⟩
  . show(specialIn c.K .none "__get__"==some none)=true;rw[oS];rfl
  . rw[eB ns f,q]
theorem vK(O:aM c){T s v C fl x t}{E}{Q:Unit->Shared->Prop}(Z:sq c.K C)(z:bS C fl=true)(hx:c.tx (.obj C fl)=some x)(w:W c T s.heap)(r:VR T v (.obj C fl))
 (h:∀s',bF c T s T s'->W c T s'.heap->pU s'.heap v C x->Q () s'):wpAny c.M A (setAttr v aB (.str x t)) Q E s:=by
 refine cP r.inv λa I J ht N=>?_;subst J;have:fl=I:=by
  rcases N with h|⟨_,h⟩
  . exact h
  . rw[z]at h;exact absurd h.symm Bool.false_ne_true
 subst this;obtain⟨d,m,P,n,at_,own,i,ns,f,names,B,U⟩:=(w.ok _ _ ht).inv;have X:P.size<=1000:=by split at B<;>lia
 refine lg (w.gj O) Z.set (.inr rfl) at_ i ns X λh' Y n' F G H u=>?_;have JM:=(w.lo _ _ own);have ex:bF c T s T {s with heap:=h',toks:=s.toks+2}:=⟨λ_ _ e=>e,λb o q1 q2 q3=>(u.2 b (λq=>by subst q;exact q1 _ own)).trans q3,λ_ _ _ _ e=>e,λh=>h,rfl⟩;refine h _ ex (w.Fd ht own at_ z hx U ?_ f names F G u) ⟨a,d,_,t,Y,n',rfl,(u.2 _ (gu ht own).symm).trans at_,F,G,if_pos rfl⟩;split at B<;>rename_i q
 . rw[if_pos q]at H;(clear q;lia)
 . rw[if_neg q]at H;(clear q;lia)
end
set_option tactic.hygienic false
section
variable{c:Cx}{env:Env}{A:Around}{H₀:Heap}{σ:ah}
theorem lh{o:Expr}{name:Str}{i pos:Pos}{B:Value}{n:Nat}{f:List (Bool×Sem Value)}{u:List (Option Str×Sem Value)}{s:Shared}{Q:Value->Shared->Prop}{E}(hl:(i.endLine==pos.line)=true)(hn:n<29)(F:f.any (·.1)=false)(G:u.all (·.1.isSome)=true)
 (H:∀I,wpAny c.M A (getMethod B name I) (λfx s'=>wpAny c.M A (callWith pos fx.1 fx.2 f u) Q E s') E s):wpAny c.M A (methodCall o name i pos env B n f u) Q E s:=by
 unfold methodCall;have hf:methodCallForm n f u=true:=by
  unfold methodCallForm;have:f.all (λx=> !x.1)=true:=by rw[List.all_eq_true];intro x hx;rw[List.any_eq_false]at F;simpa using F x hx
  rw[this,G];rw[Bool.true_and];apply decide_eq_true;split<;>lia
 rw[hf];unfold calleeOf methodCallPos;rw[if_pos rfl];refine wpAny_bind (wpAny_holding (wpAny_mono (H _) (λfx s' h=>?_) λ_ _ z=>z));rw[hl];exact wpAny_bind (wpAny_pure h)
theorem km(O:aM c){o name apos pos es xs C fl f r k kn ke kp y}(hb:bk o=true)(Z:bQ c env A H₀ σ o (.obj C fl))(X:f5 c.K C)(hm:jM c.K C name=some f)(h1:az.contains name=false)(h2:name≠aB)
 (hk:keepIn c.K (.ref f)=true)(G:dT c env A H₀ σ es xs)(Tg:bQ c env A H₀ σ ke y)(hc:dz c f (.obj C fl::xs) [(kn,y)] r k)(R:cD A k)(hl:(apos.endLine==pos.line)=true)(hn:es.length<20):
 bQ c env A H₀ σ (.Call (.Attribute o name apos) es [⟨some kn,ke,kp⟩] pos) r:=λT s w F=>by
 rw[arm_eval_Call,dw hb];refine Z.then w F λv T1 s1 e1 I Q r1=>wpAny_bind (wpAny_standAt ?_);refine lh hl (by simp;lia) (bW pos G.noStar) rfl λpl=>iV O X hm h1 h2 I r1 ?_;refine callWith_of (P:=λh=>c.K.In h) (by rw[bW pos G.noStar];rfl) (keeps_K hk) ?_;have last:∀vs i B,bF c T1 s1 i B->W c i B.heap->dx i vs xs->wpAny c.M A (evalAll ((backToKw pos (keywordEach [⟨some kn,ke,kp⟩] env)).map (·.2)))
    (λks U=>c.K.In U.heap/\wpAny c.M A (call (.ref f) ([v]++vs) (((backToKw pos (keywordEach [⟨some kn,ke,kp⟩] env)).filterMap (·.1)).zip ks)) (Got c T s r) cg U) cg B:=λvs i B H J r2=>by
  show wpAny _ _ (evalAll [do let v<-eval ke env;standAt pos;pure v]) _ _ _;refine wpAny_evalAll_cons (Tg.then J (Q.ext H) λu T3 s3 N Y F3 r3=>wpAny_bind (wpAny_standAt (wpAny_pure (wpAny_evalAll_nil ⟨Y.gj O,?_⟩))));show wpAny _ _ (call (.ref f) (v::vs) [(kn,u)]) _ _ _;exact wpAny_mono (hc.run R Y (.cons (r1.mono (H.le.trans N.le)) (r2.mono N.le)) (.cons r3 .nil)) (λq s4 g=>((g.trans N).trans H).trans e1) λ_ _ z=>z
 induction es using List.casesOn with
 |nil=>obtain rfl:=(F2.flip G).inv;exact evalArgs_kw2_nil rfl (last [] T1 s1 (.refl ..) I .nil)
 |cons=>refine cP ((F2.flip G).inv) λ_ _ bg h t=>?_;subst bg;exact evalArgs_kw2 rfl (wpAny_mono (G.run (pos:=pos) I Q) (λvs B⟨i,H,J,r2⟩=>last vs i B H J r2) λ_ _ z=>z.elim) (aA h.1)
theorem mW{self attr p q v s}{Q:Value->Shared->Prop}(hd:(self==("__debug__":Str))=false)(i:wpAny c.M A (loadName env self) (λf s'=>f=v/\s'=s) cg s)(B:wpAny c.M A (getAttr v attr true) Q cg s):
 wpAny c.M A (eval (.Attribute (.Name self p) attr q) env) Q cg s:=by
 rw[arm_eval_Attribute,dw rfl];refine wpAny_bind (wpAny_Name (wpAny_mono i (λf s'⟨F,G⟩=>?_) λ_ _ z=>z) hd);subst F;subst G;exact wpAny_bind (wpAny_standAt (wpAny_bind (wpAny_holding (wpAny_mono B (λu H g=>wpAny_bind (wpAny_letTemporaryGo (wpAny_pure g))) λ_ _ z=>z))))
theorem yK(O:aM c){C fl x e0 self p1 p2 kk p3 p4 p5 p6 p7 p8 p9 LD IC}(Z:sq c.K C)(J:bS C fl=true)(hx:c.tx (.obj C fl)=some x)(hd:(self==("__debug__":Str))=false)(h0:gz e0=false)
 (B:env.kindOf self=some .local)(Y:σ.lookup self=some (.fz (.obj C fl)))(he:∀H₀,bQ c env A H₀ σ e0 (.str x)):
 dG c env A σ [.If (.Compare (.Attribute (.Name self p1) aB p2) [.Is] [.Constant .none kk p3] p4) [.Assign [.Attribute (.Name self p5) aB p6] e0 p7] [] p8,.Return (some (.Attribute (.Name self p9) aB LD)) IC] (.ret (.str x) σ):=λaj ae T s S oc=>by
 refine cq S.f.vals λm ρ V=>?_;refine ab (V.val self _ Y) λv h1 h2=>?_;have hm:m self=some v:=by
  rcases h1 with⟨_,h1⟩|⟨h1|⟨h1,_⟩,_⟩
  . exact h1
  . injection B.symm.trans h1 with z;injection z
  . injection B.symm.trans h1 with z;injection z
 have N:VR T v (.obj C fl):=h2;have load:∀{T1 s1},FR c env ae.heap σ T1 s1.heap->ig c env ae.heap σ T1 s1.heap m ρ->wpAny c.M A (loadName env self) (λP s'=>P=v/\s'=s1) cg s1:=λF1 F=>wpAny_loadName_local F1.kind B F.ns hm ⟨rfl,rfl⟩;have g8:∀T1 s1,St c aj ae env σ T1 s1->ig c env ae.heap σ T1 s1.heap m ρ->Le T s T1 s1->pU s1.heap v C x->wpAny c.M A (execs [.Return (some (.Attribute (.Name self p9) aB LD)) IC] env) (f0 c aj ae env T s (.ret (.str x) σ)) cg s1:=λT1 s1 i F l1 k1=>by refine wpAny_execs_cons (wpAny_Return_some (mW hd (load i.f F) (vM O Z i.w k1 λt tk=>?_)));exact⟨_,T1,rfl,i.toks tk,⟨l1.le,l1.wX⟩,.str _ _⟩
 refine wpAny_execs_cons (wpAny_If ?_);rw[arm_isTrue_Compare];refine wpAny_bind (mW hd (load S.f V) (wpAny_mono (sJ O Z J S.w N) (λu s1⟨⟨tk,G⟩,hu⟩=>?_) λ_ _ z=>z));subst G;rw[cG rfl];refine wpAny_bind (wpAny_holding (wpAny_Constant_none ?_));refine wpAny_bind (wpAny_standAt (wpAny_bind (wpAny_operate' (is_none ?_))));refine wpAny_holding (wpAny_truthy_bool ?_);have i:=S.toks tk;rcases hu with rfl|⟨x',t',rfl,sD,ks⟩
 .
  refine wpAny_execs_cons (wpAny_Assign_stores (wpAny_mono (he _ T _ i.w i.f) (λu s2⟨Q,H,U,r2⟩=>?_) λ_ _ z=>z) (gQ h0) rfl);refine af (i.kp H U) λI l2=>?_;have W:=V.ext (s:={s with toks:=tk}) i.f H;show wpAny _ _ (assign (.Attribute (.Name self p5) aB p6) env u) _ _ _;rw[arm_assign_Attribute];refine wpAny_bind (wpAny_holding (wpAny_Name (wpAny_mono (load I.f W) (λP s3⟨G,e3⟩=>?_) λ_ _ z=>z) hd));subst G;subst e3;refine wpAny_bind (wpAny_standAt (wpAny_bind (wpAny_holding ?_)));refine ax r2.inv λt2 aK=>?_;subst aK;refine vK O Z J hx U (N.mono H.le) λs4 X w4 k4=>wpAny_release (wpAny_execs_nil ?_);refine af (I.kp X w4) λS4 l4=>?_;exact g8 Q s4 S4 (W.ext I.f X) ((⟨l2.le,l2.wX⟩:Le T s Q _).trans l4) k4
 . show wpAny _ _ (execs [] env) _ _ _;obtain rfl:=Option.some.inj (hx.symm.trans sD);exact wpAny_execs_nil (g8 T _ i V ⟨.refl T,λ_ _ _ _ _ e=>e⟩ ks)
end
section
variable{c:Cx}{env:Env}{A:Around}{H₀:Heap}{σ:ah}
noncomputable def zm(x y:Str)(a b:Int)(σ:ah):Prop:=σ.lookup x=some (.fz (.int a))/\σ.lookup y=some (.fz (.int b))
theorem zj{a b:Int}(h:b≠0):Int.gcd b (a.fmod b)=Int.gcd a b/\(a.fmod b).natAbs<b.natAbs:=by
 refine⟨?_,?_⟩
 . have e:a.fmod b=a+(-(a.fdiv b))*b:=by
    rw[Int.fmod_def,Int.neg_mul,Int.mul_comm b];rfl
   rw[e,Int.gcd_add_mul_right_right,Int.gcd_comm]
 . refine Or.elim (Int.lt_or_gt_of_ne h) (λh=>?_) λh=>?_
   . have h1:=Int.fmod_lt_of_pos (-a) (Int.neg_pos_of_neg h);have h2:=Int.fmod_nonneg_of_pos (-a) (Int.neg_pos_of_neg h);rw[Int.neg_fmod_neg]at h1 h2;rw[<-Int.natAbs_neg (a.fmod b),<-Int.natAbs_neg b];exact Int.natAbs_lt_natAbs_of_nonneg_of_lt h2 h1
   . exact Int.natAbs_lt_natAbs_of_nonneg_of_lt (Int.fmod_nonneg_of_pos a h) (Int.fmod_lt_of_pos a h)
theorem FR.weak{T h σ'}(F:FR c env H₀ σ T h)(i:∀x e,σ'.lookup x=some e->σ.lookup x=some e):FR c env H₀ σ' T h:=by refine cq F.vals λm ρ V=>?_;exact⟨F.kind,F.glob,F.blt,F.jx,F.loc,F.fE,F.cells,F.inj,F.own,m,ρ,V.ns,λx y e f hx hy=>V.inj x y e f (i x e hx) (i y f hy),λx e hx=>V.apart x e (i x e hx),λx e hx=>V.val x e (i x e hx)⟩
theorem St.weak{aj ae T s σ'}(S:St c aj ae env σ T s)(i:∀x e,σ'.lookup x=some e->σ.lookup x=some e):St c aj ae env σ' T s:=⟨S.w,S.e,S.f.weak i,S.hO⟩
theorem xX{T:TM}{h:Heap}{v:Value}{x y:AV}(w:W c T h)(r:VR T v (.tup [x,y])):∃t n v1 f,v= .ref t/\h.get? t=some (iz #[v1,f] n)/\VR T v1 x/\VR T f y:=by refine ab r.inv λt e ht=>?_;refine aP ((w.ok _ _ ht).inv) λvs n at_ items=>?_;refine cP items.two λv1 f i q1 q2=>?_;obtain rfl:vs= #[v1,f]:=Array.toList_inj.mp i;exact⟨t,n,v1,f,e,at_,q1,q2⟩
theorem Cy(G:A.handled=none){x y elts k EM val pos}{u1 u2:AV}(hx:env.kindOf x=some .local)(hy:env.kindOf y=some .local)(hv:∀H₀,bQ c env A H₀ σ val (.tup [u1,u2]))(H:swapsWithSole [.Tuple elts k EM] val pos.line env=pure false)
 (I:swappedStores [.Tuple elts k EM] val env=pure (some [x,y])):ju c env A σ (.Assign [.Tuple elts k EM] val pos) (.next (aQ (aQ σ y (.fz u2)) x (.fz u1))):=λaj ae T s S u=>by
 refine Assign_Tuple_swapped (names:=[x,y]) (wpAny_mono (hv _ T s S.w S.f) (λv B⟨J,N,i,r3⟩=>?_) λ_ _ z=>z.elim) H I;refine af (S.kp N i) λO P=>?_;obtain⟨t,n,v1,Q,rfl,at_,q1,q2⟩:=xX i r3;refine unpackItems_tuple (items:= #[v1,Q]) G ⟨_,at_,rfl,_,rfl⟩ λh' U=>?_;have F:∀b o,B.heap.get? b=some o->h'.get? b=some o:=λb o e=>U b o (Nat.ne_of_lt (Heap.lt_size e)) e;refine af (O.kp (bF.grown F B.toks) (i.grown F)) λW X=>?_;exact wpAny_bind (wpAny_holding (wpAny_bindName (gk W (u y) (.inl hy) q2 λs5 Y Mz=>wpAny_bind (wpAny_holding (wpAny_bindName (gk Y (u x) (.inl hx) q1 λs6 Z R5=>wpAny_pure ⟨rfl,J,Z,((P.trans X).trans Mz.le).trans R5.le⟩))))))
theorem zG{t body p}(I:Nat->ah->Prop)(D:ah->Prop)(step:∀n σ,I n σ->∃b,(∀H₀,iU c env A H₀ σ t b)/\(if b then∃m σ',m<n/\I m σ'/\dG c env A σ body (.next σ')else D σ))
 {n σ rest o}(h:I n σ)(r:∀σ,D σ->dG c env A σ rest o):dG c env A σ (.While t body [] p::rest) o:=λaj ae T s S B=>by
 refine wpAny_execs_cons (wpAny_While (codeAny_whileLoop (λk s'=>∃i u,I k i/\St c aj ae env i u s'/\Le T s u s') ?_ n ⟨σ,T,h,S,.refl ..⟩));rintro k s' ⟨i,u,hi,Si,li⟩;refine ab (step k i hi) λb ht hb=>?_;refine bT (wpAny_mono (ht _ u s' Si.w Si.f) (λJ F⟨N,G,O,P⟩=>?_) λ_ _ z=>z);subst N;refine af (Si.kp O P) λH l2=>?_
 induction J with
 |false=>exact wpAny_execs_nil (wpAny_mono (r i hb aj ae G F H B) (λf Q q=>q.from (li.trans l2)) λ_ _ z=>z)
 |true=>refine cP hb λm σ' U hI hx=>?_;exact bT (wpAny_mono (hx aj ae G F H B) (λf Q⟨e,W,X,Y⟩=>by subst e;exact⟨m,U,σ',W,hI,X,(li.trans l2).trans Y⟩) λ_ _ z=>z)
theorem zl(G:A.handled=none){x y id p0 p1 p2 p3 p4 p5 p6 p7 p8 p9 LD IC Sg Sf Se k1 k2}{a b:Int}(hx:env.kindOf x=some .local)(hy:env.kindOf y=some .local)(H:x≠y)(B:(x==("__debug__":Str))=false)(u:(y==("__debug__":Str))=false)
 (I:swappedStores [.Tuple [.Name x p1,.Name y p2] k1 p3] (.Tuple [.Name y p4,.BinOp (.Name x p5) .Mod (.Name y p6) p7] k2 p8) env=pure (some [x,y]))(J:∀H₀ σ,kq c env A H₀ σ (.Name id IC) (.builtin "abs"))(N:zm x y a b σ):
 dG c env A σ [.While (.Name y p0) [.Assign [.Tuple [.Name x p1,.Name y p2] k1 p3] (.Tuple [.Name y p4,.BinOp (.Name x p5) .Mod (.Name y p6) p7] k2 p8) p9] [] LD,.Return (some (.Call (.Name id IC) [.Name x Sg] [] Sf)) Se] (.ret (.int (Int.gcd a b)) []):=by
 refine zG (λk σ=>∃i bi,k=bi.natAbs/\Int.gcd i bi=Int.gcd a b/\zm x y i bi σ) (λσ=>∃i,Int.gcd i 0=Int.gcd a b/\zm x y i 0 σ) ?_ ⟨a,b,rfl,rfl,N⟩ ?_
 . rintro _ Dm ⟨i,bi,rfl,hg,hi⟩;refine ag (bi !=0) (λH₀=>xk rfl (bY hi.2 u) λT s v w r=>oo (x:= .int bi) rfl w r) ?_;by_cases hb:bi=0
   . subst hb;exact ag i hg hi
   . have F:(bi !=0)=true:=bne_iff_ne.mpr hb;rw[if_pos F];refine af (zj (a:=i) hb) λO P=>?_;refine t4 _ _ P ⟨bi,i.fmod bi,rfl,O.trans hg,?_⟩ (rM (Cy G (u1:= .int bi) (u2:= .int (i.fmod bi)) hx hy (λH₀=>ma (.cons rfl (bY hi.2 u) (.cons rfl (rQ (bY hi.1 B) (bY hi.2 u) (x6 (by unfold binI;rw[F];rfl))) .nil)) (Nat.le_of_ble_eq_true rfl)) rfl I) u7);exact⟨by rw[dP,if_pos rfl],by rw[dP,if_neg (Ne.symm H),dP,if_pos rfl]⟩
 . rintro Dm ⟨i,hg,hi⟩ aj ae T s S oc;refine wpAny_execs_cons (wpAny_Return_some (wpAny_mono (df (J _ _) (.a rfl (bY hi.1 B) .nil) Aq T s S.w S.f) (λv Z⟨Q,U,W,r3⟩=>?_) λ_ _ z=>z));refine af (S.kp U W) λX Y=>?_;have e:(if i<0 then-i else i)=(Int.gcd a b:Int):=by
    rw[<-hg,Int.gcd_zero];exact QL i
   exact⟨v,Q,rfl,X.weak (λx e h=>nomatch h),Y,e▸r3⟩
end
structure Lu(c:Cx)(C:Addr)(tb:Value)(f:Addr):Prop where
 eq:Dk c C tb f
 ne:findIn c.K (.ref C) "__ne__"=some (some (.builtin "object.__ne__"))
 plain:plainOver c.K C=true
section
variable{c:Cx}{env:Env}{A:Around}{H₀:Heap}{σ:ah}
theorem tI{M:Model}{s:Shared}{x C:Addr}{ox od}{f:List Value}{Q:Option Value->Shared->Prop}{E}{K:Frag}(X:K.In s.heap)(I:InstAt s.heap x ox C od)(i:findIn K (.ref C) "__ne__"=some (some (.builtin "object.__ne__")))
 (h:wpAny M A (call (.builtin "object.__ne__") (.ref x::f)) (λv=>Q (some v)) E s):wpAny M A (callSpecialIfBound? (.ref x) "__ne__" f) Q E s:=by
 unfold callSpecialIfBound? bindSpecialIfBound?;refine wpAny_holding (wpAny_bind (wpAny_bind (wpAny_bind (I.type.here ((looks_findIn X i).here ?_)))));refine wpAny_bind (wpAny_askSetting (wpAny_ite ?_));have g8:wpAny M A (call (.builtin "object.__ne__") ([.ref x]++f)>>=λv=>pure (some v)) Q E s:=wpAny_bind (wpAny_mono h (λv s' h'=>wpAny_pure h') λ_ _ h'=>h');have hb:bindSpecial (.builtin "object.__ne__") (.ref x)=pure (.builtin "object.__ne__",[.ref x]):=PySem.F.cmp_object.ne.bind _;refine Jl (λ_=>?_) λ_=>?_
 . rw[hb];exact wpAny_bind (wpAny_pure (wpAny_pure (by exact g8)))
 . rw[hb];exact wpAny_tryCatch (wpAny_bind (wpAny_pure (wpAny_pure (by exact g8))))
theorem CU{s:Shared}{x C f:Addr}{ox od}{v:Value}{Q:Value->Shared->Prop}{E}{K:Frag}(X:K.In s.heap)(I:InstAt s.heap x ox C od)(z:plainOver K C=true)(he:findIn K (.ref C) "__eq__"=some (some (.ref f)))(hf:isFn K (.ref f)=true)(B:A.units+1<cLine)
 (G:wpAny c.M A.in1 (call (.ref f) [.ref x,v]) (λr s'=>∃b,r= .bool b/\Q (.bool (!b)) s') E s):wpAny c.M A (call (.builtin "object.__ne__") [.ref x,v]) Q E s:=by
 refine ab (any_some z) λu H i=>?_;have ne:u.mro.isEmpty=false:=by induction q:u.mro using List.casesOn with|nil=>rw[q]at i;injection i|cons _ _=>rfl
 have sub:Looks c.M s.heap (isInstance (.ref x) (.type "object")) true:=I.type.andThen (looks_mroIn X (by unfold mroIn;rw[H,Option.bind_some,if_neg (by rw[ne];decide),only_has i]));refine wpAny_call (codeAny_call_builtin PySem.F.cmp_object.ne.plain PySem.F.cmpEntry_ne (@check_slot c.M _ _ s "object.__ne__" "object" "__ne__" (.ref x) [v] [] _ PySem.F.cmpKind_ne PySem.F.cmpSplit_ne sub (PySem.F.cmpArgs_ne _ _) ?_));unfold Builtin.«object.__ne__»;refine wpAny_bind (wpAny_pure ?_);refine wpAny_bind (wpAny_cRoomFor (by rw[Around.in1_units];exact B) ?_);refine wpAny_bind (ifBound_K X I he hf (wpAny_mono G (λr s' hr=>?_) λ_ _ e=>e));refine ab hr λb J N=>?_;clear hr;subst J;exact wpAny_bind (wpAny_truthy_bool (wpAny_pure N))
theorem KU(O:aM c){C fl y f b k}(X:Lu c C (iW y) f)(J:dz c f [.obj C fl,y] [] (.bool b) k)(R:bq A k):sy c A .NotEq (.obj C fl) y (!b):=λT s u v w G H=>by
 obtain⟨a,d,m,Q,n,rfl,I⟩:=il w G;have i:=w.gj O;have one:wpAny c.M A (tryCompare (.ref a) (cmpInfo .NotEq).2.1 v) (λr s'=>∃v,r=some v/\Got c T s (.bool (!b)) v s') cg s:=by unfold tryCompare;refine wpAny_bind (tI i I.inst X.ne (CU i I.inst X.plain X.eq.find X.eq.fn R.r.I5 (wpAny_mono (J.run (R.r.in1 (by have:=R.u;lia)) w (.cons G (.cons H .nil)) .nil) (λz s' q=>?_) λ_ _ z=>z)));obtain⟨T',ex,N,P⟩:=q;obtain rfl:=P.inv;exact ag b rfl (wpAny_pure ⟨_,rfl,T',ex,N,.bool _⟩)
 show wpAny _ _ (richCompare .NotEq (.ref a) v) _ _ _;unfold richCompare;dsimp only[oneThing_ref];refine wpAny_holding (wpAny_bind (wpAny_cRoomFor R.r.line ?_));refine wpAny_bind (I.inst.type.here (wpAny_bind ((xh w H).here (wpAny_ite_split (λq=>?_) λ_=>?_))))
 . have e:subIn c.K (iW y) (.ref C)=some false:=by
    refine Or.elim (Bool.or_eq_true_iff.mp X.eq.notFirst) (λe=>?_) λe=>?_
    . rw[beq_iff_eq.mp e]at q;simp at q
    . exact beq_iff_eq.mp e
   refine wpAny_bind ((looks_subIn i e).here ?_);simp only[Bool.false_eq_true,if_false];refine wpAny_bind (wpAny_mono one (λr s' z=>?_) λ_ _ e=>e);refine ab z λv B F=>?_;clear z;subst B;exact wpAny_pure F
 . refine wpAny_bind (wpAny_pure ?_);simp only[Bool.false_eq_true,if_false];refine wpAny_bind (wpAny_mono one (λr s' z=>?_) λ_ _ e=>e);refine ab z λv B F=>?_;clear z;subst B;exact wpAny_pure F
end
structure Tb where
 glob:Str->Option Value
 bi:Str->Option Value
 cls:Addr->Bool
 cZ:Addr->Str->Option Addr
 prop:Addr->Str->Option Addr
 vQ:Addr->Str->Option Addr
 op:Addr->Operator->Value->Option Addr
 eq:Addr->Value->Option Addr
 neg:Addr->Option Addr
 isin:Value->Value->Option Bool
 eJ:Value->List Value->Option Bool
structure Cb where
 call:Addr->List AV->List (Str×AV)->Option AV
 make:Addr->List AV->Option (List (Str×AV))
 stmt:List (Str×NameKind)->ah->Stmt->Option ah
structure eZ where
 ev:{R:Type}->ah->Expr->(AV->Option R)->Option R
 tr:{R:Type}->ah->Expr->(Bool->Option R)->Option R
noncomputable abbrev dM:=List (Str×NameKind)
noncomputable def zX(x:Str):Bool:=x==("__debug__":Str)
structure VA where
 i:Option Int
 s:Option Str
 l:Option (List AV)
 t:Option (List AV)
 d:Option (List (Str×AV))
noncomputable def vA:AV->VA
 | .int i=>⟨some i,none,none,none,none⟩
 | .str s=>⟨none,some s,none,none,none⟩
 | .list l=>⟨none,none,some l,none,none⟩
 | .tup t=>⟨none,none,none,some t,none⟩
 | .dict d=>⟨none,none,none,none,some d⟩
 |_=>⟨none,none,none,none,none⟩
noncomputable def d8{R:Type}(v:AV)(k:Int->Option R):Option R:=(vA v).i.bind k
noncomputable def b8{R:Type}(v:AV)(k:Str->Option R):Option R:=(vA v).s.bind k
noncomputable def uD{R:Type}(v:AV)(k:List AV->Option R):Option R:=(vA v).t.bind k
noncomputable def d7{R:Type}(v:AV)(k:List AV->Option R):Option R:=(vA v).l.bind k
noncomputable def yb{R:Type}(v:AV)(k:List (Str×AV)->Option R):Option R:=(vA v).d.bind k
noncomputable def TU(e:EV):Option (List AV):=match e with
 | .ol xs=>some xs
 | .fz y=>(vA y).l
 |_=>none
noncomputable def TV(e:EV):Option (List (Str×AV)):=match e with
 | .od xs=>some xs
 | .fz y=>(vA y).d
 |_=>none
noncomputable def sW{R:Type}(xs:List AV)(k:List AV->Option R):Option R:=(one xs).bind λx=>d7 x k
noncomputable def QA(σ:ah)(x:Str):Option (List AV):=if zX x then none else(σ.lookup x).bind TU
noncomputable def M3(σ:ah)(x:Str):Option (List (Str×AV)):=if zX x then none else(σ.lookup x).bind TV
noncomputable def yE{R:Type}(C:eZ)(σ:ah)(e:Expr)(k:List AV->Option R):Option R:=match iH e with
 |some p=>(QA σ p.1).bind k
 |none=>C.ev σ e λv=>d7 v k
noncomputable def GS{R:Type}(C:eZ)(σ:ah)(e:Expr)(k:List (Str×AV)->Option R):Option R:=match iH e with
 |some p=>(M3 σ p.1).bind k
 |none=>C.ev σ e λv=>yb v k
noncomputable def wE(σ:ah)(e:Expr):Option (List (Str×AV)):=(iH e).bind λp=>M3 σ p.1
noncomputable def lZ{R:Type}(f:Expr->(AV->Option R)->Option R):List Expr->(List AV->Option R)->Option R
 |[],k=>k []
 |e::es,k=>if isStarred e then none else f e λx=>lZ f es λxs=>k (x::xs)
noncomputable def Qw(op:Operator)(x y:AV):Option AV:=match x with
 | .int a=>d8 y λb=>binI op a b
 | .str a=>b8 y λb=>if op= .Add/\a.length+b.length<=1000000 then some (.str (a++b))else none
 | .list a=>d7 y λb=>if op= .Add/\a.length+b.length<=1000 then some (.list (a++b))else none
 |_=>none
noncomputable def IE(tb:Tb)(cb:Cb)(op:Operator)(x y:AV):Option AV:=match x with
 | .obj C fl=>(match tb.op C op (iW y)with
   |some f=>cb.call f [.obj C fl,y] []
   |none=>none)
 |x=>Qw op x y
noncomputable def Er:AV->Option Bool
 | .bool b=>some b
 |_=>none
noncomputable def Rq(op:CmpOp)(r:Option AV):Option Bool:=match op with
 | .Eq=>r.bind Er
 | .NotEq=>(r.bind Er).map (!·)
 |_=>none
noncomputable def inR(op:CmpOp)(r:Option Bool):Option Bool:=match op with
 | .In=>r
 | .NotIn=>r.map (!·)
 |_=>none
noncomputable def GZ(tb:Tb)(cb:Cb)(op:CmpOp)(x y:AV):Option Bool:=match x with
 | .int a=>(match(vA y).i with
   |some b=>G4 op a b
   |none=>d7 y λxs=>inR op ((gD xs).map λns=>ns.any (· ==a)))
 | .str a=>(match(vA y).s with
   |some b=>if op= .Eq then some (a==b)else none
   |none=>d7 y λxs=>inR op ((fu xs).map λns=>ns.any (· ==a)))
 | .obj C fl=>(match tb.eq C (iW y)with
   |some f=>Rq op (cb.call f [.obj C fl,y] [])
   |none=>none)
 |_=>none
noncomputable def GY(tb:Tb)(cb:Cb)(op:CmpOp)(x y:AV):Option Bool:=match op with
 | .Is=>if isNone y then some (isNone x)else none
 | .IsNot=>if isNone y then some (!isNone x)else none
 |op=>GZ tb cb op x y
noncomputable def zY:Const->Option AV
 | .none=>some .none
 | .bool b=>some (.bool b)
 | .int i=>some (.int i)
 | .str s=>some (.str s)
 |_=>none
noncomputable def r8(tb:Tb)(cb:Cb)(nm:Str):AV->Option AV
 | .obj C fl=>if tb.cls C then(if az.contains nm then fl.lookup nm else(match tb.prop C nm with|some f=>cb.call f [.obj C fl] []|none=>none))else none
 |_=>none
noncomputable def BU(tb:Tb)(cb:Cb):AV->Option AV
 | .int a=>some (.int (-a))
 | .obj C fl=>(match tb.neg C with|some f=>cb.call f [.obj C fl] []|none=>none)
 |_=>none
noncomputable def fG(xs:List AV):Option AV:=if xs.length<=1000 then some (AV.int xs.length)else none
noncomputable def j4(ns names:dM):dM:=names.map λ(n,k)=>if(k== .free&&ns.lookup n==some .cell)then(n,.cell)else(n,k)
noncomputable def N4:EV->Bool
 | .fz _=>true
 |_=>false
noncomputable def HR(σ:ah)(n:Str):Bool:=(σ.lookup n).any N4
noncomputable def vV(σ:ah):dM->ah
 |[]=>[]
 |(n,k)::r=>if k== .free&&HR σ n then(n,(σ.lookup n).getD (.fz .none))::vV σ r else vV σ r
noncomputable def xM(ns:dM)(σ:ah)(scope:Scope):Bool:=scope.kind== .function&&scope.names.all λx=>x.2 != .cell&&scope.names.lookup x.1==some x.2&&
 (x.2 != .free||(HR σ x.1&&(ns.lookup x.1==some .cell||ns.lookup x.1==some .free)&&x.1 !=("__classdict__":Str)))
noncomputable def o8(e:Expr):Bool:=(vE e).set
noncomputable def uS{R:Type}(v:AV)(k:List (List AV)->Option R):Option R:=match v with
 | .list xs=>k (xs.map λy=>[y])
 | .dict l=>k (l.map λy=>[.str y.1])
 |_=>none
noncomputable def xU(n:Int):Option (List (List AV)):=if 0<=n/\n<=1000 then some ((List.range n.toNat).map λ(i:Nat)=>[.int i])else none
noncomputable def pK(tb:Tb)(ns:dM)(v:Value)(e:Expr):Option (List Expr):=(vE e).call.bind λq=>(iH q.1).bind λp=>if ns.lookup p.1==some .globalImplicit&&tb.bi p.1==some v&&q.2.2.1.isEmpty&&q.2.1.all λa=> !isStarred a then some q.2.1 else none
noncomputable def yU(e:Expr):Option Expr:=(vE e).call.bind λq=>(vE q.1).Hs.bind λa=>if a.2.1==("items":Str)&&bk a.1&&a.2.2.endLine==q.2.2.2.line&&q.2.1.isEmpty&&q.2.2.1.isEmpty then some a.1 else none
noncomputable def tH{R:Type}(tb:Tb)(ns:dM)(C:eZ)(σ:ah)(e:Expr)(k:List (List AV)->Option R):Option R:=
 match(pK tb ns (.type "range") e).bind one with
 |some a=>C.ev σ a λv=>d8 v λn=>(xU n).bind k
 |none=>C.ev σ e λv=>uS v k
noncomputable def tG{R:Type}(tb:Tb)(ns:dM)(C:eZ)(σ:ah)(e:Expr)(k:List (List AV)->Option R):Option R:=
 match yU e with
 |some o=>C.ev σ o λv=>yb v λl=>k (l.map λz=>[.str z.1,z.2])
 |none=>((pK tb ns (.type "zip") e).bind two).bind λp=>C.ev σ p.1 λx=>C.ev σ p.2 λy=>d7 x λxs=>d7 y λys=>k (qs xs ys)
noncomputable def rq{R:Type}(tb:Tb)(ns:dM)(C:eZ)(σ:ah)(e tg:Expr)(k:List (List AV)->Option R):Option R:=match(vE tg).tup with
 |some ts=>(two ts.1).bind λp=>(iH p.1).bind λ_=>(iH p.2).bind λ_=>tG tb ns C σ e k
 |none=>(iH tg).bind λ_=>tH tb ns C σ e k
noncomputable def aE(step:ah->List AV->Acc->Option (ah×Acc)):List (List AV)->ah->Acc->Option (ah×Acc)
 |[],σ,a=>some (σ,a)
 |row::rows,σ,a=>(step σ row a).bind λp=>aE step rows p.1 p.2
noncomputable def H9{R:Type}(C:eZ)(σ:ah)(l:List Expr)(k:Bool->Option R):Option R:=match l with
 |[]=>k true
 |t::l=>if l.isEmpty then C.tr σ t k else none
noncomputable def Ek{R:Type}(C:eZ)(σ:ah)(e:Expr)(a:Acc)(k:Acc->Option R):Option R:=match e with
 | .ListComp elt _ _ _=>(match a with| .l xs=>if xs.length<=1000 then C.ev σ elt λx=>k (.l (xs++[x]))else none| .d _=>none)
 | .DictComp ke v _ _ _=>(match a with| .d l=>if l.length<=1000 then C.ev σ ke λkx=>C.ev σ v λx=>b8 kx λkx=>k (.d (bI l kx x))else none| .l _=>none)
 |_=>none
noncomputable def I4(ns:dM)(xs:List Str):Bool:=xs.all λx=>ns.lookup x==some .local
noncomputable def m8(tb:Tb)(ns:dM)(C:eZ)(e:Expr):Nat->Nat->ah->List AV->Acc->Option (ah×Acc)
 |0,_,_,_,_=>none
 |m+1,d,σ,row,a=>match(clausesOf e)[d]? with
  |some ⟨tg,iter,ifs,Lh⟩=>if Lh==0 then
   H9 C (aX σ (aJ tg) row) ifs λq=>if q=true then(match(clausesOf e)[d+1]? with
    |none=>Ek C (aX σ (aJ tg) row) e a λa1=>some (aX σ (aJ tg) row,a1)
    |some ⟨Do,lL,Gb,Lg⟩=>if Lg==0&& !o8 lL&&I4 ns (aJ Do)then
     rq tb ns C (aX σ (aJ tg) row) lL Do λqU=>aE (m8 tb ns C e m (d+1)) qU (aX σ (aJ tg) row) a
     else none)else some (aX σ (aJ tg) row,a)
   else none
  |none=>none
noncomputable def nN{R:Type}(tb:Tb)(Ef:dM->eZ)(ns:dM)(σ:ah)(e:Expr)(scope:Scope)(a0:Acc)(k:Acc->Option R):Option R:=
 match clausesOf e with
 |⟨tg,iter,ifs,Lh⟩::gs=>if Lh==0&& !o8 iter&&xM ns σ scope&&(aJ tg).all (λx=>scope.names.lookup x==some .local)then
  rq tb ns (Ef ns) σ iter tg λrows=>(aE (m8 tb (j4 ns scope.names) (Ef (j4 ns scope.names)) e 4 0) rows (vV σ scope.names) a0).bind λp=>k p.2
  else none
 |[]=>none
noncomputable def gO:Acc->Option (List AV)
 | .l xs=>some xs
 | .d _=>none
noncomputable def Df:Acc->Option (List (Str×AV))
 | .l _=>none
 | .d xs=>some xs
noncomputable def G8(tb:Tb)(ns:dM)(e:Expr):Option Value:=(iH e).bind λp=>if ns.lookup p.1==some .globalImplicit then(match tb.glob p.1 with|some v=>some v|none=>tb.bi p.1)else none
noncomputable def z7(tb:Tb)(ns:dM):List Expr->Option (List Value)
 |[]=>some []
 |e::es=>if isStarred e then none else(G8 tb ns e).bind λv=>(z7 tb ns es).bind λvs=>some (v::vs)
noncomputable def H6:Value->Option String
 | .builtin s=>some s
 |_=>none
theorem A4{v:Value}{a}(h:H6 v=some a):v= .builtin a:=by induction v using Value.casesOn<;>first|exact ad h|exact congrArg Value.builtin (Option.some.inj h)
theorem yV{c:Prop}[Decidable c]{β:Type}{a b:Option β}{r:β}{Q:Prop}(h:(if c then a else b)=some r)(f:c->a=some r->Q)(i:b=some r->Q):Q:=
 if q:c then f q ((if_pos q).symm.trans h)else i ((if_neg q).symm.trans h)
noncomputable def r7(bi:Value)(xs:List AV):Option AV:=(H6 bi).bind λs=>
 if s="abs" then(one xs).bind λx=>d8 x λa=>some (.int (if a<0 then-a else a))else
 if s="max" then(two xs).bind λp=>d8 p.1 λa=>d8 p.2 λb=>some (.int (if b>a then b else a))else
 if s="min" then(two xs).bind λp=>d8 p.1 λa=>d8 p.2 λb=>some (.int (if b<a then b else a))else
 if s="sum" then(one xs).bind λx=>d7 x λxs=>(gD xs).map λns=> .int ns.sum else
 if s="sorted" then(one xs).bind λx=>d7 x λxs=>if xs.length<64 then(fu xs).map λns=> .list ((dn ns).map .str)else none else none
noncomputable def My{R:Type}(C:eZ)(σ:ah)(args:List Expr)(k:AV->Option R):Option R:=
 (one args).bind λe=>if isStarred e then none else C.ev σ e λx=>d8 x λi=>if Sm i then k (.str (Str.ofString (toString i)))else none
noncomputable def Jo{R:Type}(tb:Tb)(ns:dM)(C:eZ)(σ:ah)(args:List Expr)(k:AV->Option R):Option R:=
 (two args).bind λp=>if isStarred p.1||isStarred p.2 then none else C.ev σ p.1 λx=>(match(vE p.2).tup with
  |some es=>(z7 tb ns es.1).bind λsH=>if sH.length<=1000 then(tb.eJ (iW x) sH).bind λb=>k (.bool b)else none
  |none=>(G8 tb ns p.2).bind λcv=>(tb.isin (iW x) cv).bind λb=>k (.bool b))
noncomputable def Nz{R:Type}(C:eZ)(σ:ah)(args:List Expr)(k:AV->Option R):Option R:=
 (one args).bind λe=>if isStarred e then none else yE C σ e λxs=>(fG xs).bind k
noncomputable def PP{R:Type}(tb:Tb)(ns:dM)(C:eZ)(σ:ah)(id:Str)(v:Value)(args:List Expr)(k:AV->Option R):Option R:=
 if v== .type "str" then My C σ args k
 else if v== .builtin "isinstance" then(if id==("isinstance":Str)then Jo tb ns C σ args k else none)
 else if v== .builtin "len" then(if id==("len":Str)then Nz C σ args k else none)
 else lZ (C.ev σ) args λxs=>(r7 v xs).bind k
noncomputable def BC:Value->Option Addr
 | .ref a=>some a
 |_=>none
noncomputable def En{R:Type}(tb:Tb)(cb:Cb)(ns:dM)(C:eZ)(σ:ah)(id:Str)(args:List Expr)(k:AV->Option R):Option R:=
 if ns.lookup id==some .globalImplicit then
  match tb.glob id with
  |some v=>(BC v).bind λf=>lZ (C.ev σ) args λxs=>if tb.cls f then(cb.make f xs).bind λfl=>k (.obj f fl)else(cb.call f xs []).bind k
  |none=>(tb.bi id).bind λv=>PP tb ns C σ id v args k
 else none
noncomputable def J6{R:Type}(C:eZ)(σ:ah)(l:List (Str×AV))(nm:Str)(args:List Expr)(cB:List Keyword)(k:AV->Option R):Option R:=
 if nm==("get":Str)&&cB.isEmpty then lZ (C.ev σ) args λxs=>(two xs).bind λp=>b8 p.1 λx=>k ((fe l x).getD p.2)else none
noncomputable def xD(tb:Tb)(ns:dM)(o:Expr)(nm:Str):Option (Option Addr):=(iH o).bind λp=>if ns.lookup p.1==some .globalImplicit then some ((tb.glob p.1).bind λv=>(BC v).bind λC=>tb.vQ C nm)else none
noncomputable def ya{R:Type}(tb:Tb)(nm:Str)(v:AV)(k:Addr->AV->Option R):Option R:=match v with
 | .obj Cl fl=>(tb.cZ Cl nm).bind λf=>k f (.obj Cl fl)
 |_=>none
noncomputable def QF{R:Type}(cb:Cb)(C:eZ)(σ:ah)(f:Addr)(v:AV)(xs:List AV)(cB:List Keyword)(k:AV->Option R):Option R:=match cB with
 |[]=>(cb.call f (v::xs) []).bind k
 |⟨n,ke,_⟩::r=>if r.isEmpty then n.bind λkn=>C.ev σ ke λy=>(cb.call f (v::xs) [(kn,y)]).bind k else none
noncomputable def Dq{R:Type}(cb:Cb)(C:eZ)(σ:ah)(f:Addr)(args:List Expr)(cB:List Keyword)(k:AV->Option R):Option R:=
 if cB.isEmpty then lZ (C.ev σ) args λxs=>(cb.call f xs []).bind k else none
noncomputable def DT{R:Type}(C:eZ)(σ:ah)(o:Expr)(args:List Expr)(cB:List Keyword)(k:AV->Option R):Option R:=
 C.ev σ o λv=>b8 v λsep=>if cB.isEmpty then lZ (C.ev σ) args λxs=>sW xs λxs=>(fu xs).bind λns=>if sep.length<=64/\(ns.map (·.length)).sum+ns.length*64<=16777216 then k (.str (Txt.join sep ns))else none else none
noncomputable def M1{R:Type}(tb:Tb)(cb:Cb)(C:eZ)(σ:ah)(o:Expr)(nm:Str)(args:List Expr)(cB:List Keyword)(k:AV->Option R):Option R:=
 C.ev σ o λv=>ya tb nm v λf v=>lZ (C.ev σ) args λxs=>QF cb C σ f v xs cB k
noncomputable def yw{R:Type}(tb:Tb)(cb:Cb)(ns:dM)(C:eZ)(σ:ah)(o:Expr)(nm:Str)(args:List Expr)(cB:List Keyword)(k:AV->Option R):Option R:=
 match xD tb ns o nm with
 |some f=>f.bind λf=>Dq cb C σ f args cB k
 |none=>if !bk o then none else
  match wE σ o with
  |some l=>J6 C σ l nm args cB k
  |none=>if nm==("join":Str)then DT C σ o args cB k else M1 tb cb C σ o nm args cB k
noncomputable def GX{R:Type}(tb:Tb)(cb:Cb)(C:eZ)(σ:ah)(l:Expr)(ops:List CmpOp)(rs:List Expr)(k:Bool->Option R):Option R:=
 (one ops).bind λop=>(one rs).bind λr=>if behindInMarks op r then none else C.ev σ l λx=>match(if op== .In||op== .NotIn then wE σ r else none)with
  |some d=>b8 x λs=>k (if op= .In then(fe d s).isSome else !(fe d s).isSome)
  |none=>C.ev σ r λy=>(GY tb cb op x y).bind k
noncomputable def DB{R:Type}(σ:ah)(x:Str)(k:AV->Option R):Option R:=if zX x then none else match σ.lookup x with
 |some e=>(match e with
  | .fz y=>k y
  | .self _ C fl=>k (.obj C fl)
  |_=>none)
 |none=>none
noncomputable def sP(e:Expr):Option Int:=(vE e).MA.bind λq=>if q.1.isNone&&q.2.2.1.isNone then q.2.1.bind λe=>(vE e).cst.bind λq=>GV q.1 else none
noncomputable def E5{R:Type}(C:eZ)(σ:ah)(o i:Expr)(k:AV->Option R):Option R:=match sP i with
 |some j=>if 0<=j then yE C σ o λxs=>if xs.length<=1000 then k (.list (xs.take j.toNat))else none else none
 |none=>C.ev σ i λiv=>match(vA iv).i with
  |some j=>yE C σ o λxs=>(bc xs j).bind k
  |none=>b8 iv λj=>GS C σ o λl=>(fe l j).bind k
noncomputable def El{R:Type}(C:eZ)(σ:ah)(ks:List (Option Expr))(vs:List Expr)(k:AV->Option R):Option R:=match ks with
 |[]=>if vs.isEmpty then k (.dict [])else none
 |ke::ks=>if ks.isEmpty then ke.bind λke=>(one vs).bind λv=>C.ev σ ke λkx=>C.ev σ v λx=>b8 kx λkx=>k (.dict [(kx,x)])else none
noncomputable def Ad{R:Type}(tb:Tb)(cb:Cb)(ns:dM)(C:eZ)(σ:ah)(f:Expr)(args:List Expr)(cB:List Keyword)(pos:Pos)(k:AV->Option R):Option R:=match iH f with
 |some p=>if cB.isEmpty then En tb cb ns C σ p.1 args k else none
 |none=>(vE f).Hs.bind λa=>if a.2.2.endLine==pos.line&&args.length<20 then yw tb cb ns C σ a.1 a.2.1 args cB k else none
noncomputable def Ro{R:Type}(tb:Tb)(cb:Cb)(Ef:dM->eZ)(ns:dM)(σ:ah)(e:Expr)(k:AV->Option R):Option R:=match e with
 | .Constant c _ _=>(zY c).bind k
 | .Name x _=>DB σ x k
 | .IfExp t b o _=>(Ef ns).tr σ t λq=>if q=true then(Ef ns).ev σ b k else(Ef ns).ev σ o k
 | .BinOp l op r _=>(Ef ns).ev σ l λx=>(Ef ns).ev σ r λy=>(IE tb cb op x y).bind k
 | .UnaryOp op x _=>(match op with
   | .USub=>(Ef ns).ev σ x λv=>(BU tb cb v).bind k
   |_=>none)
 | .Compare l ops rs _=>GX tb cb (Ef ns) σ l ops rs λb=>k (.bool b)
 | .Tuple es _ _=>lZ ((Ef ns).ev σ) es λxs=>if xs.length<=1000 then k (.tup xs)else none
 | .List es _=>lZ ((Ef ns).ev σ) es λxs=>if xs.length<=1000 then k (.list xs)else none
 | .Attribute o nm _=>if !bk o then none else(Ef ns).ev σ o λv=>(r8 tb cb nm v).bind k
 | .Subscript o i _=>E5 (Ef ns) σ o i k
 | .Call f args cB pos=>Ad tb cb ns (Ef ns) σ f args cB pos k
 | .ListComp elt gens scope p=>nN tb Ef ns σ (.ListComp elt gens scope p) scope (.l []) λa=>(gO a).bind λxs=>k (.list xs)
 | .DictComp ke v gens scope p=>nN tb Ef ns σ (.DictComp ke v gens scope p) scope (.d []) λa=>(Df a).bind λxs=>k (.dict xs)
 | .Dict ks vs _=>El (Ef ns) σ ks vs k
 |_=>none
noncomputable def Ht{R:Type}(f:Expr->(Bool->Option R)->Option R):List Expr->(Bool->Option R)->Option R
 |[],k=>k true
 |e::es,k=>f e λb=>if b=true then Ht f es k else k false
noncomputable def MW{R:Type}(f:Expr->(Bool->Option R)->Option R):List Expr->(Bool->Option R)->Option R
 |[],k=>k false
 |e::es,k=>f e λb=>if b=true then k true else MW f es k
noncomputable def Qi{R:Type}(tb:Tb)(cb:Cb)(Ef:dM->eZ)(ns:dM)(σ:ah)(e:Expr)(k:Bool->Option R):Option R:=match e with
 | .UnaryOp op x _=>(match op with
   | .Not=>(Ef ns).tr σ x λb=>k (!b)
   |_=>none)
 | .BoolOp op es _=>(match op with
   | .And=>Ht ((Ef ns).tr σ) es k
   | .Or=>MW ((Ef ns).tr σ) es k)
 | .IfExp t b o _=>(Ef ns).tr σ t λq=>if q=true then(Ef ns).tr σ b k else(Ef ns).tr σ o k
 | .Compare l ops rs _=>GX tb cb (Ef ns) σ l ops rs k
 |e=>if(vE e).plain then(Ef ns).ev σ e λx=>(ib x).bind k else none
noncomputable def kA(tb:Tb)(cb:Cb):Nat->dM->eZ
 |0,_=>⟨λ_ _ _=>none,λ_ _ _=>none⟩
 |n+1,ns=>⟨Ro tb cb (kA tb cb n) ns,Qi tb cb (kA tb cb n) ns⟩
noncomputable abbrev TX(tb:Tb)(cb:Cb)(ns:dM)(n:Nat){R:Type}:ah->Expr->(AV->Option R)->Option R:=(kA tb cb n ns).ev
set_option tactic.hygienic true
structure c8(c:Cx)(tb:Tb):Prop where
 glob:∀x v,tb.glob x=some v->nsIn c.K mainGlobals x=some (some v)/\zX x=false
 keep:∀x a,tb.glob x=some (.ref a)->keepIn c.K (.ref a)=true
 bi:∀x v,tb.bi x=some v->nsIn c.K mainGlobals x=some none/\bootBuiltins x=some v/\x≠"__name__"/\zX x=false
 cls:∀C,tb.cls C=true->f5 c.K C
 cZ:∀C nm f,tb.cZ C nm=some f->f5 c.K C/\jM c.K C nm=some f/\az.contains nm=false/\nm≠aB/\keepIn c.K (.ref f)=true
 prop:∀C nm f,tb.prop C nm=some f->∃p,uc c.K C nm p f
 vQ:∀C nm f,tb.vQ C nm=some f->specialIn c.K (.ref C) "__getattribute__"=some (some (.builtin "type.__getattribute__"))/\mA c C f nm/\keepIn c.K (.ref f)=true
 op:∀C o tv f,tb.op C o tv=some f->Hw c C o tv f
 eq:∀C tv f,tb.eq C tv=some f->Dk c C tv f
 ne:∀C tv f,tb.eq C tv=some f->Lu c C tv f
 neg:∀C f,tb.neg C=some f->findIn c.K (.ref C) "__neg__"=some (some (.ref f))/\isFn c.K (.ref f)=true
 isin:∀tv cv b,tb.isin tv cv=some b->kitOne c.K tv cv=some b/\∀C,tv= .ref C->kr c.K C
 eJ:∀tv sH b,tb.eJ tv sH=some b->kitAny c.K tv sH=some b/\∀C,tv= .ref C->kr c.K C
 Jj:Lv c.K
structure eU(c:Cx)(tb:Tb)(cb:Cb)(k:Nat):Prop where
 call:∀f xs kx r,cb.call f xs kx=some r->dz c f xs kx r k
 make:∀C xs fl,cb.make C xs=some fl->∃f j,iR c.K C f/\sr c C f xs fl j/\j+1<=k
noncomputable def my(c:Cx)(env:Env)(A:Around)(σ:ah)(e:Expr)(x:AV):Prop:=∀H₀,bQ c env A H₀ σ e x
noncomputable def Ma(c:Cx)(env:Env)(A:Around)(σ:ah)(e:Expr)(x:Bool):Prop:=∀H₀,iU c env A H₀ σ e x
structure HE(c:Cx)(env:Env)(A:Around)(C:eZ):Prop where
 ev:∀{R:Type}{σ e}{k:AV->Option R}{r},C.ev σ e k=some r->∃x,my c env A σ e x/\k x=some r
 tr:∀{R:Type}{σ e}{k:Bool->Option R}{r},C.tr σ e k=some r->∃x,Ma c env A σ e x/\k x=some r
noncomputable def wS(c:Cx)(k:Nat)(Ef:dM->eZ):Prop:=∀env A,env.scope.kind= .function->bq A k->HE c env A (Ef env.scope.names)
theorem xI{e j}(h:sP e=some j):∃p x q,e= .Slice none (some (.Constant (.int j) x q)) none p:=by refine ar h λb h1 h=>?_;refine bD h λq h=>?_;refine bK q λq1 q2=>?_;refine ar h λd h2 h=>?_;refine ar h λt i h=>?_;have f:=Fb h1;rw[Option.isNone_iff_eq_none.mp q1,Option.isNone_iff_eq_none.mp q2,h2,GU i,CQ h]at f;exact PD _ _ _ f
section
variable{R:Type}{v:AV}{r:R}
theorem t7{i}(h:(vA v).i=some i):v= .int i:=by
 have:(match(vA v).i with|some j=> .int j|none=>v)=v:=by induction v using AV.casesOn<;>rfl
 rw[h]at this;exact this.symm
theorem Au{i}(h:(vA v).s=some i):v= .str i:=by
 have:(match(vA v).s with|some j=> .str j|none=>v)=v:=by induction v using AV.casesOn<;>rfl
 rw[h]at this;exact this.symm
theorem Av{i}(h:(vA v).l=some i):v= .list i:=by
 have:(match(vA v).l with|some j=> .list j|none=>v)=v:=by induction v using AV.casesOn<;>rfl
 rw[h]at this;exact this.symm
theorem Hr{i}(h:(vA v).t=some i):v= .tup i:=by
 have:(match(vA v).t with|some j=> .tup j|none=>v)=v:=by induction v using AV.casesOn<;>rfl
 rw[h]at this;exact this.symm
theorem Aw{i}(h:(vA v).d=some i):v= .dict i:=by
 have:(match(vA v).d with|some j=> .dict j|none=>v)=v:=by induction v using AV.casesOn<;>rfl
 rw[h]at this;exact this.symm
theorem t8{i}(h:Er v=some i):v= .bool i:=by
 have:(match Er v with|some j=> .bool j|none=>v)=v:=by induction v using AV.casesOn<;>rfl
 rw[h]at this;exact this.symm
theorem bX{k:Int->Option R}(h:d8 v k=some r):∃i,v= .int i/\k i=some r:=let⟨i,h1,h⟩:=bL h;⟨i,t7 h1,h⟩
theorem dr{k:Str->Option R}(h:b8 v k=some r):∃i,v= .str i/\k i=some r:=let⟨i,h1,h⟩:=bL h;⟨i,Au h1,h⟩
theorem cY{k:List AV->Option R}(h:d7 v k=some r):∃i,v= .list i/\k i=some r:=let⟨i,h1,h⟩:=bL h;⟨i,Av h1,h⟩
theorem x8{k:List AV->Option R}(h:uD v k=some r):∃i,v= .tup i/\k i=some r:=let⟨i,h1,h⟩:=bL h;⟨i,Hr h1,h⟩
theorem rc{k:List (Str×AV)->Option R}(h:yb v k=some r):∃i,v= .dict i/\k i=some r:=let⟨i,h1,h⟩:=bL h;⟨i,Aw h1,h⟩
theorem vZ{xs:List AV}{k:List AV->Option R}(h:sW xs k=some r):∃i,xs=[.list i]/\k i=some r:=by refine ar h λx h1 h=>?_;refine ab (cY h) λi h2 h=>?_;exact ag i (h2▸de h1) h
end
section
variable{c:Cx}{tb:Tb}{cb:Cb}{k:Nat}{env:Env}{A:Around}{σ:ah}{C:eZ}{Ef:dM->eZ}
theorem dJ(h:HE c env A C){R:Type}{r:R}:∀{f k},lZ (C.ev σ) f k=some r->∃xs,(∀H₀,dT c env A H₀ σ f xs)/\k xs=some r
 |[],k,e=>⟨_,λ_=> .nil,e⟩
 |a::f,k,e=>by refine af (sC e) λi e=>?_;refine ab (h.ev e) λx h1 e=>?_;refine ab (dJ h e) λys h2 e=>?_;exact ag _ (λH₀=> .cons i (h1 H₀) (h2 H₀)) e
theorem FG{x p xs}(h:QA σ x=some xs):∀H₀,sj c env A H₀ σ (.Name x p) xs:=λH₀=>by
 refine af (sC h) λhd h=>?_;refine ar h λev h1 h=>?_;induction ev
 case ol=>exact Option.some.inj h▸yD h1 hd
 case fz y=>exact tB (Av h▸bY h1 hd)
 all_goals exact ad h
theorem yi{x p xs}(h:M3 σ x=some xs):∀H₀,pV c env A H₀ σ (.Name x p) xs:=λH₀=>by
 refine af (sC h) λhd h=>?_;refine ar h λev h1 h=>?_;induction ev
 case od=>exact Option.some.inj h▸zW h1 hd
 case fz y=>exact zV (Aw h▸bY h1 hd)
 all_goals exact ad h
theorem pz{e l}(h:wE σ e=some l):∀H₀,pV c env A H₀ σ e l:=by refine ar h λp h1 h=>?_;rw[cj h1];exact yi h
theorem oZ(h:HE c env A C){R:Type}{r:R}{e k}(he:yE C σ e k=some r):∃xs,(∀H₀,sj c env A H₀ σ e xs)/\k xs=some r:=by
 unfold yE at he
 induction hn:iH e with
 |none=>rw[hn]at he;refine ab (h.ev he) λv h1 he=>?_;refine ab (cY he) λxs f he=>?_;exact ag xs (λH₀=>tB ((f▸h1) H₀)) he
 |some p=>rw[hn]at he;refine ar he λxs h1 he=>?_;rw[cj hn];exact ag xs (FG h1) he
theorem CP(h:HE c env A C){R:Type}{r:R}{e k}(he:GS C σ e k=some r):∃xs,(∀H₀,pV c env A H₀ σ e xs)/\k xs=some r:=by
 unfold GS at he
 induction hn:iH e with
 |none=>rw[hn]at he;refine ab (h.ev he) λv h1 he=>?_;refine ab (rc he) λxs f he=>?_;exact ag xs (λH₀=>zV ((f▸h1) H₀)) he
 |some p=>rw[hn]at he;refine ar he λxs h1 he=>?_;rw[cj hn];exact ag xs (yi h1) he
theorem Fs{op x y z}(h:Qw op x y=some z):Hv c A op x y z:=by
 induction x using AV.casesOn
 case int a=>refine ab (bX h) λb e h=>?_;exact e▸x6 h
 case str a=>refine ab (dr h) λb e h=>?_;refine bD h λq h=>?_;exact e▸q.1▸Option.some.inj h▸Fp (by rw[sizeLine_eq];lia)
 case list a=>refine ab (cY h) λb e h=>?_;refine bD h λq h=>?_;exact e▸q.1▸Option.some.inj h▸BN q.2
 all_goals exact ad h
theorem Fr(O:aM c)(tk:c8 c tb)(i:eU c tb cb k)(R:bq A k){op x y z}(h:IE tb cb op x y=some z):Hv c A op x y z:=by
 induction x using AV.casesOn
 case obj C fl=>
  induction hf:tb.op C op (iW y)with
  |none=>unfold IE at h;simp only[hf]at h;exact nomatch h
  |some f=>unfold IE at h;simp only[hf]at h;exact Fq O (tk.op _ _ _ _ hf) (i.call _ _ _ _ h) R.r
 all_goals exact Fs h
theorem y8{op}{k:AV}{y:AV}{f:Option Bool}{b}(h1:∀b,f=some b->sy c A .In k y b)(h2:∀b,f.map (!·)=some b->sy c A .NotIn k y b)(h:inR op f=some b):sy c A op k y b:=by induction op<;>first|exact ad h|exact h1 b h|exact h2 b h
theorem GK{op r b}(h:Rq op r=some b):∃q,r=some (.bool q)/\((op= .Eq/\q=b)\/(op= .NotEq/\(!q)=b)):=by
 induction op
 case Eq=>refine ar h λv h1 h=>?_;exact ag b (t8 h▸h1) (.inl ⟨rfl,rfl⟩)
 case NotEq=>refine yz h λq h h2=>?_;refine ar h λv h1 h=>?_;exact ag q (t8 h▸h1) (.inr ⟨rfl,h2⟩)
 all_goals exact ad h
theorem CS(O:aM c)(tk:c8 c tb)(u:eU c tb cb k)(R:bq A k){op x y b}(h:GZ tb cb op x y=some b):sy c A op x y b:=by
 unfold GZ at h;induction x using AV.casesOn
 case int a=>
  induction hy:(vA y).i with
  |some j=>simp only[hy]at h;exact t7 hy▸G7 h
  |none=>
   simp only[hy]at h;refine ab (cY h) λxs e h=>?_;refine e▸y8 (λb q=>?_) (λb q=>?_) h
   . refine ab (Option.map_eq_some_iff.mp q) λns h1 q=>?_;exact q▸wJ h1
   . refine ab (Option.map_eq_some_iff.mp (Option.map_map .. ▸q)) λns h1 q=>?_;exact q▸pE h1
 case str a=>
  induction hy:(vA y).s with
  |some j=>simp only[hy]at h;refine bD h λe h=>?_;exact Au hy▸e▸Option.some.inj h▸G5
  |none=>
   simp only[hy]at h;refine ab (cY h) λxs e h=>?_;refine e▸y8 (λb q=>?_) (λb q=>?_) h
   . refine ab (Option.map_eq_some_iff.mp q) λns h1 q=>?_;exact q▸wI h1
   . refine ab (Option.map_eq_some_iff.mp (Option.map_map .. ▸q)) λns h1 q=>?_;exact q▸pD h1
 case obj C fl=>
  induction hf:tb.eq C (iW y)with
  |none=>simp only[hf]at h;exact ad h
  |some f=>
   simp only[hf]at h;obtain⟨q,hb,⟨e,h⟩|⟨e,h⟩⟩:=GK h
   . exact e▸h▸G6 O (tk.eq _ _ _ hf) (u.call _ _ _ _ hb) R.r
   . exact e▸h▸KU O (tk.ne _ _ _ hf) (u.call _ _ _ _ hb) R
 all_goals exact ad h
theorem nq{y:AV}(h:isNone y=true):y= .none:=by induction y using AV.casesOn<;>first|rfl|exact nomatch h
theorem CR(O:aM c)(tk:c8 c tb)(f:eU c tb cb k)(R:bq A k){op x y b}(h:GY tb cb op x y=some b):sy c A op x y b:=by
 induction op
 case Is=>refine af (rC h) λq h=>?_;exact nq q▸Option.some.inj h▸wH
 case IsNot=>refine af (rC h) λq h=>?_;exact nq q▸Option.some.inj h▸pF
 all_goals exact CS O tk f R h
theorem DP{x q}(hx:(env.scope.names.lookup x==some q)=true):env.kindOf x=some q:=beq_iff_eq.mp hx
theorem gH(O:aM c)(tk:c8 c tb){x p v}(hx:(env.scope.names.lookup x==some .globalImplicit)=true)(h:tb.glob x=some v):∀H₀ σ,kq c env A H₀ σ (.Name x p) v:=λH₀ σ=>
 CF O (DP hx) (tk.glob x v h).1 (tk.glob x v h).2
theorem jZ(O:aM c)(tk:c8 c tb){x p v}(hx:(env.scope.names.lookup x==some .globalImplicit)=true)(h:tb.bi x=some v):∀H₀ σ,kq c env A H₀ σ (.Name x p) v:=λH₀ σ=>
 va O (DP hx) (tk.bi x v h).1 (tk.bi x v h).2.1 (tk.bi x v h).2.2.1 (tk.bi x v h).2.2.2
theorem jW{e:Expr}(h:o8 e=false):∀x,foldedSetIterable e env x=pure x:=λx=>by induction e using Expr.casesOn<;>first|rfl|exact nomatch h
noncomputable def Et(c:Cx)(env:Env)(A:Around)(σ:ah)(e tg:Expr)(rows:List (List AV)):Prop:=∀H₀,eT c env A H₀ σ e tg (aJ tg) rows
theorem nU(O:aM c)(tk:c8 c tb){v e args}(h:pK tb env.scope.names v e=some args):∃i u pos,e= .Call (.Name i u) args [] pos/\(∀H₀ σ,kq c env A H₀ σ (.Name i u) v)/\∀a∈args,isStarred a=false:=by refine ar h λq h1 h=>?_;refine ar h λp h2 h=>?_;refine bD h λf h=>?_;obtain rfl:=Option.some.inj h;refine bK f λf q4=>?_;refine bK f λf q3=>?_;refine bK f λq1 q2=>?_;refine KO p.1 p.2 q.2.2.2 ?_ (jZ O tk q1 (beq_iff_eq.mp q2)) (λa z=>by simpa using List.all_eq_true.mp q4 a z);rw[pG h1,cj h2,List.isEmpty_iff.mp q3]
theorem yT(O:aM c)(tk:c8 c tb)(R:bq A k)(h:HE c env A C){T:Type}{r:T}{e x p k'}(he:tH tb env.scope.names C σ e k'=some r):∃rows,(∀H₀,eT c env A H₀ σ e (.Name x p) [x] rows)/\k' rows=some r:=by
 unfold tH at he
 induction hb:(pK tb env.scope.names (.type "range") e).bind one with
 |some a=>rw[hb]at he;refine ar hb λu h1 h2=>?_;refine rT (nU (A:=A) O tk h1) λG H pos e0 hv z=>?_;rw[de h2]at z e0;rw[e0];refine ab (h.ev he) λv f he=>?_;refine ab (bX he) λn F he=>?_;refine ar he λrows i he=>?_;refine bD i λB i=>?_;exact ag rows (λH₀=>Option.some.inj i▸yW R.r.handled (hv H₀ σ) (z a (.head _)) ((F▸f) H₀) B.1 B.2) he
 |none=>
  rw[hb]at he;refine ab (h.ev he) λv f he=>?_;induction v using AV.casesOn
  case list xs=>exact ag _ (λH₀=>uT R.r.handled (f H₀)) he
  case dict l=>exact ag _ (λH₀=>B8 O R.r.handled (f H₀)) he
  all_goals exact ad he
theorem yS(O:aM c)(tk:c8 c tb)(R:bq A k)(h:HE c env A C){T:Type}{r:T}{e x p y q t u k'}(he:tG tb env.scope.names C σ e k'=some r):∃rows,(∀H₀,eT c env A H₀ σ e (.Tuple [.Name x p,.Name y q] t u) [x,y] rows)/\k' rows=some r:=by
 unfold tG at he
 induction hb:yU e with
 |some o=>rw[hb]at he;refine ar hb λq h1 hb=>?_;refine ar hb λa h2 hb=>?_;refine bD hb λf hb=>?_;refine bK f λf q5=>?_;refine bK f λf q4=>?_;refine bK f λf q3=>?_;refine bK f λq1 q2=>?_;refine ab (h.ev he) λv i he=>?_;refine ab (rc he) λl z he=>?_;have e0:=pG h1;rw[t9 h2,beq_iff_eq.mp q1,List.isEmpty_iff.mp q4,List.isEmpty_iff.mp q5]at e0;exact ag _ (λH₀=>e0▸yX O R.r.handled q2 ((Option.some.inj hb▸z▸i) H₀) q3) he
 |none=>rw[hb]at he;refine ar he λp h1 G=>?_;clear he hb;refine ar h1 λF h1 h2=>?_;refine rT (nU (A:=A) O tk h1) λI J pos e0 hv B=>?_;rw[iy h2]at B e0;rw[e0];refine ab (h.ev G) λv f he=>?_;refine ab (h.ev he) λw i he=>?_;refine ab (cY he) λxs z he=>?_;refine ab (cY he) λys H he=>?_;exact ag _ (λH₀=>F8 R.r.handled (hv H₀ σ) (B _ (.head _)) (B _ (.tail _ (.head _))) ((z▸f) H₀) ((H▸i) H₀)) he
theorem lK(O:aM c)(tk:c8 c tb)(R:bq A k)(h:HE c env A C){T:Type}{r:T}{e tg k'}(he:rq tb env.scope.names C σ e tg k'=some r):∃rows,Et c env A σ e tg rows/\k' rows=some r:=by
 unfold rq at he
 induction ht:(vE tg).tup with
 |some ts=>rw[ht]at he;refine ar he λp h1 he=>?_;refine ar he λa h2 he=>?_;refine ar he λb i he=>?_;have f:=lr ht;rw[iy h1,cj h2,cj i]at f;exact f▸yS O tk R h he
 |none=>rw[ht]at he;refine ar he λa h2 he=>?_;exact cj h2▸yT O tk R h he
end
set_option tactic.hygienic false
set_option tactic.hygienic true
section
variable{c:Cx}{tb:Tb}{cb:Cb}{k:Nat}{env:Env}{A:Around}{σ:ah}{C:eZ}{Ef:dM->eZ}{R:Type}{r:R}
theorem A8(h:HE c env A C){ifs}{k:Bool->Option R}(he:H9 C σ ifs k=some r):∃b,mV c env A σ ifs b/\k b=some r:=by
 rcases ifs with _|⟨t,l⟩
 . exact ag _ .nil he
 . refine bD he λhl he=>?_;refine ab (h.tr he) λb h1 he=>?_;exact ag b (List.isEmpty_iff.mp hl▸ .one h1) he
theorem zQ(h:HE c env A C){e a}{k:Acc->Option R}(he:Ek C σ e a k=some r):∃i,nY c env A σ e a i/\k i=some r:=by
 induction e using Expr.casesOn
 case ListComp elt g s p=>
  induction a with
  |d l=>exact ad he
  |l xs=>refine bD he λf he=>?_;refine ab (h.ev he) λx h1 he=>?_;exact ag _ (.list h1 f) he
 case DictComp ke v g s p=>
  induction a with
  |l l=>exact ad he
  |d l=>refine bD he λf he=>?_;refine ab (h.ev he) λx h1 he=>?_;refine ab (h.ev he) λy h2 he=>?_;refine ab (dr he) λz u he=>?_;exact ag _ (.dict (u▸h1) h2 f) he
 all_goals exact ad he
theorem B4{xs}(h:I4 env.scope.names xs=true):∀x∈xs,env.kindOf x=some .local:=λx hx=>beq_iff_eq.mp (List.all_eq_true.mp h x hx)
theorem oE{step:ah->List AV->Acc->Option (ah×Acc)}{e d σ' a'}(h:∀σ row rows a f a1,step σ row a=some (f,a1)->dy c env A e d f rows a1 σ' a'->dy c env A e d σ (row::rows) a σ' a'):∀{rs τ b},aE step rs τ b=some (σ',a')->dy c env A e d τ rs b σ' a'
 |[],τ,b,hb=>by cases hb;exact .done
 |r::rs,τ,b,hb=>by refine ar hb λp i u=>?_;exact h τ r rs b p.1 p.2 i (oE h u)
theorem qN(O:aM c)(tk:c8 c tb)(R:bq A k)(h:HE c env A C){e}:∀m d σ row rows a f a1 σ' i,m8 tb env.scope.names C e m d σ row a=some (f,a1)->dy c env A e d f rows a1 σ' i->dy c env A e d σ (row::rows) a σ' i
 |0,_,_,_,_,_,_,_,_,_,he,_=>ad he
 |m+1,d,σ,row,rows,a,f,a1,σ',i,he,t=>by
  unfold m8 at he
  induction hg:(clausesOf e)[d]? with
  |none=>rw[hg]at he;exact ad he
  |some g=>
   obtain⟨H,B,F,I⟩:=g;rw[hg]at he;refine bD he λG he=>?_;rw[beq_iff_eq.mp G]at hg;refine ab (A8 h he) λb ht he=>?_
   induction b with
   |false=>refine af (Prod.mk.inj (Option.some.inj he)) λu z=>?_;subst u;subst z;exact .skip hg ht t
   |true=>
    rw[if_pos rfl]at he
    induction Gh:(clausesOf e)[d+1]? with
    |none=>rw[Gh]at he;refine ab (zQ h he) λJ h1 h2=>?_;refine af (Prod.mk.inj (Option.some.inj h2)) λu z=>?_;subst u;subst z;exact .emit hg ht Gh h1 t
    |some g=>obtain⟨N,P,Q,U⟩:=g;rw[Gh]at he;refine bD he λq he=>?_;refine bK q λq q3=>?_;refine bK q λq1 q2=>?_;rw[beq_iff_eq.mp q1]at Gh;refine ab (lK O tk R h he) λW hi h2=>?_;exact .nest hg ht Gh (jW (CV q2)) (B4 q3) hi (oE (qN O tk R h m (d+1) · · · · · · f a1) h2) t
theorem wG(f:env.scope.kind= .function)(scope:Scope):(relabel scope env).names=j4 env.scope.names scope.names:=by unfold relabel j4;simp only;congr 1;funext x;obtain⟨n,q⟩:=x;have:env.kindOf n=env.scope.names.lookup n:=rfl;rw[f,this];simp
theorem zo{n}(h:HR σ n=true):∃y,σ.lookup n=some (.fz y):=by
 unfold HR at h
 induction hn:σ.lookup n with
 |none=>rw[hn]at h;exact nomatch h
 |some e=>rw[hn]at h;induction e<;>first|exact⟨_,rfl⟩|exact nomatch h
theorem oB:∀{names:dM}{x e},(vV σ names).lookup x=some e->∃y,e= .fz y/\σ.lookup x=some (.fz y)/\(x,NameKind.free)∈names
 |[],_,_,h=>ad h
 |(n,q)::r,x,e,h=>by
  unfold vV at h;by_cases f:(q== .free&&HR σ n)=true
  . rw[if_pos f,List.lookup_cons]at h;refine bK f λq1 q2=>?_;refine ax (zo q2) λy hy=>?_;by_cases hx:x=n
    . rw[beq_iff_eq.mpr hx,hy]at h;exact dA y ((Option.some.inj h).symm) (hx▸hy) (hx▸beq_iff_eq.mp q1▸ .head _)
    . rw[beq_eq_false_iff_ne.mpr hx]at h;refine bV (oB h) λi h1 h2 u=>?_;exact dA i h1 h2 (.tail _ u)
  . rw[if_neg f]at h;refine bV (oB h) λi h1 h2 u=>?_;exact dA i h1 h2 (.tail _ u)
theorem vU{scope}(h:xM env.scope.names σ scope=true):hJ env σ scope (vV σ scope.names):=by
 refine bK h λh1 h2=>?_;have each:∀x∈scope.names,x.2≠ .cell/\scope.names.lookup x.1=some x.2/\(x.2= .free->HR σ x.1=true/\(env.scope.names.lookup x.1=some .cell\/env.scope.names.lookup x.1=some .free)/\(x.1==("__classdict__":Str))=false):=λx hx=>by refine bK (List.all_eq_true.mp h2 x hx) λq q3=>?_;refine bK q λq1 q2=>?_;refine⟨bne_iff_ne.mp q1,beq_iff_eq.mp q2,λhf=>?_⟩;rw[hf]at q3;refine bK q3 λq3 q5=>?_;refine bK q3 λq3 q4=>?_;exact⟨q3,(Bool.or_eq_true_iff.mp q4).imp beq_iff_eq.mp beq_iff_eq.mp,beq_eq_false_iff_ne.mpr (bne_iff_ne.mp q5)⟩
 refine⟨beq_iff_eq.mp h1,λx hx=>(each x hx).1,λx hx hl=>by rw[(each x hx).2.1,hl],λx hx hf=>?_,λx e hx=>?_⟩
 . refine dh ((each x hx).2.2 hf) λq1 q2 _=>?_;refine ax (zo q1) λy hy=>?_;exact ag y hy q2
 . refine bV (oB hx) λy i u f=>?_;exact PE y i u f ((each _ f).2.1) (((each _ f).2.2 rfl).2.2)
structure vF(c:Cx)(env:Env)(A:Around)(σ:ah)(e:Expr)(scope:Scope)(a0 a':Acc)(tg iter:Expr)(ifs:List Expr)(gs:List Comprehension)(rows:List (List AV))(sc dO:ah):Prop where
 cl:clausesOf e=⟨tg,iter,ifs,0⟩::gs
 ctx:hJ env σ scope sc
 loc:∀x∈aJ tg,scope.names.lookup x=some .local
 fold:∀x,foldedSetIterable iter env x=pure x
 it:Et c env A σ iter tg rows
 run:∀cA:Env,cA.scope=relabel scope env->dy c cA A e 0 sc rows a0 dO a'
theorem rY(O:aM c)(tk:c8 c tb)(u:bq A k)(G:env.scope.kind= .function)(h:wS c k Ef){e scope a0}{k':Acc->Option R}(he:nN tb Ef env.scope.names σ e scope a0 k'=some r):
 ∃H,(∃z f i B rows N P,vF c env A σ e scope a0 H z f i B rows N P)/\k' H=some r:=by
 unfold nN at he
 induction mF:clausesOf e using List.casesOn with
 |nil=>rw[mF]at he;exact ad he
 |cons g B=>
  obtain⟨z,f,i,U⟩:=g;rw[mF]at he;refine bD he λq he=>?_;refine bK q λq q4=>?_;refine bK q λq q3=>?_;refine bK q λq1 q2=>?_;rw[beq_iff_eq.mp q1]at mF;refine ab (lK O tk u (h env A G u) he) λrows hi he=>?_;refine ar he λp I he=>?_;refine ag p.2 ⟨z,f,i,B,rows,_,p.1,mF,vU q3,λx hx=>beq_iff_eq.mp (List.all_eq_true.mp q4 x hx),jW (CV q2),hi,λF J=>?_⟩ he;have AQ:F.scope.names=j4 env.scope.names scope.names:=by rw[J];exact wG G scope
  have Q:F.scope.kind= .function:=by rw[J];exact beq_iff_eq.mp (be q3).1
  rw[<-AQ]at I;exact oE (qN O tk u (h F A Q u) 4 0 · · · · · · p.1 p.2) I
theorem Dc{a:Acc}{xs}(h:gO a=some xs):a= .l xs:=by
 induction a with
 |l ys=>exact congrArg _ (Option.some.inj h)
 |d l=>exact ad h
theorem De{a:Acc}{xs}(h:Df a=some xs):a= .d xs:=by
 induction a with
 |d ys=>exact congrArg _ (Option.some.inj h)
 |l l=>exact ad h
theorem vk(O:aM c)(tk:c8 c tb){e v}(he:G8 tb env.scope.names e=some v):∀H₀ σ,kq c env A H₀ σ e v:=by
 refine ar he λp h1 he=>?_;refine bD he λhx he=>?_;rw[cj h1]
 induction hg:tb.glob p.1 with
 |some w=>rw[hg]at he;exact Option.some.inj he▸gH O tk hx hg
 |none=>rw[hg]at he;exact jZ O tk hx he
theorem rZ(O:aM c)(tk:c8 c tb):∀{f vs},z7 tb env.scope.names f=some vs->∀H₀ σ,gf c env A H₀ σ f (vs.map .k)
 |[],vs,e,H₀,σ=>Option.some.inj e▸ .nil
 |a::f,vs,e,H₀,σ=>by refine af (sC e) λi e=>?_;refine ar e λx h1 e=>?_;refine ar e λys h2 e=>?_;exact Option.some.inj e▸ .k i (vk O tk h1 H₀ σ) (rZ O tk h2 H₀ σ)
theorem Kz{es xs}{H₀}(h:dT c env A H₀ σ es xs):gf c env A H₀ σ es (xs.map .a):=by
 induction h with
 |nil=>exact .nil
 |cons h _ ih=>exact .a h.1 h.2 ih
theorem Ho(f:bq A k){id p v es xs y pos}(hv:∀H₀ σ,kq c env A H₀ σ (.Name id p) v)(B:∀H₀,dT c env A H₀ σ es xs)(h:r7 v xs=some y):my c env A σ (.Call (.Name id p) es [] pos) y:=λH₀=>by
 have hb:∀{ys},xs=ys->gf c env A H₀ σ es (ys.map .a):=λe=>e▸Kz (B H₀);refine ar h λs e h=>?_;have hv:∀H₀ σ,kq c env A H₀ σ (.Name id p) (.builtin s):=A4 e▸hv;refine yV h (λq h=>?_) λh=>?_
 . rw[q]at hv;refine ar h λx h1 h=>?_;refine ab (bX h) λi e h=>?_;exact Option.some.inj h▸df (hv H₀ σ) (hb (e▸de h1)) Aq
 refine yV h (λq h=>?_) λh=>?_
 . rw[q]at hv;refine ar h λ_ h1 h=>?_;refine ab (bX h) λi e h=>?_;refine ab (bX h) λj u h=>?_;exact Option.some.inj h▸df (hv H₀ σ) (hb (e▸u▸iy h1)) (Hm f.r.handled)
 refine yV h (λq h=>?_) λh=>?_
 . rw[q]at hv;refine ar h λ_ h1 h=>?_;refine ab (bX h) λi e h=>?_;refine ab (bX h) λj u h=>?_;exact Option.some.inj h▸df (hv H₀ σ) (hb (e▸u▸iy h1)) (Hl f.r.handled)
 refine yV h (λq h=>?_) λh=>?_
 . rw[q]at hv;refine ar h λx h1 h=>?_;refine ab (cY h) λl e h=>?_;refine yz h λis z h=>?_;exact h▸df (hv H₀ σ) (hb (e▸de h1)) (Hk f.r.handled z)
 refine yV h (λq h=>?_) λh=>?_
 . rw[q]at hv;refine ar h λx h1 h=>?_;refine ab (cY h) λl e h=>?_;refine bD h λF h=>?_;refine yz h λis z h=>?_;exact h▸df (hv H₀ σ) (hb (e▸de h1)) (wM z F)
 exact ad h
theorem Hn(O:aM c)(tk:c8 c tb)(P:bq A k)(h:HE c env A C){id p v args pos}{k':AV->Option R}(hv:∀H₀ σ,kq c env A H₀ σ (.Name id p) v)(he:PP tb env.scope.names C σ id v args k'=some r):∃x,my c env A σ (.Call (.Name id p) args [] pos) x/\k' x=some r:=by
 unfold PP at he;by_cases f:(v== .type "str")=true
 . rw[if_pos f]at he;refine ar he λe h1 he=>?_;refine af (sC he) λz he=>?_;refine ab (h.ev he) λx h2 he=>?_;refine ab (bX he) λi Q he=>?_;refine bD he λB he=>?_;exact ag _ (λH₀=>de h1▸zJ (beq_iff_eq.mp f▸hv H₀ σ) z ((Q▸h2) H₀) B) he
 rw[if_neg f]at he;clear f;by_cases f:(v== .builtin "isinstance")=true
 . rw[if_pos f]at he;have hv:=λH₀=>beq_iff_eq.mp f▸hv H₀ σ;refine bD he λF he=>?_;refine ar he λq h1 he=>?_;refine af (sC he) λz he=>?_;refine af (Bool.or_eq_false_iff.mp z) λN U=>?_;refine ab (h.ev he) λx h2 he=>?_;have G:=iy h1;rw[beq_iff_eq.mp F]at hv⊢
   induction ht:(vE q.2).tup with
   |some es=>rw[ht]at he;refine ar he λW u he=>?_;refine bD he λB he=>?_;refine ar he λb H he=>?_;refine af (tk.eJ _ _ _ H) λI J=>?_;rw[lr ht]at G;exact ag _ (λH₀=>G▸tW O tk.Jj (hv H₀) N (h2 H₀) (rZ O tk u H₀ σ) B (λC fl q=>J C (by rw[q];rfl)) I) he
   |none=>rw[ht]at he;refine ar he λX u he=>?_;refine ar he λb H he=>?_;refine af (tk.isin _ _ _ H) λI J=>?_;exact ag _ (λH₀=>G▸df (hv H₀) (.a N (h2 H₀) (.k U (vk O tk u H₀ σ) .nil)) (wO O tk.Jj (λC fl q=>J C (by rw[q];rfl)) I)) he
 rw[if_neg f]at he;clear f;by_cases f:(v== .builtin "len")=true
 . rw[if_pos f]at he;refine bD he λF he=>?_;refine ar he λe h1 he=>?_;refine af (sC he) λz he=>?_;refine ab (oZ h he) λxs h2 he=>?_;refine ar he λx u he=>?_;refine bD u λB u=>?_;rw[beq_iff_eq.mp F,beq_iff_eq.mp f]at hv;rw[beq_iff_eq.mp F];exact ag _ (λH₀=>de h1▸Option.some.inj u▸CY (hv H₀ σ) z (h2 H₀) B) he
 rw[if_neg f]at he;refine ab (dJ h he) λxs h1 he=>?_;refine ar he λy h2 he=>?_;exact ag y (Ho P hv h1 h2) he
theorem uB{v a}(h:BC v=some a):v= .ref a:=by
 have:(match BC v with|some j=> .ref j|none=>v)=v:=by induction v<;>rfl
 rw[h]at this;exact this.symm
theorem Ab(O:aM c)(tk:c8 c tb)(z:eU c tb cb k)(i:bq A k)(h:HE c env A C){id p args pos}{k':AV->Option R}(he:En tb cb env.scope.names C σ id args k'=some r):∃x,my c env A σ (.Call (.Name id p) args [] pos) x/\k' x=some r:=by
 refine bD he λhx he=>?_
 induction hg:tb.glob id with
 |none=>rw[hg]at he;refine ar he λv h1 he=>?_;exact Hn O tk i h (jZ O tk hx h1) he
 |some v=>
  rw[hg]at he;refine ar he λf hf he=>?_;rw[uB hf]at hg;refine ab (dJ h he) λxs B he=>?_;have F:=tk.keep _ _ hg;have G:=gH (A:=A) (p:=p) O tk hx hg;by_cases H:tb.cls f=true
  . rw[if_pos H]at he;refine ar he λfl u he=>?_;refine cP (z.make _ _ _ u) λg j I J N=>?_;exact ag _ (λH₀=>CD O (G H₀ σ) F (B H₀) I J (i.r.le N)) he
  . rw[if_neg H]at he;refine ar he λy u he=>?_;exact ag _ (λH₀=>CG O (G H₀ σ) F (B H₀) (z.call _ _ _ _ u) i.r) he
theorem xC(O:aM c)(tk:c8 c tb)(z:eU c tb cb k)(B:bq A k)(h:HE c env A C){o nm apos args cB pos f}{k':AV->Option R}(hl:(apos.endLine==pos.line)=true)(N:args.length<20)
 (i:xD tb env.scope.names o nm=some (some f))(he:Dq cb C σ f args cB k'=some r):∃x,my c env A σ (.Call (.Attribute o nm apos) args cB pos) x/\k' x=some r:=by
 refine bD he λF he=>?_;refine ab (dJ h he) λxs h1 he=>?_;refine ar he λy h2 he=>?_;refine ar i λp G i=>?_;refine bD i λhx i=>?_;refine ar (Option.some.inj i) λv u i=>?_;refine ar i λD hr i=>?_;rw[uB hr]at u;refine dh (tk.vQ _ _ _ i) λH I J=>?_;exact ag _ (λH₀=>cj G▸List.isEmpty_iff.mp F▸tZ O (gH O tk hx u H₀ σ) H I J (h1 H₀) (z.call _ _ _ _ h2) B.r hl (by lia)) he
theorem Cq(O:aM c)(h:HE c env A C){o nm apos args cB pos l}{k':AV->Option R}(hl:(apos.endLine==pos.line)=true)(z:args.length<20)(i:bk o=true)(hd:wE σ o=some l)
 (he:J6 C σ l nm args cB k'=some r):∃x,my c env A σ (.Call (.Attribute o nm apos) args cB pos) x/\k' x=some r:=by
 refine bD he λq he=>?_;refine bK q λq1 q2=>?_;refine ab (dJ h he) λxs h1 he=>?_;refine ar he λp h2 he=>?_;refine ab (dr he) λs u he=>?_;have f:=iy h2;rw[u]at f;exact ag _ (λH₀=>beq_iff_eq.mp q1▸List.isEmpty_iff.mp q2▸tY O i (pz hd H₀) (f▸h1 H₀) hl (by lia)) he
theorem PA{e x}{H₀}(h:dT c env A H₀ σ e [x]):∃a,e=[a]/\isStarred a=false/\bQ c env A H₀ σ a x:=F2.one h
theorem yM(h:HE c env A C){o apos args cB pos}{k':AV->Option R}(hl:(apos.endLine==pos.line)=true)(i:bk o=true)
 (he:DT C σ o args cB k'=some r):∃x,my c env A σ (.Call (.Attribute o "join" apos) args cB pos) x/\k' x=some r:=by
 refine ab (h.ev he) λv h1 he=>?_;refine ab (dr he) λu z he=>?_;refine bD he λq2 he=>?_;refine ab (dJ h he) λxs h2 he=>?_;refine ab (vZ he) λys B he=>?_;refine ar he λis F he=>?_;refine bD he λf he=>?_;refine ag _ (λH₀=>?_) he;refine bV (PA (B▸h2 H₀)) λa G H I=>?_;exact G▸List.isEmpty_iff.mp q2▸CE ((z▸h1) H₀) i H I F f.1 f.2 hl
theorem F0(O:aM c)(tk:c8 c tb)(u:eU c tb cb k)(B:bq A k)(h:HE c env A C){o nm apos args cB pos C' fl f xs}{k':AV->Option R}(hl:(apos.endLine==pos.line)=true)(P:args.length<20)(F:bk o=true)
 (h1:my c env A σ o (.obj C' fl))(Q:tb.cZ C' nm=some f)(h2:∀H₀,dT c env A H₀ σ args xs)(he:QF cb C σ f (.obj C' fl) xs cB k'=some r):∃x,my c env A σ (.Call (.Attribute o nm apos) args cB pos) x/\k' x=some r:=by
 refine GM (tk.cZ _ _ _ Q) λG H I J N=>?_;rcases cB with _|⟨⟨n,ke,kp⟩,l⟩
 . refine ar he λy i he=>?_;exact ag _ (λH₀=>wz O F (h1 H₀) G H I J N (h2 H₀) (u.call _ _ _ _ i) B.r hl (by lia)) he
 . refine bD he λq he=>?_;refine ar he λX U he=>?_;refine ab (h.ev he) λy W he=>?_;refine ar he λz i he=>?_;exact ag _ (λH₀=>List.isEmpty_iff.mp q▸U▸km O F (h1 H₀) G H I J N (h2 H₀) (W H₀) (u.call _ _ _ _ i) B.r hl P) he
theorem x9{nm v}{k':Addr->AV->Option R}(h:ya tb nm v k'=some r):∃C fl f,v= .obj C fl/\tb.cZ C nm=some f/\k' f v=some r:=by
 induction v using AV.casesOn
 case obj C fl=>refine ar h λf h1 h=>?_;exact KO C fl f rfl h1 h
 all_goals exact ad h
theorem yv(O:aM c)(tk:c8 c tb)(B:eU c tb cb k)(F:bq A k)(h:HE c env A C){o nm apos args cB pos}{k':AV->Option R}(hl:(apos.endLine==pos.line)=true)(u:args.length<20)
 (he:yw tb cb env.scope.names C σ o nm args cB k'=some r):∃x,my c env A σ (.Call (.Attribute o nm apos) args cB pos) x/\k' x=some r:=by
 unfold yw at he
 induction mE:xD tb env.scope.names o nm with
 |some f=>rw[mE]at he;refine ar he λf hf he=>?_;exact xC O tk B F h hl u (hf▸mE) he
 |none=>
  rw[mE]at he;refine af (sC he) λi he=>?_;have i:bk o=true:=Ry i
  induction hd:wE σ o with
  |some l=>rw[hd]at he;exact Cq O h hl u i hd he
  |none=>
   rw[hd]at he;by_cases z:(nm==("join":Str))=true
   . exact beq_iff_eq.mp z▸yM h hl i ((if_pos z).symm.trans he)
   . refine ab (h.ev ((if_neg z).symm.trans he)) λv h1 he=>?_;refine rT (x9 he) λI fl f G H he=>?_;refine ab (dJ h he) λxs h2 he=>?_;exact F0 O tk B F h hl u i (G▸h1) H h2 (G▸he)
end
set_option tactic.hygienic false
set_option tactic.hygienic true
section
variable{c:Cx}{tb:Tb}{cb:Cb}{k:Nat}{env:Env}{A:Around}{σ:ah}{C:eZ}{Ef:dM->eZ}{R:Type}{r:R}
theorem vj(O:aM c)(tk:c8 c tb)(B:eU c tb cb k)(F:bq A k)(h:HE c env A C){l ops rs pos}{k':Bool->Option R}(he:GX tb cb C σ l ops rs k'=some r):
 ∃b,my c env A σ (.Compare l ops rs pos) (.bool b)/\Ma c env A σ (.Compare l ops rs pos) b/\k' b=some r:=by
 refine ar he λop h1 he=>?_;refine ar he λe h2 he=>?_;refine af (sC he) λf he=>?_;refine ab (h.ev he) λx hx he=>?_;rw[de h1,de h2]
 induction hd:(if op== .In||op== .NotIn then wE σ e else none)with
 |some d=>rw[hd]at he;refine bD hd λG hd=>?_;have u:op= .In\/op= .NotIn:=(Bool.or_eq_true_iff.mp G).imp beq_iff_eq.mp beq_iff_eq.mp;refine ab (dr he) λs z he=>?_;exact dA _ (λH₀=>wA O u f ((z▸hx) H₀) (pz hd H₀)) (λH₀=>vO O u f ((z▸hx) H₀) (pz hd H₀)) he
 |none=>rw[hd]at he;refine ab (h.ev he) λy hy he=>?_;refine ar he λb i he=>?_;have i:=CR (A:=A) O tk B F i;exact dA b (λH₀=>GI f (hx H₀) (hy H₀) i) (λH₀=>EI f (hx H₀) (hy H₀) i) he
theorem wF{q x kk pos}(he:zY q=some x):my c env A σ (.Constant q kk pos) x:=λH₀=>by
 induction q
 case none=>exact Option.some.inj he▸mP
 case bool=>exact Option.some.inj he▸mQ
 case int=>exact Option.some.inj he▸pv
 case str=>exact Option.some.inj he▸jm
 all_goals exact ad he
theorem yp{x p}{k':AV->Option R}(he:DB σ x k'=some r):∃y,my c env A σ (.Name x p) y/\k' y=some r:=by
 refine af (sC he) λhd he=>?_
 induction hl:σ.lookup x with
 |none=>rw[hl]at he;exact ad he
 |some e=>
  rw[hl]at he;induction e
  case fz y=>exact ag y (λH₀=>bY hl hd) he
  case self a D fl=>exact ag _ (λH₀=>rO hl hd) he
  all_goals exact ad he
theorem Bk(O:aM c)(h:HE c env A C){o i pos}{k':AV->Option R}(he:E5 C σ o i k'=some r):∃y,my c env A σ (.Subscript o i pos) y/\k' y=some r:=by
 unfold E5 at he
 induction hs:sP i with
 |some j=>rw[hs]at he;refine bD he λf he=>?_;refine ab (oZ h he) λxs h1 he=>?_;refine bD he λu he=>?_;refine CK (xI hs) λp x q e=>?_;exact ag _ (λH₀=>e▸CC (h1 H₀) f u) he
 |none=>
  rw[hs]at he;refine ab (h.ev he) λz hi he=>?_
  induction hv:(vA z).i with
  |some j=>rw[hv]at he;rw[t7 hv]at hi;refine ab (oZ h he) λxs h1 he=>?_;refine ar he λy h2 he=>?_;exact ag y (λH₀=>zL (h1 H₀) (hi H₀) h2) he
  |none=>rw[hv]at he;refine ab (dr he) λs e he=>?_;rw[e]at hi;refine ab (CP h he) λxs h1 he=>?_;refine ar he λy h2 he=>?_;exact ag y (λH₀=>tX (h1 H₀) (hi H₀) h2) he
theorem zU(h:HE c env A C){ks vs pos}{k':AV->Option R}(he:El C σ ks vs k'=some r):∃y,my c env A σ (.Dict ks vs pos) y/\k' y=some r:=by
 rcases ks with _|⟨ke,ks⟩
 . refine bD he λhv he=>?_;exact ag _ (λH₀=>List.isEmpty_iff.mp hv▸pR.ev lG) he
 . refine bD he λf he=>?_;refine ar he λa i he=>?_;refine ar he λb u he=>?_;refine ab (h.ev he) λx h1 he=>?_;refine ab (h.ev he) λy h2 he=>?_;refine ab (dr he) λs z he=>?_;exact ag _ (λH₀=>List.isEmpty_iff.mp f▸i▸de u▸pR.ev (ym ((z▸h1) H₀) (h2 H₀))) he
theorem uJ(O:aM c)(tk:c8 c tb)(u:bq A k)(z:env.scope.kind= .function)(h:wS c k Ef){elt gens scope pos}{k':List AV->Option R}
 (he:(nN tb Ef env.scope.names σ (.ListComp elt gens scope pos) scope (.l []) λa=>(gO a).bind k')=some r):∃xs,(∃B f i F rows G H,vF c env A σ (.ListComp elt gens scope pos) scope (.l []) (.l xs) B f i F rows G H)/\k' xs=some r:=by
 refine ab (rY O tk u z h he) λa X he=>?_;refine ar he λxs h1 he=>?_;exact ag xs (Dc h1▸X) he
theorem z5{elt gens scope pos xs}(X:∃u f i z rows B F,vF c env A σ (.ListComp elt gens scope pos) scope (.l []) (.l xs) u f i z rows B F):my c env A σ (.ListComp elt gens scope pos) (.list xs):=by obtain⟨u,f,i,z,rows,B,F,Y⟩:=X;have e:gens=⟨u,f,i,0⟩::z:=Y.cl;subst e;exact λH₀=>si.ev (wc Y.ctx Y.loc Y.fold Y.it Y.run)
theorem z6{ke v gens scope pos l}(X:∃u f i z rows B F,vF c env A σ (.DictComp ke v gens scope pos) scope (.d []) (.d l) u f i z rows B F):my c env A σ (.DictComp ke v gens scope pos) (.dict l):=by obtain⟨u,f,i,z,rows,B,F,Y⟩:=X;have e:gens=⟨u,f,i,0⟩::z:=Y.cl;subst e;exact λH₀=>pR.ev (wd Y.ctx Y.loc Y.fold Y.it Y.run)
theorem BS(O:aM c)(tk:c8 c tb)(i:eU c tb cb k)(u:bq A k){x v y pos}(h1:my c env A σ x v)(h:BU tb cb v=some y):my c env A σ (.UnaryOp .USub x pos) y:=λH₀=>by
 induction v using AV.casesOn
 case int a=>exact Option.some.inj h▸zK (h1 H₀) IO
 case obj D fl=>
  unfold BU at h
  induction hf:tb.neg D with
  |none=>simp only[hf]at h;exact ad h
  |some f=>simp only[hf]at h;refine af (tk.neg _ _ hf) λz B=>?_;exact zK (h1 H₀) (BQ O z B (i.call _ _ _ _ h) u.r)
 all_goals exact ad h
theorem Ax(O:aM c)(tk:c8 c tb)(F:eU c tb cb k)(i:bq A k){o nm v y pos}(z:bk o=true)(h1:my c env A σ o v)(h:r8 tb cb nm v=some y):my c env A σ (.Attribute o nm pos) y:=λH₀=>by
 induction v using AV.casesOn
 case obj D fl=>
  refine bD h λB h=>?_;by_cases hf:az.contains nm=true
  . rw[if_pos hf]at h;exact zM O z (h1 H₀) (tk.cls _ B) hf h
  . rw[if_neg hf]at h
    induction hp:tb.prop D nm with
    |none=>rw[hp]at h;exact ad h
    |some f=>rw[hp]at h;refine ax (tk.prop _ _ _ hp) λp P=>?_;exact vf z (h1 H₀) λT s v w r=>AW O (tk.cls _ B) P (F.call _ _ _ _ h) i.r (by have:=i.u;lia) w r
 all_goals exact ad h
theorem Ac(O:aM c)(tk:c8 c tb)(i:eU c tb cb k)(u:bq A k)(h:HE c env A C){f args cB pos}{k':AV->Option R}(he:Ad tb cb env.scope.names C σ f args cB pos k'=some r):∃x,my c env A σ (.Call f args cB pos) x/\k' x=some r:=by
 unfold Ad at he
 induction hn:iH f with
 |some p=>rw[hn]at he;refine bD he λz he=>?_;rw[cj hn,List.isEmpty_iff.mp z];exact Ab O tk i u h he
 |none=>rw[hn]at he;refine ar he λa B he=>?_;refine bD he λq he=>?_;refine bK q λq1 q2=>?_;rw[t9 B];exact yv O tk i u h q1 (of_decide_eq_true q2) he
theorem GJ(O:aM c)(tk:c8 c tb)(F:eU c tb cb k)(B:bq A k)(G:env.scope.kind= .function)(h:wS c k Ef){e}{k':AV->Option R}(he:Ro tb cb Ef env.scope.names σ e k'=some r):∃x,my c env A σ e x/\k' x=some r:=by
 have u:=h env A G B;induction e using Expr.casesOn
 case Constant q kk p=>refine ab (bL he) λx h1 he=>?_;exact ag x (wF h1) he
 case Name x p=>exact yp he
 case IfExp t b o p=>
  refine ab (u.tr he) λq h1 he=>?_
  induction q with
  |true=>refine ab (u.ev he) λx h2 he=>?_;exact ag x (λH₀=>rP (h1 H₀) (λ_=>h2 H₀) (λq=>nomatch q)) he
  |false=>refine ab (u.ev he) λx h2 he=>?_;exact ag x (λH₀=>rP (h1 H₀) (λq=>nomatch q) (λ_=>h2 H₀)) he
 case BinOp l op rr p=>refine ab (u.ev he) λx h1 he=>?_;refine ab (u.ev he) λy h2 he=>?_;refine ar he λz I he=>?_;exact ag z (λH₀=>rQ (h1 H₀) (h2 H₀) (Fr O tk F B I)) he
 case UnaryOp op x p=>
  induction op
  case USub=>refine ab (u.ev he) λv h1 he=>?_;refine ar he λy h2 he=>?_;exact ag y (BS O tk F B h1 h2) he
  all_goals exact ad he
 case Compare l ops rs p=>refine bV (vj (pos:=p) (k':=λb=>k' (.bool b)) O tk F B u he) λb h1 _ he=>?_;exact ag _ h1 he
 case Tuple es q p=>refine ab (dJ u he) λxs h1 he=>?_;refine bD he λH he=>?_;exact ag _ (λH₀=>ma (h1 H₀) H) he
 case List es p=>refine ab (dJ u he) λxs h1 he=>?_;refine bD he λH he=>?_;exact ag _ (λH₀=>si.ev (gT (h1 H₀) H)) he
 case Attribute o nm p=>refine af (sC he) λJ he=>?_;refine ab (u.ev he) λv h1 he=>?_;refine ar he λy h2 he=>?_;exact ag y (Ax O tk F B (Ry J) h1 h2) he
 case Subscript o i p=>exact Bk O u he
 case Call f args cB pos=>exact Ac O tk F B u he
 case ListComp elt gens scope p=>refine ab (uJ (k':=λxs=>k' (.list xs)) O tk B G h he) λxs X he=>?_;exact ag _ (z5 X) he
 case DictComp ke v gens scope p=>refine ab (rY (k':=λa=>(Df a).bind λxs=>k' (.dict xs)) O tk B G h he) λa X he=>?_;refine ar he λl h1 he=>?_;exact ag _ (z6 (De h1▸X)) he
 case Dict ks vs p=>exact zU u he
 all_goals exact ad he
theorem vB(h:HE c env A C):∀{f}{k':Bool->Option R},Ht (C.tr σ) f k'=some r->∃b,(∀H₀,iS c env A H₀ σ f b)/\k' b=some r
 |[],_,e=>⟨_,λ_=> .nil,e⟩
 |a::f,k',e=>by
  refine ab (h.tr e) λq h1 e=>?_
  induction q with
  |true=>refine ab (vB h e) λb h2 e=>?_;exact ag b (λH₀=> .yes (h1 H₀) (h2 H₀)) e
  |false=>exact ag _ (λH₀=> .no (h1 H₀)) e
theorem xZ(h:HE c env A C):∀{f}{k':Bool->Option R},MW (C.tr σ) f k'=some r->∃b,(∀H₀,ud c env A H₀ σ f b)/\k' b=some r
 |[],_,e=>⟨_,λ_=> .nil,e⟩
 |a::f,k',e=>by
  refine ab (h.tr e) λq h1 e=>?_
  induction q with
  |true=>exact ag _ (λH₀=> .yes (h1 H₀)) e
  |false=>refine ab (xZ h e) λb h2 e=>?_;exact ag b (λH₀=> .no (h1 H₀) (h2 H₀)) e
theorem sT{e:Expr}(h:(vE e).plain=true):isTrue e env (eval e env)=(do let v<-eval e env;standAt e.pos;holding [v] (truthy v)):=by induction e using Expr.casesOn<;>first|rfl|exact nomatch h
theorem EL(h:HE c env A C){e}{k':Bool->Option R}(he:(if(vE e).plain then C.ev σ e λx=>(ib x).bind k' else none)=some r):∃b,Ma c env A σ e b/\k' b=some r:=by refine bD he λf he=>?_;refine ab (h.ev he) λx h1 he=>?_;refine ar he λb h2 he=>?_;exact ag b (λH₀=>xk (sT f) (h1 H₀) λT s v w r=>oo h2 w r) he
theorem EK(O:aM c)(tk:c8 c tb)(u:eU c tb cb k)(i:bq A k)(z:env.scope.kind= .function)(h:wS c k Ef){e}{k':Bool->Option R}(he:Qi tb cb Ef env.scope.names σ e k'=some r):∃b,Ma c env A σ e b/\k' b=some r:=by
 have f:=h env A z i;induction e using Expr.casesOn
 case UnaryOp op x p=>
  induction op
  case Not=>refine ab (f.tr he) λq h1 he=>?_;exact ag _ (λH₀=>EH (h1 H₀)) he
  all_goals exact ad he
 case BoolOp op es p=>
  induction op with
  |And=>refine ab (vB f he) λq h1 he=>?_;exact ag _ (λH₀=>EJ (h1 H₀)) he
  |Or=>refine ab (xZ f he) λq h1 he=>?_;exact ag _ (λH₀=>Ib (h1 H₀)) he
 case IfExp t b o p=>
  refine ab (f.tr he) λq h1 he=>?_
  induction q with
  |true=>refine ab (f.tr he) λx h2 he=>?_;exact ag x (λH₀=>qz (h1 H₀) (λ_=>h2 H₀) (λq=>nomatch q)) he
  |false=>refine ab (f.tr he) λx h2 he=>?_;exact ag x (λH₀=>qz (h1 H₀) (λq=>nomatch q) (λ_=>h2 H₀)) he
 case Compare l ops rs p=>refine bV (vj (pos:=p) O tk u i f he) λb _ h1 he=>?_;exact ag _ h1 he
 all_goals exact EL f he
theorem jl(O:aM c)(tk:c8 c tb)(f:eU c tb cb k):∀n,wS c k (kA tb cb n)
 |0=>λ_ _ _ _=>⟨ad,ad⟩
 |n+1=>λenv A i u=>⟨GJ O tk f u i (jl O tk f n),EK O tk f u i (jl O tk f n)⟩
end
set_option tactic.hygienic false
noncomputable def cT:Nat->Expr->List Str
 |0,_=>[]
 |n+1,e=>match e with
  | .Name x _=>[x]
  | .Subscript o i _=>(if(iH o).isSome then[]else cT n o)++cT n i
  | .Call f args cB _=>(match iH f with
    |some p=>if p.1==("len":Str)&&(one args).any (λe=>(iH e).isSome)then[]else args.flatMap (cT n)
    |none=>(match(vE f).Hs with
     |some a=>(match iH a.1 with
      |some x=>if a.2.1==("items":Str)then[x.1]else[]
      |none=>cT n a.1)++args.flatMap (cT n)++cB.flatMap λkw=>cT n kw.value
     |none=>[]))
  | .Attribute o _ _=>cT n o
  | .BinOp a _ b _=>cT n a++cT n b
  | .UnaryOp _ a _=>cT n a
  | .BoolOp _ es _=>es.flatMap (cT n)
  | .Compare a _ bs _=>cT n a++bs.flatMap (cT n)
  | .IfExp a b d _=>cT n a++cT n b++cT n d
  | .List es _=>es.flatMap (cT n)
  | .Tuple es _ _=>es.flatMap (cT n)
  | .Dict ks vs _=>ks.flatMap (λk=>k.toList.flatMap (cT n))++vs.flatMap (cT n)
  | .ListComp elt gens scope _=>scope.names.map (·.1)++cT n elt++gens.flatMap λg=>cT n g.iter
  | .DictComp k v gens scope _=>scope.names.map (·.1)++cT n k++cT n v++gens.flatMap λg=>cT n g.iter
  |_=>[]
noncomputable def Mg:Expr->List Str
 | .Subscript _ i _=>cT 20 i
 |_=>[]
noncomputable def ia:Stmt->List Str
 | .If t _ _ _=>cT 20 t
 | .Return e _=>e.toList.flatMap (cT 20)
 | .Assert t _ _=>cT 20 t
 | .Expr e _=>(match(vE e).call with
   |some q=>if((vE q.1).Hs.bind λa=>iH a.1).isSome then q.2.1.flatMap (cT 20)else[]
   |none=>[])
 | .AugAssign _ _ e _=>cT 20 e
 | .Assign ts e _=>cT 20 e++ts.flatMap Mg
 | .For _ iter _ _ _=>cT 20 iter
 |_=>[]
noncomputable def E7(ns:dM)(x:Str):Bool:=ns.lookup x==some .local||ns.lookup x==some .cell
noncomputable def oT(ns:dM)(t e:Expr):Bool:=match(vE t).tup,(vE e).tup with
 |some ts,some _=>ts.1.any λx=>(iH x).all λy=>ns.lookup y.1 !=some .local
 |_,_=>true
noncomputable def Ld{R:Type}(tb:Tb)(σ:ah)(s attr:Str)(y:AV)(k:ah->Option R):Option R:=if zX s then none else(σ.lookup s).bind λev=>match ev with
 | .self a C fl=>if tb.cls C&& !bS C fl&&(fl.lookup attr).isNone&&az.contains attr&&decide (fl.length<100)then k (aQ σ s (.self a C (fl++[(attr,y)])))else none
 |_=>none
noncomputable def Mw{R:Type}(σ:ah)(x:Str)(iv y:AV)(k:ah->Option R):Option R:=(σ.lookup x).bind λev=>match ev with
 | .ol xs=>d8 iv λj=>if 0<=j/\j<xs.length/\xs.length<=1000 then k (aQ σ x (.ol (xs.set j.toNat y)))else none
 | .od l=>b8 iv λj=>if l.length<=1000 then k (aQ σ x (.od (bI l j y)))else none
 |_=>none
noncomputable def Bf{R:Type}(tb:Tb)(ns:dM)(C:eZ)(σ:ah)(t:Expr)(y:AV)(k:ah->Option R):Option R:=match t with
 | .Name x _=>if E7 ns x then k (aQ σ x (.fz y))else none
 | .Attribute o attr _=>(iH o).bind λp=>Ld tb σ p.1 attr y k
 | .Subscript o i _=>(iH o).bind λp=>if zX p.1 then none else C.ev σ i λiv=>Mw σ p.1 iv y k
 |_=>none
noncomputable def EP{R:Type}(tb:Tb)(ns:dM)(C:eZ):ah->List Expr->List AV->(ah->Option R)->Option R
 |σ,[],ys,k=>if ys.isEmpty then k σ else none
 |σ,t::ts,ys,k=>(match ys with
  |[]=>none
  |y::ys=>if isStarred t then none else Bf tb ns C σ t y λσ'=>EP tb ns C σ' ts ys k)
noncomputable def Qj{R:Type}(tb:Tb)(ns:dM)(C:eZ)(σ:ah)(t:Expr)(y:AV)(k:ah->Option R):Option R:=match(vE t).tup with
 |some ts=>uD y λys=>EP tb ns C σ ts.1 ys k
 |none=>Bf tb ns C σ t y k
noncomputable def Il(ns:dM)(x:Str)(p:Pos)(e:Expr)(scope:Scope):Bool:=ns.lookup x==some .local&&p.line==e.pos.line&& !(scope.names.any λ(n,k)=>n==x&&(k== .local||k== .cell))
noncomputable def oK{R:Type}(tb:Tb)(ns:dM)(C:eZ)(σ:ah)(t e:Expr)(k:ah->Option R):Option R:=
 if isStarred t then none else if oT ns t e then C.ev σ e λy=>Qj tb ns C σ t y k else none
noncomputable def vz{R:Type}(tb:Tb)(Ef:dM->eZ)(ns:dM)(σ:ah)(t e:Expr)(k:ah->Option R):Option R:=match e with
 | .List es _=>(iH t).bind λp=>if E7 ns p.1 then lZ ((Ef ns).ev σ) es λxs=>if xs.length<=1000 then k (aQ σ p.1 (.ol xs))else none else none
 | .Dict ks vs _=>(iH t).bind λp=>if E7 ns p.1&&ks.isEmpty&&vs.isEmpty then k (aQ σ p.1 (.od []))else none
 | .ListComp a g scope q=>(iH t).bind λp=>if Il ns p.1 p.2 (.ListComp a g scope q) scope then nN tb Ef ns σ (.ListComp a g scope q) scope (.l []) λa=>(gO a).bind λxs=>k (aQ σ p.1 (.ol xs))else none
 | .BinOp l op r q=>(match op with
   | .Mult=>(match l with
     | .List es lp=>(iH t).bind λp=>if E7 ns p.1 then(Ef ns).ev σ (.List es lp) λx=>(Ef ns).ev σ r λy=>d7 x λxs=>d8 y λj=>(one xs).bind λx=>if 0<=j/\j<=1000 then k (aQ σ p.1 (.ol (List.replicate j.toNat x)))else none else none
     |l=>oK tb ns (Ef ns) σ t (.BinOp l .Mult r q) k)
   |op=>oK tb ns (Ef ns) σ t (.BinOp l op r q) k)
 |e=>if gz e then none else oK tb ns (Ef ns) σ t e k
noncomputable def bU(body:ah->Option fX)(names:List Str):List (List AV)->ah->Option fX
 |[],σ=>some (.next σ)
 |row::rows,σ=>(body (aX σ names row)).bind λo=>match o with
  | .next σ'=>bU body names rows σ'
  | .cont σ'=>bU body names rows σ'
  | .ret x σ'=>some (.ret x σ')
noncomputable def f7{R:Type}(kN:ah->Option R)(kC:ah->Option R)(kR:AV->ah->Option R)(o:fX):Option R:=match o with
 | .next σ=>kN σ
 | .cont σ=>kC σ
 | .ret x σ=>kR x σ
noncomputable abbrev Ut:={R:Type}->ah->List Stmt->(ah->Option R)->(ah->Option R)->(AV->ah->Option R)->Option R
noncomputable def Li{R:Type}(C:eZ)(σ:ah)(e:Expr)(k:ah->Option R):Option R:=
 (vE e).call.bind λq=>(vE q.1).Hs.bind λa=>(iH a.1).bind λx=>(one q.2.1).bind λe=>if a.2.1==("append":Str)&& !zX x.1&& !isStarred e&&a.2.2.endLine==q.2.2.2.line&&q.2.2.1.isEmpty then
  C.ev σ e λy=>(σ.lookup x.1).bind λev=>(match ev with
   | .ol xs=>if xs.length<=1000 then k (aQ σ x.1 (.ol (xs++[y])))else none
   |_=>none)else none
noncomputable def PQ(op:Operator)(a b:Int):Option Int:=match op with
 | .Add=>some (a+b)
 | .Sub=>some (a-b)
 |_=>none
noncomputable def Lc{R:Type}(ns:dM)(C:eZ)(σ:ah)(t:Expr)(op:Operator)(e:Expr)(k:ah->Option R):Option R:=
 (iH t).bind λx=>if E7 ns x.1 then C.ev σ e λy=>(σ.lookup x.1).bind λev=>(match ev with
  | .fz v=>d8 v λa=>d8 y λb=>(PQ op a b).bind λz=>k (aQ σ x.1 (.fz (.int z)))
  |_=>none)else none
noncomputable def R4{R:Type}(tb:Tb)(Ef:dM->eZ)(ns:dM)(go:Ut)(σ:ah)(st:Stmt)(kN:ah->Option R)(kC:ah->Option R)(kR:AV->ah->Option R):Option R:=match st with
 | .If t b o _=>(Ef ns).tr σ t λq=>if q=true then go σ b kN kC kR else go σ o kN kC kR
 | .Return v _=>(match v with
   |some e=>(Ef ns).ev σ e λx=>kR x σ
   |none=>kR .none σ)
 | .Assert t _ _=>(Ef ns).tr σ t λq=>if q=true then kN σ else none
 | .Pass _=>kN σ
 | .Continue _=>kC σ
 | .Expr e _=>Li (Ef ns) σ e kN
 | .AugAssign t op e _=>Lc ns (Ef ns) σ t op e kN
 | .Assign ts e _=>(one ts).bind λt=>vz tb Ef ns σ t e kN
 | .For tg iter body Rs _=>if Rs.isEmpty&& !o8 iter&&(aJ tg).all (E7 ns)then rq tb ns (Ef ns) σ iter tg λrows=>(bU (λτ=>go τ body (λσ=>some (.next σ)) (λσ=>some (.cont σ)) λx σ=>some (.ret x σ)) (aJ tg) rows σ).bind (f7 kN kC kR)else none
 |_=>none
noncomputable def bB(tb:Tb)(cb:Cb)(ns:dM)(m:Nat):Nat->{R:Type}->ah->List Stmt->(ah->Option R)->(ah->Option R)->(AV->ah->Option R)->Option R
 |0,_,_,_,_,_,_=>none
 |n+1,_,σ,RZ,kN,kC,kR=>match RZ with
  |[]=>kN σ
  |st::rest=>match cb.stmt ns ((ia st).foldl lU σ) st with
   |some σ'=>bB tb cb ns m n σ' rest kN kC kR
   |none=>R4 tb (kA tb cb m) ns (bB tb cb ns m n) ((ia st).foldl lU σ) st (λσ'=>bB tb cb ns m n σ' rest kN kC kR) kC kR
set_option tactic.hygienic true
noncomputable def f9:List Addr:=[21,28,35,42,57,64,71,78,86,93,100,107,114,121,128,135,142,149,156,163,170,177,184,192,199,206,211,221,245,252,260,267,274,281,300,307,314,321,328,335,347,354,359,366,380,387,394,413,420,427,446,454,461,468,475,482,502,509,516,523,542,550,557,564,571,590,595,602,619,624,632,637,642,647,652,666,671,678,685,692,697,702]
noncomputable def mr(K:Frag)(env:Env):Prop:=(∃f d,f9.contains f=true/\(∃o,K.lookup f=some o/\o.data= .func d)/\env.scope=d.scope/\(env.code=d.code/\env.qual=d.qualname++".<locals>."))\/(env.scope.names.lookup ("script":Str)).isSome=true
structure mu(c:Cx)(tb:Tb)(cb:Cb)(k:Nat):Prop where
 set:∀C,tb.cls C=true->iu c.K C
 stmt:∀σ st σ' env A,cb.stmt env.scope.names σ st=some σ'->env.scope.kind= .function->mr c.K env->bq A k->ju c env A σ st (.next σ')
section
variable{c:Cx}{tb:Tb}{cb:Cb}{k:Nat}{env:Env}{A:Around}{σ:ah}{C:eZ}{Ef:dM->eZ}{R:Type}{r:R}
theorem jE{x}(h:E7 env.scope.names x=true):env.kindOf x=some .local\/env.kindOf x=some .cell:=(Bool.or_eq_true_iff.mp h).imp beq_iff_eq.mp beq_iff_eq.mp
theorem uq(O:aM c)(u:mu c tb cb k)(h:HE c env A C){t y}{k':ah->Option R}(he:Bf tb env.scope.names C σ t y k'=some r):∃σ',AH c env A σ t y σ'/\k' σ'=some r:=by
 induction t using Expr.casesOn
 case Name x p=>refine af (rC he) λf he=>?_;exact ag _ (kI (jE f)) he
 case Attribute o attr p=>
  refine ar he λs h1 he=>?_;refine af (sC he) λhd he=>?_;refine ar he λev f he=>?_;induction ev
  case self a D fl=>refine bD he λq he=>?_;refine bK q λq q5=>?_;refine bK q λq q4=>?_;refine bK q λq q3=>?_;refine bK q λq1 q2=>?_;exact ag _ (cj h1▸Be O (u.set _ q1) f hd (CV q2) (Option.isNone_iff_eq_none.mp q3) q4 (of_decide_eq_true q5)) he
  all_goals exact ad he
 case Subscript o i p=>
  refine ar he λs h1 he=>?_;refine af (sC he) λhd he=>?_;refine ab (h.ev he) λz hi he=>?_;refine ar he λev f he=>?_;induction ev
  case ol xs=>refine ab (bX he) λj e he=>?_;refine bD he λq he=>?_;exact ag _ (cj h1▸Bb f hd (e▸hi) q.1 q.2.1 q.2.2) he
  case od l=>refine ab (dr he) λj e he=>?_;refine bD he λq he=>?_;exact ag _ (cj h1▸Bc f hd (e▸hi) q) he
  all_goals exact ad he
 all_goals exact ad he
theorem uo(O:aM c)(f:mu c tb cb k)(h:HE c env A C):∀{ts ys σ}{k':ah->Option R},EP tb env.scope.names C σ ts ys k'=some r->∃σ',ik c env A σ ts ys σ'/\k' σ'=some r
 |[],ys,σ,_,he=>by refine bD he λq he=>?_;exact ag σ (List.isEmpty_iff.mp q▸ .nil) he
 |t::ts,[],σ,_,he=>ad he
 |t::ts,y::ys,σ,_,he=>by refine af (sC he) λi he=>?_;refine ab (uq O f h he) λτ h1 he=>?_;refine ab (uo O f h he) λu h2 he=>?_;exact ag u (.cons i h1 h2) he
theorem Io{t e y}{k':ah->Option R}(he:Bf tb env.scope.names C σ t y k'=some r):swappedStores [t] e env=pure none:=by
 induction t using Expr.casesOn
 case Name=>rfl
 case Attribute=>rfl
 case Subscript=>rfl
 all_goals exact ad he
theorem Im{t e ts}(ht:(vE t).tup=some ts)(h:oT env.scope.names t e=true):swappedStores [t] e env=pure none:=by
 rw[lr ht];unfold oT at h;rw[ht]at h
 induction he:(vE e).tup with
 |none=>induction e using Expr.casesOn<;>first|rfl|exact nomatch he
 |some es=>
  rw[he]at h;rw[lr he];refine ab (List.any_eq_true.mp h) λx hx q=>?_;exact xq ⟨x,hx,λy hy z=>by
   rw[hy]at q;exact bne_iff_ne.mp q z⟩
theorem jH(O:aM c)(f:mu c tb cb k)(z:bq A k)(h:HE c env A C){t e pos}{k':ah->Option R}(i:gz e=false)(he:oK tb env.scope.names C σ t e k'=some r):∃σ',ju c env A σ (.Assign [t] e pos) (.next σ')/\k' σ'=some r:=by
 refine af (sC he) λu he=>?_;refine bD he λhw he=>?_;refine ab (h.ev he) λy h1 he=>?_;unfold Qj at he
 induction ht:(vE t).tup with
 |some ts=>rw[ht]at he;refine ab (x8 he) λys B he=>?_;refine ab (uo O f h he) λτ h2 he=>?_;exact ag τ (nH i (Im ht hw) u (B▸h1) (lr ht▸qD z.r.handled h2)) he
 |none=>rw[ht]at he;refine ab (uq O f h he) λτ h2 F=>?_;exact ag τ (nH i (Io he) u h1 h2) F
theorem ua(O:aM c)(tk:c8 c tb)(G:mu c tb cb k)(i:bq A k)(H:env.scope.kind= .function)(h:wS c k Ef){t e pos}{k':ah->Option R}(he:vz tb Ef env.scope.names σ t e k'=some r):
 ∃σ',ju c env A σ (.Assign [t] e pos) (.next σ')/\k' σ'=some r:=by
 have f:=h env A H i;induction e using Expr.casesOn
 case List es p=>refine ar he λx h1 he=>?_;refine bD he λz he=>?_;refine ab (dJ f he) λxs h2 he=>?_;refine bD he λF he=>?_;exact ag _ (cj h1▸fW rfl (jE z) λH₀=>gT (h2 H₀) F) he
 case Dict ks vs p=>refine ar he λx h1 he=>?_;refine bD he λq P=>?_;refine bK q λq q3=>?_;refine bK q λz q2=>?_;clear he;obtain rfl:=List.isEmpty_iff.mp q2;obtain rfl:=List.isEmpty_iff.mp q3;exact ag _ (cj h1▸tT rfl (jE z) λH₀=>lG) P
 case ListComp elt gens scope T8=>
  refine ar he λx h1 he=>?_;refine bD he λq he=>?_;refine ab (uJ (k':=λxs=>k' (aQ σ x.1 (.ol xs))) O tk i H h he) λxs X he=>?_;refine ag _ ?_ he;obtain⟨Q,B,I,U,rows,sc,dO,Y⟩:=X;have e:gens=⟨Q,B,I,0⟩::U:=Y.cl;subst e;refine bK q λq q3=>?_;refine bK q λq1 q2=>?_;have J:env.kindOf x.1=some .local:=beq_iff_eq.mp q1;rw[cj h1];refine tU ?_ J Y.ctx Y.loc Y.fold Y.it Y.run;have hb:env.blockKind= .function:=by unfold Env.blockKind;rw[H];rfl
  unfold swapsWith;simp only[hb,J,q3,beq_self_eq_true,Bool.true_and,Bool.and_true];exact congrArg pure q2
 case BinOp l op rr p=>
  induction op
  case Mult=>
   induction l using Expr.casesOn
   case List es lp=>refine ar he λx h1 he=>?_;refine bD he λz he=>?_;refine ab (f.ev he) λu h2 he=>?_;refine ab (f.ev he) λv W he=>?_;refine ab (cY he) λxs N he=>?_;refine ab (bX he) λj Z he=>?_;refine ar he λy e3 he=>?_;refine bD he λF he=>?_;rw[de e3]at N;exact ag _ (cj h1▸fW rfl (jE z) λH₀=>yl F.1 F.2 ((N▸h2) H₀) ((Z▸W) H₀)) he
   all_goals exact jH O G i f rfl he
  all_goals exact jH O G i f rfl he
 all_goals first|exact jH O G i f rfl he|exact ad he
theorem pk{body:List Stmt}{go:ah->Option fX}{names:List Str}(h:∀σ o,go σ=some o->dG c env A σ body o):∀{rows σ o},bU go names rows σ=some o->Lx c env A names body σ rows o
 |[],σ,o,he=>Option.some.inj he▸ .done
 |row::rows,σ,o,he=>by
  refine ar he λq hb he=>?_
  induction q with
  |next σ'=>exact .next (h _ _ hb) (pk h he)
  |cont σ'=>exact .cont (h _ _ hb) (pk h he)
  |ret x σ'=>exact Option.some.inj he▸ .ret (h _ _ hb)
theorem C8(f:env.scope.kind= .function)(h:HE c env A C){e pos}{k':ah->Option R}(he:Li C σ e k'=some r):∃σ',ju c env A σ (.Expr e pos) (.next σ')/\k' σ'=some r:=by
 refine ar he λq h1 he=>?_;refine ar he λa h2 he=>?_;refine ar he λx i he=>?_;refine ar he λa1 u he=>?_;refine bD he λb he=>?_;refine bK b λb b5=>?_;refine bK b λb b4=>?_;refine bK b λb b3=>?_;refine bK b λb1 b2=>?_;refine ab (h.ev he) λy z he=>?_;refine ar he λev B he=>?_;induction ev
 case ol xs=>refine bD he λF he=>?_;have e0:=pG h1;rw[t9 h2,cj i,de u,beq_iff_eq.mp b1,List.isEmpty_iff.mp b5]at e0;exact ag _ (e0▸wy f B (CV b2) (CV b3) z b4 F) he
 all_goals exact ad he
theorem C7(h:HE c env A C){t op e pos}{k':ah->Option R}(he:Lc env.scope.names C σ t op e k'=some r):∃σ',ju c env A σ (.AugAssign t op e pos) (.next σ')/\k' σ'=some r:=by
 refine ar he λx h1 he=>?_;refine bD he λi he=>?_;refine ab (h.ev he) λy u he=>?_;refine ar he λev B he=>?_;induction ev
 case fz v=>
  refine ab (bX he) λa F he=>?_;refine ab (bX he) λb G he=>?_;refine ar he λz f he=>?_;refine ag _ (cj h1▸GH (jE i) (F▸B) (G▸u) ?_) he;induction op
  case Add=>exact .inl ⟨rfl,(Option.some.inj f).symm⟩
  case Sub=>exact .inr ⟨rfl,(Option.some.inj f).symm⟩
  all_goals exact ad f
 all_goals exact ad he
theorem kY(O:aM c)(tk:c8 c tb)(B:eU c tb cb k)(F:mu c tb cb k)(te:mr c.K env)(i:bq A k)(u:env.scope.kind= .function){m}:∀n{R:Type}{r:R}{σ b kN kC kR},bB tb cb env.scope.names m n σ b kN kC kR=some r->∃o,dG c env A σ b o/\f7 kN kC kR o=some r
 |0,_,_,_,_,_,_,_,he=>ad he
 |n+1,_,_,σ,[],kN,_,_,he=>⟨.next σ,u7,he⟩
 |n+1,R,r,σ,st::rest,kN,kC,kR,he=>by
  have f:=jl O tk B m env A u i;have z:= @kY O tk B F te i u m n;have next:∀{σ'},ju c env A ((ia st).foldl lU σ) st (.next σ')->bB tb cb env.scope.names m n σ' rest kN kC kR=some r->∃o,dG c env A σ (st::rest) o/\f7 kN kC kR o=some r:=λX he=>by refine ab (z he) λo h1 h2=>?_;exact ag o (gG (rM X h1)) h2
  have same:∀{o},ju c env A ((ia st).foldl lU σ) st o->f7 (λσ'=>bB tb cb env.scope.names m n σ' rest kN kC kR) kC kR o=some r->∃o,dG c env A σ (st::rest) o/\f7 kN kC kR o=some r:=λ{o} X he=>by
   induction o with
   |next σ'=>exact next X he
   |cont σ'=>exact ag _ (gG (zB X)) he
   |ret x σ'=>exact ag _ (gG (u6 X)) he
  unfold bB at he;dsimp only at he
  induction hs:cb.stmt env.scope.names ((ia st).foldl lU σ) st with
  |some σ'=>rw[hs]at he;exact next (F.stmt _ _ _ env A hs u te i) he
  |none=>
   rw[hs]at he;clear hs;generalize(ia st).foldl lU σ=τ at he next same
   dsimp only at he;induction st using Stmt.casesOn
   case If t b o p=>
    refine ab (f.tr he) λq h1 he=>?_
    induction q with
    |true=>refine ab (z he) λG h2 he=>?_;exact same (Eg h1 (λ_=>h2) (λq=>nomatch q)) he
    |false=>refine ab (z he) λG h2 he=>?_;exact same (Eg h1 (λq=>nomatch q) (λ_=>h2)) he
   case Return v p=>
    induction v with
    |none=>exact same Cz he
    |some e=>refine ab (f.ev he) λx h1 he=>?_;exact same (zH h1) he
   case Assert t mm p=>refine ab (f.tr he) λq h1 he=>?_;refine af (Jr he) λH he=>?_;subst H;exact same (nJ h1) he
   case Pass p=>exact same CA he
   case Continue p=>exact same CB he
   case Expr e p=>obtain⟨σ',h1,he⟩:=C8 (k':=λσ'=>bB tb cb env.scope.names m n σ' rest kN kC kR) u f he;exact next h1 he
   case AugAssign t op e p=>obtain⟨σ',h1,he⟩:=C7 (k':=λσ'=>bB tb cb env.scope.names m n σ' rest kN kC kR) f he;exact next h1 he
   case Assign ts e p=>refine ar he λt h1 he=>?_;obtain⟨σ',h2,he⟩:=ua O tk F i u (jl O tk B m) he;exact next (de h1▸h2) he
   case For tg iter body Rs p=>refine bD he λq he=>?_;refine bK q λq q3=>?_;refine bK q λq1 q2=>?_;refine ab (lK O tk i f he) λrows h1 he=>?_;refine ar he λo h2 he=>?_;refine same (List.isEmpty_iff.mp q1▸GF (jW (CV q2)) (λx hx=>jE (List.all_eq_true.mp q3 x hx)) h1 (pk (λσ o hb=>?_) h2)) he;refine ab (z hb) λG I hb=>?_;induction G<;>exact Option.some.inj hb▸I
   all_goals exact ad he
end
set_option tactic.hygienic false
set_option tactic.hygienic true
inductive mv where
 |pos(i:Nat)
 |kw(i:Nat)
 |none
 |Ia
 |Ka
noncomputable def mv.val(vs:List Value)(kv:List (Str×Value)):mv->Value
 | .pos i=>vs[i]?.getD .none
 | .kw i=>(kv[i]?.map (·.2)).getD .none
 | .none=> .none
 | .Ia=> .bool true
 | .Ka=> .bool false
noncomputable def mv.av(xs:List AV)(kx:List (Str×AV)):mv->AV
 | .pos i=>xs[i]?.getD .none
 | .kw i=>(kx[i]?.map (·.2)).getD .none
 | .none=> .none
 | .Ia=> .bool true
 | .Ka=> .bool false
theorem mv.vr{T:TM}{vs kv xs kx}(h:dx T vs xs)(h2:jz T kv kx)(p:mv):VR T (p.val vs kv) (p.av xs kx):=by
 induction p with
 |pos i=>
  induction h generalizing i with
  |nil=>exact .none
  |cons h _ ih=>induction i using Nat.casesAuxOn with
   |zero=>exact h
   |succ i=>exact ih i
 |kw i=>
  clear h
  induction h2 generalizing i with
  |nil=>exact .none
  |cons h _ ih=>induction i using Nat.casesAuxOn with
   |zero=>exact h.2
   |succ i=>exact ih i
 |none=>exact .none
 |Ia=>exact .bool _
 |Ka=>exact .bool _
structure Sp where
 call:Cb->Addr->List AV->List (Str×AV)->Option AV
 stmt:dM->ah->Stmt->Option ah
noncomputable def AM(sp:Sp):Bool->dM->ah->Stmt->Option ah
 |true=>sp.stmt
 |false=>λ_ _ _=>none
structure jt where
 ns:Addr->Option dM
 body:Addr->Option (List Stmt)
 sig:Addr->Nat->List Str->Option (List (Str×mv))
 init:Addr->Option Addr
noncomputable def Dv(C:Addr)(self:Str)(g:Addr->List (Str×AV)->Option (List (Str×AV)))(σ:ah):Option (List (Str×AV)):=(σ.lookup self).bind λev=>match ev with
 | .self a C' fl=>if C'=C then g a fl else none
 |_=>none
noncomputable def lP(tb:Tb)(cb:Cb)(ns:dM)(b:List Stmt)(C:Addr)(self:Str)(l:List (Str×mv))(xs:List AV)(a:Addr)(g:Addr->List (Str×AV)->Option (List (Str×AV))):Option (List (Str×AV)):=
 bB tb cb ns 40 200 ((self,.self a C [])::sF (l.map λp=>(p.1,p.2.av (.none::xs) []))) b (Dv C self g) (λ_=>none) (λ_ _=>none)
noncomputable def sg(c:Cx)(d:FuncData)(n:Nat)(cB:List Str)(l:List (Str×mv)):Prop:=j7 d.scope (l.map (·.1))/\
 ∀s vs kv,c.K.In s.heap->vs.length=n->kv.map (·.1)=cB->BindsTo s d ⟨vs,kv⟩ (l.map λp=>(p.1,p.2.val vs kv))
structure k9(c:Cx)(tb:Tb)(sp:Sp)(ft:jt):Prop where
 fn:∀f ns b,ft.ns f=some ns->ft.body f=some b->∃d,(d.scope.names=ns/\f9.contains f=true)/\sw c.K f d b/\∀n cB l,ft.sig f n cB=some l->sg c d n cB l
 init:∀C f,ft.init C=some f->iR c.K C f
 par:∀C f ns b self l xs,ft.init C=some f->ft.ns f=some ns->ft.body f=some b->ft.sig f (xs.length+1) []=some ((self,.pos 0)::l)->∀call make q a g,
  lP tb ⟨call,make,AM sp q⟩ ns b C self l xs a g=lP tb ⟨call,make,AM sp q⟩ ns b C self l xs 0 λ_=>g a
noncomputable def Ap(ft:jt)(f:Addr)(xs:List AV)(kx:List (Str×AV)):Option (List (Str×AV)):=(ft.sig f xs.length (kx.map (·.1))).map λl=>l.map λp=>(p.1,p.2.av xs kx)
noncomputable def uI:Cb:=⟨λ_ _ _=>none,λ_ _=>none,λ_ _ _=>none⟩
noncomputable def callC(tb:Tb)(ft:jt)(cb:Cb)(f:Addr)(xs:List AV)(kx:List (Str×AV)):Option AV:=
 (ft.ns f).bind λns=>(ft.body f).bind λb=>(Ap ft f xs kx).bind λps=>bB tb cb ns 40 200 (sF ps) b (λ_=>some .none) (λ_=>none) (λx _=>some x)
noncomputable def y3:mv->Bool
 | .pos i=>i==0
 |_=>false
noncomputable def rh(tb:Tb)(ft:jt)(cb:Cb)(C:Addr)(xs:List AV):Option (List (Str×AV)):=
 (ft.init C).bind λf=>(ft.ns f).bind λns=>(ft.body f).bind λb=>(ft.sig f (xs.length+1) []).bind λl=>match l with
 |(self,.pos 0)::l=>if l.any (λp=>y3 p.2)then none else lP tb cb ns b C self l xs 0 λ_ fl=>some fl
 |_=>none
noncomputable def Nh(tb:Tb)(ft:jt)(sp:Sp)(c1:Cb)(c0:Option Cb):Cb where
 call f xs kx:=match sp.call c1 f xs kx with
  |some r=>some r
  |none=>callC tb ft c1 f xs kx
 make C xs:=c0.bind λc0=>rh tb ft c0 C xs
 stmt:=AM sp c0.isSome
noncomputable def lB(tb:Tb)(ft:jt)(sp:Sp):Nat->Cb×Option Cb
 |0=>(uI,none)
 |k+1=>(Nh tb ft sp (lB tb ft sp k).1 (lB tb ft sp k).2,some (lB tb ft sp k).1)
structure Lm(c:Cx)(tb:Tb)(sp:Sp):Prop where
 call:∀k cb f xs kx r,eU c tb cb k->mu c tb cb k->sp.call cb f xs kx=some r->dz c f xs kx r (k+1)
 stmt:∀k σ st σ' env A,1<=k->sp.stmt env.scope.names σ st=some σ'->env.scope.kind= .function->mr c.K env->bq A (k+1)->ju c env A σ st (.next σ')
section
variable{c:Cx}{tb:Tb}{ft:jt}{sp:Sp}{cb:Cb}{k:Nat}
theorem uR(l:List (Str×mv))(xs kx):(l.map λp=>(p.1,p.2.av xs kx)).map (·.1)=l.map (·.1):=by simp
theorem uQ{T:TM}{vs kv xs kx}(h:dx T vs xs)(h2:jz T kv kx):∀(l:List (Str×mv)),jz T (l.map λp=>(p.1,p.2.val vs kv)) (l.map λp=>(p.1,p.2.av xs kx))
 |[]=> .nil
 |p::l=> .cons (p.2.vr h h2) (uQ h h2 l)
theorem ml(O:aM c){f d xs kx ps}(z:∀n i l,ft.sig f n i=some l->sg c d n i l)(h:Ap ft f xs kx=some ps):Eu c d xs kx ps/\j7 d.scope (ps.map (·.1)):=by refine yz h λl h1 h2=>?_;refine af (z _ _ _ h1) λB F=>?_;rw[<-h2];exact⟨λT s vs G w hv u=>⟨_,F s vs G (w.gj O) hv.length u.keys,uQ hv u l⟩,by rw[uR];exact B⟩
theorem Ae(O:aM c)(tk:c8 c tb)(u:eU c tb cb k)(z:mu c tb cb k)(B:k9 c tb sp ft){f xs kx r}(h:callC tb ft cb f xs kx=some r):dz c f xs kx r (k+1):=by
 refine ar h λd h1 h=>?_;refine ar h λb h2 h=>?_;refine ar h λps F h=>?_;refine bV (B.fn f d b h1 h2) λfd G X H=>?_;refine af G λe0 I=>?_;refine af (ml O H F) λJ N=>?_;refine mh O X J N λenv Q e P R=>?_;rw[<-e0,<-e]at h;refine ab (kY O tk u z (.inl ⟨f,fd,I,X.look,e,P⟩) R (e▸X.kind) 200 h) λo i h=>?_
 induction o with
 |next σ=>exact ag _ i (.inr ⟨(Option.some.inj h).symm,σ,rfl⟩)
 |cont σ=>exact ad h
 |ret x σ=>exact ag _ i (.inl ⟨σ,Option.some.inj h▸rfl⟩)
theorem rk{T:TM}{v:Value}{vs xs}(h:dx T vs xs):∀(l:List (Str×mv)),l.any (λp=>y3 p.2)=false->jz T (l.map λp=>(p.1,p.2.val (v::vs) [])) (l.map λp=>(p.1,p.2.av (.none::xs) []))
 |[],_=> .nil
 |(n,p)::l,hz=>by
  refine af (Bool.or_eq_false_iff.mp hz) λh1 h2=>?_;refine .cons ?_ (rk h l h2)
  induction p with
  |pos i=>induction i using Nat.casesAuxOn with
   |zero=>injection h1
   |succ i=>exact(mv.pos i).vr h (.nil:jz T [] [])
  |kw i=>exact .none
  |none=>exact .none
  |Ia=>exact .bool _
  |Ka=>exact .bool _
theorem xK{C self g σ fl}(h:Dv C self g σ=some fl):∃a f,σ.lookup self=some (.self a C f)/\g a f=some fl:=by
 refine ar h λev h1 h=>?_;induction ev
 case self a D f=>refine bD h λe h=>?_;exact jn a f (e▸h1) h
 all_goals exact ad h
theorem yA(O:aM c)(tk:c8 c tb)(F:eU c tb cb k)(G:mu c tb cb k){q}(H:cb.stmt=AM sp q)(u:k9 c tb sp ft){C xs fl}(h:rh tb ft cb C xs=some fl):∃f,iR c.K C f/\sr c C f xs fl (k+1):=by
 refine ar h λf hf h=>?_;refine ar h λd h1 h=>?_;refine ar h λb h2 h=>?_;refine ar h λl z h=>?_;rcases l with _|⟨⟨self,p⟩,l⟩
 . exact ad h
 induction p
 case pos i=>
  induction i using Nat.casesAuxOn with
  |succ i=>exact ad h
  |zero=>
   refine af (sC h) λI h=>?_;refine bV (u.fn f d b h1 h2) λfd J X N=>?_;refine af J λe0 Q=>?_;refine af (N _ _ _ z) λU W=>?_;refine ag f (u.init C f hf) (y7 O (self:=self) (ps:=l.map λp=>(p.1,p.2.av (.none::xs) [])) X (λT s v vs w hv=>?_) (by rw[uR];exact U) λa env A' e Y R=>?_)
   . exact ag (l.map λ(p:Str×mv)=>(p.1,p.2.val (v::vs) [])) (W s (v::vs) [] (w.gj O) (congrArg (· +1) hv.length) rfl) (rk hv l I)
   . have P:=u.par C f d b self l xs hf h1 h2 z cb.call cb.make q a λB fl=>if B=a then some fl else none
     rw[<-H]at P;have h:=(P.trans (congrArg _ (by simp))).trans h;unfold lP at h;rw[<-e0,<-e]at h;refine ab (kY O tk F G (.inl ⟨f,fd,Q,X.look,e,Y⟩) R (e▸X.kind) 200 h) λo Z h=>?_
     induction o with
     |next σ=>refine aP (xK h) λB eK h5 h=>?_;refine bD h λe1 h=>?_;exact ag σ (e1▸Option.some.inj h▸h5) Z
     |cont σ=>exact ad h
     |ret x σ=>exact ad h
 all_goals exact ad h
theorem yk(k):eU c tb uI k:=⟨λ_ _ _ _ h=>ad h,λ_ _ _ h=>ad h⟩
theorem FH(f:∀C,tb.cls C=true->iu c.K C)(k):mu c tb uI k:=⟨f,λ_ _ _ _ _ h=>ad h⟩
structure Lo(c:Cx)(tb:Tb)(sp:Sp)(p:Cb×Option Cb)(k:Nat):Prop where
 c1:eU c tb p.1 k
 s1:mu c tb p.1 k
 b1:∃q,p.1.stmt=AM sp q
 c0:∀cb,p.2=some cb->∃j,j+1=k/\eU c tb cb j/\mu c tb cb j/\∃q,cb.stmt=AM sp q
theorem ux(O:aM c)(tk:c8 c tb)(u:∀C,tb.cls C=true->iu c.K C)(z:k9 c tb sp ft)(B:Lm c tb sp):∀k,Lo c tb sp (lB tb ft sp k) k
 |0=>⟨yk 0,FH u 0,⟨false,rfl⟩,λ_ h=>ad h⟩
 |k+1=>by
  have X:=ux O tk u z B k;refine⟨⟨λf xs kx r h=>?_,λC xs fl h=>?_⟩,⟨u,λσ st σ' env A h F te R=>?_⟩,⟨_,rfl⟩,λcb h=>Option.some.inj h▸⟨k,rfl,X.c1,X.s1,X.b1⟩⟩
  . have h:(match sp.call (lB tb ft sp k).1 f xs kx with|some r=>some r|none=>callC tb ft (lB tb ft sp k).1 f xs kx)=some r:=h
    induction hr:sp.call (lB tb ft sp k).1 f xs kx with
    |some r'=>rw[hr]at h;exact Option.some.inj h▸B.call k _ f xs kx _ X.c1 X.s1 hr
    |none=>rw[hr]at h;exact Ae O tk X.c1 X.s1 z h
  . refine ab (bL (o:=(lB tb ft sp k).2) (f:=λi=>rh tb ft i C xs) h) λi h1 h2=>?_;obtain⟨j,G,H,I,q,J⟩:=X.c0 i h1;refine ab (yA (k:=j) O tk H I J z h2) λf N P=>?_;exact t4 f (j+1) N P (by lia)
  . have h:AM sp (lB tb ft sp k).2.isSome env.scope.names σ st=some σ':=h
    induction h1:(lB tb ft sp k).2 with
    |none=>rw[h1]at h;exact ad h
    |some i=>rw[h1]at h;refine ab (X.c0 i h1) λj G _=>?_;exact B.stmt k σ st σ' env A (by lia) h F te R
end
set_option tactic.hygienic false
set_option tactic.hygienic true
noncomputable def rB:Stmt->Option (Expr×List Stmt×List Stmt)
 | .If t b o _=>some (t,b,o)
 |_=>none
theorem Ca{st p}(h:rB st=some p):∃q,st= .If p.1 p.2.1 p.2.2 q:=by
 induction st using Stmt.casesOn
 case If t b o q=>exact⟨q,by rw[<-Option.some.inj h]⟩
 all_goals exact nomatch h
section
variable{tb:Tb}{cb:Cb}{ns:dM}{R:Type}{σ σ':ah}{st:Stmt}{rest:List Stmt}{m n:Nat}{kN kC:ah->Option R}{kR:AV->ah->Option R}
theorem nB(h:cb.stmt ns ((ia st).foldl lU σ) st=some σ'):bB tb cb ns m (n+1) σ (st::rest) kN kC kR=bB tb cb ns m n σ' rest kN kC kR:=by
 conv=>lhs;unfold bB
 dsimp only;rw[h]
theorem dF:bB tb cb ns m (n+2) σ (st::rest) kN kC kR=bB tb cb ns m (n+2) σ [st] (λσ=>bB tb cb ns m (n+1) σ rest kN kC kR) kC kR:=rfl
noncomputable def RG(tb:Tb)(cb:Cb)(ns:dM)(m n:Nat)(σ:ah)(st:Stmt)(σ':ah):Prop:=∀{R:Type}{kN kC:ah->Option R}{kR:AV->ah->Option R},bB tb cb ns m n σ [st] kN kC kR=kN σ'
theorem eE(h:RG tb cb ns m (n+2) σ st σ'):bB tb cb ns m (n+2) σ (st::rest) kN kC kR=bB tb cb ns m (n+1) σ' rest kN kC kR:=dF.trans h
theorem u8{p q}(h:rB st=some p)(f:cb.stmt ns ((ia st).foldl lU σ) st=none)(ht:∀k:Bool->Option R,(kA tb cb m ns).tr ((ia st).foldl lU σ) p.1 k=k q):
 bB tb cb ns m (n+1) σ (st::rest) kN kC kR=bB tb cb ns m n ((ia st).foldl lU σ) (if q=true then p.2.1 else p.2.2) (λσ=>bB tb cb ns m n σ rest kN kC kR) kC kR:=by
 refine ax (Ca h) λps i=>?_;subst i
 conv=>lhs;unfold bB
 dsimp only;rw[f];refine(ht _).trans ?_;induction q<;>rfl
theorem jk{t b o}(h:rB st=some (t,b,o))(f:(ia st).foldl lU σ=σ)(i:cb.stmt ns σ st=none)(ht:∀k:Bool->Option R,(kA tb cb m ns).tr σ t k=k true):
 bB tb cb ns m (n+1) σ (st::rest) kN kC kR=bB tb cb ns m n σ b (λσ=>bB tb cb ns m n σ rest kN kC kR) kC kR:=by
 have:=u8 (tb:=tb) (cb:=cb) (ns:=ns) (m:=m) (n:=n) (rest:=rest) (kN:=kN) (kC:=kC) (kR:=kR) h (by rw[f];exact i) (by rw[f];exact ht);rw[f]at this;exact this
theorem zF{t b o}(h:rB st=some (t,b,o))(f:(ia st).foldl lU σ=σ)(i:cb.stmt ns σ st=none)(ht:∀k:Bool->Option R,(kA tb cb m ns).tr σ t k=k true):
 bB tb cb ns m (n+2) σ [st] kN kC kR=bB tb cb ns m (n+1) σ b kN kC kR:=jk h f i ht
theorem zD:bB tb cb ns m (n+1) σ [] kN kC kR=kN σ:=rfl
theorem zE{t b}(h:rB st=some (t,b,[]))(f:(ia st).foldl lU σ=σ)(i:cb.stmt ns σ st=none)(ht:∀k:Bool->Option R,(kA tb cb m ns).tr σ t k=k false):
 bB tb cb ns m (n+2) σ (st::rest) kN kC kR=bB tb cb ns m (n+1) σ rest kN kC kR:=by
 have:=u8 (tb:=tb) (cb:=cb) (ns:=ns) (m:=m) (n:=n+1) (rest:=rest) (kN:=kN) (kC:=kC) (kR:=kR) h (by rw[f];exact i) (by rw[f];exact ht);rw[f]at this;exact this
theorem Af{ft:jt}{f xs kx b ps}(h1:ft.ns f=some ns)(h2:ft.body f=some b)(i:Ap ft f xs kx=some ps):callC tb ft cb f xs kx=bB tb cb ns 40 200 (sF ps) b (λ_=>some .none) (λ_=>none) (λx _=>some x):=by unfold callC;rw[h1,h2,i];rfl
theorem nE{o:Option fX}(h:∀{kN kC:ah->Option R}{kR:AV->ah->Option R},bB tb cb ns m (n+2) σ [st] kN kC kR=o.bind (f7 kN kC kR)):
 bB tb cb ns m (n+2) σ (st::rest) kN kC kR=o.bind (f7 (λσ=>bB tb cb ns m (n+1) σ rest kN kC kR) kC kR):=dF.trans h
end
set_option tactic.hygienic false
set_option tactic.hygienic true
theorem Lj{α:Type}{o:Option α}{p:α->Bool}(h:o.any p=true):∃a,o=some a/\p a=true:=by
 cases o with
 |none=>exact nomatch h
 |some a=>exact⟨a,rfl,h⟩
noncomputable def A3:Value->Option Addr
 | .ref a=>some a
 |_=>none
theorem oj{v:Value}{a}(h:A3 v=some a):v= .ref a:=by induction v using Value.casesOn<;>first|exact ad h|exact congrArg Value.ref (Option.some.inj h)
noncomputable def H5:Value->Option String
 | .type a=>some a
 |_=>none
theorem A0{v:Value}{a}(h:H5 v=some a):v= .type a:=by induction v using Value.casesOn<;>first|exact ad h|exact congrArg Value.type (Option.some.inj h)
noncomputable def Rw:Data->Option FuncData
 | .func fd=>some fd
 |_=>none
theorem GT{v:Data}{a}(h:Rw v=some a):v= .func a:=by induction v using Data.casesOn<;>first|exact ad h|exact congrArg Data.func (Option.some.inj h)
noncomputable def oz(K:Frag)(C:Addr)(nm:Str):Bool:=((findIn K (.ref C) nm).bind λo=>o.bind A3).isSome
noncomputable def t5(K:Frag)(C:Addr):Bool:=
 findIn K (.ref C) "__getattribute__"==some (some (.builtin "object.__getattribute__"))&&findIn K (.ref C) "__getattr__"==some none&&hasDictIn K C&&az.all (λk=>findIn K (.ref C) k==some none)&&
 findIn K (.ref C) "__setattr__"==some (some (.builtin "object.__setattr__"))&&plainOver K C&&(clsIn K C).any (·.hasDict)&&(aB::az).all (λk=>takerIn K C k==some none)&&
 plainGet K C "__class__"&&findIn K (.ref C) "__class__"==some (some (.builtin "object.__class__"))&&mroIn K C (.type "object")==some true&&findIn K (.ref C) aB==some (some .none)
theorem jo{k:Str}(h:az.contains k=true):k∈az:=by simpa using h
theorem jq{K C}(h:t5 K C=true):f5 K C/\iu K C/\kr K C/\sq K C:=by
 unfold t5 at h;simp only[Bool.and_eq_true,beq_iff_eq]at h;refine af h λu z=>?_;refine af u λB F=>?_;obtain⟨⟨⟨⟨⟨⟨⟨⟨⟨h1,h2⟩,i⟩,G⟩,H⟩,I⟩,J⟩,N⟩,O⟩,P⟩:=B;have a:f5 K C:=⟨h1,h2,i,λk f=>beq_iff_eq.mp (List.all_eq_true.mp G k (jo f))⟩;have b:iu K C:=⟨H,I,J,λk f=>by
  refine beq_iff_eq.mp (List.all_eq_true.mp N k ?_);refine Or.elim f (λf=>?_) λf=>?_
  . exact .tail _ (jo f)
  . rw[f];exact .head _⟩
 exact⟨a,b,⟨O,i,P,F⟩,⟨a,b,z⟩⟩
noncomputable def IU(K:Frag)(p:Addr×Str×Addr):Bool:=t5 K p.1&&jM K p.1 p.2.1==some p.2.2&& !az.contains p.2.1&&p.2.1 !=aB&&keepIn K (.ref p.2.2)
noncomputable def xW(K:Frag)(C:Addr)(nm:Str)(p f:Addr):Bool:=findIn K (.ref C) nm==some (some (.ref p))&&specialIn K (.ref p) "__get__"==some (some (.builtin "property.__get__"))&&takesIn K (.ref p)==some true&&
 ((recIn K p "property").bind λl=>l.head?.bind A3)==some f
theorem xV{K C nm p f}(h:xW K C nm p f=true):uc K C nm p f:=by
 unfold xW at h;simp only[Bool.and_eq_true,beq_iff_eq]at h;refine af h λu i=>?_;refine af u λz B=>?_;obtain⟨h1,h2⟩:=z;refine⟨h1,h2,B,?_⟩;refine ar i λl e i=>?_
 cases l with
 |nil=>exact ad i
 |cons g r=>exact⟨r,e.trans (congrArg (λx=>some (x::r)) (oj i))⟩
noncomputable def intOp(nm:String):Bool:=["add","sub","mul","floordiv","mod"].contains nm
theorem y5{nm:String}(h:intOp nm=true):fillsNumberSlot (.type "int") nm=pure true:=by exact(List.forall_mem_cons.mpr ⟨PySem.F.fills_int_add,List.forall_mem_cons.mpr ⟨PySem.F.fills_int_sub,List.forall_mem_cons.mpr ⟨PySem.F.fills_int_mul,List.forall_mem_cons.mpr ⟨PySem.F.fills_int_floordiv,List.forall_mem_cons.mpr ⟨PySem.F.fills_int_mod,λ_ h=>nomatch h⟩⟩⟩⟩⟩:∀nm∈["add","sub","mul","floordiv","mod"],fillsNumberSlot (.type "int") nm=pure true) nm (List.contains_iff_mem.mp h)
noncomputable def K8(K:Frag)(C:Addr)(nm:String)(v:Value):Bool:=(A3 v).any (λD=>D==C||(subIn K (.ref D) (.ref C)==some false&&selfFirst K D&&oz K D (PySem.dunder nm)&&oz K D (dunderR nm)))||
 (H5 v).any λn=>n=="int"&&intOp nm&&subIn K (.type "int") (.ref C)==some false&&(findIn K (.type "int") (dunderR nm)).isSome
theorem jF{K C nm}(h:oz K C nm=true):∃g:Addr,findIn K (.ref C) nm=some (some (.ref g)):=by refine ax (Option.isSome_iff_exists.mp h) λg h=>ar h λo e h=>ar h λv f h=>⟨g,?_⟩;rw[e,f,oj h]
theorem CX{c:Cx}{C nm tv}(h:K8 c.K C nm tv=true):HB c C tv nm:=by
 refine Or.elim (Bool.or_eq_true_iff.mp h) (λh=>?_) λh=>?_
 . refine ab (Lj h) λD e h=>?_;rw[oj e];rw[Bool.or_eq_true]at h;refine Or.elim h (λh=>?_) λh=>?_
   . rw[beq_iff_eq.mp h];exact⟨.inl rfl⟩
   . simp only[Bool.and_eq_true,beq_iff_eq]at h;refine af h λf i=>?_;refine af f λu z=>?_;obtain⟨h1,h2⟩:=u;refine ax (jF z) λJ B=>?_;refine ax (jF i) λN F=>?_;refine aP (ksp_first h2) λO rest G H=>?_;exact⟨.inr ⟨true,true,_,λh X=>⟨fills_K X G H B,looks_subIn X h1,ksp_inPy X B F (.inr ⟨_,rfl⟩),looks_findIn X F⟩⟩⟩
 . refine ab (Lj h) λn e h=>?_;rw[A0 e];simp only[Bool.and_eq_true,beq_iff_eq]at h;refine af h λf i=>?_;clear h;refine af f λu z=>?_;clear f;refine af u λq h2=>?_;rw[q];refine ax (Option.isSome_iff_exists.mp i) λI e=>?_;exact⟨.inr ⟨true,false,I,λh X=>⟨Looks.of_pure (y5 h2),looks_subIn X z,Looks.of_pure rfl,looks_findIn X e⟩⟩⟩
noncomputable def MX(K:Frag)(C:Addr)(op:Operator)(tv:Value)(f:Addr):Bool:=selfFirst K C&&findIn K (.ref C) (PySem.dunder op.info.2)==some (some (.ref f))&&isFn K (.ref f)&&oz K C (dunderR op.info.2)&&K8 K C op.info.2 tv
theorem Ft{c:Cx}{C op tv f}(h:MX c.K C op tv f=true):Hw c C op tv f:=by unfold MX at h;simp only[Bool.and_eq_true,beq_iff_eq]at h;refine af h λi u=>?_;refine af i λz B=>?_;obtain⟨⟨h1,h2⟩,F⟩:=z;exact⟨h1,h2,F,jF B,CX u⟩
noncomputable def PB(K:Frag)(C:Addr)(tv:Value)(f:Addr):Bool:=notFirst K C tv&&findIn K (.ref C) "__eq__"==some (some (.ref f))&&isFn K (.ref f)
theorem zP{c:Cx}{C tv f}(h:PB c.K C tv f=true):Dk c C tv f:=by unfold PB at h;simp only[Bool.and_eq_true,beq_iff_eq]at h;exact⟨h.1.1,h.1.2,h.2⟩
noncomputable def yC(K:Frag)(C f:Addr):Bool:=makesIn K C&&findIn K (.ref C) "__init__"==some (some (.ref f))&&typeIn K (.ref f)==some (.type "function")
theorem yB{K C f}(h:yC K C f=true):iR K C f:=by unfold yC at h;simp only[Bool.and_eq_true,beq_iff_eq]at h;exact⟨h.1.1,h.1.2,h.2⟩
noncomputable def D9(K:Frag)(f:Addr):Option FuncData:=(K.lookup f).bind λo=>Rw o.data
noncomputable def pJ(fd:FuncData):Option (List Stmt):=match fd.body with
 | .stmts b=>some b
 |_=>none
noncomputable def L0(K:Frag)(fd:FuncData):Bool:=fd.closure.isEmpty&&fd.globals==mainGlobals&&fd.builtins==builtinsNs&&codeIn K fd.code fd.qualname&& !fd.scope.isCoroutine&& !fd.scope.isGenerator&&fd.scope.kind== .function
theorem wL{fd b}(h:pJ fd=some b):fd.body= .stmts b:=by
 unfold pJ at h;generalize fd.body=x at*
 induction x using FuncBody.casesOn<;>first|exact ad h|exact congrArg FuncBody.stmts (Option.some.inj h)
theorem Gw{K f fd b}(h1:D9 K f=some fd)(h2:pJ fd=some b)(h:L0 K fd=true):sw K f fd b:=by unfold L0 at h;simp only[Bool.and_eq_true,beq_iff_eq,Bool.not_eq_true',List.isEmpty_iff]at h;refine af h λi u=>?_;refine af i λz B=>?_;obtain⟨⟨⟨⟨F,G⟩,H⟩,I⟩,J⟩:=z;refine ar h1 λo e h1=>?_;exact⟨⟨_,e,GT h1⟩,wL h2,F,G,H,I,J,B,u⟩
set_option tactic.hygienic false
noncomputable abbrev pw:Program:=PySem.Challenge.pw_iy0027_01
noncomputable def DV:Stmt->Bool
 | .FunctionDef .. =>true
 |_=>false
noncomputable def defsOf:Stmt->List Stmt
 | .ClassDef _ _ _ b _ _ _ _ _ _ _=>b.filter DV
 |s=>if DV s then[s]else[]
noncomputable def PJ(f:Addr):Option Stmt:=(f9.zip (pw.main.body.flatMap defsOf)).lookup f
structure AK where
 params:Arguments
 body:List Stmt
 scope:Scope
noncomputable def PK:Stmt->Option AK
 | .FunctionDef _ p b _ _ _ sc _ _ _=>some ⟨p,b,sc⟩
 |_=>none
noncomputable def rK(f:Addr):Option AK:=(PJ f).bind PK
noncomputable def dj:List Addr:=[284,338,430,485,526,574,656]
noncomputable def Qh:List Value:= .type "int"::dj.map .ref
noncomputable def mk(nm:Str)(l:List (Addr×Addr)):List (Addr×Str×Addr):=l.map λp=>(p.1,nm,p.2)
noncomputable def Ri:List (Addr×Addr):=dj.zip [192,192,192,454,502,550,632]
noncomputable def DL:List (Addr×Str×Addr):=mk "render" (dj.map (·,57))++mk "text" (dj.zip [281,335,427,482,523,571,647])++mk "vars" (dj.zip [267,64,387,387,387,387,595])++mk "substitute" (dj.zip [274,328,420,475,516,564,642])++
 mk "get_bounds" ((dj.drop 2).zip [413,468,509,557,619])++mk "__floordiv__" Ri
noncomputable def Dy:List (Addr×Str×Addr):=(656,"flat_components",652)::mk "key" (dj.map (·,78))
noncomputable def MY(o:Operator)(l:List (Addr×Addr)):List (Addr×Operator×Value×Addr):=l.map λp=>(p.1,o,.type "int",p.2)
noncomputable def Qx:List (Addr×Operator×Value×Addr):=MY .Mult (dj.zip [163,314,163,446,163,163,624])++MY .FloorDiv Ri++MY .Mod (dj.zip [206,206,206,461,206,542,637])++
 dj.flatMap λC=>Qh.flatMap λv=>[(C,.Add,v,107),(C,.Sub,v,121)]
noncomputable def eqT:List (Addr×Value×Addr):=dj.flatMap λC=>Qh.map λv=>(C,v,if C==338 then 321 else 93)
noncomputable def nr:List (Addr×Addr):=dj.zip [245,300,380,380,380,380,590]
noncomputable def D7:List (Str×Addr):=[("partition",28),("gcd",35),("merged_vars",42),("variable",347),("create_node",354),("create_lt_node",359),("create_ge_node",366),("sym_render",666),("sym_infer",671),("_law_names",678),("_law_at",685),("_law_cut",692),("_law_tree",697),("Variable",284),("NumNode",338),("LtNode",430),("MulNode",485),("DivNode",526),("ModNode",574),("SumNode",656),("Node",227)]
noncomputable def Rz:List (Str×Value):=[("isinstance",.builtin "isinstance"),("len",.builtin "len"),("abs",.builtin "abs"),("max",.builtin "max"),("min",.builtin "min"),("sum",.builtin "sum"),("sorted",.builtin "sorted"),("str",.type "str"),("int",.type "int"),("range",.type "range"),("zip",.type "zip")]
noncomputable def DU:List (Value×Value×Bool):=(dj.flatMap λC=>(.ref C,.type "int",false)::(.ref C,.ref 227,true)::[338,284,485,656].map λD=>(.ref C,.ref D,C==D))++
 (.type "int",.type "int",true)::[227,338,284,485,656].map λD=>(.type "int",.ref D,false)
noncomputable def yZ:List (Value×List Value×Bool):=dj.flatMap λC=>[(.ref C,[.ref 284,.ref 338],C==284||C==338),(.ref C,[.ref 338,.ref 485],C==338||C==485)]
noncomputable def PL:Const->mv
 | .bool b=>if b then .Ia else .Ka
 |_=> .none
noncomputable def Ud(e:Expr):mv:=((vE e).cst.map λq=>PL q.1).getD .none
noncomputable def BG(ns:List Str):List (Str×mv):=ns.zipIdx.map λp=>(p.1,.pos p.2)
noncomputable def lz(d:AK):List (Nat×List Str×List (Str×mv)):=
 let ns:=d.params.args.map (·.arg);(ns.length,[],BG ns)::d.params.defaults.flatMap λe=>
  [(ns.length-1,[],BG ns.dropLast++ns.getLast?.toList.map (·,Ud e)),(ns.length-1,ns.getLast?.toList,BG ns.dropLast++ns.getLast?.toList.map (·,.kw 0))]
noncomputable def Dr:List (Addr×Str×Addr):=[(227,"sum",211),(227,"__mod__",206),(227,"__floordiv__",192)]
noncomputable def CO:List (Addr×Addr×Value):=[(57,50,.none),(192,185,.bool true),(454,447,.bool false),(502,495,.bool false),(550,543,.bool true),(632,625,.bool true),(666,659,.none)]
noncomputable def ba:Tb where
 glob x:=(D7.lookup x).map .ref
 bi x:=Rz.lookup x
 cls C:=dj.contains C
 cZ C n:=(DL.find? λp=>p.1==C&&p.2.1==n).map (·.2.2)
 prop C n:=(Dy.find? λp=>p.1==C&&p.2.1==n).map (·.2.2)
 vQ C n:=(Dr.find? λp=>p.1==C&&p.2.1==n).map (·.2.2)
 op C o tv:=(Qx.find? λp=>p.1==C&&p.2.1==o&&p.2.2.1==tv).map (·.2.2.2)
 eq C tv:=(eqT.find? λp=>p.1==C&&p.2.1==tv).map (·.2.2)
 neg C:=if dj.contains C then some 100 else none
 isin tv cv:=(DU.find? λp=>p.1==tv&&p.2.1==cv).map (·.2.2)
 eJ tv sH:=(yZ.find? λp=>p.1==tv&&p.2.1==sH).map (·.2.2)
noncomputable def gE:jt where
 ns f:=if f9.contains f then(rK f).map (·.scope.names)else none
 body f:=if f9.contains f then(rK f).map (·.body)else none
 sig f n cB:=if f9.contains f then((rK f).bind λd=>(lz d).find? λp=>p.1==n&&p.2.1==cB).map (·.2.2)else none
 init C:=nr.lookup C
noncomputable def Dz(K:Frag)(p:Addr×Str×Addr):Bool:=match findIn K (.ref p.1) p.2.1 with
 |some (some (.ref q))=>xW K p.1 p.2.1 q p.2.2
 |_=>false
noncomputable def G9(K:Frag)(tv:Value):Bool:=match tv with
 | .ref C=>t5 K C
 |_=>true
noncomputable def Ds(K:Frag)(p:Addr×Str×Addr):Bool:=readsIn K p.1 (.type "type")&&specialIn K (.ref p.1) "__getattribute__"==some (some (.builtin "type.__getattribute__"))&&keepIn K (.ref p.2.2)&&
 (match findCls K (.ref p.1) (.type "type") p.2.1 with
 |some (.val v)=>v== .ref p.2.2
 |some (.get b (.ref q) n (.ref d))=>b== .builtin "staticmethod.__get__"&&n== .none&&d==p.1&&(match recIn K q "staticmethod" with|some (.ref g::_)=>g==p.2.2|_=>false)
 |_=>false)
noncomputable def J9(K:Frag)(f:Addr):Bool:=match D9 K f with
 |some fd=>L0 K fd
 |none=>false
noncomputable def L4(p:Addr×Addr×Value):Obj:=⟨.type "tuple",none,.seq #[p.2.2] 0,#[]⟩
noncomputable def KZ(K:Frag):Bool:=Qx.all λp=>MX K p.1 p.2.1 p.2.2.1 p.2.2.2
noncomputable def KY(K:Frag):Bool:=dj.all (t5 K)&&DL.all (IU K)&&Dy.all (Dz K)&&
 eqT.all (λp=>PB K p.1 p.2.1 p.2.2)&&eqT.all (λp=>findIn K (.ref p.1) "__ne__"==some (some (.builtin "object.__ne__"))&&plainOver K p.1)
noncomputable def KW(K:Frag):Bool:=nr.all (λp=>yC K p.1 p.2)&&D7.all (λp=>nsIn K mainGlobals p.1==some (some (.ref p.2))&&keepIn K (.ref p.2)&& !zX p.1)&&
 Rz.all (λp=>nsIn K mainGlobals p.1==some none&&bootBuiltins p.1==some p.2&&p.1 !=("__name__":Str)&& !zX p.1)&&
 DU.all (λp=>kitOne K p.1 p.2.1==some p.2.2&&G9 K p.1)&&yZ.all (λp=>kitAny K p.1 p.2.1==some p.2.2&&G9 K p.1)&&
 dj.all (λC=>findIn K (.ref C) "__neg__"==some (some (.ref 100))&&isFn K (.ref 100))&&Dr.all (Ds K)
noncomputable def DA(f:Addr):List (Str×NameKind):=((rK f).map (·.scope.names)).getD []
noncomputable def mi(f:Addr):List Stmt:=((rK f).map (·.body)).getD []
noncomputable def QB(K:Frag)(f:Addr):Bool:=(D9 K f).all λd=>d.scope.names !=DA 359||(d.code== .ref 358&&d.qualname==("create_lt_node":Str))
noncomputable def KV(K:Frag):Bool:=specialIn K (.builtin "object.__class__") "__get__"==some (some (.builtin "getset_descriptor.__get__"))&&takesIn K (.builtin "object.__class__")==some true&&f9.all (J9 K)&&nsIn K mainGlobals "all"==some none&&f9.all (QB K)
noncomputable def OW(K:Frag)(f:Addr):Option (Arguments×FuncBody×Scope×Value×Value):=(D9 K f).map λd=>(d.params,d.body,d.scope,d.defaults,d.kwdefaults)
noncomputable def L1(f:Addr):Option (Arguments×FuncBody×Scope×Value×Value):=(rK f).map λd=>(d.params,.stmts d.body,d.scope,(match CO.lookup f with|some p=> .ref p.1|none=> .none),.none)
noncomputable def kH(tb:String->Option Builtin)(p:Program)(w:World)(wb:Nat)(ann:Option Value):Nat->SharedT->Thread->Option SharedT
 |0,_,_=>none
 |n+1,s,t=>match through t with
  |true=>some s
  |false=>match stepOk wb ann t with
   |false=>none
   |true=>match stepT (denote tb) p w s t with
    |some (s',t')=>kH tb p w wb ann n s' t'
    |none=>none
theorem mZ{tb:String->Option Builtin}{p:Program}{w:World}{f:Nat}{ann:Option Value}:∀{n:Nat}{s s':SharedT}{t:Thread},kH tb p w f ann n s t=some s'->topRun tb p w f ann n s.abs t=some s'.abs
 |0,_,_,_,h=>by cases h
 |n+1,s,s',t,h=>by
  unfold kH at h;unfold topRun
  cases he:through t with
  |true=>rw[he]at h;cases h;rfl
  |false=>
   rw[he]at h
   cases hk:stepOk f ann t with
   |false=>rw[hk]at h;cases h
   |true=>
    rw[hk]at h
    cases hs:stepT (denote tb) p w s t with
    |none=>rw[hs]at h;cases h
    |some r=>obtain⟨i,u⟩:=r;rw[hs]at h;rw[stepT_spec hs];exact mZ h
theorem rj{p q:Program}{loose:List Str}{Xt:Shared->Bool}{α:Type}{Yf:Shared->α}{Ya:World->α}{N:Nat}{B:Bool}{H₀:Params->Heap}{gs₀:Array GenState}{d₀:Drawn}{k₀:Nat}{m₀:Nat}{ann:Option Value}{M:Nat}(i:World->OsState->Shared)
 (G:∀w:World,(fencedOpening treeTable p w N).map (λs=>(s.heap,s.gens,s.drawn,s.toks))=some (H₀ w.params,gs₀,d₀,k₀))
 (u:∀w:World,((H₀ w.params).isNs mainGlobals&&gs₀.size==0,(H₀ w.params).objs.size,(H₀ w.params).nsMap mainGlobals "__annotations__")=(true,m₀,ann))
 (run:∀(w:World)(f:OsState),topRun treeTable p w m₀ ann M ⟨H₀ w.params,gs₀,d₀,k₀,f⟩ (topStub p)=some (i w f))(le:Nat.ble M N=true)
 (H:∀w f,(staticsOk (importedModules p.main.body) (H₀ w.params) (i w f).heap&&namesBound p (i w f).heap&&gensDone (i w f)&&laidKept (H₀ w.params) (i w f).heap)=true)
 (z:∀w f,openSeen q loose (importedModules p.main.body) Xt B (i w f)=openGood q loose)(I:∀w f,Yf (i w f)=Ya w):LeftO p q loose Xt Yf Ya N B:=λw=>by
 obtain⟨⟨h,F,d,k,f⟩,e,J⟩:=Option.map_eq_some_iff.mp (G w);obtain⟨rfl,rfl,rfl,rfl⟩:h=H₀ w.params/\F=gs₀/\d=d₀/\k=k₀:=by simpa using J
 obtain⟨O,P,Q⟩:_/\_/\_:=by simpa only[Prod.mk.injEq]using u w
 have r:=topRun_mono (N-M) _ _ _ _ (run w f);rw[Nat.add_sub_cancel' (Nat.le_of_ble_eq_true le)]at r;have t:topFrom treeTable p w N ⟨H₀ w.params,F,d,k,f⟩=some (i w f):=by unfold topFrom;dsimp only;rw[O,P,Q,r];show(match staticsOk (importedModules p.main.body) (H₀ w.params) (i w f).heap&&namesBound p (i w f).heap&&gensDone (i w f)&&laidKept (H₀ w.params) (i w f).heap with|true=>_|false=>_)=_;rw[H w f]
 unfold openEnds;rw[e];show(topFrom treeTable p w N _).map _=_;rw[t];exact congrArg some (Prod.ext (z w f) (I w f))
noncomputable def nt(p:Addr×Obj):Bool:=noTabs [p]
noncomputable def io(s:SharedT):Frag:=((List.range 703).filterMap λa=>if Nat.blt a s.n then(s.tree.get a).bind λo=>(alive o).map λo=>(a,o)else none).filter nt
theorem zq{s:SharedT}:(io s).In s.abs.heap:=λa o e=>by obtain⟨b,_,h⟩:=List.mem_filterMap.mp (List.mem_filter.mp (mem_of_lookupK e)).1;obtain⟨h1,h⟩:=rC h;obtain⟨i,h2,h⟩:=bL h;obtain⟨u,f,h⟩:=Option.map_eq_some_iff.mp h;obtain⟨rfl,rfl⟩:=Prod.mk.inj h;exact(abs_get (Nat.le_of_ble_eq_true h1) h2).trans f
theorem zp{s:SharedT}:noTabs (io s)=true:=List.all_eq_true.mpr λp f=>(be (List.mem_filter.mp f).2).1
noncomputable abbrev Ur:=List (Option (Arguments×FuncBody×Scope×Value×Value))
structure mG(K:Frag):Prop where
 c0:KZ K=true
 c1:KY K=true
 c2:KW K=true
 c3:KV K=true
 nt:noTabs K=true
 f:f9.map (OW K)=f9.map L1
 d:CO.map (λp=>K.lookup p.2.1)=CO.map λp=>some (L4 p)
 h:codeHdIn K 358 356=true
structure RI(h:Heap):Prop where
 k:∃K:Frag,K.In h/\mG K
 t:h.get? 356=some (tabObj #[])
noncomputable def hook:Hook where
 α:=Prop
 obs s:=RI s.heap
 val _:=True
 says _ h:=RI h
 of _ s e:=of_eq_true e
 keeps _ _ _ x k:=⟨let⟨K,a,b⟩:=x.k;⟨K,a.keeps k,b⟩,k _ _ x.t⟩
noncomputable def y6:List Obj->Nat->BT->BT
 |[],_,t=>t
 |o::l,n,t=>y6 l (n+1) (t.ins n o)
noncomputable def S0(w:World)(os:OsState):SharedT:=⟨y6 (boot_heap w.params).objs.toList 0 .nil,11,(boot_heap w.params).life,#[],boot_drawn,boot_toks,os⟩
noncomputable def endP(p:Program)(w:World)(os:OsState):Option SharedT:=kH treeTable p w 11 (some (.ref 6)) 6000 (S0 w os) (topStub p)
noncomputable def endT(p:Program)(w:World)(os:OsState):SharedT:=(endP p w os).getD (S0 w os)
noncomputable def vw:Program:=view pw [0,2,4,5,6,7,8,9,10,11,12,13,14,15,16,17,18,19,21,23,24,25,26,27]
noncomputable def I3:List Str:=["Node","Variable","MulNode","DivNode","ModNode","SumNode","sym_render"]
noncomputable abbrev row:RowW:=PySem.Challenge.rw_iy0027_01.row.toRowW
noncomputable def xt(s:Shared):Bool:=xlAt vw [] s&&recOk (RowW.records row) s
noncomputable def Sq(s:Shared)(w:World):Bool:=staticsOk (importedModules pw.main.body) (boot_heap w.params) s.heap&&namesBound pw s.heap&&gensDone s&&laidKept (boot_heap w.params) s.heap
theorem Fi(w:World)(f:OsState):(S0 w f).abs=⟨boot_heap w.params,#[],boot_drawn,boot_toks,f⟩:=by kernel_rfl
theorem Ss:(λ(_:Program->World->OsState->Option SharedT)(_:Program->World->OsState->SharedT)=>true) endP endT=true:=by k_qdec
theorem Mn(w:World)(f:OsState):(endP pw w f).isSome=true:=by rw[PySem.W.Fast.te815423048398568206];kernel_rfl
theorem Ic(w:World)(f:OsState):Sq (endT pw w f).abs w=true/\openSeen vw I3 (importedModules pw.main.body) xt true (endT pw w f).abs=openGood vw I3:=by rw[PySem.W.Fast.te15790834103516488257];exact⟨by kernel_rfl,by kernel_rfl⟩
theorem EO(w:World)(f:OsState):f9.map (OW (io (endT pw w f)))=f9.map L1/\(CO.map (λp=>(io (endT pw w f)).lookup p.2.1)=CO.map λp=>some (L4 p))/\(endT pw w f).tree.get 356=some (tabObj #[]):=by rw[PySem.W.Fast.te15790834103516488257];exact⟨by kernel_rfl,by kernel_rfl,by kernel_rfl⟩
theorem Mm(w:World)(f:OsState):KZ (io (endT pw w f))=true:=by rw[PySem.W.Fast.te15790834103516488257];kernel_rfl
theorem Ml(w:World)(f:OsState):KY (io (endT pw w f))=true:=by rw[PySem.W.Fast.te15790834103516488257];kernel_rfl
theorem Mj(w:World)(f:OsState):KW (io (endT pw w f))=true:=by rw[PySem.W.Fast.te15790834103516488257];kernel_rfl
theorem EN(w:World)(f:OsState):KV (io (endT pw w f))=true/\Nat.blt 356 (endT pw w f).n=true/\codeHdIn (io (endT pw w f)) 358 356=true:=by rw[PySem.W.Fast.te15790834103516488257];exact⟨by kernel_rfl,by kernel_rfl,by kernel_rfl⟩
theorem A9(w:World)(f:OsState):endP pw w f=some (endT pw w f):=by
 have h:=Mn w f;unfold endT
 cases e:endP pw w f with
 |none=>rw[e]at h;exact nomatch h
 |some s=>rfl
theorem left:LeftO pw vw I3 xt hook.obs hook.val 10576 true:=by
 refine rj (H₀:=boot_heap) (gs₀:=Array.mk []) (d₀:=boot_drawn) (k₀:=boot_toks) (m₀:=11) (ann:=some (.ref 6)) (M:=6000) (λw f=>(endT pw w f).abs)
  (boot_open (by kernel_rfl) (by decide) λs=>by kernel_rfl) (λw=>by kernel_rfl) (λw f=>?_) (by decide) (λw f=>(Ic w f).1) (λw f=>(Ic w f).2) λw f=>eq_true ⟨⟨io (endT pw w f),zq,⟨Mm w f,Ml w f,Mj w f,(EN w f).1,zp,(EO w f).1,(EO w f).2.1,(EN w f).2.2⟩⟩,?_⟩
 . rw[<-Fi];exact mZ (A9 w f)
 . exact(abs_get (Nat.le_of_ble_eq_true (EN w f).2.1) (EO w f).2.2).trans rfl
theorem Iv:PySem.Challenge.rw_iy0027_01.wellSaid=true:=by kernel_rfl
set_option maxHeartbeats 8000000 in
theorem Tt(d:DefRec)(kwd:List (Str×Expr))(hd:defOf vw "law"=some (d,kwd))(u:pw.theDef "law"=some (d.params,d.body,d.scope))(z:kwWritten? d.params.kwonlyargs d.params.kw_defaults=some kwd)
 (i:WalkO vw I3 (XL vw []) hook.says row d kwd λf vs=>PySem.call f vs):PySem.Challenge.rw_iy0027_01.Holds:=by
 refine holds_law Iv λIv=>?_;refine holds_open (q:=vw) (loose:=I3) (Xt:=xt) (XP:=XL vw []) (Yf:=hook.obs) (Ya:=hook.val) (YP:=hook.says) (d:=d) (kwd:=kwd) (N:=10576) left hook.of hook.keeps (λs e=>xl_of s (Bool.and_eq_true_iff.mp e).1) XL.keeps hd u z
  (λs e=>recFacts_of (Bool.and_eq_true_iff.mp e).2) (by rfl) (by assumption) (by decide+kernel) ⟨rfl,rfl,rfl,rfl,rfl,by decide+kernel⟩ ?hw i
 case hw=>w_witness2
set_option tactic.hygienic true
theorem eH{α β:Type}[BEq α][LawfulBEq α]:∀{l:List (α×β)}{a:α}{b:β},l.lookup a=some b->(a,b)∈l
 |(k,v)::r,a,b,h=>by
  rw[List.lookup_cons]at h
  induction hb:a==k with
  |true=>rw[hb]at h;exact beq_iff_eq.mp hb▸Option.some.inj h▸ .head _
  |false=>rw[hb]at h;exact .tail _ (eH h)
theorem ee{α β:Type}{p:α->Bool}{f:α->β}{l:List α}{b:β}{q:α->Bool}(h:(l.find? p).map f=some b)(i:l.all q=true):∃x,p x=true/\q x=true/\f x=b:=by refine ab (Option.map_eq_some_iff.mp h) λx h1 h2=>?_;exact dA x (List.find?_some h1) (List.all_eq_true.mp i x (List.mem_of_find?_eq_some h1)) h2
theorem eQ{α:Type}[BEq α][LawfulBEq α]{a b:α}(h:(a==b)=true):a=b:=beq_iff_eq.mp h
section
variable{c:Cx}{K:Frag}
theorem vn{tv}(h:G9 K tv=true):∀C,tv= .ref C->kr K C:=λC e=>by rw[e]at h;exact(jq h).2.2.1
theorem mG.cls(h:mG K){C}(f:dj.contains C=true):t5 K C=true:=List.all_eq_true.mp (be (be (be (be h.c1).1).1).1).1 C (by simpa using f)
theorem xE(O:aM c){p}(h:Ds c.K p=true):specialIn c.K (.ref p.1) "__getattribute__"=some (some (.builtin "type.__getattribute__"))/\mA c p.1 p.2.2 p.2.1/\keepIn c.K (.ref p.2.2)=true:=by
 refine af (be h) λh f=>?_;refine af (be h) λh u=>?_;refine af (be h) λh1 h2=>?_;refine⟨eQ h2,?_,u⟩
 induction hf:findCls c.K (.ref p.1) (.type "type") p.2.1 with
 |none=>rw[hf]at f;exact nomatch f
 |some r=>
  rw[hf]at f
  induction r with
  |val v=>exact wK O h1 (eQ f▸hf)
  |get b q n d=>
   induction q
   case ref q=>
    induction d
    case ref d=>
     refine af (be f) λf i=>?_;refine af (be f) λf z=>?_;refine af (be f) λB F=>?_;rw[eQ B,eQ F,eQ z]at hf
     induction hr:recIn c.K q "staticmethod" with
     |none=>rw[hr]at i;exact nomatch i
     |some l=>
      rw[hr]at i;rcases l with _|⟨g,l⟩
      . exact nomatch i
      . induction g
        case ref g=>exact mR O h1 hf (eQ i▸hr)
        all_goals exact nomatch i
    all_goals exact nomatch f
   all_goals exact nomatch f
theorem jB(O:aM c)(h:mG c.K):c8 c ba:=by
 refine af (be h.c1) λh1 P=>?_;refine af (be h1) λh1 N=>?_;refine af (be h1) λh1 Q=>?_;refine af (be h1) λQk U=>?_;refine af (be h.c2) λh2 W=>?_;refine af (be h2) λh2 X=>?_;refine af (be h2) λh2 Y=>?_;refine af (be h2) λh2 Z=>?_;refine af (be h2) λh2 Mu=>?_;refine af (be h2) λMs EW=>?_;refine af (be h.c3) λz _=>?_;refine af (be z) λz _=>?_;refine af (be z) λz _=>?_;have F:∀x v,ba.glob x=some v->(nsIn c.K mainGlobals x=some (some v)/\keepIn c.K v=true)/\zX x=false:=λx v h=>by refine ab (Option.map_eq_some_iff.mp h) λa h1 h2=>?_;refine af (be (List.all_eq_true.mp EW _ (eH h1))) λg G=>?_;refine af (be g) λH I=>?_;exact h2▸⟨⟨eQ H,I⟩,CV G⟩
 have cl:∀C,ba.cls C=true->t5 c.K C=true:=λC J=>h.cls J;exact
 {glob:=λx v h=>⟨(F x v h).1.1,(F x v h).2⟩
  keep:=λx a h=>(F x _ h).1.2
  bi:=λx v h=>by refine af (be (List.all_eq_true.mp Mu _ (eH h))) λg g4=>?_;refine af (be g) λg G=>?_;refine af (be g) λH I=>?_;exact⟨eQ H,eQ I,bne_iff_ne.mp G,CV g4⟩
  cls:=λC h=>(jq (cl C h)).1
  cZ:=λC nm f h=>by refine bV (ee h U) λp m q e=>?_;refine af (be m) λi u=>?_;refine af (be q) λq q5=>?_;refine af (be q) λq q4=>?_;refine af (be q) λq q3=>?_;refine af (be q) λq1 q2=>?_;rw[eQ i]at q1;rw[eQ i,eQ u,e]at q2;rw[eQ u]at q3 q4;exact⟨(jq q1).1,eQ q2,CV q3,bne_iff_ne.mp q4,e▸q5⟩
  prop:=λC nm f h=>by
   refine bV (ee h Q) λp m q e=>?_;refine af (be m) λi u=>?_;unfold Dz at q;rw[eQ i,eQ u,e]at q
   induction hf:findIn c.K (.ref C) nm with
   |none=>rw[hf]at q;exact nomatch q
   |some v=>
    rw[hf]at q;rcases v with _|v
    . exact nomatch q
    . induction v
      case ref a=>exact⟨a,xV q⟩
      all_goals exact nomatch q
  vQ:=λC nm f h=>by refine bV (ee h W) λp m q e=>?_;refine af (be m) λi u=>?_;exact eQ i▸eQ u▸e▸xE O q
  op:=λC o B f hf=>by refine bV (ee hf h.c0) λp m q e=>?_;refine af (be m) λm m3=>?_;refine af (be m) λi u=>?_;exact eQ i▸eQ u▸eQ m3▸e▸Ft q
  eq:=λC B f h=>by refine bV (ee h N) λp m q e=>?_;refine af (be m) λi u=>?_;exact eQ i▸eQ u▸e▸zP q
  ne:=λC B f h=>by refine bV (ee h N) λp m q e=>?_;refine bV (ee h P) λp' m' q' _=>?_;refine af (be m) λi u=>?_;refine af (be q') λq1 q2=>?_;rw[eQ (be m').1]at q1 q2;exact⟨eQ i▸eQ u▸e▸zP q,eQ q1,q2⟩
  neg:=λC f h=>by refine af (rC h) λJ h=>?_;refine af (be (List.all_eq_true.mp X C (by simpa using J))) λq1 q2=>?_;exact Option.some.inj h▸⟨eQ q1,q2⟩
  isin:=λB cv b h=>by refine bV (ee h Z) λp m q e=>?_;refine af (be m) λi u=>?_;refine af (be q) λq1 q2=>?_;exact eQ i▸eQ u▸e▸⟨eQ q1,vn q2⟩
  eJ:=λB sH b h=>by refine bV (ee h Y) λp m q e=>?_;refine af (be m) λi u=>?_;refine af (be q) λq1 q2=>?_;exact eQ i▸eQ u▸e▸⟨eQ q1,vn q2⟩
  Jj:=⟨eQ (be z).1,eQ (be z).2⟩}
theorem Bg(h:mG K):∀C,ba.cls C=true->iu K C:=λC f=>(jq (h.cls f)).2.1
end
set_option tactic.hygienic false
noncomputable def Fj{α:Type}(K:Frag):Sem α->Option α
 | .pure a=>some a
 | .load a _ k=>(K.lookup a).bind λo=>Fj K (k o)
 |_=>none
theorem By{α:Type}{K:Frag}{s:Shared}(X:K.In s.heap){M A E}{Q:α->Shared->Prop}(t:Sem α):∀a,Fj K t=some a->Q a s->wpAny M A t Q E s:=by
 induction t with
 |pure a=>exact λ_ h q=>wpAny_pure (Option.some.inj h▸q)
 |load a part k ih=>intro b h q;refine ab (bL h) λo h1 h=>?_;exact wpAny_bind (wpAny_loadPart (part:=part) (X _ _ h1) (ih o b h q))
 |_=>exact λ_ h=>ad h
noncomputable abbrev PV:=Addr×AK×Nat×List Str×List (Str×mv)
noncomputable def uy:List PV:=f9.flatMap λf=>(rK f).toList.flatMap λd=>(lz d).map λr=>(f,d,r)
noncomputable def L2(f:Addr):Value:=match CO.lookup f with
 |some p=> .ref p.1
 |none=> .none
noncomputable def DF:Frag:=CO.map λp=>(p.2.1,L4 p)
theorem Bv(d:FuncData)(f a1 i u y:Value):(uy.map λr=>Fj DF (bindArgs {d with params:=r.2.1.params,defaults:=L2 r.1,kwdefaults:= .none} ⟨[f,a1,i,u].take r.2.2.1,r.2.2.2.1.map (·,y)⟩))=
 uy.map λr=>some (r.2.2.2.2.map λp=>(p.1,p.2.val ([f,a1,i,u].take r.2.2.1) (r.2.2.2.1.map (·,y)))):=by kernel_rfl
theorem Bw:(uy.all λr=>Nat.ble r.2.2.1 4&&Nat.ble r.2.2.2.1.length 1&&decide ((r.2.2.2.2.map (·.1)).Nodup)&&(r.2.2.2.2.all λq=>r.2.1.scope.names.lookup q.1==some .local||r.2.1.scope.names.lookup q.1==some .cell))=true:=by kernel_rfl
theorem Dp{α:Type}(z:α){vs:List α}{n:Nat}(h:vs.length=n)(hn:n<=4):∃a b c d,vs=[a,b,c,d].take n:=by
 rcases vs with _|⟨a,_|⟨b,_|⟨c,_|⟨d,_|⟨e,r⟩⟩⟩⟩⟩
 . exact⟨z,z,z,z,h▸rfl⟩
 . exact⟨a,z,z,z,h▸rfl⟩
 . exact⟨a,b,z,z,h▸rfl⟩
 . exact⟨a,b,c,z,h▸rfl⟩
 . exact⟨a,b,c,d,h▸rfl⟩
 . rw[<-h]at hn;exact absurd hn (by simp)
theorem Jk{f:List (Str×Value)}{i:List Str}(h:f.map (·.1)=i)(hn:i.length<=1):∃y,f=i.map (·,y):=by
 rcases f with _|⟨⟨k,v⟩,_|⟨q,r⟩⟩
 . exact⟨.none,h▸rfl⟩
 . exact⟨v,h▸rfl⟩
 . rw[<-h]at hn;exact absurd hn (by simp)
theorem Lz{K:Frag}{h:Heap}(X:K.In h)(hd:CO.map (λp=>K.lookup p.2.1)=CO.map λp=>some (L4 p)):DF.In h:=λa o e=>by refine ab (List.mem_map.mp (mem_of_lookupK e)) λp f q=>?_;refine af (Prod.mk.inj q) λi u=>?_;subst i;subst u;exact X _ _ (List.map_inj_left.mp hd p f)
theorem eO{l:List Addr}{f:Addr}(h:l.contains f=true):f∈l:=by simpa using h
section
variable{c:Cx}
theorem Kc(h:mG c.K){f d}(hf:f9.contains f=true)(hd:rK f=some d):∃fd,D9 c.K f=some fd/\fd.params=d.params/\fd.body= .stmts d.body/\fd.scope=d.scope/\fd.defaults=L2 f/\fd.kwdefaults= .none:=by have e:OW c.K f=L1 f:=List.map_inj_left.mp h.f f (eO hf);unfold L1 at e;rw[hd]at e;refine ab (Option.map_eq_some_iff.mp e) λfd h1 h2=>?_;refine af (Prod.mk.inj h2) λi e=>?_;refine af (Prod.mk.inj e) λu e=>?_;refine af (Prod.mk.inj e) λz e=>?_;refine af (Prod.mk.inj e) λB F=>?_;exact GN fd h1 i u z B F
theorem Fc(h:mG c.K){f d fd n cB l}(hf:f9.contains f=true)(hd:rK f=some d)(i:(n,cB,l)∈lz d)(u:fd.params=d.params)(z:fd.scope=d.scope)(B:fd.defaults=L2 f)(F:fd.kwdefaults= .none):sg c fd n cB l:=by
 have m:(f,d,n,cB,l)∈uy:=List.mem_flatMap.mpr ⟨f,eO hf,List.mem_flatMap.mpr ⟨d,by rw[hd];exact .head _,List.mem_map.mpr ⟨_,i,rfl⟩⟩⟩;refine af (be (List.all_eq_true.mp Bw _ m)) λq q4=>?_;refine af (be q) λq q3=>?_;refine af (be q) λq1 q2=>?_;refine⟨⟨of_decide_eq_true q3,λx hx=>?_⟩,λs vs W X hv G=>?_⟩
 . refine ab (List.mem_map.mp hx) λp H e=>?_;rw[<-e,z];exact(Bool.or_eq_true_iff.mp (List.all_eq_true.mp q4 p H)).imp eQ eQ
 . obtain⟨I,a1,J,N,ev⟩:=Dp .none hv (Nat.le_of_ble_eq_true q1);refine ax (Jk G (Nat.le_of_ble_eq_true q2)) λy O=>?_;have P:{fd with params:=d.params,defaults:=L2 f,kwdefaults:= .none}=fd:=by rw[<-u,<-B,<-F]
   rw[ev,O];exact λM A E Q U=>By (Lz X h.d) _ _ (P▸(List.map_inj_left.mp (Bv fd I a1 J N y) _ m)) U
theorem Gx(h:mG c.K){f fd}(hf:f9.contains f=true)(hd:D9 c.K f=some fd):L0 c.K fd=true:=by have:=List.all_eq_true.mp (be (be (be h.c3).1).1).2 f (eO hf);unfold J9 at this;rw[hd]at this;exact this
theorem u0(h:mG c.K){f d}(hf:f9.contains f=true)(hd:rK f=some d):∃fd,fd.scope=d.scope/\sw c.K f fd d.body/\∀n i l,gE.sig f n i=some l->sg c fd n i l:=by obtain⟨fd,k,B,F,z,G,H⟩:=Kc h hf hd;refine dA fd z (Gw k (by unfold pJ;rw[F]) (Gx h hf k)) λn i l hl=>?_;refine af (rC hl) λ_ hl=>?_;refine ab (Option.map_eq_some_iff.mp hl) λr u I=>?_;rw[hd,Option.bind_some]at u;refine af (be (List.find?_some u:)) λq1 q2=>?_;have m:=List.mem_of_find?_eq_some u;exact Fc h hf hd ((by rw[<-eQ q1,<-eQ q2,<-I]:r=(n,i,l))▸m) B z G H
theorem Ct(h:mG c.K):∀f ns b,gE.ns f=some ns->gE.body f=some b->∃d,(d.scope.names=ns/\f9.contains f=true)/\sw c.K f d b/\∀n i l,gE.sig f n i=some l->sg c d n i l:=λf ns b h1 h2=>by refine af (rC h1) λhf h1=>?_;refine ab (Option.map_eq_some_iff.mp h1) λd hd h1=>?_;refine af (rC h2) λ_ h2=>?_;rw[hd]at h2;refine bV (u0 h hf hd) λfd e X u=>?_;exact dA fd ⟨e▸h1,hf⟩ (Option.some.inj h2▸X) u
theorem wt{K:Frag}(h:mG K):∀C f,gE.init C=some f->iR K C f:=λC f hi=>yB (List.all_eq_true.mp (be (be (be (be (be (be h.c2).1).1).1).1).1).1 _ (eH hi))
end
noncomputable def bb(i:Int):Str:=Str.ofString (toString i)
noncomputable abbrev fg(fl:List (Str×AV))(k:Str):Option AV:=fl.lookup k
noncomputable def mC:Nat->AV->Option Str
 |0,_=>none
 |n+1,.obj C fl=>
  if C=284 then(match fg fl "expr",fg fl "min",fg fl "max",fg fl "_val" with
   |some (.str e),some (.int lo),some (.int hi),some .none=>some (e++("[":Str)++bb lo++("-":Str)++bb hi++("":Str)++("]":Str))
   |_,_,_,_=>none)
  else if C=338 then(match fg fl "b" with
   |some (.int b)=>some (bb b)
   |_=>none)
  else if C=656 then(match fg fl "nodes" with
   |some (.list xs)=>((xs.mapM (mC n)).map λts=>("(":Str)++Txt.join ("+":Str) (dn ts)++(")":Str))
   |_=>none)
  else(match fg fl "a",fg fl "b" with
   |some a,some (.int b)=>(mC n a).map λt=>("(":Str)++t++(if C=430 then("<":Str)else if C=485 then("*":Str)else if C=526 then("//":Str)else("%":Str))++bb b++(")":Str)
   |_,_=>none)
 |_+1,_=>none
noncomputable def A6(x:AV):Option Str:=mC 300 x
noncomputable def ON(xs:List AV):Option AV:=(two xs).bind λp=>d8 p.1 λa=>d8 p.2 λb=>some (.int (Int.gcd a b))
noncomputable def NY(cb:Cb)(x:AV):Option AV:=match x with
 | .obj C fl=>if dj.contains C&&bS C fl then(cb.call 57 [.obj C fl] [("ctx",.str "DEBUG")]).bind λr=>b8 r λs=>if A6 (.obj C fl)=some s then some (.str s)else none else none
 |_=>none
noncomputable def E9(cb:Cb)(f:Addr)(xs:List AV)(kx:List (Str×AV)):Option AV:=
 if kx.isEmpty then(if f=35 then ON xs else if f=78 then(one xs).bind (NY cb)else none)else none
theorem xp:dj.all (λC=>ba.cZ C "render"==some 57)=true:=by kernel_rfl
section
variable{c:Cx}{k:Nat}{cb:Cb}
theorem zk(O:aM c)(h:mG c.K){a b:Int}:dz c 35 [.int a,.int b] [] (.int (Int.gcd a b)) (k+1):=by refine bV (u0 h (f:=35) rfl rfl) λd e0 X i=>?_;refine af (ml (xs:=[.int a,.int b]) (kx:=[]) O i rfl) λu z=>?_;refine mh O X u z λenv B he _ R=>⟨_,?_,.inl ⟨[],rfl⟩⟩;obtain⟨F,lo,G,H,q,f,I,J,N⟩:=env;cases he.trans e0;exact zl R.r.handled rfl rfl (by decide) rfl rfl rfl (λH₀ σ=>jZ O (jB O h) rfl rfl H₀ σ) ⟨rfl,rfl⟩
theorem yJ(O:aM c)(h:mG c.K)(u:c.tx=A6)(z:eU c ba cb k){C fl s}(i:dj.contains C=true)(B:bS C fl=true)(hr:cb.call 57 [.obj C fl] [("ctx",.str "DEBUG")]=some (.str s))(ht:A6 (.obj C fl)=some s):
 dz c 78 [.obj C fl] [] (.str s) (k+1):=by
 refine GM ((jB O h).cZ _ _ _ (eQ (List.all_eq_true.mp xp C (by simpa using i)))) λF G H I J=>?_;refine bV (u0 h (f:=78) rfl rfl) λd e0 X N=>?_;refine af (ml (xs:=[.obj C fl]) (kx:=[]) O N rfl) λP Q=>?_;refine mh O X P Q λenv U he _ R=>⟨_,?_,.inl ⟨sF [("self",.obj C fl)],rfl⟩⟩;exact yK O ((jq (h.cls i)).2.2.2) B (by rw[u];exact ht) rfl rfl (congrArg (List.lookup _) (congrArg Scope.names (he.trans e0))) rfl λH₀=>
  km O rfl (bY rfl rfl) F G H I J .nil jm (z.call _ _ _ _ hr) R.r rfl (by simp)
theorem E8(O:aM c)(h:mG c.K)(i:c.tx=A6)(u:eU c ba cb k){f xs kx r}(he:E9 cb f xs kx=some r):dz c f xs kx r (k+1):=by
 refine af (rC he) λz he=>?_;rw[List.isEmpty_iff.mp z];by_cases hf:f=35
 . rw[if_pos hf]at he;refine ab (bL he) λp h1 he=>?_;refine ab (bX he) λa B he=>?_;refine ab (bX he) λb F he=>?_;rw[iy h1,B,F,hf];exact Option.some.inj he▸zk O h
 . rw[if_neg hf]at he;refine af (Jr he) λhf he=>?_;refine ab (bL he) λx h1 he=>?_;rw[de h1,hf];induction x using AV.casesOn
   case obj C fl=>refine af (rC he) λq he=>?_;refine af (be q) λq1 q2=>?_;refine ab (bL he) λv h2 he=>?_;refine ab (dr he) λs e he=>?_;refine af (Jr he) λht he=>?_;exact Option.some.inj he▸yJ O h i u q1 q2 (e▸h2) ht
   all_goals exact ad he
end
noncomputable def w9(c:Cx)(env:Env)(H₀:Heap)(σ:ah)(e:Expr)(x:AV):Prop:=∀A T s,W c T s.heap->FR c env H₀ σ T s.heap->wpAny c.M A (eval e env) (λv s'=>VR T v x/\∃tk,s'={s with toks:=tk}) cg s
section
variable{c:Cx}{env:Env}{H₀:Heap}{σ:ah}
theorem qV{x pos y}(h:σ.lookup x=some (.fz y))(hd:(x==("__debug__":Str))=false):w9 c env H₀ σ (.Name x pos) y:=λA T s w F=>
 wpAny_Name (n8 F h λv r=>⟨r,s.toks,rfl⟩) hd
theorem vW(O:aM c){o attr pos C fl x}(hb:bk o=true)(f:w9 c env H₀ σ o (.obj C fl))(X:f5 c.K C)(i:az.contains attr=true)(e:fl.lookup attr=some x):w9 c env H₀ σ (.Attribute o attr pos) x:=λA T s w F=>by
 rw[arm_eval_Attribute,dw hb];refine wpAny_bind (wpAny_mono (f A T s w F) (λv s1⟨r1,tk,B⟩=>?_) λ_ _ z=>z);subst B;refine wpAny_bind (wpAny_standAt (wpAny_bind (wpAny_holding ?_)));obtain⟨a,d,m,G,n,rfl,I⟩:=il (T:=T) (h:=s.heap) w r1;refine ab (I.fld attr x e) λu h1 h2=>?_;refine get_value (s:={s with toks:=tk}) (w.gj O) I.inst X.get (findObj_own X.has (X.plain attr i) rfl ?_) (jR h2) ?_
 . rw[eB I.ns I.inst.dict,h1]
 . exact wpAny_bind (wpAny_letTemporaryGo (wpAny_pure ⟨h2,_,rfl⟩))
theorem lC(O:aM c)(Z:Lv c.K){id p e ce x cv b pos}(hn:∀A,kq c env A H₀ σ (.Name id p) (.builtin "isinstance"))(i:isStarred e=false)(u:isStarred ce=false)(he:w9 c env H₀ σ e x)(B:∀A,kq c env A H₀ σ ce cv)
 (G:∀C fl,x= .obj C fl->kr c.K C)(q:kitOne c.K (iW x) cv=some b):w9 c env H₀ σ (.Call (.Name id p) [e,ce] [] pos) (.bool b):=λA T s w F=>by
 rw[arm_eval_Call_Name'];refine wpAny_bind (wpAny_mono (hn A T s w F) (λv s'⟨f,I⟩=>?_) λ_ _ z=>z);subst f;subst I;refine callWith_builtin (by rw[aA i,aA u];rfl) ?_;rw[aA i,aA u];refine evalArgs_plain (spliced_cons (wpAny_mono (he A T _ w F) (λv s1⟨r1,tk,f⟩=>?_) λ_ _ z=>z.elim));subst f;show wpAny _ _ (spliced ((false,eval ce env)::[])) _ _ _;refine spliced_cons (wpAny_mono (B A T {s' with toks:=tk} w F) (λQ U⟨J,N⟩=>?_) λ_ _ z=>z.elim);subst J;subst N;refine spliced_nil ?_;refine ab (tE (s:={s' with toks:=tk}) w r1 Z G) λH X P=>?_;exact kia_one X (w.gj O) P q (iE r1) λtk=>⟨.bool _,_,rfl⟩
theorem BE{e pos b}(h:w9 c env H₀ σ e (.bool b))(i:∀w,isTrue e env w=(do let v<-w;standAt e.pos;holding [v] (truthy v))):w9 c env H₀ σ (.UnaryOp .Not e pos) (.bool (!b)):=λA T s w F=>by rw[arm_eval_UnaryOp];refine wpAny_bind (wpAny_mono (h A T s w F) (λv s1⟨r1,tk,f⟩=>?_) λ_ _ z=>z);subst f;obtain rfl:=r1.inv;exact wpAny_bind (wpAny_standAt (wpAny_holding (not_of (wpAny_truthy_bool ⟨.bool _,_,rfl⟩))))
theorem Fl{f e2 pos b1 b2}(h1:w9 c env H₀ σ f (.bool b1))(h2:b1=false->w9 c env H₀ σ e2 (.bool b2)):w9 c env H₀ σ (.BoolOp .Or [f,e2] pos) (.bool (b1||b2)):=λA T s w F=>by
 refine BoolOp_or (wpAny_mono (h1 A T s w F) (λv s1⟨r1,tk,f⟩=>?_) λ_ _ z=>z);subst f;obtain rfl:=r1.inv;refine wpAny_truthy_bool ?_
 induction b1 with
 |true=>exact⟨.bool _,_,rfl⟩
 |false=>exact BoolOp_one (h2 rfl A T {s with toks:=tk} w F|>λq=>wpAny_mono q (λv u⟨r,i,e⟩=>by subst e;exact⟨r,i,rfl⟩) λ_ _ z=>z)
end
theorem W.but{c T h h'}(w:W c T h)(ht:c.h₀.get? c.tab=none)(k:∀b o,b≠c.tab->h.get? b=some o->h'.get? b=some o)(f:∃ps,h'.get? c.tab=some (tabObj ps)/\nW c T ps):W c T h':=by refine⟨λb o e=>k b o (λq=>by rw[q,ht]at e;exact ad e) (w.base b o e),w.lo,λa ty e=>(w.ok a ty e).keeps (.refl T) (λb o⟨ty,e⟩ i=>k b o (w.lo b ty e).2 i) e,f⟩
theorem bF.but{c:Cx}{T:TM}{s s':Shared}(k:∀b o,b≠c.tab->s.heap.get? b=some o->s'.heap.get? b=some o)(f:AllBare s.gens->AllBare s'.gens)(i:s'.os=s.os):bF c T s T s':=
 ⟨λ_ _ e=>e,λa o _ h e=>k a o h e,λ_ _ _ _ e=>e,f,i⟩
theorem kB{q pos:Pos}{i:Value}(f:(pos.line==q.line&&pos.col==q.col)=false):∀(l:List Value),TriplesOk l->codeAmong q (l++[rawInt pos.line,rawInt pos.col,i])=codeAmong q l:=λl h=>by
 fun_induction TriplesOk l with
 |case1=>
  have:((pos.line:Int)==(q.line:Int)&&(pos.col:Int)==(q.col:Int))=false:=by rw[Bool.eq_false_iff];intro e;rw[Bool.and_eq_true,beq_iff_eq,beq_iff_eq]at e;rw[(by exact_mod_cast e.1:pos.line=q.line),(by exact_mod_cast e.2:pos.col=q.col)]at f;simp at f
  simp[codeAmong,rawInt];intro z B;rw[z,B]at this;simp at this
 |case2 a t b u x rest ih=>dsimp only[List.cons_append,codeAmong];rw[ih h]
 |case3 l h1 h2=>exact h.elim
section
variable{M:Model}{A:Around}{E:Value->Shared->Prop}{s:Shared}
theorem ky{env:Env}{c P:Addr}{ps:Array Value}{pos:Pos}{f:Str}{scope:Scope}{Q:Value->Shared->Prop}{u:Value}(F:env.code= .ref c)(G:s.heap.IsCode c P ps)(hf:codeAmong pos ps.toList=some u)
 (H:Q u s):wpAny M A (genexprCode env pos f scope) Q E s:=by
 obtain⟨o,vs,z,U,i,W,X,B,Y,op,I,hd,J,h2,Z,h9,HQ,N,O,UH,f8⟩:=id G;unfold genexprCode codeAt;rw[F,if_neg (show¬((Value.ref c==Value.none)=true)from Bool.false_ne_true)];refine wpAny_bind (wpAny_fieldsOf I hd ?_);rw[J];refine wpAny_bind (wpAny_fieldsOf N O ?_);rw[hf];exact wpAny_pure H
end
structure Dl(c:Cx)(cc:Addr):Prop where
 wp:c.h₀.get? c.tab=none
 hd:CodeHd c.h₀ cc c.tab
 bmain:∃mg,c.h₀.Ns mainGlobals mg/\∃bm ob,mg "__builtins__"=some (.ref bm)/\bm≠builtinsNs/\c.h₀.get? bm=some ob/\ob.cls= .type "module"/\ob.dict=some builtinsNs/\ob.data= .plain
section
variable{c:Cx}{env:Env}{A:Around}{H₀:Heap}{σ:ah}
theorem Dl.code{cc T h ps}(G:Dl c cc)(w:W c T h)(f:h.get? c.tab=some (tabObj ps))(ht:nW c T ps):h.IsCode cc c.tab ps:=(G.hd.keeps w.base).code f ht.pW
theorem lk{T s cc pos qualname scope}{Q:Value->Shared->Prop}{E}(G:Dl c cc)(w:W c T s.heap)(u:env.code= .ref cc)(F:(pos.line==c.fT.line&&pos.col==c.fT.col)=false)
 (z:∀f h' tk,W c T h'->(∀b o,b≠c.tab->s.heap.get? b=some o->h'.get? b=some o)->s.heap.objs.size<=h'.objs.size->Q f {s with heap:=h',toks:=tk}):
 wpAny c.M A (genexprCode env pos qualname scope) Q E s:=by
 refine ab w.tab λps i ht=>?_
 induction Q0:codeAmong pos ps.toList with
 |some f=>exact ky u (G.code w i ht) Q0 (z f s.heap s.toks w (λ_ _ _ e=>e) (Nat.le_refl _))
 |none=>
  refine wpAny_genexprCodeX u (G.code w i ht) ((G.hd.keeps w.base).tab i) Q0 λB h' tk hx H I _ _ J _=>?_;have hl:(ps++ #[rawInt pos.line,rawInt pos.col,Value.ref B]).toList=ps.toList++[rawInt pos.line,rawInt pos.col,.ref B]:=by simp
  refine z _ h' tk (w.but G.wp hx ⟨_,J.2,⟨by rw[hl];exact TriplesOk_snoc _ _ _ _ ht.pW,λf e=>ht.lam f ?_⟩⟩) hx (Nat.le_trans H (Nat.le_of_lt I));rw[hl,kB F _ ht.pW]at e;exact e
theorem wB(O:aM c){cc}(G:Dl c cc){k}(R:bq A k)(hc:env.code= .ref cc){p id elt x px it scope pg p2 xs}(Y:∀v,genFold it env v=pure v)(hn:kq c env A H₀ σ (.Name id p) (.builtin "all"))(hl:sj c env A H₀ σ it xs)
 (f8:(pg.line==c.fT.line&&pg.col==c.fT.col)=false)(Cm:scope.isCoroutine=false)(JW:closureFor scope env=pure [])(jf:∀y∈scope.names,y.2≠ .cell)(h0:scope.names.lookup (".0":Str)=some NameKind.local)
 (hx:scope.names.lookup x=some .local)(uW:scope.kind= .function)
 (OB:∀cA H,cA.scope=scope->∀y∈xs,w9 c cA H [(x,.fz y)] elt (.bool true)):
 bQ c env A H₀ σ (.Call (.Name id p) [.GeneratorExp elt [⟨.Name x px,it,[],0⟩] scope pg] [] p2) (.bool true):=λT s w F=>by
 obtain⟨mg,D1,bm,ob,b1,b2,b3,b4,b5,b6⟩:=G.bmain;rw[arm_eval_Call_Name'];refine wpAny_bind (wpAny_mono (hn T s w F) (λv s'⟨Z,e2⟩=>?_) λ_ _ z=>z);subst Z;subst e2;have hr:A.depth<recursionLimit:=by have:=R.r.depth;unfold recursionLimit;lia
 refine callWith_builtin rfl (evalArgs_plain (spliced_cons ?_));refine wpAny_GeneratorExp_walksQ R.r.handled Cm JW jf h0 hx uW hr (wpAny_mono (hl T _ w F) (λv s1⟨T1,a,vs,n,ev,Z,J,at_,items,_,wl,JM⟩=>?_) λ_ _ z=>z) Y;subst ev;refine wpAny_pyIter_list ⟨_,at_,rfl,n,rfl⟩ ?_;have w2:W c T1 (s1.heap.push {cls:= .type "list_iterator",data:= .fields #[.ref a,.int 0 0]}):=J.push _;refine⟨(O.lim.keeps w2.base),lk (s:={s1 with heap:=s1.heap.push {cls:= .type "list_iterator",data:= .fields #[.ref a,.int 0 0]}}) G w2 hc f8 λcv f Uy u k4 z4=>?_⟩;rw[F.glob];refine wpAny_builtinsFor (D1.keeps u.base) b1 b2 (u.base _ _ b3) b4 b5 b6 ?_;have hI:s1.heap.objs.size<f.objs.size:=by have:(s1.heap.push {cls:= .type "list_iterator",data:= .fields #[.ref a,.int 0 0]}).objs.size<=f.objs.size:=z4;rw[Heap.size_push]at this;assumption
 have D4:s1.heap.objs.size≠c.tab:=(J.free (aG _)).2;have QI:∀b o,b≠c.tab->s1.heap.get? b=some o->f.get? b=some o:=λb o hb e=>k4 b o hb (Heap.get?_push_of_some _ e);refine⟨s1.heap.objs.size,[s1.heap.objs.size,a],[s1.heap.objs.size],vs.size,_,_,λ_=>true,λ_ y=>y= .bool true,rfl,λA' hA=>Walks.list hA _ _ (Nat.ne_of_lt (Heap.lt_size at_)) vs,⟨?_,?_⟩,?_,(O.lim.keeps u.base),?_,?_,?_⟩
 . exact dA _ (k4 _ _ D4 (Heap.get?_push_size _ rfl)) rfl rfl
 . exact⟨_,QI _ _ wl at_,rfl,n,rfl⟩
 . intro b hb;rcases List.mem_cons.mp hb with rfl|hb
   . exact hI
   . rcases List.mem_cons.mp hb with rfl|hb
     . exact Nat.lt_trans (Heap.lt_size at_) hI
     . cases hb
 . intro B;have mF:cStatics<s1.heap.objs.size:=by
    refine ab (O.lim.keeps J.base) λ_ AQ _=>?_;exact AQ.lt
   refine Or.elim (List.mem_cons.mp B) (λe=>?_) λhb=>?_
   . exact absurd (e▸mF) (Nat.lt_irrefl _)
   . cases hb
 . intro SU hk;refine⟨λA' E' i v I N hA hP wo B uX=>wpAny_pure ⟨rfl,I.heap,I.toks,rfl,λ_ _ e=>e⟩,λA' E' i v I N hA hP _ wo B uX=>?_⟩;have N2:∀b o,b≠s1.heap.objs.size->f.get? b=some o->I.heap.get? b=some o:=λb o hb e=>uX b (List.mem_range.mpr (Heap.lt_size e)) (by simp[hb]) o (hk b o e);have w5:W c T1 I.heap:=by
    refine⟨λb o e=>N2 b o (λq=>?_) (u.base b o e),u.lo,λb ty e=>(u.ok b ty e).keeps (.refl T1) (λb o⟨ty,e⟩ e'=>N2 b o (λq=>?_) e') e,let⟨ps,e,r⟩:=u.tab;⟨ps,N2 _ _ (Ne.symm D4) e,r⟩⟩
    . rw[q,(J.free (aG _)).1]at e;exact ad e
    . rw[q,(J.none_of (aG _))]at e;exact ad e
   refine ab (items.ix (Array.getElem?_toList.trans hP)) λy hy rv=>?_;have F':FR c (genEnv scope [] f.objs.size cv builtinsNs env) f [(x,.fz y)] T1 I.heap:=by exact FR.fz uW F.glob rfl (λb hb=>u.free hb) (u.none_of (aG _)) (aG _) (λz b P=>nomatch P) (λz z' b P=>nomatch P) (λz P=>absurd rfl (jf _ (mem_of_lookup P))) wo (fm ⟨v,y,rfl,.inl ⟨hx,B⟩,rv⟩ HS)
   have:=OB (genEnv scope [] f.objs.size cv builtinsNs env) f rfl y (List.mem_of_getElem? hy) A' T1 I w5 F';refine bT (wpAny_mono this (λv' s'⟨r,tk,e⟩=>?_) λ_ _ z=>z);subst e;obtain rfl:=r.inv;exact⟨rfl,I.heap,tk,rfl,λ_ _ e=>e⟩
 . intro g h5 tk gs Tl hg UF k5 U uY;refine spliced_nil ?_;have U:=U.in4_1;refine call_all_walkS (U.self 0 _ _ _ uY ⟨g,_,_,_,_,_,_,λ_=>true,rfl,U,uY,?_,λs' B=>?_⟩)
   . intro i v' s' Q E' ⟨j,_,hv⟩ hq;subst hv;exact wpAny_truthy_bool hq
   . have ht:(List.range (passing (λ_=>true) vs.size 0).length).all (λ_=>true)=true:=by simp
     rw[ht];have QG:∀b o,b∉(f.objs.size::[s1.heap.objs.size])->f.get? b=some o->s'.heap.get? b=some o:=λb o hb e=>B.heap b o hb (k5 b o e);have Sk:∀b o,s1.heap.get? b=some o->b∉(f.objs.size::[s1.heap.objs.size]):=λb o e hb=>by
      have:=Heap.lt_size e;refine Or.elim (List.mem_cons.mp hb) (λq=>?_) λhb=>?_
      . have q:b=f.objs.size:=q;rw[q]at this;exact absurd (Nat.lt_trans hI this) (Nat.lt_irrefl _)
      . refine Or.elim (List.mem_cons.mp hb) (λq=>?_) λhb=>?_
        . have q:b=s1.heap.objs.size:=q;rw[q]at this;exact absurd this (Nat.lt_irrefl _)
        . cases hb
     have QH:∀b o,b≠c.tab->s1.heap.get? b=some o->s'.heap.get? b=some o:=λb o hb e=>QG b o (Sk b o e) (QI b o hb e);refine⟨T1,Z.trans (bF.but QH (λhg=>(hg.push Tl).movedS B) B.os),J.but G.wp QH ?_,.bool _⟩;refine ab u.tab λps e r=>?_;have X:c.tab<s1.heap.objs.size:=by refine ab J.tab λps e _=>?_;exact Heap.lt_size e
     exact ag ps (QG _ _ (by
      intro hb;refine Or.elim (List.mem_cons.mp hb) (λq=>?_) λhb=>?_
      . have q:c.tab=f.objs.size:=q;rw[q]at X;exact absurd (Nat.lt_trans hI X) (Nat.lt_irrefl _)
      . refine Or.elim (List.mem_cons.mp hb) (λq=>?_) λhb=>?_
        . have q:c.tab=s1.heap.objs.size:=q;rw[q]at X;exact absurd X (Nat.lt_irrefl _)
        . cases hb) e) r
end
inductive fO(c:Cx)(T:TM)(h:Heap)(f:Addr)(name q:Str)(params:Arguments)(body:Expr)(scope:Scope)(bn:Str)(bv:AV):Prop
 |mk (pm:Value) (c':Addr) (AR:Value) (a:Addr) (oc:Obj) (vs:Array Value) (t:Tok) (v:Value) (fn:h.get? f=some (kla_obj name q params body scope [(bn,a)] pm c' AR)) (tn:T f=none) (ft:f≠c.tab) (Sj:h.get? c'=some oc) (od:oc.data= .fields vs) (ov:vs[1]? =some (.str q t)) (fx:AT T c') (ct:c'≠c.tab)
  (cell:h.IsCell a (some v)) (vr:VR T v bv) (an:T a=none) (a0:c.h₀.get? a=none) (at_:a≠c.tab)
section
variable{c:Cx}{env:Env}{A:Around}{H₀:Heap}{σ:ah}
theorem fO.ext{T s T' s' f name q params body scope bn bv}(x:fO c T s.heap f name q params body scope bn bv)(e:bF c T s T' s'):fO c T' s'.heap f name q params body scope bn bv:=by
 obtain⟨I,J,N,a,O,vs,t,v,h1,h2,i,B,P,Q,F,u,U,W,G,X,z⟩:=x;refine ab U λY H Z=>?_;exact⟨I,J,N,a,O,vs,t,v,e.keep _ _ (.none h2) i h1,e.cN _ _ i h1 h2,i,e.keep _ _ F u B,P,Q,F.le e.le λq=>e.cN _ _ u B q,u,
  ⟨Y,e.keep _ _ (.none G) z H,Z⟩,W.mono e.le,e.cN _ _ z H G,X,z⟩
theorem fO.tn{T h f name q params body scope bn bv}(x:fO c T h f name q params body scope bn bv):T f=none:=x.casesOn λ_ _ _ _ _ _ _ _ _ h _ _ _ _ _ _ _ _ _ _ _=>h
theorem yH(O:aM c){T s f name q params body scope bn bv xn x v r k}(R:cD A (k+1))(L:fO c T s.heap f name q params body scope bn bv)(w:W c T s.heap)(Y:VR T v x)
 (Z:∀fd:FuncData,fd.params=params->fd.defaults= .none->fd.kwdefaults= .none->bindArgs fd ⟨[v],[]⟩=pure [(xn,v)])(hx:scope.names.lookup xn=some .local)(hb:scope.names.lookup bn=some .free)(wq:(bn==("__classdict__":Str))=false)
 (QO:(bn==xn)=false)(Cm:scope.isCoroutine=false)(tN:scope.isGenerator=false)(G:scope.kind= .function)(I:∀y∈scope.names,y.2≠ .cell)
 (fJ:∀A J H,J.scope=scope->bq A k->bQ c J A H [(xn,.fz x),(bn,.fz bv)] body r):wpAny c.M A (call (.ref f) [v]) (Got c T s r) cg s:=by
 obtain⟨pm,c',AR,a,oc,vs,t,vb,h1,h2,h3,h4,h5,h6,h7,h8,h9,HQ,D6,J5,J4⟩:=L;refine wpAny_call (kla_callFunE R.lim h1 rfl Cm tN rfl ⟨c',oc,vs,t,rfl,h4,h5,h6⟩ ?_);rw[Z _ rfl rfl rfl];refine wpAny_pure (wpAny_newFunctionEnv I (λy hy=>?_) (λB wo N=>⟨O.lim.keeps λb o e=>?_,?_⟩) G)
 . rcases List.mem_cons.mp hy with rfl|hy
   . exact hx
   . cases hy
 . exact N.extBut b o (Nat.ne_of_lt (Heap.lt_size (w.base b o e))) (Heap.get?_push_of_some _ (w.base b o e))
 . have F:∀b o,s.heap.get? b=some o->B.get? b=some o:=λb o e=>N.extBut b o (Nat.ne_of_lt (Heap.lt_size e)) (Heap.get?_push_of_some _ e);have e1:bF c T s T {s with heap:=B,toks:=s.toks+[(xn,v)].length}:=bF.grown F _;refine ab h9 λQ U X=>?_;refine kla_codeExpr (wpAny_mono (fJ _ _ s.heap rfl (R.frame _) T {s with heap:=B,toks:=s.toks+[(xn,v)].length} (w.grown F) ?_) (λu s' g=>g.trans e1) λ_ _ z=>z.elim);exact FR.fz G rfl rfl (λb J0=>w.free J0) (w.none_of (aG s.heap)) (aG _) (λz b i=>fm (P:=λp:Str×Addr=>(∃v,B.IsCell p.2 v)/\T p.2=none/\c.h₀.get? p.2=none/\p.2≠c.tab) ⟨⟨_,Q,F _ _ U,X⟩,D6,J5,J4⟩ HS _ (mem_of_lookup i))
    (λz z' b i QN=>(Prod.mk.inj (List.mem_singleton.mp (mem_of_lookup i))).1.trans (Prod.mk.inj (List.mem_singleton.mp (mem_of_lookup QN))).1.symm) (λz i=>absurd rfl (I _ (mem_of_lookup i))) wo
    (fm ⟨v,x,rfl,.inl ⟨hx,by simp⟩,Y⟩ (fm ⟨vb,bv,rfl,.inr ⟨.inr ⟨hb,wq⟩,a,by simp[newEnv],Q,F _ _ U,X⟩,HQ⟩ HS))
end
section
variable{c:Cx}{env:Env}{A:Around}{H₀:Heap}{σ:ah}{aj:TM}{ae:Shared}
theorem zC:sx c env A aj ae σ [] (.next σ):=λT s S=>wpAny_execs_nil ⟨rfl,T,S,.refl ..⟩
theorem fL{st rest σ' o}(h:Ly c env A aj ae σ st (.next σ'))(t:sx c env A aj ae σ' rest o):sx c env A aj ae σ (st::rest) o:=λT s S=>by refine wpAny_execs_cons (wpAny_mono (h T s S) (λf s'⟨e,T',i,l⟩=>?_) λ_ _ z=>z);subst e;exact wpAny_mono (t T' s' i) (λf u q=>q.from l) λ_ _ z=>z
theorem lj{T}{s:Shared}{x:Str}{v:Value}{M A E}{Q:Value->Shared->Prop}(F:FR c env H₀ σ T s.heap)(hx:σ.lookup x=some (.raw v))(h:Q v s):wpAny M A (loadName env x) Q E s:=by refine cq F.vals λm ρ V=>?_;refine ab (V.val x _ hx) λf h1 h2=>?_;obtain rfl:=h2.inv;exact h1.load F V.ns h
theorem zI{f nm q params c6 scope cn cv fx sn an bn p1 p2 p3 p4 p5 p6 ap p7 pos pos' y xs1 xs2}{r:Bool}(J:env.scope.kind= .function)(hL:fO c aj ae.heap f nm q params c6 scope cn cv)(h1:σ.lookup fx=some (.raw (.ref f)))(h2:σ.lookup sn=some (.fz y))
 (H:σ.lookup an=some (.ol xs1))(I:σ.lookup bn=some (.ol xs2))(N:(fx==("__debug__":Str))=false)(B:(sn==("__debug__":Str))=false)(O:(an==("__debug__":Str))=false)(P:(bn==("__debug__":Str))=false)
 (Q:∀T s v,fO c T s.heap f nm q params c6 scope cn cv->W c T s.heap->VR T v y->wpAny c.M A (call (.ref f) [v]) (Got c T s (.bool r)) cg s)(hl:(ap.endLine==pos.line)=true)(U:xs1.length<=1000)(X:xs2.length<=1000):
 Ly c env A aj ae σ (.Expr (.Call (.Attribute (.IfExp (.Call (.Name fx p1) [.Name sn p2] [] p3) (.Name an p4) (.Name bn p5) p6) "append" ap) [.Name sn p7] [] pos) pos') (.next (if r then aQ σ an (.ol (xs1++[y]))else aQ σ bn (.ol (xs2++[y])))):=λT s S=>by
 refine wpAny_Expr_any ?_ (by unfold interactive;rw[J];rfl) (by rfl);rw[arm_eval_Call,dw rfl];refine wpAny_bind (IfExp_ ?_);show wpAny _ _ (do let v<-eval (.Call (.Name fx p1) [.Name sn p2] [] p3) env;standAt p3;holding [v] (truthy v)) _ _ _;rw[arm_eval_Call_Name'];refine wpAny_bind (wpAny_bind (wpAny_Name (lj S.f h1 ?_) N));obtain⟨pm,c',AR,a,Sj,AL,t',v',Y,_,Z,_⟩:=hL.ext S.e;refine callWith_function (o:=_) (fd:=_) (dk (.cons rfl (bY h2 B) .nil) S.w S.f λvs T1 s1 F w1 r1=>⟨⟨F.keep _ _ (.none ((hL.ext S.e).tn)) Z Y,rfl⟩,?_⟩);refine ab r1.one λv aK ra=>?_;subst aK;refine wpAny_mono (Q T1 s1 _ (hL.ext (S.e.trans F)) w1 ra) (λu s2⟨T2,e2,w2,rr⟩=>?_) λ_ _ z=>z;obtain rfl:=rr.inv;refine wpAny_bind (wpAny_standAt (wpAny_holding (wpAny_truthy_bool ?_)));refine af (S.kp (F.trans e2) w2) λi l2=>?_;refine cq i.f.vals λm ρ V=>?_
 induction r with
 |true=>exact g9 i V H (λr v q=>(wa q).1) O (wpAny_bind (wpAny_standAt (iC i V H rfl (bY h2 B) hl U λT' s' G l=>⟨rfl,T',G,l2.trans l⟩)))
 |false=>exact g9 i V I (λr v q=>(wa q).1) P (wpAny_bind (wpAny_standAt (iC i V I rfl (bY h2 B) hl X λT' s' G l=>⟨rfl,T',G,l2.trans l⟩)))
end
noncomputable def oJ(l:List AV)(v:Value)(xs1 xs2:List AV)(r:ah):ah:=("itr",.fz (.list l))::("fxn",.raw v)::("a",.ol xs1)::("b",.ol xs2)::r
section
variable{c:Cx}{env:Env}{A:Around}{H₀:Heap}{σ:ah}{aj:TM}{ae:Shared}
theorem qZ{f nm q params c6 scope cn cv p1 p2 p3 p4 p5 p6 ap p7 pos pos'}{l:List AV}{g:AV->Bool}(G:env.scope.kind= .function)(hL:fO c aj ae.heap f nm q params c6 scope cn cv)(hl:(ap.endLine==pos.line)=true):
 ∀(ys xs1 xs2:List AV)(r:ah),(r=[]\/∃y,r=([("s",EV.fz y)]:ah))->(∀y∈ys,∀T s v,fO c T s.heap f nm q params c6 scope cn cv->W c T s.heap->VR T v y->wpAny c.M A (call (.ref f) [v]) (Got c T s (.bool (g y))) cg s)->xs1.length+xs2.length+ys.length<=1000->
  ∃i,(i=[]\/∃y,i=([("s",EV.fz y)]:ah))/\wR c env A aj ae ["s"] [.Expr (.Call (.Attribute (.IfExp (.Call (.Name "fxn" p1) [.Name "s" p2] [] p3) (.Name "a" p4) (.Name "b" p5) p6) "append" ap) [.Name "s" p7] [] pos) pos']
   (oJ l (.ref f) xs1 xs2 r) (ys.map λy=>[y]) (.next (oJ l (.ref f) (xs1++ys.filter g) (xs2++ys.filter λy=> !g y) i))
 |[],xs1,xs2,r,hr,_,_=>⟨r,hr,by simpa using .done⟩
 |y::ys,xs1,xs2,r,hr,hc,F=>by
  have P:xs1.length+xs2.length+ys.length+1<=1000:=by rw[List.length_cons]at F;assumption
  have hb:aX (oJ l (.ref f) xs1 xs2 r) ["s"] [y]=oJ l (.ref f) xs1 xs2 [("s",.fz y)]:=by rcases hr with rfl|⟨z,rfl⟩<;>rfl
  have st:=zI (σ:=oJ l (.ref f) xs1 xs2 [("s",.fz y)]) (p1:=p1) (p2:=p2) (p3:=p3) (p4:=p4) (p5:=p5) (p6:=p6) (p7:=p7) (pos':=pos') (r:=g y) (y:=y) (xs1:=xs1) (xs2:=xs2) (fx:="fxn") (sn:="s") (an:="a") (bn:="b") G hL rfl rfl rfl rfl rfl rfl rfl rfl (hc y (.head _)) hl (by lia) (by lia);obtain⟨u,B,H,Q,I,J⟩:∃u B,(if g y=true then aQ (oJ l (.ref f) xs1 xs2 [("s",.fz y)]) "a" (.ol (xs1++[y]))else aQ (oJ l (.ref f) xs1 xs2 [("s",.fz y)]) "b" (.ol (xs2++[y])))=oJ l (.ref f) u B [("s",.fz y)]/\
   u.length+B.length=xs1.length+xs2.length+1/\u++ys.filter g=xs1++(y::ys).filter g/\B++ys.filter (λy=> !g y)=xs2++(y::ys).filter λy=> !g y:=by
   induction hg:g y with
   |true=>exact zR (xs1++[y]) xs2 rfl (by simp;lia) (by simp[hg]) (by simp[hg])
   |false=>exact zR xs1 (xs2++[y]) rfl (by simp;lia) (by simp[hg]) (by simp[hg])
  rw[H]at st;obtain⟨i,N,O⟩:=qZ G hL hl ys u B [("s",.fz y)] (.inr ⟨y,rfl⟩) (λz F=>hc z (.tail _ F)) (by lia);refine ag i N ?_;rw[<-I,<-J];exact .next (by rw[hb];exact fL st zC) O
theorem vY{f nm q params c6 scope cn cv q1 q2 q3 q4 q5 q6 q7 q8 q9 k10 q11 q12 q13 q14 p1 p2 p3 p4 p5 p6 ap p7 pos pos'}{l:List AV}{g:AV->Bool}(i:d5 env ae.heap)(B:A.handled=none)(F:env.scope.kind= .function)(hL:fO c aj ae.heap f nm q params c6 scope cn cv)(hl:(ap.endLine==pos.line)=true)
 (G:env.kindOf "a"=some .local)(hb:env.kindOf "b"=some .local)(H:env.kindOf "s"=some .local)(I:l.length<=1000)
 (J:∀y∈l,∀T s v,fO c T s.heap f nm q params c6 scope cn cv->W c T s.heap->VR T v y->wpAny c.M A (call (.ref f) [v]) (Got c T s (.bool (g y))) cg s):
 ∃σ',sx c env A aj ae [("itr",.fz (.list l)),("fxn",.raw (.ref f))] [.Assign [.Name "a" q1] (.List [] q2) q3,.Assign [.Name "b" q4] (.List [] q5) q6,.For (.Name "s" q7) (.Name "itr" q8) [.Expr (.Call (.Attribute (.IfExp (.Call (.Name "fxn" p1) [.Name "s" p2] [] p3) (.Name "a" p4) (.Name "b" p5) p6) "append" ap) [.Name "s" p7] [] pos) pos'] [] q9,
  .Return (some (.Tuple [.Name "a" q11,.Name "b" q12] k10 q13)) q14] (.ret (.tup [.list (l.filter g),.list (l.filter λy=> !g y)]) σ'):=by
 refine ab (qZ (p1:=p1) (p2:=p2) (p3:=p3) (p4:=p4) (p5:=p5) (p6:=p6) (p7:=p7) (pos':=pos') (l:=l) F hL hl l [] [] [] (.inl rfl) J (by simpa using I)) λN u O=>?_;refine⟨(["a","b"]:List Str).foldl lU (oJ l (.ref f) ([]++l.filter g) ([]++l.filter λy=> !g y) N),fL ((fW (xs:=[]) rfl (.inl G) λH₀=>gT .nil (by exact Nat.zero_le _)).f i) (fL ((fW (xs:=[]) rfl (.inl hb) λH₀=>gT .nil (by exact Nat.zero_le _)).f i) (fL (u9 i (λx=>rfl) (λx hx=>?_) (λH₀=>uT B (bY rfl rfl)) O) ?_))⟩
 . rcases List.mem_cons.mp hx with rfl|hx
   . exact .inl H
   . cases hx
 . refine dG.f (gG (xs:=["a","b"]) (u6 (zH λH₀=>ma (.cons rfl (bY (y:= .list (l.filter g)) ?_ rfl) (.cons rfl (bY (y:= .list (l.filter λy=> !g y)) ?_ rfl) .nil)) (by simp)))) i
   . rcases u with rfl|⟨z,rfl⟩<;>rfl
   . rcases u with rfl|⟨z,rfl⟩<;>rfl
end
section
variable{c:Cx}{env:Env}{A:Around}{H₀:Heap}{σ:ah}{aj:TM}{ae:Shared}
theorem rN{b x σ'}(h:sx c env A aj ae σ b (.ret x σ')):sx c env A aj ae σ b (.ret x []):=λT s S=>
 wpAny_mono (h T s S) (λf s'⟨v,T',e,i,l,r⟩=>⟨v,T',e,i.weak (λx e h=>by simp at h),l,r⟩) λ_ _ z=>z
noncomputable def P2(c:Cx)(T:TM)(s:Shared)(q:Str)(params:Arguments)(c6:Expr)(scope:Scope)(bn:Str)(bv:AV)(v:Value)(s':Shared):Prop:=∃f T',v= .ref f/\bF c T s T' s'/\W c T' s'.heap/\fO c T' s'.heap f "<lambda>" q params c6 scope bn bv
theorem vJ{T s cc params c6 scope lp bn bv q}(G:Dl c cc)(w:W c T s.heap)(F:FR c env H₀ σ T s.heap)(Z:env.code= .ref cc)(hq:env.qual++"<lambda>"=q)(LO:c.i9=q)(LP:c.fT=lp)(Gi:defaultsOf params env=([],[]))
 (mF:∀a,env.cells.lookup bn=some a->closureFor scope env=pure [(bn,a)])(hk:env.kindOf bn=some .cell)(hb:σ.lookup bn=some (.fz bv)):
 wpAny c.M A (eval (.Lambda params c6 scope lp) env) (P2 c T s q params c6 scope bn bv) cg s:=by
 obtain⟨H,I,bm,ob,b1,b2,b3,b4,b5,b6⟩:=G.bmain;refine cq F.vals λm ρ V=>?_;refine ab (V.val bn _ hb) λvb g1 g2=>?_;have rb:VR T vb bv:=g2;obtain⟨a,Q,jf⟩:∃a,env.cells.lookup bn=some a/\s.heap.IsCell a (some vb):=by
  rcases g1 with⟨k,_⟩|⟨_,h⟩
  . injection hk.symm.trans k with z;injection z
  . exact h
 refine eM (F.cells bn a Q) λ_ a2 a3 U=>?_;refine ab w.tab λps hP ht=>?_;have Tn:mainGlobals≠c.tab:=λe=>by refine ga I λo es ep X _=>?_;exact ad (G.wp.symm.trans (e▸X))
 have Tz:bm≠mainGlobals:=λe=>by refine rT I λo es ep X Y _=>?_;rw[e,X]at b3;obtain rfl:=Option.some.inj b3;rw[Y]at b6;injection b6
 have BA:s.heap.BuiltinsAt H c.tab:=⟨bm,ob,b1,b2,Tz,(λe=>ad (G.wp.symm.trans (e▸b3))),w.base _ _ b3,b4,b5,b6⟩;refine ab jf λoa J c2=>?_;refine kla_eval Gi ?_;rw[hq]
 induction LT:codeAmong lp ps.toList with
 |some cv=>refine ab (ht.lam cv (by rw[LP];exact LT)) λf aK N=>?_;subst aK;rw[LO]at N;refine rT ((w.ok _ _ N).inv) λ_ _ _ at_ hd hv=>?_;refine kla_makeFunctionHit (mF a Q) F.glob (I.keeps w.base) Z (G.hd.keeps w.base) hP ht.pW LT BA λO h' tk iO Oh=>?_;have i:W c T h':=w.grown iO;have u:∀b o,s.heap.get? b=some o->(h'.push {cls:= .type "function",data:= .func (kla_fn "<lambda>" q params c6 scope [(bn,a)] ((H "__name__").getD .none) (.ref f) O)}).get? b=some o:=λb o e=>Heap.get?_push_of_some _ (iO b o e);refine⟨_,T,rfl,bF.grown u tk,i.push _,_,_,_,_,_,_,_,_,Heap.get?_push_size _ rfl,i.none_of (aG _),(i.free (aG _)).2,u _ _ at_,hd,hv,λd e=>?_,(w.lo _ _ N).2,⟨oa,u _ _ J,c2⟩,rb,a2,a3,U⟩;rw[N]at e;exact Ty.noConfusion (Option.some.inj e)
 |none=>
  refine kla_makeFunction (mF a Q) F.glob (I.keeps w.base) Z (G.hd.keeps w.base) hP ht.pW LT Tn BA λf O h' tk hx Oz ie Om SO=>?_;obtain⟨U0,oc,vs,t,ec,QX,Q6,QS⟩:=Om;obtain rfl:=Value.ref.inj ec;have P:s.heap.get? f=none:=by
   induction e:s.heap.get? f with
   |none=>rfl
   |some o=>exact absurd (Heap.lt_size e) (Nat.not_lt.mpr Oz)
  have hn:=w.none_of P;have rD:=w.free P;have le:=dH (ty:= .code q) hn;have hl:(ps++ #[rawInt lp.line,rawInt lp.col,Value.ref f]).toList=ps.toList++[rawInt lp.line,rawInt lp.col,.ref f]:=by simp
  have i:W c (fw T f (.code q)) h':=by
   refine⟨λb o e=>hx b o (λq=>by rw[q,G.wp]at e;exact ad e) (w.base b o e),λb ty e=>?_,λb ty e=>?_,_,SO,?_,λcv e=>?_⟩
   . by_cases qb:b=f
     . rw[qb];exact rD
     . rw[dq qb]at e;exact w.lo b ty e
   . by_cases qb:b=f
     . subst qb;rw[bP]at e;obtain rfl:=Option.some.inj e;exact .code QX Q6 QS
     . have B:=e;rw[dq qb]at B;exact(w.ok b ty B).keeps le (λb o⟨ty,e⟩ B=>hx b o (w.lo b ty e).2 B) B
   . rw[hl];exact TriplesOk_snoc _ _ _ _ ht.pW
   . rw[hl,LP,codeAmong_snoc _ ht.pW LT]at e;obtain rfl:=Option.some.inj e;exact ag f rfl (by rw[LO];exact bP)
  have u:∀b o,b≠c.tab->s.heap.get? b=some o->(h'.push (kla_obj "<lambda>" q params c6 scope [(bn,a)] ((H "__name__").getD .none) f O)).get? b=some o:=λb o hb e=>Heap.get?_push_of_some _ (hx b o hb e);have ac:a≠f:=λe=>by rw[e,P]at J;exact ad J
  have Y:bF c T s T {s with heap:=h'.push (kla_obj "<lambda>" q params c6 scope [(bn,a)] ((H "__name__").getD .none) f O),toks:=tk}:=bF.but u (λh=>h) rfl;refine⟨_,fw T f (.code q),rfl,Y.type hn P,i.push _,_,_,_,_,_,_,_,_,Heap.get?_push_size _ rfl,i.none_of (aG _),(i.free (aG _)).2,Heap.get?_push_of_some _ QX,Q6,QS,λd e=>?_,rD.2,⟨oa,u _ _ U J,c2⟩,rb.mono le,(dq ac).trans a2,a3,U⟩;rw[bP]at e;exact Ty.noConfusion (Option.some.inj e)
end
section
variable{c:Cx}{env:Env}{A:Around}{H₀:Heap}{σ:ah}{aj:TM}{ae:Shared}
theorem tS(O:aM c){cc}(G:Dl c cc){k}(R:bq A (k+2))(hc:env.code= .ref cc){pf fd}{q1 q2 q3 q4 q5 q6 q7 q8 q9 q11 q12 q13 q14 p1 p2 p3 p4 p5 p6 Y p7 pos pos':Pos}{k10:Nat}
 (X:sw c.K pf fd [.Assign [.Name "a" q1] (.List [] q2) q3,.Assign [.Name "b" q4] (.List [] q5) q6,.For (.Name "s" q7) (.Name "itr" q8) [.Expr (.Call (.Attribute (.IfExp (.Call (.Name "fxn" p1) [.Name "s" p2] [] p3) (.Name "a" p4) (.Name "b" p5) p6) "append" Y) [.Name "s" p7] [] pos) pos'] [] q9,
  .Return (some (.Tuple [.Name "a" q11,.Name "b" q12] k10 q13)) q14])
 (TA:(Y.endLine==pos.line)=true)(ha:fd.scope.names.lookup ("a":Str)=some .local)(hb:fd.scope.names.lookup ("b":Str)=some .local)(hs:fd.scope.names.lookup ("s":Str)=some .local)
 (hi:fd.scope.names.lookup ("itr":Str)=some .local)(hf:fd.scope.names.lookup ("fxn":Str)=some .local)
 (rF:∀s v1 W,c.K.In s.heap->BindsTo s fd ⟨[v1,W],[]⟩ ([("itr",v1),("fxn",W)]:List (Str×Value)))(uX:keepIn c.K (.ref pf)=true)
 {pp nn x1 x2 pn Qu Qs Qr kt pt params c6 scope lp pc pa bn bv q l xn}{g:AV->Bool}(JG:∀A H₀ σ,kq c env A H₀ σ (.Name nn pp) (.ref pf))(hn:σ.lookup pn=some (.fz (.list l)))(Ta:(pn==("__debug__":Str))=false)(hz:l.length<=1000)
 (hq:env.qual++"<lambda>"=q)(LO:c.i9=q)(LP:c.fT=lp)(Gi:defaultsOf params env=([],[]))(mF:∀a,env.cells.lookup bn=some a->closureFor scope env=pure [(bn,a)])(hk:env.kindOf bn=some .cell)(Tv:σ.lookup bn=some (.fz bv))
 (Tw:∀v(fd:FuncData),fd.params=params->fd.defaults= .none->fd.kwdefaults= .none->bindArgs fd ⟨[v],[]⟩=pure [(xn,v)])(hx:scope.names.lookup xn=some .local)(Tx:scope.names.lookup bn=some .free)(wq:(bn==("__classdict__":Str))=false)
 (QO:(bn==xn)=false)(Cm:scope.isCoroutine=false)(tN:scope.isGenerator=false)(SQ:scope.kind= .function)(jf:∀y∈scope.names,y.2≠ .cell)
 (fJ:∀y∈l,∀A B H,B.scope=scope->bq A k->bQ c B A H [(xn,.fz y),(bn,.fz bv)] c6 (.bool (g y)))
 (Gc:env.kindOf x1=some .local\/env.kindOf x1=some .cell)(zc:env.kindOf x2=some .local\/env.kindOf x2=some .cell):
 ju c env A σ (.Assign [.Tuple [.Name x1 Qs,.Name x2 Qr] kt pt] (.Call (.Name nn pp) [.Name pn Qu,.Lambda params c6 scope lp] [] pc) pa) (.next (aQ (aQ σ x1 (.fz (.list (l.filter g)))) x2 (.fz (.list (l.filter λy=> !g y))))):=λaj ae T s S oc=>by
 have tg:AH c env A σ (.Tuple [.Name x1 Qs,.Name x2 Qr] kt pt) (.tup [.list (l.filter g),.list (l.filter λy=> !g y)]) (aQ (aQ σ x1 (.fz (.list (l.filter g)))) x2 (.fz (.list (l.filter λy=> !g y)))):=
  qD R.r.handled (.cons rfl (kI Gc) (.cons rfl (kI zc) .nil))
 have ev:bQ c env A ae.heap σ (.Call (.Name nn pp) [.Name pn Qu,.Lambda params c6 scope lp] [] pc) (.tup [.list (l.filter g),.list (l.filter λy=> !g y)]):=λT s w F=>by
  rw[arm_eval_Call_Name'];refine wpAny_bind (wpAny_mono (JG A ae.heap σ T s w F) (λv s'⟨I,J⟩=>?_) λ_ _ z=>z);subst I;subst J;refine callWith_of (P:=λh=>c.K.In h) rfl (keeps_K uX) ?_;refine evalArgs_plain (spliced_cons (wpAny_mono (bY hn Ta T _ w F) (λv1 s1⟨T1,I,w1,r1⟩=>?_) λ_ _ z=>z.elim));show wpAny _ _ (spliced ((false,eval (.Lambda params c6 scope lp) env)::[])) _ _ _;refine spliced_cons (wpAny_mono (vJ G w1 (F.ext I) hc hq LO LP Gi mF hk Tv) (λW Z⟨f,T2,TY,J,N,L⟩=>?_) λ_ _ z=>z.elim);subst TY;refine spliced_nil ⟨N.gj O,?_⟩;refine wpAny_mono (Q:=Got c T2 Z (.tup [.list (l.filter g),.list (l.filter λy=> !g y)])) (wpAny_call ?_) (λu s3 gg=>(gg.trans J).trans I) λ_ _ z=>z;refine iQ O X (k:=k+1) R.r N (.refl ..) N (rF Z v1 (.ref f) (N.gj O))
   (.cons (r:=0) (.fz (r1.mono J.le)) (.cons (r:=0) .raw .nil)) ⟨by simp only[List.map_cons,List.map_nil];decide,λn AQ=>?_⟩ ?_ (λB A' he w7 R' s3 S3 LE=>?_)
  . simp only[List.map_cons,List.map_nil]at AQ;rcases List.mem_cons.mp AQ with rfl|AQ
    . exact .inl hi
    . rcases List.mem_cons.mp AQ with rfl|AQ
      . exact .inl hf
      . cases AQ
  . intro x y e f' i _ oe;rw[List.lookup_cons]at i;split at i
    . obtain rfl:=Option.some.inj i;exact absurd oe Bool.false_ne_true
    . rw[List.lookup_cons]at i;split at i
      . obtain rfl:=Option.some.inj i;exact absurd oe Bool.false_ne_true
      . simp at i
  . have kk:∀x,B.kindOf x=fd.scope.names.lookup x:=λx=>by unfold Env.kindOf;rw[he]
    obtain⟨σ',J0⟩:=vY (k10:=k10) (q1:=q1) (q2:=q2) (q3:=q3) (q4:=q4) (q5:=q5) (q6:=q6) (q7:=q7) (q8:=q8) (q9:=q9) (q11:=q11) (q12:=q12) (q13:=q13) (q14:=q14) (p1:=p1) (p2:=p2) (p3:=p3) (p4:=p4) (p5:=p5) (p6:=p6) (p7:=p7) (pos':=pos') (g:=g) (l:=l) LE R'.r.handled (by rw[he];exact X.kind) L TA ((kk _).trans ha) ((kk _).trans hb) ((kk _).trans hs) hz
     λy hy T s v LL ww rr=>yH O (k:=k) R'.r LL ww rr (Tw v) hx Tx wq QO Cm tN SQ jf (fJ y hy)
    refine wpAny_mono (rN J0 T2 s3 S3) (λfl s' q=>?_) λ_ _ z=>z.elim;obtain⟨v,T',e,U,_,r⟩:=q;subst e;exact⟨T',U.e,U.w,r⟩
 refine wpAny_Assign_stores (wpAny_mono (ev T s S.w S.f) (λv s'⟨T',ex,w',r⟩=>?_) λ_ _ z=>z) (gQ rfl) rfl;refine af (S.kp ex w') λU l'=>?_;exact wpAny_mono (tg aj ae T' s' v U oc r) (λ_ fq⟨ub,pQ,NX⟩=>⟨rfl,ub,pQ,l'.trans NX⟩) λ_ _ z=>z
end
noncomputable def vS:Stmt->Nat×List Stmt
 | .If _ b _ _=>(0,b)
 | .Assert _ _ p=>(p.line,[])
 | .Assign _ _ p=>(p.line,[])
 |_=>(0,[])
noncomputable def m7(l:List Stmt):List Stmt:=l.head?.elim [] λs=>(vS s).2
noncomputable def FU:List Stmt:=m7 (m7 (mi 359))
noncomputable abbrev mM:dM:=DA 359
noncomputable def rf:List (Str×NameKind):=[(".0",.local),("node",.local),("isinstance",.globalImplicit),("MulNode",.globalImplicit),("int",.globalImplicit)]
noncomputable def ng:List (Str×NameKind):=[("x",.local),("b",.free),("isinstance",.globalImplicit),("MulNode",.globalImplicit)]
noncomputable def yI:Expr->List Expr
 | .BoolOp _ es _=>es
 | .Lambda _ b _ _=>[b]
 | .Call _ as _ _=>as
 |_=>[]
noncomputable def PS:Stmt->List Expr
 | .Assign _ e _=>[e]
 |_=>[]
noncomputable def FZ:List Expr:=((((FU[5]?.toList.flatMap PS).flatMap yI).drop 1).flatMap yI).flatMap yI
theorem Ii:dj.all (λC=>ba.isin (.ref C) (.ref 485)==some (C==485))=true:=by kernel_rfl
inductive Uq:Prop
 |mk (a0 a1 a2 a3 a4 a5 a6 a7 a8 a9 HX HW x1 x2:Pos) (s:Scope) (pg p q:Pos) (e:FU[4]? =some (.Assert (.Call (.Name "all" a0) [.GeneratorExp (.BoolOp .Or [.UnaryOp .Not (.Call (.Name "isinstance" a1) [.Name "node" a2,.Name "MulNode" a3] [] a4) a5,.Call (.Name "isinstance" a6) [.Attribute (.Name "node" a7) "b" a8,.Name "int" a9] [] HX] HW) [⟨.Name "node" x1,.Name "nodes" x2,[],0⟩] s pg] [] p) none q)) (s1:s.names=rf) (s2:s.kind= .function) (s3:s.isCoroutine=false) (s4:(pg.line==229&&pg.col==44)=false)
theorem FV:Uq:=⟨_,_,_,_,_,_,_,_,_,_,_,_,_,_,_,_,_,_,rfl,rfl,rfl,rfl,rfl⟩
inductive Up:Prop
 |mk (p1 p2:Pos) (kt:Nat) (p3 p4 p5 p6:Pos) (s:Scope) (p7 p8 p9:Pos) (e:FU[5]? =some (.Assign [.Tuple [.Name "muls" p1,.Name "others" p2] kt p3] (.Call (.Name "partition" p4) [.Name "nodes" p5,.Lambda ⟨[],[⟨"x",none,p6⟩],none,[],[],none,[]⟩ (.BoolOp .And FZ p7) s ⟨229,44,229,105⟩] [] p8) p9)) (s1:s.names=ng) (s2:s.kind= .function) (s3:s.isCoroutine=false) (s4:s.isGenerator=false)
theorem FT:Up:=⟨_,_,_,_,_,_,_,_,_,_,_,rfl,rfl,rfl,rfl,rfl⟩
noncomputable def jT:AV->Bool
 | .obj C fl=>dj.contains C&&(C !=485||((fg fl "b").bind λv=>(vA v).i).isSome)
 |_=>false
noncomputable def L7(f:Expr->Option AV):List Expr->Option Bool
 |[]=>none
 |e::es=>((f e).bind Er).bind λb=>if es.isEmpty then some b else if b then L7 f es else some false
noncomputable def mN(bv:Int)(y:AV):Option Bool:=L7 (λe=>TX ba uI ng 9 [("x",.fz y),("b",.fz (.int bv))] e some) FZ
noncomputable def lI(bv:Int)(x:AV):Bool:=(mN bv x).getD false
noncomputable def xF(σ:ah)(x:Str):Option (List AV):=(σ.lookup x).bind λe=>match e with
 | .fz v=>(vA v).l
 |_=>none
noncomputable def Dt(σ:ah)(x:Str):Option Int:=(σ.lookup x).bind λe=>match e with
 | .fz v=>(vA v).i
 |_=>none
open Classical in
noncomputable def ly(ns:dM)(σ:ah)(st:Stmt):Option ah:=
 if ns==mM then
  if(vS st).1==228 then(if FU[4]? =some st then(xF σ "nodes").bind λxs=>if xs.all jT then some σ else none else none)
  else if(vS st).1==229 then(if FU[5]? =some st then(xF σ "nodes").bind λxs=>(Dt σ "b").bind λbv=>if xs.length<=1000&&xs.all (λx=>(mN bv x).isSome)then
   some (aQ (aQ σ "muls" (.fz (.list (xs.filter (lI bv))))) "others" (.fz (.list (xs.filter λy=> !lI bv y))))else none else none)
  else none
 else none
noncomputable def HI:Sp:=⟨E9,ly⟩
set_option tactic.hygienic true
section
variable{c:Cx}{env:Env}{A:Around}{H₀:Heap}{σ:ah}
theorem ja{ns x k}(h:env.scope.names=ns)(e:ns.lookup x=k):env.kindOf x=k:=(congrArg (List.lookup x) h).trans e
theorem z8{scope:Scope}{a:Addr}(h:scope.names=ng)(f:env.cells.lookup ("b":Str)=some a):closureFor scope env=pure [(("b":Str),a)]:=by
 unfold closureFor;rw[h];have:cellOf env ("b":Str)=pure a:=by unfold cellOf;rw[f]
 simp only[ng,List.forIn_cons,List.forIn_nil];rw[show(NameKind.local==NameKind.free)=false from rfl,show(NameKind.free==NameKind.free)=true from rfl,show(NameKind.globalImplicit==NameKind.free)=false from rfl];simp[this]
theorem vI{v i}(h:(vA v).i=some i):v= .int i:=by
 have:(match(vA v).i with|some i=> .int i|none=>v)=v:=by induction v using AV.casesOn<;>rfl
 rw[h]at this;exact this.symm
theorem vL{v i}(h:(vA v).l=some i):v= .list i:=by
 have:(match(vA v).l with|some i=> .list i|none=>v)=v:=by induction v using AV.casesOn<;>rfl
 rw[h]at this;exact this.symm
theorem qO{x xs}(h:xF σ x=some xs):σ.lookup x=some (.fz (.list xs)):=by
 refine ab (bL h) λe h1 h=>?_;induction e
 case fz v=>exact vL h▸h1
 all_goals exact ad h
theorem xG{x i}(h:Dt σ x=some i):σ.lookup x=some (.fz (.int i)):=by
 refine ab (bL h) λe h1 h=>?_;induction e
 case fz v=>exact vI h▸h1
 all_goals exact ad h
theorem BF(O:aM c)(h:mG c.K){y a1 a2 a3 a4 a5 a6 a7 a8 a9 HX HW}(B:env.scope.names=rf)(hy:jT y=true):
 w9 c env H₀ [("node",.fz y)] (.BoolOp .Or [.UnaryOp .Not (.Call (.Name "isinstance" a1) [.Name "node" a2,.Name "MulNode" a3] [] a4) a5,.Call (.Name "isinstance" a6) [.Attribute (.Name "node" a7) "b" a8,.Name "int" a9] [] HX] HW) (.bool true):=by
 have tk:=jB O h;induction y using AV.casesOn
 case obj C fl=>
  refine af (be hy) λu h2=>?_;refine af (tk.isin _ _ _ (eQ (List.all_eq_true.mp Ii C (eO u)))) λF G=>?_;have f:∀{x},rf.lookup x=some .globalImplicit->(env.scope.names.lookup x==some .globalImplicit)=true:=λe=>by rw[B,e];rfl
  have hi:∀{p} A,kq c env A H₀ [("node",.fz (.obj C fl))] (.Name "isinstance" p) (.builtin "isinstance"):=λA=>jZ O tk (f rfl) rfl _ _;exact(Bool.or_true _)▸Fl (BE (lC O tk.Jj hi rfl rfl (qV rfl rfl) (λA=>gH O tk (v:= .ref 485) (f rfl) rfl _ _) (λH I e=>by injection e with e;exact e▸G _ rfl) F) λw=>rfl) λq=>by have q:(C !=485)=false:=q;rw[q,Bool.false_or]at h2;refine ax (Option.isSome_iff_exists.mp h2) λi JQ=>?_;refine ab (bL JQ) λv J z=>?_;exact lC (x:=v) O tk.Jj hi rfl rfl (vW O rfl (qV rfl rfl) (tk.cls C u) rfl J) (λA=>jZ O tk (f rfl) rfl _ _) (λH I e=>nomatch (vI z).symm.trans e) (vI z▸(tk.isin (.type "int") (.type "int") true rfl).1)
 all_goals exact nomatch hy
theorem vg{f e2 rest pos b1 b2}(h1:bQ c env A H₀ σ f (.bool b1))(h2:b1=true->bQ c env A H₀ σ (.BoolOp .And (e2::rest) pos) (.bool b2)):bQ c env A H₀ σ (.BoolOp .And (f::e2::rest) pos) (.bool (if b1 then b2 else false)):=λT s w F=>by
 refine BoolOp_and (wpAny_mono (h1 T s w F) (λv s1⟨T1,f,i,r1⟩=>?_) λ_ _ z=>z);obtain rfl:=r1;refine wpAny_truthy_bool ?_
 induction b1 with
 |true=>exact wpAny_mono (h2 rfl T1 s1 i (F.ext f)) (λv u g=>g.trans f) λ_ _ z=>z
 |false=>exact⟨T1,f,i,.bool _⟩
theorem Ao{f:Expr->Option AV}(hf:∀e v,f e=some v->bQ c env A H₀ σ e v){p}:∀i b,L7 f i=some b->bQ c env A H₀ σ (.BoolOp .And i p) (.bool b)
 |[],_,h=>ad h
 |e::i,b,h=>by
  refine ab (bL h) λb1 h1 h=>?_;refine ab (bL h1) λv h1 h2=>?_;have r1:=hf e _ (t8 h2▸h1)
  induction i using List.casesOn with
  |nil=>exact Option.some.inj h▸r1
  |cons e2 i=>
   have h:(if b1 then L7 f (e2::i)else some false)=some b:=h
   induction b1 with
   |true=>exact vg (b2:=b) r1 λ_=>Ao hf (e2::i) b h
   |false=>exact Option.some.inj h▸vg (b2:=b) r1 λq=>nomatch q
theorem FY(O:aM c)(h:mG c.K){k y bv p}(R:bq A k)(f:env.scope.names=ng)(i:env.scope.kind= .function)(hy:(mN bv y).isSome=true):bQ c env A H₀ [("x",.fz y),("b",.fz (.int bv))] (.BoolOp .And FZ p) (.bool (lI bv y)):=by
 refine ax (Option.isSome_iff_exists.mp hy) λb e=>?_;have:lI bv y=b:=by unfold lI;rw[e];rfl
 rw[this];refine Ao (λe v h1=>?_) _ _ e;refine ab ((jl O (jB O h) (yk k) 9 env A i R).ev (f▸h1)) λx h2 u=>?_;exact Option.some.inj u▸h2 H₀
theorem B0(h:mG c.K)(te:mr c.K env)(hn:env.scope.names=mM):env.code= .ref 358/\env.qual++"<lambda>"=("create_lt_node.<locals>.<lambda>":Str):=by
 rcases te with⟨f,d,h0,⟨o,h1,h2⟩,h3,h4,h5⟩|te
 . have q:=List.all_eq_true.mp (be h.c3).2 _ (eO h0);have e:D9 c.K f=some d:=by
    unfold D9;rw[h1];obtain⟨a1,i,u,z⟩:=o;subst h2;rfl
   unfold QB at q;rw[e]at q;refine Or.elim (Bool.or_eq_true_iff.mp q) (λq=>?_) λq=>?_
   . exact absurd (h3▸hn) (bne_iff_ne.mp q)
   . refine af (be q) λq1 q2=>?_;exact⟨h4.trans (eQ q1),by rw[h5,eQ q2];rfl⟩
 . rw[hn]at te;exact nomatch (by kernel_rfl:(mM.lookup ("script":Str)).isSome=false).symm.trans te
theorem FE:(mM.lookup ("all":Str)=some .globalImplicit/\mM.lookup ("partition":Str)=some .globalImplicit)/\mM.lookup ("b":Str)=some .cell/\mM.lookup ("muls":Str)=some .local/\mM.lookup ("others":Str)=some .local:=⟨⟨by kernel_rfl,by kernel_rfl⟩,by kernel_rfl,by kernel_rfl,by kernel_rfl⟩
theorem Ir:gE.sig 28 2 []=some ([("itr",.pos 0),("fxn",.pos 1)]:List (Str×mv)):=by kernel_rfl
theorem QK{α:Type}{c:Prop}{f:Decidable c}{a:Option α}{b:α}(h:(if c then a else none)=some b):c/\a=some b:=Jr h
theorem xB(O:aM c)(h:mG c.K)(G:Dl c 358)(J:c.fT=⟨229,44,229,105⟩)(P:c.i9=("create_lt_node.<locals>.<lambda>":Str)){k ns st σ'}(he:ly ns σ st=some σ')(hn:env.scope.names=ns)(D2:env.scope.kind= .function)
 (te:mr c.K env)(R:bq A (k+2)):ju c env A σ st (.next σ'):=by
 have tk:=jB O h;refine af (rC he) λq he=>?_;have hn:=hn.trans (eQ q);refine af (B0 h te hn) λN Q=>?_;refine eM FE λU W Y Z=>?_;refine af U λl1 l2=>?_;by_cases q4:((vS st).1==228)=true
 . rw[if_pos q4]at he;refine af (QK he) λe he=>?_;refine ab (bL he) λxs h1 he=>?_;refine af (rC he) λu he=>?_;obtain⟨a0,a1,a2,a3,a4,a5,a6,a7,a8,a9,HX,HW,x1,x2,s,pg,p,q,z,s1,B,F,I⟩:=FV;rw[<-Option.some.inj (z.symm.trans e),<-Option.some.inj he];refine nJ λH₀=>xk (x:= .bool true) rfl (wB O G R N (xs:=xs) (λv=>rfl) (va O (ja hn l1) (eQ (be (be h.c3).1).2) rfl (by decide) rfl) (tB (bY (qO h1) rfl)) (by rw[J];exact I) F (closureFor_none λx hx=>?_) (λx hx=>?_) (by rw[s1];rfl) (by rw[s1];rfl) B λcA H he y hy=>?_) λT s v w r=>oo (x:= .bool true) rfl w r
   . exact bne_iff_ne.mp (List.all_eq_true.mp (by rfl:rf.all (λx=>x.2 != .free)=true) x (s1▸hx))
   . exact bne_iff_ne.mp (List.all_eq_true.mp (by rfl:rf.all (λx=>x.2 != .cell)=true) x (s1▸hx))
   . exact BF O h (by rw[he];exact s1) (List.all_eq_true.mp u y hy)
 . rw[if_neg q4]at he;refine af (rC he) λ_ he=>?_;refine af (QK he) λe he=>?_;refine ab (bL he) λxs h1 he=>?_;refine ab (bL he) λbv h2 he=>?_;refine af (rC he) λu he=>?_;refine af (be u) λhz u=>?_;obtain⟨p1,p2,kt,p3,p4,p5,p6,s,p7,p8,p9,z,s1,B,F,I⟩:=FT;rw[<-Option.some.inj (z.symm.trans e),<-Option.some.inj he];refine bV (u0 h (f:=28) rfl rfl) λfd e0 X fs=>?_;refine tS O G (k:=k) (cc:=358) R N X rfl (by rw[e0];rfl) (by rw[e0];rfl) (by rw[e0];rfl) (by rw[e0];rfl) (by rw[e0];rfl) (λs v1 v2 X=>(fs _ _ _ (Ir)).2 s [v1,v2] [] X rfl rfl) (tk.keep "partition" 28 rfl) (λA H₀ σ=>gH O tk (v:= .ref 28) (by rw[hn,l2];rfl) rfl H₀ σ) (qO h1) rfl (of_decide_eq_true hz) Q P J rfl (λa ha=>z8 s1 ha) (ja hn W) (xG h2)
    (xn:="x") (λv fd e1 z e3=>?_) (by rw[s1];rfl) (by rw[s1];rfl) rfl rfl F I B (λx hx=>?_) (λy hy A rS H he R=>?_) (.inl (ja hn Y)) (.inl (ja hn Z))
   . obtain⟨a,b,c1,d,e',f,g,h',i,j,k',l,m,n⟩:=fd;subst e1;subst z;subst e3;rfl
   . exact bne_iff_ne.mp (List.all_eq_true.mp (by rfl:ng.all (λx=>x.2 != .cell)=true) x (s1▸hx))
   . exact FY O h R (by rw[he];exact s1) (by rw[he];exact B) (List.all_eq_true.mp u y hy)
noncomputable def BK(f:Addr):Nat:=(rK f).elim 0 λd=>d.params.args.length-1
noncomputable def IB(f:Addr):List (Str×mv):=(rK f).elim [] λd=>(BG (d.params.args.map (·.arg))).tail
theorem BH:nr.map (λp=>(rK p.2).map lz)=nr.map λp=>some [(BK p.2+1,[],(("self",.pos 0):Str×mv)::IB p.2)]:=by kernel_rfl
theorem BJ:nr.all (λp=>Nat.ble (BK p.2) 4)=true:=by kernel_rfl
noncomputable def mJ{R:Type}(y:AV)(k:AV->AV->Option R):Option R:=uD y λys=>(match ys with
 |[]=>none
 |m::ys=>(match ys with
  |[]=>none
  |M::ys=>if ys.isEmpty then k m M else none))
noncomputable abbrev qq(a b:AV):List (Str×AV):=[("a",a),("b",b)]
noncomputable abbrev Dh(a b m M:AV):List (Str×AV):=[("a",a),("b",b),("min",m),("max",M)]
noncomputable abbrev iF(xs:AV):List (Str×AV):=[("nodes",xs)]
noncomputable abbrev jK(xs m M:AV):List (Str×AV):=[("nodes",xs),("min",m),("max",M)]
section
variable(call:Addr->List AV->List (Str×AV)->Option AV)(make:Addr->List AV->Option (List (Str×AV)))(q:Bool)(a:Addr)(g:Addr->List (Str×AV)->Option (List (Str×AV)))
noncomputable abbrev pe(f C:Addr)(xs:List AV):=lP ba ⟨call,make,AM HI q⟩ (DA f) (mi f) C "self" (IB f) xs a g
theorem Jy(x y z:AV):pe call make q a g 245 284 [x,y,z]=g a [("expr",x),("min",y),("max",z),("_val",.none)]:=by induction q<;>kernel_rfl
theorem Jx(x:AV):pe call make q a g 300 338 [x]=(ba.isin (iW x) (.type "int")).bind λb=>if b=true then g a [("b",x),("min",x),("max",x)]else none:=by induction q<;>kernel_rfl
theorem Jw(x y:AV):pe call make q a g 380 430 [x,y]=(call 413 [.obj 430 (qq x y)] []).bind λr=>mJ r λm M=>g a (Dh x y m M):=by induction q<;>kernel_rfl
theorem Jv(x y:AV):pe call make q a g 380 485 [x,y]=(call 468 [.obj 485 (qq x y)] []).bind λr=>mJ r λm M=>g a (Dh x y m M):=by induction q<;>kernel_rfl
theorem Ju(x y:AV):pe call make q a g 380 526 [x,y]=(call 509 [.obj 526 (qq x y)] []).bind λr=>mJ r λm M=>g a (Dh x y m M):=by induction q<;>kernel_rfl
theorem Jt(x y:AV):pe call make q a g 380 574 [x,y]=(call 557 [.obj 574 (qq x y)] []).bind λr=>mJ r λm M=>g a (Dh x y m M):=by induction q<;>kernel_rfl
theorem Js(x:AV):pe call make q a g 590 656 [x]=(call 619 [.obj 656 (iF x)] []).bind λr=>mJ r λm M=>g a (jK x m M):=by induction q<;>kernel_rfl
theorem BI(x y z w:AV):∀p∈nr,pe call make q a g p.2 p.1 ([x,y,z,w].take (BK p.2))=pe call make q 0 (λ_=>g a) p.2 p.1 ([x,y,z,w].take (BK p.2)):=
 List.forall_mem_cons.mpr ⟨(Jy call make q a g x y z).trans (Jy call make q 0 (λ_=>g a) x y z).symm,List.forall_mem_cons.mpr ⟨(Jx call make q a g x).trans (Jx call make q 0 (λ_=>g a) x).symm,List.forall_mem_cons.mpr ⟨(Jw call make q a g x y).trans (Jw call make q 0 (λ_=>g a) x y).symm,List.forall_mem_cons.mpr ⟨(Jv call make q a g x y).trans (Jv call make q 0 (λ_=>g a) x y).symm,
  List.forall_mem_cons.mpr ⟨(Ju call make q a g x y).trans (Ju call make q 0 (λ_=>g a) x y).symm,List.forall_mem_cons.mpr ⟨(Jt call make q a g x y).trans (Jt call make q 0 (λ_=>g a) x y).symm,List.forall_mem_cons.mpr ⟨(Js call make q a g x).trans (Js call make q 0 (λ_=>g a) x).symm,λ_ h=>nomatch h⟩⟩⟩⟩⟩⟩⟩
end
theorem Fn:∀C f ns b self l xs,gE.init C=some f->gE.ns f=some ns->gE.body f=some b->gE.sig f (xs.length+1) []=some ((self,.pos 0)::l)->∀call make q a g,
 lP ba ⟨call,make,AM HI q⟩ ns b C self l xs a g=lP ba ⟨call,make,AM HI q⟩ ns b C self l xs 0 λ_=>g a:=λC f ns b self l xs h0 h1 h2 i call make q a g=>by
 have m:=eH h0;refine af (rC h1) λ_ h1=>?_;refine af (rC h2) λ_ h2=>?_;refine af (rC i) λ_ i=>?_;refine ab (Option.map_eq_some_iff.mp h1) λd hd z=>?_;rw[hd]at h2;refine ab (Option.map_eq_some_iff.mp i) λr i u=>?_;rw[hd,Option.bind_some,Option.some.inj ((congrArg (Option.map lz) hd).symm.trans (List.map_inj_left.mp BH _ m))]at i;have B:=List.mem_singleton.mp (List.mem_of_find?_eq_some i);have hl:=eQ (be (List.find?_some i:)).1;rw[B]at u hl;refine af (List.cons.inj u) λF G=>?_;have H:DA f=ns:=by unfold DA;rw[hd];exact z
 have I:mi f=b:=by unfold mi;rw[hd];exact Option.some.inj h2
 refine KL (Dp .none (Nat.succ.inj hl).symm (Nat.le_of_ble_eq_true (List.all_eq_true.mp BJ _ m))) λJ N O P ex=>?_;have:=BI call make q a g J N O P _ m;rw[<-H,<-I,ex,<-(Prod.mk.inj F).1,<-G];exact this
theorem Fa(O:aM c)(h:mG c.K)(i:c.tx=A6)(G:Dl c 358)(u:c.fT=⟨229,44,229,105⟩)(z:c.i9=("create_lt_node.<locals>.<lambda>":Str)):Lm c ba HI where
 call k cb f xs kx r ck sk he:=E8 O h i ck he
 stmt k st σ AN env A hk he D2 te R:=by obtain⟨j,rfl⟩:=dW (n:=k) (by lia);exact xB O h G u z he rfl D2 te R
theorem Cs(h:mG c.K):k9 c ba HI gE:=⟨Ct h,wt h,Fn⟩
end
set_option tactic.hygienic false
theorem Iy{M:Model}{A:Around}{H:Code}{s u:Shared}{B:ClaimW}{cl:Str->Option Addr}{J:ExcName->Option Value}{i:List WData}{f:List (Addr×Addr)}(F:TabsAt f u.heap)
 (hr:∀a x,B.raises a x=false)(N:B.post i (.bool true) i=true)
 (h:codeAny M A H (λr s'=>r= .ok (.ret (.bool true))/\(∀b o,(ghostOf u.heap f).get? b=some o->s'.heap.get? b=some o)/\s'.os=u.os/\AllBare s'.gens/\GrownAll f s'.heap) s):codeAny M A H (GoodWG B cl J i u) s:=
 codeAny_mono h λr s'⟨O,P,Q,U,W⟩=>by
  have keep:∀b o,b∉f.map (·.2)->u.heap.get? b=some o->s'.heap.get? b=some o:=λb o hb e=>P b o (ghost_ne e hb);have grown:∀b o,b∈f.map (·.2)->u.heap.get? b=some o->isCodeTable u.heap b/\o=tabObj #[]/\∃ps,s'.heap.get? b=some (tabObj ps):=λb o hb e=>by obtain⟨q,z,rfl⟩:=List.mem_map.mp hb;have I:=(F q z).2;rw[e]at I;exact⟨((F q z).1.tab (F q z).2).isCodeTable,Option.some.inj I,W.get q z⟩
  refine⟨.inl ⟨_,_,[],O,λ_=>hr _ _,.bool _,N,λ_=>⟨List.nodup_nil,λa X=>by cases X⟩⟩,⟨λb o e=>?_,λb o e=>?_⟩,Q,U⟩
  . by_cases hb:b∈f.map (·.2)
    . obtain⟨ht,rfl,ps,G⟩:=grown b o hb e;exact .inr (.inl ⟨ht,rfl,#[],ps,rfl,by rw[Array.empty_append];exact G⟩)
    . exact .inl (keep b o hb e)
  . by_cases hb:b∈f.map (·.2)
    . obtain⟨_,_,ps,G⟩:=grown b o hb e;exact⟨_,G⟩
    . exact⟨o,keep b o hb e⟩
noncomputable abbrev re:dM:=DA 702
noncomputable abbrev wi:List Stmt:=mi 702
noncomputable def Aa(k:Nat):Cb:=(lB ba gE HI k).1
noncomputable def pS:Prop:=∀xs:List Int,xs.length<=18->bB ba (Aa 690) re 40 200 [("script",.fz (.list (xs.map .int)))] wi.tail (λ_=>none) (λ_=>none) (λx _=>some x)=some (.bool true)
section
variable{c:Cx}{env:Env}{A:Around}{H₀:Heap}{σ:ah}{aj:TM}{ae:Shared}
theorem qu{T:TM}{vs xs}(h:IntsAre vs xs):dx T vs (xs.map .int):=by
 induction h with
 |nil=>exact .nil
 |cons _ _ _ ih=>exact .cons (.int _ _) ih
theorem tV{p1 p2 p3 p4 p5 p6 kk l vs xs}(hl:ae.heap.IsList l vs)(nt:aj l=none)(ht:l≠c.tab)(X:vs.size<=1000)(u:env.kindOf "script"=some .local)(hv:∀T,dx T vs.toList xs)(B:d5 env ae.heap):
 Ly c env A aj ae [("script",.raw (.ref l))] (.Assign [.Name "script" p1] (.Subscript (.Name "script" p2) (.Slice none (some (.Constant (.int 18) kk p3)) none p4) p5) p6) (.next [("script",.fz (.list (xs.take 18)))]):=λT s S=>by
 have ev:wpAny c.M A (eval (.Subscript (.Name "script" p2) (.Slice none (some (.Constant (.int 18) kk p3)) none p4) p5) env) (Got c T s (.list (xs.take 18))) cg s:=by
  rw[arm_eval_Subscript];refine wpAny_bind (wpAny_Name (lj S.f rfl ?_) rfl);refine wpAny_bind (wpAny_holding (wpAny_Slice ?_));rw[evalPart_none,evalPart_some];refine wpAny_pure (wpAny_Constant_int (wpAny_pure (wpAny_bind (wpAny_standAt ?_))));refine bV hl λo F G H=>?_;have i:(s.heap.push {cls:= .type "slice",data:= .fields #[.none,.int 18 s.toks,.none]}).IsList l vs:=⟨o,Heap.get?_push_of_some _ (S.e.keep _ _ (.none nt) ht F),G,H⟩;refine ax (@c9 (.Slice none (some (.Constant (.int 18) kk p3)) none p4) (.ref l) (.ref s.heap.objs.size)) λI J=>?_;refine tail_any (T:="list") i.typeIs slot_list_getitem.lookup (wpAny_getItem_list_slice i (.new ..) .none (.int _ _) .none (by simp) ?_ (by rw[sizeLine_eq];lia)) J;rw[(slicePick_upto' vs 18)];have ex:bF c T s T {s with heap:=s.heap.push {cls:= .type "slice",data:= .fields #[.none,.int 18 s.toks,.none]},toks:=s.toks+1}:=(bF.push _).toks _;refine(lT (s:={s with heap:=s.heap.push {cls:= .type "slice",data:= .fields #[.none,.int 18 s.toks,.none]},toks:=s.toks+1}) ((S.w.push {cls:= .type "slice",data:= .fields #[.none,.int 18 s.toks,.none]})) ?_).trans ex;have tk:∀{vs xs},dx T vs xs->∀m,dx T (vs.take m) (xs.take m):=by
   intro vs xs h
   induction h with
   |nil=>intro m;simp;exact .nil
   |cons h _ ih=>intro m;induction m using Nat.casesAuxOn with
    |zero=>exact .nil
    |succ m=>exact .cons h (ih m)
  exact tk (hv T) _
 refine wpAny_Assign_stores (wpAny_mono ev (λv s'⟨T',ex,N,r⟩=>?_) λ_ _ z=>z) (gQ rfl) rfl;refine af (S.kp ex N) λO P=>?_;exact wpAny_mono (kI (.inl u) aj ae T' s' v O B r) (λ_ Y⟨Q,U,W⟩=>⟨rfl,Q,U,P.trans W⟩) λ_ _ z=>z
end
theorem B5:∃p1 p2 p3 p4 p5 p6 kk,wi= .Assign [.Name "script" p1] (.Subscript (.Name "script" p2) (.Slice none (some (.Constant (.int 18) kk p3)) none p4) p5) p6::wi.tail:=⟨_,_,_,_,_,_,_,rfl⟩
theorem Bh{K:Frag}{h:Heap}(f:K.In h)(X:mG K)(t:h.get? 356=some (tabObj #[])):TabsAt [(358,356)] h:=List.forall_mem_cons.mpr ⟨⟨codeHd_of_K f X.h,t⟩,λ_ h=>nomatch h⟩
theorem wh{w:World}{prog:Program}{i:Shared}{mg mb p loose FO}{K:Frag}(T:Top p loose FO mg mb i.heap)(JE:importsNone p=true)(KX:K.In i.heap)(X:mG K)(u:TabsAt [(358,356)] i.heap){Q:Addr}{o:Obj}{fd:FuncData}(ho:i.heap.get? Q=some o)(hd:o.data= .func fd)
 (fJ:fd.body= .stmts wi)(Gj:fd.closure=[])(zf:fd.globals=mainGlobals)(Gl:fd.builtins=builtinsNs)(U:fd.scope.names=re)(Y:fd.scope.kind= .function)(Cm:fd.scope.isCoroutine=false)(tN:fd.scope.isGenerator=false)
 (wq:i.heap.CodeRec fd.code fd.qualname)(rF:∀v,bindArgs fd ⟨[v],[]⟩=pure [(("script":Str),v)]){l:Addr}{vs:List Value}{xs:List Int}(hL:i.heap.IsList l vs.toArray)(hI:IntsAre vs xs)(Z:xs.length<=63)(hg:i.gens= #[])(pure:pS):
 codeAny (model prog w) callerA (.call (.ref Q) ⟨[.ref l],[]⟩) (λr s'=>r= .ok (.ret (.bool true))/\(∀b o,(ghostOf i.heap [(358,356)]).get? b=some o->s'.heap.get? b=some o)/\s'.os=i.os/\AllBare s'.gens/\GrownAll [(358,356)] s'.heap) i:=by
 have T':=ghost_top u T;refine af (u (358,356) (.head _)) λc0 wl=>?_;let c:Cx:=⟨prog,w,K,ghostOf i.heap [(358,356)],356,A6,⟨229,44,229,105⟩,"create_lt_node.<locals>.<lambda>"⟩;have O:aM c:=⟨(ghost_K u KX X.nt),⟨mg,T'.g⟩,⟨mb,T'.b,T'.builtins⟩,T'.nolimit,by
  refine ab ((T.seer JE).mods) λmm hm _=>?_;refine ga (ghost_ns u hm) λo es ep e _=>?_;exact⟨o,e⟩⟩
 have wp:c.h₀.get? c.tab=none:=hideAll_none _ (.head _);have G:Dl c 358:=⟨wp,(ghost_code u).1,mg,T'.g,T'.bmain⟩;have w0:W c (λ_=>none) i.heap:=⟨λb o e=>of_hideAll _ e,λa ty e=>(nomatch e),λa ty e=>(nomatch e),#[],wl,⟨trivial,λcv e=>(nomatch e)⟩⟩;have tk:=jB (c:=c) O X;have RO:=ux (c:=c) O tk (Bg X) (Cs X) (Fa O X rfl G rfl rfl) 690;have R1:cD callerA (690+1):=⟨by decide,by decide,rfl,rfl⟩;have ie:l≠356:=λq=>by refine bV hL λo e hc _=>?_;rw[q,wl]at e;(injection e with z;subst z);cases hc
 have UG:vs.length=xs.length:=by have:=(qu (T:=λ_=>none) hI).length;simpa using this
 have I:=pure (xs.take 18) (by simp;lia);have iN:re.lookup ("script":Str)=some .local:=by kernel_rfl
 refine codeAny_mono (ko (c:=c) O (k:=690) (bs:=[("script",.raw (.ref l))]) (R:=λB s'=>∃v,B= .ok (.ret v)/\Got c (λ_=>none) i (.bool true) v s') ho hd fJ Gj zf Gl wq Cm tN Y R1 w0 (.refl ..) w0
  (BindsTo.of_eq (rF _)) (.cons (r:=0) .raw .nil) ⟨by simp,λn hn=>?_⟩ ?_ (λenv A' he w7 R' s3 S3 LE=>?_)) λB s'⟨v,e,gg⟩=>?_
 . rw[List.mem_singleton.mp hn,U];exact .inl iN
 . intro x y e f' H _ oe;rw[List.lookup_cons]at H;split at H
   . (injection H with z;subst z);exact absurd oe Bool.false_ne_true
   . exact nomatch H
 . obtain⟨p1,p2,p3,p4,p5,p6,kk,eb⟩:=B5;rw[List.map_take]at I;have J:env.scope.names=re:=(congrArg Scope.names he).trans U;rw[<-J]at I;refine ab (kY O tk RO.c1 RO.s1 (.inr (by rw[J,iN];rfl)) R' (he▸Y) 200 I) λN h4 F=>?_
   induction N with
   |next σ=>exact ad F
   |cont σ=>exact ad F
   |ret x σ=>have F:x= .bool true:=Option.some.inj F;rw[eb];refine wpAny_mono (rN (fL (tV (xs:=xs.map .int) hL rfl ie (by simp;lia) (ja J iN) (λT=>qu hI) LE) (dG.f h4 LE)) _ s3 S3) (λfl s' q=>?_) λ_ _ z=>z.elim;obtain⟨v,T',e,S',_,r⟩:=q;subst e F;exact⟨v,rfl,T',S'.e,S'.w,r⟩
 . subst e;obtain⟨T1,P,w1,r1⟩:=gg;obtain rfl:=r1;refine⟨rfl,λb o e=>P.keep b o (.none rfl) (λq=>ad (wp.symm.trans (q▸e))) (of_hideAll _ e),P.os,P.gens (.of_eq hg),?_,trivial⟩;refine ab w1.tab λps e _=>?_;exact⟨ps,e⟩
set_option tactic.hygienic true
theorem NM:(defOf vw "law").map (λp=>(AK.mk p.1.params p.1.body p.1.scope,p.2))=(rK 702).map (·,[]):=by kernel_rfl
theorem NJ:pw.theDef "law"=(defOf vw "law").map λp=>(p.1.params,p.1.body,p.1.scope):=by kernel_rfl
theorem NK:(defOf vw "law").isSome=true:=by kernel_rfl
theorem NN:∃a p b s,rK 702=some ⟨⟨[],[⟨"script",a,p⟩],none,[],[],none,[]⟩,b,s⟩/\s.kind= .function/\s.isCoroutine=false/\s.isGenerator=false:=⟨_,_,_,_,rfl,rfl,rfl,rfl⟩
set_option maxHeartbeats 8000000 in
theorem joined(pure:pS):PySem.Challenge.rw_iy0027_01.Holds:=by
 refine ax (Option.isSome_iff_exists.mp NK) λJ e=>?_;obtain⟨d,kwd⟩:=J;obtain⟨a,p,b,s,f,N,O,P⟩:=NN;have F:=NM;rw[e,f]at F;have T:=NJ;rw[e]at T;refine af (Prod.mk.inj (Option.some.inj F)) λQ F2=>?_;injection Q with f1 f2 f3;have U:wi=b:=by show((rK 702).map (·.body)).getD []=b;rw[f];rfl
 have W:re=s.names:=by show((rK 702).map (·.scope.names)).getD []=_;rw[f];rfl
 clear F;obtain⟨d1,dp,db,ds,d2⟩:=d;dsimp only at f1 f2 f3 F2;subst f1 f2 f3 F2;refine Tt _ [] e T rfl ?_;intro w ae aS mg mb G Y fa o pm cd Z dV kV ho hd wq i D1 hg u z as Gd Ov SV SG JM;obtain⟨⟨K,H,X⟩,t⟩:=Y;have I:=Bh H X t;refine Ground.open G ?_;intro T B D TE TW
 try(refine guard_noD D (by decide+kernel) ?_;clear D)
 clear D1
 wrow_args Gd Ov SV SG JM
 all_goals(
  first|refine callC_kw (enter_call ?_)|refine enter_call ?_
  w_top on
  refine Iy I (λ_ _=>rfl) ?_ ?_
  rotate_left
  rename_i hL ra w1 r0 hI hr Q9 OC;refine wh T rfl H X I ho hd (congrArg _ U.symm) rfl rfl rfl W.symm N O P wq ?_ hL hI ?_ hg pure
  rotate_left 2)
 . wrow_post
 . intro v;rcases i.pos with⟨_,e1⟩|⟨h,_⟩
   . rcases i.kw with⟨_,e2⟩|⟨h,_⟩
     . subst e1 e2;rfl
     . exact absurd rfl h
   . exact absurd rfl h
 . lia
set_option tactic.hygienic false
noncomputable abbrev aI:=Addr->List AV->List (Str×AV)->Option AV
noncomputable abbrev aH:=Addr->List AV->Option (List (Str×AV))
noncomputable def hZ(call:aI)(make:aH):Cb:=⟨call,make,ly⟩
noncomputable abbrev fC(call:aI)(make:aH):=callC ba (gE) (hZ call make)
noncomputable abbrev gC(call:aI)(make:aH):=rh ba (gE) (hZ call make)
noncomputable abbrev bH{R:Type}(v:AV)(nm:Str)(k:Addr->AV->Option R):Option R:=ya ba nm v k
noncomputable abbrev lE(c:Int):List (Str×AV):=[("b",.int c),("min",.int c),("max",.int c)]
noncomputable abbrev xf(e:Str)(lo hi:Int):List (Str×AV):=[("expr",.str e),("min",.int lo),("max",.int hi),("_val",.none)]
noncomputable abbrev IF(a:AV)(b:Int)(mn mx:Int):List (Str×AV):=Dh a (.int b) (.int mn) (.int mx)
noncomputable abbrev Ip(ts:List AV)(mn mx:Int):List (Str×AV):=jK (.list ts) (.int mn) (.int mx)
noncomputable abbrev aO(c:Int):AV:= .obj 338 (lE c)
noncomputable abbrev qv(e:Str)(lo hi:Int):AV:= .obj 284 (xf e lo hi)
noncomputable abbrev bG(C:Addr)(a:AV)(b:Int)(mn mx:Int):AV:= .obj C (IF a b mn mx)
noncomputable abbrev bZ(ts:List AV)(mn mx:Int):AV:= .obj 656 (Ip ts mn mx)
section
variable(call:aI)(make:aH)
theorem OT(c:Int):gC call make 338 [.int c]=some (lE c):=by kernel_rfl
theorem OU(e:Str)(lo hi:Int):gC call make 284 [.str e,.int lo,.int hi]=some (xf e lo hi):=by kernel_rfl
theorem OS(a b:AV):gC call make 430 [a,b]=(call 413 [.obj 430 (qq a b)] []).bind λy=>mJ y λm M=>some (Dh a b m M):=by kernel_rfl
theorem OR(a b:AV):gC call make 485 [a,b]=(call 468 [.obj 485 (qq a b)] []).bind λy=>mJ y λm M=>some (Dh a b m M):=by kernel_rfl
theorem OQ(a b:AV):gC call make 526 [a,b]=(call 509 [.obj 526 (qq a b)] []).bind λy=>mJ y λm M=>some (Dh a b m M):=by kernel_rfl
theorem OP(a b:AV):gC call make 574 [a,b]=(call 557 [.obj 574 (qq a b)] []).bind λy=>mJ y λm M=>some (Dh a b m M):=by kernel_rfl
theorem OO(xs:AV):gC call make 656 [xs]=(call 619 [.obj 656 (iF xs)] []).bind λy=>mJ y λm M=>some (jK xs m M):=by kernel_rfl
theorem pr(C:Addr)(f:C=430\/C=485\/C=526\/C=574)(a:AV)(b mn mx:Int):fC call make 354 [bG C a b mn mx] []=
 if decide (mn<=mx)=true then(if(mn==mx)=true then(make 338 [.int mn]).bind λfl=>some (.obj 338 fl)else some (bG C a b mn mx))else none:=by
 rcases f with rfl|rfl|rfl|rfl<;>kernel_rfl
theorem zy(ts:List AV)(mn mx:Int):fC call make 354 [bZ ts mn mx] []=
 if decide (mn<=mx)=true then(if(mn==mx)=true then(make 338 [.int mn]).bind λfl=>some (.obj 338 fl)else some (bZ ts mn mx))else none:=by kernel_rfl
noncomputable abbrev gA(x:AV)(nm:Str):Option AV:=r8 ba (hZ call make) nm x
noncomputable abbrev oP(o:Operator)(x y:AV):Option AV:=IE ba (hZ call make) o x y
noncomputable abbrev cM(o:CmpOp)(x y:AV):Option Bool:=GY ba (hZ call make) o x y
noncomputable abbrev nG(x:AV):Option AV:=BU ba (hZ call make) x
theorem Ph(C:Addr)(fl:List (Str×AV))(b:Int):fC call make 468 [.obj 485 (qq (.obj C fl) (.int b))] []=
 (gA call make (.obj C fl) "min").bind λf=>(cM call make .GtE f (.int 0)).bind λq=>if q=true then
  (if decide (0<=b)=true then((gA call make (.obj C fl) "min").bind λm=>(oP call make .Mult m (.int b)).bind λx=>(gA call make (.obj C fl) "max").bind λM=>(oP call make .Mult M (.int b)).bind λy=>some (.tup [x,y]))
   else((gA call make (.obj C fl) "max").bind λm=>(oP call make .Mult m (.int b)).bind λx=>(gA call make (.obj C fl) "min").bind λM=>(oP call make .Mult M (.int b)).bind λy=>some (.tup [x,y])))else none:=by kernel_rfl
theorem Pe(C:Addr)(fl:List (Str×AV))(b:Int):fC call make 509 [.obj 526 (qq (.obj C fl) (.int b))] []=
 (gA call make (.obj C fl) "min").bind λf=>(cM call make .GtE f (.int 0)).bind λq=>if q=true then
  ((gA call make (.obj C fl) "min").bind λm=>(oP call make .FloorDiv m (.int b)).bind λx=>(gA call make (.obj C fl) "max").bind λM=>(oP call make .FloorDiv M (.int b)).bind λy=>some (.tup [x,y]))else none:=by kernel_rfl
theorem Pm(C:Addr)(fl:List (Str×AV))(b:Int):fC call make 413 [.obj 430 (qq (.obj C fl) (.int b))] []=
 (cM call make .Eq (.obj C fl) (.int b)).bind λq=>if q=true then some (.tup [.int 0,.int 0])else
  (gA call make (.obj C fl) "max").bind λM=>(cM call make .Lt M (.int b)).bind λq=>if q=true then some (.tup [.int 1,.int 1])else
   (gA call make (.obj C fl) "min").bind λm=>(cM call make .GtE m (.int b)).bind λq=>if q=true then some (.tup [.int 0,.int 0])else some (.tup [.int 0,.int 1]):=by kernel_rfl
theorem TS(C:Addr)(fl:List (Str×AV))(i:AV):fC call make 57 [.obj C fl,i] []=
 (ba.eJ (.ref C) [.ref 284,.ref 338]).bind λb=>if b=true then(bH (.obj C fl) "text" λf s=>(call f [s,i] []).bind some)else
  (gA call make (.obj C fl) "min").bind λm=>(gA call make (.obj C fl) "max").bind λM=>(cM call make .NotEq m M).bind λq=>if q=true then(bH (.obj C fl) "text" λf s=>(call f [s,i] []).bind some)else none:=by kernel_rfl
theorem Pa(C:Addr)(fl:List (Str×AV))(i:AV):fC call make 57 [.obj C fl] [("ctx",i)]=
 (ba.eJ (.ref C) [.ref 284,.ref 338]).bind λb=>if b=true then(bH (.obj C fl) "text" λf s=>(call f [s,i] []).bind some)else
  (gA call make (.obj C fl) "min").bind λm=>(gA call make (.obj C fl) "max").bind λM=>(cM call make .NotEq m M).bind λq=>if q=true then(bH (.obj C fl) "text" λf s=>(call f [s,i] []).bind some)else none:=by kernel_rfl
theorem Pu(e:Str)(lo hi:Int):fC call make 281 [qv e lo hi,.str "DEBUG"] []=
 (oP call make .Add (.str e) (.str "[")).bind λf=>if Sm lo=true then(oP call make .Add f (.str (bb lo))).bind λi=>(oP call make .Add i (.str "-")).bind λu=>(if Sm hi=true then(oP call make .Add u (.str (bb hi))).bind λz=>(oP call make .Add z (.str "")).bind λB=>(oP call make .Add B (.str "]")).bind some else none)else none:=by kernel_rfl
theorem Pq(c:Int)(f:AV):fC call make 335 [aO c,f] []=if Sm c=true then some (.str (bb c))else none:=by kernel_rfl
theorem Pl(C:Addr)(fl:List (Str×AV))(b mn mx:Int)(i:AV):fC call make 427 [bG 430 (.obj C fl) b mn mx,i] []=
 bH (.obj C fl) "render" λf a=>(call f [a,i] []).bind λt=>(oP call make .Add (.str "(") t).bind λu=>(oP call make .Add u (.str "<")).bind λz=>(call 666 [.int b,i] []).bind λB=>(oP call make .Add z B).bind λF=>(oP call make .Add F (.str ")")).bind some:=by kernel_rfl
theorem Pg(C:Addr)(fl:List (Str×AV))(b mn mx:Int)(i:AV):fC call make 482 [bG 485 (.obj C fl) b mn mx,i] []=
 (ba.isin (.ref C) (.ref 284)).bind λq=>if q=true then
  (bH (.obj C fl) "render" λf a=>(call f [a,i] []).bind λt=>(oP call make .Add (.str "(") t).bind λu=>(oP call make .Add u (.str "*")).bind λz=>(call 666 [.int b,i] []).bind λB=>(oP call make .Add z B).bind λF=>(oP call make .Add F (.str ")")).bind some)
 else(bH (.obj C fl) "render" λf a=>(call f [a,i] []).bind λt=>(oP call make .Add (.str "(") t).bind λu=>(oP call make .Add u (.str "*")).bind λz=>(call 666 [.int b,i] []).bind λB=>(oP call make .Add z B).bind λF=>(oP call make .Add F (.str ")")).bind some):=by kernel_rfl
theorem Pd(C:Addr)(fl:List (Str×AV))(b mn mx:Int)(i:AV):fC call make 523 [bG 526 (.obj C fl) b mn mx,i] []=
 bH (.obj C fl) "render" λf a=>(call f [a,i] []).bind λt=>(oP call make .Add (.str "(") t).bind λu=>(oP call make .Add u (.str "//")).bind λz=>if Sm b=true then(oP call make .Add z (.str (bb b))).bind λB=>(oP call make .Add B (.str ")")).bind some else none:=by kernel_rfl
theorem Pb(C:Addr)(fl:List (Str×AV))(b mn mx:Int)(i:AV):fC call make 571 [bG 574 (.obj C fl) b mn mx,i] []=
 bH (.obj C fl) "render" λf a=>(call f [a,i] []).bind λt=>(oP call make .Add (.str "(") t).bind λu=>(oP call make .Add u (.str "%")).bind λz=>if Sm b=true then(oP call make .Add z (.str (bb b))).bind λB=>(oP call make .Add B (.str ")")).bind some else none:=by kernel_rfl
theorem O4(b:Int)(f:AV):fC call make 666 [.int b,f] []=if Sm b=true then some (.str (bb b))else none:=by kernel_rfl
theorem TR(C:Addr)(fl:List (Str×AV)):fC call make 64 [.obj C fl] []=some (.dict []):=by kernel_rfl
theorem Pv(C:Addr)(fl:List (Str×AV)):fC call make 267 [.obj C fl] []=(gA call make (.obj C fl) "key").bind λkx=>b8 kx λkx=>some (.dict [(kx,.obj C fl)]):=by kernel_rfl
theorem Pn(C D:Addr)(i:C=430\/C=485\/C=526\/C=574)(fl:List (Str×AV))(b mn mx:Int):fC call make 387 [bG C (.obj D fl) b mn mx] []=
 bH (.obj D fl) "vars" λf a=>(call f [a] []).bind λd=>(call 42 [.list [d,.dict []]] []).bind some:=by
 rcases i with rfl|rfl|rfl|rfl<;>kernel_rfl
theorem OX(C:Addr)(fl:List (Str×AV))(i:Int):fC call make 93 [.obj C fl,.int i] []=some (.bool false):=by kernel_rfl
theorem TQ(C D:Addr)(fl f:List (Str×AV)):fC call make 93 [.obj C fl,.obj D f] []=(ba.isin (.ref D) (.ref 227)).bind λq=>if(!q)=true then some (.bool false)else
 (gA call make (.obj C fl) "key").bind λa=>(gA call make (.obj D f) "key").bind λb=>(cM call make .Eq a b).bind λq=>some (.bool q):=by kernel_rfl
theorem Pr(c i:Int):fC call make 321 [aO c,.int i] []=some (.bool (c==i)):=by kernel_rfl
theorem Pz(C:Addr)(fl:List (Str×AV)):fC call make 100 [.obj C fl] []=(oP call make .Mult (.obj C fl) (.int (-1))).bind some:=by kernel_rfl
theorem Ky(C:Addr)(fl:List (Str×AV))(b:Int):fC call make 107 [.obj C fl,.int b] []=(make 338 [.int b]).bind λf=>(call 211 [.list [.obj C fl,.obj 338 f]] []).bind some:=by kernel_rfl
theorem Py(C D:Addr)(fl f:List (Str×AV)):fC call make 107 [.obj C fl,.obj D f] []=(ba.isin (.ref D) (.type "int")).bind λq=>if q=true then(make 338 [.obj D f]).bind λhl=>(call 211 [.list [.obj C fl,.obj 338 hl]] []).bind some else(call 211 [.list [.obj C fl,.obj D f]] []).bind some:=by kernel_rfl
theorem Kx(C:Addr)(fl:List (Str×AV))(b:Int):fC call make 121 [.obj C fl,.int b] []=(oP call make .Add (.obj C fl) (.int (-b))).bind some:=by kernel_rfl
theorem Px(C D:Addr)(fl f:List (Str×AV)):fC call make 121 [.obj C fl,.obj D f] []=(nG call make (.obj D f)).bind λy=>(oP call make .Add (.obj C fl) y).bind some:=by kernel_rfl
theorem Kw(C:Addr)(fl:List (Str×AV))(b:Int):fC call make 163 [.obj C fl,.int b] []=if(b==0)=true then(make 338 [.int 0]).bind λf=>some (.obj 338 f)else if(b==1)=true then some (.obj C fl)else(make 485 [.obj C fl,.int b]).bind λf=>(call 354 [.obj 485 f] []).bind some:=by kernel_rfl
theorem Ps(c b:Int):fC call make 314 [aO c,.int b] []=(oP call make .Mult (.int c) (.int b)).bind λx=>(make 338 [x]).bind λf=>some (.obj 338 f):=by kernel_rfl
theorem Pj(C:Addr)(fl:List (Str×AV))(k mn mx b:Int):fC call make 446 [bG 485 (.obj C fl) k mn mx,.int b] []=(oP call make .Mult (.int k) (.int b)).bind λy=>(oP call make .Mult (.obj C fl) y).bind some:=by kernel_rfl
end
section
variable(call:aI)(make:aH)
noncomputable def iq(C:Addr)(fl:List (Str×AV))(b:Int)(fa:AV):Option AV:=
 if(b !=0)=true then
  (if decide (b<0)=true then
   (oP call make .Mult (.obj C fl) (.int (-1))).bind λv=>bH v "__floordiv__" λf v=>(call f [v,.int (-b),fa] []).bind some
  else if(b==1)=true then some (.obj C fl)
  else(gA call make (.obj C fl) "min").bind λm=>(cM call make .Lt m (.int 0)).bind λq=>if q=true then
   ((gA call make (.obj C fl) "min").bind λm=>(oP call make .FloorDiv m (.int b)).bind λoff=>(nG call make off).bind λno=>(oP call make .Mult no (.int b)).bind λy=>(oP call make .Add (.obj C fl) y).bind λv=>
     bH v "__floordiv__" λf v=>(call f [v,.int b] [("factoring_allowed",.bool false)]).bind λr=>(oP call make .Add r off).bind some)
   else(make 526 [.obj C fl,.int b]).bind λgl=>(call 354 [.obj 526 gl] []).bind some)
 else none
theorem zA(C:Addr)(fl:List (Str×AV))(b:Int):fC call make 192 [.obj C fl,.int b] []=iq call make C fl b (.bool true):=by kernel_rfl
theorem Kv(C:Addr)(fl:List (Str×AV))(b:Int)(f:AV):fC call make 192 [.obj C fl,.int b] [("factoring_allowed",f)]=iq call make C fl b f:=by kernel_rfl
theorem zz(C:Addr)(fl:List (Str×AV))(b:Int)(f:AV):fC call make 192 [.obj C fl,.int b,f] []=iq call make C fl b f:=by kernel_rfl
noncomputable def pb(x:AV):Option Bool:=ba.isin (iW x) (.type "int")
theorem GE(C:Addr)(fl:List (Str×AV))(b:Int):fC call make 206 [.obj C fl,.int b] []=
 if decide (0<b)=true then(if(b==1)=true then(make 338 [.int 0]).bind λf=>some (.obj 338 f)else
  (gA call make (.obj C fl) "max").bind λi=>(pb i).bind λq1=>
   if q1=true then(gA call make (.obj C fl) "min").bind λu=>(pb u).bind λq2=>if q2=true then
    ((gA call make (.obj C fl) "min").bind λm=>(oP call make .FloorDiv m (.int b)).bind λz=>(gA call make (.obj C fl) "max").bind λM=>(oP call make .FloorDiv M (.int b)).bind λB=>(cM call make .Eq z B).bind λq=>if q=true then
     ((gA call make (.obj C fl) "min").bind λm=>(oP call make .FloorDiv m (.int b)).bind λd=>(oP call make .Mult (.int b) d).bind λy=>(oP call make .Sub (.obj C fl) y).bind some)
      else(gA call make (.obj C fl) "min").bind λm=>(cM call make .Lt m (.int 0)).bind λq=>if q=true then
       ((gA call make (.obj C fl) "min").bind λm=>(oP call make .FloorDiv m (.int b)).bind λd=>(oP call make .Mult d (.int b)).bind λy=>(oP call make .Sub (.obj C fl) y).bind λv=>(oP call make .Mod v (.int b)).bind some)
       else(make 574 [.obj C fl,.int b]).bind λf=>(call 354 [.obj 574 f] []).bind some)
    else(make 574 [.obj C fl,.int b]).bind λf=>(call 354 [.obj 574 f] []).bind some
   else(make 574 [.obj C fl,.int b]).bind λf=>(call 354 [.obj 574 f] []).bind some)else none:=by kernel_rfl
theorem Kq(C:Addr)(fl:List (Str×AV))(k mn mx b:Int):fC call make 454 [bG 485 (.obj C fl) k mn mx,.int b] []=
 (oP call make .Mod (.int k) (.int b)).bind λr=>(cM call make .Eq r (.int 0)).bind λq=>if q=true then
  ((oP call make .FloorDiv (.int k) (.int b)).bind λd=>(oP call make .Mult (.obj C fl) d).bind some)
 else(oP call make .Mod (.int b) (.int k)).bind λr=>(cM call make .Eq r (.int 0)).bind λq=>if q=true then
  (if decide (0<k)=true then((oP call make .FloorDiv (.int b) (.int k)).bind λd=>(oP call make .FloorDiv (.obj C fl) d).bind some)
   else(call 192 [bG 485 (.obj C fl) k mn mx,.int b,.bool false] []).bind some)
  else(call 192 [bG 485 (.obj C fl) k mn mx,.int b,.bool false] []).bind some:=by kernel_rfl
theorem Pi(C:Addr)(fl:List (Str×AV))(k mn mx b:Int):fC call make 461 [bG 485 (.obj C fl) k mn mx,.int b] []=
 (oP call make .Mod (.int k) (.int b)).bind λr=>(oP call make .Mult (.obj C fl) r).bind λv=>(call 206 [v,.int b] []).bind some:=by kernel_rfl
theorem Pf(C:Addr)(fl:List (Str×AV))(k mn mx b:Int):fC call make 502 [bG 526 (.obj C fl) k mn mx,.int b] []=
 (oP call make .Mult (.int k) (.int b)).bind λy=>(oP call make .FloorDiv (.obj C fl) y).bind some:=by kernel_rfl
theorem Km(C:Addr)(fl:List (Str×AV))(k mn mx b:Int):fC call make 542 [bG 574 (.obj C fl) k mn mx,.int b] []=
 (oP call make .Mod (.int k) (.int b)).bind λr=>(cM call make .Eq r (.int 0)).bind λq=>if q=true then(oP call make .Mod (.obj C fl) (.int b)).bind some else(call 206 [bG 574 (.obj C fl) k mn mx,.int b] []).bind some:=by kernel_rfl
noncomputable def yx(C:Addr)(fl:List (Str×AV))(k mn mx b:Int)(fa:AV):Option AV:=
 (oP call make .Mod (.int k) (.int b)).bind λr=>(cM call make .Eq r (.int 0)).bind λq=>if q=true then((oP call make .FloorDiv (.obj C fl) (.int b)).bind λv=>(oP call make .FloorDiv (.int k) (.int b)).bind λe=>(oP call make .Mod v e).bind some)
 else(call 192 [bG 574 (.obj C fl) k mn mx,.int b,fa] []).bind some
theorem Kl(C:Addr)(fl:List (Str×AV))(k mn mx b:Int):fC call make 550 [bG 574 (.obj C fl) k mn mx,.int b] []=yx call make C fl k mn mx b (.bool true):=by kernel_rfl
theorem Pc(C:Addr)(fl:List (Str×AV))(b:Int):fC call make 557 [.obj 574 (qq (.obj C fl) (.int b))] []=
 (gA call make (.obj C fl) "min").bind λf=>(cM call make .GtE f (.int 0)).bind λq=>if q=true then
  ((gA call make (.obj C fl) "max").bind λM=>(gA call make (.obj C fl) "min").bind λm=>(oP call make .Sub M m).bind λw=>(cM call make .GtE w (.int b)).bind λq=>if q=true then(oP call make .Sub (.int b) (.int 1)).bind λt=>some (.tup [.int 0,t])else
    (gA call make (.obj C fl) "min").bind λm=>(gA call make (.obj C fl) "max").bind λM=>(cM call make .NotEq m M).bind λq=>if q=true then
     ((gA call make (.obj C fl) "min").bind λm=>(oP call make .Mod m (.int b)).bind λx=>(gA call make (.obj C fl) "max").bind λM=>(oP call make .Mod M (.int b)).bind λy=>(cM call make .GtE x y).bind λq=>if q=true then(oP call make .Sub (.int b) (.int 1)).bind λt=>some (.tup [.int 0,t])else
       (gA call make (.obj C fl) "min").bind λm=>(oP call make .Mod m (.int b)).bind λx=>(gA call make (.obj C fl) "max").bind λM=>(oP call make .Mod M (.int b)).bind λy=>some (.tup [x,y]))
     else(gA call make (.obj C fl) "min").bind λm=>(oP call make .Mod m (.int b)).bind λx=>(gA call make (.obj C fl) "max").bind λM=>(oP call make .Mod M (.int b)).bind λy=>some (.tup [x,y]))else none:=by kernel_rfl
theorem Kt(C:Addr)(fl:List (Str×AV))(l:List (Str×AV)):fC call make 274 [.obj C fl,.dict l] []=(gA call make (.obj C fl) "key").bind λkx=>b8 kx λx=>some ((fe l x).getD (.obj C fl)):=by kernel_rfl
theorem Cv(C:Addr)(fl:List (Str×AV))(x:AV):fC call make 328 [.obj C fl,x] []=some (.obj C fl):=by kernel_rfl
theorem Kr(C:Addr)(fl:List (Str×AV))(b mn mx:Int)(x:AV):fC call make 420 [bG 430 (.obj C fl) b mn mx,x] []=bH (.obj C fl) "substitute" λf a=>(call f [a,x] []).bind λy=>(call 359 [y,.int b] []).bind some:=by kernel_rfl
theorem Kp(C:Addr)(fl:List (Str×AV))(b mn mx:Int)(x:AV):fC call make 475 [bG 485 (.obj C fl) b mn mx,x] []=bH (.obj C fl) "substitute" λf a=>(call f [a,x] []).bind λy=>(oP call make .Mult y (.int b)).bind some:=by kernel_rfl
theorem Ko(C:Addr)(fl:List (Str×AV))(b mn mx:Int)(x:AV):fC call make 516 [bG 526 (.obj C fl) b mn mx,x] []=bH (.obj C fl) "substitute" λf a=>(call f [a,x] []).bind λy=>(oP call make .FloorDiv y (.int b)).bind some:=by kernel_rfl
theorem Kk(C:Addr)(fl:List (Str×AV))(b mn mx:Int)(x:AV):fC call make 564 [bG 574 (.obj C fl) b mn mx,x] []=bH (.obj C fl) "substitute" λf a=>(call f [a,x] []).bind λy=>(oP call make .Mod y (.int b)).bind some:=by kernel_rfl
theorem Pp(e:Str)(lo hi:Int):fC call make 347 [.str e,.int lo,.int hi] []=if decide (0<=lo)=true then(if decide (lo<=hi)=true then(if(lo==hi)=true then(make 338 [.int lo]).bind λf=>some (.obj 338 f)else(make 284 [.str e,.int lo,.int hi]).bind λf=>some (.obj 284 f))else none)else none:=by kernel_rfl
theorem Po(C:Addr)(fl:List (Str×AV))(b:Int):fC call make 366 [.obj C fl,.int b] []=(nG call make (.obj C fl)).bind λn=>(call 359 [n,.int (-b+1)] []).bind some:=by kernel_rfl
theorem O0:fC call make 678 [] []=some (.list [.str "a",.str "b",.str "c"]):=by kernel_rfl
theorem OZ(n:Int):fC call make 692 [.int n] []=if decide ((if n<0 then-n else n)<1000000000000000000)=true then some (.int n)else some (.int (n.fmod 1000000000000000003)):=by kernel_rfl
end
noncomputable def bj:Nat->Expr->List Expr
 |0,_=>[]
 |n+1,e=>match e with
  | .ListComp elt gens scope p=> .ListComp elt gens scope p::(bj n elt++gens.flatMap λg=>bj n g.iter++g.ifs.flatMap (bj n))
  | .DictComp k v gens scope p=> .DictComp k v gens scope p::(bj n k++bj n v++gens.flatMap λg=>bj n g.iter++g.ifs.flatMap (bj n))
  | .IfExp a b d _=>bj n a++bj n b++bj n d
  | .BinOp a _ b _=>bj n a++bj n b
  | .UnaryOp _ a _=>bj n a
  | .BoolOp _ es _=>es.flatMap (bj n)
  | .Compare a _ bs _=>bj n a++bs.flatMap (bj n)
  | .List es _=>es.flatMap (bj n)
  | .Tuple es _ _=>es.flatMap (bj n)
  | .Attribute o _ _=>bj n o
  | .Subscript o i _=>bj n o++bj n i
  | .Call (.Name _ _) args cB _=>args.flatMap (bj n)++cB.flatMap λkw=>bj n kw.value
  | .Call (.Attribute o _ _) args cB _=>bj n o++args.flatMap (bj n)++cB.flatMap λkw=>bj n kw.value
  |_=>[]
noncomputable def pC:Nat->Stmt->List Expr
 |0,_=>[]
 |n+1,st=>match st with
  | .If t b o _=>bj 20 t++b.flatMap (pC n)++o.flatMap (pC n)
  | .Return (some e) _=>bj 20 e
  | .Assign _ e _=>bj 20 e
  | .Expr e _=>bj 20 e
  | .For _ it b _ _=>bj 20 it++b.flatMap (pC n)
  |_=>[]
noncomputable def o4:Nat->Stmt->List (List Stmt)
 |0,_=>[]
 |n+1,st=>match st with
  | .If t b o _=>b.flatMap (o4 n)++o.flatMap (o4 n)
  | .For _ it b _ _=>b::b.flatMap (o4 n)
  |_=>[]
section
variable(call:aI)(make:aH)
noncomputable abbrev As(f:Addr):List Stmt:=mi f
noncomputable abbrev jJ(f:Addr):List (Str×NameKind):=DA f
noncomputable def PM(f i:Nat):Expr:=(((As f).flatMap (pC 20))[i]?).getD (.Constant .none 0 default)
noncomputable def gx(f i:Nat):List Stmt:=(((As f).flatMap (o4 20))[i]?).getD []
noncomputable def Ff:Expr->List (Str×NameKind)
 | .ListComp _ _ scope _=>scope.names
 | .DictComp _ _ _ scope _=>scope.names
 |_=>[]
noncomputable def L5(f i:Nat):List (Str×NameKind):=j4 (jJ f) (Ff (PM f i))
noncomputable def aU(f i m:Nat):ah->List AV->Acc->Option (ah×Acc):=m8 ba (L5 f i) (kA ba (hZ call make) m (L5 f i)) (PM f i) 4 0
noncomputable def ay(f i n:Nat)(τ:ah):Option fX:=bB ba (hZ call make) (jJ f) 40 n τ (gx f i) (λσ=>some (.next σ)) (λσ=>some (.cont σ)) (λx σ=>some (.ret x σ))
noncomputable abbrev bf(ts:List AV):List (List AV):=ts.map λy=>[y]
theorem O7(ts:List AV)(mn mx b:Int):fC call make 624 [bZ ts mn mx,.int b] []=(aE (aU call make 624 0 38) (bf ts) [("b",.fz (.int b))] (.l [])).bind λp=>(gO p.2).bind λxs=>(call 211 [.list xs] []).bind some:=by kernel_rfl
theorem O9(ts:List AV)(mn mx:Int):fC call make 595 [bZ ts mn mx] []=(aE (aU call make 595 0 38) (bf ts) [] (.l [])).bind λp=>(gO p.2).bind λxs=>(call 42 [.list xs] []).bind some:=by kernel_rfl
theorem O8(ts:List AV):fC call make 619 [.obj 656 (iF (.list ts))] []=(aE (aU call make 619 0 37) (bf ts) [] (.l [])).bind λp=>(gO p.2).bind λxs=>(r7 (.builtin "sum") [.list xs]).bind λs1=>(aE (aU call make 619 1 37) (bf ts) [] (.l [])).bind λp=>(gO p.2).bind λys=>(r7 (.builtin "sum") [.list ys]).bind λf=>some (.tup [s1,f]):=by kernel_rfl
theorem Kh(ts:List AV)(mn mx:Int)(x:AV):fC call make 642 [bZ ts mn mx,x] []=(aE (aU call make 642 0 38) (bf ts) [("var_vals",.fz x)] (.l [])).bind λp=>(gO p.2).bind λxs=>(call 211 [.list xs] []).bind some:=by kernel_rfl
theorem O6(ts:List AV)(mn mx b:Int):fC call make 637 [bZ ts mn mx,.int b] []=(cM call make .Eq (bZ ts mn mx) (.int b)).bind λq=>if q=true then(make 338 [.int 0]).bind λf=>some (.obj 338 f)else
 (aE (aU call make 637 0 38) (bf ts) [("b",.fz (.int b))] (.l [])).bind λp=>(gO p.2).bind λxs=>(call 211 [.list xs] []).bind λy=>(call 206 [y,.int b] []).bind some:=by kernel_rfl
theorem O5(ts:List AV)(mn mx:Int)(f:AV):fC call make 647 [bZ ts mn mx,f] []=(aE (aU call make 647 0 35) (bf ts) [("ctx",.fz f)] (.l [])).bind λp=>(gO p.2).bind λxs=>(r7 (.builtin "sorted") [.list xs]).bind λy=>sW [y] λys=>(fu ys).bind λns=>
 if(("+":Str).length<=64/\(ns.map (·.length)).sum+ns.length*64<=16777216)then(oP call make .Add (.str "(") (.str (Txt.join "+" ns))).bind λx=>(oP call make .Add x (.str ")")).bind some else none:=by kernel_rfl
theorem Kg(ts:List AV)(fl:List (Str×AV))(h:fl=iF (.list ts)\/∃m M,fl=jK (.list ts) m M):fC call make 652 [.obj 656 fl] []=(aE (aU call make 652 0 39) (bf ts) [] (.l [])).bind λp=>(gO p.2).bind λxs=>some (.list xs):=by rcases h with rfl|⟨m,M,rfl⟩<;>kernel_rfl
theorem O3(C:Addr)(fl:List (Str×AV))(l:List (Str×AV)):fC call make 671 [.obj C fl,.dict l] []=(ba.isin (.ref C) (.type "int")).bind λq=>if q=true then some (.obj C fl)else
 bH (.obj C fl) "substitute" λf v=>(aE (aU call make 671 0 37) (l.map λz=>[.str z.1,z.2]) [] (.d [])).bind λp=>(Df p.2).bind λxs=>(call f [v,.dict xs] []).bind λr=>(ba.isin (iW r) (.ref 338)).bind λq=>if q=true then(gA call make r "b").bind some else none:=by kernel_rfl
end
section
variable(call:aI)(make:aH)
noncomputable def cS(f i n:Nat)(σ:ah):Option AV:=bB ba (hZ call make) (jJ f) 40 n σ ((As f).drop i) (λ_=>some .none) (λ_=>none) (λx _=>some x)
noncomputable abbrev wu(f i n:Nat)(o:fX):Option AV:=f7 (cS call make f i n) (λ_=>none) (λx _=>some x) o
theorem TT(f:List AV):fC call make 42 [.list f] []=(bU (ay call make 42 0 198) ["row"] (bf f) [("rows",.fz (.list f)),("ret",.od [])]).bind (wu call make 42 2 198):=by kernel_rfl
theorem Pk(f:List AV)(l:List (Str×AV))(r:ah):cS call make 42 2 198 (("rows",.fz (.list f))::("ret",.od l)::r)=some (.dict l):=by kernel_rfl
theorem Sw(f:List AV)(l d:List (Str×AV))(r:ah):ay call make 42 0 198 (("rows",.fz (.list f))::("ret",.od l)::("row",.fz (.dict d))::r)=
 (bU (ay call make 42 1 197) ["k","v"] (d.map λz=>[.str z.1,z.2]) (("rows",.fz (.list f))::("ret",.od l)::("row",.fz (.dict d))::r)).bind λo=>f7 (λσ=>some (.next σ)) (λσ=>some (.cont σ)) (λx σ=>some (.ret x σ)) o:=by kernel_rfl
theorem NV(f:List AV)(l d:List (Str×AV))(k:Str)(v:AV)(r:ah):ay call make 42 1 197 (("rows",.fz (.list f))::("ret",.od l)::("row",.fz (.dict d))::("k",.fz (.str k))::("v",.fz v)::r)=
 if l.length<=1000 then some (.next (("rows",.fz (.list f))::("ret",.od (bI l k v))::("row",.fz (.dict d))::("k",.fz (.str k))::("v",.fz v)::r))else none:=by kernel_rfl
theorem Pw(ts:List AV):fC call make 211 [.list ts] []=(aE (aU call make 211 0 40) (bf ts) [] (.l [])).bind λp=>(gO p.2).bind λxs=>(ib (.list xs)).bind λq=>if(!q)=true then(make 338 [.int 0]).bind λfl=>some (.obj 338 fl)else
 (fG xs).bind λx=>(cM call make .Eq x (.int 1)).bind λq=>if q=true then(bc xs 0).bind some else
 (make 656 [.list xs]).bind λfl=>(gA call make (.obj 656 fl) "flat_components").bind λv=>uS v λrows=>(bU (ay call make 211 0 193) ["node"] rows [("nodes",.fz (.list xs)),("mul_groups",.od []),("mul_nodes",.od []),("num_node_sum",.fz (.int 0))]).bind (wu call make 211 7 193):=by kernel_rfl
noncomputable abbrev d6(xs:List AV)(g m:List (Str×AV))(s:Int)(r:ah):ah:=("nodes",.fz (.list xs))::("mul_groups",.od g)::("mul_nodes",.od m)::("num_node_sum",.fz (.int s))::r
noncomputable def ow(ys:List AV):Option AV:=
 (fG ys).bind λx=>(cM call make .Gt x (.int 1)).bind λq=>if q=true then(make 656 [.list ys]).bind λfl=>(call 354 [.obj 656 fl] []).bind some else
  (fG ys).bind λx=>(cM call make .Eq x (.int 1)).bind λq=>if q=true then(bc ys 0).bind some else(make 338 [.int 0]).bind λfl=>some (.obj 338 fl)
theorem Ku(xs:List AV)(g m:List (Str×AV))(s:Int)(r:ah)(hr:r=[]\/∃x,r=[(("node":Str),EV.fz x)]):cS call make 211 7 193 (d6 xs g m s r)=
 (aE (aU call make 211 1 40) (g.map λz=>[.str z.1,z.2]) [("mul_nodes",.fz (.dict m))] (.l [])).bind λp=>(gO p.2).bind λys=>if(s !=0)=true then
  (make 338 [.int s]).bind λfl=>if ys.length<=1000 then ow call make (ys++[.obj 338 fl])else none
 else ow call make ys:=by
 rcases hr with rfl|⟨x,rfl⟩<;>kernel_rfl
theorem Jg(xs:List AV)(g m:List (Str×AV))(s c:Int):ay call make 211 0 193 (d6 xs g m s (("node",.fz (aO c))::[]))=some (.next (d6 xs g m (s+c) (("node",.fz (aO c))::[]))):=by kernel_rfl
theorem Jh(xs:List AV)(g m:List (Str×AV))(s b mn mx:Int)(C:Addr)(fl:List (Str×AV)):ay call make 211 0 193 (d6 xs g m s (("node",.fz (bG 485 (.obj C fl) b mn mx))::[]))=
 (gA call make (.obj C fl) "key").bind λf=>b8 f λf=>(gA call make (.obj C fl) "key").bind λi=>b8 i λi=>if m.length<=1000 then
  (gA call make (.obj C fl) "key").bind λu=>b8 u λu=>(oP call make .Add ((fe g u).getD (.int 0)) (.int b)).bind λz=>(gA call make (.obj C fl) "key").bind λB=>b8 B λB=>if g.length<=1000 then
   some (.next (d6 xs (bI g B z) (bI m i ((fe m f).getD (.obj C fl))) s (("node",.fz (bG 485 (.obj C fl) b mn mx))::[])))else none else none:=by kernel_rfl
theorem Ji(xs:List AV)(g m:List (Str×AV))(s:Int)(C:Addr)(F:C=284\/C=430\/C=526\/C=574)(fl:List (Str×AV)):ay call make 211 0 193 (d6 xs g m s (("node",.fz (.obj C fl))::[]))=
 (gA call make (.obj C fl) "key").bind λf=>b8 f λf=>(gA call make (.obj C fl) "key").bind λi=>b8 i λi=>if m.length<=1000 then
  (gA call make (.obj C fl) "key").bind λu=>b8 u λu=>(oP call make .Add ((fe g u).getD (.int 0)) (.int 1)).bind λz=>(gA call make (.obj C fl) "key").bind λB=>b8 B λB=>if g.length<=1000 then
   some (.next (d6 xs (bI g B z) (bI m i ((fe m f).getD (.obj C fl))) s (("node",.fz (.obj C fl))::[])))else none else none:=by
 rcases F with rfl|rfl|rfl|rfl<;>kernel_rfl
end
section
variable(call:aI)(make:aH)
noncomputable def HV:List Stmt:=m7 (As 359)
noncomputable def w8:List Stmt:=m7 (HV)
noncomputable def C1:List Stmt:=m7 ((w8).drop 6)
noncomputable def DR(σ:ah):Option AV:=bB ba (hZ call make) (jJ 359) 40 198 σ ((HV).drop 1) (λσ=>cS call make 359 1 199 σ) (λ_=>none) (λx _=>some x)
noncomputable def oY(i n:Nat)(σ:ah):Option AV:=bB ba (hZ call make) (jJ 359) 40 n σ ((w8).drop i) (λσ=>DR call make σ) (λ_=>none) (λx _=>some x)
noncomputable def Nj(i n:Nat)(σ:ah):Option AV:=bB ba (hZ call make) (jJ 359) 40 n σ ((C1).drop i) (λσ=>DR call make σ) (λ_=>none) (λx _=>some x)
noncomputable def HG(i:Nat):Stmt:=((As 359)[i]?).getD (.Pass default)
noncomputable def HF(i:Nat):Stmt:=(HV[i]?).getD (.Pass default)
noncomputable def vR(i:Nat):Stmt:=(w8[i]?).getD (.Pass default)
noncomputable def AP(st:Stmt):Expr×List Stmt×List Stmt:=(rB st).getD (.Constant .none 0 default,[],[])
theorem vq:(As 359).drop 0=HG 0::(As 359).drop 1:=by kernel_rfl
theorem CZ:(As 359).drop 1=HG 1::(As 359).drop 2:=by kernel_rfl
theorem C6:HV=HF 0::HV.drop 1:=by kernel_rfl
theorem C5:w8=vR 0::vR 1::w8.drop 2:=by kernel_rfl
theorem zx(x y:AV):fC call make 359 [x,y] []=cS call make 359 0 200 [("lhs",.fz x),("b",.fz y)]:=
 Af (ns:=DA 359) (b:=(mi 359).drop 0) (ps:=[("lhs",x),("b",y)]) (by kernel_rfl) (by kernel_rfl) (by kernel_rfl)
theorem Ks(ts:List AV)(mn mx b:Int):fC call make 359 [bZ ts mn mx,.int b] []=
 (bU (ay call make 359 0 196) ["x"] (bf ts) [("lhs",.fz (bZ ts mn mx)),("b",.fz (.int b)),("new_sum",.ol [])]).bind λo=>f7 (λσ=>oY call make 2 196 σ) (λ_=>none) (λx _=>some x) o:=by
 rw[zx];unfold cS;rw[vq,jk (t:=(AP (HG 0)).1) (b:=HV) (o:=(AP (HG 0)).2.2) (by kernel_rfl) (by kernel_rfl) (by kernel_rfl) (λk=>by kernel_rfl)];rw[C6,jk (t:=(AP (HF 0)).1) (b:=w8) (o:=(AP (HF 0)).2.2) (by kernel_rfl) (by kernel_rfl) (by kernel_rfl) (λk=>by kernel_rfl)];rw[C5,eE (σ':=[("lhs",.fz (bZ ts mn mx)),("b",.fz (.int b)),("new_sum",.ol [])]) (by intro R kN kC kR;kernel_rfl)];exact nE (by intro kN kC kR;kernel_rfl)
theorem Ee(C:Addr)(f:C=284\/C=338\/C=430\/C=526\/C=574)(fl:List (Str×AV))(b:Int):fC call make 359 [.obj C fl,.int b] []=(make 430 [.obj C fl,.int b]).bind λi=>(call 354 [.obj 430 i] []).bind some:=by rcases f with rfl|rfl|rfl|rfl|rfl<;>kernel_rfl
noncomputable abbrev dD(l:AV)(b:Int)(ns:EV)(r:ah):ah:=("lhs",.fz l)::("b",.fz (.int b))::("new_sum",ns)::r
theorem Je(l:AV)(b:Int)(xs:List AV)(c:Int):ay call make 359 0 196 (dD l b (.ol xs) [("x",.fz (aO c))])=some (.next (dD l (b-c) (.ol xs) [("x",.fz (aO c))])):=by kernel_rfl
theorem Jd(l:AV)(b:Int)(xs:List AV)(C:Addr)(f:C=284\/C=430\/C=485\/C=526\/C=574)(fl:List (Str×AV)):ay call make 359 0 196 (dD l b (.ol xs) [("x",.fz (.obj C fl))])=if xs.length<=1000 then some (.next (dD l b (.ol (xs++[.obj C fl])) [("x",.fz (.obj C fl))]))else none:=by rcases f with rfl|rfl|rfl|rfl|rfl<;>kernel_rfl
theorem LH(C:Addr)(fl:List (Str×AV))(b:Int)(xs:List AV)(x:AV):oY call make 3 195 (dD (.obj C fl) b (.fz (.list xs)) [("x",.fz x)])=
 (ba.isin (.ref C) (.ref 656)).bind λq=>if q=true then(gA call make (.obj C fl) "nodes").bind λv=>oY call make 4 194 (dD (.obj C fl) b (.fz (.list xs)) [("x",.fz x),("nodes",.fz v)])
  else oY call make 4 194 (dD (.obj C fl) b (.fz (.list xs)) [("x",.fz x),("nodes",.fz (.list [.obj C fl]))]):=by kernel_rfl
noncomputable def jD(i:Nat):Stmt:=((w8)[i]?).getD (.Pass default)
theorem R6(l:AV)(b:Int)(xs:List AV)(x:AV)(ns:List AV):ly (jJ 359) ((ia (jD 4)).foldl lU (dD l b (.fz (.list xs)) [("x",.fz x),("nodes",.fz (.list ns))])) (jD 4)=
 if ns.all jT=true then some (dD l b (.fz (.list xs)) [("x",.fz x),("nodes",.fz (.list ns))])else none:=by
 unfold ly;rw[if_pos (by kernel_rfl:(jJ 359==mM)=true),if_pos (by kernel_rfl:((vS (jD 4)).1==228)=true),if_pos (by kernel_rfl:FU[4]? =some (jD 4))];kernel_rfl
theorem Mz(l:AV)(b:Int)(xs:List AV)(x:AV)(ns:List AV):ly (jJ 359) ((ia (jD 5)).foldl lU (dD l b (.fz (.list xs)) [("x",.fz x),("nodes",.fz (.list ns))])) (jD 5)=
 if(decide (ns.length<=1000)&&ns.all (λx=>(mN b x).isSome))=true then some (dD l b (.fz (.list xs)) [("x",.fz x),("nodes",.fz (.list ns)),("muls",.fz (.list (ns.filter (lI b)))),("others",.fz (.list (ns.filter λy=> !lI b y)))])else none:=by
 unfold ly;rw[if_pos (by kernel_rfl:(jJ 359==mM)=true),if_neg (Bool.eq_false_iff.mp (by kernel_rfl:((vS (jD 5)).1==228)=false)),if_pos (by kernel_rfl:((vS (jD 5)).1==229)=true),if_pos (by kernel_rfl:FU[5]? =some (jD 5))];kernel_rfl
theorem Nu{R:Type}{kN kC:ah->Option R}{kR:AV->ah->Option R}(l:AV)(b:Int)(xs:List AV)(x:AV):bB ba (hZ call make) (jJ 359) 40 196 (dD l b (.ol xs) [("x",.fz x)]) [jD 2] kN kC kR=(call 211 [.list xs] []).bind λy=>kN ((dD y b (.fz (.list xs)) [("x",.fz x)])):=by kernel_rfl
theorem C4:(w8).drop 2=jD 2::(w8).drop 3:=by kernel_rfl
theorem LI(l:AV)(b:Int)(xs:List AV)(x:AV):oY call make 2 196 (dD l b (.ol xs) [("x",.fz x)])=(call 211 [.list xs] []).bind λy=>oY call make 3 195 (dD y b (.fz (.list xs)) [("x",.fz x)]):=by unfold oY;rw[C4];exact dF.trans (Nu ..)
theorem Hq:(w8).drop 4=jD 4::jD 5::(w8).drop 6:=by kernel_rfl
theorem Nr(l:AV)(b:Int)(xs:List AV)(x:AV)(ns:List AV)(f:ns.all jT=true)(i:(decide (ns.length<=1000)&&ns.all (λx=>(mN b x).isSome))=true):oY call make 4 194 (dD l b (.fz (.list xs)) [("x",.fz x),("nodes",.fz (.list ns))])=
 oY call make 6 192 (dD l b (.fz (.list xs)) [("x",.fz x),("nodes",.fz (.list ns)),("muls",.fz (.list (ns.filter (lI b)))),("others",.fz (.list (ns.filter λy=> !lI b y)))]):=by
 unfold oY;rw[Hq];rw[nB (σ':=dD l b (.fz (.list xs)) [("x",.fz x),("nodes",.fz (.list ns))]) ((R6 l b xs x ns).trans (if_pos f))];rw[nB ((Mz l b xs x ns).trans (if_pos i))]
noncomputable abbrev kb(l:AV)(bv:AV)(xs:List AV)(x:AV)(ns ms os:List AV)(r:ah):ah:=("lhs",.fz l)::("b",.fz bv)::("new_sum",.fz (.list xs))::("x",.fz x)::("nodes",.fz (.list ns))::("muls",.fz (.list ms))::("others",.fz (.list os))::r
theorem vx:w8.drop 6=[vR 6]:=by kernel_rfl
theorem C0:C1=(C1.head?.getD (.Pass default))::(C1.drop 1).head?.getD (.Pass default)::C1.drop 2:=by kernel_rfl
theorem IX{R:Type}(f:Bool->Option R)(l:AV)(b:Int)(xs:List AV)(x:AV)(ns ms i:List AV):(kA ba (hZ call make) 40 (jJ 359)).tr (kb l (.int b) xs x ns ms i []) (AP (vR 6)).1 f=(ib (.list ms)).bind f:=by kernel_rfl
theorem IY(l:AV)(b:Int)(xs:List AV)(x:AV)(ns ms f:List AV):(hZ call make).stmt (jJ 359) (kb l (.int b) xs x ns ms f []) (vR 6)=none/\(ia (vR 6)).foldl lU (kb l (.int b) xs x ns ms f [])=kb l (.int b) xs x ns ms f []:=⟨by kernel_rfl,by kernel_rfl⟩
theorem Nl:rB (vR 6)=some ((AP (vR 6)).1,C1,(AP (vR 6)).2.2):=by kernel_rfl
theorem Nk:rB (vR 6)=some ((AP (vR 6)).1,C1,[]):=by kernel_rfl
theorem No{R:Type}{kN kC:ah->Option R}{kR:AV->ah->Option R}(l:AV)(b:Int)(xs:List AV)(x:AV)(ns ms f:List AV):bB ba (hZ call make) (jJ 359) 40 191 (kb l (.int b) xs x ns ms f []) [C1.head?.getD (.Pass default)] kN kC kR=kN ((kb l (.int b) xs x ns ms f [("mul_gcd",.fz (.int b))])):=by kernel_rfl
theorem Nm{R:Type}{kN kC:ah->Option R}{kR:AV->ah->Option R}(l:AV)(b:Int)(xs:List AV)(x:AV)(ns ms f:List AV):bB ba (hZ call make) (jJ 359) 40 190 (kb l (.int b) xs x ns ms f [("mul_gcd",.fz (.int b))]) [(C1.drop 1).head?.getD (.Pass default)] kN kC kR=(bU (λτ=>bB ba (hZ call make) (jJ 359) 40 189 τ (gx 359 1) (λσ=>some (fX.next σ)) (λσ=>some (.cont σ)) (λx σ=>some (.ret x σ))) ["x"] (bf ms) (kb l (.int b) xs x ns ms f [("mul_gcd",.fz (.int b))])).bind (f7 kN kC kR):=by kernel_rfl
theorem Np(l:AV)(b:Int)(xs:List AV)(x:AV)(ns ms i:List AV)(h:ib (.list ms)=some true):oY call make 6 192 (kb l (.int b) xs x ns ms i [])=
 (bU (ay call make 359 1 189) ["x"] (bf ms) (kb l (.int b) xs x ns ms i [("mul_gcd",.fz (.int b))])).bind λo=>f7 (λσ=>Nj call make 2 189 σ) (λ_=>none) (λx _=>some x) o:=by
 refine af (IY call make l b xs x ns ms i) λu z=>?_;unfold oY;rw[vx,zF Nl z u λf=>(IX call make f l b xs x ns ms i).trans (bE h rfl),C0,eE (No call make l b xs x ns ms i)];exact nE (Nm call make l b xs x ns ms i)
theorem Nq(l:AV)(b:Int)(xs:List AV)(x:AV)(ns ms i:List AV)(h:ib (.list ms)=some false):oY call make 6 192 (kb l (.int b) xs x ns ms i [])=DR call make (kb l (.int b) xs x ns ms i []):=by refine af (IY call make l b xs x ns ms i) λu z=>?_;unfold oY;rw[vx,zE Nk z u λf=>(IX call make f l b xs x ns ms i).trans (bE h rfl),zD]
theorem Jf(l:AV)(b:Int)(xs:List AV)(ns ms f:List AV)(g:Int)(C:Addr)(i:C=485)(fl:List (Str×AV)):ay call make 359 1 189 (kb l (.int b) xs (.obj C fl) ns ms f [("mul_gcd",.fz (.int g))])=
 (gA call make (.obj C fl) "b").bind λk=>(call 35 [.int g,k] []).bind λz=>some (.next (kb l (.int b) xs (.obj C fl) ns ms f [("mul_gcd",.fz z)])):=by subst i;kernel_rfl
theorem QD(l:AV)(b:Int)(xs:List AV)(x:AV)(ns ms f:List AV)(g:Int):Nj call make 2 189 (kb l (.int b) xs x ns ms f [("mul_gcd",.fz (.int g))])=
 (call 211 [.list f] []).bind λz=>(gA call make z "min").bind λm=>(cM call make .GtE m (.int 0)).bind λq=>if q=true then
  ((gA call make z "max").bind λM=>(cM call make .Lt M (.int g)).bind λq=>if q=true then
    ((aE (aU call make 359 0 37) (bf ms) [("mul_gcd",.fz (.int g))] (.l [])).bind λp=>(gO p.2).bind λys=>(call 211 [.list ys] []).bind λy=>(oP call make .FloorDiv (.int b) (.int g)).bind λb2=>DR call make (kb y b2 xs x ns ms f [("mul_gcd",.fz (.int g)),("all_others",.fz z)]))
  else DR call make (kb l (.int b) xs x ns ms f [("mul_gcd",.fz (.int g)),("all_others",.fz z)]))
 else DR call make (kb l (.int b) xs x ns ms f [("mul_gcd",.fz (.int g)),("all_others",.fz z)]):=by kernel_rfl
noncomputable def ri(l bv:AV):Option AV:=(ba.isin (iW l) (.ref 656)).bind λq=>if q=true then(make 430 [l,bv]).bind λgl=>(call 354 [.obj 430 gl] []).bind some else(call 359 [l,bv] []).bind some
theorem N1(l:AV)(f:AV)(xs:List AV)(x:AV)(ns ms i:List AV):DR call make (kb l f xs x ns ms i [])=ri call make l f:=by kernel_rfl
theorem F5(l:AV)(f:AV)(xs:List AV)(x:AV)(ns ms i:List AV)(g z:AV):DR call make (kb l f xs x ns ms i [("mul_gcd",.fz g),("all_others",.fz z)])=ri call make l f:=by kernel_rfl
noncomputable abbrev lA(l:AV)(b:Int):ah:=[("lhs",.fz l),("b",.fz (.int b))]
noncomputable def HU:List Stmt:=m7 ((As 359).drop 1)
noncomputable def Bo(i:Nat):Stmt:=((HU)[i]?).getD (.Pass default)
theorem GD(C:Addr)(fl:List (Str×AV))(k mn mx b:Int):fC call make 359 [bG 485 (.obj C fl) k mn mx,.int b] []=cS call make 359 1 199 (lA (bG 485 (.obj C fl) k mn mx) b):=by rw[zx];unfold cS;rw[vq];exact eE (by intro R kN kC kR;kernel_rfl)
theorem GC(C:Addr)(fl:List (Str×AV))(k mn mx b:Int):cS call make 359 1 199 (lA (bG 485 (.obj C fl) k mn mx) b)=bB ba (hZ call make) (jJ 359) 40 198 (lA (bG 485 (.obj C fl) k mn mx) b) (HU) (λσ=>cS call make 359 2 198 σ) (λ_=>none) (λx _=>some x):=by unfold cS;rw[CZ];exact jk (t:=(AP (HG 1)).1) (b:=HU) (o:=(AP (HG 1)).2.2) (by kernel_rfl) (by kernel_rfl) (by kernel_rfl) (λk=>by kernel_rfl)
theorem GB{R:Type}{kN kC:ah->Option R}{kR:AV->ah->Option R}(C:Addr)(fl:List (Str×AV))(k mn mx b:Int):bB ba (hZ call make) (jJ 359) 40 198 (lA (bG 485 (.obj C fl) k mn mx) b) [Bo 0] kN kC kR=if(k== -1)=true then(make 430 [bG 485 (.obj C fl) k mn mx,.int b]).bind λf=>(call 354 [.obj 430 f] []).bind λx=>kR x ((lA (bG 485 (.obj C fl) k mn mx) b))else kN ((lA (bG 485 (.obj C fl) k mn mx) b)):=by kernel_rfl
theorem zw{R:Type}{kN kC:ah->Option R}{kR:AV->ah->Option R}(C:Addr)(fl:List (Str×AV))(k mn mx b:Int):bB ba (hZ call make) (jJ 359) 40 197 (lA (bG 485 (.obj C fl) k mn mx) b) [Bo 1] kN kC kR=if decide (0<k)=true then kN ([("lhs",.fz (bG 485 (.obj C fl) k mn mx)),("b",.fz (.int b)),("sgn",.fz (.int 1))])else kN ([("lhs",.fz (bG 485 (.obj C fl) k mn mx)),("b",.fz (.int b)),("sgn",.fz (.int (-1)))]):=by kernel_rfl
theorem Hp:HU=Bo 0::Bo 1::(HU).drop 2:=by kernel_rfl
theorem Ed(C:Addr)(fl:List (Str×AV))(k mn mx b:Int)(s:Int)(kN:ah->Option AV)(kC:ah->Option AV):bB ba (hZ call make) (jJ 359) 40 196 [("lhs",.fz (bG 485 (.obj C fl) k mn mx)),("b",.fz (.int b)),("sgn",.fz (.int s))] ((HU).drop 2) kN kC (λx _=>some x)=(oP call make .Mult (.obj C fl) (.int s)).bind λv=>(oP call make .FloorDiv (.int (b+(if k<0 then-k else k)-1)) (.int (if k<0 then-k else k))).bind λw=>(make 430 [v,w]).bind λf=>(call 354 [.obj 430 f] []).bind some:=by kernel_rfl
theorem Eb(C:Addr)(fl:List (Str×AV))(k mn mx b:Int):fC call make 359 [bG 485 (.obj C fl) k mn mx,.int b] []=
 if(k== -1)=true then(make 430 [bG 485 (.obj C fl) k mn mx,.int b]).bind λf=>(call 354 [.obj 430 f] []).bind some else
  (oP call make .Mult (.obj C fl) (.int (if 0<k then 1 else-1))).bind λv=>(oP call make .FloorDiv (.int (b+(if k<0 then-k else k)-1)) (.int (if k<0 then-k else k))).bind λw=>(make 430 [v,w]).bind λf=>(call 354 [.obj 430 f] []).bind some:=by
 rw[GD,GC,Hp];refine dF.trans ((GB ..).trans ?_);by_cases c:(k== -1)=true
 . rw[if_pos c,if_pos c]
 . rw[if_neg c,if_neg c];by_cases h:0<k
   . rw[eE ((zw call make C fl k mn mx b).trans (if_pos (decide_eq_true h))),if_pos h];exact Ed call make C fl k mn mx b 1 (λσ=>cS call make 359 2 198 σ) (λ_=>none)
   . rw[eE ((zw call make C fl k mn mx b).trans (if_neg (by simpa using h))),if_neg h];exact Ed call make C fl k mn mx b (-1) (λσ=>cS call make 359 2 198 σ) (λ_=>none)
end
section
variable(call:aI)(make:aH)
theorem Ai(b:Int)(x:AV)(xs:List AV)(r:ah)(hr:r=[]\/∃f,r=[(("x":Str),EV.fz f)]):aU call make 624 0 38 (("b",.fz (.int b))::r) [x] (.l xs)=(if xs.length<=1000 then(oP call make .Mult x (.int b)).bind λv=>some ([("b",.fz (.int b)),("x",.fz x)],.l (xs++[v]))else none:Option (ah×Acc)):=by rcases hr with rfl|⟨f,rfl⟩<;>kernel_rfl
theorem Al(C:Addr)(fl:List (Str×AV))(xs:List AV)(r:ah)(hr:r=[]\/∃i,r=[(("x":Str),EV.fz i)]):aU call make 595 0 38 (r) [(.obj C fl)] (.l xs)=(if xs.length<=1000 then bH (.obj C fl) "vars" λf a=>(call f [a] []).bind λv=>some ([("x",.fz (.obj C fl))],.l (xs++[v]))else none:Option (ah×Acc)):=by rcases hr with rfl|⟨i,rfl⟩<;>kernel_rfl
theorem Ak(x:AV)(xs:List AV)(r:ah)(hr:r=[]\/∃f,r=[(("x":Str),EV.fz f)]):aU call make 619 0 37 (r) [x] (.l xs)=(if xs.length<=1000 then(gA call make x "min").bind λv=>some ([("x",.fz x)],.l (xs++[v]))else none:Option (ah×Acc)):=by rcases hr with rfl|⟨f,rfl⟩<;>kernel_rfl
theorem Aj(x:AV)(xs:List AV)(r:ah)(hr:r=[]\/∃f,r=[(("x":Str),EV.fz f)]):aU call make 619 1 37 (r) [x] (.l xs)=(if xs.length<=1000 then(gA call make x "max").bind λv=>some ([("x",.fz x)],.l (xs++[v]))else none:Option (ah×Acc)):=by rcases hr with rfl|⟨f,rfl⟩<;>kernel_rfl
theorem pH(d:AV)(C:Addr)(fl:List (Str×AV))(xs:List AV)(r:ah)(hr:r=[]\/∃i,r=[(("node":Str),EV.fz i)]):aU call make 642 0 38 (("var_vals",.fz d)::r) [(.obj C fl)] (.l xs)=(if xs.length<=1000 then bH (.obj C fl) "substitute" λf a=>(call f [a,d] []).bind λv=>some ([("var_vals",.fz d),("node",.fz (.obj C fl))],.l (xs++[v]))else none:Option (ah×Acc)):=by rcases hr with rfl|⟨i,rfl⟩<;>kernel_rfl
theorem Hf(b:Int)(x:AV)(xs:List AV)(r:ah)(hr:r=[]\/∃f,r=[(("node":Str),EV.fz f)]):aU call make 637 0 38 (("b",.fz (.int b))::r) [x] (.l xs)=(if xs.length<=1000 then(ba.eJ (iW x) [.ref 338,.ref 485]).bind λq=>if q=true then(oP call make .Mod x (.int b)).bind λv=>some ([("b",.fz (.int b)),("node",.fz x)],.l (xs++[v]))else some ([("b",.fz (.int b)),("node",.fz x)],.l (xs++[x]))else none:Option (ah×Acc)):=by rcases hr with rfl|⟨f,rfl⟩<;>kernel_rfl
theorem He(d:AV)(C:Addr)(fl:List (Str×AV))(xs:List AV)(r:ah)(hr:r=[]\/∃i,r=[(("x":Str),EV.fz i)]):aU call make 647 0 35 (("ctx",.fz d)::r) [(.obj C fl)] (.l xs)=(if xs.length<=1000 then bH (.obj C fl) "render" λf a=>(call f [a,d] []).bind λv=>some ([("ctx",.fz d),("x",.fz (.obj C fl))],.l (xs++[v]))else none:Option (ah×Acc)):=by rcases hr with rfl|⟨i,rfl⟩<;>kernel_rfl
theorem Hd(k:Str)(x:AV)(xs:List (Str×AV))(r:ah)(hr:r=[]\/∃f i,r=[(("k":Str),EV.fz f),(("v":Str),EV.fz i)]):aU call make 671 0 37 (r) [(.str k),x] (.d xs)=(if xs.length<=1000 then(make 338 [x]).bind λfl=>some ([("k",.fz (.str k)),("v",.fz x)],.d (bI xs k (.obj 338 fl)))else none:Option (ah×Acc)):=by rcases hr with rfl|⟨f,i,rfl⟩<;>kernel_rfl
theorem Am(g:Int)(x:AV)(xs:List AV)(r:ah)(hr:r=[]\/∃f,r=[(("mul":Str),EV.fz f)]):aU call make 359 0 37 (("mul_gcd",.fz (.int g))::r) [x] (.l xs)=(if xs.length<=1000 then(oP call make .FloorDiv x (.int g)).bind λv=>some ([("mul_gcd",.fz (.int g)),("mul",.fz x)],.l (xs++[v]))else none:Option (ah×Acc)):=by rcases hr with rfl|⟨f,rfl⟩<;>kernel_rfl
theorem Hh(x:AV)(xs:List AV)(r:ah)(hr:r=[]\/∃f,r=[(("x":Str),EV.fz f)]):aU call make 211 0 40 r [x] (.l xs)=
 ((gA call make x "max").bind λM=>(ib M).bind λq=>if q=true then(if xs.length<=1000 then some ([("x",.fz x)],.l (xs++[x]))else none)else(gA call make x "min").bind λm=>(ib m).bind λq=>if q=true then(if xs.length<=1000 then some ([("x",.fz x)],.l (xs++[x]))else none)else some ([("x",.fz x)],.l xs):Option (ah×Acc)):=by
 rcases hr with rfl|⟨f,rfl⟩<;>kernel_rfl
theorem Hg(m:List (Str×AV))(a:Str)(k:Int)(xs:List AV)(r:ah)(hr:r=[]\/∃f i,r=[(("a":Str),EV.fz f),(("b_sum":Str),EV.fz i)]):aU call make 211 1 40 (("mul_nodes",.fz (.dict m))::r) [.str a,.int k] (.l xs)=
 (if(k !=0)=true then(if xs.length<=1000 then(if(k !=1)=true then(fe m a).bind λx=>(make 485 [x,.int k]).bind λfl=>some ([("mul_nodes",.fz (.dict m)),("a",.fz (.str a)),("b_sum",.fz (.int k))],.l (xs++[.obj 485 fl]))else(fe m a).bind λx=>some ([("mul_nodes",.fz (.dict m)),("a",.fz (.str a)),("b_sum",.fz (.int k))],.l (xs++[x])))else none)else some ([("mul_nodes",.fz (.dict m)),("a",.fz (.str a)),("b_sum",.fz (.int k))],.l xs):Option (ah×Acc)):=by
 rcases hr with rfl|⟨f,i,rfl⟩<;>kernel_rfl
end
section
variable(call:aI)(make:aH)
noncomputable def lR:ah->List AV->Acc->Option (ah×Acc):=m8 ba (L5 652 0) (kA ba (hZ call make) 39 (L5 652 0)) (PM 652 0) 3 1
theorem Ah(x y:AV)(xs:List AV)(r:ah)(hr:r=[]\/∃f,r=[(("y":Str),EV.fz f)]):lR call make (("x",.fz x)::r) [y] (.l xs)=(if xs.length<=1000 then some ([("x",.fz x),("y",.fz y)],.l (xs++[y]))else none:Option (ah×Acc)):=by rcases hr with rfl|⟨f,rfl⟩<;>kernel_rfl
theorem Eo(C:Addr)(u:C=284\/C=338\/C=430\/C=485\/C=526\/C=574)(fl:List (Str×AV))(xs:List AV)(r:ah)(hr:r=[]\/∃f i,r=[(("x":Str),EV.fz f),(("y":Str),EV.fz i)]):aU call make 652 0 39 r [.obj C fl] (.l xs)=aE (lR call make) [[.obj C fl]] (aQ r "x" (.fz (.obj C fl))) (.l xs):=by rcases u with rfl|rfl|rfl|rfl|rfl|rfl<;>rcases hr with rfl|⟨f,i,rfl⟩<;>kernel_rfl
theorem K3(fl:List (Str×AV))(xs:List AV)(r:ah)(hr:r=[]\/∃f i,r=[(("x":Str),EV.fz f),(("y":Str),EV.fz i)]):aU call make 652 0 39 r [.obj 656 fl] (.l xs)=(r8 ba (hZ call make) "flat_components" (.obj 656 fl)).bind λv=>uS v λrows=>aE (lR call make) rows (aQ r "x" (.fz (.obj 656 fl))) (.l xs):=by rcases hr with rfl|⟨f,i,rfl⟩<;>kernel_rfl
end
section
variable(call:aI)(make:aH)
noncomputable abbrev kc(s:AV)(b:Int)(fd rs:List AV)(g d:AV)(r:ah):ah:=("self",.fz s)::("b",.fz (.int b))::("factoring_allowed",.fz (.bool true))::("fully_divided",.ol fd)::("rest",.ol rs)::("_gcd",.fz g)::("divisor",.fz d)::r
theorem Ki(ts:List AV)(mn mx b:Int):fC call make 632 [bZ ts mn mx,.int b] [("factoring_allowed",.bool false)]=(cM call make .Eq (bZ ts mn mx) (.int b)).bind λq=>if q=true then(make 338 [.int 1]).bind λfl=>some (.obj 338 fl)else if(b==1)=true then some (bZ ts mn mx)else(call 192 [bZ ts mn mx,.int b,.bool false] []).bind some:=by kernel_rfl
theorem Kj(ts:List AV)(mn mx b:Int):fC call make 632 [bZ ts mn mx,.int b] []=(cM call make .Eq (bZ ts mn mx) (.int b)).bind λq=>if q=true then(make 338 [.int 1]).bind λfl=>some (.obj 338 fl)else if(b==1)=true then some (bZ ts mn mx)else
 (gA call make (bZ ts mn mx) "flat_components").bind λv=>uS v λrows=>(bU (ay call make 632 1 191) ["x"] rows (kc (bZ ts mn mx) b [] [] (.int b) (.int 1) [])).bind (wu call make 632 9 191):=by kernel_rfl
theorem Jc(s:AV)(b:Int)(fd rs:List AV)(g:AV)(d:AV)(C:Addr)(f:C=284\/C=430\/C=526\/C=574)(fl:List (Str×AV))(r:ah)(hr:r=[]\/∃y,r=[(("div":Str),EV.fz y)]):ay call make 632 1 191 (kc s b fd rs g d (("x",.fz (.obj C fl))::r))=
 (if rs.length<=1000 then some (.next (kc s b fd (rs++[.obj C fl]) (.int 1) d (("x",.fz (.obj C fl))::r)))else none:Option fX):=by
 rcases f with rfl|rfl|rfl|rfl<;>rcases hr with rfl|⟨y,rfl⟩<;>kernel_rfl
theorem Jb(s:AV)(b:Int)(fd rs:List AV)(g d:Int)(C:Addr)(fl:List (Str×AV))(k mn mx:Int)(r:ah)(hr:r=[]\/∃y,r=[(("div":Str),EV.fz y)]):ay call make 632 1 191 (kc s b fd rs (.int g) (.int d) (("x",.fz (bG 485 (.obj C fl) k mn mx))::r))=
 ((oP call make .Mod (.int k) (.int b)).bind λm=>(cM call make .Eq m (.int 0)).bind λq=>if q=true then
  (oP call make .FloorDiv (bG 485 (.obj C fl) k mn mx) (.int b)).bind λv=>(if fd.length<=1000 then some (.next (kc s b (fd++[v]) rs (.int g) (.int d) (("x",.fz (bG 485 (.obj C fl) k mn mx))::r)))else none)
   else if rs.length<=1000 then(call 35 [.int g,.int k] []).bind λz=>
    (if(d==1)=true then(oP call make .Mod (.int b) (.int k)).bind λm=>(cM call make .Eq m (.int 0)).bind λq=>if q=true then some (.next (kc s b fd (rs++[bG 485 (.obj C fl) k mn mx]) z (.int k) (("x",.fz (bG 485 (.obj C fl) k mn mx))::r)))
     else some (.next (kc s b fd (rs++[bG 485 (.obj C fl) k mn mx]) z (.int d) (("x",.fz (bG 485 (.obj C fl) k mn mx))::r)))
     else some (.next (kc s b fd (rs++[bG 485 (.obj C fl) k mn mx]) z (.int d) (("x",.fz (bG 485 (.obj C fl) k mn mx))::r))))else none:Option fX):=by
 rcases hr with rfl|⟨y,rfl⟩<;>kernel_rfl
theorem Ja(s:AV)(b:Int)(fd rs:List AV)(g d:Int)(k:Int):ay call make 632 1 191 (kc s b fd rs (.int g) (.int d) [("x",.fz (aO k))])=
 ((oP call make .Mod (.int k) (.int b)).bind λm=>(cM call make .Eq m (.int 0)).bind λq=>if q=true then
  (oP call make .FloorDiv (aO k) (.int b)).bind λv=>(if fd.length<=1000 then some (.next (kc s b (fd++[v]) rs (.int g) (.int d) [("x",.fz (aO k))]))else none)
   else(oP call make .FloorDiv (.int k) (.int b)).bind λe=>(ib e).bind λq=>if q=true then
    (oP call make .FloorDiv (.int k) (.int b)).bind λf=>(make 338 [f]).bind λhl=>if fd.length<=1000 then(oP call make .Mult (.int b) f).bind λw=>(oP call make .Sub (.int k) w).bind λz=>(make 338 [z]).bind λfl=>if rs.length<=1000 then
     (gA call make (.obj 338 fl) "b").bind λu=>(pb u).bind λq=>if q=true then(gA call make (.obj 338 fl) "b").bind λu=>(call 35 [.int g,u] []).bind λz=>some (.next (kc s b (fd++[.obj 338 hl]) (rs++[.obj 338 fl]) z (.int d) [("x",.fz (.obj 338 fl)),("div",.fz f)]))
      else some (.next (kc s b (fd++[.obj 338 hl]) (rs++[.obj 338 fl]) (.int 1) (.int d) [("x",.fz (.obj 338 fl)),("div",.fz f)]))
     else none else none
   else if rs.length<=1000 then(call 35 [.int g,.int k] []).bind λz=>some (.next (kc s b fd (rs++[aO k]) z (.int d) [("x",.fz (aO k))]))else none:Option fX):=by kernel_rfl
theorem MJ(s:AV)(b:Int)(fd rs:List AV)(g d:Int)(r:ah)(hr:r=[]\/(∃x,r=[(("x":Str),EV.fz x)])\/∃x y,r=[(("x":Str),EV.fz x),(("div":Str),EV.fz y)]):cS call make 632 9 191 (kc s b fd rs (.int g) (.int d) r)=
 if decide (g>1)=true then(call 211 [.list fd] []).bind λu=>(call 211 [.list rs] []).bind λw=>bH w "__floordiv__" λf w=>(call f [w,.int g] []).bind λw=>(oP call make .FloorDiv (.int b) (.int g)).bind λe=>(oP call make .FloorDiv w e).bind λw=>(oP call make .Add u w).bind some
 else if decide (d>1)=true then(call 211 [.list fd] []).bind λu=>(call 211 [.list rs] []).bind λw=>bH w "__floordiv__" λf w=>(call f [w,.int d] []).bind λw=>(oP call make .FloorDiv (.int b) (.int d)).bind λe=>(oP call make .FloorDiv w e).bind λw=>(oP call make .Add u w).bind some
 else(call 211 [.list fd] []).bind λu=>(call 211 [.list rs] []).bind λw=>(call 192 [w,.int b] []).bind λw=>(oP call make .Add u w).bind some:=by
 rcases hr with rfl|⟨x,rfl⟩|⟨x,y,rfl⟩<;>kernel_rfl
end
section
variable(call:aI)(make:aH)
noncomputable abbrev xJ(xs:List AV)(n:AV)(ns rs us:List AV)(r:ah):ah:=("script",.fz (.list xs))::("count",.fz n)::("nodes",.ol ns)::("rows",.ol rs)::("used",.ol us)::r
noncomputable def lx{R:Type}(iv:AV)(xs:List AV)(K:AV->Option R):Option R:=match(vA iv).i with
 |some j=>(bc xs j).bind K
 |none=>b8 iv λ_=>none
theorem GA(xs:List AV)(k:Int):fC call make 685 [.list xs,.int k] []=(fG xs).bind λn=>(cM call make .Lt (.int k) n).bind λq=>if q=true then(bc xs k).bind some else cS call make 685 1 199 [("script",.fz (.list xs)),("k",.fz (.int k))]:=by kernel_rfl
theorem Ea(xs:List AV)(k:Int):cS call make 685 1 199 [("script",.fz (.list xs)),("k",.fz (.int k))]=(ib (.list xs)).bind λq=>if(!q)=true then(oP call make .Mult (.int 7) (.int k)).bind λa=>(oP call make .Add a (.int 3)).bind some else cS call make 685 2 198 [("script",.fz (.list xs)),("k",.fz (.int k))]:=by kernel_rfl
theorem Kf(xs:List AV)(k:Int):cS call make 685 2 198 [("script",.fz (.list xs)),("k",.fz (.int k))]=(fG xs).bind λy=>(oP call make .Mod (.int k) y).bind λf=>lx f xs λa=>(oP call make .Mult (.int 7) (.int k)).bind λb=>(oP call make .Add a b).bind some:=by kernel_rfl
theorem OY(xs:List AV)(n:Int):fC call make 697 [.list xs,.int n] []=(bU (ay call make 697 0 196) ["k"] [[.int 0],[.int 1],[.int 2]] (xJ xs (.int n) [] [] [] [])).bind (wu call make 697 4 196):=by kernel_rfl
end
section
variable(call:aI)(make:aH)
noncomputable abbrev pu(n:Nat)(σ:ah)(l:List Stmt){R:Type}(kN kC:ah->Option R)(kR:AV->ah->Option R):Option R:=bB ba (hZ call make) (jJ 697) 40 n σ l kN kC kR
noncomputable def r0(o:Nat->AV):Nat->ah
 |0=>[]
 |_=>[("span",.fz (o 0)),("low",.fz (o 1)),("first",.fz (o 2)),("second",.fz (o 3)),("row",.fz (o 4))]
noncomputable def r1(o:Nat->AV):Nat->ah
 |0=>[]
 |_=>[("row",.fz (o 4))]
noncomputable def r2(o:Nat->AV):Nat->ah
 |0=>[]
 |_=>[("second",.fz (o 3)),("row",.fz (o 4))]
variable{R:Type}{kN kC:ah->Option R}{kR:AV->ah->Option R}(xs ns rs us:List AV)(n k sp lo fi se:Int)(o:Nat->AV)
noncomputable abbrev mz{A:Type}(f g:Nat->A)(i:Nat):Prop:=f i=g i
theorem n2{A:Type}{f g:Nat->A}(a:mz f g 0)(b:∀n,mz f g (n+1)):∀i,f i=g i
 |0=>a
 |n+1=>b n
noncomputable abbrev s0(ns rs us:List AV)(r:ah):ah:=xJ xs (.int n) ns rs us (("k",.fz (.int k))::r)
noncomputable abbrev s1(sp lo fi se:AV)(r:ah):ah:=("span",.fz sp)::("low",.fz lo)::("first",.fz fi)::("second",.fz se)::r
theorem RY:∀i,pu call make 196 (s0 xs n k ns rs us (r0 o i)) (gx 697 0) kN kC kR=((call 685 [.list xs,.int k] []).bind λa=>(call 692 [a] []).bind λc=>(r7 (.builtin "abs") [c]).bind λsp=>(oP call make .Add (.int 3) (.int k)).bind λq=>(call 685 [.list xs,q] []).bind λa=>(call 692 [a] []).bind λc=>(r7 (.builtin "abs") [c]).bind λlo=>(oP call make .Add (.int 6) (.int k)).bind λq=>(call 685 [.list xs,q] []).bind λa=>(oP call make .Add sp (.int 1)).bind λb=>(oP call make .Mod a b).bind λfi=>pu call make 193 (s0 xs n k ns rs us (("span",.fz sp)::("low",.fz lo)::("first",.fz fi)::r2 o i)) ((gx 697 0).drop 3) kN kC kR:Option R):=by refine n2 ?_ (λn=>?_)<;>kernel_rfl
theorem RW(sp lo fi:AV):∀i,pu call make 193 (s0 xs n k ns rs us (("span",.fz sp)::("low",.fz lo)::("first",.fz fi)::r2 o i)) ((gx 697 0).drop 3) kN kC kR=((oP call make .Add (.int 9) (.int k)).bind λq=>(call 685 [.list xs,q] []).bind λa=>(oP call make .Add sp (.int 1)).bind λb=>(oP call make .Mod a b).bind λse=>(call 678 [] []).bind λv=>d7 v λl=>(bc l k).bind λnm=>(oP call make .Add lo sp).bind λh=>(call 347 [nm,lo,h] []).bind λy=>if ns.length<=1000 then pu call make 191 (s0 xs n k (ns++[y]) rs us (s1 sp lo fi se (r1 o i))) ((gx 697 0).drop 5) kN kC kR else none:Option R):=by refine n2 ?_ (λn=>?_)<;>kernel_rfl
noncomputable abbrev BB:List AV:=(List.replicate 4 (.int (lo+fi))).set (1+k).toNat (.int (lo+se))
noncomputable abbrev Gz(u:List AV)(kN:ah->Option R):Option R:=if us.length<=1000 then kN (s0 xs n k ns (rs++[.list (BB k lo fi se)]) (us++[.list u]) (s1 (.int sp) (.int lo) (.int fi) (.int se) [("row",.fz (.list (BB k lo fi se)))]))else none
theorem RX:∀i,pu call make 191 (s0 xs n k ns rs us (s1 (.int sp) (.int lo) (.int fi) (.int se) (r1 o i))) ((gx 697 0).drop 5) kN kC kR=(if 0<=1+k/\1+k<(List.replicate 4 (AV.int (lo+fi))).length/\(List.replicate 4 (AV.int (lo+fi))).length<=1000 then if rs.length<=1000 then if decide (sp>0)=true then Gz xs ns rs us n k sp lo fi se [.int k] kN else Gz xs ns rs us n k sp lo fi se [] kN else none else none:Option R):=by refine n2 ?_ (λn=>?_)<;>kernel_rfl
end
section
variable(call:aI)(make:aH)
structure Fx where
 (xs ns rs us:List AV)(n k:Int)(o0 o1 o2 o3:AV)
noncomputable abbrev SS(x:Fx)(row:AV)(r:ah):ah:=xJ x.xs (.int x.n) x.ns x.rs x.us (("k",.fz (.int x.k))::("span",.fz x.o0)::("low",.fz x.o1)::("first",.fz x.o2)::("second",.fz x.o3)::("row",.fz row)::r)
noncomputable def R7(z:Nat->AV):Nat->ah
 |0=>[]
 |1=>[("there",.fz (z 0)),("made",.fz (z 2)),("line",.fz (z 3))]
 |2=>[("by",.fz (z 1)),("made",.fz (z 2)),("line",.fz (z 3))]
 |3=>[("there",.fz (z 0)),("made",.fz (z 2)),("line",.fz (z 3)),("by",.fz (z 1))]
 |_=>[("by",.fz (z 1)),("made",.fz (z 2)),("line",.fz (z 3)),("there",.fz (z 0))]
noncomputable def tn(z:Nat->AV):Nat->ah
 |0=>[]
 |i+1=>("number",.fz (z 4))::("kind",.fz (z 5))::("here",.fz (z 6))::("node",.fz (z 7))::("parts",.fz (z 8))::R7 z i
noncomputable abbrev ST(x:Fx)(z:Nat->AV)(i:Nat):ah:=SS x (z 9) (tn z i)
noncomputable def tA(p nu kd he no pa a b c d:AV):Nat->AV
 |0=>a
 |1=>b
 |2=>c
 |3=>d
 |4=>nu
 |5=>kd
 |6=>he
 |7=>no
 |8=>pa
 |_=>p
noncomputable def LY:Nat->Nat
 |0=>1
 |1=>1
 |3=>3
 |_=>4
noncomputable def uZ:Nat->Nat
 |0=>2
 |1=>3
 |2=>2
 |3=>3
 |_=>4
theorem n3{A:Type}{f g:Nat->A}(a:mz f g 0)(b:mz f g 1)(c:∀n,mz f g (n+2)):∀i,f i=g i:=n2 a (n2 (f:=λi=>f (i+1)) (g:=λi=>g (i+1)) b c)
theorem n5{A:Type}{f g:Nat->A}(a:mz f g 0)(b:mz f g 1)(c:mz f g 2)(d:mz f g 3)(e:∀n,mz f g (n+4)):∀i,f i=g i:=n3 a b (n3 (f:=λi=>f (i+2)) (g:=λi=>g (i+2)) c d e)
theorem n6{A:Type}{f g:Nat->A}(a:mz f g 0)(b:mz f g 1)(c:mz f g 2)(d:mz f g 3)(e:mz f g 4)(h:∀n,mz f g (n+5)):∀i,f i=g i:=n2 a (n5 (f:=λi=>f (i+1)) (g:=λi=>g (i+1)) b c d e h)
noncomputable def wT:List Stmt:=(gx 697 1).drop 8
variable{R:Type}{kN kC:ah->Option R}{kR:AV->ah->Option R}
variable(x:Fx)(nu kd he no pa a b c d p:AV)(C:Addr)(fl:List (Str×AV))(rw:List AV)
noncomputable def g8(i:Nat)(ln:List AV)(kN:ah->Option R):Option R:=if x.ns.length<=1000 then if x.rs.length<=1000 then if x.us.length<=1000 then kN (ST ⟨x.xs,x.ns++[c],x.rs++[.list ln],x.us++[pa],x.n,x.k,x.o0,x.o1,x.o2,x.o3⟩ (tA p nu kd he no pa a b c (.list ln)) (i+1))else none else none else none
noncomputable abbrev cp(j:Nat)(rows:List (List AV))(r:ah)(K:List AV->Option R):Option R:=(aE (aU call make 697 j 40) rows r (.l [])).bind λp=>(gO p.2).bind K
theorem hd(u:Nat->AV):∀i,pu call make 195 (ST x u i) (gx 697 1) kN kC kR=((oP call make .Add (.int 12) (.int x.k)).bind λq=>(call 685 [.list x.xs,q] []).bind λz=>(oP call make .Mod z (.int 8)).bind λkd=>(oP call make .FloorDiv z (.int 8)).bind λz=>(fG x.ns).bind λl=>(oP call make .Sub l (.int 1)).bind λe=>(fG x.ns).bind λl=>(oP call make .Mod z l).bind λf=>(oP call make .Sub e f).bind λhe=>(fG x.ns).bind λl=>(oP call make .FloorDiv z l).bind λnu=>lx he x.ns λno=>lx he x.rs λp=>lx he x.us λpa=>pu call make 187 (ST x (tA p nu kd he no pa (u 0) (u 1) (u 2) (u 3)) (i-1+1)) wT kN kC kR:Option R):=by refine n6 ?_ ?_ ?_ ?_ ?_ (λn=>?_)<;>kernel_rfl
theorem b0:∀i,pu call make 187 (ST x (tA (.list rw) nu (.int 0) he (.obj C fl) pa a b c d) (i+1)) wT kN kC kR=((fG x.ns).bind λl=>(oP call make .Sub l (.int 1)).bind λq=>(oP call make .Add nu (.int 1)).bind λz=>(fG x.ns).bind λl=>(oP call make .Mod z l).bind λf=>(oP call make .Sub q f).bind λa=>lx a x.ns λy=>(oP call make .Add (.obj C fl) y).bind λc=>lx a x.rs λy=>d7 y λys=>cp call make 0 (qs rw ys) [("kind",.fz (.int 0))] λu=>lx a x.us λy=>(oP call make .Add pa y).bind λpa=>g8 x nu (.int 0) he (.obj C fl) pa a b c (.list rw) (LY i) u kN:Option R):=by refine n5 ?_ ?_ ?_ ?_ (λn=>?_)<;>kernel_rfl
theorem b1:∀i,pu call make 187 (ST x (tA (.list rw) nu (.int 1) he (.obj C fl) pa a b c d) (i+1)) wT kN kC kR=((fG x.ns).bind λl=>(oP call make .Sub l (.int 1)).bind λq=>(oP call make .Add nu (.int 1)).bind λz=>(fG x.ns).bind λl=>(oP call make .Mod z l).bind λf=>(oP call make .Sub q f).bind λa=>lx a x.ns λy=>(oP call make .Sub (.obj C fl) y).bind λc=>lx a x.rs λy=>d7 y λys=>cp call make 0 (qs rw ys) [("kind",.fz (.int 1))] λu=>lx a x.us λy=>(oP call make .Add pa y).bind λpa=>g8 x nu (.int 1) he (.obj C fl) pa a b c (.list rw) (LY i) u kN:Option R):=by refine n5 ?_ ?_ ?_ ?_ (λn=>?_)<;>kernel_rfl
theorem b2:∀i,pu call make 187 (ST x (tA (.list rw) nu (.int 2) he (.obj C fl) pa a b c d) (i+1)) wT kN kC kR=((call 692 [nu] []).bind λz=>(oP call make .Add z (.int 2)).bind λb=>(oP call make .Mult (.obj C fl) b).bind λc=>cp call make 1 (bf rw) [("by",.fz b)] λf=>g8 x nu (.int 2) he (.obj C fl) pa a b c (.list rw) (uZ i) f kN:Option R):=by refine n5 ?_ ?_ ?_ ?_ (λn=>?_)<;>kernel_rfl
theorem b3:∀i,pu call make 187 (ST x (tA (.list rw) nu (.int 3) he (.obj C fl) pa a b c d) (i+1)) wT kN kC kR=((call 692 [nu] []).bind λz=>(oP call make .Add z (.int 1)).bind λz=>(r7 (.builtin "abs") [z]).bind λz=>(oP call make .Add (.int 1) z).bind λb=>(oP call make .FloorDiv (.obj C fl) b).bind λc=>cp call make 2 (bf rw) [("by",.fz b)] λf=>g8 x nu (.int 3) he (.obj C fl) pa a b c (.list rw) (uZ i) f kN:Option R):=by refine n5 ?_ ?_ ?_ ?_ (λn=>?_)<;>kernel_rfl
theorem b4:∀i,pu call make 187 (ST x (tA (.list rw) nu (.int 4) he (.obj C fl) pa a b c d) (i+1)) wT kN kC kR=((call 692 [nu] []).bind λz=>(oP call make .Add z (.int 1)).bind λz=>(r7 (.builtin "abs") [z]).bind λz=>(oP call make .Add (.int 1) z).bind λb=>(oP call make .Mod (.obj C fl) b).bind λc=>cp call make 3 (bf rw) [("by",.fz b)] λf=>g8 x nu (.int 4) he (.obj C fl) pa a b c (.list rw) (uZ i) f kN:Option R):=by refine n5 ?_ ?_ ?_ ?_ (λn=>?_)<;>kernel_rfl
theorem b5:∀i,pu call make 187 (ST x (tA (.list rw) nu (.int 5) he (.obj C fl) pa a b c d) (i+1)) wT kN kC kR=((call 692 [nu] []).bind λz=>(oP call make .Add z (.int 2)).bind λb=>(oP call make .Add (.obj C fl) b).bind λc=>cp call make 4 (bf rw) [("by",.fz b)] λf=>g8 x nu (.int 5) he (.obj C fl) pa a b c (.list rw) (uZ i) f kN:Option R):=by refine n5 ?_ ?_ ?_ ?_ (λn=>?_)<;>kernel_rfl
theorem b6:∀i,pu call make 187 (ST x (tA (.list rw) nu (.int 6) he (.obj C fl) pa a b c d) (i+1)) wT kN kC kR=((call 692 [nu] []).bind λz=>(oP call make .Add z (.int 2)).bind λb=>(nG call make (.obj C fl)).bind λz=>(oP call make .Add z b).bind λc=>cp call make 5 (bf rw) [("by",.fz b)] λf=>g8 x nu (.int 6) he (.obj C fl) pa a b c (.list rw) (uZ i) f kN:Option R):=by refine n5 ?_ ?_ ?_ ?_ (λn=>?_)<;>kernel_rfl
theorem b7:∀i,pu call make 187 (ST x (tA (.list rw) nu (.int 7) he (.obj C fl) pa a b c d) (i+1)) wT kN kC kR=((bc rw 2).bind λq=>(oP call make .FloorDiv nu (.int 2)).bind λz=>(call 692 [z] []).bind λz=>(oP call make .Add q z).bind λb=>(oP call make .Mod nu (.int 2)).bind λz=>(cM call make .Eq z (.int 0)).bind λq=>if q=true then(call 359 [(.obj C fl),b] []).bind λc=>cp call make 6 (bf rw) [("by",.fz b)] λf=>g8 x nu (.int 7) he (.obj C fl) pa a b c (.list rw) (uZ i) f kN else(call 366 [(.obj C fl),b] []).bind λc=>cp call make 7 (bf rw) [("by",.fz b)] λf=>g8 x nu (.int 7) he (.obj C fl) pa a b c (.list rw) (uZ i) f kN:Option R):=by refine n5 ?_ ?_ ?_ ?_ (λn=>?_)<;>kernel_rfl
end
section
variable(call:aI)(make:aH)
noncomputable def cJ:Nat->AV->AV->Option AV
 |0=>oP call make .Mult
 |1=>oP call make .FloorDiv
 |2=>oP call make .Mod
 |_=>oP call make .Add
theorem PN{j:Nat}(f:j<4)(b:Int)(x:AV)(xs:List AV){σ:ah}(i:σ=[(("by":Str),EV.fz (.int b))]\/∃y,σ=[(("by":Str),EV.fz (.int b)),(("x":Str),EV.fz y)]):aU call make 697 (j+1) 40 σ [x] (.l xs)=(if xs.length<=1000 then(cJ call make j x (.int b)).bind λv=>some ([("by",.fz (.int b)),("x",.fz x)],.l (xs++[v]))else none:Option (ah×Acc)):=by rcases i with rfl|⟨y,rfl⟩<;>apply Nt f<;>kernel_rfl
theorem K1(b:Int)(x:AV)(xs:List AV){σ:ah}(f:σ=[(("by":Str),EV.fz (.int b))]\/∃y,σ=[(("by":Str),EV.fz (.int b)),(("x":Str),EV.fz y)]):aU call make 697 5 40 σ [x] (.l xs)=(if xs.length<=1000 then(oP call make .Sub (.int b) x).bind λv=>some ([("by",.fz (.int b)),("x",.fz x)],.l (xs++[v]))else none:Option (ah×Acc)):=by rcases f with rfl|⟨y,rfl⟩<;>kernel_rfl
noncomputable def cQ:Bool->CmpOp
 |false=> .Lt
 |true=> .GtE
theorem K2(z:Bool)(b:Int)(x:AV)(xs:List AV){σ:ah}(f:σ=[(("by":Str),EV.fz (.int b))]\/∃y,σ=[(("by":Str),EV.fz (.int b)),(("x":Str),EV.fz y)]):aU call make 697 (6+z.toNat) 40 σ [x] (.l xs)=(if xs.length<=1000 then(cM call make (cQ z) x (.int b)).bind λq=>if q=true then some ([("by",.fz (.int b)),("x",.fz x)],.l (xs++[.int 1]))else some ([("by",.fz (.int b)),("x",.fz x)],.l (xs++[.int 0]))else none:Option (ah×Acc)):=by rcases f with rfl|⟨y,rfl⟩<;>cases z<;>kernel_rfl
theorem Hc(b:Int)(x y:AV)(xs:List AV)(r:ah)(hr:r=[]\/∃f i,r=[(("x":Str),EV.fz f),(("y":Str),EV.fz i)]):aU call make 697 0 40 (("kind",.fz (.int b))::r) [x,y] (.l xs)=(if xs.length<=1000 then(cM call make .Eq (.int b) (.int 0)).bind λq=>if q=true then(oP call make .Add x y).bind λv=>some ([("kind",.fz (.int b)),("x",.fz x),("y",.fz y)],.l (xs++[v]))else(oP call make .Sub x y).bind λv=>some ([("kind",.fz (.int b)),("x",.fz x),("y",.fz y)],.l (xs++[v]))else none:Option (ah×Acc)):=by rcases hr with rfl|⟨f,i,rfl⟩<;>kernel_rfl
theorem Kd(x:Fx)(rw:AV):∀m,m<4->cS call make 697 4 196 (SS ⟨x.xs,x.ns,x.rs,x.us,((m+3:Nat):Int),x.k,x.o0,x.o1,x.o2,x.o3⟩ rw [])=(bU (ay call make 697 1 195) ["k"] ((List.range (m+3)).map λ(i:Nat)=>[.int i]) (SS ⟨x.xs,x.ns,x.rs,x.us,((m+3:Nat):Int),x.k,x.o0,x.o1,x.o2,x.o3⟩ rw [])).bind (wu call make 697 5 195):=by intro m f;apply Nt f<;>kernel_rfl
theorem Ke(x:Fx)(z:Nat->AV):∀i,cS call make 697 5 195 (ST x z (i+1))=some (.tup [.list x.ns,.list x.rs,.list x.us]):=by refine n5 ?_ ?_ ?_ ?_ (λn=>?_)<;>kernel_rfl
end
theorem lc{α:Type}{motive:List α->Prop}(l:List α)(h0:motive [])(h1:∀x,motive [x])(h2:∀x y z,motive (x::y::z)):motive l:=match l with
 |[]=>h0
 |[x]=>h1 x
 |x::y::z=>h2 x y z
structure Sem where
 val:(Nat->Int)->Int
 mn:Int
 mx:Int
 ph:Nat
 am:Nat
 vs:Nat->Bool
structure Tm where
 x:AV
 s:Sem
 t:Str
 k:Int
structure Gv where
 lo:Nat->Int
 hi:Nat->Int
noncomputable def XX:Nat:=2^62
noncomputable def Gv.In(g:Gv)(ρ:Nat->Int):Prop:=∀i,g.lo i<=ρ i/\ρ i<=g.hi i
structure Gv.Ok(g:Gv):Prop where
 pos:∀i,0<=g.lo i
 le:∀i,g.lo i<=g.hi i
 sm:∀i,g.hi i<=XX
noncomputable def BP:Nat->Str
 |0=>"a"
 |1=>"b"
 |_=>"c"
noncomputable def wk(k:Int):Nat:=if k=1 then 1 else 2
noncomputable def bC(k:Int):Nat:=if 0<=k then k.natAbs else XX*k.natAbs
noncomputable def dU(t:Tm):Int:=if 0<=t.k then t.s.mn*t.k else t.s.mx*t.k
noncomputable def d9(t:Tm):Int:=if 0<=t.k then t.s.mx*t.k else t.s.mn*t.k
noncomputable def ao(l:List Int):Int:=l.foldr (· + ·) 0
noncomputable def aq(l:List Nat):Nat:=l.foldr (· + ·) 0
noncomputable def nS(ts:List Tm)(r:Int):Sem where
 val ρ:=ao (ts.map λt=>t.s.val ρ*t.k)+r
 mn:=ao (ts.map dU)+r
 mx:=ao (ts.map d9)+r
 ph:=aq (ts.map λt=>wk t.k*t.s.ph)
 am:=aq (ts.map λt=>bC t.k*t.s.am)
 vs j:=ts.any λt=>t.s.vs j
noncomputable def nP(ts:List Tm):Nat:=aq (ts.map λt=>t.s.ph)
noncomputable def md:List Tm->Nat
 |[]=>0
 |[t]=>if t.k=1 then 1 else 0
 |_=>1
noncomputable def mm(ts:List Tm)(r:Int):Nat:=match ts with
 |[]=>0
 |[t]=>if t.k=1\/r≠0 then 1 else 0
 |_=>1
noncomputable def gr(g:Gv)(i:Nat):Sem:=⟨λρ=>ρ i,g.lo i,g.hi i,2,1,λj=>j==i⟩
noncomputable def cL(ts:List Tm)(r c:Int):Sem:=⟨λρ=>(nS ts r).val ρ/c,(nS ts r).mn/c,(nS ts r).mx/c,(nS ts r).ph+md ts,c.natAbs*(nS ts r).am,(nS ts r).vs⟩
noncomputable def eW(ts:List Tm)(r c:Int):Sem:=⟨λρ=>(nS ts r).val ρ%c,0,c-1,(nS ts r).ph+mm ts r,(nS ts r).am,(nS ts r).vs⟩
noncomputable def oD(ts:List Tm)(c:Int):Sem:=⟨λρ=>if(nS ts 0).val ρ<c then 1 else 0,0,1,nP ts+2,(nS ts 0).am,(nS ts 0).vs⟩
noncomputable def bz(t:Tm):AV:=if t.k=1 then t.x else bG 485 t.x t.k (dU t) (d9 t)
noncomputable def m6(t:Tm):Str:=if t.k=1 then t.t else("(":Str)++t.t++("*":Str)++bb t.k++(")":Str)
noncomputable def dQ(ts:List Tm)(r:Int):List AV:=ts.map bz++(if r=0 then[]else[aO r])
noncomputable def rz(ts:List Tm)(r:Int):List Str:=ts.map m6++(if r=0 then[]else[bb r])
noncomputable def nX(ts:List Tm)(r:Int):AV:=match dQ ts r with
 |[]=>aO 0
 |[x]=>x
 |xs=>bZ xs (nS ts r).mn (nS ts r).mx
noncomputable def nT(ts:List Tm)(r:Int):Str:=match rz ts r with
 |[]=>bb 0
 |[x]=>x
 |xs=>("(":Str)++Txt.join ("+":Str) (dn xs)++(")":Str)
noncomputable def dm(g:Gv)(i:Nat):AV:=qv (BP i) (g.lo i) (g.hi i)
noncomputable def aN(g:Gv)(i:Nat):Str:=BP i++("[":Str)++bb (g.lo i)++("-":Str)++bb (g.hi i)++("":Str)++("]":Str)
structure L9(g:Gv)(ts:List Tm)(r:Int):Prop where
 nz:∀t∈ts,t.k≠0
 nd:(ts.map (·.t)).Nodup
 am:(nS ts r).am<=2^800
 vb:r.natAbs<=2^880
class inductive At(g:Gv):AV->Sem->Str->Prop
 |var (i:Nat):i<3->g.lo i<g.hi i->At g (dm g i) (gr g i) (aN g i)
 |div (ts:List Tm) (r c:Int):ts≠[]->L9 g ts r->(∀t∈ts,At g t.x t.s t.t)->2<=c->(cL ts r c).am<=2^800/\r.natAbs<=2^870->0<=(nS ts r).mn->(cL ts r c).mn<(cL ts r c).mx->(cL ts r c).mx<=XX*(cL ts r c).am->
  At g (bG 526 (nX ts r) c (cL ts r c).mn (cL ts r c).mx) (cL ts r c) (("(":Str)++nT ts r++("//":Str)++bb c++(")":Str))
 |mod (ts:List Tm) (r c:Int):ts≠[]->L9 g ts r->(∀t∈ts,At g t.x t.s t.t)->2<=c->c<=XX/\r.natAbs<=2^870->0<=(nS ts r).mn->
  At g (bG 574 (nX ts r) c 0 (c-1)) (eW ts r c) (("(":Str)++nT ts r++("%":Str)++bb c++(")":Str))
 |lt (ts:List Tm) (c:Int):ts≠[]->L9 g ts 0->(∀t∈ts,At g t.x t.s t.t)->(nS ts 0).mn<c->c<=(nS ts 0).mx->
  At g (bG 430 (nX ts 0) c 0 1) (oD ts c) (("(":Str)++nT ts 0++("<":Str)++bb c++(")":Str))
structure Nd(g:Gv)(ts:List Tm)(r:Int):Prop where
 p:L9 g ts r
 a:∀t∈ts,At g t.x t.s t.t
theorem ak(a:Int)(l:List Int):ao (a::l)=a+ao l:=rfl
theorem au(a:Nat)(l:List Nat):aq (a::l)=a+aq l:=rfl
theorem ci(a b:List Int):ao (a++b)=ao a+ao b:=by
 induction a with
 |nil=>simp[ao]
 |cons x a ih=>rw[List.cons_append,ak,ak,ih,Int.add_assoc]
theorem bN(a b:List Nat):aq (a++b)=aq a+aq b:=by
 induction a with
 |nil=>simp[aq]
 |cons x a ih=>rw[List.cons_append,au,au,ih,Nat.add_assoc]
theorem aR{α}{f:α->Nat}{l:List α}{t:α}(h:t∈l):f t<=aq (l.map f):=by
 induction l with
 |nil=>cases h
 |cons a l ih=>
  rw[List.map_cons,au];rcases List.mem_cons.mp h with rfl|h
  . lia
  . have:=ih h;(clear h;lia)
theorem bM{α}{f g:α->Nat}{l:List α}(h:∀t∈l,f t<=g t):aq (l.map f)<=aq (l.map g):=by
 induction l with
 |nil=>exact Nat.le_refl _
 |cons a l ih=>rw[List.map_cons,List.map_cons,au,au];have:=h a List.mem_cons_self;have:=ih λt ht=>h t (List.mem_cons_of_mem _ ht);lia
theorem je{α}{f g:α->Int}{l:List α}(h:∀t∈l,f t<=g t):ao (l.map f)<=ao (l.map g):=by
 induction l with
 |nil=>exact Int.le_refl _
 |cons a l ih=>rw[List.map_cons,List.map_cons,ak,ak];have:=h a List.mem_cons_self;have:=ih λt ht=>h t (List.mem_cons_of_mem _ ht);lia
theorem B9{α}{f g:α->Int}{l:List α}(hl:l≠[])(h:∀t∈l,f t<g t):ao (l.map f)<ao (l.map g):=by
 induction l using List.casesOn with
 |nil=>exact absurd rfl hl
 |cons a l=>rw[List.map_cons,List.map_cons,ak,ak];have:=h a List.mem_cons_self;have:=je (f:=f) (g:=g) (l:=l) λt ht=>Int.le_of_lt (h t (List.mem_cons_of_mem _ ht));lia
noncomputable abbrev aF(k:Nat):aI:=(Aa k).call
noncomputable abbrev aV(k:Nat):aH:=(Aa k).make
noncomputable def Ev(d:Nat)(f:Addr)(xs:List AV)(kx:List (Str×AV))(r:AV):Prop:=∀k,d<=k->aF k f xs kx=some r
noncomputable def Mk(d:Nat)(C:Addr)(xs:List AV)(fl:List (Str×AV)):Prop:=∀k,d<=k->aV k C xs=some fl
noncomputable def Op(d:Nat)(o:Operator)(x y z:AV):Prop:=∀k,d<=k->oP (aF k) (aV k) o x y=some z
noncomputable def Ga(d:Nat)(x:AV)(nm:Str)(z:AV):Prop:=∀k,d<=k->gA (aF k) (aV k) x nm=some z
theorem Ev.mono{d d' f xs kx r}(h:Ev d f xs kx r)(hd:d<=d'):Ev d' f xs kx r:=λk i=>h k (Nat.le_trans hd i)
theorem Op.mono{d d' o x y z}(h:Op d o x y z)(hd:d<=d'):Op d' o x y z:=λk f=>h k (Nat.le_trans hd f)
theorem z9{k:Nat}(h:2<=k):Aa k=hZ (aF k) (aV k):=by obtain⟨k,rfl⟩:=Fm (n:=k) (by omega);rfl
theorem Ag{f xs kx r}{k:Nat}(u:2<=k)(i:f≠35/\f≠78)(h:fC (aF k) (aV k) f xs kx=some r):aF (k+1) f xs kx=some r:=by
 have e:aF (k+1) f xs kx=match E9 (Aa k) f xs kx with
  |some r=>some r
  |none=>callC ba (gE) (Aa k) f xs kx:=rfl
 have z:E9 (Aa k) f xs kx=none:=by unfold E9;rw[if_neg i.1,if_neg i.2,ite_self]
 rw[e,z];exact z9 u▸h
theorem aw{d f xs kx r}(hd:2<=d)(i:f≠35/\f≠78)(h:∀k,d<=k->fC (aF k) (aV k) f xs kx=some r):Ev (d+1) f xs kx r:=λk u=>by obtain⟨k,rfl⟩:=dW (n:=k) (by(clear hd;lia));exact Ag (by lia) i (h k (by lia))
theorem mw{d C xs fl}(hd:2<=d)(h:∀k,d<=k->gC (aF k) (aV k) C xs=some fl):Mk (d+2) C xs fl:=λk f=>by obtain⟨k,rfl⟩:=Fm (n:=k) (by(clear hd;lia));have e:aV (k+2) C xs=rh ba (gE) (Aa k) C xs:=rfl;rw[e];exact z9 (k:=k) (by lia)▸h k (by lia)
section
variable{g:Gv}{x:AV}{s:Sem}{t:Str}{ts:List Tm}{r:Int}
structure SB(s:Sem):Prop where
 mn:0<=s.mn
 lt:s.mn<s.mx
 mx:s.mx<=(XX*s.am:Nat)
 am:1<=s.am
 ph:2<=s.ph
theorem fj(k:Int):1<=wk k:=by unfold wk;split<;>decide
theorem mX(k:Int):wk k<=2:=by unfold wk;split<;>decide
theorem fb{k:Int}(h:k≠0):1<=bC k:=by
 have p:=Int.natAbs_pos.mpr h;unfold bC;split
 . exact p
 . exact Nat.le_trans p (Nat.le_mul_of_pos_left _ (by decide))
theorem cz(hn:ts≠[])(nz:∀t∈ts,t.k≠0)(h:∀t∈ts,SB t.s):1<=(nS ts r).am:=by
 induction ts using List.casesOn with
 |nil=>exact absurd rfl hn
 |cons a l=>have i:bC a.k*a.s.am<=(nS (a::l) r).am:=aR (f:=λt:Tm=>bC t.k*t.s.am) List.mem_cons_self;have:=Nat.mul_le_mul (fb (nz a List.mem_cons_self)) (h a List.mem_cons_self).am;lia
theorem ca(hn:ts≠[])(h:∀t∈ts,SB t.s):2<=(nS ts r).ph:=by
 induction ts using List.casesOn with
 |nil=>exact absurd rfl hn
 |cons a l=>have i:wk a.k*a.s.ph<=(nS (a::l) r).ph:=aR (f:=λt:Tm=>wk t.k*t.s.ph) List.mem_cons_self;have:=Nat.mul_le_mul (fj a.k) (h a List.mem_cons_self).ph;lia
theorem At.sb(f:g.Ok)(h:At g x s t):SB s:=by
 induction h with
 |var i hi hl=>refine⟨f.pos i,hl,?_,Nat.le_refl _,Nat.le_refl _⟩;have:=f.sm i;simpa[gr]using this
 |div ts r c hn hp ha hc jS iT ie sE ih=>
  have a1:=cz (r:=r) hn hp.nz ih;have p1:=ca (r:=r) hn ih;refine⟨Int.ediv_nonneg iT (by lia),ie,by exact_mod_cast sE,?_,?_⟩
  . show 1<=c.natAbs*(nS ts r).am;exact Nat.mul_le_mul (Int.natAbs_pos.mpr (Int.ne_of_gt (Int.lt_of_lt_of_le (by decide) hc))) a1
  . show 2<=(nS ts r).ph+md ts;lia
 |mod ts r c hn hp ha hc nv iT ih=>have a1:=cz (r:=r) hn hp.nz ih;have p1:=ca (r:=r) hn ih;refine⟨Int.le_refl _,Int.sub_pos_of_lt (Int.lt_of_lt_of_le (by decide) hc),?_,a1,show 2<=(nS ts r).ph+mm ts r by lia⟩;show c-1<=((XX*(nS ts r).am:Nat):Int);exact Int.le_trans (Int.sub_le_self c (by decide)) (Int.le_trans nv.1 (Int.ofNat_le.mpr (Nat.le_mul_of_pos_right _ a1)))
 |lt ts c hn hp ha h1 h2 ih=>have a1:=cz (r:=0) hn hp.nz ih;refine⟨Int.le_refl _,Int.zero_lt_one,?_,a1,show 2<=nP ts+2 by lia⟩;show 1<=((XX*(nS ts 0).am:Nat):Int);exact Int.ofNat_le.mpr (Nat.mul_le_mul (by decide:1<=XX) a1)
end
set_option tactic.hygienic true
section
variable{g:Gv}{x:AV}{s:Sem}{t:Str}{ts:List Tm}{r:Int}{ρ:Nat->Int}
noncomputable def Bn(s:Sem)(ρ:Nat->Int):Prop:=s.mn<=s.val ρ/\s.val ρ<=s.mx
theorem xo{t:Tm}(h:Bn t.s ρ):dU t<=t.s.val ρ*t.k/\t.s.val ρ*t.k<=d9 t:=by
 unfold dU d9;split
 . rename_i q;exact⟨Int.mul_le_mul_of_nonneg_right h.1 q,Int.mul_le_mul_of_nonneg_right h.2 q⟩
 . rename_i q;have q:t.k<=0:=by lia
   exact⟨Int.mul_le_mul_of_nonpos_right h.2 q,Int.mul_le_mul_of_nonpos_right h.1 q⟩
theorem IQ(h:∀t∈ts,Bn t.s ρ):Bn (nS ts r) ρ:=by have h1:=je (f:=dU) (g:=λt:Tm=>t.s.val ρ*t.k) (l:=ts) λt ht=>(xo (h t ht)).1;have h2:=je (f:=λt:Tm=>t.s.val ρ*t.k) (g:=d9) (l:=ts) λt ht=>(xo (h t ht)).2;exact⟨show ao (ts.map dU)+r<=ao (ts.map λt=>t.s.val ρ*t.k)+r by lia,show ao (ts.map λt=>t.s.val ρ*t.k)+r<=ao (ts.map d9)+r by lia⟩
theorem rg(hn:ts≠[])(nz:∀t∈ts,t.k≠0)(h:∀t∈ts,SB t.s):(nS ts r).mn<(nS ts r).mx:=by
 have h1:=B9 (f:=dU) (g:=d9) (l:=ts) hn λt ht=>by
  have hl:=(h t ht).lt;have i:=nz t ht;unfold dU d9;split
  . exact Int.mul_lt_mul_of_pos_right hl (by lia)
  . exact Int.mul_lt_mul_of_neg_right hl (by(clear i;lia))
 show ao (ts.map dU)+r<ao (ts.map d9)+r;lia
theorem At.bn(f:g.Ok)(h:At g x s t)(hr:g.In ρ):Bn s ρ:=by
 induction h with
 |var i hi hl=>exact hr i
 |div ts r c hn hp ha hc jS iT ie sE ih=>have b:=IQ (r:=r) ih;exact⟨Int.ediv_le_ediv (by exact Int.le_of_lt hc) b.1,Int.ediv_le_ediv (by lia) b.2⟩
 |mod ts r c hn hp ha hc nv iT ih=>exact⟨Int.emod_nonneg _ (by lia),show(nS ts r).val ρ%c<=c-1 by have:=Int.emod_lt_of_pos ((nS ts r).val ρ) (show 0<c by lia);(clear nv hc;lia)⟩
 |lt ts c hn hp ha h1 h2 ih=>show(0:Int)<=(if(nS ts 0).val ρ<c then 1 else 0)/\(if(nS ts 0).val ρ<c then 1 else 0)<=(1:Int);split<;>decide
theorem Nd.bn(f:g.Ok)(h:Nd g ts r)(hr:g.In ρ):Bn (nS ts r) ρ:=IQ λt ht=>(h.a t ht).bn f hr
theorem Nd.lt(f:g.Ok)(h:Nd g ts r)(hn:ts≠[]):(nS ts r).mn<(nS ts r).mx:=rg hn h.p.nz λt ht=>(h.a t ht).sb f
noncomputable def P7(s:Sem):Prop:=∀ρ mH:Nat->Int,(∀i,s.vs i=true->ρ i=mH i)->s.val ρ=s.val mH
theorem oV(h:∀t∈ts,P7 t.s):P7 (nS ts r):=λρ f e=>by
 have:∀l:List Tm,(∀t∈l,t∈ts)->ao (l.map λt=>t.s.val ρ*t.k)=ao (l.map λt=>t.s.val f*t.k):=by
  intro l hl
  induction l with
  |nil=>rfl
  |cons a l ih=>rw[List.map_cons,List.map_cons,ak,ak,ih λt ht=>hl t (List.mem_cons_of_mem _ ht)];have u:=hl a List.mem_cons_self;rw[h a u ρ f λi hi=>e i (List.any_eq_true.mpr ⟨a,u,hi⟩)]
 show ao _+r=ao _+r;rw[this ts λt ht=>ht]
theorem At.dep(h:At g x s t):P7 s:=by
 induction h with
 |var i hi hl=>exact λρ f e=>e i (by simp[gr])
 |div ts r c hn hp ha hc jS iT ie sE ih=>exact λρ f e=>by show _/c=_/c;rw[oV ih ρ f e]
 |mod ts r c hn hp ha hc nv iT ih=>exact λρ f e=>by show _%c=_%c;rw[oV ih ρ f e]
 |lt ts c hn hp ha h1 h2 ih=>exact λρ f e=>by show(if _<c then(1:Int)else 0)=if _<c then 1 else 0;rw[oV ih ρ f e]
noncomputable def Vr(g:Gv)(s:Sem):Prop:=(∀i,s.vs i=true->i<3/\g.lo i<g.hi i)/\∃i,s.vs i=true
theorem yr(hn:ts≠[])(h:∀t∈ts,Vr g t.s):Vr g (nS ts r):=by
 refine⟨λi hi=>?_,?_⟩
 . refine ab (List.any_eq_true.mp hi) λt ht e=>?_;exact(h t ht).1 i e
 . induction ts using List.casesOn with
   |nil=>exact absurd rfl hn
   |cons a l=>refine ax ((h a List.mem_cons_self).2) λi hi=>?_;exact⟨i,List.any_eq_true.mpr ⟨a,List.mem_cons_self,hi⟩⟩
theorem At.vr(h:At g x s t):Vr g s:=by
 induction h with
 |var i hi hl=>exact⟨λj f=>by(have:j=i:=by simpa[gr]using f);subst this;exact⟨hi,hl⟩,i,by simp[gr]⟩
 |div ts r c hn hp ha hc jS iT ie sE ih=>exact yr (r:=r) hn ih
 |mod ts r c hn hp ha hc nv iT ih=>exact yr (r:=r) hn ih
 |lt ts c hn hp ha h1 h2 ih=>exact yr (r:=0) hn ih
end
set_option tactic.hygienic false
set_option tactic.hygienic true
section
section
variable(call:aI)(make:aH)
theorem Go(e:Str)(lo hi:Int):gA call make (qv e lo hi) "min"=some (.int lo)/\gA call make (qv e lo hi) "max"=some (.int hi):=⟨by kernel_rfl,by kernel_rfl⟩
theorem tQ(c:Int):gA call make (aO c) "min"=some (.int c)/\gA call make (aO c) "max"=some (.int c):=⟨by kernel_rfl,by kernel_rfl⟩
theorem Gp(xs:List AV)(mn mx:Int):gA call make (bZ xs mn mx) "min"=some (.int mn)/\gA call make (bZ xs mn mx) "max"=some (.int mx):=⟨by kernel_rfl,by kernel_rfl⟩
theorem Gu(a:AV)(b mn mx:Int):gA call make (bG 430 a b mn mx) "min"=some (.int mn)/\gA call make (bG 430 a b mn mx) "max"=some (.int mx):=⟨by kernel_rfl,by kernel_rfl⟩
theorem Gs(a:AV)(b mn mx:Int):gA call make (bG 485 a b mn mx) "min"=some (.int mn)/\gA call make (bG 485 a b mn mx) "max"=some (.int mx):=⟨by kernel_rfl,by kernel_rfl⟩
theorem Gr(a:AV)(b mn mx:Int):gA call make (bG 526 a b mn mx) "min"=some (.int mn)/\gA call make (bG 526 a b mn mx) "max"=some (.int mx):=⟨by kernel_rfl,by kernel_rfl⟩
theorem Gq(a:AV)(b mn mx:Int):gA call make (bG 574 a b mn mx) "min"=some (.int mn)/\gA call make (bG 574 a b mn mx) "max"=some (.int mx):=⟨by kernel_rfl,by kernel_rfl⟩
end
variable{g:Gv}{x:AV}{s:Sem}{t:Str}{ts:List Tm}{r:Int}
noncomputable def Bd(x:AV)(mn mx:Int):Prop:=∀call make,gA call make x "min"=some (.int mn)/\gA call make x "max"=some (.int mx)
noncomputable def HY(C:Addr):Prop:=C=284\/C=430\/C=526\/C=574
theorem At.obj(h:At g x s t):∃C fl,x= .obj C fl/\HY C:=by
 induction h with
 |var i hi hl=>exact jn _ _ rfl (.inl rfl)
 |div=>exact jn _ _ rfl (.inr (.inr (.inl rfl)))
 |mod=>exact jn _ _ rfl (.inr (.inr (.inr rfl)))
 |lt=>exact jn _ _ rfl (.inr (.inl rfl))
theorem At.bd(h:At g x s t):Bd x s.mn s.mx:=λcall make=>by
 induction h with
 |var i hi hl=>exact Go ..
 |div=>exact Gr ..
 |mod=>exact Gq ..
 |lt=>exact Gu ..
theorem xm{t:Tm}(h:At g t.x t.s t.t):Bd (bz t) (dU t) (d9 t):=by
 unfold bz;split
 . rename_i q;have:=h.bd;unfold dU d9;rw[q];simpa using this
 . exact λcall make=>Gs ..
theorem lH(h:∀t∈ts,At g t.x t.s t.t):Bd (nX ts r) (nS ts r).mn (nS ts r).mx:=by
 unfold nX
 induction q:dQ ts r using lc with
 |h0=>
  unfold dQ at q;refine af (List.append_eq_nil_iff.mp q) λq1 q2=>?_;have q1:=List.map_eq_nil_iff.mp q1;subst q1;have:r=0:=Classical.byContradiction λz=>by rw[if_neg z]at q2;injection q2
  subst this;exact λcall make=>tQ ..
 |h1 x=>
  unfold dQ at q;by_cases hr:r=0
  . rw[if_pos hr,List.append_nil]at q;refine ab (List.map_eq_singleton_iff.mp q) λt f i=>?_;subst f;subst i;subst hr;have:=xm (h t List.mem_cons_self);simpa[nS,ao]using this
  . rw[if_neg hr]at q;have:ts=[]:=by
     induction ts using List.casesOn with
     |nil=>rfl
     |cons a l=>simp at q
    subst this;simp at q;subst q;intro call make;have:=tQ call make r;simpa[nS,ao]using this
 |h2 x y l=>exact λcall make=>Gp ..
end
set_option tactic.hygienic false
section
variable{g:Gv}{x:AV}{s:Sem}{t:Str}{ts:List Tm}{r:Int}
theorem EB(n:Nat)(e:Str)(lo hi:Int):mC (n+1) (qv e lo hi)=some (e++("[":Str)++bb lo++("-":Str)++bb hi++("":Str)++("]":Str)):=by kernel_rfl
theorem xi(n:Nat)(c:Int):mC (n+1) (aO c)=some (bb c):=by kernel_rfl
theorem EG(n:Nat)(a:AV)(b mn mx:Int):mC (n+1) (bG 430 a b mn mx)=(mC n a).map λt=>("(":Str)++t++("<":Str)++bb b++(")":Str):=by kernel_rfl
theorem EF(n:Nat)(a:AV)(b mn mx:Int):mC (n+1) (bG 485 a b mn mx)=(mC n a).map λt=>("(":Str)++t++("*":Str)++bb b++(")":Str):=by kernel_rfl
theorem EE(n:Nat)(a:AV)(b mn mx:Int):mC (n+1) (bG 526 a b mn mx)=(mC n a).map λt=>("(":Str)++t++("//":Str)++bb b++(")":Str):=by kernel_rfl
theorem ED(n:Nat)(a:AV)(b mn mx:Int):mC (n+1) (bG 574 a b mn mx)=(mC n a).map λt=>("(":Str)++t++("%":Str)++bb b++(")":Str):=by kernel_rfl
theorem EC(n:Nat)(xs:List AV)(mn mx:Int):mC (n+1) (bZ xs mn mx)=(xs.mapM (mC n)).map λts=>("(":Str)++Txt.join ("+":Str) (dn ts)++(")":Str):=by kernel_rfl
noncomputable def L8(x:AV)(s:Sem)(t:Str):Prop:=∀n,2*s.ph<=n+3->mC n x=some t
theorem A5{t:Tm}(f:2<=t.s.ph)(h:L8 t.x t.s t.t){n:Nat}(hn:2*(wk t.k*t.s.ph)<=n+3\/2*t.s.ph<=n+2):mC n (bz t)=some (m6 t):=by
 unfold bz m6;by_cases q:t.k=1
 . rw[if_pos q,if_pos q];refine h n ?_;rw[q]at hn;exact hn.elim (λh=>Nat.one_mul t.s.ph▸h) λh=>Nat.le_succ_of_le h
 . rw[if_neg q,if_neg q];have:wk t.k=2:=if_neg q;rw[this]at hn;obtain⟨m,rfl⟩:=dW (n:=n) (by lia);rw[EF,h m (by(clear f;lia))];rfl
theorem jN{α β}{f:α->Option β}{k:α->β}:∀{l:List α},(∀a∈l,f a=some (k a))->l.mapM f=some (l.map k)
 |[],_=>rfl
 |a::l,h=>by rw[List.mapM_cons,h a List.mem_cons_self,jN λb hb=>h b (List.mem_cons_of_mem _ hb)];rfl
theorem yy{α β}{f:α->Option β}{l1 l2:List α}{r1 r2:List β}(h1:l1.mapM f=some r1)(h2:l2.mapM f=some r2):(l1++l2).mapM f=some (r1++r2):=by rw[List.mapM_append,h1,h2];rfl
theorem qy(i:∀t∈ts,2<=t.s.ph)(h:∀t∈ts,L8 t.x t.s t.t){n:Nat}(hn:∀t∈ts,2*(wk t.k*t.s.ph)<=n+3\/2*t.s.ph<=n+2)(h1:1<=n):(dQ ts r).mapM (mC n)=some (rz ts r):=by
 unfold dQ rz;refine yy ?_ ?_
 . rw[List.mapM_map];exact jN λt ht=>A5 (i t ht) (h t ht) (hn t ht)
 . obtain⟨m,rfl⟩:=dW (n:=n) (by lia);split
   . rfl
   . exact jN (f:=mC (m+1)) (k:=λ_=>bb r) (l:=[aO r]) λa u=>by rw[List.mem_singleton.mp u,xi]
theorem om(u:∀t∈ts,2<=t.s.ph)(h:∀t∈ts,L8 t.x t.s t.t){n:Nat}(hn:2*(nS ts r).ph<=n+2\/2*nP ts<=n+1)(h1:2<=n):mC n (nX ts r)=some (nT ts r):=by
 obtain⟨m,rfl⟩:=dW (n:=n) (Nat.le_of_lt h1);have B:∀t∈ts,2*(wk t.k*t.s.ph)<=m+3\/2*t.s.ph<=m+2:=λt ht=>by have F:wk t.k*t.s.ph<=(nS ts r).ph:=aR (f:=λt:Tm=>wk t.k*t.s.ph) ht;have G:t.s.ph<=nP ts:=aR (f:=λt:Tm=>t.s.ph) ht;exact hn.imp (λh=>Nat.le_trans (Nat.mul_le_mul_left 2 F) h) λh=>Nat.le_trans (Nat.mul_le_mul_left 2 G) h
 have I:=qy (r:=r) u h B (by lia);have i:=qy (n:=m+1) (r:=r) u h (λt ht=>(B t ht).imp Nat.le_succ_of_le Nat.le_succ_of_le) (by exact Nat.le_of_lt h1);unfold nX nT;have hl:(dQ ts r).length=(rz ts r).length:=by unfold dQ rz;split<;>simp
 generalize dQ ts r=xs at*
 generalize rz ts r=ys at*
 rcases xs with _|⟨x,_|⟨x',xs⟩⟩<;>rcases ys with _|⟨y,_|⟨y',ys⟩⟩<;>try (injection hl;done)
 . exact xi ..
 . simp only[List.mapM_cons,List.mapM_nil]at i
   induction e:mC (m+1) x with
   |none=>rw[e]at i;injection i
   |some z=>rw[e]at i;cases i;first|exact e|rfl
 . exact absurd (Nat.succ.inj hl) (by simp)
 . exact absurd (Nat.succ.inj hl) (by simp)
 . show mC (m+1) (bZ (x::x'::xs) _ _)=some _;rw[EC,I];rfl
end
section
variable{g:Gv}{x:AV}{s:Sem}{t:Str}{ts:List Tm}{r:Int}
theorem dC:nP ts<=(nS ts r).ph:=bM λt _=>by exact Nat.le_mul_of_pos_left _ (fj t.k)
theorem i0(hn:ts≠[])(f:∀t∈ts,2<=t.s.ph):nP ts+1<=(nS ts r).ph+md ts:=by
 induction ts using List.casesOn with
 |nil=>exact absurd rfl hn
 |cons a l=>
  induction l using List.casesOn with
  |nil=>have:=f a List.mem_cons_self;show(a.s.ph+0)+1<=(wk a.k*a.s.ph+0)+(if a.k=1 then 1 else 0);unfold wk;split<;>lia
  |cons b l=>have:nP (a::b::l)<=(nS (a::b::l) r).ph:=dC;lia
theorem uP(hn:ts≠[])(u:∀t∈ts,2<=t.s.ph){m:Nat}(h:md ts<=m){n:Nat}(i:2*((nS ts r).ph+m)<=n+1+3):(2*(nS ts r).ph<=n+2\/2*nP ts<=n+1)/\2<=n:=by
 have h1:=i0 (r:=r) hn u;have h2:nP ts<=(nS ts r).ph:=dC;have f:2<=nP ts:=by
  induction ts using List.casesOn with
  |nil=>exact absurd rfl hn
  |cons a l=>have:=u a List.mem_cons_self;show 2<=a.s.ph+_;lia
 induction m using Nat.casesAuxOn with
 |zero=>
  have z:md ts=0:=by lia
  induction ts using List.casesOn with
  |nil=>exact absurd rfl hn
  |cons a l=>
   induction l using List.casesOn with
   |nil=>
    have iN:a.k≠1:=λq=>by simp[md,q]at z
    have F:(nS [a] r).ph=2*a.s.ph:=by simp[nS,aq,wk,iN]
    have G:nP [a]=a.s.ph:=by simp[nP,aq]
    rw[G]at f⊢;rw[F]at i;have B:2*a.s.ph<=n:=Nat.le_of_add_le_add_right (b:=4) (Nat.le_trans (Nat.add_le_add_left (Nat.mul_le_mul_left 2 f) _) (by rw[<-Nat.two_mul];exact i));exact⟨.inr (Nat.le_succ_of_le B),Nat.le_trans (by decide) (Nat.le_trans (Nat.mul_le_mul_left 2 f) B)⟩
   |cons b l=>simp[md]at z
 |succ m=>have k:2*(nS ts r).ph+2<=n+4:=Nat.le_trans (Nat.mul_le_mul_left 2 (Nat.add_le_add_left (Nat.le_add_left 1 m) _)) i;exact⟨.inl (Nat.le_of_add_le_add_right k),Nat.le_of_add_le_add_right (b:=4) (Nat.le_trans (Nat.add_le_add_right (Nat.mul_le_mul_left 2 (Nat.le_trans f h2)) 2) k)⟩
theorem ki(ts r):md ts<=mm ts r:=by
 refine lc (motive:=λts=>md ts<=mm ts r) ts (Nat.le_refl _) (λt=>?_) λ_ _ _=>Nat.le_refl _;show(if t.k=1 then 1 else 0)<=if t.k=1\/r≠0 then 1 else 0
 by_cases q:t.k=1
 . rw[if_pos q,if_pos (.inl q)];exact Nat.le_refl _
 . rw[if_neg q];exact Nat.zero_le _
theorem At.tx(z:g.Ok)(h:At g x s t):L8 x s t:=by
 have u:∀{ts:List Tm},(∀t∈ts,At g t.x t.s t.t)->∀t∈ts,2<=t.s.ph:=λf t ht=>((f t ht).sb z).ph
 induction h with
 |var i hi hl=>intro n hn;obtain⟨m,rfl⟩:=dW (n:=n) (by have e:(gr g i).ph=2:=rfl;lia);exact EB ..
 |div ts r c hn hp f hc jS iT ie sE ih=>intro n B;have e:(cL ts r c).ph=(nS ts r).ph+md ts:=rfl;have:=ca (r:=r) hn λt ht=>(f t ht).sb z;obtain⟨m,rfl⟩:=dW (n:=n) (by lia);refine af (uP (r:=r) hn (u f) (Nat.le_refl _) (n:=m) (by assumption)) λl1 l2=>?_;rw[EE,om (u f) ih l1 l2];rfl
 |mod ts r c hn hp f hc nv iT ih=>intro n B;have e:(eW ts r c).ph=(nS ts r).ph+mm ts r:=rfl;have:=ca (r:=r) hn λt ht=>(f t ht).sb z;obtain⟨m,rfl⟩:=dW (n:=n) (by lia);refine af (uP (r:=r) hn (u f) (ki ts r) (n:=m) (by assumption)) λl1 l2=>?_;rw[ED,om (u f) ih l1 l2];rfl
 |lt ts c hn hp f h1 h2 ih=>
  intro n B;have e:(oD ts c).ph=nP ts+2:=rfl;obtain⟨m,rfl⟩:=dW (n:=n) (by lia);have F:2<=nP ts:=by
   induction ts using List.casesOn with
   |nil=>exact absurd rfl hn
   |cons a l=>have:=u f a List.mem_cons_self;show 2<=a.s.ph+_;lia
  rw[EG,om (u f) ih (.inr (by lia)) (by lia)];rfl
end
theorem xz{i:Int}(h:i.natAbs<10^280):(bb i).length<=281:=by unfold bb;rw[PyProof.Rows.ofString_len];exact int_text_length_le10 (by decide) h
theorem kS(f:Str)(l:List Str):Txt.join f l=Str.join f l:=by have:=join_plain_closes f l;simpa using this
theorem lJ(f:Str)(i:f.length=1):∀l:List Str,(Str.join f l).length<=aq (l.map λt=>t.length+1)
 |[]=>Nat.zero_le _
 |[x]=>by show x.length<=x.length+1+0;lia
 |x::y::l=>by rw[strLen_append,strLen_append,i,List.map_cons,au];have:=lJ f i (y::l);lia
theorem fy{l1 l2:List Nat}(h:l1.Perm l2):aq l1=aq l2:=by
 induction h with
 |nil=>rfl
 |cons a _ ih=>rw[au,au,ih]
 |swap a b l=>rw[au,au,au,au];lia
 |trans _ _ h1 h2=>rw[h1,h2]
section
variable{g:Gv}{x:AV}{s:Sem}{t:Str}{ts:List Tm}{r:Int}{ρ:Nat->Int}
theorem jb(k:Int):k.natAbs<=bC k:=by unfold bC XX;split<;>lia
theorem pW{x y:Int}{A B C:Nat}(h:(x-y).natAbs<=A)(h':y.natAbs<=B)(f:A+B<=C):x.natAbs<=C:=by have:=Int.natAbs_add_le (x-y) y;rw[Int.sub_add_cancel]at this;exact Nat.le_trans this (Nat.le_trans (Nat.add_le_add h h') f)
theorem xj{x y:Int}{A B C:Nat}(h:(x-y).natAbs<=A)(h':x.natAbs<=B)(f:A+B<=C):y.natAbs<=C:=
 pW (x:=y) (y:=x) (by rw[<-Int.natAbs_neg,Int.neg_sub];exact h) h' f
theorem PO{x y z:Int}{K:Nat}(h1:x<=z)(h2:z<=y)(hx:x.natAbs<=K)(hy:y.natAbs<=K):z.natAbs<=K:=FI.mpr ⟨Int.le_trans (FI.mp hx).1 h1,Int.le_trans h2 (FI.mp hy).2⟩
theorem tC{b:Int}{K:Nat}(h:b.natAbs<=K):b<=(K:Int):=Int.le_trans Int.le_natAbs (Int.ofNat_le.mpr h)
theorem i5{x b:Int}{K:Nat}(h0:0<=x)(h1:x<=b)(hb:b<=K):x.natAbs<=K:=FI.mpr ⟨Int.le_trans (Int.neg_nonpos_of_nonneg (Int.natCast_nonneg K)) h0,Int.le_trans h1 hb⟩
theorem Co{x y:Int}{B C:Nat}(h0:0<=x)(h:2*x<=y)(hy:y.natAbs<=C)(f:C<=2*B):x.natAbs<=B:=i5 h0 (Int.le_of_mul_le_mul_left (Int.le_trans h (Int.le_trans (FI.mp hy).2 (Int.ofNat_le.mpr f))) (by decide:(0:Int)<2)) (Int.le_refl _)
theorem zT{x b:Int}(hb:2<=b):2*(x/b).natAbs<=x.natAbs+2:=by
 refine ax (Int.eq_ofNat_of_zero_le (Int.le_trans (by decide) hb)) λm h=>?_;rw[h]at hb⊢;have k:∀n:Nat,2*(n/m)<=n:=λn=>Nat.le_trans (Nat.mul_le_mul_right _ (Int.ofNat_le.mp hb)) (Nat.mul_div_le n m)
 induction m using Nat.casesOn with
 |zero=>exact absurd hb (by decide)
 |succ m=>
  induction x using Int.casesOn with
  |ofNat n=>exact Nat.le_trans (k n) (Nat.le_add_right n 2)
  |negSucc n=>exact Nat.add_le_add_right (Nat.le_trans (k n) (Nat.le_succ n)) 2
theorem rA{α}{f:α->Int}{w:α->Nat}{l:List α}(h:∀t∈l,(f t).natAbs<=w t):(ao (l.map f)).natAbs<=aq (l.map w):=by
 induction l with
 |nil=>exact Nat.le_refl _
 |cons a l ih=>rw[List.map_cons,List.map_cons,ak,au];exact Nat.le_trans (Int.natAbs_add_le ..) (Nat.add_le_add (h a List.mem_cons_self) (ih λt ht=>h t (List.mem_cons_of_mem _ ht)))
theorem cF{α}(c:Nat){f:α->Nat}{l:List α}:aq (l.map λt=>c*f t)=c*aq (l.map f):=by
 induction l with
 |nil=>rfl
 |cons a l ih=>rw[List.map_cons,List.map_cons,au,au,ih,Nat.mul_add]
theorem eF{t:Tm}(b:SB t.s){v:Int}(h0:0<=v)(h1:v<=t.s.mx):(v*t.k).natAbs<=XX*(bC t.k*t.s.am):=by rw[Int.natAbs_mul];have f:=Nat.mul_le_mul (i5 h0 h1 b.mx) (jb t.k);rw[Nat.mul_assoc,Nat.mul_comm t.s.am]at f;exact f
theorem iJ(h:∀t∈ts,SB t.s):((nS ts r).mn-r).natAbs<=XX*(nS ts r).am/\((nS ts r).mx-r).natAbs<=XX*(nS ts r).am/\((∀t∈ts,Bn t.s ρ)->((nS ts r).val ρ-r).natAbs<=XX*(nS ts r).am):=by
 have key:∀f:Tm->Int,(∀t∈ts,(f t).natAbs<=XX*(bC t.k*t.s.am))->(ao (ts.map f)+r-r).natAbs<=XX*(nS ts r).am:=λf hf=>by rw[((cF XX).symm)];have:=rA hf;rw[(by lia:ao (ts.map f)+r-r=ao (ts.map f))];exact this
 refine⟨key dU λt ht=>?_,key d9 λt ht=>?_,λhb=>key (λt=>t.s.val ρ*t.k) λt ht=>?_⟩
 . have b:=h t ht;unfold dU;split
   . exact eF b b.mn (Int.le_of_lt b.lt)
   . exact eF b (Int.le_trans b.mn (Int.le_of_lt b.lt)) (Int.le_refl _)
 . have b:=h t ht;unfold d9;split
   . exact eF b (Int.le_trans b.mn (Int.le_of_lt b.lt)) (Int.le_refl _)
   . exact eF b b.mn (Int.le_of_lt b.lt)
 . have b:=h t ht;exact eF b (Int.le_trans b.mn (hb t ht).1) (hb t ht).2
end
section
variable{g:Gv}{x:AV}{s:Sem}{t:Str}{ts:List Tm}{r:Int}{ρ:Nat->Int}
theorem Gv.Ok.cX(f:g.Ok):g.In g.lo:=λi=>⟨Int.le_refl _,f.le i⟩
theorem gP{n:Nat}(h:n<=2^800):XX*n<=2^862:=by
 have e:(2:Nat)^862=XX*2^800:=by unfold XX;rw[<-Nat.pow_add]
 rw[e];exact Nat.mul_le_mul_left _ h
theorem Nd.fv(i:g.Ok)(h:Nd g ts r):r.natAbs<=2^881/\(nS ts r).mn.natAbs<=2^882/\(nS ts r).mx.natAbs<=2^882/\∀t∈ts,t.k.natAbs<=2^800:=by
 have hx:=gP h.p.am;refine dh (iJ (r:=r) (ρ:=g.lo) λt ht=>(h.a t ht).sb i) λa1 z _=>?_;have v:=h.p.vb;have c:(2:Nat)^862+2^880<=2^882:=by decide
 refine⟨Nat.le_trans v (by decide),pW (Nat.le_trans a1 hx) v c,pW (Nat.le_trans z hx) v c,λt ht=>?_⟩;have u:=Nat.mul_le_mul (jb t.k) ((h.a t ht).sb i).am;rw[Nat.mul_one]at u;exact Nat.le_trans u (Nat.le_trans (aR (f:=λt:Tm=>bC t.k*t.s.am) ht) h.p.am)
theorem fS(f:g.Ok)(i:∀t∈ts,At g t.x t.s t.t)(am:(nS ts r).am<=2^800)(hr:g.In ρ):((nS ts r).val ρ-r).natAbs<=2^862:=by refine dh (iJ (r:=r) (ρ:=ρ) λt ht=>(i t ht).sb f) λ_ _ u=>?_;exact Nat.le_trans (u λt ht=>(i t ht).bn f hr) (gP am)
theorem oR(f:g.Ok)(i:∀t∈ts,At g t.x t.s t.t)(am:(nS ts r).am<=2^800)(hv:((nS ts r).val g.lo).natAbs<=2^879+2^863):r.natAbs<=2^880:=by exact xj (fS f i am f.cX) hv (by decide)
end
set_option tactic.hygienic true
section
variable{g:Gv}{x:AV}{s:Sem}{t:Str}{ts:List Tm}{r:Int}{ρ:Nat->Int}
theorem MT:(2:Nat)^882<10^280:=by decide
theorem dc{i:Int}{n:Nat}(h:i.natAbs<=2^n)(hn:n<=882):(bb i).length<=281:=by refine xz ?_;have:=MT;have:(2:Nat)^n<=2^882:=Nat.pow_le_pow_right (by decide) hn;lia
theorem l1(s:String):(s:Str).length=s.length:=PyProof.Rows.ofString_len s
theorem jL(B:g.Ok)(h:Nd g ts r)(hn:ts≠[])(hl:∀t∈ts,t.t.length+1000<=1000*t.s.ph):(nT ts r).length+430<=1000*nP ts:=by
 refine eM (h.fv B) λF J N G=>?_;have i:∀t∈ts,(m6 t).length+1+714<=1000*t.s.ph:=λt ht=>by
  have e:=hl t ht;have u:=dc (G t ht) (by decide);unfold m6;split
  . lia
  . simp only[strLen_append,l1];have a1:"(".length=1:=rfl;have O:"*".length=1:=rfl;have H:")".length=1:=rfl;lia
 have hi:aq ((rz ts r).map λt=>t.length+1)+714<=1000*nP ts+282:=by
  unfold rz nP;rw[List.map_append,bN,List.map_map];have I:aq (ts.map ((λt=>t.length+1)∘m6))+714<=1000*aq (ts.map λt=>t.s.ph):=by
   rw[<-cF]
   induction ts using List.casesOn with
   |nil=>exact absurd rfl hn
   |cons a l=>
    rw[List.map_cons,List.map_cons,au,au];have:=i a List.mem_cons_self;have:=bM (f:=(λt:Str=>t.length+1)∘m6) (g:=λt:Tm=>1000*t.s.ph) (l:=l) λt ht=>by have:=i t (List.mem_cons_of_mem _ ht);show(m6 t).length+1<=_;lia
    show(m6 a).length+1+_+714<=_;lia
  have u:aq ((if r=0 then[]else[bb r]).map λt:Str=>t.length+1)<=282:=by
   have:=dc F (by decide);split
   . exact Nat.zero_le _
   . show(bb r).length+1+0<=282;lia
  lia
 unfold nT
 induction q:rz ts r using lc with
 |h0=>unfold rz at q;refine af (List.append_eq_nil_iff.mp q) λq1 _=>?_;exact absurd (List.map_eq_nil_iff.mp q1) hn
 |h1 z=>rw[q]at hi;have:aq ([z].map λt:Str=>t.length+1)=z.length+1:=rfl;lia
 |h2 x y l=>show(("(":Str)++Txt.join ("+":Str) (dn (x::y::l))++(")":Str)).length+430<=_;rw[<-q];have I:=lJ ("+":Str) (l1 "+") (dn (rz ts r));have u:aq ((dn (rz ts r)).map λt=>t.length+1)=aq ((rz ts r).map λt=>t.length+1):=fy ((fQ _).map _);simp only[strLen_append,l1,kS];have a1:"(".length=1:=rfl;have H:")".length=1:=rfl;lia
end
set_option tactic.hygienic false
section
variable{g:Gv}{x:AV}{s:Sem}{t:Str}{ts:List Tm}{r:Int}{ρ:Nat->Int}
theorem yh(i:Nat):(BP i).length=1:=by
 match i with
 |0=>exact l1 "a"
 |1=>exact l1 "b"
 |_+2=>exact l1 "c"
theorem At.len(f:g.Ok)(h:At g x s t):t.length+1000<=1000*s.ph:=by
 have hx:XX=2^62:=rfl;have a1:"(".length=1:=rfl;have J:"//".length=2:=rfl;have N:")".length=1:=rfl;have O:"%".length=1:=rfl;have P:"<".length=1:=rfl;have Q:"[".length=1:=rfl;have U:"-".length=1:=rfl;have W:"]".length=1:=rfl;have X:"".length=0:=rfl;have z:∀{ts:List Tm},(∀t∈ts,At g t.x t.s t.t)->∀t∈ts,2<=t.s.ph:=λu t ht=>((u t ht).sb f).ph
 induction h with
 |var i hi hl=>have Y:=dc (i:=g.lo i) (n:=62) (by have:=f.pos i;have:=f.le i;have:=f.sm i;(clear hl;lia)) (by decide);have B:=dc (i:=g.hi i) (n:=62) (by have:=f.pos i;have:=f.le i;have:=f.sm i;(clear hl;lia)) (by lia);show(aN g i).length+1000<=1000*2;unfold aN;simp only[strLen_append,l1,yh];lia
 |div ts r c hn hp u hc jS iT ie sE ih=>
  have e:=jL f ⟨hp,u⟩ hn ih;have B:=i0 (r:=r) hn (z u);have F:(cL ts r c).ph=(nS ts r).ph+md ts:=rfl;have G:=dc (i:=c) (n:=800) (by
   have:(cL ts r c).am=c.natAbs*(nS ts r).am:=rfl;have:=Nat.mul_le_mul_left c.natAbs (cz (r:=r) hn hp.nz λt ht=>(u t ht).sb f);lia) (by decide)
  simp only[strLen_append,l1];lia
 |mod ts r c hn hp u hc nv iT ih=>have e:=jL f ⟨hp,u⟩ hn ih;have B:=i0 (r:=r) hn (z u);have Z:=ki ts r;have F:(eW ts r c).ph=(nS ts r).ph+mm ts r:=rfl;have G:=dc (i:=c) (n:=62) (by lia) (by lia);simp only[strLen_append,l1];lia
 |lt ts c hn hp u h1 h2 ih=>have e:=jL f ⟨hp,u⟩ hn ih;refine eM ((Nd.mk hp u).fv f) λz1 H I z4=>?_;have F:(oD ts c).ph=nP ts+2:=rfl;have G:=dc (i:=c) (n:=882) (PO (Int.le_of_lt h1) h2 H I) (by decide);simp only[strLen_append,l1];lia
end
section
variable(call:aI)(make:aH)
theorem MP(e:Str)(lo hi:Int)(f:AV):fC call make 57 [qv e lo hi,f] []=(call 281 [qv e lo hi,f] []).bind some:=by kernel_rfl
theorem MO(c:Int)(f:AV):fC call make 57 [aO c,f] []=(call 335 [aO c,f] []).bind some:=by kernel_rfl
theorem MH(xs:List AV)(mn mx:Int)(f:AV):fC call make 57 [bZ xs mn mx,f] []=if(mn !=mx)=true then(call 647 [bZ xs mn mx,f] []).bind some else none:=by kernel_rfl
theorem MN(a:AV)(b mn mx:Int)(f:AV):fC call make 57 [bG 430 a b mn mx,f] []=if(mn !=mx)=true then(call 427 [bG 430 a b mn mx,f] []).bind some else none:=by kernel_rfl
theorem MM(a:AV)(b mn mx:Int)(f:AV):fC call make 57 [bG 485 a b mn mx,f] []=if(mn !=mx)=true then(call 482 [bG 485 a b mn mx,f] []).bind some else none:=by kernel_rfl
theorem ML(a:AV)(b mn mx:Int)(f:AV):fC call make 57 [bG 526 a b mn mx,f] []=if(mn !=mx)=true then(call 523 [bG 526 a b mn mx,f] []).bind some else none:=by kernel_rfl
theorem MK(a:AV)(b mn mx:Int)(f:AV):fC call make 57 [bG 574 a b mn mx,f] []=if(mn !=mx)=true then(call 571 [bG 574 a b mn mx,f] []).bind some else none:=by kernel_rfl
end
section
variable{g:Gv}{x:AV}{s:Sem}{t:Str}{ts:List Tm}{r:Int}{ρ:Nat->Int}{call:aI}{make:aH}
theorem fZ{a b:Str}(h:a.length+b.length<=1000000):oP call make .Add (.str a) (.str b)=some (.str (a++b)):=by show(if Operator.Add=Operator.Add/\a.length+b.length<=1000000 then some (AV.str (a++b))else none)=_;rw[if_pos ⟨rfl,h⟩]
theorem qS{i:Int}{n:Nat}(h:i.natAbs<=2^n)(hn:n<1900):Sm i=true:=by refine decide_eq_true ?_;have:=Nat.pow_lt_pow_right (a:=2) (by decide) hn;lia
noncomputable abbrev j3:AV:= .str "DEBUG"
theorem Ej{b:Int}(h:Sm b=true)(f:AV):Ev 3 666 [.int b,f] [] (.str (bb b)):=aw (by decide) (by decide) λk _=>by rw[O4,if_pos h]
theorem KI{b:Int}(h:Sm b=true)(f:AV):Ev 3 335 [aO b,f] [] (.str (bb b)):=aw (by decide) (by decide) λk _=>by rw[Pq,if_pos h]
theorem KJ{e:Str}{lo hi:Int}(he:e.length<=100)(hl:lo.natAbs<=2^800)(f:hi.natAbs<=2^800):Ev 3 281 [qv e lo hi,j3] [] (.str (e++("[":Str)++bb lo++("-":Str)++bb hi++("":Str)++("]":Str))):=aw (by decide) (by decide) λk _=>by
 have i:=dc hl (by decide);have u:=dc f (by lia);have z:"[".length=1:=rfl;have B:"-".length=1:=rfl;have F:"]".length=1:=rfl;have G:"".length=0:=rfl;rw[Pu,fZ (by rw[l1];lia),Option.bind_some,if_pos (qS hl (by decide)),fZ (by simp only[strLen_append,l1];lia),Option.bind_some,fZ (by simp only[strLen_append,l1];lia),Option.bind_some,
  if_pos (qS f (by lia)),fZ (by simp only[strLen_append,l1];lia),Option.bind_some,fZ (by simp only[strLen_append,l1];lia),Option.bind_some,fZ (by simp only[strLen_append,l1];lia),Option.bind_some]
end
set_option tactic.hygienic true
section
variable{g:Gv}{x:AV}{s:Sem}{t:Str}{ts:List Tm}{r:Int}{ρ:Nat->Int}{call:aI}{make:aH}
noncomputable def ue(C:Addr):Prop:=C=284\/C=338\/C=430\/C=485\/C=526\/C=574\/C=656
theorem bl{R:Type}{C:Addr}{fl:List (Str×AV)}{nm:Str}{f:Addr}{k:Addr->AV->Option R}(h:ba.cZ C nm=some f):bH (.obj C fl) nm k=k f (.obj C fl):=by show((ba.cZ C nm).bind λf=>k f (.obj C fl))=_;rw[h,Option.bind_some]
theorem fA{C:Addr}(h:ue C):ba.cZ C "render"=some 57:=by rcases h with rfl|rfl|rfl|rfl|rfl|rfl|rfl<;>kernel_rfl
theorem HY.nd{C:Addr}(h:HY C):ue C:=by
 rcases h with rfl|rfl|rfl|rfl
 . exact .inl rfl
 . exact .inr (.inr (.inl rfl))
 . exact .inr (.inr (.inr (.inr (.inl rfl))))
 . exact .inr (.inr (.inr (.inr (.inr (.inl rfl)))))
theorem oq{t:Tm}(h:At g t.x t.s t.t):∃C fl,bz t= .obj C fl/\ue C/\C≠338/\C≠656:=by
 unfold bz;split
 . refine aP h.obj λC fl e f=>?_;refine zR C fl e f.nd ?_ ?_<;>rcases f with rfl|rfl|rfl|rfl<;>decide
 . exact zR _ _ rfl (.inr (.inr (.inr (.inl rfl)))) (by decide) (by decide)
theorem bx(h:∀t∈ts,At g t.x t.s t.t):∃C fl,nX ts r= .obj C fl/\ue C:=by
 unfold nX
 induction q:dQ ts r using lc with
 |h0=>exact jn _ _ rfl (.inr (.inl rfl))
 |h1 x=>
  have hx:x∈dQ ts r:=by rw[q];exact List.mem_singleton.mpr rfl
  unfold dQ at hx;refine Or.elim (List.mem_append.mp hx) (λhx=>?_) λhx=>?_
  . refine ab (List.mem_map.mp hx) λt ht f=>?_;subst f;refine cP (oq (h t ht)) λC fl e i _=>?_;exact jn C fl e i
  . split at hx
    . cases hx
    . rw[List.mem_singleton.mp hx];exact jn _ _ rfl (.inr (.inl rfl))
 |h2=>exact jn _ _ rfl (.inr (.inr (.inr (.inr (.inr (.inr rfl))))))
end
set_option tactic.hygienic false
section
variable{g:Gv}{x:AV}{s:Sem}{t:Str}{ts:List Tm}{r:Int}{ρ:Nat->Int}{call:aI}{make:aH}
theorem fM{α}{step:ah->List AV->Acc->Option (ah×Acc)}{I:ah->Prop}{x:α->AV}{f:α->List AV}:∀(l:List α)(acc:List AV)(σ:ah),I σ->(∀a∈l,∀σ,I σ->∀acc:List AV,acc.length+(f a).length<=1000->∃σ',I σ'/\step σ [x a] (.l acc)=some (σ',.l (acc++f a)))->acc.length+(l.map λa=>(f a).length).sum<=1000->
 ∃σ',I σ'/\aE step (bf (l.map x)) σ (.l acc)=some (σ',.l (acc++l.flatMap f))
 |[],acc,σ,bJ,_,_=>⟨σ,bJ,by simp[aE]⟩
 |a::l,acc,σ,bJ,H,hl=>by simp only[List.map_cons,List.sum_cons]at hl;refine ab (H a List.mem_cons_self σ bJ acc (by lia)) λi h1 e=>?_;refine ab (fM l (acc++f a) i h1 (λb hb=>H b (List.mem_cons_of_mem _ hb)) (by simp only[List.length_append];lia)) λσ' h2 u=>?_;refine ag σ' h2 ?_;simp only[bf,List.map_cons,aE,e,Option.bind_some];rw[List.flatMap_cons,<-List.append_assoc];exact u
theorem c7{α}{step:ah->List AV->Acc->Option (ah×Acc)}{σ0:ah}{sh:AV->ah}{x f:α->AV}(l:List α)(H:∀a∈l,∀σ,(σ=σ0\/∃y,σ=sh y)->∀acc:List AV,acc.length<=1000->step σ [x a] (.l acc)=some (sh (x a),.l (acc++[f a])))(hl:l.length<=1000):
 ∃σ',aE step (bf (l.map x)) σ0 (.l [])=some (σ',.l (l.map f)):=by
 have i:∀l:List α,(l.map λa=>[f a].length).sum=l.length/\l.flatMap (λa=>[f a])=l.map f:=λl=>by
  induction l with
  |nil=>exact⟨rfl,rfl⟩
  |cons a l ih=>rw[List.map_cons,List.sum_cons,ih.1,List.flatMap_cons,ih.2];exact⟨by simp only[List.length_cons,List.length_nil];lia,rfl⟩
 refine ab (fM (I:=λσ=>σ=σ0\/∃y,σ=sh y) (f:=λa=>[f a]) l [] σ0 (.inl rfl) (λa u σ z acc h=>⟨_,.inr ⟨_,rfl⟩,H a u σ z acc (by exact Nat.le_of_lt h)⟩) (by rw[(i l).1];simpa using hl)) λσ' _ e=>?_;refine⟨σ',?_⟩;rw[e,List.nil_append,(i l).2]
theorem fK{α β}{body:ah->Option fX}{nm:List Str}{R:β->ah->Prop}{x:α->AV}{f:β->α->β}{b0:β}(l:List α)(H:∀i a u,l=i++a::u->∀σ,R (i.foldl f b0) σ->∃σ',body (aX σ nm [x a])=some (.next σ')/\R (f (i.foldl f b0) a) σ'){σ0:ah}(h0:R b0 σ0):∃σ',bU body nm (bf (l.map x)) σ0=some (.next σ')/\R (l.foldl f b0) σ':=by
 have:∀u i,l=i++u->∀σ,R (i.foldl f b0) σ->∃σ',bU body nm (bf (u.map x)) σ=some (.next σ')/\R (l.foldl f b0) σ':=λu=>by
  induction u with
  |nil=>intro i e σ h;rw[List.append_nil]at e;subst e;exact ag σ rfl h
  |cons a u ih=>intro i e σ h;refine ab (H i a u e σ h) λz B h1=>?_;refine ab (ih (i++[a]) (by simp[e]) z (by simpa using h1)) λF G h2=>?_;refine ag F ?_ h2;simp only[bf,List.map_cons,bU,B];exact G
 exact this l [] rfl σ0 h0
end
section
variable{g:Gv}{x:AV}{s:Sem}{t:Str}{ts:List Tm}{r:Int}{ρ:Nat->Int}{call:aI}{make:aH}{n:Nat}
theorem jC(l:List Str):fu (l.map .str)=some l:=r9 (f:=E6) (g:= .str) (λ_=>rfl) l
theorem jP(l:List Int):gD (l.map .int)=some l:=r9 (f:=F9) (g:= .int) (λ_=>rfl) l
noncomputable def Rn(n:Nat)(x:AV)(t:Str):Prop:=∀k,2*n+1<=k->fC (aF k) (aV k) 57 [x,j3] []=some (.str t)
theorem Rn.ev(h:Rn n x t)(hn:1<=n):Ev (2*n+2) 57 [x,j3] [] (.str t):=aw (by lia) (by decide) h
theorem oM{t o b:Str}(h:t.length+o.length+b.length+2<=1000000):((oP call make .Add (.str "(") (.str t)).bind λf=>(oP call make .Add f (.str o)).bind λi=>(oP call make .Add i (.str b)).bind λu=>(oP call make .Add u (.str ")")).bind some)=some (.str (("(":Str)++t++o++b++(")":Str))):=by have a1:"(".length=1:=rfl;have z:")".length=1:=rfl;refine bE (fZ (by rw[l1];lia)) ?_;refine bE (fZ (by simp only[strLen_append,l1];lia)) ?_;refine bE (fZ (by simp only[strLen_append,l1];lia)) ?_;exact bE (fZ (by simp only[strLen_append,l1];lia)) rfl
theorem uA{a:AV}{C:Addr}{fl}(F:a= .obj C fl)(f:ue C)(i:Rn n a t)(hn:1<=n){b mn mx:Int}(hb:b.natAbs<=2^882)(hl:t.length<=900000)(G:mn≠mx):
 Rn (n+1) (bG 430 a b mn mx) (("(":Str)++t++("<":Str)++bb b++(")":Str))/\Rn (n+1) (bG 526 a b mn mx) (("(":Str)++t++("//":Str)++bb b++(")":Str))/\Rn (n+1) (bG 574 a b mn mx) (("(":Str)++t++("%":Str)++bb b++(")":Str))/\(HY C->Rn (n+1) (bG 485 a b mn mx) (("(":Str)++t++("*":Str)++bb b++(")":Str))):=by
 have sb:=qS hb (by decide);have I:=dc hb (by decide);have h:∀o:Str,o.length<=2->t.length+o.length+(bb b).length+2<=1000000:=λo J=>by lia
 have u:(mn !=mx)=true:=by simpa using G
 subst F;refine⟨λk z=>?_,λk z=>?_,λk z=>?_,λH k z=>?_⟩
 . rw[MN,if_pos u,aw (d:=2*n+2) (r:= .str (("(":Str)++t++("<":Str)++bb b++(")":Str))) (by lia) (by decide) (λj B=>by
    rw[Pl,bl (fA f),i.ev hn j (by assumption),Option.bind_some,<-oM (h _ (by rw[l1];decide)),Ej sb j3 j (by lia)];rfl) k (by assumption)];rfl
 . rw[ML,if_pos u,aw (d:=2*n+2) (r:= .str (("(":Str)++t++("//":Str)++bb b++(")":Str))) (by lia) (by decide) (λj B=>by
    rw[Pd,bl (fA f),i.ev hn j (by lia),Option.bind_some,<-oM (call:=aF j) (make:=aV j) (h _ (by rw[l1];decide))];simp only[if_pos sb]) k (by lia)];rfl
 . rw[MK,if_pos u,aw (d:=2*n+2) (r:= .str (("(":Str)++t++("%":Str)++bb b++(")":Str))) (by lia) (by decide) (λj B=>by
    rw[Pb,bl (fA f),i.ev hn j (by lia),Option.bind_some,<-oM (call:=aF j) (make:=aV j) (h _ (by rw[l1];decide))];simp only[if_pos sb]) k (by lia)];rfl
 . have hi:∃q,ba.isin (.ref C) (.ref 284)=some q:=by
    rcases H with rfl|rfl|rfl|rfl
    . exact⟨true,by kernel_rfl⟩
    all_goals exact ⟨false,by kernel_rfl⟩
   refine ax hi λq hi=>?_;rw[MM,if_pos u,aw (d:=2*n+2) (r:= .str (("(":Str)++t++("*":Str)++bb b++(")":Str))) (by lia) (by decide) (λj B=>by
    rw[Pg,hi,Option.bind_some,ite_self,bl (fA f),i.ev hn j (by lia),Option.bind_some,<-oM (h _ (by rw[l1];decide)),Ej sb j3 j (by lia)];rfl) k (by lia)];rfl
noncomputable def wj(ts:List Tm)(r:Int):List (AV×Str):=ts.map (λt=>(bz t,m6 t))++(if r=0 then[]else[(aO r,bb r)])
theorem Jm:(wj ts r).map (·.1)=dQ ts r:=by unfold wj dQ;split<;>simp
theorem Jn:(wj ts r).map (·.2)=rz ts r:=by unfold wj rz;split<;>simp
theorem Fk{l:List (AV×Str)}(hl:l.length<64)(h:∀p∈l,(∃C fl,p.1= .obj C fl/\ue C)/\Rn n p.1 p.2)(hn:1<=n)(F:aq (l.map λp=>p.2.length+1)<=900000){mn mx:Int}(G:mn≠mx):
 Rn (n+1) (bZ (l.map (·.1)) mn mx) (("(":Str)++Txt.join ("+":Str) (dn (l.map (·.2)))++(")":Str)):=λk Q=>by
 have H:(mn !=mx)=true:=by simpa using G
 have i:=fQ (l.map (·.2));have U:aq ((dn (l.map (·.2))).map λt=>t.length+1)<=900000:=by rw[fy (i.map _),List.map_map];exact F
 have W:=lJ ("+":Str) (l1 "+") (dn (l.map (·.2)));have I:(dn (l.map (·.2))).length=l.length:=by rw[i.length_eq,List.length_map]
 have u:∀l:List Str,(l.map (·.length)).sum<=aq (l.map λt=>t.length+1):=λl=>by
  induction l with
  |nil=>exact Nat.le_refl _
  |cons a l ih=>rw[List.map_cons,List.map_cons,List.sum_cons,au];lia
 have u:=u (dn (l.map (·.2)));have a1:"(".length=1:=rfl;have X:")".length=1:=rfl;have Y:"+".length=1:=rfl;rw[MH,if_pos H,aw (d:=2*n+2) (r:= .str (("(":Str)++Txt.join ("+":Str) (dn (l.map (·.2)))++(")":Str))) (by lia) (by decide) (λj Z=>by
  obtain⟨σ',e⟩:=c7 (step:=aU (aF j) (aV j) 647 0 35) (σ0:=[("ctx",.fz j3)]) (sh:=λy=>[("ctx",.fz j3),("x",.fz y)]) (x:=λp:AV×Str=>p.1) (f:=λp=> .str p.2) l (λp J σ N acc z=>by
   refine af (h p J) λO hr=>?_;refine aP O λC fl e B=>?_;have hr:=hr.ev hn j (by assumption);rw[e]at hr⊢;have c:=He (aF j) (aV j) j3 C fl acc;rcases N with rfl|⟨y,rfl⟩
   . rw[c [] (.inl rfl),if_pos z,bl (fA B),hr];rfl
   . rw[c [("x",.fz y)] (.inr ⟨y,rfl⟩),if_pos z,bl (fA B),hr];rfl) (by lia)
  rw[O5,e];show((if(l.map λp=>AV.str p.2).length<64 then _ else none:Option AV)).bind _=_;rw[if_pos (by rw[List.length_map];exact hl)];have P:l.map (λp=>AV.str p.2)=(l.map (·.2)).map .str:=by rw[List.map_map];rfl
  rw[P,jC];show(fu ((dn (l.map (·.2))).map .str)).bind _=_;rw[jC,Option.bind_some,if_pos (by rw[I,l1];lia),fZ (by rw[kS];simp only[l1];lia),Option.bind_some,fZ (by rw[kS];simp only[strLen_append,l1];lia),Option.bind_some]) k (by assumption)]
 rfl
end
section
variable{g:Gv}{x:AV}{s:Sem}{t:Str}{ts:List Tm}{r:Int}{ρ:Nat->Int}{call:aI}{make:aH}{n:Nat}
theorem xN{c:Int}(h:c.natAbs<=2^882)(hn:1<=n):Rn n (aO c) (bb c):=λk f=>by rw[MO,KI (qS h (by decide)) j3 k (by lia)];rfl
theorem i8(f:∀t∈ts,2<=t.s.ph):2*ts.length<=nP ts:=by
 induction ts with
 |nil=>exact Nat.zero_le _
 |cons a l ih=>have:=f a List.mem_cons_self;have:=ih λt ht=>f t (List.mem_cons_of_mem _ ht);show 2*(l.length+1)<=a.s.ph+nP l;lia
theorem Ba{t:Tm}(f:t.k.natAbs<=2^800):(m6 t).length<=t.t.length+284:=by
 have i:=dc f (by decide);unfold m6;split
 . lia
 . simp only[strLen_append,l1];have a1:"(".length=1:=rfl;have u:"*".length=1:=rfl;have z:")".length=1:=rfl;lia
theorem oF(u:g.Ok)(h:Nd g ts r)(P:nP ts<=120)(H:∀t∈ts,∀n,2*t.s.ph<=n+3->Rn n t.x t.t)(hn:2*(nS ts r).ph<=n+2\/2*nP ts<=n+1)(h1:2<=n):Rn n (nX ts r) (nT ts r):=by
 obtain⟨m,rfl⟩:=dW (n:=n) (by lia);refine eM (h.fv u) λQ z2 z3 J=>?_;have i:∀t∈ts,2<=t.s.ph:=λt ht=>((h.a t ht).sb u).ph;have hl:=λt ht=>(h.a t ht).len u;have N:∀t∈ts,t.s.ph<=nP ts:=λt ht=>aR (f:=λt:Tm=>t.s.ph) ht;have B:∀t∈ts,2*(wk t.k*t.s.ph)<=m+3\/2*t.s.ph<=m+2:=λt ht=>by have O:wk t.k*t.s.ph<=(nS ts r).ph:=aR (f:=λt:Tm=>wk t.k*t.s.ph) ht;have U:=N t ht;lia
 have T:∀t∈ts,∀m,(2*(wk t.k*t.s.ph)<=m+3\/2*t.s.ph<=m+2)->Rn m (bz t) (m6 t):=λt ht m B=>by
  unfold bz m6;by_cases q:t.k=1
  . rw[if_pos q,if_pos q];refine H t ht m ?_;have:wk t.k=1:=by rw[q];rfl
    rw[this]at B;lia
  . rw[if_neg q,if_neg q];have:wk t.k=2:=if_neg q;rw[this]at B;have:=i t ht;have:=N t ht;have:=hl t ht;obtain⟨j,rfl⟩:=dW (n:=m) (by lia);refine aP ((h.a t ht).obj) λC fl e F=>?_;have b:=(h.a t ht).sb u;refine(uA e F.nd (H t ht j (by lia)) (by lia) ?_ (by lia) ?_).2.2.2 F
    . have:=J t ht;lia
    . have:=rg (ts:=[t]) (r:=0) (by simp) (λs G=>by rw[List.mem_singleton.mp G];exact h.p.nz t ht) (λs G=>by rw[List.mem_singleton.mp G];exact b);simp[nS,ao]at this;lia
 unfold nX nT;rw[<-Jm,<-Jn];have I:∀p∈wj ts r,∀n,m<=n->(∃C fl,p.1= .obj C fl/\ue C)/\Rn n p.1 p.2:=λp i n hn=>by
  unfold wj at i;refine Or.elim (List.mem_append.mp i) (λi=>?_) λi=>?_
  . refine ab (List.mem_map.mp i) λt ht W=>?_;subst W;refine cP (oq (h.a t ht)) λC fl e F _=>?_;exact⟨⟨C,fl,e,F⟩,T t ht n (by have:=B t ht;lia)⟩
  . split at i
    . cases i
    . rw[List.mem_singleton.mp i];refine⟨⟨_,_,rfl,.inr (.inl rfl)⟩,xN ?_ (by lia)⟩;lia
 have X:aq ((wj ts r).map λp=>p.2.length+1)<=900000:=by
  unfold wj;rw[List.map_append,bN,List.map_map];have O:aq (ts.map ((λp:AV×Str=>p.2.length+1)∘λt=>(bz t,m6 t)))<=aq (ts.map λt=>1000*t.s.ph):=bM λt ht=>by have:=hl t ht;have:=Ba (J t ht);show(m6 t).length+1<=_;lia
  rw[cF]at O;have U:aq (ts.map λt=>t.s.ph)<=120:=P;have e3:aq ((if r=0 then[]else[(aO r,bb r)]).map λp:AV×Str=>p.2.length+1)<=282:=by
   have:=dc Q (by decide);split
   . exact Nat.zero_le _
   . show(bb r).length+1+0<=282;lia
  lia
 have z:(wj ts r).length<64:=by
  have:=i8 i;unfold wj;rw[List.length_append,List.length_map];split
  . simp only[List.length_nil];lia
  . simp only[List.length_cons,List.length_nil];lia
 have Y:∀a b l,wj ts r=a::b::l->ts≠[]:=λa b l e q=>by subst q;unfold wj at e;split at e<;>simp at e
 generalize wj ts r=l at*
 match l with
 |[]=>exact xN (Nat.zero_le _) (by exact Nat.le_of_lt h1)
 |[p]=>exact(I p List.mem_cons_self _ (by lia)).2
 |p::p'::l=>exact Fk z (λq Z=>I q Z m (Nat.le_refl _)) (by lia) X (by have:=(λq=>h.lt u q) (Y _ _ _ rfl);lia)
end
section
variable{g:Gv}{x:AV}{s:Sem}{t:Str}{ts:List Tm}{r:Int}{ρ:Nat->Int}{call:aI}{make:aH}{n:Nat}
theorem At.rn(z:g.Ok)(h:At g x s t):s.ph<=120->∀n,2*s.ph<=n+3->Rn n x t:=by
 have H:∀{ts:List Tm},(∀t∈ts,At g t.x t.s t.t)->∀t∈ts,2<=t.s.ph:=λu t ht=>((u t ht).sb z).ph;have I:∀{ts:List Tm}(r:Int),(nS ts r).ph<=120->∀t∈ts,t.s.ph<=120:=λ{ts} r h t ht=>by have:=dC (ts:=ts) (r:=r);have:t.s.ph<=nP ts:=aR (f:=λt:Tm=>t.s.ph) ht;lia
 induction h with
 |var i hi hl=>intro _ n hn k G;have:=z.pos i;have:=z.le i;have:=z.sm i;have hx:XX=2^62:=rfl;have e:(gr g i).ph=2:=rfl;rw[MP,KJ (by rw[yh];decide) (by(clear hl;lia)) (by(clear hl;lia)) k (by lia)];rfl
 |div ts r c hn hp u hc jS iT ie sE ih=>intro B n G;have e:(cL ts r c).ph=(nS ts r).ph+md ts:=rfl;have p1:=ca (r:=r) hn λt ht=>(u t ht).sb z;have p2:=dC (ts:=ts) (r:=r);obtain⟨m,rfl⟩:=dW (n:=n) (by lia);refine af (uP (r:=r) hn (H u) (Nat.le_refl _) (n:=m) (by assumption)) λl1 l2=>?_;refine aP (bx (r:=r) u) λC fl eq F=>?_;have hl:=jL z ⟨hp,u⟩ hn λt ht=>(u t ht).len z;refine(uA eq F (oF z ⟨hp,u⟩ (by lia) (λt ht=>ih t ht (I r (by lia) t ht)) l1 l2) (by exact Nat.le_of_lt l2) ?_ (by lia) (by lia)).2.1;have:(cL ts r c).am=c.natAbs*(nS ts r).am:=rfl;have:=Nat.mul_le_mul_left c.natAbs (cz (r:=r) hn hp.nz λt ht=>(u t ht).sb z);lia
 |mod ts r c hn hp u hc nv iT ih=>intro B n G;have e:(eW ts r c).ph=(nS ts r).ph+mm ts r:=rfl;have p1:=ca (r:=r) hn λt ht=>(u t ht).sb z;have p2:=dC (ts:=ts) (r:=r);obtain⟨m,rfl⟩:=dW (n:=n) (by lia);refine af (uP (r:=r) hn (H u) (ki ts r) (n:=m) (by assumption)) λl1 l2=>?_;refine aP (bx (r:=r) u) λC fl eq F=>?_;have hl:=jL z ⟨hp,u⟩ hn λt ht=>(u t ht).len z;refine(uA eq F (oF z ⟨hp,u⟩ (by lia) (λt ht=>ih t ht (I r (by lia) t ht)) l1 l2) (by lia) ?_ (by lia) (by lia)).2.2.1;have hx:XX=2^62:=rfl;lia
 |lt ts c hn hp u h1 h2 ih=>
  intro B n G;have e:(oD ts c).ph=nP ts+2:=rfl;have J:2<=nP ts:=by have:=i8 (H u);have:=List.length_pos_iff.mpr hn;(clear G B;lia)
  obtain⟨m,rfl⟩:=dW (n:=n) (by(clear J;lia));refine aP (bx (r:=0) u) λC fl eq F=>?_;have hl:=jL z ⟨hp,u⟩ hn λt ht=>(u t ht).len z;refine eM ((Nd.mk hp u).fv z) λP N O Q=>?_;refine(uA eq F (oF z ⟨hp,u⟩ (by lia) (λt ht=>ih t ht ?_) (.inr (by lia)) (by(clear B;lia))) (by(clear B;lia)) (PO (Int.le_of_lt h1) h2 N O) (by lia) (by decide)).1;have:t.s.ph<=nP ts:=aR (f:=λt:Tm=>t.s.ph) ht;lia
theorem F4{C:Addr}{fl:List (Str×AV)}(f:ue C)(i:bS C fl=true)(h:Rn n (.obj C fl) t)(hn:1<=n)(ht:A6 (.obj C fl)=some t):Ev (2*n+3) 78 [.obj C fl] [] (.str t):=λk G=>by
 obtain⟨k,rfl⟩:=dW (n:=k) (by(clear hn;lia));have u:dj.contains C=true:=by rcases f with rfl|rfl|rfl|rfl|rfl|rfl|rfl<;>rfl
 have z:aF k 57 [.obj C fl] [("ctx",j3)]=some (.str t):=aw (d:=2*n+1) (by lia) (by decide) (λj B=>((Pa _ _ C fl j3).trans (TS _ _ C fl j3).symm).trans (h j B)) k (by lia);have e:aF (k+1) 78 [.obj C fl] []=match E9 (Aa k) 78 [.obj C fl] []with
  |some r=>some r
  |none=>callC ba (gE) (Aa k) 78 [.obj C fl] []:=rfl
 have F:E9 (Aa k) 78 [.obj C fl] []=some (.str t):=by show(if dj.contains C&&bS C fl then(aF k 57 [.obj C fl] [("ctx",j3)]).bind λr=>b8 r λs=>if A6 (.obj C fl)=some s then some (AV.str s)else none else none)=_;rw[u,i,z,ht];exact(if_pos rfl:(if some t=some t then some (AV.str t)else none)=_)
 rw[e,F]
theorem DM{C:Addr}(h:ue C):ba.prop C "key"=some 78/\ba.cls C=true:=by rcases h with rfl|rfl|rfl|rfl|rfl|rfl|rfl<;>exact ⟨by kernel_rfl,rfl⟩
theorem LX{C:Addr}{fl:List (Str×AV)}{nm:Str}(i:ba.cls C=true)(hf:az.contains nm=false){f:Addr}(u:ba.prop C nm=some f):gA call make (.obj C fl) nm=call f [.obj C fl] []:=by show(if ba.cls C then(if az.contains nm then fl.lookup nm else(match ba.prop C nm with|some f=>call f [.obj C fl] []|none=>none))else none)=_;rw[i,hf,u];rfl
theorem At.KT(h:At g x s t){C:Addr}{fl:List (Str×AV)}(e:x= .obj C fl):bS C fl=true:=by induction h<;>(injection e with y z;subst y;subst z;rfl)
end
section
variable{g:Gv}{x:AV}{s:Sem}{t:Str}{ts us:List Tm}{r:Int}{n:Nat}
theorem gX{l1 l2:List Int}(h:l1.Perm l2):ao l1=ao l2:=by
 induction h with
 |nil=>rfl
 |cons a _ ih=>rw[ak,ak,ih]
 |swap a b l=>rw[ak,ak,ak,ak];lia
 |trans _ _ h1 h2=>rw[h1,h2]
theorem uK(h:ts.Perm us):nS ts r=nS us r:=by
 unfold nS;congr 1
 . funext ρ;rw[gX (h.map _)]
 . rw[gX (h.map _)]
 . rw[gX (h.map _)]
 . exact fy (h.map _)
 . exact fy (h.map _)
 . funext j;exact h.any_eq
theorem BW(h:ts.Perm us):nP ts=nP us:=fy (h.map _)
theorem uO(h:ts.Perm us):mm ts r=mm us r/\md ts=md us:=by
 rcases ts with _|⟨a,_|⟨b,l⟩⟩
 . rw[h.nil_eq];exact⟨rfl,rfl⟩
 . rw[List.singleton_perm.mp h];exact⟨rfl,rfl⟩
 . rcases us with _|⟨c,_|⟨d,m⟩⟩
   . injection h.length_eq
   . exact absurd (Nat.succ.inj h.length_eq) (by simp)
   . exact⟨rfl,rfl⟩
noncomputable def sp(t:Tm):Tm:=⟨.none,t.s,"",t.k⟩
theorem DC:nS (ts.map sp) r=nS ts r:=by unfold nS;simp only[List.map_map,List.any_map];rfl
theorem IR:nP (ts.map sp)=nP ts:=by unfold nP;rw[List.map_map];rfl
theorem DH:mm (ts.map sp) r=mm ts r/\md (ts.map sp)=md ts:=by rcases ts with _|⟨a,_|⟨b,l⟩⟩<;>exact ⟨rfl,rfl⟩
theorem sQ(h:us.Perm (ts.map sp))(c:Int):cL us r c=cL ts r c/\eW us r c=eW ts r c/\oD us c=oD ts c:=by unfold cL eW oD;rw[uK (r:=r) h,uK (r:=0) h,DC,DC,(uO (r:=r) h).2,(DH (r:=r)).2,(uO (r:=r) h).1,DH.1,BW h,IR];exact⟨rfl,rfl,rfl⟩
noncomputable abbrev cl(s:Str):List Nat:=s.cps.toList
theorem j5(a b:Str):cl (a++b)=cl a++cl b:=by show(a.cps++b.cps).toList=_;simp
theorem Ha{a b:Str}(h:cl a=cl b):a=b:=by induction a;induction b;simp_all
theorem dY(s:String):cl (s:Str)=s.toList.map Char.toNat:=by rw[Str.ofString_eq_toList]
theorem xA{a b:Int}(h:bb a=bb b):a=b:=by have e:cl (Str.ofString (toString a))=cl (Str.ofString (toString b)):=congrArg cl h;rw[dY,dY]at e;have f:=(List.map_inj_right (λx y h=>Char.toNat_inj.mp h)).mp e;exact Int.repr_inj.mp (String.toList_inj.mp f)
noncomputable def dg(c:Nat):Bool:=c==45||(decide (48<=c)&&decide (c<=57))
theorem uu{i:Int}{c:Nat}(h:c∈cl (bb i)):dg c=true:=by
 by_cases q:c≠45/\(c<48\/57<c)
 . exact absurd h (int_text_free' c q i)
 . unfold dg;simp;lia
theorem Bm(i:Int):cl (bb i)≠[]:=λh=>by
 have e:cl (Str.ofString (toString i))=[]:=h;rw[dY]at e;have f:toString i="":=String.toList_inj.mp (by rw[(List.map_eq_nil_iff.mp e)];rfl);have u:bb i=bb i:=rfl
 induction i with
 |ofNat n=>have:(toString (Int.ofNat n))=n.repr:=rfl;rw[this]at f;have h1:=Nat.length_repr_pos (n:=n);rw[f]at h1;exact absurd h1 (by decide)
 |negSucc n=>have:(toString (Int.negSucc n))="-"++(n+1).repr:=rfl;rw[this]at f;have:=congrArg String.length f;rw[String.length_append]at this;simp at this
noncomputable def HK(l:List Nat):Prop:=∀c m,l=c::m->dg c=false
noncomputable def BD(cs:List Nat):Option (Int×List Nat):=by
 classical exact if h:∃i,cl (bb i)=cs.takeWhile dg then some (h.choose,cs.dropWhile dg)else none
theorem xQ(i:Int){rest:List Nat}(h:HK rest):BD (cl (bb i)++rest)=some (i,rest):=by
 have a:(cl (bb i)++rest).takeWhile dg=cl (bb i)/\(cl (bb i)++rest).dropWhile dg=rest:=by
  have:∀l:List Nat,(∀c∈l,dg c=true)->(l++rest).takeWhile dg=l/\(l++rest).dropWhile dg=rest:=λl hl=>by
   induction l with
   |nil=>
    induction rest using List.casesOn with
    |nil=>exact⟨rfl,rfl⟩
    |cons c m=>simp[h c m rfl]
   |cons c l ih=>have:=ih λc f=>hl c (List.mem_cons_of_mem _ f);simp[hl c List.mem_cons_self,this.1,this.2]
  exact this _ λc f=>uu f
 unfold BD;rw[a.1,a.2];have e:∃j,cl (bb j)=cl (bb i):=⟨i,rfl⟩;rw[dif_pos e];exact congrArg (λz=>some (z,rest)) (xA (Ha e.choose_spec))
noncomputable abbrev Su:=List Tm×Int
noncomputable def rd(g:Gv):Nat->Option Su->List Nat->Option (Su×List Nat)
 |0,_,_=>none
 |n+1,none,cs=>match cs with
  |[]=>none
  |c::Ue=>if c=40 then(rd g n none Ue).bind λp=>rd g n (some p.1) p.2
   else if 97<=c/\c<=99 then some (([⟨.none,gr g (c-97),"",1⟩],0),cs.drop (cl (aN g (c-97))).length)
   else(BD cs).map λp=>(([],p.1),p.2)
 |n+1,some q,cs=>match cs with
  |[]=>none
  |c::cs=>if c=41 then some (q,cs)
   else if c=43 then(rd g n none cs).bind λp=>rd g n (some (q.1++p.1.1,q.2+p.1.2)) p.2
   else if c=42 then(BD cs).map λp=>((q.1.map λt=>{t with k:=p.1},0),p.2.tail)
   else if c=47 then(BD cs.tail).map λp=>(([⟨.none,cL q.1 q.2 p.1,"",1⟩],0),p.2.tail)
   else if c=37 then(BD cs).map λp=>(([⟨.none,eW q.1 q.2 p.1,"",1⟩],0),p.2.tail)
   else(BD cs).map λp=>(([⟨.none,oD q.1 p.1,"",1⟩],0),p.2.tail)
noncomputable def Rd(g:Gv)(t:Str)(q:Su):Prop:=∃N,∀n,N<=n->∀rest,HK rest->rd g n none (cl t++rest)=some (q,rest)
theorem nj{c:Nat}{l:List Nat}(h:dg c=false):HK (c::l):=λ_ _ e=>by(injection e with z;subst z);exact h
theorem Rd.num(i:Int):Rd g (bb i) ([],i):=⟨1,λn hn rest hr=>by
 obtain⟨m,rfl⟩:=dW (n:=n) (by lia);have e:=xQ i hr
 induction h:cl (bb i)using List.casesOn with
 |nil=>exact absurd h (Bm i)
 |cons c l=>
  have f:=(λc l e=>uu (i:=i) (by rw[e];exact List.mem_cons_self)) c l h;rw[h]at e;have u:c≠40:=λq=>by rw[q]at f;exact absurd f (by decide)
  have z:¬(97<=c/\c<=99):=λq=>by unfold dg at f;simp at f;lia
  show(if c=40 then _ else if 97<=c/\c<=99 then _ else(BD (c::(l++rest))).map _)=_;rw[if_neg u,if_neg z];rw[e];rfl⟩
theorem Rd.var(i:Nat)(h:i<3):Rd g (aN g i) ([⟨.none,gr g i,"",1⟩],0):=⟨1,λn hn rest hr=>by
 obtain⟨m,rfl⟩:=dW (n:=n) (by lia);have e:∃l,cl (aN g i)=(97+i)::l:=by unfold aN;simp only[j5];apply FW h<;>exact ⟨_,rfl⟩
 refine ax e λl e=>?_;have f:rd g (m+1) none ((97+i)::(l++rest))=some (([⟨.none,gr g (97+i-97),"",1⟩],0),((97+i)::(l++rest)).drop (cl (aN g (97+i-97))).length):=by simp only[rd];rw[if_neg (by(clear e;lia)),if_pos (by(clear e;lia))]
 rw[Nat.add_sub_cancel_left]at f;rw[e]at f⊢;refine f.trans ?_;have:(((97+i)::(l++rest):List Nat)).drop ((97+i)::l).length=rest:=by rw[<-List.cons_append];simp
 rw[this]⟩
theorem xP{t:Str}{q f:Su}{rest tail:List Nat}{n N:Nat}(h:∀n,N<=n->∀rest,HK rest->rd g n none (cl t++rest)=some (q,rest))(hn:N+1<=n)(hr:HK tail)(e:rd g (n-1) (some q) tail=some (f,rest)):rd g n none (40::(cl t++tail))=some (f,rest):=by
 obtain⟨m,rfl⟩:=dW (n:=n) (by lia);have i:rd g (m+1) none (40::(cl t++tail))=(rd g m none (cl t++tail)).bind λp=>rd g m (some p.1) p.2:=by simp only[rd];rfl
 rw[i,h m (by lia) _ hr];exact e
theorem Rd.op{q:Su}(h:Rd g t q)(i:Int):Rd g (("(":Str)++t++("*":Str)++bb i++(")":Str)) (q.1.map λt=>{t with k:=i},0)/\Rd g (("(":Str)++t++("//":Str)++bb i++(")":Str)) ([⟨.none,cL q.1 q.2 i,"",1⟩],0)
 /\Rd g (("(":Str)++t++("%":Str)++bb i++(")":Str)) ([⟨.none,eW q.1 q.2 i,"",1⟩],0)/\Rd g (("(":Str)++t++("<":Str)++bb i++(")":Str)) ([⟨.none,oD q.1 i,"",1⟩],0):=by
 refine ax h λN h=>?_;have a1:cl ("(":Str)=[40]:=dY _;have f:cl (")":Str)=[41]:=dY _;have u:cl ("*":Str)=[42]:=dY _;have z:cl ("//":Str)=[47,47]:=dY _;have B:cl ("%":Str)=[37]:=dY _;have F:cl ("<":Str)=[60]:=dY _;refine⟨⟨N+2,λn hn rest _=>?_⟩,⟨N+2,λn hn rest _=>?_⟩,⟨N+2,λn hn rest _=>?_⟩,⟨N+2,λn hn rest _=>?_⟩⟩<;>obtain ⟨m,rfl⟩:=Fm (n:=n) (by lia)<;>
  simp only[j5,a1,f,u,z,B,F,List.append_assoc,List.cons_append,List.nil_append]<;>refine xP h (by lia) (nj (by decide)) ?_<;>simp [rd,(λrest=>xQ i (nj (by decide)):∀rest,BD (cl (bb i)++41::rest)=some (i,41::rest))]
theorem na{α β:Type}{f:α->β}:∀{m:List β}{l:List α},m.Perm (l.map f)->∃u:List α,u.Perm l/\u.map f=m
 |[],l,h=>by have:=List.map_eq_nil_iff.mp h.nil_eq.symm;subst this;exact ag [] (.refl _) rfl
 |b::m,l,h=>by refine ab (List.mem_map.mp (h.subset List.mem_cons_self)) λa z i=>?_;subst i;refine cq (List.append_of_mem z) λl1 l2 i=>?_;subst i;refine ab (na (List.perm_cons _|>.mp (h.trans (by simpa using List.perm_middle):(f a::m).Perm (f a::(l1++l2).map f)))) λu B i=>?_;subst i;exact ag (a::u) ((B.cons a).trans List.perm_middle.symm) rfl
theorem Rd.tail:∀(l:List (Str×Su)),(∀p∈l,Rd g p.1 p.2)->∃N,∀n,N<=n->∀(q:Su) rest,rd g n (some q) (l.flatMap (λp=>43::cl p.1)++41::rest)=some ((q.1++l.flatMap (·.2.1),q.2+ao (l.map (·.2.2))),rest)
 |[],_=>⟨1,λn hn q rest=>by
  obtain⟨m,rfl⟩:=dW (n:=n) (by lia);simp[rd,ao]⟩
 |p::l,h=>by
  refine ax (Rd.tail l λp i=>h p (List.mem_cons_of_mem _ i)) λN e=>?_;refine ax (h p List.mem_cons_self) λM u=>?_;refine⟨N+M+1,λn hn q rest=>?_⟩;obtain⟨m,rfl⟩:=dW (n:=n) (by lia);have hd:HK (l.flatMap (λp=>43::cl p.1)++41::rest):=by
   induction l using List.casesOn with
   |nil=>exact nj (by decide)
   |cons p' l=>exact nj (c:=43) (by decide)
  simp only[List.flatMap_cons,List.cons_append,List.append_assoc,List.map_cons,ak];have z:∀f,rd g (m+1) (some q) (43::f)=(rd g m none f).bind λp=>rd g m (some (q.1++p.1.1,q.2+p.1.2)) p.2:=λf=>by simp only[rd];rfl
  rw[z,u m (by lia) _ hd,Option.bind_some,e m (by lia)];simp only[List.append_assoc,Int.add_assoc]
theorem vo:∀(t:Str)(l:List Str),cl (Str.join ("+":Str) (t::l))=cl t++l.flatMap λt=>43::cl t
 |t,[]=>by simp[Str.join]
 |t,u::l=>by rw[j5,j5,vo u l,dY];simp
theorem Rd.sum{l:List (Str×Su)}(hn:l≠[])(h:∀p∈l,Rd g p.1 p.2):∃us:List Tm,us.Perm (l.flatMap (·.2.1))/\Rd g (("(":Str)++Txt.join ("+":Str) (dn (l.map (·.1)))++(")":Str)) (us,ao (l.map (·.2.2))):=by
 refine ab (na (fQ (l.map (·.1)))) λi f e=>?_;rw[<-e,kS]
 induction i using List.casesOn with
 |nil=>exact absurd f.nil_eq hn.symm
 |cons p i=>
  refine ax (Rd.tail i λq u=>h q (f.subset (List.mem_cons_of_mem _ u))) λN z=>?_;refine ax (h p (f.subset List.mem_cons_self)) λM B=>?_;refine⟨_,f.flatMap_right _,N+M+2,λn hn rest hr=>?_⟩;have a1:cl ("(":Str)=[40]:=dY _;have F:cl (")":Str)=[41]:=dY _;rw[List.map_cons,<-gX (f.map _)];simp only[j5,a1,F,vo,List.append_assoc,List.cons_append,List.nil_append];refine xP B (by lia) ?_ ?_
  . induction i using List.casesOn with
    |nil=>exact nj (by decide)
    |cons p' l=>exact nj (c:=43) (by decide)
  . rw[List.flatMap_map,z (n-1) (by lia)];rfl
end
set_option tactic.hygienic true
section
variable{g:Gv}{x:AV}{s:Sem}{t:Str}{ts us:List Tm}{r:Int}{n:Nat}
theorem Rd.tm{t:Tm}(h:Rd g t.t ([⟨.none,t.s,"",1⟩],0)):Rd g (m6 t) ([sp t],0):=by
 unfold m6;split
 . rename_i q;have:sp t=⟨.none,t.s,"",1⟩:=by unfold sp;rw[q]
   rw[this];exact h
 . exact(h.op t.k).1
theorem Rd.node(h:∀t∈ts,Rd g t.t ([⟨.none,t.s,"",1⟩],0)):∃us:List Tm,us.Perm (ts.map sp)/\Rd g (nT ts r) (us,r):=by
 let l:List (Str×Su):=ts.map (λt=>(m6 t,([sp t],0)))++(if r=0 then[]else[(bb r,([],r))]);have z:l.map (·.1)=rz ts r:=by show List.map _ (_++_)=_;unfold rz;split<;>simp
 have u:l.flatMap (·.2.1)=ts.map sp:=by
  rw[List.flatMap_append,List.flatMap_map];have:(List.flatMap (λx:Str×Su=>x.2.1) (if r=0 then[]else[(bb r,([],r))]))=[]:=by split<;>rfl
  rw[this,List.append_nil];have:∀l:List Tm,l.flatMap (λa=>[sp a])=l.map sp:=λl=>by
   induction l with
   |nil=>rfl
   |cons a l ih=>rw[List.flatMap_cons,ih];rfl
  exact this ts
 have i:ao (l.map (·.2.2))=r:=by
  rw[List.map_append,ci,List.map_map];have:∀l:List Tm,ao (l.map ((λx:Str×Su=>x.2.2)∘λt=>(m6 t,([sp t],0))))=0:=λl=>by
   induction l with
   |nil=>rfl
   |cons a l ih=>rw[List.map_cons,ak,ih];rfl
  rw[this];split
  . rename_i q;rw[q];rfl
  . show 0+(r+0)=r;lia
 have hl:∀p∈l,Rd g p.1 p.2:=λp f=>by
  refine Or.elim (List.mem_append.mp f) (λf=>?_) λf=>?_
  . refine ab (List.mem_map.mp f) λt ht B=>?_;subst B;exact(h t ht).tm
  . split at f
    . cases f
    . rw[List.mem_singleton.mp f];exact .num r
 generalize UP:l=l at*
 unfold nT;rw[<-z]
 match l with
 |[]=>have i:r=0:=i.symm;subst i;rw[<-u];exact ag [] (.refl _) (.num 0)
 |[p]=>
  refine ag p.2.1 (by rw[<-u];simp) ?_;have:(p.2.1,r)=p.2:=by rw[<-i];show(p.2.1,p.2.2+0)=p.2;rw[Int.add_zero]
  rw[this];exact hl p List.mem_cons_self
 |p::p'::l=>refine ab (Rd.sum (by simp) hl) λus h1 h2=>?_;rw[u]at h1;rw[i]at h2;exact ag us h1 h2
theorem At.Qq(h:At g x s t):Rd g t ([⟨.none,s,"",1⟩],0):=by
 induction h with
 |var i hi hl=>exact .var i hi
 |div ts r c hn hp ha hc jS iT ie sE ih=>refine ab (Rd.node (r:=r) ih) λus h1 h2=>?_;have:=(h2.op c).2.1;rw[(sQ (r:=r) h1 c).1]at this;exact this
 |mod ts r c hn hp ha hc nv iT ih=>refine ab (Rd.node (r:=r) ih) λus h1 h2=>?_;have:=(h2.op c).2.2.1;rw[(sQ (r:=r) h1 c).2.1]at this;exact this
 |lt ts c hn hp ha h1 h2 ih=>refine ab (Rd.node (r:=0) ih) λus h1 h2=>?_;have:=(h2.op c).2.2.2;rw[(sQ (r:=0) h1 c).2.2]at this;exact this
theorem At.same{x' s'}(h:At g x s t)(h':At g x' s' t):s=s':=by refine ax h.Qq λN e=>?_;refine ax h'.Qq λM f=>?_;have b:=f (N+M) (by lia) [] (λ_ _ e=>nomatch e);rw[(e (N+M) (by lia) [] (λ_ _ e=>nomatch e))]at b;have:=congrArg (λz=>z.map λz=>z.1.1.map (·.s)) b;simpa using this
end
set_option tactic.hygienic false
set_option tactic.hygienic true
section
variable{g:Gv}{x:AV}{s:Sem}{t:Str}{ts us:List Tm}{r:Int}{n:Nat}
noncomputable def pO(t:Tm)(u:Tm):Tm:=if u.t=t.t then{u with k:=u.k+t.k}else u
noncomputable def cx(l:List Tm)(t:Tm):List Tm:=if l.any (λu=>decide (u.t=t.t))then l.map (pO t)else l++[t]
noncomputable def tz(ts:List Tm):List Tm:=(ts.foldl cx []).filter λt=>t.k !=0
noncomputable abbrev Nn(l:List Tm):Prop:=(l.map (·.t)).Nodup
theorem vD(t u:Tm):(pO t u).t=u.t/\(pO t u).x=u.x/\(pO t u).s=u.s:=by unfold pO;split<;>exact ⟨rfl,rfl,rfl⟩
theorem Da(t:Tm)(l:List Tm):(l.map (pO t)).map (·.t)=l.map (·.t):=by rw[List.map_map];exact List.map_congr_left λu _=>(vD t u).1
theorem kZ{l:List Tm}{t:Tm}(h:Nn l):Nn (cx l t):=by
 unfold cx Nn;split
 . rw[Da];exact h
 . rename_i q;rw[List.map_append];refine List.nodup_append.mpr ⟨h,by simp,λa f b hb=>?_⟩;refine ab (List.mem_map.mp f) λu i z=>?_;subst z;simp at hb;subst hb;intro e;exact q (List.any_eq_true.mpr ⟨u,i,decide_eq_true e⟩)
theorem lW:∀(ts l:List Tm),Nn l->Nn (ts.foldl cx l)
 |[],_,h=>h
 |_::ts,_,h=>lW ts _ (kZ h)
theorem nA{l:List Tm}{p:Tm->Bool}(h:Nn l):Nn (l.filter p):=List.Nodup.sublist (List.filter_sublist.map _) h
theorem FL(ts:List Tm):Nn (tz ts):=nA (lW ts [] (by simp[Nn]))
theorem mo{l:List Tm}{t u:Tm}(h:u∈cx l t):(u=t)\/∃v∈l,v.t=u.t/\v.x=u.x/\v.s=u.s:=by
 unfold cx at h;split at h
 . refine ab (List.mem_map.mp h) λv hv f=>?_;subst f;refine dh (vD t v) λa b c=>?_;exact .inr ⟨v,hv,a.symm,b.symm,c.symm⟩
 . refine Or.elim (List.mem_append.mp h) (λh=>?_) λh=>?_
   . exact .inr ⟨u,h,rfl,rfl,rfl⟩
   . exact .inl (List.mem_singleton.mp h)
theorem jV:∀(ts l:List Tm){u:Tm},u∈ts.foldl cx l->∃v,(v∈l\/v∈ts)/\v.t=u.t/\v.x=u.x/\v.s=u.s
 |[],l,u,h=>⟨u,.inl h,rfl,rfl,rfl⟩
 |t::ts,l,u,h=>by
  refine ab (jV ts _ h) λv hv e=>?_;refine Or.elim hv (λhv=>?_) λhv=>?_
  . rcases mo hv with rfl|⟨w,hw,a,b,c⟩
    . exact ag v (.inr List.mem_cons_self) e
    . exact wD w (.inl hw) (a.trans e.1) (b.trans e.2.1) (c.trans e.2.2)
  . exact ag v (.inr (List.mem_cons_of_mem _ hv)) e
theorem BY{u:Tm}(h:u∈tz ts):u.k≠0/\∃v∈ts,v.t=u.t/\v.x=u.x/\v.s=u.s:=by
 refine af (List.mem_filter.mp h) λh1 h2=>?_;refine ab (jV ts [] h1) λv hv e=>?_;refine⟨by simpa using h2,v,?_,e⟩;refine Or.elim hv (λhv=>?_) λhv=>?_
 . cases hv
 . exact hv
noncomputable def Un(l:List Tm):Prop:=∀u∈l,∀v∈l,u.t=v.t->u.s=v.s
theorem AE{l:List Tm}{t:Tm}(w:Sem->Int->Int)(hw:∀s j k,w s (j+k)=w s j+w s k)(hn:Nn l)(f:∀u∈l,u.t=t.t->u.s=t.s):ao ((cx l t).map λu=>w u.s u.k)=ao (l.map λu=>w u.s u.k)+w t.s t.k:=by
 unfold cx;split
 . rename_i q
   induction l with
   |nil=>simp at q
   |cons a l ih=>
    refine af (List.nodup_cons.mp hn) λn1 n2=>?_;rw[List.map_cons,List.map_cons,List.map_cons,ak,ak];by_cases e:a.t=t.t
    . have h0:∀l:List Tm,(∀u∈l,u.t≠t.t)->l.map (pO t)=l:=λl h=>by
       conv=>rhs;rw[<-List.map_id l]
       exact List.map_congr_left λu f=>if_neg (h u f)
      rw[h0 l λu f i=>n1 (List.mem_map.mpr ⟨u,f,i.trans e.symm⟩)];have:pO t a={a with k:=a.k+t.k}:=if_pos e;rw[this];show w a.s (a.k+t.k)+_=_;rw[hw,f a List.mem_cons_self e];lia
    . have:pO t a=a:=if_neg e;rw[this,ih n2 (λu z=>f u (List.mem_cons_of_mem _ z)) (by simpa[e]using q)];lia
 . rw[List.map_append,ci];simp[ao]
theorem AC{l:List Tm}{t:Tm}(w:Sem->Int->Nat)(hw:∀s j k,w s (j+k)<=w s j+w s k)(hn:Nn l)(f:∀u∈l,u.t=t.t->u.s=t.s):aq ((cx l t).map λu=>w u.s u.k)<=aq (l.map λu=>w u.s u.k)+w t.s t.k:=by
 unfold cx;split
 . rename_i q
   induction l with
   |nil=>simp at q
   |cons a l ih=>
    refine af (List.nodup_cons.mp hn) λn1 n2=>?_;rw[List.map_cons,List.map_cons,List.map_cons,au,au];by_cases e:a.t=t.t
    . have h0:∀l:List Tm,(∀u∈l,u.t≠t.t)->l.map (pO t)=l:=λl h=>by
       conv=>rhs;rw[<-List.map_id l]
       exact List.map_congr_left λu f=>if_neg (h u f)
      rw[h0 l λu f i=>n1 (List.mem_map.mpr ⟨u,f,i.trans e.symm⟩)];have:pO t a={a with k:=a.k+t.k}:=if_pos e;rw[this];show w a.s (a.k+t.k)+_<=_;have:=hw a.s a.k t.k;rw[f a List.mem_cons_self e]at this⊢;lia
    . have:pO t a=a:=if_neg e;have:=ih n2 (λu z=>f u (List.mem_cons_of_mem _ z)) (by simpa[e]using q);have h1:pO t a=a:=if_neg e;rw[h1];lia
 . rw[List.map_append,bN];simp[aq]
theorem ny(w:Sem->Int->Int)(hw:∀s j k,w s (j+k)=w s j+w s k):∀(ts l:List Tm),Nn l->Un (l++ts)->ao ((ts.foldl cx l).map λu=>w u.s u.k)=ao (l.map λu=>w u.s u.k)+ao (ts.map λu=>w u.s u.k)
 |[],l,_,_=>by simp[ao]
 |t::ts,l,hn,hu=>by
  have ht:∀u∈l,u.t=t.t->u.s=t.s:=λu h e=>hu u (List.mem_append_left _ h) t (by simp) e;have f:∀u∈cx l t++ts,∃v∈l++t::ts,v.t=u.t/\v.s=u.s:=λu h=>by
   refine Or.elim (List.mem_append.mp h) (λh=>?_) λh=>?_
   . rcases mo h with rfl|⟨v,hv,a,b,c⟩
     . exact dA u (by simp) rfl rfl
     . exact dA v (by simp[hv]) a c
   . exact dA u (by simp[h]) rfl rfl
  rw[List.foldl_cons,ny w hw ts _ (kZ hn) (λu h v h' e=>by
   refine bV (f u h) λa i z B=>?_;refine bV (f v h') λb hb F G=>?_;rw[<-B,<-G];exact hu a i b hb (by rw[z,F,e])),AE w hw hn ht,List.map_cons,ak]
  lia
theorem jU(w:Sem->Int->Nat)(hw:∀s j k,w s (j+k)<=w s j+w s k):∀(ts l:List Tm),Nn l->Un (l++ts)->aq ((ts.foldl cx l).map λu=>w u.s u.k)<=aq (l.map λu=>w u.s u.k)+aq (ts.map λu=>w u.s u.k)
 |[],l,_,_=>by simp[aq]
 |t::ts,l,hn,hu=>by
  have ht:∀u∈l,u.t=t.t->u.s=t.s:=λu h e=>hu u (List.mem_append_left _ h) t (by simp) e;have f:∀u∈cx l t++ts,∃v∈l++t::ts,v.t=u.t/\v.s=u.s:=λu h=>by
   refine Or.elim (List.mem_append.mp h) (λh=>?_) λh=>?_
   . rcases mo h with rfl|⟨v,hv,a,b,c⟩
     . exact dA u (by simp) rfl rfl
     . exact dA v (by simp[hv]) a c
   . exact dA u (by simp[h]) rfl rfl
  have i:=jU w hw ts _ (kZ (t:=t) hn) (λu h v h' e=>by
   refine bV (f u h) λa B i z=>?_;refine bV (f v h') λb hb F G=>?_;rw[<-z,<-G];exact hu a B b hb (by rw[i,F,e]))
  have z:=AC w hw hn ht;rw[List.foldl_cons,List.map_cons,au];lia
theorem uL(w:Sem->Int->Int)(hw:∀s j k,w s (j+k)=w s j+w s k)(h0:∀s,w s 0=0)(f:Un ts):ao ((tz ts).map λu=>w u.s u.k)=ao (ts.map λu=>w u.s u.k):=by
 have:∀l:List Tm,ao ((l.filter λt=>t.k !=0).map λu=>w u.s u.k)=ao (l.map λu=>w u.s u.k):=λl=>by
  induction l with
  |nil=>rfl
  |cons a l ih=>
   rw[List.filter_cons];split
   . rw[List.map_cons,List.map_cons,ak,ak,ih]
   . rename_i q;rw[List.map_cons,ak,ih,(by simpa using q:a.k=0),h0];lia
 unfold tz;rw[this,(ny w hw ts [] (by simp[Nn]) f)];simp[ao]
theorem oW(w:Sem->Int->Nat)(hw:∀s j k,w s (j+k)<=w s j+w s k)(f:Un ts):aq ((tz ts).map λu=>w u.s u.k)<=aq (ts.map λu=>w u.s u.k):=by
 have e:=jU w hw ts [] (by simp[Nn]) f;have:∀l:List Tm,aq ((l.filter λt=>t.k !=0).map λu=>w u.s u.k)<=aq (l.map λu=>w u.s u.k):=λl=>by
  induction l with
  |nil=>exact Nat.le_refl _
  |cons a l ih=>
   rw[List.filter_cons];split
   . rw[List.map_cons,List.map_cons,au,au];exact Nat.add_le_add_left ih _
   . rw[List.map_cons,au];exact Nat.le_trans ih (Nat.le_add_left _ _)
 have h2:=this (ts.foldl cx []);exact Nat.le_trans h2 (Nat.le_trans e (Nat.le_of_eq (Nat.zero_add _)))
theorem lV:∀(ts l:List Tm),Nn (l++ts)->ts.foldl cx l=l++ts
 |[],l,_=>by simp
 |t::ts,l,h=>by
  have:cx l t=l++[t]:=by unfold cx;rw[if_neg];intro q;refine ab (List.any_eq_true.mp q) λu f e=>?_;unfold Nn at h;rw[List.map_append,List.nodup_append]at h;exact h.2.2 u.t (List.mem_map.mpr ⟨u,f,rfl⟩) t.t (by simp) (of_decide_eq_true e)
  rw[List.foldl_cons,this,lV ts _ (by simpa using h:Nn (l++[t]++ts))];simp
theorem i6(hn:Nn ts)(nz:∀t∈ts,t.k≠0):tz ts=ts:=by unfold tz;rw[lV ts [] hn,List.nil_append];exact List.filter_eq_self.mpr λt ht=>by simpa using nz t ht
theorem Ey(s:Sem)(j k:Int):wk (j+k)*s.ph<=wk j*s.ph+wk k*s.ph:=by rw[<-Nat.add_mul];have:=mX (j+k);have:=fj j;have:=fj k;exact Nat.mul_le_mul_right _ (by lia)
theorem yo{j k:Int}(q:¬0<=j+k)(h:0<=j):(j+k).natAbs<=k.natAbs:=by have hn:j+k<=0:=Int.le_of_lt (Int.not_le.mp q);have f:k<=j+k:=Int.le_add_of_nonneg_left h;exact FI.mpr ⟨by rw[Int.ofNat_natAbs_of_nonpos (Int.le_trans f hn),Int.neg_neg];exact f,Int.le_trans hn (Int.natCast_nonneg _)⟩
theorem B7(j k:Int):bC (j+k)<=bC j+bC k:=by
 have h:=Int.natAbs_add_le j k;have f:∀i:Int,i.natAbs<=bC i:=λi=>by unfold bC;split;exact Nat.le_refl _;exact(λn=>Nat.le_mul_of_pos_left n (by decide)) _
 by_cases q:0<=j+k
 . exact Nat.le_trans (Nat.le_of_eq (if_pos q)) (Nat.le_trans h (Nat.add_le_add (f j) (f k)))
 . rw[show bC (j+k)=XX*(j+k).natAbs from if_neg q];by_cases q1:0<=j
   . rw[show bC k=XX*k.natAbs from if_neg (by lia)];exact Nat.le_trans (Nat.mul_le_mul_left XX (yo q q1)) (Nat.le_add_left ..)
   . rw[show bC j=XX*j.natAbs from if_neg q1];by_cases q2:0<=k
     . exact Nat.le_trans (Nat.mul_le_mul_left XX (Int.add_comm j k▸yo (Int.add_comm j k▸q) q2)) (Nat.le_add_right ..)
     . rw[show bC k=XX*k.natAbs from if_neg q2,<-Nat.mul_add];exact Nat.mul_le_mul_left _ h
theorem rl(s:Sem)(j k:Int):bC (j+k)*s.am<=bC j*s.am+bC k*s.am:=by rw[<-Nat.add_mul];exact Nat.mul_le_mul_right _ (B7 j k)
structure PX(ts us:List Tm):Prop where
 val:∀ρ,ao (us.map λt=>t.s.val ρ*t.k)=ao (ts.map λt=>t.s.val ρ*t.k)
 ph:aq (us.map λt=>wk t.k*t.s.ph)<=aq (ts.map λt=>wk t.k*t.s.ph)
 p:nP us<=nP ts
 am:aq (us.map λt=>bC t.k*t.s.am)<=aq (ts.map λt=>bC t.k*t.s.am)
 mem:∀u∈us,u.k≠0/\∃v∈ts,v.t=u.t/\v.x=u.x/\v.s=u.s
 nn:Nn us
theorem DG(f:Un ts):PX ts (tz ts) where
 val ρ:=uL (λs k=>s.val ρ*k) (λs j k=>Int.mul_add ..) (λs=>Int.mul_zero _) f
 ph:=oW (λs k=>wk k*s.ph) Ey f
 p:=oW (λs _=>s.ph) (λs _ _=>by lia) f
 am:=oW (λs k=>bC k*s.am) rl f
 mem _ h:=BY h
 nn:=FL ts
theorem uk(h:∀t∈ts,At g t.x t.s t.t):Un ts:=λu f v hv e=>(h u f).same (e▸h v hv)
end
set_option tactic.hygienic false
section
variable{g:Gv}{x:AV}{s:Sem}{t:Str}{ts us:List Tm}{r:Int}{n:Nat}{call:aI}{make:aH}
theorem oI{op:Operator}(a b:Int):oP call make op (.int a) (.int b)=binI op a b:=by induction op<;>rfl
theorem im{a b:Int}(f:Sm a=true)(hb:Sm b=true):oP call make .Mult (.int a) (.int b)=some (.int (a*b)):=by rw[oI];show(if Sm a&&Sm b then _ else none)=_;rw[f,hb];rfl
theorem dl{a b:Int}(hb:Sm b=true)(h0:0<b):oP call make .FloorDiv (.int a) (.int b)=some (.int (a/b)):=by
 rw[oI];show(if Sm b&&b !=0 then some (AV.int (a.fdiv b))else none)=_;have:(b !=0)=true:=by simpa using(show b≠0 by exact Int.ne_of_gt h0)
 rw[hb,this,Int.fdiv_eq_ediv_of_nonneg a (by exact Int.le_of_lt h0)];rfl
theorem dt{a b:Int}(h0:0<b):oP call make .Mod (.int a) (.int b)=some (.int (a%b)):=by
 rw[oI];show(if b !=0 then some (AV.int (a.fmod b))else none)=_;have:(b !=0)=true:=by simpa using(show b≠0 by exact Int.ne_of_gt h0)
 rw[this,Int.fmod_eq_emod_of_nonneg a (by exact Int.le_of_lt h0)];rfl
theorem bR{i:Int}(h:i.natAbs<=2^1800):Sm i=true:=qS h (by decide)
theorem e9(c:Int):Mk 4 338 [.int c] (lE c):=mw (by decide) λk _=>OT ..
theorem KF{C:Addr}{fl:List (Str×AV)}{mn mx b:Int}(h:Bd (.obj C fl) mn mx)(h0:0<=mn)(s1:Sm mn=true)(i:Sm mx=true)(f:Sm b=true):Ev 3 468 [.obj 485 (qq (.obj C fl) (.int b))] [] (.tup [.int (if 0<=b then mn*b else mx*b),.int (if 0<=b then mx*b else mn*b)]):=
 aw (by decide) (by decide) λk _=>by
  refine af (h (aF k) (aV k)) λu z=>?_;rw[Ph,u,Option.bind_some];show(if decide (0<=mn)=true then _ else none)=_;rw[if_pos (by simpa using h0),z];simp only[Option.bind_some,im s1 f,im i f];by_cases q:0<=b
  . rw[if_pos (by simpa using q),if_pos q,if_pos q]
  . rw[if_neg (by simpa using q),if_neg q,if_neg q]
structure Ln(g:Gv)(t:Tm):Prop where
 at':At g t.x t.s t.t
 k:t.k.natAbs<=2^900
 am:t.s.am<=2^800
theorem Ln.mx(i:g.Ok){t:Tm}(h:Ln g t):t.s.mn.natAbs<=2^862/\t.s.mx.natAbs<=2^862:=by have b:=h.at'.sb i;have:=gP h.am;have h1:=b.mn;have h2:=b.lt;have f:=b.mx;exact⟨i5 h1 (Int.le_trans (Int.le_of_lt h2) f) (Int.ofNat_le.mpr this),i5 (Int.le_trans h1 (Int.le_of_lt h2)) f (Int.ofNat_le.mpr this)⟩
theorem DK(f:g.Ok){t:Tm}(h:Ln g t):Mk 5 485 [t.x,.int t.k] (IF t.x t.k (dU t) (d9 t)):=mw (d:=3) (by decide) λk i=>by refine aP h.at'.obj λC fl e u=>?_;have z:=h.mx f;have b:=h.at'.bd;have p1:(2:Nat)^862<=2^1800:=Nat.pow_le_pow_right (by decide) (by decide);rw[e]at b⊢;rw[OR,KF b (h.at'.sb f).mn (bR (Nat.le_trans z.1 p1)) (bR (Nat.le_trans z.2 p1)) (bR (Nat.le_trans h.k (Nat.pow_le_pow_right (by lia) (by decide)))) k i];rfl
theorem xr(l:List Int):l.sum=ao l:=by
 induction l with
 |nil=>rfl
 |cons a l ih=>rw[List.sum_cons,ak,ih]
theorem KC{α:Type}(l:List α)(x:α->AV)(mn mx:α->Int)(h:∀a∈l,Bd (x a) (mn a) (mx a))(hl:l.length<=1000):Ev 3 619 [.obj 656 (iF (.list (l.map x)))] [] (.tup [.int (ao (l.map mn)),.int (ao (l.map mx))]):=aw (by decide) (by decide) λk _=>by
 refine ax (c7 (step:=aU (aF k) (aV k) 619 0 37) (σ0:=[]) (sh:=λy=>[("x",.fz y)]) (x:=x) (f:=λa=> .int (mn a)) l (λa u σ z acc i=>by
  have b:=(h a u (aF k) (aV k)).1;rcases z with rfl|⟨y,rfl⟩
  . rw[Ak _ _ _ _ [] (.inl rfl),if_pos i,b];rfl
  . rw[Ak _ _ _ _ _ (.inr ⟨y,rfl⟩),if_pos i,b];rfl) hl) λH B=>?_
 refine ax (c7 (step:=aU (aF k) (aV k) 619 1 37) (σ0:=[]) (sh:=λy=>[("x",.fz y)]) (x:=x) (f:=λa=> .int (mx a)) l (λa u σ z acc i=>by
  have b:=(h a u (aF k) (aV k)).2;rcases z with rfl|⟨y,rfl⟩
  . rw[Aj _ _ _ _ [] (.inl rfl),if_pos i,b];rfl
  . rw[Aj _ _ _ _ _ (.inr ⟨y,rfl⟩),if_pos i,b];rfl) hl) λI F=>?_
 have G:∀m:α->Int,gD (l.map λa=> .int (m a))=some (l.map m):=λm=>by rw[<-jP (l.map m),List.map_map];rfl
 have b1:∀m:α->Int,r7 (.builtin "sum") [.list (l.map λa=> .int (m a))]=some (.int (ao (l.map m))):=λm=>by show(gD (l.map λa=>AV.int (m a))).map _=_;rw[G,Option.map_some,xr]
 rw[O8,B];show(r7 (.builtin "sum") [.list (l.map λa=> .int (mn a))]).bind _=_;rw[b1,Option.bind_some,F];show(r7 (.builtin "sum") [.list (l.map λa=> .int (mx a))]).bind _=_;rw[b1,Option.bind_some]
theorem DJ{α:Type}(l:List α)(x:α->AV)(mn mx:α->Int)(h:∀a∈l,Bd (x a) (mn a) (mx a))(hl:l.length<=1000):Mk 5 656 [.list (l.map x)] (Ip (l.map x) (ao (l.map mn)) (ao (l.map mx))):=mw (d:=3) (by decide) λk f=>by rw[OO,KC l x mn mx h hl k f];rfl
noncomputable def RJ(x:AV):Prop:=∃C fl,x= .obj C fl/\(C=284\/C=338\/C=430\/C=485\/C=526\/C=574)
theorem jd(h:∀t∈ts,At g t.x t.s t.t){x:AV}(hx:x∈dQ ts r):RJ x:=by
 unfold dQ at hx;refine Or.elim (List.mem_append.mp hx) (λhx=>?_) λhx=>?_
 . refine ab (List.mem_map.mp hx) λt ht f=>?_;subst f;unfold bz;split
   . refine aP ((h t ht).obj) λC fl e i=>?_;refine jn C fl e ?_;rcases i with rfl|rfl|rfl|rfl<;>decide
   . exact jn _ _ rfl (by decide)
 . split at hx
   . cases hx
   . rw[List.mem_singleton.mp hx];exact jn _ _ rfl (by decide)
noncomputable abbrev Mv(x:AV):ah:=[("x",.fz x)]
noncomputable abbrev EX(x y:AV):ah:=[("x",.fz x),("y",.fz y)]
theorem u5{α:Type}(l:List α)(f:α->AV):l.flatMap (λa=>[f a])=l.map f/\(l.map λa=>[f a].length).sum=l.length:=by
 induction l with
 |nil=>exact⟨rfl,rfl⟩
 |cons a l ih=>rw[List.flatMap_cons,ih.1,List.map_cons,List.map_cons,List.sum_cons,ih.2];exact⟨rfl,by simp only[List.length_cons,List.length_nil];lia⟩
noncomputable def Di(σ:ah):Prop:=σ=[]\/∃y0 y1,σ=EX y0 y1
theorem y9{l:List AV}(hl:l≠[])(x:AV)(σ:ah)(i:σ=Mv x\/∃y,σ=EX x y)(acc:List AV)(z:acc.length+l.length<=1000):∃σ',Di σ'/\aE (lR call make) (bf l) σ (.l acc)=some (σ',.l (acc++l)):=by
 induction l using List.casesOn with
 |nil=>exact absurd rfl hl
 |cons a l=>
  rw[List.length_cons]at z;have B:lR call make σ [a] (.l acc)=some (EX x a,.l (acc++[a])):=by
   rcases i with rfl|⟨y,rfl⟩
   . exact(Ah call make x a acc [] (.inl rfl)).trans (if_pos (by lia))
   . exact(Ah call make x a acc [("y",.fz y)] (.inr ⟨y,rfl⟩)).trans (if_pos (by lia))
  obtain⟨σ',⟨y,rfl⟩,e⟩:=fM (step:=lR call make) (I:=λσ=>∃y,σ=EX x y) (x:=λa=>a) (f:=λa=>[a]) l (acc++[a]) (EX x a) ⟨a,rfl⟩ (λb hb σ i acc u=>by
   refine ax i λy F=>?_;clear i;subst F;simp only[List.length_cons,List.length_nil]at u;exact ag _ ⟨b,rfl⟩ ((Ah call make x b acc [("y",.fz y)] (.inr ⟨y,rfl⟩)).trans (if_pos (by exact Nat.le_of_lt u)))) (by
    rw[(u5 l λa=>a).2,List.length_append];simp only[List.length_cons,List.length_nil];lia)
  rw[(u5 l λa=>a).1,List.map_id']at e;refine ag _ (.inr ⟨x,y,rfl⟩) ?_;show(lR call make σ [a] (.l acc)).bind _=_;rw[B,Option.bind_some,List.append_assoc]at*
  exact e
theorem zv{xs:List AV}(h:∀x∈xs,RJ x)(hl:xs.length<=1000){fl:List (Str×AV)}(hf:fl=iF (.list xs)\/∃m M,fl=jK (.list xs) m M):Ev 3 652 [.obj 656 fl] [] (.list xs):=aw (by decide) (by decide) λk _=>by
 obtain⟨σ',_,e⟩:=fM (step:=aU (aF k) (aV k) 652 0 39) (I:=Di) (x:=λa=>a) (f:=λa=>[a]) xs [] [] (.inl rfl) (λa u σ i acc z=>by
  refine aP (h a u) λC B e F=>?_;simp only[List.length_cons,List.length_nil]at z;have G:aQ σ "x" (.fz a)=Mv a\/∃y,aQ σ "x" (.fz a)=EX a y:=by
   rcases i with rfl|⟨y0,y1,rfl⟩
   . exact .inl rfl
   . exact .inr ⟨y1,rfl⟩
  refine ab (y9 (call:=aF k) (make:=aV k) (l:=[a]) (by simp) a _ G acc (by simp only[List.length_cons,List.length_nil];assumption)) λσ' h1 H=>?_;refine ag σ' h1 ?_;rw[<-H,e];exact Eo _ _ C F B acc σ i) (by rw[(u5 xs λa=>a).2];simpa using hl)
 rw[(u5 xs λa=>a).1,List.map_id',List.nil_append]at e;rw[Kg _ _ xs fl hf,e];rfl
theorem nb{R:Type}{s:Str}{k:Str->Option R}:b8 (.str s) k=k s:=rfl
end
set_option tactic.hygienic true
section
variable{g:Gv}{x:AV}{s:Sem}{t:Str}{ts us:List Tm}{r:Int}{n:Nat}{call:aI}{make:aH}
noncomputable abbrev aY:=List Tm×Int
noncomputable abbrev nO(n:aY):AV:=nX n.1 n.2
noncomputable def nz(n:aY):Bool:= !(n.1.isEmpty&&n.2==0)
theorem jO(ts:List Tm)(r:Int):(dQ ts r=[]/\ts=[]/\r=0/\nX ts r=aO 0)\/(∃x,dQ ts r=[x]/\nX ts r=x)\/((dQ ts r).length>=2/\nX ts r=bZ (dQ ts r) (nS ts r).mn (nS ts r).mx):=by
 have h0:dQ ts r=[]->ts=[]/\r=0:=λq=>by
  unfold dQ at q;refine af (List.append_eq_nil_iff.mp q) λq1 q2=>?_;refine⟨List.map_eq_nil_iff.mp q1,?_⟩;split at q2
  . assumption
  . injection q2
 unfold nX;generalize dQ ts r=l at*
 match l with
 |[]=>exact .inl ⟨rfl,(h0 rfl).1,(h0 rfl).2,rfl⟩
 |[x]=>exact .inr (.inl ⟨x,rfl,rfl⟩)
 |x::y::l=>exact .inr (.inr ⟨by simp,rfl⟩)
theorem zu{ns:List aY}(h:∀n∈ns,∀t∈n.1,At g t.x t.s t.t)(H:∀n∈ns,nz n=true)(hl:(ns.flatMap λn=>dQ n.1 n.2).length<=1000){fl:List (Str×AV)}(hf:fl=iF (.list (ns.map nO))\/∃m M,fl=jK (.list (ns.map nO)) m M):Ev 4 652 [.obj 656 fl] [] (.list (ns.flatMap λn=>dQ n.1 n.2)):=aw (d:=3) (by decide) (by decide) λk J=>by
 have G:∀(x:AV) σ,Di σ->aQ σ "x" (.fz x)=Mv x\/∃y,aQ σ "x" (.fz x)=EX x y:=λx σ i=>by
  rcases i with rfl|⟨y0,y1,rfl⟩
  . exact .inl rfl
  . exact .inr ⟨y1,rfl⟩
 have u:∀ns:List aY,(ns.map λn=>(dQ n.1 n.2).length).sum=(ns.flatMap λn=>dQ n.1 n.2).length:=λns=>by rw[List.length_flatMap]
 have h1:∀n∈ns,(dQ n.1 n.2).length<=1000:=λn hn=>by refine cq (List.append_of_mem hn) λa b N=>?_;subst N;simp only[List.flatMap_append,List.flatMap_cons,List.length_append]at hl;lia
 obtain⟨σ',_,e⟩:=fM (step:=aU (aF k) (aV k) 652 0 39) (I:=Di) (x:=nO) (f:=λn=>dQ n.1 n.2) ns [] [] (.inl rfl) (λn hn σ i acc z=>by
  have B:=λx(hx:x∈dQ n.1 n.2)=>jd (h n hn) hx;rcases jO n.1 n.2 with⟨_,q1,q2,_⟩|⟨x,q1,q2⟩|⟨q1,q2⟩
  . have:=H n hn;unfold nz at this;rw[q1,q2]at this;exact absurd this (by decide)
  . rw[q1]at z B⊢;refine aP (B x List.mem_cons_self) λC O e P=>?_;refine ab (y9 (call:=aF k) (make:=aV k) (l:=[x]) (by simp) x _ (G x σ i) acc z) λσ' h1 F=>?_;refine ag σ' h1 ?_;show aU _ _ 652 0 39 σ [nX n.1 n.2] _=_;rw[q2,<-F,e];exact Eo _ _ C P O acc σ i
  . refine ab (y9 (call:=aF k) (make:=aV k) (l:=dQ n.1 n.2) (λq=>by rw[q]at q1;exact absurd q1 (by decide)) (nO n) _ (G _ σ i) acc z) λσ' Q F=>?_;refine ag σ' Q ?_;show aU _ _ 652 0 39 σ [nX n.1 n.2] _=_;rw[q2,K3 _ _ _ acc σ i];have U:r8 ba (hZ (aF k) (aV k)) "flat_components" (bZ (dQ n.1 n.2) (nS n.1 n.2).mn (nS n.1 n.2).mx)=some (.list (dQ n.1 n.2)):=(LX (call:=aF k) (make:=aV k) (C:=656) rfl (by decide) (show ba.prop 656 "flat_components"=some 652 by kernel_rfl)).trans (zv B (h1 n hn) (.inr ⟨_,_,rfl⟩) k J);rw[U,Option.bind_some];show aE _ (bf _) _ _=_;have W:nO n=bZ (dQ n.1 n.2) (nS n.1 n.2).mn (nS n.1 n.2).mx:=q2;rw[<-F,W]) (by rw[u];simpa using hl)
 rw[List.nil_append]at e;rw[Kg _ _ _ fl hf,e];rfl
theorem At.key(i:g.Ok)(h:At g x s t){p:Nat}(u:s.ph<=p)(z:p<=120):Ga (4*p+10) x "key" (.str t):=λk B=>by refine aP h.obj λC fl e f=>?_;have a:=h.rn i (by lia) (2*p+2) (by lia);have b:A6 x=some t:=h.tx i 300 (by lia);rw[e]at a b⊢;rw[LX (DM f.nd).2 (by decide) (DM f.nd).1];exact F4 f.nd (h.KT e) a (by lia) b k (by lia)
noncomputable abbrev It:=Tm⊕Int
noncomputable def aW(n:aY):List It:=n.1.map .inl++if n.2=0 then[]else[.inr n.2]
noncomputable def iX:It->AV
 | .inl t=>bz t
 | .inr c=>aO c
theorem jc(n:aY):(aW n).map iX=dQ n.1 n.2:=by unfold aW dQ;rw[List.map_append,List.map_map];congr 1;split<;>rfl
noncomputable def sB(b:aY):It->aY
 | .inl t=>(cx b.1 t,b.2)
 | .inr c=>(b.1,b.2+c)
theorem rm(ns:List aY):∀b:aY,(ns.flatMap aW).foldl sB b=((ns.flatMap (·.1)).foldl cx b.1,b.2+ao (ns.map (·.2))):=by
 have h1:∀(ts:List Tm)(b:aY),(ts.map Sum.inl:List It).foldl sB b=(ts.foldl cx b.1,b.2):=λts=>by
  induction ts with
  |nil=>intro b;rfl
  |cons a l ih=>intro b;rw[List.map_cons,List.foldl_cons,ih];rfl
 induction ns with
 |nil=>intro b;simp[ao]
 |cons n ns ih=>
  intro b;rewrite[List.flatMap_cons,List.foldl_append,ih,List.flatMap_cons,List.foldl_append,List.map_cons,ak];unfold aW;rw[List.foldl_append,h1];split
  . rename_i q;rw[q,List.foldl_nil];simp
  . show(_,b.2+n.2+_)=_;rw[Int.add_assoc];rfl
noncomputable abbrev gF(f:Tm->AV)(l:List Tm):List (Str×AV):=l.map λu=>(u.t,f u)
theorem rH(f:Tm->AV)(a:Str):∀l:List Tm,(∃u∈l,u.t=a/\fe (gF f l) a=some (f u))\/((∀u∈l,u.t≠a)/\fe (gF f l) a=none)
 |[]=> .inr ⟨λ_ h=>(nomatch h),rfl⟩
 |u::l=>by
  have e:fe (gF f (u::l)) a=if a==u.t then some (f u)else fe (gF f l) a:=by show List.lookup a ((u.t,f u)::_)=_;rw[List.lookup_cons];induction(a==u.t)<;>rfl
  rw[e];by_cases q:u.t=a
  . exact .inl ⟨u,List.mem_cons_self,q,by rw[q];simp⟩
  . have:(a==u.t)=false:=by simpa using λh=>q h.symm
    rw[this];rcases rH f a l with⟨v,hv,h⟩|⟨h1,h2⟩
    . exact .inl ⟨v,List.mem_cons_of_mem _ hv,h⟩
    . refine .inr ⟨λv hv=>?_,h2⟩;rcases List.mem_cons.mp hv with rfl|hv
      . exact q
      . exact h1 v hv
theorem ti{l:List Tm}(h:Nn l){u v:Tm}(f:u∈l)(hv:v∈l)(e:u.t=v.t):u=v:=by
 induction l with
 |nil=>cases f
 |cons a l ih=>
  refine af (List.nodup_cons.mp h) λn1 n2=>?_;refine Or.elim (List.mem_cons.mp f) (λh1=>?_) λh1=>?_<;>refine Or.elim (List.mem_cons.mp hv) (λh2=>?_) λh2=>?_
  . rw[h1,h2]
  . exact absurd (List.mem_map.mpr ⟨v,h2,by rw[<-e,h1]⟩) n1
  . exact absurd (List.mem_map.mpr ⟨u,h1,by rw[e,h2]⟩) n1
  . exact ih n2 h1 h2
theorem zn(f:Tm->AV){l:List Tm}(hn:Nn l)(t:Tm)(x:AV)(h:∀u∈l,u.t=t.t->f (pO t u)=x)(h0:(∀u∈l,u.t≠t.t)->x=f t):gF f (cx l t)=bI (gF f l) t.t x:=by
 unfold cx bI;have e:(gF f l).any (λz=>decide (z.1=t.t))=l.any λu=>decide (u.t=t.t):=by rw[List.any_map];rfl
 rw[e];split
 . show List.map _ (List.map _ _)=List.map _ (List.map _ _);rw[List.map_map,List.map_map];refine List.map_congr_left λu i=>?_;show((pO t u).t,f (pO t u))=if u.t=t.t then(u.t,x)else(u.t,f u)
   rw[(vD t u).1];split
   . rename_i q;rw[h u i q]
   . rename_i q;have:pO t u=u:=if_neg q;rw[this]
 . rename_i q;rw[h0 λu i e=>q (List.any_eq_true.mpr ⟨u,i,decide_eq_true e⟩)];simp[gF]
theorem AD(l:List Tm)(t:Tm):(cx l t).length<=l.length+1:=by unfold cx;split<;>simp
theorem jX:∀(l:List It)(b:aY),(l.foldl sB b).1.length<=b.1.length+l.length
 |[],b=>Nat.le_refl _
 |i::l,b=>by
  have:=jX l (sB b i);have h:(sB b i).1.length<=b.1.length+1:=by
   induction i with
   |inl t=>exact AD ..
   |inr c=>show b.1.length<=_;lia
  rw[List.foldl_cons,List.length_cons];exact Nat.le_trans this (Nat.le_trans (Nat.add_le_add_right h _) (Nat.le_of_eq (Nat.add_right_comm ..)))
theorem lX:∀(l:List It)(b:aY),Nn b.1->Nn (l.foldl sB b).1
 |[],_,h=>h
 | .inl _::l,_,h=>lX l _ (kZ h)
 | .inr _::l,_,h=>lX l _ h
theorem NW{k:Nat}{xs:List AV}{i:It}(G:∀t,i= .inl t->At g t.x t.s t.t/\gA (aF k) (aV k) t.x "key"=some (.str t.t)){b:aY}(hn:Nn b.1)(hl:b.1.length<=1000)(y:AV)(hy:y=iX i):
 ay (aF k) (aV k) 211 0 193 (d6 xs (gF (λu=> .int u.k) b.1) (gF (·.x) b.1) b.2 [("node",.fz y)])=some (.next (d6 xs (gF (λu=> .int u.k) (sB b i).1) (gF (·.x) (sB b i).1) (sB b i).2 [("node",.fz y)])):=by
 subst hy
 induction i with
 |inr c=>exact Jg ..
 |inl t=>
  refine af (G t rfl) λH B=>?_;refine aP H.obj λC fl e I=>?_;have s1:gF (·.x) (cx b.1 t)=bI (gF (·.x) b.1) t.t ((fe (gF (·.x) b.1) t.t).getD t.x):=zn (·.x) hn t _ (λu f q=>by
   rcases rH (·.x) t.t b.1 with⟨v,hv,e1,e2⟩|⟨h1,_⟩
   . rw[e2,ti hn f hv (q.trans e1.symm),(vD t v).2.1];rfl
   . exact absurd q (h1 u f)) λh=>by
   rcases rH (·.x) t.t b.1 with⟨v,hv,e1,e2⟩|⟨_,h2⟩
   . exact absurd e1 (h v hv)
   . rw[h2];rfl
  have J:∃z,oP (aF k) (aV k) .Add ((fe (gF (λu=> .int u.k) b.1) t.t).getD (.int 0)) (.int t.k)=some z/\gF (λu=> .int u.k) (cx b.1 t)=bI (gF (λu=> .int u.k) b.1) t.t z:=by
   rcases rH (λu=> .int u.k) t.t b.1 with⟨v,hv,e1,e2⟩|⟨h1,h2⟩
   . refine ag (.int (v.k+t.k)) (by rw[e2];exact oI ..) (zn _ hn t _ (λu f q=>?_) λh=>absurd e1 (h v hv));rw[ti hn f hv (q.trans e1.symm)];have:pO t v={v with k:=v.k+t.k}:=if_pos e1;rw[this]
   . refine ag (.int (0+t.k)) (by rw[h2];exact oI ..) (zn _ hn t _ (λu f q=>absurd q (h1 u f)) λ_=>by rw[Int.zero_add])
  refine ab J λz F N=>?_;have l1:(gF (·.x) b.1).length<=1000:=by rw[List.length_map];exact hl
  have l2:(gF (λu=>AV.int u.k) b.1).length<=1000:=by rw[List.length_map];exact hl
  show ay _ _ 211 0 193 (d6 xs _ _ _ [("node",.fz (bz t))])=some (.next (d6 xs (gF (λu=> .int u.k) (cx b.1 t)) (gF (·.x) (cx b.1 t)) b.2 [("node",.fz (bz t))]));rw[s1,N];unfold bz;by_cases q:t.k=1
  . rw[if_pos q];rw[q]at F;rw[e]at B⊢;rw[Ji _ _ xs _ _ b.2 C I fl,B];simp only[Option.bind_some,nb,l1,l2,if_true,F]
  . rw[if_neg q];rw[e]at B⊢;rw[Jh _ _ xs _ _ b.2 t.k _ _ C fl,B];simp only[Option.bind_some,nb,l1,l2,if_true,F]
end
set_option tactic.hygienic false
set_option tactic.hygienic true
section
variable{g:Gv}{x:AV}{s:Sem}{t:Str}{ts us:List Tm}{r:Int}{n:Nat}{call:aI}{make:aH}
theorem eP{α}{step:ah->List AV->Acc->Option (ah×Acc)}{I:ah->Prop}{x:α->List AV}{f:α->List AV}:∀(l:List α)(acc:List AV)(σ:ah),I σ->(∀a∈l,∀σ,I σ->∀acc:List AV,acc.length+(f a).length<=1000->∃σ',I σ'/\step σ (x a) (.l acc)=some (σ',.l (acc++f a)))->acc.length+(l.flatMap f).length<=1000->
 ∃σ',I σ'/\aE step (l.map x) σ (.l acc)=some (σ',.l (acc++l.flatMap f))
 |[],acc,σ,bJ,_,_=>⟨σ,bJ,by simp[aE]⟩
 |a::l,acc,σ,bJ,H,hl=>by rw[List.flatMap_cons,List.length_append]at hl;refine ab (H a List.mem_cons_self σ bJ acc (by lia)) λi h1 e=>?_;refine ab (eP l (acc++f a) i h1 (λb hb=>H b (List.mem_cons_of_mem _ hb)) (by simp only[List.length_append];lia)) λσ' h2 u=>?_;refine ag σ' h2 ?_;simp only[List.map_cons,aE,e,Option.bind_some];rw[List.flatMap_cons,<-List.append_assoc];exact u
theorem kW{α:Type}(p:α->Bool)(f:α->AV)(l:List α):(l.flatMap λn=>if p n then[f n]else[])=(l.filter p).map f:=by
 induction l with
 |nil=>rfl
 |cons a l ih=>rw[List.flatMap_cons,List.filter_cons,ih];split<;>rfl
noncomputable def N6:It->Int
 | .inl t=>dU t
 | .inr c=>c
noncomputable def N5:It->Int
 | .inl t=>d9 t
 | .inr c=>c
theorem yO(ts:List Tm)(r:Int):ao ((aW (ts,r)).map N6)=(nS ts r).mn/\ao ((aW (ts,r)).map N5)=(nS ts r).mx:=by
 unfold aW;rw[List.map_append,List.map_append,List.map_map,List.map_map,ci,ci];have h:∀f:It->Int,(∀c,f (.inr c)=c)->ao ((if r=0 then[]else[(.inr r:It)]).map f)=r:=λf hf=>by
  split
  . rename_i q;rw[q];rfl
  . show f (.inr r)+0=r;rw[hf];lia
 exact⟨congrArg _ (h _ λ_=>rfl),congrArg _ (h _ λ_=>rfl)⟩
theorem F7(f:∀t∈ts,At g t.x t.s t.t){i:It}(hi:i∈aW (ts,r)):Bd (iX i) (N6 i) (N5 i):=by
 unfold aW at hi;refine Or.elim (List.mem_append.mp hi) (λh=>?_) λh=>?_
 . refine ab (List.mem_map.mp h) λt ht u=>?_;rw[<-u];exact xm (f t ht)
 . split at h
   . cases h
   . rw[List.mem_singleton.mp h];exact λ_ _=>tQ ..
theorem gU{xs:List AV}(h:xs.length<=1000):fG xs=some (.int xs.length):=if_pos h
theorem GL(F:g.Ok)(B:∀t∈ts,At g t.x t.s t.t)(G:∀t∈ts,t.k≠0)(hl:ts.length<=900){k:Nat}(z:5<=k):ow (aF k) (aV k) (dQ ts r)=some (nX ts r):=by
 have u:(dQ ts r).length<=1000:=by unfold dQ;rw[List.length_append,List.length_map];split<;>simp<;>lia
 unfold ow;refine bE (gU u) ?_;show(if decide ((1:Int)<(dQ ts r).length)=true then _ else _)=_;rcases jO ts r with⟨q1,rfl,rfl,q2⟩|⟨x,q1,q2⟩|⟨q1,q2⟩
 . rw[if_neg (by rw[q1];decide),q1];show(aV k 338 [.int 0]).bind _=_;rw[e9 0 k (by exact Nat.le_of_lt z)];rfl
 . rw[if_neg (by rw[q1];simp),q1,q2];rfl
 . rw[if_pos (decide_eq_true (by lia)),q2];have hn:ts≠[]:=λq=>by
    rw[q]at q1;unfold dQ at q1;split at q1<;>simp at q1
   have e:=DJ (aW (ts,r)) iX N6 N5 (λi hi=>F7 B hi) (by rw[<-List.length_map (f:=iX),jc];exact u) k z;rw[jc,(yO ts r).1,(yO ts r).2]at e;rw[e];have H:=rg (r:=r) hn G λt ht=>(B t ht).sb F;show(aF k 354 [bZ (dQ ts r) (nS ts r).mn (nS ts r).mx] []).bind some=_;rw[aw (d:=2) (r:=bZ (dQ ts r) (nS ts r).mn (nS ts r).mx) (by decide) (by decide) (λj _=>by rw[zy,if_pos (decide_eq_true (Int.le_of_lt H)),if_neg (by simp;lia)]) k (by exact up z rfl)];rfl
theorem II{n:aY}(h:nz n=false):n.1=[]/\n.2=0:=by unfold nz at h;simpa using h
theorem uE:∀ns:List aY,(ns.filter nz).flatMap (·.1)=ns.flatMap (·.1)/\ao ((ns.filter nz).map (·.2))=ao (ns.map (·.2))/\(ns.filter nz).flatMap (λn=>dQ n.1 n.2)=ns.flatMap λn=>dQ n.1 n.2
 |[]=>⟨rfl,rfl,rfl⟩
 |n::ns=>by
  refine dh (uE ns) λa b c=>?_;rw[List.filter_cons,List.flatMap_cons,List.map_cons,ak,List.flatMap_cons];split
  . rw[List.flatMap_cons,List.map_cons,ak,List.flatMap_cons,a,b,c];exact⟨rfl,rfl,rfl⟩
  . rename_i q;refine af (II (by simpa using q)) λh1 h2=>?_;rw[a,b,c,h1,h2];exact⟨rfl,by lia,rfl⟩
structure Nw(g:Gv)(n:aY):Prop where
 nz:∀t∈n.1,t.k≠0
 nd:Nn n.1
 am:(nS n.1 n.2).am<=2^800
 a:∀t∈n.1,At g t.x t.s t.t
theorem Nd.w{n:aY}(h:Nd g n.1 n.2):Nw g n:=⟨h.p.nz,h.p.nd,h.p.am,h.a⟩
theorem IJ(f:g.Ok){n:aY}(h:Nw g n):(nz n=true<->((nS n.1 n.2).mx≠0\/(nS n.1 n.2).mn≠0)):=by
 by_cases q:n.1=[]
 . obtain⟨a,b⟩:=n;simp only at q;rw[q];simp[nz,nS,ao]
 . have:=rg (r:=n.2) q h.nz λt ht=>(h.a t ht).sb f;have e:nz n=true:=by unfold nz;simp[q]
   rw[e];simp;lia
theorem KK(N:g.Ok)(ns:List aY)(h:∀n∈ns,Nw g n){p:Nat}(hp:∀n∈ns,nP n.1<=p)(cK:p<=120)(hl:(ns.flatMap λn=>dQ n.1 n.2).length<=900)(HN:ns.length<=900)(am:(nS (ns.flatMap (·.1)) 0).am<=2^850):
 Ev (4*p+11) 211 [.list (ns.map nO)] [] (nX (tz (ns.flatMap (·.1))) (ao (ns.map (·.2)))):=aw (by lia) (by decide) λk Z=>by
 obtain⟨gh,_,P⟩:=eP (step:=aU (aF k) (aV k) 211 0 40) (I:=λσ=>σ=[]\/∃y,σ=[(("x":Str),EV.fz y)]) (x:=λn=>[nO n]) (f:=λn=>if nz n then[nO n]else[]) ns [] [] (.inl rfl) (λn hn σ J acc H=>by
  refine af (lH (r:=n.2) (h n hn).a (aF k) (aV k)) λb1 b2=>?_;have e:=Hh (aF k) (aV k) (nO n) acc σ J;refine ag ([(("x":Str),EV.fz (nO n))]:ah) (.inr ⟨_,rfl⟩) (e.trans ?_);rw[b2,b1];have O:=IJ N (h n hn);show(if((nS n.1 n.2).mx !=0)=true then _ else if((nS n.1 n.2).mn !=0)=true then _ else _)=_;by_cases q1:((nS n.1 n.2).mx !=0)=true
  . have:=O.mpr (.inl (by simpa using q1));rw[this]at H⊢;simp only[if_true,List.length_cons,List.length_nil]at H;rw[if_pos q1,if_pos (by exact Nat.le_of_lt H)];rfl
  . rw[if_neg q1];by_cases q2:((nS n.1 n.2).mn !=0)=true
    . have:=O.mpr (.inr (by simpa using q2));rw[this]at H⊢;simp only[if_true,List.length_cons,List.length_nil]at H;rw[if_pos q2,if_pos (by lia)];rfl
    . have:nz n=false:=by
       induction e:nz n with
       |false=>rfl
       |true=>exact absurd (O.mp e) (by simp at q1 q2;simp[q1,q2])
      rw[if_neg q2,this];simp) (by
    rw[kW nz nO,List.length_map];have:=List.length_filter_le nz ns;simp only[List.length_nil];lia)
 rw[kW nz nO,List.nil_append]at P;have Ub:aE (aU (aF k) (aV k) 211 0 40) (bf (ns.map nO)) [] (.l [])=some (gh,.l ((ns.filter nz).map nO)):=by rw[<-P];show aE _ (List.map _ (List.map _ _)) _ _=_;rw[List.map_map];rfl
 refine dh (uE ns) λd1 d2 d3=>?_;rw[<-d1,<-d2,Pw,Ub];have Q:∀n∈ns.filter nz,Nw g n:=λn hn=>h n (List.mem_filter.mp hn).1;have O:∀n∈ns.filter nz,nz n=true:=λn hn=>(List.mem_filter.mp hn).2;have LN:∀n∈ns.filter nz,nP n.1<=p:=λn hn=>hp n (List.mem_filter.mp hn).1;have UN:(ns.filter nz).length<=900:=Nat.le_trans (List.length_filter_le ..) HN;rw[<-d3]at hl;rw[<-d1]at am;generalize ns.filter nz=ms at*
 have q0:ib (.list (ms.map nO))=some (!(ms.map nO).isEmpty):=if_pos (by rw[List.length_map];lia);show(ib (.list (ms.map nO))).bind _=_;refine bE q0 ?_
 match ms with
 |[]=>show(aV k 338 [.int 0]).bind _=_;rw[e9 0 k (by exact up Z rfl)];rfl
 |[n]=>
  have hn:=Q n List.mem_cons_self;have:tz ([n].flatMap (·.1))=n.1:=by simp[i6 hn.nd hn.nz]
  rw[this];have:ao ([n].map (·.2))=n.2:=by show n.2+0=_;lia
  rw[this];rfl
 |n1::n2::ms=>
  generalize hM:n1::n2::ms=ls at*
  have l2:2<=ls.length:=by rw[<-hM];simp
  refine(if_neg (by rw[<-hM];simp)).trans ?_;refine bE (gU (by rw[List.length_map];lia)) ?_;show(if(((ls.map nO).length:Int)==1)=true then _ else _)=_;rw[if_neg (by rw[List.length_map];simp;lia)];refine bE (DJ ls nO (λn=>(nS n.1 n.2).mn) (λn=>(nS n.1 n.2).mx) (λn hn=>lH (Q n hn).a) (by lia) k (by exact up Z rfl)) ?_;have ef:gA (aF k) (aV k) (bZ (ls.map nO) (ao (ls.map λn=>(nS n.1 n.2).mn)) (ao (ls.map λn=>(nS n.1 n.2).mx))) "flat_components"=some (.list (ls.flatMap λn=>dQ n.1 n.2)):=
   (LX (C:=656) rfl (by decide) (show ba.prop 656 "flat_components"=some 652 by kernel_rfl)).trans (zu (λn hn=>(Q n hn).a) O (by lia) (.inr ⟨_,_,rfl⟩) k (by lia))
  refine bE ef ?_;have ei:(ls.flatMap λn=>dQ n.1 n.2)=(ls.flatMap aW).map iX:=by rw[List.map_flatMap];refine congrArg (λf=>List.flatMap f ls) (funext λn=>(jc n).symm)
  rw[ei]at hl⊢;rw[List.length_map]at hl;have X:∀t,.inl t∈ls.flatMap aW->t∈ls.flatMap (·.1):=λt ht=>by
   refine ab (List.mem_flatMap.mp ht) λn hn h=>?_;refine List.mem_flatMap.mpr ⟨n,hn,?_⟩;unfold aW at h;refine Or.elim (List.mem_append.mp h) (λh=>?_) λh=>?_
   . refine ab (List.mem_map.mp h) λu G e=>?_;(injection e with z;rw[<-z]);exact G
   . split at h
     . cases h
     . injection List.mem_singleton.mp h
  have Y:∀t∈ls.flatMap (·.1),At g t.x t.s t.t/\t.s.ph<=p/\t.s.am<=2^800:=λt ht=>by refine ab (List.mem_flatMap.mp ht) λn hn h=>?_;have hd:=Q n hn;refine⟨hd.a t h,Nat.le_trans (aR (f:=λt:Tm=>t.s.ph) h) (LN n hn),?_⟩;have P:bC t.k*t.s.am<=(nS n.1 n.2).am:=aR (f:=λt:Tm=>bC t.k*t.s.am) h;have e2:=Nat.mul_le_mul_right t.s.am (fb (hd.nz t h));have e3:=hd.am;lia
  obtain⟨xa,e3,r2,On,rfl⟩:=fK (body:=ay (aF k) (aV k) 211 0 193) (nm:=["node"]) (x:=iX) (f:=sB) (b0:=(([],0):aY)) (R:=λb σ=>∃r:ah,(r=[]\/∃x,r=[(("node":Str),EV.fz x)])/\σ=d6 (ls.map nO) (gF (λu=> .int u.k) b.1) (gF (·.x) b.1) b.2 r) (ls.flatMap aW) (λB i ka e σ J=>by
   refine ab J λr hr bg=>?_;clear J;subst bg;have e5:aX (d6 (ls.map nO) (gF (λu=> .int u.k) (B.foldl sB ([],0)).1) (gF (·.x) (B.foldl sB ([],0)).1) (B.foldl sB ([],0)).2 r) ["node"] [iX i]=d6 (ls.map nO) (gF (λu=> .int u.k) (B.foldl sB ([],0)).1) (gF (·.x) (B.foldl sB ([],0)).1) (B.foldl sB ([],0)).2 [("node",.fz (iX i))]:=by rcases hr with rfl|⟨x,rfl⟩<;>rfl
   rw[e5,NW (i:=i) (λt q=>by
    have ht:=Y t (X t (by rw[e,q];simp));exact⟨ht.1,ht.1.key N ht.2.1 cK k (by assumption)⟩) (lX B _ (by simp[Nn])) (by
     have:=jX B ([],0);have U:=congrArg List.length e;rw[List.length_append]at U;simp only[List.length_nil,List.length_cons,Nat.zero_add]at this U;lia) _ rfl]
   exact⟨_,rfl,_,.inr ⟨_,rfl⟩,rfl⟩) ⟨[],.inl rfl,rfl⟩
  show(bU (ay (aF k) (aV k) 211 0 193) ["node"] (bf _) (d6 (ls.map nO) [] [] 0 [])).bind (wu (aF k) (aV k) 211 7 193)=_;refine bE (show bU (ay (aF k) (aV k) 211 0 193) ["node"] (bf ((ls.flatMap aW).map iX)) (d6 (ls.map nO) [] [] 0 [])=_ from e3) ?_;show cS (aF k) (aV k) 211 7 193 _=_;rw[Ku _ _ _ _ _ _ r2 On,rm];have G:Un (ls.flatMap (·.1)):=uk λt ht=>(Y t ht).1;have hL:=jU (λs k=>bC k*s.am) rl (ls.flatMap λn:aY=>n.1) [] (by simp[Nn]) G;have lS:=λu(h:u∈(ls.flatMap (·.1)).foldl cx [])=>jV (ls.flatMap (·.1)) [] h;have JN:((ls.flatMap (·.1)).foldl cx []).length<=900:=by have:=jX (ls.flatMap aW) ([],0);rw[rm]at this;simp only[List.length_nil]at this;lia
  have Tc:=lW (ls.flatMap (·.1)) [] (by simp[Nn]);have Ou:tz (ls.flatMap (·.1))=((ls.flatMap (·.1)).foldl cx []).filter λt=>t.k !=0:=rfl;rw[Ou];rw[Int.zero_add];have hL:aq (((ls.flatMap (·.1)).foldl cx []).map λu=>bC u.k*u.s.am)<=2^850:=by have:(nS (ls.flatMap (·.1)) 0).am=aq ((ls.flatMap (·.1)).map λu=>bC u.k*u.s.am):=rfl;simp only[List.map_nil]at hL;have:aq []=0:=rfl;lia
  generalize(ls.flatMap (·.1)).foldl cx []=L at*
  have W:∀u∈L,At g u.x u.s u.t/\u.s.am<=2^800:=λu G=>by
   refine CL (lS u G) λv hv a b c=>?_;refine Or.elim hv (λhv=>?_) λhv=>?_
   . cases hv
   . have:=Y v hv;rw[<-a,<-b,<-c];exact⟨this.1,this.2.2⟩
  obtain⟨Mc,_,e4⟩:=eP (step:=aU (aF k) (aV k) 211 1 40) (I:=λσ=>∃r:ah,σ=(("mul_nodes":Str),EV.fz (.dict (gF (·.x) L)))::r/\(r=[]\/∃y0 y1,r=[(("a":Str),EV.fz y0),(("b_sum":Str),EV.fz y1)])) (x:=λu:Tm=>[.str u.t,.int u.k]) (f:=λu=>if u.k !=0 then[bz u]else[]) L [] [("mul_nodes",.fz (.dict (gF (·.x) L)))] ⟨[],rfl,.inl rfl⟩ (λu G σ J acc H=>by
   refine ab J λr aK hr=>?_;clear J;rw[aK];refine ag (("mul_nodes",.fz (.dict (gF (·.x) L)))::[(("a":Str),EV.fz (.str u.t)),(("b_sum":Str),EV.fz (.int u.k))]:ah) ⟨_,rfl,.inr ⟨_,_,rfl⟩⟩ ((Hg (aF k) (aV k) (gF (·.x) L) u.t u.k acc r hr).trans ?_);by_cases q:(u.k !=0)=true
   . rw[if_pos q]at H⊢;simp only[List.length_cons,List.length_nil]at H;rw[if_pos (by lia),if_pos q];have ea:fe (gF (·.x) L) u.t=some u.x:=by
      rcases rH (·.x) u.t L with⟨v,hv,a1,a2⟩|⟨a1,_⟩
      . rw[a2,ti Tc hv G a1]
      . exact absurd rfl (a1 u G)
     rw[ea];unfold bz;by_cases q1:u.k=1
     . rw[if_neg (by simpa using q1),if_pos q1];rfl
     . rw[if_pos (by simpa using q1),if_neg q1,Option.bind_some];have HO:u.k.natAbs<=2^900:=by
        have P:bC u.k*u.s.am<=aq (L.map λu=>bC u.k*u.s.am):=aR (f:=λt:Tm=>bC t.k*t.s.am) G;have e2:=Nat.mul_le_mul (jb u.k) ((W u G).1.sb N).am;lia
       rw[DK N ⟨(W u G).1,HO,(W u G).2⟩ k (by lia)];rfl
   . rw[if_neg q,if_neg q];simp) (by
     rw[kW (λu:Tm=>u.k !=0) bz,List.length_map];have:=List.length_filter_le (λu:Tm=>u.k !=0) L;simp only[List.length_nil];lia)
  rw[kW (λu:Tm=>u.k !=0) bz,List.nil_append]at e4;have U:(gF (λu=>AV.int u.k) L).map (λz=>[AV.str z.1,z.2])=L.map λu=>[.str u.t,.int u.k]:=by rw[List.map_map];rfl
  rw[U,e4];have hF:∀t∈L.filter λu=>u.k !=0,At g t.x t.s t.t/\t.k≠0:=λt ht=>⟨(W t (List.mem_filter.mp ht).1).1,by simpa using(List.mem_filter.mp ht).2⟩;have TD:(L.filter λu=>u.k !=0).length<=900:=Nat.le_trans (List.length_filter_le ..) JN;generalize(L.filter λu=>u.k !=0)=F at*
  show(if(ao (ls.map (·.2))!=0)=true then _ else _)=_;have E:=GL (r:=ao (ls.map (·.2))) N (λt ht=>(hF t ht).1) (λt ht=>(hF t ht).2) TD (k:=k) (by lia);unfold dQ at E;by_cases q:ao (ls.map (·.2))=0
  . rw[if_pos q,List.append_nil]at E;rw[if_neg (by simpa using q)];exact E
  . rw[if_neg q]at E;rw[if_pos (by simpa using q),e9 _ k (by lia),Option.bind_some,if_pos (by rw[List.length_map];lia)];exact E
end
set_option tactic.hygienic false
set_option tactic.hygienic true
section
variable{g:Gv}{x:AV}{s:Sem}{t:Str}{ts us:List Tm}{r:Int}{call:aI}{make:aH}{n m:aY}
noncomputable abbrev sm(n:aY):Sem:=nS n.1 n.2
noncomputable abbrev Ng(g:Gv)(n:aY):Prop:=Nd g n.1 n.2
structure RS(g:Gv)(m:aY)(val:(Nat->Int)->Int)(ph p am:Nat)(vs:Nat->Prop):Prop where
 nd:Ng g m
 val:∀ρ,g.In ρ->(sm m).val ρ=val ρ
 ph:(sm m).ph<=ph
 p:nP m.1<=p
 am:(sm m).am<=am
 vs:∀i,(sm m).vs i=true->vs i
noncomputable def cu(ns:List aY):aY:=(tz (ns.flatMap (·.1)),ao (ns.map (·.2)))
theorem tR(f:Tm->Int)(ns:List aY):ao ((ns.flatMap (·.1)).map f)+ao (ns.map (·.2))=ao (ns.map λn=>ao (n.1.map f)+n.2):=by
 induction ns with
 |nil=>rfl
 |cons n ns ih=>rw[List.flatMap_cons,List.map_append,ci,List.map_cons,List.map_cons,ak,ak,<-ih];lia
theorem jY(f:Tm->Nat)(ns:List aY):aq ((ns.flatMap (·.1)).map f)=aq (ns.map λn=>aq (n.1.map f)):=by
 induction ns with
 |nil=>rfl
 |cons n ns ih=>rw[List.flatMap_cons,List.map_append,bN,List.map_cons,au,<-ih]
theorem cO{i:Nat}(h:(nS ts r).vs i=true):∃t∈ts,t.s.vs i=true:=List.any_eq_true.mp h
theorem xv{ns:List aY}(h:∀n∈ns,Nw g n)(u:aq (ns.map λn=>(sm n).am)<=2^800)(hr:(ao (ns.map (·.2))).natAbs<=2^880):
 RS g (cu ns) (λρ=>ao (ns.map λn=>(sm n).val ρ)) (aq (ns.map λn=>(sm n).ph)) (aq (ns.map λn=>nP n.1)) (aq (ns.map λn=>(sm n).am)) (λi=>∃n∈ns,(sm n).vs i=true):=by
 have f:∀t∈ns.flatMap (·.1),At g t.x t.s t.t:=λt ht=>by refine ab (List.mem_flatMap.mp ht) λn hn h1=>?_;exact(h n hn).a t h1
 have M:=DG (uk f);have val:∀ρ,(sm (cu ns)).val ρ=ao (ns.map λn=>(sm n).val ρ):=λρ=>by show ao ((tz (ns.flatMap (·.1))).map λt=>t.s.val ρ*t.k)+ao (ns.map (·.2))=_;rw[M.val ρ,tR (λt=>t.s.val ρ*t.k)];rfl
 have am:(sm (cu ns)).am<=aq (ns.map λn=>(sm n).am):=by have:=M.am;rw[jY (λt=>bC t.k*t.s.am)]at this;exact this
 have z:∀t∈(cu ns).1,At g t.x t.s t.t:=λt ht=>by obtain⟨_,v,hv,a,b,c⟩:=M.mem t ht;rw[<-a,<-b,<-c];exact f v hv
 refine⟨⟨⟨λt ht=>(M.mem t ht).1,M.nn,Nat.le_trans am u,hr⟩,z⟩,λρ _=>val ρ,?_,?_,am,λi hi=>?_⟩
 . have:=M.ph;rw[jY (λt=>wk t.k*t.s.ph)]at this;exact this
 . have:=M.p;unfold nP at this;rw[jY (λt=>t.s.ph)]at this;exact this
 . refine ab (cO hi) λt ht h1=>?_;obtain⟨_,v,hv,a,b,c⟩:=M.mem t ht;refine ab (List.mem_flatMap.mp hv) λn hn h2=>?_;refine ag n hn (List.any_eq_true.mpr ⟨v,h2,?_⟩);rw[c];exact h1
theorem xu{ns:List aY}(h:∀n∈ns,Nw g n)(f:aq (ns.map λn=>(sm n).am)<=2^800)(u:g.Ok)(hv:(ao (ns.map λn=>(sm n).val g.lo)).natAbs<=2^879+2^863):
 RS g (cu ns) (λρ=>ao (ns.map λn=>(sm n).val ρ)) (aq (ns.map λn=>(sm n).ph)) (aq (ns.map λn=>nP n.1)) (aq (ns.map λn=>(sm n).am)) (λi=>∃n∈ns,(sm n).vs i=true):=
 xv h f (oR u (ts:=ns.flatMap (·.1)) (λt ht=>by
  refine ab (List.mem_flatMap.mp ht) λn hn h1=>?_;exact(h n hn).a t h1) (by
   have:=jY (λt=>bC t.k*t.s.am) ns;show aq _<=_;rw[this];exact f) (by
   have:=tR (λt=>t.s.val g.lo*t.k) ns;show(ao _+ao _).natAbs<=_;rw[this];exact hv))
noncomputable def eV(j:Int)(n:aY):aY:=if j=0 then([],0)else(n.1.map λt=>{t with k:=t.k*j},n.2*j)
theorem o6(a b:Int):bC (a*b)<=bC a*bC b:=by
 have hx:1<=XX:=by unfold XX;decide
 have e:(a*b).natAbs=a.natAbs*b.natAbs:=Int.natAbs_mul a b;unfold bC;by_cases h1:0<=a<;>by_cases h2:0<=b
 . rw[if_pos h1,if_pos h2,if_pos (Int.mul_nonneg h1 h2),e];exact Nat.le_refl _
 . rw[if_pos h1,if_neg h2];split
   . rw[e];exact Nat.mul_le_mul_left _ (Nat.le_mul_of_pos_left _ hx)
   . rw[e];exact Nat.le_of_eq (by rw[<-Nat.mul_assoc,Nat.mul_comm XX,Nat.mul_assoc])
 . rw[if_neg h1,if_pos h2];split
   . rw[e];exact Nat.mul_le_mul_right _ (Nat.le_mul_of_pos_left _ hx)
   . rewrite[e,Nat.mul_assoc];exact Nat.le_refl _
 . rw[if_neg h1,if_neg h2,if_pos (Int.le_of_lt (Int.mul_pos_of_neg_of_neg (by exact Int.not_le.mp h1) (by lia))),e];exact Nat.mul_le_mul (Nat.le_mul_of_pos_left _ hx) (Nat.le_mul_of_pos_left _ hx)
theorem lM(c:Int){α}{f:α->Int}{l:List α}:ao (l.map λt=>f t*c)=ao (l.map f)*c:=by
 induction l with
 |nil=>simp[ao]
 |cons a l ih=>rw[List.map_cons,List.map_cons,ak,ak,ih,Int.add_mul]
theorem aD(c:Int):sm ([],c)=⟨λ_=>c,c,c,0,0,λ_=>false⟩:=by simp[nS,ao,aq]
theorem cV{c:Int}(h:c.natAbs<=2^880):Ng g ([],c):=⟨⟨λt ht=>(nomatch ht),by simp,by show(sm ([],c)).am<=_;rw[aD];exact Nat.zero_le _,h⟩,λt ht=>(nomatch ht)⟩
theorem kf{j:Int}(h:Ng g n)(B:bC j*(sm n).am<=2^800)(G:g.Ok)(hv:((sm n).val g.lo*j).natAbs<=2^870):
 RS g (eV j n) (λρ=>(sm n).val ρ*j) (2*nP n.1) (nP n.1) (bC j*(sm n).am) (λi=>(sm n).vs i=true):=by
 unfold eV;by_cases q:j=0
 . rw[if_pos q];refine⟨cV (by decide),λρ _=>?_,?_,?_,?_,λi hi=>?_⟩
   . rw[aD,q,Int.mul_zero]
   . rw[aD];exact Nat.zero_le _
   . exact Nat.zero_le _
   . rw[aD];exact Nat.zero_le _
   . rw[aD]at hi;injection hi
 . rw[if_neg q];have val:∀ρ,(sm (n.1.map λt=>{t with k:=t.k*j},n.2*j)).val ρ=(sm n).val ρ*j:=λρ=>by
    show ao (List.map _ (List.map _ n.1))+n.2*j=(ao _+n.2)*j;rw[List.map_map,Int.add_mul,<-lM];congr 2;refine List.map_congr_left λt _=>(Int.mul_assoc ..).symm
   have am:(sm (n.1.map λt=>{t with k:=t.k*j},n.2*j)).am<=bC j*(sm n).am:=by show aq (List.map _ (List.map _ n.1))<=bC j*aq _;rw[List.map_map,<-cF];refine bM λt _=>?_;rw[<-Nat.mul_assoc,Nat.mul_comm (bC j)];exact Nat.mul_le_mul_right _ (o6 ..)
   have F:∀t∈n.1.map λt=>{t with k:=t.k*j},At g t.x t.s t.t:=λt ht=>by refine ab (List.mem_map.mp ht) λu f z=>?_;subst z;exact h.a u f
   refine⟨⟨⟨λt ht=>?_,?_,Nat.le_trans am B,oR G F (Nat.le_trans am B) (by show((sm (n.1.map λt=>{t with k:=t.k*j},n.2*j)).val g.lo).natAbs<=_;rw[val];exact Nat.le_trans hv (by decide))⟩,F⟩,λρ _=>val ρ,?_,?_,am,λi hi=>?_⟩
   . refine ab (List.mem_map.mp ht) λu f z=>?_;subst z;exact Int.mul_ne_zero (h.p.nz u f) q
   . rw[List.map_map];exact h.p.nd
   . show aq (List.map _ (List.map _ n.1))<=2*aq _;rw[List.map_map,<-cF];exact bM λt _=>Nat.mul_le_mul_right _ (mX _)
   . show aq (List.map _ (List.map _ n.1))<=aq _;rw[List.map_map];exact Nat.le_refl _
   . have hi:(List.map (λt=>{t with k:=t.k*j}) n.1).any (λt=>t.s.vs i)=true:=hi;rw[List.any_map]at hi;exact hi
noncomputable def eY:It->aY
 | .inl t=>([t],0)
 | .inr c=>([],c)
theorem fY(i:It):nO (eY i)=iX i:=by
 induction i with
 |inl t=>rfl
 |inr c=>
  show nX [] c=aO c;unfold nX dQ;by_cases q:c=0
  . rw[if_pos q,q];rfl
  . rw[if_neg q];rfl
theorem fc{i:It}(h:i∈aW n):(∃t∈n.1,i= .inl t)\/(n.2≠0/\i= .inr n.2):=by
 unfold aW at h;refine Or.elim (List.mem_append.mp h) (λh=>?_) λh=>?_
 . refine ab (List.mem_map.mp h) λt ht f=>?_;subst f;exact .inl ⟨t,ht,rfl⟩
 . split at h
   . cases h
   . rename_i q;exact .inr ⟨q,List.mem_singleton.mp h⟩
theorem Nd.term(h:Nd g ts r){t:Tm}(ht:t∈ts):Ng g ([t],0):=by have z:bC t.k*t.s.am<=(nS ts r).am:=aR (f:=λt:Tm=>bC t.k*t.s.am) ht;have a:=h.p.am;exact⟨⟨λu i=>by rw[List.mem_singleton.mp i];exact h.p.nz t ht,by simp,by rw[(by simp[nS,aq]:(sm ([t],0)).am=bC t.k*t.s.am)];lia,Nat.zero_le _⟩,λu i=>by rw[List.mem_singleton.mp i];exact h.a t ht⟩
inductive Um(n:aY):Prop
 |num (h:n.1=[]) (e:nO n=aO n.2)
 |one (t:Tm) (h:n=([t],0)) (k:t.k=1) (e:nO n=t.x)
 |mul (t:Tm) (h:n=([t],0)) (k:t.k≠1) (e:nO n=bG 485 t.x t.k (dU t) (d9 t))
 |sum (h:n.1≠[]) (l:(aW n).length>=2) (e:nO n=bZ ((aW n).map iX) (sm n).mn (sm n).mx)
theorem aL(n:aY):Um n:=by
 obtain⟨ts,r⟩:=n
 match ts with
 |[]=>exact .num rfl (fY (.inr r))
 |a::l=>
  by_cases q:l=[]/\r=0
  . refine af q λf i=>?_;clear q;subst f;subst i;by_cases q:a.k=1
    . exact .one a rfl q (if_pos q)
    . exact .mul a rfl q (if_neg q)
  . have h2:(aW (a::l,r)).length>=2:=by
     unfold aW;rw[List.length_append,List.length_map,List.length_cons];by_cases h:l=[]
     . rw[if_neg λe=>q ⟨h,e⟩];simp
     . exact Nat.le_trans (Nat.succ_le_succ (List.length_pos_iff.mpr h)) (Nat.le_add_right _ _)
    refine .sum (by simp) h2 ?_;rcases jO (a::l) r with⟨q1,q2,_⟩|⟨x,q1,q2⟩|⟨q1,q2⟩
    . injection q2
    . have:=congrArg List.length q1;rw[<-jc (a::l,r),List.length_map]at this;rw[this]at h2;exact absurd h2 (Nat.not_succ_le_self 1)
    . rw[jc];exact q2
end
set_option tactic.hygienic false
set_option tactic.hygienic true
section
variable{g:Gv}{x:AV}{s:Sem}{t:Str}{ts us:List Tm}{r:Int}{call:aI}{make:aH}{n m:aY}
theorem cU{C:Addr}{fl:List (Str×AV)}{op:Operator}{y:AV}{f:Addr}(h:ba.op C op (iW y)=some f):oP call make op (.obj C fl) y=call f [.obj C fl,y] []:=by show(match ba.op C op (iW y)with|some f=>call f [.obj C fl,y] []|none=>none)=_;rw[h]
theorem vi{C:Addr}(f:C=430\/C=485\/C=526\/C=574)(a:AV)(b:Int){mn mx:Int}(h:mn<mx):Ev 3 354 [bG C a b mn mx] [] (bG C a b mn mx):=aw (by decide) (by decide) λk _=>by rw[pr _ _ C f,if_pos (decide_eq_true (Int.le_of_lt h)),if_neg (by simp;lia)]
theorem Es{C:Addr}(h:HY C):ba.op C .Mult (.type "int")=some 163:=by rcases h with rfl|rfl|rfl|rfl<;>kernel_rfl
theorem N0(i:g.Ok){t:Tm}(h:At g t.x t.s t.t)(u:t.k≠0):dU t<d9 t:=by have:=rg (ts:=[t]) (r:=0) (by simp) (λs f=>by rw[List.mem_singleton.mp f];exact u) (λs f=>by rw[List.mem_singleton.mp f];exact h.sb i);simp[nS,ao]at this;exact this
theorem BX(i:g.Ok){t:Tm}(h:t.k≠0->Ln g t)(u:At g t.x t.s t.t):Op 6 .Mult t.x (.int t.k) (nO (if t.k=0 then([],0)else([t],0))):=λk f=>by
 refine aP u.obj λC fl e z=>?_;obtain⟨k,rfl⟩:=dW (n:=k) (by lia);by_cases q:t.k=0
 . rw[if_pos q];have:Ev 6 163 [t.x,.int t.k] [] (aO 0):=aw (d:=5) (by decide) (by decide) λk f=>by
    rw[e,Kw,if_pos (by simpa using q),e9 0 k (by exact Nat.le_of_lt f)];rfl
   have:=this (k+1) (by assumption);rw[e]at this⊢;rw[cU (Es z),this];exact congrArg some (fY (.inr 0)).symm
 . rw[if_neg q];have:Ev 6 163 [t.x,.int t.k] [] (bz t):=aw (d:=5) (by lia) (by decide) λk f=>by
    have mk:=DK i (h q) k (by assumption);have B:=vi (C:=485) (.inr (.inl rfl)) t.x t.k (N0 i u q) k (by exact up f rfl);unfold bz;rw[e]at mk B⊢;rw[Kw,if_neg (by simpa using q)];by_cases q1:t.k=1
    . rw[if_pos (by simpa using q1),if_pos q1]
    . rw[if_neg (by simpa using q1),if_neg q1,mk,Option.bind_some,B];rfl
   have:=this (k+1) (by lia);have F:nO ([t],0)=bz t:=rfl;rw[F];rw[e]at this⊢;rw[cU (Es z),this]
noncomputable def Lw(g:Gv)(j:Int):It->Prop
 | .inl t=>t.k≠0/\At g t.x t.s t.t/\(j≠0->Ln g {t with k:=t.k*j})/\Sm t.k=true
 | .inr c=>Sm c=true
theorem FK(B:g.Ok){i:It}{j:Int}(h:Lw g j i)(u:Sm j=true):Op 7 .Mult (iX i) (.int j) (nO (eV j (eY i))):=λk f=>by
 obtain⟨k,rfl⟩:=dW (n:=k) (by lia)
 induction i with
 |inr c=>
  have:Ev 6 314 [aO c,.int j] [] (aO (c*j)):=aw (d:=5) (by decide) (by decide) λk f=>by rw[Ps,im h u,Option.bind_some,e9 _ k (by exact Nat.le_of_lt f)];rfl
  rw[show iX (.inr c)=aO c from rfl,cU (show ba.op 338 .Mult (.type "int")=some 314 by kernel_rfl),this _ (by exact Nat.le_of_lt f)];unfold eV;split
  . rename_i q;rw[q,Int.mul_zero];rfl
  . exact congrArg some (fY (.inr (c*j))).symm
 |inl t=>
  refine eM h λF z G H=>?_;have e0:eV j (eY (.inl t))=if t.k*j=0 then([],0)else([{t with k:=t.k*j}],0):=by
   unfold eV eY;by_cases q:j=0
   . rw[if_pos q,if_pos (by rw[q,Int.mul_zero])]
   . rw[if_neg q,if_neg (Int.mul_ne_zero F q),Int.zero_mul];rfl
  have M:=BX (t:={t with k:=t.k*j}) B (λq=>G λe=>q (by rw[e,Int.mul_zero])) z;rw[e0];refine aP z.obj λC fl e I=>?_;by_cases q:t.k=1
  . have:=M (k+1) (by lia);rw[show iX (.inl t)=t.x from if_pos q];simp only at this;rw[show(AV.int j)= .int (t.k*j) by rw[q,Int.one_mul]];exact this
  . rw[show iX (.inl t)=bG 485 t.x t.k (dU t) (d9 t)from if_neg q,cU (show ba.op 485 .Mult (.type "int")=some 446 by kernel_rfl)];refine aw (d:=6) (by decide) (by decide) (λk f=>?_) (k+1) (by assumption);have M:=M k f;simp only at M;rw[e]at M⊢;rw[Pj,im H u,Option.bind_some,M];rfl
theorem fU(n:aY):(aW n).length<=n.1.length+1:=by unfold aW;rw[List.length_append,List.length_map];split<;>simp
theorem yP(u:g.Ok)(h:Ng g n){j:Int}(F:bC j*(sm n).am<=2^800){i:It}(hi:i∈aW n):Lw g j i:=by
 rcases fc hi with⟨t,ht,rfl⟩|⟨_,rfl⟩
 . have z:=(h.fv u).2.2.2 t ht;have B:bC t.k*t.s.am<=(sm n).am:=aR (f:=λt:Tm=>bC t.k*t.s.am) ht;have G:(sm n).am<=2^800:=h.p.am;have H:=Nat.mul_le_mul_right t.s.am (fb (h.p.nz t ht));refine⟨h.p.nz t ht,h.a t ht,λq=>⟨h.a t ht,?_,?_⟩,bR (by lia)⟩
   . have I:=o6 t.k j;have:=jb (t.k*j);have:=Nat.mul_le_mul B (Nat.le_refl (bC j));rw[Nat.mul_comm (sm n).am,Nat.mul_right_comm]at this;have:=Nat.mul_le_mul_left (bC t.k*bC j) ((h.a t ht).sb u).am;lia
   . show t.s.am<=_;lia
 . exact bR (by have:=h.p.vb;lia)
theorem OV{α β:Type}(l:List α)(f:α->β):l.flatMap (λa=>[f a])=l.map f:=by
 induction l with
 |nil=>rfl
 |cons a l ih=>rw[List.flatMap_cons,ih];rfl
theorem F6(f:It->aY)(n:aY):((aW n).map f).flatMap (·.1)=(n.1.flatMap λt=>(f (.inl t)).1)++(if n.2=0 then[]else(f (.inr n.2)).1)/\ao (((aW n).map f).map (·.2))=ao (n.1.map λt=>(f (.inl t)).2)+(if n.2=0 then 0 else(f (.inr n.2)).2):=by
 unfold aW;rw[List.map_append,List.flatMap_append,List.map_append,ci,List.map_map,List.map_map,List.flatMap_map];constructor
 . congr 1;split<;>simp
 . congr 1;split<;>simp [ao]
theorem Bx{j:Int}(h:Ng g n):cu ((aW n).map λi=>eV j (eY i))=eV j n:=by
 refine af (F6 (λi=>eV j (eY i)) n) λz B=>?_;have f:(n.1.flatMap λt=>(eV j (eY (.inl t))).1)++(if n.2=0 then[]else(eV j (eY (.inr n.2))).1)=(eV j n).1/\ao (n.1.map λt=>(eV j (eY (.inl t))).2)+(if n.2=0 then 0 else(eV j (eY (.inr n.2))).2)=(eV j n).2:=by
  unfold eV eY;by_cases q:j=0
  . simp only[if_pos q];have:∀l:List Tm,ao (l.map λ_=>(0:Int))=0:=λl=>by induction l with
     |nil=>rfl
     |cons a l ih=>rw[List.map_cons,ak,ih];rfl
    refine⟨by simp,?_⟩;rw[this];simp
  . simp only[if_neg q];have:∀l:List Tm,ao (l.map λ_=>(0:Int)*j)=0:=λl=>by induction l with
     |nil=>rfl
     |cons a l ih=>rw[List.map_cons,ak,ih];simp
    refine⟨?_,?_⟩
    . show(n.1.flatMap λt=>[({t with k:=t.k*j}:Tm)])++(if n.2=0 then[]else[])=_;rw[OV,ite_self,List.append_nil]
    . rw[this];split
      . rename_i q2;rw[q2];simp
      . simp
 unfold cu;rw[z,B,f.1,f.2,i6]
 . unfold eV Nn;split
   . simp
   . simp only[List.map_map];exact h.p.nd
 . intro t ht;unfold eV at ht;split at ht
   . cases ht
   . rename_i q;refine ab (List.mem_map.mp ht) λu F G=>?_;subst G;exact Int.mul_ne_zero (h.p.nz u F) q
theorem eA(B:g.Ok){α:Type}(l:List α)(f:α->aY)(h:∀a∈l,Nw g (f a)){p:Nat}(F:∀a∈l,nP (f a).1<=p)(G:p<=120)(hl:l.length+(l.flatMap λa=>(f a).1).length<=400)(am:aq (l.map λa=>(sm (f a)).am)<=2^800):Ev (4*p+11) 211 [.list (l.map λa=>nO (f a))] [] (nO (cu (l.map f))):=by
 have e:=KK B (l.map f) (λn hn=>by refine ab (List.mem_map.mp hn) λa i u=>?_;subst u;exact h a i) (λn hn=>by refine ab (List.mem_map.mp hn) λa i u=>?_;subst u;exact F a i) G (by
  have:∀l:List aY,(l.flatMap λn=>dQ n.1 n.2).length<=l.length+(l.flatMap (·.1)).length:=λl=>by
   induction l with
   |nil=>exact Nat.le_refl _
   |cons a l ih=>
    rewrite[List.flatMap_cons,List.flatMap_cons,List.length_append,List.length_append,List.length_cons];have:(dQ a.1 a.2).length<=a.1.length+1:=by unfold dQ;rw[List.length_append,List.length_map];split<;>simp
    lia
  have:=this (l.map f);rw[List.length_map,List.flatMap_map (g:=λn:aY=>n.1)]at this;lia) (by rw[List.length_map];lia) (by
  have z:=jY (λt:Tm=>bC t.k*t.s.am) (l.map f);rw[List.map_map]at z;have:(2:Nat)^800<=2^850:=Nat.pow_le_pow_right (by decide) (by decide);show aq (((l.map f).flatMap (·.1)).map λt=>bC t.k*t.s.am)<=_;rw[z];exact Nat.le_trans am this)
 rw[List.map_map]at e;exact e
theorem sU(u:g.Ok)(h:Ng g n){j:Int}(F:Sm j=true)(B:bC j*(sm n).am<=2^800)(hv:((sm n).val g.lo*j).natAbs<=2^870){p:Nat}(W:nP n.1<=p)(J:p<=120):Op (4*p+12) .Mult (nO n) (.int j) (nO (eV j n)):=λk z=>by
 have I:=λi hi=>FK u (yP u h B (i:=i) hi) F;have G:n.1.length<=60:=by have:=i8 λt ht=>((h.a t ht).sb u).ph;lia
 rcases aL n with⟨q1,q2⟩|⟨t,rfl,q1,q2⟩|⟨t,rfl,q1,q2⟩|⟨q0,q1,q2⟩
 . rw[q2];have:=FK u (i:= .inr n.2) (j:=j) (bR (by have:=h.p.vb;lia)) F k (by exact up z rfl);have e:eY (.inr n.2)=n:=by show([],n.2)=n;rw[<-q1]
   rw[e]at this;exact this
 . have:=I (.inl t) (by simp[aW]) k (by lia);rw[q2];rw[show iX (.inl t)=t.x from if_pos q1]at this;exact this
 . have:=I (.inl t) (by simp[aW]) k (by lia);rw[q2];rw[show iX (.inl t)=bG 485 t.x t.k (dU t) (d9 t)from if_neg q1]at this;exact this
 . rw[q2,cU (show ba.op 656 .Mult (.type "int")=some 624 by kernel_rfl)];refine aw (d:=4*p+11) (by lia) (by decide) (λk z=>?_) k z;obtain⟨σ',e⟩:=c7 (step:=aU (aF k) (aV k) 624 0 38) (σ0:=[("b",.fz (.int j))]) (sh:=λy=>[("b",.fz (.int j)),("x",.fz y)]) (x:=iX) (f:=λi=>nO (eV j (eY i))) (aW n) (λi hi σ N acc H=>by
    have e:=I i hi k (by exact up z rfl);rcases N with rfl|⟨y,rfl⟩
    . rw[Ai _ _ j _ acc [] (.inl rfl),if_pos H,e];rfl
    . rw[Ai _ _ j _ acc _ (.inr ⟨y,rfl⟩),if_pos H,e];rfl) (by have:=fU n;lia)
   have R:=kf h B u hv;have O:∀i∈aW n,Ng g (eV j (eY i)):=λi hi=>by
    by_cases q:j=0
    . rw[show eV j (eY i)=([],0)from if_pos q];exact cV (by decide)
    . have P:∀m,eV j m=(m.1.map λt=>{t with k:=t.k*j},m.2*j):=λm=>if_neg q;have R:=R.nd;rw[P]at R⊢;rcases fc hi with⟨t,ht,rfl⟩|⟨_,rfl⟩
      . have:=R.term (List.mem_map.mpr ⟨t,ht,rfl⟩);rw[Int.zero_mul];exact this
      . exact cV R.p.vb
   have Q:∀i,(eV j (eY i)).1.length<=1:=λi=>by
    unfold eV;split
    . exact Nat.zero_le _
    . induction i<;>simp [eY]
   have S:=eA u (aW n) (λi=>eV j (eY i)) (λi hi=>(O i hi).w) (p:=p) (λi hi=>?_) J ?_ ?_
   . rw[Bx h]at S;rw[O7,e];show(aF k 211 [.list ((aW n).map λi=>nO (eV j (eY i)))] []).bind some=_;rw[S k z];rfl
   . unfold eV;split
     . exact Nat.zero_le _
     . rcases fc hi with⟨t,ht,rfl⟩|⟨_,rfl⟩
       . have:t.s.ph<=nP n.1:=aR (f:=λt:Tm=>t.s.ph) ht;show t.s.ph+0<=p;lia
       . exact Nat.zero_le _
   . have:∀l:List It,(l.flatMap λi=>(eV j (eY i)).1).length<=l.length:=λl=>by
      induction l with
      |nil=>exact Nat.le_refl _
      |cons a l ih=>rw[List.flatMap_cons,List.length_append,List.length_cons];have:=Q a;lia
     have:=this (aW n);have:=fU n;lia
   . refine Nat.le_trans ?_ B;have e0:∀m:aY,(sm (eV j m)).am<=bC j*(sm m).am:=λm=>by
      unfold eV;split
      . rw[aD];exact Nat.zero_le _
      . show aq (List.map _ (List.map _ m.1))<=bC j*aq _;rw[List.map_map,<-cF];refine bM λt _=>?_;rw[<-Nat.mul_assoc,Nat.mul_comm (bC j)];exact Nat.mul_le_mul_right _ (o6 ..)
     refine Nat.le_trans (bM λi _=>e0 (eY i)) ?_;rw[cF];refine Nat.mul_le_mul_left _ (Nat.le_of_eq ?_);unfold aW;rw[List.map_append,bN,List.map_map];have U:aq ((if n.2=0 then[]else[(Sum.inr n.2:It)]).map λi=>(sm (eY i)).am)=0:=by
      split
      . rfl
      . show(sm ([],n.2)).am+0=0;rw[aD]
     rw[U];rfl
end
set_option tactic.hygienic false
section
variable{g:Gv}{call:aI}{make:aH}{n m a b:aY}{p:Nat}
theorem oU{C:Addr}(h:ue C):C∈dj:=by rcases h with rfl|rfl|rfl|rfl|rfl|rfl|rfl<;>decide
theorem Ik:(dj.all λC=>ba.neg C==some 100&&ba.isin (.ref C) (.type "int")==some false&&ba.isin (.ref C) (.ref 227)==some true&&ba.op C .Add (.type "int")==some 107&&ba.op C .Sub (.type "int")==some 121&&dj.all λD=>ba.op C .Add (.ref D)==some 107&&ba.op C .Sub (.ref D)==some 121)=true:=by kernel_rfl
theorem iA{C:Addr}(h:ue C):ba.neg C=some 100/\ba.isin (.ref C) (.type "int")=some false/\ba.isin (.ref C) (.ref 227)=some true/\ba.op C .Add (.type "int")=some 107/\ba.op C .Sub (.type "int")=some 121/\∀D,ue D->ba.op C .Add (.ref D)=some 107/\ba.op C .Sub (.ref D)=some 121:=by have e:=List.all_eq_true.mp Ik C (oU h);simp only[Bool.and_eq_true,beq_iff_eq]at e;refine af e λf i=>?_;refine af f λu z=>?_;obtain⟨⟨⟨B,F⟩,G⟩,H⟩:=u;refine⟨B,F,G,H,z,λD I=>?_⟩;have:=List.all_eq_true.mp i D (oU I);simpa using this
theorem Nw.len(f:g.Ok)(h:Nw g n)(i:nP n.1<=120):n.1.length<=60:=by have:=i8 λt ht=>((h.a t ht).sb f).ph;lia
theorem AA(z:g.Ok)(B:Ng g a)(hb:Ng g b)(am:(sm a).am+(sm b).am<=2^800)(hv:((sm a).val g.lo+(sm b).val g.lo).natAbs<=2^879+2^863):RS g (cu [a,b]) (λρ=>(sm a).val ρ+(sm b).val ρ) ((sm a).ph+(sm b).ph) (nP a.1+nP b.1) ((sm a).am+(sm b).am) (λi=>(sm a).vs i=true\/(sm b).vs i=true):=by
 have e:∀f:aY->Nat,aq ([a,b].map f)=f a+f b:=λf=>by show f a+(f b+0)=_;lia
 have u:∀f:aY->Int,ao ([a,b].map f)=f a+f b:=λf=>by show f a+(f b+0)=_;lia
 have R:=xu (g:=g) (ns:=[a,b]) (λn hn=>by
  rcases List.mem_cons.mp hn with rfl|hn
  . exact B.w
  . rw[List.mem_singleton.mp hn];exact hb.w) (by rw[e];exact am) z (by rw[u];exact hv)
 refine⟨R.nd,λρ F=>(R.val ρ F).trans (u _),?_,?_,?_,λi hi=>?_⟩
 . have:=R.ph;rwa [e]at this
 . have:=R.p;rwa [e]at this
 . have:=R.am;rwa [e]at this
 . refine ab (R.vs i hi) λn hn h=>?_;rcases List.mem_cons.mp hn with rfl|hn
   . exact .inl h
   . rw[List.mem_singleton.mp hn]at h;exact .inr h
theorem yj(c:Int):Nw g ([],c):=⟨λt ht=>(nomatch ht),by simp[Nn],by show(sm ([],c)).am<=_;rw[aD];exact Nat.zero_le _,λt ht=>(nomatch ht)⟩
theorem uF(f:Ng g a)(c:Int):cu [a,([],c)]=(a.1,a.2+c):=by
 unfold cu;have:[a,(([],c):aY)].flatMap (·.1)=a.1:=by simp
 rw[this,i6 f.p.nd f.p.nz];show(a.1,a.2+(c+0))=_;rw[Int.add_zero]
theorem zN(f:g.Ok)(i:Nw g a)(hb:Nw g b)(u:nP a.1<=p)(z:nP b.1<=p)(B:p<=120)(am:(sm a).am+(sm b).am<=2^800):Ev (4*p+11) 211 [.list [nO a,nO b]] [] (nO (cu [a,b])):=by
 have S:=eA f [a,b] (λn=>n) (λn hn=>by
  rcases List.mem_cons.mp hn with rfl|hn
  . exact i
  . rw[List.mem_singleton.mp hn];exact hb) (p:=p) (λn hn=>by
  rcases List.mem_cons.mp hn with rfl|hn
  . exact u
  . rw[List.mem_singleton.mp hn];exact z) B (by
    have:=i.len f (by lia);have:=hb.len f (by lia);simp;lia) (by show(sm a).am+((sm b).am+0)<=_;assumption)
 rw[List.map_id']at S;exact S
theorem oO(B:g.Ok)(u:Ng g a)(hb:Ng g b)(F:nP a.1<=p)(G:nP b.1<=p)(H:p<=120)(am:(sm a).am+(sm b).am<=2^800):Op (4*p+12) .Add (nO a) (nO b) (nO (cu [a,b])):=λk f=>by have S:=zN B u.w hb.w F G H am;refine aP (bx (r:=a.2) u.a) λC fl e I=>?_;refine aP (bx (r:=b.2) hb.a) λD O i z=>?_;have e:nO a=_:=e;have i:nO b=_:=i;rw[e,i]at S⊢;have J:=iA I;have N:=iA z;rw[cU (J.2.2.2.2.2 D z).1];refine aw (d:=4*p+11) (by lia) (by decide) (λk f=>?_) k f;rw[Py,N.2.1,Option.bind_some,if_neg (by decide),S k f];rfl
theorem i4(u:g.Ok)(f:Ng g a)(z:nP a.1<=p)(B:p<=120){c:Int}:Op (4*p+12) .Add (nO a) (.int c) (nO (a.1,a.2+c)):=λk i=>by have S:=zN u f.w (yj c) z (Nat.zero_le p) B (by have:(sm a).am<=2^800:=f.p.am;rw[aD];exact this);rw[uF f,show nO ([],c)=aO c from fY (.inr c)]at S;refine aP (bx (r:=a.2) f.a) λC fl e F=>?_;have e:nO a=_:=e;rw[e]at S⊢;rw[cU (iA F).2.2.2.1];refine aw (d:=4*p+11) (by lia) (by decide) (λk i=>?_) k i;rw[Ky,e9 _ k (by exact up i rfl),Option.bind_some,S k i];rfl
theorem tu(z:g.Ok)(u:Ng g a)(B:nP a.1<=p)(F:p<=120)(am:XX*(sm a).am<=2^800)(hv:((sm a).val g.lo* -1).natAbs<=2^870):∀k,4*p+13<=k->nG (aF k) (aV k) (nO a)=some (nO (eV (-1) a)):=λk i=>by
 have iN:bC (-1)=XX:=by unfold bC XX;decide
 have M:=sU z u (j:= -1) (by decide) (by rw[iN];exact am) hv B F;refine aP (bx (r:=a.2) u.a) λC fl e G=>?_;have e:nO a=_:=e;rw[e]at M⊢;show(match ba.neg C with|some f=>aF k f [.obj C fl] []|none=>none)=_;rw[(iA G).1];refine aw (d:=4*p+12) (by lia) (by decide) (λk i=>?_) k i;rw[Pz,M k i];rfl
theorem Fo(i:g.Ok)(z:Ng g a)(hb:Ng g b)(G:nP a.1<=p)(B:nP b.1<=p)(F:p<=120)(am:(sm a).am+XX*(sm b).am<=2^800)(hv:((sm b).val g.lo* -1).natAbs<=2^870):Op (4*p+14) .Sub (nO a) (nO b) (nO (cu [a,eV (-1) b])):=λk f=>by
 have iN:bC (-1)=XX:=by unfold bC XX;decide
 have R:=kf (j:= -1) hb (by rw[iN];lia) i hv;have N:=tu i hb B F (by lia) hv;have A:=oO i z R.nd G (Nat.le_trans R.p B) F (by have:=R.am;rw[iN]at this;lia);refine aP (bx (r:=a.2) z.a) λC fl e H=>?_;refine aP (bx (r:=b.2) hb.a) λD J u I=>?_;have e:nO a=_:=e;have u:nO b=_:=u;rw[e]at A⊢;rw[u]at N⊢;rw[cU ((iA H).2.2.2.2.2 D I).2];refine aw (d:=4*p+13) (by lia) (by decide) (λk f=>?_) k f;rw[Px,N k f,Option.bind_some,A k (by exact Nat.le_of_lt f)];rfl
theorem BM(u:g.Ok)(f:Ng g a)(z:nP a.1<=p)(B:p<=120){c:Int}:Op (4*p+13) .Sub (nO a) (.int c) (nO (a.1,a.2-c)):=λk i=>by have A:=i4 u f z B (c:= -c);refine aP (bx (r:=a.2) f.a) λC fl e F=>?_;have e:nO a=_:=e;rw[e]at A⊢;rw[cU (iA F).2.2.2.2.1];refine aw (d:=4*p+12) (by lia) (by decide) (λk i=>?_) k i;rw[Kx,A k (by assumption)];rfl
theorem gR(z:g.Ok)(f:Ng g a){c:Int}(u:(a.2+c).natAbs<=2^880):RS g (a.1,a.2+c) (λρ=>(sm a).val ρ+c) (sm a).ph (nP a.1) (sm a).am (λi=>(sm a).vs i=true):=
 ⟨⟨⟨f.p.nz,f.p.nd,f.p.am,u⟩,f.a⟩,λρ _=>(Int.add_assoc ..).symm,Nat.le_refl _,Nat.le_refl _,Nat.le_refl _,λ_ h=>h⟩
end
section
variable{g:Gv}{call:aI}{make:aH}{n m a b:aY}{p:Nat}
theorem GO{mn mx b:Int}(hb:0<b)(hl:mn<=mx)(h:mn/b≠mx/b):b<=mx-mn\/mx%b<=mn%b:=by
 have f:=Int.mul_ediv_add_emod mn b;have i:=Int.mul_ediv_add_emod mx b;have h1:mn/b<=mx/b:=Int.ediv_le_ediv hb hl;by_cases q:b<=mx-mn
 . exact .inl q
 . right;have:=Int.mul_le_mul_of_nonneg_left (by lia:mn/b+1<=mx/b) (Int.le_of_lt hb);rw[Int.mul_add,Int.mul_one]at this;lia
theorem KD{C:Addr}{fl:List (Str×AV)}{mn mx b:Int}(h:Bd (.obj C fl) mn mx)(h0:0<=mn)(hl:mn<mx)(hb:2<=b)(hd:mn/b≠mx/b):Ev 3 557 [.obj 574 (qq (.obj C fl) (.int b))] [] (.tup [.int 0,.int (b-1)]):=aw (by decide) (by decide) λk _=>by
 refine af (h (aF k) (aV k)) λf i=>?_;rw[Pc,f,i];simp only[Option.bind_some];show(if decide (0<=mn)=true then _ else none)=_;rw[if_pos (by simpa using h0)];show(if decide (b<=mx-mn)=true then _ else _)=_;by_cases q:b<=mx-mn
 . rw[if_pos (by simpa using q)];rfl
 . rw[if_neg (by simpa using q)];show(if(mn !=mx)=true then _ else _)=_;rw[if_pos (by simp;(clear h0;lia)),dt (by exact Int.le_of_lt hb),dt (by exact Int.le_of_lt hb)];show(if decide (mx%b<=mn%b)=true then _ else _)=_;rw[if_pos (decide_eq_true ((GO (by exact Int.le_of_lt hb) (Int.le_of_lt hl) hd).resolve_left q))];rfl
theorem IS{C:Addr}{fl:List (Str×AV)}{mn mx b:Int}(h:Bd (.obj C fl) mn mx)(h0:0<=mn)(hl:mn<mx)(hb:2<=b)(hd:mn/b≠mx/b):Mk 5 574 [.obj C fl,.int b] (IF (.obj C fl) b 0 (b-1)):=mw (d:=3) (by decide) λk f=>by rw[OP,KD h h0 hl hb hd k f];rfl
noncomputable def pM(x:AV)(s:Sem)(t:Str):aY:=([⟨x,s,t,1⟩],0)
theorem vy(x:AV)(s:Sem)(t:Str):nO (pM x s t)=x:=rfl
structure Uu(x:AV)(s:Sem)(t:Str):Prop where
 val:(sm (pM x s t)).val=s.val
 ph:(sm (pM x s t)).ph=s.ph
 p:nP (pM x s t).1=s.ph
 am:(sm (pM x s t)).am=s.am
 vs:(sm (pM x s t)).vs=s.vs
 mn:(sm (pM x s t)).mn=s.mn
 mx:(sm (pM x s t)).mx=s.mx
theorem gM(x:AV)(s:Sem)(t:Str):Uu x s t:=by refine⟨funext λρ=>?_,?_,?_,?_,funext λi=>?_,?_,?_⟩<;>simp [pM,nS,nP,ao,aq,wk,bC,dU,d9]
theorem j6{x:AV}{s:Sem}{t:Str}(h:At g x s t)(i:s.am<=2^800):Ng g (pM x s t):=
 ⟨⟨λu f=>by rw[List.mem_singleton.mp f];exact Int.one_ne_zero,by simp[pM],by show(sm (pM x s t)).am<=_;rw[(gM x s t).am];exact i,Nat.zero_le _⟩,λu f=>by rw[List.mem_singleton.mp f];exact h⟩
noncomputable abbrev Pos(n:aY):Prop:=∀t∈n.1,0<t.k
theorem iM(i:Int):pb (.int i)=some true:=by kernel_rfl
inductive MR(g:Gv)(p:Nat)(n:aY)(b:Int):Prop
 |mk (m:aY) (e:Ev (4*p+14) 206 [nO n,.int b] [] (nO m)) (r:RS g m (λρ=>(sm n).val ρ%b) ((sm n).ph+mm n.1 n.2) ((sm n).ph+mm n.1 n.2) (sm n).am (λi=>(sm n).vs i=true)) (mn:0<=(sm m).mn) (pos:Pos n->Pos m) (len:m.1.length<=n.1.length) (num:m.2.natAbs<=2^864)
theorem nK(u:g.Ok)(h:Ng g n){b:Int}(hb:0<b)(hx:b<=XX)(h0:n.1=[]\/0<=(sm n).mn)(Z:n.1=[]\/n.2.natAbs<=2^870)(G:nP n.1<=p)(cK:p<=120):
 MR g p n b:=by
 refine aP (bx (r:=n.2) h.a) λC fl e hC=>?_;have e:nO n= .obj C fl:=e;have z:Bd (nO n) (sm n).mn (sm n).mx:=lH h.a;have hP:nP n.1<=(sm n).ph:=dC;refine eM (h.fv u) λz1 z2 z3 z4=>?_;have hX:XX<=2^1800:=by unfold XX;exact Nat.pow_le_pow_right (by omega) (by decide)
 have sb:Sm b=true:=bR (by lia);by_cases q1:b=1
 . refine⟨([],0),λk f=>?_,⟨cV (by decide),λρ _=>?_,?_,Nat.zero_le _,?_,λi hi=>?_⟩,?_,λ_ t ht=>(nomatch ht),Nat.zero_le _,Nat.zero_le _⟩
   . rw[show nO ([],0)=aO 0 from fY (.inr 0),e];refine aw (d:=4*p+13) (by lia) (by decide) (λk f=>?_) k f;rw[GE,if_pos (by simpa using hb),if_pos (by simpa using q1),e9 0 k (by exact up f rfl)];rfl
   . rw[aD,q1,Int.emod_one]
   . rw[aD];exact Nat.zero_le _
   . rw[aD];exact Nat.zero_le _
   . rw[aD]at hi;injection hi
   . rw[aD];exact Int.le_refl _
 have iT:=Int.mul_ediv_add_emod (sm n).mn b;have J:=Int.emod_nonneg (sm n).mn (b:=b) (by exact Int.ne_of_gt hb);have N:=Int.emod_lt_of_pos (sm n).mn hb;by_cases q2:(sm n).mn/b=(sm n).mx/b
 . have sE:=Int.mul_ediv_add_emod (sm n).mx b;have UI:=Int.emod_lt_of_pos (sm n).mx hb;rw[<-q2]at sE;generalize hd:(sm n).mn/b=d at*
   have F:(n.2+ -(b*d)).natAbs<=2^863:=by have a1:((sm n).mn-n.2).natAbs<=XX*(sm n).am:=(iJ (r:=n.2) (ρ:=g.lo) λt ht=>(h.a t ht).sb u).1;rw[show n.2+ -(b*d)=(sm n).mn%b-((sm n).mn-n.2) by(clear a1;lia)];exact Nat.le_trans (Int.natAbs_sub_le ..) (Nat.le_trans (Nat.add_le_add (i5 J (Int.le_of_lt N) hx) (Nat.le_trans a1 (gP h.p.am))) (by unfold XX;decide))
   have S:=gR u h (Nat.le_trans F (Nat.pow_le_pow_right (by omega) (by decide)));have Q7:d.natAbs<=2^882:=by
    have:d.natAbs<=(sm n).mn.natAbs:=by rw[<-hd];exact Int.natAbs_ediv_le_natAbs ..
    exact Nat.le_trans this z2
   refine⟨(n.1,n.2+ -(b*d)),λk f=>?_,⟨S.nd,λρ O=>?_,Nat.le_trans S.ph (Nat.le_add_right ..),Nat.le_trans S.p (by lia),S.am,S.vs⟩,?_,λG=>G,Nat.le_refl _,Nat.le_trans F (Nat.pow_le_pow_right (by omega) (by decide))⟩
   . have SB:=BM u h G cK (c:=b*d);rw[show n.2+ -(b*d)=n.2-b*d by(clear SB S F;lia)];rw[e]at z SB⊢;refine aw (d:=4*p+13) (by lia) (by decide) (λk f=>?_) k f;refine af (z (aF k) (aV k)) λH I=>?_;rw[GE,if_pos (by simpa using hb),if_neg (by simpa using q1),H,I];simp only[Option.bind_some,iM,if_true,dl sb hb,hd,<-q2];show(if(d==d)=true then _ else _)=_;rw[if_pos (by simp),im sb (bR (by lia)),Option.bind_some,SB k f];rfl
   . rw[S.val ρ O];refine af (h.bn u O) λb1 b2=>?_;have b1:(sm n).mn<=(sm n).val ρ:=b1;have b2:(sm n).val ρ<=(sm n).mx:=b2;rw[<-(Int.emod_eq_of_lt (a:=(sm n).val ρ+ -(b*d)) (b:=b) (by lia) (by(clear N J hx hb;lia))),show(sm n).val ρ+ -(b*d)=(sm n).val ρ+b* -d by rw[Int.mul_neg],Int.add_mul_emod_self_left]
   . show 0<=ao (n.1.map dU)+(n.2+ -(b*d));have:(sm n).mn=ao (n.1.map dU)+n.2:=rfl;(clear S F;lia)
 . have B:n.1≠[]:=λq=>by
    apply q2;have:n=([],n.2):=by rw[<-q]
    rw[this,aD]
   have h0:=h0.resolve_left B;have P:2<=b:=by lia
   have A:At g _ _ _:= .mod n.1 n.2 b B h.p h.a P ⟨by omega,Z.resolve_left B⟩ h0;obtain⟨s1,Q,U,W,X,Y,s7⟩:=gM (bG 574 (nX n.1 n.2) b 0 (b-1)) (eW n.1 n.2 b) (("(":Str)++nT n.1 n.2++("%":Str)++bb b++(")":Str));refine⟨pM _ _ _,λk f=>?_,⟨j6 A h.p.am,λρ _=>by rw[s1];rfl,Nat.le_of_eq Q,Nat.le_of_eq U,Nat.le_of_eq W,λi hi=>by rw[X]at hi;exact hi⟩,by rw[Y];exact Int.le_refl _,λ_ t ht=>by rw[List.mem_singleton.mp ht];exact Int.one_pos,List.length_pos_iff.mpr B,Nat.zero_le _⟩;rw[vy];have M:=IS (b:=b) (mn:=(sm n).mn) (mx:=(sm n).mx) (e▸z) h0 (h.lt u B) P q2;have e':nX n.1 n.2= .obj C fl:=e;rw[e'];rw[e]at z⊢;refine aw (d:=4*p+13) (by omega) (by decide) (λk f=>?_) k f;refine af (z (aF k) (aV k)) λH I=>?_;rw[GE,if_pos (by simpa using hb),if_neg (by simpa using q1),H,I];simp only[Option.bind_some,iM,if_true,dl sb hb];show(if((sm n).mn/b==(sm n).mx/b)=true then _ else(if decide ((sm n).mn<0)=true then _ else _))=_;rw[if_neg (by simpa using q2),if_neg (by simp;omega),M k (by exact up f rfl),Option.bind_some,(vi (C:=574) (.inr (.inr (.inr rfl))) (.obj C fl) b (mn:=0) (mx:=b-1) (by(clear M s7 Y X W U Q s1 A;lia))) k (by exact up f rfl)];rfl
end
set_option tactic.hygienic true
section
variable{g:Gv}{call:aI}{make:aH}{n m a b:aY}{p:Nat}
theorem yQ(G:It->Int)(f:∀c,G (.inr c)=c)(n:aY):ao ((aW n).map G)=ao (n.1.map λt=>G (.inl t))+n.2:=by
 unfold aW;rw[List.map_append,ci,List.map_map];congr 1;split
 . rename_i q;rw[q];rfl
 . show G (.inr n.2)+0=_;rw[f,Int.add_zero]
theorem gy(G:It->Nat)(f:∀c,G (.inr c)=0)(n:aY):aq ((aW n).map G)=aq (n.1.map λt=>G (.inl t)):=by
 unfold aW;rw[List.map_append,bN,List.map_map];have:aq ((if n.2=0 then[]else[(.inr n.2:It)]).map G)=0:=by
  split
  . rfl
  . show G (.inr n.2)+0=_;rw[f]
 rw[this];rfl
theorem kT(ρ:Nat->Int)(n:aY):ao ((aW n).map λi=>(sm (eY i)).val ρ)=(sm n).val ρ:=by rw[yQ _ λc=>by show(sm ([],c)).val ρ=c;rw[aD]];congr 2;exact List.map_congr_left λt _=>by simp[eY,nS,ao]
theorem yN(n:aY):aq ((aW n).map λi=>(sm (eY i)).ph)=(sm n).ph:=by rw[gy _ λc=>by show(sm ([],c)).ph=0;rw[aD]];rfl
theorem yR(n:aY):aq ((aW n).map λi=>(sm (eY i)).am)=(sm n).am:=by rw[gy _ λc=>by show(sm ([],c)).am=0;rw[aD]];rfl
theorem tF{i:It}(h:i∈aW n){j:Nat}(f:(sm (eY i)).vs j=true):(sm n).vs j=true:=by
 rcases fc h with⟨t,ht,rfl⟩|⟨_,rfl⟩
 . refine ab (cO f) λu z e=>?_;rw[List.mem_singleton.mp z]at e;exact List.any_eq_true.mpr ⟨t,ht,e⟩
 . have:(sm ([],n.2)).vs j=true:=f;rw[aD]at this;injection this
theorem yY{α:Type}{F G:α->Int}{b:Int}{l:List α}(h:∀i∈l,F i%b=G i%b):ao (l.map F)%b=ao (l.map G)%b:=by
 induction l with
 |nil=>rfl
 |cons a l ih=>rw[List.map_cons,List.map_cons,ak,ak,Int.add_emod,h a List.mem_cons_self,ih λi hi=>h i (List.mem_cons_of_mem _ hi),<-Int.add_emod]
theorem Iz{α:Type}{Q:α->aY->Prop}{l:List α}(h:∀i∈l,∃m,Q i m):∃f:α->aY,∀i∈l,Q i (f i):=by
 classical
 exact⟨λi=>if h:∃m,Q i m then h.choose else([],0),λi hi=>by
  have:=h i hi;simp only[dif_pos this];exact this.choose_spec⟩
theorem AB{l:List Tm}{t:Tm}(h:∀u∈l,0<u.k)(ht:0<t.k):∀u∈cx l t,0<u.k:=λu f=>by
 unfold cx at f;split at f
 . refine ab (List.mem_map.mp f) λv hv i=>?_;subst i;have:=h v hv;unfold pO;split
   . show 0<v.k+t.k;lia
   . exact this
 . refine Or.elim (List.mem_append.mp f) (λf=>?_) λf=>?_
   . exact h u f
   . rw[List.mem_singleton.mp f];exact ht
theorem nx:∀(ts l:List Tm),(∀u∈l,0<u.k)->(∀t∈ts,0<t.k)->∀u∈ts.foldl cx l,0<u.k
 |[],_,h,_=>h
 |t::ts,l,h,ht=>nx ts _ (AB h (ht t List.mem_cons_self)) λu f=>ht u (List.mem_cons_of_mem _ f)
theorem xw{ns:List aY}(h:∀n∈ns,Ng g n)(f:∀n∈ns,Pos n):Pos (cu ns)/\(sm (cu ns)).mn=ao (ns.map λn=>(sm n).mn):=by
 have i:∀t∈ns.flatMap (·.1),At g t.x t.s t.t/\0<t.k:=λt ht=>by refine ab (List.mem_flatMap.mp ht) λn hn h1=>?_;exact⟨(h n hn).a t h1,f n hn t h1⟩
 have u:Pos (cu ns):=λt ht=>nx _ [] (λ_ h=>nomatch h) (λt ht=>(i t ht).2) t (List.mem_filter.mp ht).1;refine⟨u,?_⟩;have z:∀l:List Tm,(∀t∈l,0<t.k)->ao (l.map dU)=ao (l.map λt=>t.s.mn*t.k):=λl hl=>congrArg ao (List.map_congr_left λt ht=>if_pos (Int.le_of_lt (hl t ht)));show ao ((tz (ns.flatMap (·.1))).map dU)+ao (ns.map (·.2))=_;rw[z (tz (ns.flatMap λn:aY=>n.1)) u,(uL (λs k=>s.mn*k) (λs j k=>Int.mul_add ..) (λs=>Int.mul_zero _) (uk λt ht=>(i t ht).1)),tR (λt=>t.s.mn*t.k)];refine congrArg ao (List.map_congr_left λn hn=>?_);show _=ao (n.1.map dU)+n.2;rw[z n.1 (f n hn)]
theorem B6{k b:Int}(f:k≠0)(hb:0<b)(hx:b<=XX):bC (k%b)<=bC k:=by
 have h0:=Int.emod_nonneg k (b:=b) (by exact Int.ne_of_gt hb);have h1:=Int.emod_lt_of_pos k hb;unfold bC;rw[if_pos h0];split
 . rename_i q;have:=Int.emod_add_mul_ediv k b;have:=Int.mul_nonneg (Int.le_of_lt hb) (Int.ediv_nonneg q (by exact Int.le_of_lt hb));lia
 . have:XX*1<=XX*k.natAbs:=Nat.mul_le_mul_left _ (by(clear h1 h0 hx hb;omega));(clear hb;lia)
structure MI(g:Gv)(b:Int)(i m:aY):Prop where
 nd:Ng g m
 val:∀ρ,g.In ρ->(sm m).val ρ%b=(sm i).val ρ%b
 pos:Pos m
 mn:0<=(sm m).mn
 ph:(sm m).ph<=(sm i).ph
 am:(sm m).am<=(sm i).am
 vs:∀j,(sm m).vs j=true->(sm i).vs j=true
 len:m.1.length<=1
 num:m.2.natAbs<=2^864
theorem Lf{C:Addr}(h:HY C):ba.eJ (.ref C) [.ref 338,.ref 485]=some false:=by rcases h with rfl|rfl|rfl|rfl<;>kernel_rfl
inductive M4(g:Gv)(p:Nat)(t:Tm)(b:Int):Prop
 |mk (m:aY) (i:MI g b ([t],0) m) (e:Ev (4*p+15) 461 [bz t,.int b] [] (nO m)) (r:RS g m (λρ=>(sm ([t],0)).val ρ%b) (2*t.s.ph) (2*t.s.ph) (sm ([t],0)).am (λj=>(sm ([t],0)).vs j=true))
theorem zO(B:g.Ok){t:Tm}(h:Ng g ([t],0)){b:Int}(hb:0<b)(hx:b<=XX)(iN:t.k≠1)(Z:t.s.ph<=p)(cK:p<=120):M4 g p t b:=by
 have i:=h.a t List.mem_cons_self;have J:=h.p.nz t List.mem_cons_self;have bs:=i.sb B;have h0:=Int.emod_nonneg t.k (b:=b) (by exact Int.ne_of_gt hb);have h1:=Int.emod_lt_of_pos t.k hb;have F:(sm ([t],0)).am=bC t.k*t.s.am:=by simp[nS,aq]
 have hw:wk t.k=2:=if_neg iN;have am:(sm ([t],0)).am<=2^800:=h.p.am;have kp:=Nat.mul_le_mul_right t.s.am (fb J);let v:aY:=if t.k%b=0 then([],0)else([{t with k:=t.k%b}],0)
 have hv:Ng g v/\(∀ρ,(sm v).val ρ=t.s.val ρ*(t.k%b))/\(sm v).ph+mm v.1 v.2<=2*t.s.ph/\(sm v).am<=bC t.k*t.s.am/\(∀j,(sm v).vs j=true->t.s.vs j=true)/\Pos v/\(v.1=[]\/0<=(sm v).mn)/\v.1.length<=1/\nP v.1<=t.s.ph:=by
  show Ng g (if _ then _ else _)/\_;by_cases q:t.k%b=0
  . have:v=([],0):=if_pos q;rw[this,if_pos q,aD];exact⟨cV (by decide),λρ=>by rw[q,Int.mul_zero],Nat.zero_le _,Nat.zero_le _,λ_ h=>(nomatch h),λt ht=>(nomatch ht),.inl rfl,Nat.zero_le _,Nat.zero_le _⟩
  . have:v=([{t with k:=t.k%b}],0):=if_neg q;rw[this,if_neg q];have G:(sm ([{t with k:=t.k%b}],0)).am=bC (t.k%b)*t.s.am:=by simp[nS,aq]
    have O:(sm ([{t with k:=t.k%b}],0)).ph=wk (t.k%b)*t.s.ph:=by simp[nS,aq]
    have P:=Nat.mul_le_mul_right t.s.am (B6 J hb hx);refine⟨⟨⟨λu f=>by rw[List.mem_singleton.mp f];exact q,by simp,by show(sm _).am<=_;rw[G];(clear G;lia),Nat.zero_le _⟩,λu f=>by rw[List.mem_singleton.mp f];exact i⟩,λρ=>by simp[nS,ao],?_,by rw[G];exact P,λj H=>?_,λu f=>by rw[List.mem_singleton.mp f];show 0<t.k%b;lia,.inr ?_,Nat.le_refl _,by show t.s.ph+0<=_;lia⟩
    . rw[O];show wk (t.k%b)*t.s.ph+(if t.k%b=1\/(0:Int)≠0 then 1 else 0)<=_;have:=bs.ph;by_cases q1:t.k%b=1
      . rw[if_pos (.inl q1),q1,show wk 1=1 from rfl];lia
      . rw[if_neg (by simpa using q1),show wk (t.k%b)=2 from if_neg q1];lia
    . refine ab (cO H) λu f e=>?_;rw[List.mem_singleton.mp f]at e;exact e
    . have:(sm ([{t with k:=t.k%b}],0)).mn=t.s.mn*(t.k%b):=by simp[nS,ao,dU,h0]
      rw[this];exact Int.mul_nonneg bs.mn h0
 obtain⟨v1,Q,N,v4,U,W,X,v8,v9⟩:=hv;obtain⟨m,E,R,r1,r2,r3,Y⟩:=nK B v1 hb hx X (.inr (by show Int.natAbs (Prod.snd (if _ then _ else _))<=_;split<;>exact Nat.zero_le _)) (p:=p) (by lia) (by assumption);have val:∀ρ,(sm v).val ρ%b=(sm ([t],0)).val ρ%b:=λρ=>by rw[Q,(λρ=>by simp[nS,ao]:∀ρ,(sm ([t],0)).val ρ=t.s.val ρ*t.k),Int.mul_emod,Int.emod_emod_of_dvd _ (Int.dvd_refl b),<-Int.mul_emod]
 have vs:∀j,(sm m).vs j=true->(sm ([t],0)).vs j=true:=λj H=>List.any_eq_true.mpr ⟨t,List.mem_cons_self,U j (R.vs j H)⟩;refine⟨m,⟨R.nd,λρ I=>by rw[R.val ρ I,Int.emod_emod_of_dvd _ (Int.dvd_refl b),val],r2 W,r1,by have:=R.ph;rw[(by simp[nS,aq]:(sm ([t],0)).ph=wk t.k*t.s.ph),hw];lia,by have:=R.am;rw[F];(clear kp F;lia),vs,by lia,Y⟩,λk z=>?_,⟨R.nd,λρ I=>by rw[R.val ρ I,val],Nat.le_trans R.ph N,Nat.le_trans R.p N,by have:=R.am;rw[F];lia,vs⟩⟩;have hX:XX<=2^900:=by unfold XX;exact Nat.pow_le_pow_right (by decide) (by decide)
 have M:=BX (t:={t with k:=t.k%b}) B (λ_=>⟨i,by show(t.k%b).natAbs<=_;(clear hb;lia),by show t.s.am<=_;lia⟩) i;refine aP i.obj λC fl e hC=>?_;rw[show bz t=bG 485 t.x t.k (dU t) (d9 t)from if_neg iN];refine aw (d:=4*p+14) (by lia) (by decide) (λk z=>?_) k z;have M:oP (aF k) (aV k) .Mult (.obj C fl) (.int (t.k%b))=some (nO v):=by rw[<-e];exact M k (by exact up z rfl)
 rw[e,Pi,dt hb,Option.bind_some,M,Option.bind_some,E k z];rfl
theorem Nf(B:g.Ok)(h:Ng g n){i:It}(hi:i∈aW n){b:Int}(hb:0<b)(hx:b<=XX)(X:nP n.1<=p)(N:p<=120):
 ∃m,MI g b (eY i) m/\∀k,4*p+15<=k->((ba.eJ (iW (iX i)) [.ref 338,.ref 485]).bind λq=>if q=true then oP (aF k) (aV k) .Mod (iX i) (.int b)else some (iX i))=some (nO m):=by
 rcases fc hi with⟨t,ht,rfl⟩|⟨f8,rfl⟩
 . have F:Ng g ([t],0):=h.term ht;have G:=h.a t ht;have Y:t.s.ph<=nP n.1:=aR (f:=λt:Tm=>t.s.ph) ht;by_cases q:t.k=1
   . refine ag ([t],0) ⟨F,λ_ _=>rfl,λu O=>by rw[List.mem_singleton.mp O,q];exact Int.one_pos,?_,Nat.le_refl _,Nat.le_refl _,λ_ h=>h,Nat.le_refl _,Nat.zero_le _⟩ λk z=>?_
     . have:=(G.sb B).mn;simp[nS,ao,dU,q];exact this
     . refine aP G.obj λC fl e P=>?_;rw[show iX (.inl t)=t.x from if_pos q,show nO ([t],0)=t.x from if_pos q,e];rw[Lf P];rfl
   . obtain⟨m,M,E,_⟩:=zO B F hb hx q (p:=p) (by lia) N;refine ag m M λk z=>?_;have E:=E k z;rw[show iX (.inl t)=bG 485 t.x t.k (dU t) (d9 t)from if_neg q];rw[show bz t=bG 485 t.x t.k (dU t) (d9 t)from if_neg q]at E;rw[show ba.eJ (iW (bG 485 t.x t.k (dU t) (d9 t))) [.ref 338,.ref 485]=some true by kernel_rfl,Option.bind_some,if_pos rfl,cU (show ba.op 485 .Mod (.type "int")=some 461 by kernel_rfl)];exact E
 . obtain⟨m,E,R,r1,r2,r3,Q⟩:=nK B (n:=([],n.2)) (cV h.p.vb) hb hx (.inl rfl) (.inl rfl) (p:=p) (Nat.zero_le _) (by assumption);have H:=R.ph;have I:=R.am;have J:=R.vs;rw[aD]at H I J;refine ag m ⟨R.nd,λρ U=>by rw[R.val ρ U,Int.emod_emod_of_dvd _ (Int.dvd_refl b)];rfl,r2 λt ht=>(nomatch ht),r1,?_,?_,λj W=>absurd (J j W) (by simp),Nat.le_trans r3 (Nat.zero_le _),Q⟩ λk z=>?_
   . exact Nat.le_trans H (Nat.zero_le _)
   . exact Nat.le_trans I (Nat.zero_le _)
   . rw[show iX (.inr n.2)=aO n.2 from rfl,show ba.eJ (iW (aO n.2)) [.ref 338,.ref 485]=some true by kernel_rfl,Option.bind_some,if_pos rfl,cU (show ba.op 338 .Mod (.type "int")=some 206 by kernel_rfl)];have:=E k (by exact Nat.le_of_lt z);rw[show nO ([],n.2)=aO n.2 from fY (.inr n.2)]at this;exact this
end
set_option tactic.hygienic false
section
variable{g:Gv}{call:aI}{make:aH}{n m a b:aY}{p:Nat}
theorem kh(ts:List Tm)(r:Int):mm ts r<=1:=by
 refine lc (motive:=λts=>mm ts r<=1) ts (Nat.zero_le _) (λt=>?_) λ_ _ _=>Nat.le_refl _;show(if t.k=1\/r≠0 then 1 else 0)<=1;by_cases q:t.k=1\/r≠0
 . rw[if_pos q];exact Nat.le_refl _
 . rw[if_neg q];exact Nat.zero_le _
theorem FM(h:(aW n).length>=2)(h0:n.1≠[]):mm n.1 n.2=1:=by
 obtain⟨ts,r⟩:=n;rcases ts with _|⟨t,_|⟨u,l⟩⟩
 . exact absurd rfl h0
 . unfold mm;refine if_pos (.inr λq=>?_);subst q;simp[aW]at h
 . rfl
theorem yu{ts:List Tm}{r:Int}(hn:ts≠[])(qm:mm ts r≠1):∃t,ts=[t]/\r=0/\t.k≠1:=by
 rcases ts with _|⟨t,_|⟨u,l⟩⟩
 . exact absurd rfl hn
 . by_cases q:t.k=1\/r≠0
   . exact absurd (if_pos q) qm
   . exact dA t rfl (by lia) (by lia)
 . exact absurd rfl qm
theorem rR{C:Addr}{fl:List (Str×AV)}(h:ue C)(h1:C≠338){b:Int}{k:Nat}(i:3<=k):cM (aF k) (aV k) .Eq (.obj C fl) (.int b)=some false:=by
 have e:ba.eq C (.type "int")=some 93:=by
  rcases h with rfl|rfl|rfl|rfl|rfl|rfl|rfl
  . kernel_rfl
  . exact absurd rfl h1
  all_goals kernel_rfl
 show(match ba.eq C (.type "int")with|some f=>(aF k f [.obj C fl,.int b] []).bind Er|none=>none)=_;rw[e];have:aF k 93 [.obj C fl,.int b] []=some (.bool false):=aw (d:=2) (by decide) (by decide) (λk _=>OX ..) k i;dsimp only;rw[this];rfl
inductive M6(g:Gv)(p:Nat)(n:aY)(b:Int):Prop
 |mk (m:aY) (e:Ev (4*p+17) 637 [bZ ((aW n).map iX) (sm n).mn (sm n).mx,.int b] [] (nO m)) (r:RS g m (λρ=>(sm n).val ρ%b) ((sm n).ph+1) ((sm n).ph+1) (sm n).am (λi=>(sm n).vs i=true))
set_option maxHeartbeats 1000000 in
theorem KB(B:g.Ok)(h:Ng g n)(h0:n.1≠[])(h2:(aW n).length>=2){b:Int}(hb:0<b)(hx:b<=XX)(hp:(sm n).ph<=p)(cK:p<=118):
 M6 g p n b:=by
 have hP:nP n.1<=(sm n).ph:=dC;refine ax (Iz (l:=aW n) (Q:=λi m=>MI g b (eY i) m/\∀k,4*p+15<=k->((ba.eJ (iW (iX i)) [.ref 338,.ref 485]).bind λq=>if q=true then oP (aF k) (aV k) .Mod (iX i) (.int b)else some (iX i))=some (nO m)) λi hi=>Nf B h hi hb hx (by lia) (by lia)) λf hf=>?_;have M:=λi hi=>(hf i hi).1;have H:n.1.length<=60:=h.w.len B (by lia);have hl:=fU n;have I:∀u∈(aW n).map f,Ng g u:=λu hn=>by refine ab (List.mem_map.mp hn) λi hi z=>?_;rw[<-z];exact(M i hi).nd
 have W:∀u∈(aW n).map f,Pos u:=λu hn=>by refine ab (List.mem_map.mp hn) λi hi z=>?_;subst z;exact(M i hi).pos
 have am:aq ((aW n).map λi=>(sm (f i)).am)<=(sm n).am:=by rw[<-yR n];exact bM λi hi=>(M i hi).am
 have ph:aq ((aW n).map λi=>(sm (f i)).ph)<=(sm n).ph:=by rw[<-yN n];exact bM λi hi=>(M i hi).ph
 have J:(sm n).am<=2^800:=h.p.am;have N:(ao (((aW n).map f).map (·.2))).natAbs<=2^870:=by
  rw[List.map_map];have X:=rA (l:=aW n) (f:=(λn:aY=>n.2)∘f) (w:=λ_=>2^864) λi hi=>(M i hi).num;have Y:∀l:List It,aq (l.map λ_=>2^864)=l.length*2^864:=λl=>by
   induction l with
   |nil=>rfl
   |cons a l ih=>rw[List.map_cons,au,ih,List.length_cons,Nat.add_mul];lia
  rw[Y]at X;have e3:(aW n).length*2^864<=64*2^864:=Nat.mul_le_mul_right _ (by lia);(clear hl h2;lia)
 have R:=xv (g:=g) (ns:=(aW n).map f) (λn hn=>(I n hn).w) (by rw[List.map_map];exact Nat.le_trans am J) (Nat.le_trans N (Nat.pow_le_pow_right (by decide) (by decide)));refine af (xw I W) λpo mn=>?_;have Z:0<=(sm (cu ((aW n).map f))).mn:=by
  rw[mn,List.map_map];have:∀l:List It,(∀i∈l,i∈aW n)->0<=ao (l.map ((λn:aY=>(sm n).mn)∘f)):=λl hl=>by
   induction l with
   |nil=>exact Int.le_refl _
   |cons a l ih=>rw[List.map_cons,ak];have:=(M a (hl a List.mem_cons_self)).mn;have:=ih λi hi=>hl i (List.mem_cons_of_mem _ hi);show 0<=(sm (f a)).mn+_;lia
  exact this _ λi hi=>hi
 have F:=R.ph;have O:=R.p;have P:=R.am;rw[List.map_map]at F O P;have F:(sm (cu ((aW n).map f))).ph<=(sm n).ph:=Nat.le_trans F ph;have O:nP (cu ((aW n).map f)).1<=(sm n).ph:=Nat.le_trans dC F;obtain⟨m,E,Q,_⟩:=nK B R.nd hb hx (.inr Z) (.inr N) (p:=p) (by lia) (by lia);have S:=eA B (aW n) f (λi hi=>(M i hi).nd.w) (p:=p) (λi hi=>by
  have:=aR (f:=λi=>(sm (f i)).ph) hi;have:nP (f i).1<=(sm (f i)).ph:=dC;lia) (by lia) (by
  have:∀l:List It,(∀i∈l,i∈aW n)->(l.flatMap λi=>(f i).1).length<=l.length:=λl=>by
   induction l with
   |nil=>intro _;exact Nat.le_refl _
   |cons a l ih=>intro hl;rw[List.flatMap_cons,List.length_append,List.length_cons];have:=(M a (hl a List.mem_cons_self)).len;have:=ih λi hi=>hl i (List.mem_cons_of_mem _ hi);lia
  have:=this _ λi hi=>hi;lia) (Nat.le_trans am J)
 have m1:=kh (cu ((aW n).map f)).1 (cu ((aW n).map f)).2;refine⟨m,?_,⟨Q.nd,λρ G=>?_,by have:=Q.ph;lia-abstractProof,by have:=Q.p;lia-abstractProof,Nat.le_trans Q.am (Nat.le_trans P am),λj hj=>?_⟩⟩
 . refine aw (by lia) (by decide) λk U=>?_;obtain⟨σ',e⟩:=c7 (step:=aU (aF k) (aV k) 637 0 38) (σ0:=[("b",.fz (.int b))]) (sh:=λy=>[("b",.fz (.int b)),("node",.fz y)]) (x:=iX) (f:=λi=>nO (f i)) (aW n) (λi hi σ bJ acc hc=>by
    have e:=(hf i hi).2 k (by exact Nat.le_of_lt U);have st:∀r:ah,(r=[]\/∃y0,r=[(("node":Str),EV.fz y0)])->aU (aF k) (aV k) 637 0 38 (("b",.fz (.int b))::r) [iX i] (.l acc)=(some (([(("b":Str),EV.fz (.int b)),(("node":Str),EV.fz (iX i))]:ah),Acc.l (acc++[nO (f i)])):Option (ah×Acc)):=λr hr=>by
     rw[Hf _ _ b (iX i) acc r hr,if_pos hc]
     induction q:ba.eJ (iW (iX i)) [.ref 338,.ref 485]with
     |none=>rw[q]at e;injection e
     |some q'=>
      rw[q,Option.bind_some]at e;rw[Option.bind_some]
      induction q' with
      |true=>rw[if_pos rfl]at e⊢;rw[e];rfl
      |false=>rw[if_neg (by decide)]at e⊢;rw[<-Option.some.inj e]
    rcases bJ with rfl|⟨y,rfl⟩
    . exact st [] (.inl rfl)
    . exact st _ (.inr ⟨y,rfl⟩)) (by lia)
   rw[O6];refine bE ((rR (C:=656) (.inr (.inr (.inr (.inr (.inr (.inr rfl)))))) (by decide) (by exact up U rfl))) ?_;refine(if_neg (by decide)).trans ?_;rw[e];show(aF k 211 [.list ((aW n).map λi=>nO (f i))] []).bind _=_;refine bE (S k (by lia)) ?_;rw[E k (by lia)];rfl
 . rw[Q.val ρ G,R.val ρ G,List.map_map,<-kT ρ n];exact yY λi hi=>(M i hi).val ρ G
 . refine ab (R.vs j (Q.vs j hj)) λu hn hv=>?_;refine ab (List.mem_map.mp hn) λi hi z=>?_;subst z;exact tF hi ((M i hi).vs j hv)
inductive Uv(g:Gv)(x:AV)(s:Sem)(t:Str):Prop
 |var (i:Nat) (hi:i<3) (hl:g.lo i<g.hi i) (ex:x=dm g i) (es:s=gr g i) (et:t=aN g i)
 |div (ts:List Tm) (r c:Int) (hn:ts≠[]) (nd:Nd g ts r) (hc:2<=c) (am:(cL ts r c).am<=2^800/\r.natAbs<=2^870) (mn:0<=(nS ts r).mn) (ex:x=bG 526 (nX ts r) c (cL ts r c).mn (cL ts r c).mx) (es:s=cL ts r c)
 |mod (ts:List Tm) (r c:Int) (hn:ts≠[]) (nd:Nd g ts r) (hc:2<=c) (am:c<=XX/\r.natAbs<=2^870) (mn:0<=(nS ts r).mn) (ex:x=bG 574 (nX ts r) c 0 (c-1)) (es:s=eW ts r c)
 |lt (ts:List Tm) (c:Int) (hn:ts≠[]) (nd:Nd g ts 0) (ex:x=bG 430 (nX ts 0) c 0 1) (es:s=oD ts c)
theorem At.inv{x:AV}{s:Sem}{t:Str}(h:At g x s t):Uv g x s t:=by
 induction h with
 |var i hi hl=>exact .var i hi hl rfl rfl rfl
 |div ts r c hn hq ha hc jS iT ie sE _=>exact .div ts r c hn ⟨hq,ha⟩ hc jS iT rfl rfl
 |mod ts r c hn hq ha hc nv iT _=>exact .mod ts r c hn ⟨hq,ha⟩ hc nv iT rfl rfl
 |lt ts c hn hq ha h1 h2 _=>exact .lt ts c hn ⟨hq,ha⟩ rfl rfl
inductive MS(g:Gv)(D:Nat)(n:aY)(b:Int):Prop
 |mk (m:aY) (o:Op D .Mod (nO n) (.int b) (nO m)) (r:RS g m (λρ=>(sm n).val ρ%b) ((sm n).ph+mm n.1 n.2) ((sm n).ph+mm n.1 n.2) (sm n).am (λi=>(sm n).vs i=true))
theorem oN(u:g.Ok):∀(p:Nat)(n:aY),Ng g n->(sm n).ph<=p->p<=118->∀b:Int,0<b->b<=XX->MS g (4*p+20) n b:=by
 intro p
 induction p with
 |zero=>
  intro n h z _ b hb hx;have h0:n.1=[]:=Classical.byContradiction λq=>by have:2<=(sm n).ph:=ca (r:=n.2) q λt ht=>(h.a t ht).sb u;lia
  obtain⟨m,E,R,_⟩:=nK u h hb hx (.inl h0) (.inl h0) (p:=0) (by rw[h0];exact Nat.le_refl _) (by decide);refine⟨m,λk f=>?_,R⟩;have e:nO n=aO n.2:=by
   have:n=([],n.2):=by rw[<-h0]
   rw[this];exact fY (.inr n.2)
  have E:=E k (by exact up f rfl);rw[e]at E⊢;rw[cU (show ba.op 338 .Mod (.type "int")=some 206 by kernel_rfl)];exact E
 |succ p IH=>
  intro n h z I b hb hx;have J:nP n.1<=(sm n).ph:=dC;have F:∀C fl,nO n= .obj C fl->ba.op C .Mod (.type "int")=some 206->(n.1=[]\/0<=(sm n).mn)->(n.1=[]\/n.2.natAbs<=2^870)->MS g (4*(p+1)+20) n b:=λC fl e P h0 Q=>by obtain⟨m,E,R,_⟩:=nK u h hb hx h0 Q (p:=p+1) (by lia) (by lia);refine⟨m,λk f=>?_,R⟩;have E:=E k (by lia);rw[e]at E⊢;rw[cU P];exact E
  rcases aL n with⟨q1,q2⟩|⟨t,rfl,q1,q2⟩|⟨t,rfl,q1,q2⟩|⟨q0,q1,q2⟩
  . exact F _ _ q2 (by kernel_rfl) (.inl q1) (.inl q1)
  . have B:=h.a t List.mem_cons_self;have H:0<=(sm ([t],0)).mn:=by
     have:=(B.sb u).mn;simp[nS,ao,dU,q1];exact this
    have G:(sm ([t],0)).val=t.s.val/\(sm ([t],0)).ph=t.s.ph/\(sm ([t],0)).am=t.s.am/\(sm ([t],0)).vs=t.s.vs:=by refine⟨funext λρ=>?_,?_,?_,funext λi=>?_⟩<;>simp [nS,ao,aq,wk,bC,q1]
    rcases B.inv with⟨i,_,_,hx,_⟩|⟨ts,r,c,_,_,_,_,_,hx,_⟩|⟨ts,r,c,hn,hu,hc,nv,iT,ex,hs⟩|⟨ts,c,_,_,hx,_⟩
    . exact F _ _ (q2.trans hx) (by kernel_rfl) (.inr H) (.inr (Nat.zero_le _))
    . exact F _ _ (q2.trans hx) (by kernel_rfl) (.inr H) (.inr (Nat.zero_le _))
    . have q2:=q2.trans ex;have B:=hu.a;by_cases qd:c%b=0
      . refine aP (bx (r:=r) B) λC fl e U=>?_;have step:∀m d,d<=4*(p+1)+18->3<=d->Op d .Mod (nO (ts,r)) (.int b) (nO m)->Op (4*(p+1)+20) .Mod (bG 574 (nX ts r) c 0 (c-1)) (.int b) (nO m):=λm d hd h3 O k f=>by
         rw[cU (show ba.op 574 .Mod (.type "int")=some 542 by kernel_rfl)];refine aw (d:=4*(p+1)+19) (by lia) (by decide) (λk f=>?_) k f;have O:=O k (by lia);rw[show nO (ts,r)= .obj C fl from e]at O;rw[e,Km];refine bE (dt hb) ?_;show(if(c%b==0)=true then _ else _)=_;rw[if_pos (by simpa using qd),O];rfl
        have N:(eW ts r c).ph=(nS ts r).ph+mm ts r:=rfl;have g8:∀m,RS g m (λρ=>(nS ts r).val ρ%b) ((nS ts r).ph+mm ts r) ((nS ts r).ph+mm ts r) (nS ts r).am (λi=>(nS ts r).vs i=true)->RS g m (λρ=>(sm ([t],0)).val ρ%b) ((sm ([t],0)).ph+mm [t] 0) ((sm ([t],0)).ph+mm [t] 0) (sm ([t],0)).am (λi=>(sm ([t],0)).vs i=true):=λm R=>by rw[G.1,G.2.1,G.2.2.1,G.2.2.2,hs];exact⟨R.nd,λρ W=>(R.val ρ W).trans (Int.emod_emod_of_dvd _ (Int.dvd_of_emod_eq_zero qd)).symm,Nat.le_trans R.ph (by rw[N];lia),Nat.le_trans R.p (by rw[N];lia),R.am,R.vs⟩
        have wn:(eW ts r c).ph<=p+1:=by rw[G.2.1,hs]at z;exact z
        by_cases qm:mm ts r=1
        . obtain⟨m,O,R⟩:=IH (ts,r) hu (by show(nS ts r).ph<=p;(clear hs;lia)) (by exact Nat.le_of_lt I) b hb hx;exact⟨m,by rw[q2];exact step m _ (by lia) (by lia) O,g8 m R⟩
        . have:=yu hn qm;refine bV this λt X Y ht=>?_;clear this;subst X;subst Y;have Z:(nS [t] 0).ph=2*t.s.ph:=by simp[nS,aq,wk,ht]
          obtain⟨m,_,E,R⟩:=zO u hu hb hx ht (p:=p+1) (by(clear hs;lia)) (by lia);have O:Op (4*(p+1)+15) .Mod (nO ([t],0)) (.int b) (nO m):=λk f=>by have E:=E k f;rw[show bz t=bG 485 t.x t.k (dU t) (d9 t)from if_neg ht]at E;rw[show nO ([t],0)=bG 485 t.x t.k (dU t) (d9 t)from if_neg ht,cU (show ba.op 485 .Mod (.type "int")=some 461 by kernel_rfl)];exact E
          exact⟨m,by rw[q2];exact step m _ (by(clear O E;lia)) (by(clear O E;lia)) O,g8 m ⟨R.nd,R.val,Nat.le_trans R.ph (by(clear J z;lia)),Nat.le_trans R.p (by lia),R.am,R.vs⟩⟩
      . obtain⟨m,E,R,_⟩:=nK u h hb hx (.inr H) (.inr (Nat.zero_le _)) (p:=p+1) (by lia) (by lia);refine⟨m,λk f=>?_,R⟩;refine aP (bx (r:=r) B) λC fl e U=>?_;rw[q2]at E⊢;rw[cU (show ba.op 574 .Mod (.type "int")=some 542 by kernel_rfl)];refine aw (d:=4*(p+1)+19) (by lia) (by decide) (λk f=>?_) k f;have E:=E k (by lia);rw[e]at E⊢;rw[Km];refine bE (dt hb) ?_;show(if(c%b==0)=true then _ else _)=_;rw[if_neg (by simpa using qd),E];rfl
    . exact F _ _ (q2.trans hx) (by kernel_rfl) (.inr H) (.inr (Nat.zero_le _))
  . obtain⟨m,_,E,R⟩:=zO u h hb hx q1 (p:=p+1) (by
     have:nP [t]<=p+1:=Nat.le_trans J z;assumption) (by lia)
    have Z:(sm ([t],0)).ph=2*t.s.ph:=by simp[nS,aq,wk,q1]
    refine⟨m,λk f=>?_,⟨R.nd,R.val,Nat.le_trans R.ph (by lia),Nat.le_trans R.p (by lia),R.am,R.vs⟩⟩;have E:=E k (by lia);rw[show bz t=bG 485 t.x t.k (dU t) (d9 t)from if_neg q1]at E;rw[q2,cU (show ba.op 485 .Mod (.type "int")=some 461 by kernel_rfl)];exact E
  . obtain⟨m,E,R⟩:=KB u h q0 q1 hb hx (p:=p+1) z I;rw[<-FM q1 q0]at R;refine⟨m,λk f=>?_,R⟩;rw[q2,cU (show ba.op 656 .Mod (.type "int")=some 637 by kernel_rfl)];exact E k (by lia)
end
section
variable{g:Gv}{call:aI}{make:aH}{n m a b:aY}{p:Nat}
theorem qY{ts:List Tm}{r:Int}(h:∀t∈ts,SB t.s):(nS ts r).mx-(nS ts r).mn<=(XX*(nS ts r).am:Nat)/\ao (ts.map d9)<=(XX*(nS ts r).am:Nat):=by
 have e:((XX*(nS ts r).am:Nat):Int)=ao (ts.map λt=>((XX*(bC t.k*t.s.am):Nat):Int)):=by
  have:XX*(nS ts r).am=aq (ts.map λt=>XX*(bC t.k*t.s.am)):=(cF XX).symm;rw[this];generalize ts=l
  induction l with
  |nil=>rfl
  |cons a l ih=>rw[List.map_cons,List.map_cons,au,ak,<-ih];rfl
 have d:∀l:List Tm,ao (l.map d9)-ao (l.map dU)=ao (l.map λt=>d9 t-dU t):=λl=>by
  induction l with
  |nil=>rfl
  |cons a l ih=>rw[List.map_cons,List.map_cons,List.map_cons,ak,ak,ak,<-ih];lia
 have key:∀t∈ts,d9 t-dU t<=((XX*(bC t.k*t.s.am):Nat):Int)/\d9 t<=((XX*(bC t.k*t.s.am):Nat):Int):=λt ht=>by
  have b:=h t ht;have b1:=b.mn;have b2:=b.lt;have b3:=b.mx;have z:XX*t.s.am*t.k.natAbs<=XX*(bC t.k*t.s.am):=by rw[Nat.mul_assoc,Nat.mul_comm t.s.am];exact Nat.mul_le_mul_left _ (Nat.mul_le_mul_right _ (jb t.k))
  unfold d9 dU;by_cases q:0<=t.k
  . rw[if_pos q,if_pos q];have f:t.s.mx*t.k<=(XX*t.s.am:Nat)*t.k:=Int.mul_le_mul_of_nonneg_right b3 q;have i:0<=t.s.mn*t.k:=Int.mul_nonneg b1 q;have u:=Int.le_trans f (by rw[<-Int.natAbs_of_nonneg q,<-Int.natCast_mul];exact Int.ofNat_le.mpr z);exact⟨Int.le_trans (Int.sub_le_self _ i) u,u⟩
  . rw[if_neg q,if_neg q];have f:t.s.mx* -t.k<=(XX*t.s.am:Nat)* -t.k:=Int.mul_le_mul_of_nonneg_right b3 (by lia);have i:0<=t.s.mn* -t.k:=Int.mul_nonneg b1 (by lia);rw[Int.mul_neg]at f i;have u:=Int.le_trans f (by rw[<-Int.ofNat_natAbs_of_nonpos (Int.le_of_lt (Int.not_le.mp q)),<-Int.natCast_mul];exact Int.ofNat_le.mpr z);have B:=Int.nonpos_of_neg_nonneg i;exact⟨Int.le_trans (Int.add_le_add B u) (Int.le_of_eq (Int.zero_add _)),Int.le_trans B (Int.natCast_nonneg _)⟩
 rw[e];refine⟨?_,je λt ht=>(key t ht).2⟩;have:(nS ts r).mx-(nS ts r).mn=ao (ts.map d9)-ao (ts.map dU):=by exact Int.add_sub_add_right ..
 rw[this,d];exact je λt ht=>(key t ht).1
theorem IT{C:Addr}{fl:List (Str×AV)}{mn mx b:Int}(h:Bd (.obj C fl) mn mx)(h0:0<=mn)(hb:0<b)(sb:Sm b=true):Mk 5 526 [.obj C fl,.int b] (IF (.obj C fl) b (mn/b) (mx/b)):=mw (d:=3) (by lia) λk f=>by
 have:Ev 3 509 [.obj 526 (qq (.obj C fl) (.int b))] [] (.tup [.int (mn/b),.int (mx/b)]):=aw (by lia) (by decide) λk _=>by refine af (h (aF k) (aV k)) λi u=>?_;rw[Pe,i,u];simp only[Option.bind_some];show(if decide (0<=mn)=true then _ else none)=_;rw[if_pos (by simpa using h0),dl sb hb,dl sb hb];rfl
 rw[OQ,this k f];rfl
theorem GP{A:Nat}{b mx:Int}(hb:2<=b)(f:1<=A)(h:mx<(XX*A:Nat)+b):mx/b<=(XX*(b.natAbs*A):Nat):=by
 have i:((XX*(b.natAbs*A):Nat):Int)=(XX*A:Nat)*b:=by rw[Nat.mul_comm b.natAbs,<-Nat.mul_assoc,Int.natCast_mul,Int.natAbs_of_nonneg (Int.le_trans (by decide) hb)]
 rw[i];have u:1<=XX*A:=Nat.le_trans f (Nat.le_mul_of_pos_left _ (by unfold XX;lia));refine Int.ediv_le_of_le_mul (by lia) ?_;generalize XX*A=Z at*
 have h2:(Z:Int)*4<=Z*(b*b):=Int.mul_le_mul_of_nonneg_left (by have:=Int.mul_le_mul hb hb (by lia) (by lia);lia) (by lia);have z:(1:Int)*(b*b)<=Z*(b*b):=Int.mul_le_mul_of_nonneg_right (by lia) (Int.mul_nonneg (by lia) (by lia));have B:b*2<=b*b:=Int.mul_le_mul_of_nonneg_left hb (by lia);rw[Int.mul_assoc];lia
inductive FP(g:Gv)(n:aY)(b:Int):Prop
 |mk (m:aY) (e:∀C fl,nO n= .obj C fl->∀k,5<=k->∀fa,iq (aF k) (aV k) C fl b fa=some (nO m)) (r:RS g m (λρ=>(sm n).val ρ/b) ((sm n).ph+md n.1) ((sm n).ph+md n.1) (b.natAbs*(sm n).am) (λi=>(sm n).vs i=true)) (num:m.2.natAbs<=2^882)
theorem zr(f:g.Ok)(h:Ng g n){b:Int}(hb:2<=b)(sb:Sm b=true)(G:b.natAbs*(sm n).am<=2^800)(h0:0<=(sm n).mn)(hr:n.1=[]\/n.2<b\/(sm n).mn<b):
 FP g n b:=by
 have H:Bd (nO n) (sm n).mn (sm n).mx:=lH h.a;refine eM (h.fv f) λz1 I z3 z4=>?_;have I:(sm n).mn.natAbs<=2^882:=I;have J:∀i:Int,(i/b).natAbs<=i.natAbs:=λi=>Int.natAbs_ediv_le_natAbs ..;have st:∀C fl,nO n= .obj C fl->∀k,5<=k->∀B,iq (aF k) (aV k) C fl b B=(aF k 354 [bG 526 (nO n) b ((sm n).mn/b) ((sm n).mx/b)] []).bind some:=λC fl e k u B=>by have M:=IT (e▸H) h0 (show 0<b by lia) sb k (by lia);rw[e]at H⊢;refine af (H (aF k) (aV k)) λN W=>?_;unfold iq;rw[if_pos (by simp;lia),if_neg (by simp;lia),if_neg (by simp;lia),N];show(if decide ((sm n).mn<0)=true then _ else _)=_;rw[if_neg (by simp;lia),M];rfl
 have z:(sm n).mn/b<=(sm n).mx/b:=Int.ediv_le_ediv (by lia) (by
  by_cases q:n.1=[]
  . have:n=([],n.2):=by rw[<-q]
    rw[this,aD];exact Int.le_refl _
  . exact Int.le_of_lt (h.lt f q))
 by_cases q:(sm n).mn/b=(sm n).mx/b
 . have X:((sm n).mn/b).natAbs<=2^880:=by
    by_cases q2:n.1=[]
    . have e0:n=([],n.2):=by rw[<-q2]
      have:=J (sm n).mn;rw[e0,aD]at this⊢;exact Nat.le_trans this h.p.vb
    . have a1:((sm n).mn-n.2).natAbs<=2^862:=Nat.le_trans (iJ (r:=n.2) (ρ:=g.lo) λt ht=>(h.a t ht).sb f).1 (gP h.p.am);have O:0<=(sm n).mn/b:=Int.ediv_nonneg h0 (by lia);exact Co O (Int.le_trans (Int.mul_le_mul_of_nonneg_right hb O) (Int.mul_ediv_self_le (by lia))) (pW a1 h.p.vb (Nat.le_refl _)) (by decide)
   refine⟨([],(sm n).mn/b),λC fl e k u B=>?_,⟨cV X,λρ Y=>?_,?_,Nat.zero_le _,?_,λi hi=>?_⟩,by have:=J (sm n).mn;show((sm n).mn/b).natAbs<=_;lia⟩
   . have M:=e9 ((sm n).mn/b);have E:Ev 5 354 [bG 526 (nO n) b ((sm n).mn/b) ((sm n).mx/b)] [] (aO ((sm n).mn/b)):=aw (d:=4) (by lia) (by decide) λk u=>by
      rw[pr _ _ 526 (.inr (.inr (.inl rfl))),if_pos (decide_eq_true z),if_pos (by simpa using q),M k u];rfl
     rw[st C fl e k u,E k u,show nO ([],(sm n).mn/b)=aO ((sm n).mn/b)from fY (.inr _)];rfl
   . refine af (h.bn f Y) λb1 b2=>?_;rw[aD];have N:(sm n).mn/b<=(sm n).val ρ/b:=Int.ediv_le_ediv (by lia) b1;have W:(sm n).val ρ/b<=(sm n).mx/b:=Int.ediv_le_ediv (by lia) b2;lia
   . rw[aD];exact Nat.zero_le _
   . rw[aD];exact Nat.zero_le _
   . rw[aD]at hi;injection hi
 . have F:n.1≠[]:=λe=>by
    apply q;have:n=([],n.2):=by rw[<-e]
    rw[this,aD]
   have P:1<=(sm n).am:=cz (r:=n.2) F h.p.nz λt ht=>(h.a t ht).sb f;refine af (qY (r:=n.2) λt ht=>(h.a t ht).sb f) λr1 r2=>?_;have Q:(sm n).mn/b<(sm n).mx/b:=Int.lt_iff_le_and_ne.mpr ⟨z,q⟩;have r1:(sm n).mx-(sm n).mn<=(XX*(sm n).am:Nat):=r1;have r2:ao (n.1.map d9)<=(XX*(sm n).am:Nat):=r2;have r3:(sm n).mx=ao (n.1.map d9)+n.2:=rfl;have Z:=GP (A:=(sm n).am) (mx:=(sm n).mx) hb P (by
    rcases hr with hr|hr|hr
    . exact absurd hr F
    . rw[r3];exact Int.add_lt_add_of_le_of_lt r2 hr
    . exact Int.lt_of_le_of_lt (Int.le_add_of_sub_right_le r1) (Int.add_lt_add_left hr _))
   have D0:n.2.natAbs<=2^870:=by
    have a1:((sm n).mn-n.2).natAbs<=2^862:=Nat.le_trans (iJ (r:=n.2) (ρ:=g.lo) λt ht=>(h.a t ht).sb f).1 (gP h.p.am);have U:b.natAbs<=2^800:=Nat.le_trans (Nat.le_mul_of_pos_right _ P) G;rcases hr with hr|hr|hr
    . exact absurd hr F
    . exact PO (x:=n.2-(sm n).mn) (y:=b) (Int.sub_le_self _ h0) (Int.le_of_lt hr) (by rw[<-Int.natAbs_neg,Int.neg_sub];exact Nat.le_trans a1 (by decide)) (Nat.le_trans U (by decide))
    . exact xj a1 (i5 h0 (Int.le_of_lt hr) (tC U)) (by decide)
   obtain⟨s1,s2,s3,s4,s5,s6,s7⟩:=gM (bG 526 (nX n.1 n.2) b (cL n.1 n.2 b).mn (cL n.1 n.2 b).mx) (cL n.1 n.2 b) (("(":Str)++nT n.1 n.2++("//":Str)++bb b++(")":Str));refine⟨pM _ _ _,λC fl e k u B=>?_,⟨j6 (.div n.1 n.2 b F h.p h.a hb ⟨G,D0⟩ h0 Q (by exact_mod_cast Z)) G,λρ _=>by rw[s1];rfl,Nat.le_of_eq s2,Nat.le_of_eq s3,Nat.le_of_eq s4,λi hi=>by rw[s5]at hi;exact hi⟩,Nat.zero_le _⟩;rw[st C fl e k u,vi (.inr (.inr (.inl rfl))) (nO n) b Q k (by lia),vy];rfl
end
section
variable{g:Gv}{call:aI}{make:aH}{n m a b:aY}{p:Nat}
theorem FJ(i:Int):nG call make (.int i)=some (.int (-i)):=by kernel_rfl
theorem Na{x y:Int}(h:x<0)(h':0<=y):x.natAbs<=(x-y).natAbs:=FI.mpr ⟨by rw[Int.ofNat_natAbs_of_nonpos (Int.le_trans (Int.sub_le_self x h') (Int.le_of_lt h)),Int.neg_neg];exact Int.sub_le_self x h',Int.le_trans (Int.le_of_lt h) (Int.natCast_nonneg _)⟩
inductive FS(g:Gv)(p:Nat)(n:aY)(b:Int):Prop
 |mk (m:aY) (e:∀C fl,nO n= .obj C fl->∀k,4*p+16<=k->∀fa,iq (aF k) (aV k) C fl b fa=some (nO m)) (r:RS g m (λρ=>(sm n).val ρ/b) ((sm n).ph+md n.1) ((sm n).ph+md n.1) (b.natAbs*(sm n).am) (λi=>(sm n).vs i=true))
set_option maxHeartbeats 2000000 in
theorem Cu(u:g.Ok)(h:Ng g n){b:Int}(hb:2<=b)(hB:b.natAbs<=2^870)(H:b.natAbs*(sm n).am<=2^800)(hr:n.1=[]\/0<=n.2/\n.2<b)(hp:(sm n).ph<=p)(cK:p<=118):
 FS g p n b:=by
 have sb:Sm b=true:=bR (by lia);by_cases q:0<=(sm n).mn
 . obtain⟨m,E,R,_⟩:=zr u h hb sb H q (hr.imp id λz=> .inl z.2);exact⟨m,λC fl e k B Y=>E C fl e k (by exact up B rfl) Y,R⟩
 have hP:nP n.1<=(sm n).ph:=dC;refine eM (h.fv u) λz1 U z3 z4=>?_;have U:(sm n).mn.natAbs<=2^882:=U;have Z:=Int.mul_ediv_add_emod (sm n).mn b;have I:=Int.emod_nonneg (sm n).mn (b:=b) (by lia);have J:=Int.emod_lt_of_pos (sm n).mn (b:=b) (by exact Int.le_of_lt hb);have N:((sm n).mn/b).natAbs<=(sm n).mn.natAbs:=Int.natAbs_ediv_le_natAbs ..;have e5:(sm n).mn/b<0:=Int.ediv_neg_of_neg_of_pos (by exact Int.not_le.mp q) (by lia);have a1:((sm n).mn-n.2).natAbs<=2^862:=Nat.le_trans (iJ (r:=n.2) (ρ:=g.lo) λt ht=>(h.a t ht).sb u).1 (gP h.p.am);have O:((sm n).mn/b).natAbs<=2^879\/n.1=[]:=hr.elim .inr λhr=> .inl (Nat.le_trans N (Nat.le_trans (Na (Int.not_le.mp q) hr.1) (Nat.le_trans a1 (by decide))));generalize hd:(sm n).mn/b=d at*
 have Q7:b*d= -(-d*b):=by rw[Int.neg_mul,Int.neg_neg,Int.mul_comm]
 have P:(sm n).mn%b=(sm n).mn+ -d*b:=Int.sub_eq_iff_eq_add.mp (by rw[Q7,Int.add_comm]at Z;exact Z);have hv:(n.2+ -d*b).natAbs<=2^880:=by rw[show n.2+ -d*b=(sm n).mn%b-((sm n).mn-n.2) by rw[P,Int.add_comm (sm n).mn,Int.add_sub_assoc,Int.sub_sub_self,Int.add_comm]];exact Nat.le_trans (Int.natAbs_sub_le ..) (Nat.le_trans (Nat.add_le_add (i5 I (Int.le_of_lt J) (tC hB)) a1) (by decide))
 have S:=gR u h hv;have W:(sm (n.1,n.2+ -d*b)).mn=(sm n).mn%b:=by rw[P];exact(Int.add_assoc ..).symm
 obtain⟨m,E,R,hm⟩:=zr (n:=(n.1,n.2+ -d*b)) u S.nd hb sb H (by rw[W];exact I) (.inr (.inr (by rw[W];exact J)));have Rp:nP m.1<=p+1:=Nat.le_trans R.p (Nat.add_le_add hp (Nat.le_trans (ki _ 0) (kh _ _)));have tO:(m.2+d).natAbs<=2^880:=by
  by_cases q1:n.1=[]
  . have e0:n=([],n.2):=by rw[<-q1]
    have e6:m.1=[]:=by
     have:=R.ph;have ez:(sm (n.1,n.2+ -d*b)).ph+md (n.1,n.2+ -d*b).1=0:=by show aq (n.1.map _)+md n.1=0;rw[q1];rfl
     rw[ez]at this;exact Classical.byContradiction λz=>absurd (Nat.le_trans (ca (r:=m.2) z λt ht=>(R.nd.a t ht).sb u) this) (by decide)
    have G:=R.val g.lo u.cX;rw[(by rw[<-e6]:m=([],m.2)),aD]at G;rw[(by rw[q1,aD]:(sm (n.1,n.2+ -d*b)).val g.lo=n.2+ -d*b)]at G;have:(sm n).mn=n.2:=by rw[e0,aD]
    have:(n.2+ -d*b)/b=0:=Int.ediv_eq_zero_of_lt (by rw[<-this,<-P];exact I) (by rw[<-this,<-P];exact J);have G:m.2=(n.2+ -d*b)/b:=G;rw[G,‹(n.2+ -d*b)/b=0›,Int.zero_add];exact Nat.le_trans N (by rw[‹(sm n).mn=n.2›];exact Nat.le_trans h.p.vb (by decide))
  . have O:=O.resolve_right q1;have hA:1<=(sm n).am:=cz (r:=n.2) q1 h.p.nz λt ht=>(h.a t ht).sb u;have Ui:(sm m).am<=2^800:=Nat.le_trans R.am H;have a2:=gP Ui;have a1:=(iJ (r:=m.2) (ρ:=g.lo) λt ht=>(R.nd.a t ht).sb u).2.2 λt ht=>(R.nd.a t ht).bn u u.cX;have a1:((sm m).val g.lo-m.2).natAbs<=XX*(sm m).am:=a1;rw[R.val g.lo u.cX]at a1;have b1:=(S.nd.bn u u.cX).1;have b1:(sm (n.1,n.2+ -d*b)).mn<=(sm (n.1,n.2+ -d*b)).val g.lo:=b1;have b2:=(S.nd.bn u u.cX).2;have b3:=(qY (r:=n.2+ -d*b) λt ht=>(h.a t ht).sb u).1;have b3:(sm (n.1,n.2+ -d*b)).mx-(sm (n.1,n.2+ -d*b)).mn<=(XX*(sm n).am:Nat):=b3;rw[W]at b1 b3;have Cd:((sm (n.1,n.2+ -d*b)).val g.lo).natAbs<=2^862+2^800:=i5 (Int.le_trans I b1) b2 (by
     rw[Int.natCast_add];exact Int.le_trans (Int.le_add_of_sub_right_le b3) (Int.add_le_add (Int.ofNat_le.mpr (gP h.p.am)) (Int.le_of_lt (Int.lt_of_lt_of_le J (tC (Nat.le_trans (Nat.le_mul_of_pos_right _ hA) H))))))
    exact Nat.le_trans (Int.natAbs_add_le ..) (Nat.le_trans (Nat.add_le_add (xj (Nat.le_trans a1 a2) (Nat.le_trans (Int.natAbs_ediv_le_natAbs ..) Cd) (Nat.le_refl _)) O) (by decide))
 have F:=gR u R.nd tO;have X0:0< -d*b:=Int.mul_pos (Int.neg_pos_of_neg e5) (Int.lt_of_lt_of_le (by decide) hb);refine⟨(m.1,m.2+d),λC fl e k B Y=>?_,⟨F.nd,λρ X=>?_,Nat.le_trans F.ph R.ph,Nat.le_trans F.p R.p,Nat.le_trans F.am R.am,λi hi=>R.vs i (F.vs i hi)⟩⟩
 . have rG:Bd (nO n) (sm n).mn (sm n).mx:=lH h.a;have A1:=i4 u h (p:=p) (by lia) (by lia) (c:= -d*b) k (by lia);have A2:=i4 u R.nd (p:=p+1) Rp (by lia) (c:=d) k (by assumption);have sd:Sm (-d)=true:=bR (Int.natAbs_neg d▸Nat.le_trans N (Nat.le_trans U (Nat.pow_le_pow_right (by lia) (by decide))));have E2:∀j,6<=j->∀C fl,nO (n.1,n.2+ -d*b)= .obj C fl->aF j 192 [.obj C fl,.int b] [("factoring_allowed",.bool false)]=some (nO m)/\aF j 192 [.obj C fl,.int b,.bool false] []=some (nO m):=λj hj C fl e=>
    ⟨aw (d:=5) (by decide) (by decide) (λk B=>(Kv ..).trans (E C fl e k B _)) j hj,aw (d:=5) (by lia) (by decide) (λk B=>(zz ..).trans (E C fl e k B _)) j hj⟩
   have E3:(bH (nO (n.1,n.2+ -d*b)) "__floordiv__" λf v=>(aF k f [v,.int b] [("factoring_allowed",.bool false)]).bind λr=>(oP (aF k) (aV k) .Add r (.int d)).bind some)=some (nO (m.1,m.2+d)):=by
    rcases aL (n.1,n.2+ -d*b)with⟨q1,q2⟩|⟨t,q0,_⟩|⟨t,q0,_⟩|⟨q0,q1,q2⟩
    . rw[q2,bl (show ba.cZ 338 "__floordiv__"=some 192 by kernel_rfl),(E2 k (by exact up B rfl) _ _ q2).1,Option.bind_some,A2];rfl
    . have:=congrArg (·.2) q0;have h1:=congrArg (·.1) q0;simp only at this h1;refine Or.elim hr (λhr=>?_) λhr=>?_
      . rw[hr]at h1;injection h1
      . exact absurd this (Int.ne_of_gt (Int.add_pos_of_nonneg_of_pos hr.1 X0))
    . have:=congrArg (·.2) q0;have h1:=congrArg (·.1) q0;simp only at this h1;refine Or.elim hr (λhr=>?_) λhr=>?_
      . rw[hr]at h1;injection h1
      . exact absurd this (Int.ne_of_gt (Int.add_pos_of_nonneg_of_pos hr.1 X0))
    . have Q:Ev 8 632 [nO (n.1,n.2+ -d*b),.int b] [("factoring_allowed",.bool false)] (nO m):=aw (d:=7) (by decide) (by decide) λk B=>by
       rw[q2,Ki,rR (C:=656) (.inr (.inr (.inr (.inr (.inr (.inr rfl)))))) (by decide) (by exact up B rfl),Option.bind_some,if_neg (by decide),if_neg (by simp;exact Int.ne_of_gt hb),(E2 k (by exact Nat.le_of_lt B) _ _ q2).2];rfl
      have Q:=Q k (by exact up B rfl);rw[q2]at Q⊢;rw[bl (show ba.cZ 656 "__floordiv__"=some 632 by kernel_rfl),Q,Option.bind_some,A2];rfl
   rw[e]at rG A1;refine af (rG (aF k) (aV k)) λg1 g2=>?_;unfold iq;rw[if_pos (by simp;lia),if_neg (by simp;lia),if_neg (by simp;lia),g1];show(if decide ((sm n).mn<0)=true then _ else _)=_;rw[if_pos (by simpa using q)];simp only[Option.bind_some,dl sb (show 0<b by lia),hd,FJ,im sd sb,A1];exact E3
 . rw[F.val ρ X,R.val ρ X,S.val ρ X];rw[Int.add_mul_ediv_right _ _ (by lia:b≠0)];(clear O N;lia)
end
section
variable{g:Gv}{call:aI}{make:aH}{n m a:aY}{p:Nat}{b:Int}
noncomputable def fB(b:Int)(t:Tm):Bool:=decide (t.k%b=0)
noncomputable def gB(b:Int)(t:Tm):Bool:= !fB b t
noncomputable def tq(b:Int)(t:Tm):Tm:={t with k:=t.k/b}
noncomputable def GG(b:Int)(ts:List Tm):Int:=ts.foldl (λg t=>if fB b t then g else if t.k=1 then 1 else Int.gcd g t.k) b
noncomputable def DD(b:Int)(ts:List Tm):Int:=ts.foldl (λd t=>if fB b t||t.k=1 then d else if d=1/\b.fmod t.k=0 then t.k else d) 1
noncomputable def uN(b:Int)(n:aY):aY:=((n.1.filter (fB b)).map (tq b),n.2/b)
noncomputable def wN(b:Int)(n:aY):aY:=(n.1.filter (gB b),n.2%b)
theorem Hz(hb:0<b)(ts:List Tm):0<GG b ts/\GG b ts∣b/\(∀t∈ts,gB b t=true->GG b ts∣t.k)/\∀e:Int,e∣b->(∀t∈ts,gB b t=true->e∣t.k)->e∣GG b ts:=by
 have:∀(ts:List Tm)(f:Int),0<f->let G:=ts.foldl (λg t=>if fB b t then g else if t.k=1 then 1 else(Int.gcd g t.k:Int)) f;0<G/\G∣f/\(∀t∈ts,gB b t=true->G∣t.k)/\∀e:Int,e∣f->(∀t∈ts,gB b t=true->e∣t.k)->e∣G:=λts=>by
  induction ts with
  |nil=>intro f h;exact⟨h,Int.dvd_refl _,λt ht=>(nomatch ht),λe h _=>h⟩
  |cons a l ih=>
   intro f h;rw[List.foldl_cons];by_cases q:fB b a=true
   . rw[if_pos q];refine eM (ih f h) λh1 h2 B F=>?_;refine⟨h1,h2,λt ht u=>?_,λe he z=>F e he λt ht=>z t (List.mem_cons_of_mem _ ht)⟩;rcases List.mem_cons.mp ht with rfl|ht
     . unfold gB at u;rw[q]at u;injection u
     . exact B t ht u
   . rw[if_neg q];have H:gB b a=true:=by unfold gB;simpa using q
     have key:∀i:Int,0<i->i∣f->i∣a.k->(∀e:Int,e∣f->e∣a.k->e∣i)->_:=λi p1 p2 p3 p4=>by
      refine eM (ih i p1) λh1 h2 B F=>?_;exact(⟨h1,Int.dvd_trans h2 p2,λt ht u=>by
       rcases List.mem_cons.mp ht with rfl|ht
       . exact Int.dvd_trans h2 p3
       . exact B t ht u,λe he z=>F e (p4 e he (z a List.mem_cons_self H)) λt ht=>z t (List.mem_cons_of_mem _ ht)⟩:
       let G:=l.foldl (λg t=>if fB b t then g else if t.k=1 then 1 else(Int.gcd g t.k:Int)) i;0<G/\G∣f/\(∀t∈a::l,gB b t=true->G∣t.k)/\∀e:Int,e∣f->(∀t∈a::l,gB b t=true->e∣t.k)->e∣G)
     by_cases q1:a.k=1
     . rw[if_pos q1];exact key 1 (by decide) (Int.one_dvd _) (Int.one_dvd _) λe _ h=>by rw[q1]at h;exact h
     . rw[if_neg q1];exact key _ (by have:=Int.gcd_pos_of_ne_zero_left (a:=f) a.k (by exact Int.ne_of_gt h);lia) (Int.gcd_dvd_left ..) (Int.gcd_dvd_right ..) λe h1 h2=>Int.dvd_coe_gcd h1 h2
 exact this ts b hb
theorem Qa(ts:List Tm):DD b ts=1\/∃t∈ts,gB b t=true/\t.k=DD b ts/\DD b ts∣b:=by
 have:∀(ts:List Tm)(d0:Int),let D:=ts.foldl (λd t=>if fB b t||t.k=1 then d else if d=1/\b.fmod t.k=0 then t.k else d) d0;D=d0\/∃t∈ts,gB b t=true/\t.k=D/\D∣b:=λts=>by
  induction ts with
  |nil=>exact λd0=> .inl rfl
  |cons a l ih=>
   intro d0;rw[List.foldl_cons];have up:∀f,(let D:=l.foldl (λd t=>if fB b t||t.k=1 then d else if d=1/\b.fmod t.k=0 then t.k else d) f;D=f\/∃t∈l,gB b t=true/\t.k=D/\D∣b):=ih;by_cases q:(fB b a||decide (a.k=1))=true
   . rw[if_pos q];rcases up d0 with h|⟨t,ht,h⟩
     . exact .inl h
     . exact .inr ⟨t,List.mem_cons_of_mem _ ht,h⟩
   . rw[if_neg q];by_cases q2:d0=1/\b.fmod a.k=0
     . rw[if_pos q2];rcases up a.k with h|⟨t,ht,h⟩
       . right;refine wD a List.mem_cons_self ?_ h.symm ?_
         . unfold gB;simp at q;simp[q.1]
         . rw[h];exact Int.dvd_of_fmod_eq_zero q2.2
       . exact .inr ⟨t,List.mem_cons_of_mem _ ht,h⟩
     . rw[if_neg q2];rcases up d0 with h|⟨t,ht,h⟩
       . exact .inl h
       . exact .inr ⟨t,List.mem_cons_of_mem _ ht,h⟩
 exact this ts 1
theorem CH(a b:Int){k:Nat}(f:1<=k):aF k 35 [.int a,.int b] []=some (.int (Int.gcd a b)):=by obtain⟨k,rfl⟩:=dW (n:=k) (by lia);rfl
theorem rI{body:ah->Option fX}{nm:List Str}{row:List AV}{σ σ':ah}(h:body (aX σ nm row)=some (.next σ')):bU body nm [row] σ=some (.next σ'):=(congrArg (Option.bind · _) h).trans rfl
theorem jh{body:ah->Option fX}{nm:List Str}:∀{a:List (List AV)}{b:List (List AV)}{σ σ':ah},bU body nm a σ=some (.next σ')->bU body nm (a++b) σ=bU body nm b σ'
 |[],b,σ,σ',h=>by cases h;rfl
 |row::a,b,σ,σ',h=>by
  simp only[List.cons_append,bU]at h⊢
  induction e:body (aX σ nm row)with
  |none=>rw[e]at h;injection h
  |some o=>
   rw[e]at h
   induction o with
   |next τ=>exact jh (a:=a) h
   |cont τ=>exact jh (a:=a) h
   |ret x τ=>cases h
theorem dZ{op:CmpOp}(a b:Int)(h:op= .Eq\/op= .Lt\/op= .Gt\/op= .GtE\/op= .NotEq):cM call make op (.int a) (.int b)=G4 op a b:=by rcases h with rfl|rfl|rfl|rfl|rfl<;>rfl
theorem zs(i:g.Ok){c:Int}(F:c.natAbs<=2^880)(hb:2<=b)(G:b.natAbs<=2^870){k:Nat}(I:16<=k)(u:AV):iq (aF k) (aV k) 338 (lE c) b u=some (aO (c/b)):=by
 obtain⟨m,E,R⟩:=Cu (n:=([],c)) i (cV F) hb G (by rw[aD];exact Nat.zero_le _) (.inl rfl) (p:=0) (by rw[aD];exact Nat.zero_le _) (by decide);have H:m.1=[]:=Classical.byContradiction λz=>by have h1:2<=(sm m).ph:=ca (r:=m.2) z λt ht=>(R.nd.a t ht).sb i;have h2:=R.ph;rw[aD]at h2;have:md []=0:=rfl;lia
 have B:m=([],m.2):=by rw[<-H]
 have f:=R.val g.lo i.cX;rw[B,aD,aD]at f;have f:m.2=c/b:=f;rw[E 338 (lE c) (fY (.inr c)) k (by assumption) u,B,f];exact congrArg some (fY (.inr (c/b)))
theorem gW{k b:Int}(f:k≠0)(h:k%b=0):k/b≠0:=λq=>by have:=Int.mul_ediv_add_emod k b;rw[q,h]at this;lia
theorem um(u:g.Ok)(h:Ng g n){t:Tm}(ht:t∈n.1)(iN:t.k≠1)(hb:1<=b)(sb:Sm b=true)(hd:t.k%b=0):Ev 7 454 [bG 485 t.x t.k (dU t) (d9 t),.int b] [] (nO ([tq b t],0)):=by
 have i:=h.a t ht;refine aP i.obj λC fl e H=>?_;have z:=(h.fv u).2.2.2 t ht;have B:t.s.am<=2^800:=by have I:bC t.k*t.s.am<=(sm n).am:=aR (f:=λt:Tm=>bC t.k*t.s.am) ht;have J:=Nat.mul_le_mul_right t.s.am (fb (h.p.nz t ht));have:(sm n).am<=2^800:=h.p.am;lia
 have F:=gW (h.p.nz t ht) hd;have N:(t.k/b).natAbs<=t.k.natAbs:=Int.natAbs_ediv_le_natAbs ..;have M:=BX (t:=tq b t) u (λ_=>⟨i,by show(t.k/b).natAbs<=_;lia,B⟩) i;rw[if_neg (show¬(tq b t).k=0 from F)]at M;refine aw (d:=6) (by decide) (by decide) λk G=>?_;have M:oP (aF k) (aV k) .Mult (.obj C fl) (.int (t.k/b))=some (nO ([tq b t],0)):=by rw[<-e];exact M k G
 rw[e,Kq,dt (by assumption),Option.bind_some,dZ _ _ (.inl rfl)];show(if(t.k%b==0)=true then _ else _)=_;rw[if_pos (by simpa using hd),dl sb (by lia),Option.bind_some,M];rfl
end
section
variable{g:Gv}{call:aI}{make:aH}{n m a:aY}{p:Nat}{b:Int}
noncomputable abbrev FF(b:Int)(ts:List Tm):List aY:=(ts.filter (fB b)).map λt=>([tq b t],0)
noncomputable abbrev RR(b:Int)(ts:List Tm):List aY:=(ts.filter (gB b)).map λt=>([t],0)
theorem yc{a b:Int}(h0:b≠0):oP call make .Mod (.int a) (.int b)=some (.int (a.fmod b)):=by rw[oI];show(if b !=0 then some (AV.int (a.fmod b))else none)=_;rw[if_pos (by simpa using h0)]
theorem J7(c:Int):gA call make (.obj 338 (lE c)) "b"=some (.int c):=by kernel_rfl
theorem A7(H:g.Ok)(h:Ng g n){t:Tm}(ht:t∈n.1)(hb:2<=b)(sb:Sm b=true)(f:List Tm)(hl:f.length<=900)(S:AV){k:Nat}(F:8<=k):
 ay (aF k) (aV k) 632 1 191 (kc S b ((FF b f).map nO) ((RR b f).map nO) (.int (GG b f)) (.int (DD b f)) [("x",.fz (bz t))])=
  some (.next (kc S b ((FF b (f++[t])).map nO) ((RR b (f++[t])).map nO) (.int (GG b (f++[t]))) (.int (DD b (f++[t]))) [("x",.fz (bz t))])):=by
 refine aP ((h.a t ht).obj) λC fl e I=>?_;have l1:((FF b f).map nO).length<=1000:=by rw[List.length_map,List.length_map];exact Nat.le_trans (List.length_filter_le ..) (by lia)
 have l2:((RR b f).map nO).length<=1000:=by rw[List.length_map,List.length_map];exact Nat.le_trans (List.length_filter_le ..) (by lia)
 have G:fB b t=false->FF b (f++[t])=FF b f:=λq=>by simp[FF,List.filter_append,q]
 have i:fB b t=false->(RR b (f++[t])).map nO=(RR b f).map nO++[bz t]:=λq=>by
  have:gB b t=true:=by unfold gB;rw[q];rfl
  simp[RR,List.filter_append,this];rfl
 have J:fB b t=true->RR b (f++[t])=RR b f:=λq=>by
  have:gB b t=false:=by unfold gB;rw[q];rfl
  simp[RR,List.filter_append,this]
 have u:GG b (f++[t])=if fB b t then GG b f else if t.k=1 then 1 else(Int.gcd (GG b f) t.k:Int):=by unfold GG;rw[List.foldl_append];rfl
 have B:DD b (f++[t])=if fB b t||t.k=1 then DD b f else if DD b f=1/\b.fmod t.k=0 then t.k else DD b f:=by unfold DD;rw[List.foldl_append];rfl
 by_cases q:t.k=1
 . have hf:fB b t=false:=by
    unfold fB;rw[q,Int.emod_eq_of_lt (by decide) (by assumption)];rfl
   rw[G hf,i hf,u,B,hf,q];rw[show bz t=t.x from if_pos q,e,Jc _ _ S b _ _ _ _ C I fl [] (.inl rfl),if_pos l2];rfl
 . rw[show bz t=bG 485 t.x t.k (dU t) (d9 t)from if_neg q]at i⊢;have T:=λhd=>um H h ht q (by exact Int.le_of_lt hb) sb hd k (by exact Nat.le_of_lt F);rw[e]at T i⊢;rw[Jb _ _ S b _ _ _ _ C fl t.k _ _ [] (.inl rfl)];refine bE (dt (by exact Int.le_of_lt hb)) ?_;rw[dZ _ _ (.inl rfl)];show(if(t.k%b==0)=true then _ else _)=_;by_cases q1:t.k%b=0
   . have hf:fB b t=true:=decide_eq_true q1;rw[if_pos (by simpa using q1),cU (show ba.op 485 .FloorDiv (.type "int")=some 454 by kernel_rfl),T q1,Option.bind_some,if_pos l1,(λq=>by simp[FF,List.filter_append,q]:fB b t=true->(FF b (f++[t])).map nO=(FF b f).map nO++[nO ([tq b t],0)]) hf,J hf,u,B,hf];rfl
   . have hf:fB b t=false:=decide_eq_false q1;rw[if_neg (by simpa using q1),if_pos l2,CH _ _ (by exact up F rfl),Option.bind_some,G hf,i hf,u,B,hf];simp only[Bool.false_or,decide_eq_true_eq,if_neg q,Bool.false_eq_true,if_false];by_cases q2:DD b f=1
     . rw[if_pos (by simpa using q2),yc (h.p.nz t ht),Option.bind_some,dZ _ _ (.inl rfl)];show(if(b.fmod t.k==0)=true then _ else _)=_;by_cases q3:b.fmod t.k=0
       . rw[if_pos (by simpa using q3),if_pos ⟨q2,q3⟩]
       . rw[if_neg (by simpa using q3),if_neg λz=>q3 z.2]
     . rw[if_neg (by simpa using q2),if_neg λz=>q2 z.1]
theorem dE{α:Type}(l:List α):∀a:List α,l.foldl (λf t=>f++[t]) a=a++l:=by
 induction l with
 |nil=>intro a;simp
 |cons b l ih=>intro a;rw[List.foldl_cons,ih];simp
noncomputable def nF(q:Int):List aY:=if q=0 then[]else[([],q)]
theorem B3(G:g.Ok)(h:Ng g n)(hl:n.1.length<=60)(hb:2<=b)(O:b.natAbs<=2^870)(S:AV){k:Nat}(z:18<=k):
 ∃r:ah,(r=[]\/(∃x,r=[(("x":Str),EV.fz x)])\/∃x y,r=[(("x":Str),EV.fz x),(("div":Str),EV.fz y)])/\
  bU (ay (aF k) (aV k) 632 1 191) ["x"] (bf ((aW n).map iX)) (kc S b [] [] (.int b) (.int 1) [])=
   some (.next (kc S b ((FF b n.1++nF (n.2/b)).map nO) ((RR b n.1++nF (n.2%b)).map nO) (.int (Int.gcd (GG b n.1) (n.2%b))) (.int (DD b n.1)) r)):=by
 have sb:Sm b=true:=bR (Nat.le_trans (by assumption) (Nat.pow_le_pow_right (by decide) (by decide):(2:Nat)^870<=2^1800));refine eM (Hz (b:=b) (by exact Int.le_of_lt hb) n.1) λG0 G1 _ _=>?_;obtain⟨gh,H,r1,I,rfl⟩:=fK (body:=ay (aF k) (aV k) 632 1 191) (nm:=["x"]) (x:=bz) (f:=λi t=>i++[t]) (b0:=([]:List Tm)) (R:=λi σ=>∃r:ah,(r=[]\/∃x,r=[(("x":Str),EV.fz x)])/\σ=kc S b ((FF b i).map nO) ((RR b i).map nO) (.int (GG b i)) (.int (DD b i)) r) n.1 (λi t ka e σ J=>by
  refine ab J λr hr P=>?_;clear J;subst P;rw[dE,List.nil_append];have B:aX (kc S b ((FF b i).map nO) ((RR b i).map nO) (.int (GG b i)) (.int (DD b i)) r) ["x"] [bz t]=kc S b ((FF b i).map nO) ((RR b i).map nO) (.int (GG b i)) (.int (DD b i)) [("x",.fz (bz t))]:=by rcases hr with rfl|⟨x,rfl⟩<;>rfl
  rw[B,A7 G h (by rw[e];simp) hb sb i (by
   have:=congrArg List.length e;rw[List.length_append,List.length_cons]at this;lia) S (by exact up z rfl)]
  exact⟨_,rfl,_,.inr ⟨_,rfl⟩,rfl⟩) (σ0:=kc S b [] [] (.int b) (.int 1) []) ⟨[],.inl rfl,rfl⟩
 rw[dE,List.nil_append]at H;have Q:(aW n).map iX=n.1.map bz++((if n.2=0 then[]else[.inr n.2]):List It).map iX:=by unfold aW;rw[List.map_append,List.map_map];rfl
 have U:bf ((aW n).map iX)=bf (n.1.map bz)++bf (((if n.2=0 then[]else[.inr n.2]):List It).map iX):=by rw[Q];exact List.map_append ..
 rw[U,jh H];have l1:((FF b n.1).map nO).length<=1000:=by rw[List.length_map,List.length_map];exact Nat.le_trans (List.length_filter_le ..) (by lia)
 have l2:((RR b n.1).map nO).length<=1000:=by rw[List.length_map,List.length_map];exact Nat.le_trans (List.length_filter_le ..) (by lia)
 have F:∀c,nO ([],c)=aO c:=λc=>fY (.inr c);by_cases q:n.2=0
 . rw[if_pos q,q];refine ag r1 (I.imp id .inl) ?_;have:((Int.gcd (GG b n.1) (0%b):Nat):Int)=GG b n.1:=by rw[Int.zero_emod,Int.gcd_zero_right];lia
   rw[this,Int.zero_ediv,Int.zero_emod];simp[nF];rfl
 . rw[if_neg q];have B:aX (kc S b ((FF b n.1).map nO) ((RR b n.1).map nO) (.int (GG b n.1)) (.int (DD b n.1)) r1) ["x"] [aO n.2]=kc S b ((FF b n.1).map nO) ((RR b n.1).map nO) (.int (GG b n.1)) (.int (DD b n.1)) [("x",.fz (aO n.2))]:=by
    rcases I with rfl|⟨x,rfl⟩<;>rfl
   have st:∀o,ay (aF k) (aV k) 632 1 191 (kc S b ((FF b n.1).map nO) ((RR b n.1).map nO) (.int (GG b n.1)) (.int (DD b n.1)) [("x",.fz (aO n.2))])=some (.next o)->bU (ay (aF k) (aV k) 632 1 191) ["x"] (bf ([.inr n.2].map iX)) (kc S b ((FF b n.1).map nO) ((RR b n.1).map nO) (.int (GG b n.1)) (.int (DD b n.1)) r1)=some (.next o):=λo W=>by exact rI ((congrArg _ B).trans W)
   have u:=Int.mul_ediv_add_emod n.2 b;have E:=Ja (aF k) (aV k) S b ((FF b n.1).map nO) ((RR b n.1).map nO) (GG b n.1) (DD b n.1) n.2;rw[dt (by lia),Option.bind_some,dZ _ _ (.inl rfl)]at E;by_cases q1:n.2%b=0
   . have X:n.2/b≠0:=gW q q1;have Y:aF k 192 [aO n.2,.int b] []=some (aO (n.2/b)):=aw (d:=16) (by decide) (by decide) (λk z=>(zA ..).trans (zs G h.p.vb hb O z _)) k (by exact Nat.le_of_lt z);have hc:(if(n.2%b==0)=true then(1:Nat)else 0)=1:=if_pos (by simpa using q1);refine ag [("x",.fz (aO n.2))] (.inr (.inl ⟨_,rfl⟩)) (st _ (E.trans ?_));show(if(n.2%b==0)=true then _ else _)=_;rw[if_pos (by simpa using q1),cU (show ba.op 338 .FloorDiv (.type "int")=some 192 by kernel_rfl),Y,Option.bind_some,if_pos l1,q1];have:((Int.gcd (GG b n.1) 0:Nat):Int)=GG b n.1:=by rw[Int.gcd_zero_right];lia
     rw[this];have:nF 0=[]:=rfl;rw[this,List.append_nil];have:nF (n.2/b)=[([],n.2/b)]:=if_neg X;rw[this,List.map_append];rw[List.map_cons,List.map_nil,F]
   . have N:nF (n.2%b)=[([],n.2%b)]:=if_neg q1;by_cases q2:n.2/b=0
     . have hr:n.2%b=n.2:=by rw[q2,Int.mul_zero]at u;exact(Int.zero_add _).symm.trans u
       refine ag [("x",.fz (aO n.2))] (.inr (.inl ⟨_,rfl⟩)) (st _ (E.trans ?_));show(if(n.2%b==0)=true then _ else _)=_;rw[if_neg (by simpa using q1),dl sb (by lia),Option.bind_some];show(if(n.2/b !=0)=true then _ else _)=_;rw[if_neg (by simpa using q2),if_pos l2,CH _ _ (by exact up z rfl),Option.bind_some,N,hr,q2];have:nF 0=[]:=rfl;rw[this,List.append_nil,List.map_append];rw[List.map_cons,List.map_nil,F]
     . have Z:n.2-b*(n.2/b)=n.2%b:=(Int.emod_def _ _).symm;have hs:Sm (n.2/b)=true:=by
        have h1:(n.2/b).natAbs<=n.2.natAbs:=Int.natAbs_ediv_le_natAbs ..;have h2:=h.p.vb;exact bR (by(have:(2:Nat)^880<=2^1800:=Nat.pow_le_pow_right (by lia) (by decide));lia)
       refine ag [("x",.fz (aO (n.2%b))),("div",.fz (.int (n.2/b)))] (.inr (.inr ⟨_,_,rfl⟩)) (st _ (E.trans ?_));show(if(n.2%b==0)=true then _ else _)=_;rw[if_neg (by simpa using q1),dl sb (by lia),Option.bind_some];show(if(n.2/b !=0)=true then _ else _)=_;rw[if_pos (by simpa using q2),Option.bind_some,e9 _ k (by exact up z rfl),Option.bind_some,if_pos l1,im sb hs,Option.bind_some];show(aV k 338 [.int (n.2-b*(n.2/b))]).bind _=_;rw[Z,e9 _ k (by lia),Option.bind_some,if_pos l2];simp only[J7,Option.bind_some,iM,if_true];refine bE (CH _ _ (by lia)) ?_;rw[N];have:nF (n.2/b)=[([],n.2/b)]:=if_neg q2;rw[this,List.map_append,List.map_append];simp only[List.map_cons,List.map_nil,F]
end
section
variable{g:Gv}{call:aI}{make:aH}{n m a:aY}{p:Nat}{b:Int}
theorem Bs(f:Tm->Int)(l:List Tm):ao (l.map f)=ao ((l.filter (fB b)).map f)+ao ((l.filter (gB b)).map f):=by
 induction l with
 |nil=>rfl
 |cons a l ih=>
  rw[List.filter_cons,List.filter_cons,List.map_cons,ak,ih];unfold gB;induction fB b a
  . simp[ak];lia
  . simp[ak];lia
theorem iY(f:Tm->Nat)(l:List Tm):aq (l.map f)=aq ((l.filter (fB b)).map f)+aq ((l.filter (gB b)).map f):=by
 induction l with
 |nil=>rfl
 |cons a l ih=>
  rw[List.filter_cons,List.filter_cons,List.map_cons,au,ih];unfold gB;induction fB b a
  . simp[au];lia
  . simp[au];lia
theorem kQ{k b:Int}(hb:0<b)(hd:k%b=0):bC (k/b)<=bC k:=by
 have h1:(k/b).natAbs<=k.natAbs:=Int.natAbs_ediv_le_natAbs ..;unfold bC;by_cases q:0<=k
 . rw[if_pos q,if_pos (Int.ediv_nonneg q (by exact Int.le_of_lt hb))];exact h1
 . rw[if_neg q];split
   . exact Nat.le_trans h1 (Nat.le_mul_of_pos_left _ (by unfold XX;decide))
   . exact Nat.mul_le_mul_left _ h1
theorem kX(h:Ng g n)(f:Tm->Bool){r:Int}(hr:r.natAbs<=2^880):Ng g (n.1.filter f,r):=
 ⟨⟨λt ht=>h.p.nz t (List.mem_filter.mp ht).1,nA h.p.nd,Nat.le_trans (by
   have:∀l:List Tm,aq ((l.filter f).map λt=>bC t.k*t.s.am)<=aq (l.map λt=>bC t.k*t.s.am):=λl=>by
    induction l with
    |nil=>exact Nat.le_refl _
    |cons a l ih=>
     rw[List.filter_cons,List.map_cons,au];split
     . rw[List.map_cons,au];lia
     . lia
   exact this n.1) h.p.am,hr⟩,λt ht=>h.a t (List.mem_filter.mp ht).1⟩
theorem uj(h:Ng g n)(hb:2<=b)(f:b.natAbs<=2^870):Ng g (wN b n):=kX h _ (by
 have h0:=Int.emod_nonneg n.2 (b:=b) (by lia);have h1:=Int.emod_lt_of_pos n.2 (b:=b) (by exact Int.le_of_lt hb);lia)
theorem lm(h:Ng g n)(hb:1<=b):Ng g (uN b n):=by
 have F:=kX (r:=0) h (fB b) (by decide);have hd:∀t∈n.1.filter (fB b),t.k%b=0:=λt ht=>of_decide_eq_true (List.mem_filter.mp ht).2;refine⟨⟨λt ht=>?_,?_,?_,?_⟩,λt ht=>?_⟩
 . refine ab (List.mem_map.mp ht) λu f i=>?_;subst i;exact gW (F.p.nz u f) (hd u f)
 . show List.Nodup (List.map _ (List.map _ _));rw[List.map_map];exact F.p.nd
 . refine Nat.le_trans ?_ F.p.am;show aq (List.map _ (List.map _ _))<=aq _;rw[List.map_map];exact bM λt ht=>Nat.mul_le_mul_right _ (kQ (by assumption) (hd t ht))
 . have:(n.2/b).natAbs<=n.2.natAbs:=Int.natAbs_ediv_le_natAbs ..;exact Nat.le_trans this h.p.vb
 . refine ab (List.mem_map.mp ht) λu f i=>?_;subst i;exact F.a u f
theorem vN(h:Ng g n)(hb:2<=b):(∀ρ,(sm n).val ρ=b*(sm (uN b n)).val ρ+(sm (wN b n)).val ρ)/\(sm (uN b n)).am+(sm (wN b n)).am<=(sm n).am/\(sm (uN b n)).ph+(sm (wN b n)).ph<=(sm n).ph/\
 (∀i,(sm (uN b n)).vs i=true\/(sm (wN b n)).vs i=true->(sm n).vs i=true):=by
 have hd:∀t∈n.1.filter (fB b),t.k%b=0/\t.k≠0:=λt ht=>⟨of_decide_eq_true (List.mem_filter.mp ht).2,h.p.nz t (List.mem_filter.mp ht).1⟩;refine⟨λρ=>?_,?_,?_,λi hi=>?_⟩
 . show ao (n.1.map λt=>t.s.val ρ*t.k)+n.2=b*(ao (List.map _ (List.map _ _))+n.2/b)+(ao ((n.1.filter (gB b)).map λt=>t.s.val ρ*t.k)+n.2%b);rw[Bs (b:=b),List.map_map,Int.mul_add];have:ao ((n.1.filter (fB b)).map λt=>t.s.val ρ*t.k)=b*ao ((n.1.filter (fB b)).map ((λt=>t.s.val ρ*t.k)∘tq b)):=by
    rw[Int.mul_comm,<-lM];refine congrArg ao (List.map_congr_left λt ht=>?_);show t.s.val ρ*t.k=t.s.val ρ*(t.k/b)*b;rw[Int.mul_assoc,Int.ediv_mul_cancel (Int.dvd_of_emod_eq_zero (hd t ht).1)]
   have e:=Int.mul_ediv_add_emod n.2 b;rw[this];lia
 . show aq (List.map _ (List.map _ _))+aq _<=aq _;rw[iY (b:=b) _ n.1,List.map_map];have:aq ((n.1.filter (fB b)).map ((λt=>bC t.k*t.s.am)∘tq b))<=aq ((n.1.filter (fB b)).map λt=>bC t.k*t.s.am):=bM λt ht=>Nat.mul_le_mul_right _ (kQ (by exact Int.le_of_lt hb) (hd t ht).1);exact Nat.add_le_add_right this _
 . show aq (List.map _ (List.map _ _))+aq _<=aq _;rw[iY (b:=b) _ n.1,List.map_map];have:aq ((n.1.filter (fB b)).map ((λt=>wk t.k*t.s.ph)∘tq b))<=aq ((n.1.filter (fB b)).map λt=>wk t.k*t.s.ph):=bM λt ht=>by
    have h1:wk t.k=2:=if_neg λq=>by have:=(hd t ht).1;rw[q,Int.emod_eq_of_lt (by decide) (by assumption)]at this;lia
    rw[h1];exact Nat.mul_le_mul_right _ (mX _)
   exact Nat.add_le_add_right this _
 . refine Or.elim hi (λhi=>?_) λhi=>?_
   . refine ab (cO hi) λt ht e=>?_;refine ab (List.mem_map.mp ht) λu f z=>?_;subst z;exact List.any_eq_true.mpr ⟨u,(List.mem_filter.mp f).1,e⟩
   . refine ab (cO hi) λt ht e=>?_;exact List.any_eq_true.mpr ⟨t,(List.mem_filter.mp ht).1,e⟩
theorem ye{α:Type}{f h:α->Nat}{l:List α}(hl:∀t∈l,f t<=h t){t:α}(ht:t∈l)(e:f t+2<=h t):aq (l.map f)+2<=aq (l.map h):=by refine cq (List.append_of_mem ht) λa b i=>?_;subst i;have h1:=bM (f:=f) (g:=h) (l:=a) λt ht=>hl t (List.mem_append_left _ ht);have h2:=bM (f:=f) (g:=h) (l:=b) λt ht=>hl t (List.mem_append_right _ (List.mem_cons_of_mem _ ht));rw[List.map_append,List.map_append,bN,bN,List.map_cons,List.map_cons,au,au];lia
theorem Mf(i:g.Ok)(h:Ng g n)(hb:2<=b){t:Tm}(ht:t∈n.1)(f:t.k=b):(sm (uN b n)).ph+(sm (wN b n)).ph+2<=(sm n).ph:=by
 show aq (List.map _ (List.map _ _))+aq _+2<=aq _;rw[iY (b:=b) _ n.1,List.map_map];have:aq ((n.1.filter (fB b)).map ((λt=>wk t.k*t.s.ph)∘tq b))+2<=aq ((n.1.filter (fB b)).map λt=>wk t.k*t.s.ph):=by
  refine ye (λt ht=>?_) (t:=t) (List.mem_filter.mpr ⟨ht,by unfold fB;rw[f,Int.emod_self];rfl⟩) ?_
  . have h1:wk t.k=2:=if_neg λq=>by
     have:=(λt ht=>of_decide_eq_true (List.mem_filter.mp ht).2:∀t∈n.1.filter (fB b),t.k%b=0) t ht;rw[q,Int.emod_eq_of_lt (by decide) (by assumption)]at this;lia
    rw[h1];exact Nat.mul_le_mul_right _ (mX _)
  . have h1:wk t.k=2:=if_neg (by lia);have h2:wk (t.k/b)=1:=by rw[f,Int.ediv_self (by lia)];rfl
    have:=((h.a t ht).sb i).ph;show wk (t.k/b)*t.s.ph+2<=wk t.k*t.s.ph;rw[h1,h2];lia
 have e:∀w,aq ((wN b n).1.map w)=aq ((n.1.filter (gB b)).map w):=λw=>rfl;rw[e];lia
theorem Nc(q:Int):(nF q).flatMap (·.1)=[]/\ao ((nF q).map (·.2))=q/\(∀n∈nF q,n=([],q))/\(nF q).length<=1:=by
 unfold nF;by_cases h:q=0
 . rw[if_pos h,h];exact⟨rfl,rfl,λ_ h=>(nomatch h),Nat.zero_le _⟩
 . rw[if_neg h];exact⟨rfl,Int.add_zero q,λn hn=>List.mem_singleton.mp hn,Nat.le_refl _⟩
theorem lu(B:g.Ok){ts:List Tm}{q:Int}{p:Nat}(h:Nw g (ts,q))(hl:ts.length<=60)(P:nP ts<=p)(F:p<=120):Ev (4*p+11) 211 [.list ((ts.map (λt=>(([t],0):aY))++nF q).map nO)] [] (nO (ts,q)):=by
 refine eM (Nc q) λG H I Q=>?_;have i:(ts.map (λt=>(([t],0):aY))++nF q).flatMap (·.1)=ts:=by rw[List.flatMap_append,G,List.append_nil,List.flatMap_map,OV];simp
 have J:ao ((ts.map (λt=>(([t],0):aY))++nF q).map (·.2))=q:=by
  rw[List.map_append,ci,H,List.map_map];have:∀l:List Tm,ao (l.map ((λn:aY=>n.2)∘λt=>([t],0)))=0:=λl=>by
   induction l with
   |nil=>rfl
   |cons a l ih=>rw[List.map_cons,ak,ih];rfl
  rw[this,Int.zero_add]
 have N:cu (ts.map (λt=>(([t],0):aY))++nF q)=(ts,q):=by unfold cu;rw[i,J,i6 h.nd h.nz]
 have key:∀n∈ts.map (λt=>(([t],0):aY))++nF q,(∃t∈ts,n=([t],0))\/n=([],q):=λn hn=>by
  refine Or.elim (List.mem_append.mp hn) (λhn=>?_) λhn=>?_
  . refine ab (List.mem_map.mp hn) λt ht O=>?_;subst O;exact .inl ⟨t,ht,rfl⟩
  . exact .inr (I n hn)
 have S:=eA B (ts.map (λt=>(([t],0):aY))++nF q) (λn=>n) (λn hn=>by
  rcases key n hn with⟨t,ht,rfl⟩|rfl
  . refine⟨λu z=>by rw[List.mem_singleton.mp z];exact h.nz t ht,by simp[Nn],Nat.le_trans (show bC t.k*t.s.am+0<=_ from ?_) h.am,λu z=>by rw[List.mem_singleton.mp z];exact h.a t ht⟩;exact aR (f:=λt:Tm=>bC t.k*t.s.am) ht
  . exact yj q) (p:=p) (λn hn=>by
  rcases key n hn with⟨t,ht,rfl⟩|rfl
  . have:t.s.ph<=nP ts:=aR (f:=λt:Tm=>t.s.ph) ht;show t.s.ph+0<=p;lia
  . exact Nat.zero_le _) F (by rw[i,List.length_append,List.length_map];lia) (by
    have:=jY (λt=>bC t.k*t.s.am) (ts.map (λt=>(([t],0):aY))++nF q);rw[<-this,i];exact h.am)
 rw[List.map_id',N]at S;exact S
noncomputable def wQ(call:aI)(make:aH)(u w:AV)(b g d:Int):Option AV:=
 if decide (g>1)=true then bH w "__floordiv__" λf w=>(call f [w,.int g] []).bind λw=>(oP call make .FloorDiv (.int b) (.int g)).bind λe=>(oP call make .FloorDiv w e).bind λw=>(oP call make .Add u w).bind some
 else if decide (d>1)=true then bH w "__floordiv__" λf w=>(call f [w,.int d] []).bind λw=>(oP call make .FloorDiv (.int b) (.int d)).bind λe=>(oP call make .FloorDiv w e).bind λw=>(oP call make .Add u w).bind some
 else(call 192 [w,.int b] []).bind λw=>(oP call make .Add u w).bind some
theorem xO(f:g.Ok)(h:Ng g n)(h0:n.1≠[])(h2:(aW n).length>=2)(hb:2<=b)(i:b.natAbs<=2^870)(B:nP n.1<=p)(F:p<=118){k:Nat}(u:4*p+19<=k):
 fC (aF k) (aV k) 632 [nO n,.int b] []=wQ (aF k) (aV k) (nO (uN b n)) (nO (wN b n)) b (Int.gcd (GG b n.1) (n.2%b)) (DD b n.1):=by
 have hl:n.1.length<=60:=h.w.len f (by lia);have hi:=fU n;refine ab (B3 f h hl hb i (nO n) (k:=k) (by exact up u rfl)) λr hr E=>?_;have q2:nO n=bZ ((aW n).map iX) (sm n).mn (sm n).mx:=by
  rcases aL n with⟨q1,_⟩|⟨t,rfl,_⟩|⟨t,rfl,_⟩|⟨_,_,q2⟩
  . exact absurd q1 h0
  . simp[aW]at h2
  . simp[aW]at h2
  . exact q2
 have z:gA (aF k) (aV k) (bZ ((aW n).map iX) (sm n).mn (sm n).mx) "flat_components"=some (.list ((aW n).map iX)):=
  (LX (C:=656) rfl (by decide) (show ba.prop 656 "flat_components"=some 652 by kernel_rfl)).trans (zv (λx hx=>by rw[jc]at hx;exact jd h.a hx) (by rw[List.length_map];lia) (.inr ⟨_,_,rfl⟩) k (by exact up u rfl))
 have U:=lu (p:=p) f (lm (b:=b) h (by exact Int.le_of_lt hb)).w (by
  rw[List.length_map];exact Nat.le_trans (List.length_filter_le ..) hl) (by
  have:aq (n.1.map λt=>t.s.ph)=_:=iY (b:=b) (λt=>t.s.ph) n.1;have e:nP (uN b n).1=aq ((n.1.filter (fB b)).map λt=>t.s.ph):=by unfold nP uN;rw[List.map_map];rfl
  have:nP n.1=aq (n.1.map λt=>t.s.ph):=rfl;rw[e];lia) (by lia) k (by lia)
 have W:=lu (p:=p) f (uj h hb i).w (Nat.le_trans (List.length_filter_le ..) hl) (by
  have:aq (n.1.map λt=>t.s.ph)=_:=iY (b:=b) (λt=>t.s.ph) n.1;have e:nP (wN b n).1=aq ((n.1.filter (gB b)).map λt=>t.s.ph):=rfl;have:nP n.1=aq (n.1.map λt=>t.s.ph):=rfl;rw[e];lia) (by lia) k (by lia)
 rw[List.map_map (g:=λt=>(([t],0):aY))]at U;have U:aF k 211 [.list ((FF b n.1++nF (n.2/b)).map nO)] []=some (nO (uN b n)):=U;rw[q2,Kj,rR (C:=656) (.inr (.inr (.inr (.inr (.inr (.inr rfl)))))) (by decide) (by lia),Option.bind_some,if_neg (by decide),if_neg (by simp;exact Int.ne_of_gt hb),z,Option.bind_some];show(bU _ _ (bf _) _).bind _=_;rw[q2]at E;rw[E,Option.bind_some];show cS _ _ 632 9 191 _=_;rw[MJ _ _ _ b _ _ _ _ r hr,U,W];rw[Option.bind_some];rfl
end
section
variable{g:Gv}{call:aI}{make:aH}{n m a:aY}{p:Nat}{b:Int}{D:Nat}
theorem RS.w{m:aY}{v f:(Nat->Int)->Int}{ph u p z am B:Nat}{vs F:Nat->Prop}(R:RS g m v ph p am vs)(hv:∀ρ,g.In ρ->v ρ=f ρ)(h1:ph<=u)(h2:p<=z)(H:am<=B)(I:∀i,vs i->F i):RS g m f u z B F:=
 ⟨R.nd,λρ G=>(R.val ρ G).trans (hv ρ G),Nat.le_trans R.ph h1,Nat.le_trans R.p h2,Nat.le_trans R.am H,λi hi=>I i (R.vs i hi)⟩
noncomputable abbrev RD(g:Gv)(n:aY)(b:Int)(m:aY):Prop:=RS g m (λρ=>(sm n).val ρ/b) ((sm n).ph+md n.1) ((sm n).ph+md n.1) (b.natAbs*(sm n).am) (λi=>(sm n).vs i=true)
inductive DS(g:Gv)(D:Nat)(n:aY)(b:Int):Prop
 |mk (m:aY) (o:Op D .FloorDiv (nO n) (.int b) (nO m)) (r:RD g n b m) (x:2<=(aW n).length->2<=b->(∃t∈n.1,t.k=b)->(sm m).ph+1<=(sm n).ph)
theorem DS.mono{D'}(h:DS g D n b)(hd:D<=D'):DS g D' n b:=by obtain⟨m,O,R,X⟩:=h;exact⟨m,O.mono hd,R,X⟩
theorem Mt:(dj.all λC=>(ba.op C .FloorDiv (.type "int")).isSome&&ba.op C .FloorDiv (.type "int")==ba.cZ C "__floordiv__")=true:=by kernel_rfl
theorem FQ(h:∀t∈n.1,At g t.x t.s t.t){R:Type}{i:Int}{K:AV->Option R}:(bH (nO n) "__floordiv__" λf w=>(call f [w,.int i] []).bind K)=(oP call make .FloorDiv (nO n) (.int i)).bind K:=by refine aP (bx (r:=n.2) h) λC fl e u=>?_;have e:nO n= .obj C fl:=e;have:=List.all_eq_true.mp Mt C (oU u);simp only[Bool.and_eq_true,beq_iff_eq,Option.isSome_iff_exists]at this;refine af this λz h2=>?_;refine ax z λf hf=>?_;rw[e,bl (h2▸hf),cU hf]
inductive WR(g:Gv)(D:Nat)(w:aY)(b G d:Int):Prop
 |mk (m:aY) (o:∀k,D<=k->∀u,wQ (aF k) (aV k) u (nO w) b G d=(oP (aF k) (aV k) .Add u (nO m)).bind some) (r:RD g w b m)
theorem gw(ts:List Tm):md ts<=1:=Nat.le_trans (ki _ 0) (kh _ _)
theorem GW(u:g.Ok)(h:Ng g n)(h0:n.1≠[])(h2:(aW n).length>=2)(hb:2<=b)(F:b.natAbs<=2^860)(G:b.natAbs*(sm n).am<=2^800)(H:(sm n).ph<=p)(cK:p<=115)(hD:4*p+20<=D)
 (W:WR g D (wN b n) b (Int.gcd (GG b n.1) (n.2%b)) (DD b n.1)):DS g (D+1) n b:=by
 have I:(2:Nat)^860<=2^870:=Nat.pow_le_pow_right (by decide) (by decide);have hP:nP n.1<=(sm n).ph:=dC;obtain⟨m,E,R⟩:=W;refine eM (vN h hb) λu1 u2 z U=>?_;have J:=lm (b:=b) h (by exact Int.le_of_lt hb);have hW:=uj h hb (Nat.le_trans F I);have X:md (wN b n).1<=md n.1:=by
  by_cases q:(wN b n).1=[]
  . rw[q];exact Nat.zero_le _
  . by_cases q2:n.1.filter (fB b)=[]
    . have:(wN b n).1=n.1:=List.filter_eq_self.mpr λt ht=>by
       unfold gB
       induction hf:fB b t with
       |false=>rfl
       |true=>have:=List.mem_filter.mpr ⟨ht,hf⟩;rw[q2]at this;cases this
      rw[this];exact Nat.le_refl _
    . have:md n.1=1:=by
       match hn:n.1,h0 with
       |[t],_=>
        rw[hn]at q2;have q:([t].filter (gB b))≠[]:=by rw[<-hn];exact q
        unfold gB at q;simp at q q2;rw[q2]at q;injection q
       |_::_::_,_=>rfl
      rw[this];exact gw _
 have Hu:(sm (uN b n)).am+(sm m).am<=b.natAbs*(sm n).am:=by have N:b.natAbs*((sm (uN b n)).am+(sm (wN b n)).am)<=b.natAbs*(sm n).am:=Nat.mul_le_mul_left _ u2;rw[Nat.mul_add,Nat.mul_comm b.natAbs (sm (uN b n)).am]at N;exact Nat.le_trans (Nat.add_le_add (Nat.le_mul_of_pos_right _ (Int.natAbs_pos.mpr (Int.ne_of_gt (Int.lt_of_lt_of_le (by decide) hb)))) R.am) N
 have O:∀ρ,g.In ρ->(sm (uN b n)).val ρ+(sm m).val ρ=(sm n).val ρ/b:=λρ Y=>by rw[R.val ρ Y,u1 ρ,Int.add_comm (b*_),Int.add_mul_ediv_left _ _ (by lia:b≠0),Int.add_comm]
 have hv:((sm (uN b n)).val g.lo+(sm m).val g.lo).natAbs<=2^879+2^863:=by rw[O g.lo u.cX];exact Nat.le_of_mul_le_mul_left (Nat.le_trans (zT hb) (Nat.le_trans (Nat.add_le_add_right (pW (fS u h.a h.p.am u.cX) h.p.vb (Nat.le_refl _)) 2) (by decide))) (show 0<2 by decide)
 have P:=AA u J R.nd (Nat.le_trans Hu G) hv;have Z:nP m.1<=p+1:=Nat.le_trans R.p (Nat.add_le_add (Nat.le_trans (Nat.le_trans (Nat.le_add_left _ _) z) H) (gw _));have up:nP (uN b n).1<=p+1:=Nat.le_trans dC (Nat.le_trans (Nat.le_trans (Nat.le_add_right _ _) z) (Nat.le_succ_of_le H));have Q:(sm (uN b n)).ph+((sm (wN b n)).ph+md (wN b n).1)<=(sm n).ph+md n.1:=Nat.le_trans (Nat.le_of_eq (Nat.add_assoc ..).symm) (Nat.add_le_add z X);have wn:(sm (uN b n)).ph+(sm m).ph<=(sm n).ph+md n.1:=Nat.le_trans (Nat.add_le_add_left R.ph _) Q;refine⟨cu [uN b n,m],λk B=>?_,P.w O wn (Nat.le_trans (Nat.add_le_add dC R.p) Q) Hu (λi hi=>U i (hi.imp id (R.vs i))),λ_ _⟨t,ht,e⟩=>?_⟩
 . have q2:nO n=bZ ((aW n).map iX) (sm n).mn (sm n).mx:=by
    rcases aL n with⟨q1,_⟩|⟨t,rfl,_⟩|⟨t,rfl,_⟩|⟨_,_,q2⟩
    . exact absurd q1 h0
    . simp[aW]at h2
    . simp[aW]at h2
    . exact q2
   have:=aw (d:=D) (f:=632) (xs:=[nO n,.int b]) (kx:=[]) (r:=nO (cu [uN b n,m])) (by lia) (by decide) (λk B=>by
    rw[xO u h h0 h2 hb (Nat.le_trans F I) (p:=p) (by lia) (by lia) (by lia),E k B,(oO (p:=p+1) u J R.nd up Z (by lia) (Nat.le_trans Hu G)) k (by lia)];rfl) k B
   rw[q2]at this⊢;rw[cU (show ba.op 656 .FloorDiv (.type "int")=some 632 by kernel_rfl)];exact this
 . have:=Mf u h hb ht e;have:=P.ph;have:=R.ph;have:=gw (wN b n).1;lia
end
section
variable{g:Gv}{call:aI}{make:aH}{n m a:aY}{p:Nat}{b:Int}{D:Nat}
theorem cm(c:Int):nO ([],c)=aO c:=fY (.inr c)
theorem kM(i:g.Ok){c:Int}(u:c.natAbs<=2^880)(hb:1<=b)(z:b.natAbs<=2^870):Op 17 .FloorDiv (aO c) (.int b) (aO (c/b)):=λk f=>by
 rw[cU (show ba.op 338 .FloorDiv (.type "int")=some 192 by kernel_rfl)];refine aw (d:=16) (by decide) (by decide) (λk f=>?_) k f;by_cases q:b=1
 . rw[q,Int.ediv_one,zA];rfl
 . exact(zA ..).trans (zs i u (by lia) z f _)
theorem lq(h:∀t∈n.1,t.k%b=0)(h2:n.2%b=0):uN b n=(n.1.map (tq b),n.2/b)/\wN b n=([],0):=by
 have f:n.1.filter (fB b)=n.1:=List.filter_eq_self.mpr λt ht=>decide_eq_true (h t ht);have i:n.1.filter (gB b)=[]:=List.filter_eq_nil_iff.mpr λt ht=>by unfold gB fB;simp[h t ht]
 unfold uN wN;rw[f,i,h2];exact⟨rfl,rfl⟩
theorem zt(f:g.Ok)(h:Ng g n)(hb:2<=b)(u:b.natAbs<=2^870)(hd:∀t∈n.1,t.k%b=0)(h2:n.2%b=0)(N:nP n.1<=p)(O:p<=118):Op (4*p+22) .FloorDiv (nO n) (.int b) (nO (uN b n)):=λk i=>by
 refine af (lq hd h2) λz P=>?_;have sb:Sm b=true:=bR (by lia);rcases aL n with⟨q1,q2⟩|⟨t,rfl,q1,q2⟩|⟨t,rfl,q1,q2⟩|⟨q0,q1,q2⟩
 . rw[q2,z,q1,kM f h.p.vb (by exact Int.le_of_lt hb) u k (by exact up i rfl)];exact congrArg some (cm _).symm
 . have:=hd t List.mem_cons_self;rw[q1,Int.emod_eq_of_lt (by decide) (by assumption)]at this;lia
 . have T:=um f h (t:=t) List.mem_cons_self q1 (by lia) sb (hd t List.mem_cons_self) k (by exact up i rfl);rw[q2,cU (show ba.op 485 .FloorDiv (.type "int")=some 454 by kernel_rfl),T,z];show _=some (nO ([tq b t],0/b));rw[Int.zero_ediv]
 . have R:Ev (4*p+20) 632 [nO n,.int b] [] (nO (uN b n)):=aw (d:=4*p+19) (by lia) (by decide) λk i=>by
    have G:GG b n.1=b:=by
     refine eM (Hz (b:=b) (by exact Int.le_of_lt hb) n.1) λQ U _ B=>?_;have B:=B b (Int.dvd_refl _) λt ht H=>by unfold gB fB at H;simp[hd t ht]at H
     exact Int.dvd_antisymm (by exact Int.le_of_lt Q) (by lia) U B
    have F:=lm (b:=b) h (by lia);have W:nP (uN b n).1<=p:=by
     rw[z];have:nP (n.1.map (tq b))=nP n.1:=by unfold nP;rw[List.map_map];rfl
     lia
    have A:=oO (p:=p) f F (cV (c:=0) (by decide)) W (Nat.zero_le _) (by lia) (by rw[aD];exact F.p.am) k (by lia);rw[uF F 0,Int.add_zero,cm]at A;have I:∀b:Int,1<=b->b.natAbs<=2^870->oP (aF k) (aV k) .FloorDiv (nO ([],0)) (.int b)=some (aO 0):=λb h1 h2=>by rw[cm,kM f (c:=0) (by decide) h1 h2 k (by exact up i rfl),Int.zero_ediv]
    have J:=I 1 (by decide) (by decide);rw[cm]at J;have X:((Int.gcd b 0:Nat):Int)=b:=by rw[Int.gcd_zero_right];lia
    rw[xO f h q0 q1 hb u (p:=p) N O i,G,h2,P,X];unfold wQ;rw[if_pos (by simp;lia),FQ (g:=g) (n:=([],0)) (λt ht=>(nomatch ht)),I b (by exact Int.le_of_lt hb) u,Option.bind_some,dl sb (by exact Int.le_of_lt hb),Int.ediv_self (by lia),Option.bind_some,J,Option.bind_some,A];rfl
   have R:=R k (by lia);rw[q2]at R⊢;rw[cU (show ba.op 656 .FloorDiv (.type "int")=some 632 by kernel_rfl)];exact R
theorem xg(u:g.Ok)(h:Ng g n)(hb:2<=b)(hd:∀t∈n.1,t.k%b=0)(h2:n.2%b=0):(sm (uN b n)).ph+md (uN b n).1<=(sm n).ph+md n.1/\(∀t,n.1=[t]->(tq b t).k=1->(sm (uN b n)).ph+1<=(sm n).ph):=by
 refine af (lq hd h2) λf G=>?_;have U:=(vN h hb).2.2.1;have i:∀t∈n.1,t.k≠1:=λt ht q=>by have:=hd t ht;rw[q,Int.emod_eq_of_lt (by decide) (by assumption)]at this;lia
 have X:∀t,n.1=[t]->(tq b t).k=1->(sm (uN b n)).ph+1<=(sm n).ph:=λt e q=>by
  have ht:t∈n.1:=by rw[e];exact List.mem_cons_self
  have:=((h.a t ht).sb u).ph;have z:(sm (uN b n)).ph=t.s.ph:=by rw[f];show aq (List.map _ (List.map _ n.1))=_;rw[e];show wk (tq b t).k*t.s.ph+0=_;rw[q];show 1*t.s.ph+0=_;lia
  have B:(sm n).ph=2*t.s.ph:=by show aq (List.map _ n.1)=_;rw[e];show wk t.k*t.s.ph+0=_;rw[show wk t.k=2 from if_neg (i t ht)];lia
  (clear U;lia)
 refine⟨?_,X⟩;rw[f]at U X⊢
 match hn:n.1 with
 |[]=>rw[hn]at U;show _+0<=_+0;exact up U rfl
 |[t]=>
  have F:md [t]=0:=if_neg (i t (by rw[hn];exact List.mem_cons_self));rw[F];by_cases q:(tq b t).k=1
  . have:=X t hn q;rw[show md [tq b t]=1 from if_pos q,<-hn];assumption
  . rw[show md [tq b t]=0 from if_neg q,<-hn];lia
 |t::t'::l=>
  rw[<-hn];have z:md n.1=1:=by rw[hn];rfl
  have B:=gw (n.1.map (tq b));lia
theorem wr{w:aY}(J:g.Ok)(hw:Ng g w)(hb:2<=b)(hB:b.natAbs<=2^860)(N:b.natAbs*(sm w).am<=2^800)(U:0<=w.2/\w.2<b)(hp:(sm w).ph<=p)(cK:p<=115){G d:Int}(hG:0<G/\G∣b/\(∀t∈w.1,G∣t.k)/\G∣w.2)
 (W:∀e:Int,e∣b->(∀t∈w.1,e∣t.k)->e∣w.2->e∣G)(hd:d=1\/∃t∈w.1,t.k=d/\d∣b)(hD:4*p+22<=D)(X:1<G->DS g D (uN G w) (b/G))(Dd:G=1->1<d->d∣b->(∃t∈w.1,t.k=d)->2<=(aW w).length->DS g D w d)
 (IH:∀n,Ng g n->(sm n).ph+1<=(sm w).ph->∀P:Int,1<=P->P.natAbs<=2^860->P.natAbs*(sm n).am<=2^800->DS g D n P):WR g D w b G d:=by
 have pB:(2:Nat)^860<=2^870:=Nat.pow_le_pow_right (by decide) (by decide);have hP:nP w.1<=(sm w).ph:=dC;refine eM hG λg0 Y g2 g3=>?_;have TL:G<=b:=Int.le_of_dvd (by exact Int.le_of_lt hb) Y;have TC:G.natAbs<=2^870:=Nat.le_trans (show G.natAbs<=b.natAbs by clear Y g2 g3 W hd X Dd IH;(clear U N hB;lia)) (Nat.le_trans hB pB);by_cases q:1<G
 . obtain⟨m,O,R,_⟩:=X q;have Q:∀t∈w.1,t.k%G=0:=λt ht=>Int.emod_eq_zero_of_dvd (g2 t ht);have h2:w.2%G=0:=Int.emod_eq_zero_of_dvd g3;refine eM (vN (b:=G) hw (by lia)) λu1 u2 _ u4=>?_;refine⟨m,λk f u=>?_,R.w (λρ bh=>?_) (xg J hw (by lia) Q h2).1 (xg J hw (by lia) Q h2).1 ?_ λi hi=>u4 i (.inl hi)⟩
   . unfold wQ;refine(if_pos (by simpa using q)).trans ?_;rw[FQ (n:=w) hw.a];refine bE ((zt J hw (b:=G) (by assumption) TC Q h2 (p:=p) (by lia) (by lia)) k (by lia)) ?_;refine bE (dl (bR (by lia)) (by assumption)) ?_;rw[O k f];rfl
   . have B:=u1 ρ;rw[(lq Q h2).2,aD]at B;rw[B,Int.add_zero]
     conv=>rhs;rw[<-(Int.mul_ediv_cancel' Y)]
     exact(Int.mul_ediv_mul_of_pos _ _ (by lia)).symm
   . have:(b/G).natAbs<=b.natAbs:=Int.natAbs_ediv_le_natAbs ..;exact Nat.mul_le_mul this (by lia)
 . have Rc:G=1:=by lia
   by_cases q2:1<d
   . refine bV (hd.resolve_left (by exact Int.ne_of_gt q2)) λt ht B H=>?_;clear hd;have hl:2<=(aW w).length:=Classical.byContradiction λz=>by
      have hn:w.1≠[]:=λe=>by rw[e]at ht;cases ht
      rcases aL w with⟨q1,_⟩|⟨t',e,_⟩|⟨t',e,_⟩|⟨_,q1,_⟩
      . exact hn q1
      all_goals first
       |exact z q1
       |(rw[e]at ht W
         have h3:=W d H (λu hu=>by rw[List.mem_singleton.mp hu,<-List.mem_singleton.mp ht,B];exact Int.dvd_refl _) (Int.dvd_zero _);rw[Rc]at h3;have:=Int.le_of_dvd (by decide) h3;lia)
     obtain⟨Z,O1,I,X1⟩:=Dd Rc q2 H ⟨t,ht,B⟩ hl;have X1:=X1 hl (by assumption) ⟨t,ht,B⟩;have CM:d<=b:=Int.le_of_dvd (by lia) H;have pZ:d*(b/d)=b:=Int.mul_ediv_cancel' H;have DZ:0<b/d:=Int.ediv_pos_of_pos_of_dvd (by lia) (by lia) H;have QV:(b/d).natAbs<=b.natAbs:=Int.natAbs_ediv_le_natAbs ..;have HP:(b/d).natAbs*d.natAbs=b.natAbs:=by rw[<-Int.natAbs_mul,Int.mul_comm,pZ]
     have jS:(b/d).natAbs*(sm Z).am<=b.natAbs*(sm w).am:=by rw[<-HP,Nat.mul_assoc];exact Nat.mul_le_mul_left _ I.am
     obtain⟨m,O,R,_⟩:=IH Z I.nd X1 (b/d) (by assumption) (by lia) (Nat.le_trans jS N);have hm:=gw Z.1;refine⟨m,λk f u=>?_,R.w (λρ bh=>?_) (by lia) (by lia) jS λi hi=>I.vs i hi⟩
     . unfold wQ;rw[if_neg (by simpa using q),if_pos (by simpa using q2),FQ (n:=w) hw.a,O1 k f,Option.bind_some,dl (bR (by(clear R jS HP DZ I TL X U N;lia))) (by lia),Option.bind_some,O k f];rfl
     . rw[I.val ρ bh,Int.ediv_ediv_of_nonneg (by lia),pZ]
   . obtain⟨m,E,R⟩:=Cu J hw hb (by lia) N (.inr U) (p:=p) hp (by lia);refine⟨m,λk f u=>?_,R⟩;refine aP (bx (r:=w.2) hw.a) λC fl e hC=>?_;have e:nO w= .obj C fl:=e;have F:aF k 192 [nO w,.int b] []=some (nO m):=by
      rw[e];exact aw (d:=4*p+16) (by lia) (by decide) (λk f=>(zA ..).trans (E C fl e k f _)) k (by lia)
     unfold wQ;rw[if_neg (by simpa using q),if_neg (by simpa using q2),F];rfl
end
section
variable{g:Gv}{call:aI}{make:aH}{n m a:aY}{p:Nat}{b:Int}{D:Nat}
noncomputable def Hy(g:Gv)(p D:Nat):Prop:=∀n,Ng g n->(sm n).ph+1<=p->∀b:Int,1<=b->b.natAbs<=2^860->b.natAbs*(sm n).am<=2^800->DS g D n b
theorem tP(hb:2<=b)(n:aY):(0<(Int.gcd (GG b n.1) (n.2%b):Int)/\(Int.gcd (GG b n.1) (n.2%b):Int)∣b/\(∀t∈(wN b n).1,(Int.gcd (GG b n.1) (n.2%b):Int)∣t.k)/\(Int.gcd (GG b n.1) (n.2%b):Int)∣(wN b n).2)/\
 (∀e:Int,e∣b->(∀t∈(wN b n).1,e∣t.k)->e∣(wN b n).2->e∣(Int.gcd (GG b n.1) (n.2%b):Int))/\(DD b n.1=1\/∃t∈(wN b n).1,t.k=DD b n.1/\DD b n.1∣b):=by
 refine eM (Hz (b:=b) (by exact Int.le_of_lt hb) n.1) λh0 h1 h2 u=>?_;have f:∀t,t∈(wN b n).1<->t∈n.1/\gB b t=true:=λt=>List.mem_filter;have hl:(Int.gcd (GG b n.1) (n.2%b):Int)∣GG b n.1:=Int.gcd_dvd_left ..;refine⟨⟨by have:=Int.gcd_pos_of_ne_zero_left (a:=GG b n.1) (n.2%b) (by exact Int.ne_of_gt h0);lia,Int.dvd_trans hl h1,λt ht=>Int.dvd_trans hl (h2 t ((f t).mp ht).1 ((f t).mp ht).2),Int.gcd_dvd_right ..⟩,λe z B F=>Int.dvd_coe_gcd (u e z λt ht i=>B t ((f t).mpr ⟨ht,i⟩)) F,?_⟩;rcases Qa (b:=b) n.1 with h|⟨t,ht,i,h⟩
 . exact .inl h
 . exact .inr ⟨t,(f t).mpr ⟨ht,i⟩,h⟩
theorem Dn(hb:2<=b)(n:aY):0<=(wN b n).2/\(wN b n).2<b:=⟨Int.emod_nonneg _ (by lia),Int.emod_lt_of_pos _ (by exact Int.le_of_lt hb)⟩
theorem Az{b G:Int}{x y:Nat}(hb:0<b)(h:x<=y)(f:b.natAbs*y<=2^800):(b/G).natAbs*x<=2^800:=
 Nat.le_trans (Nat.mul_le_mul (Int.natAbs_ediv_le_natAbs ..) h) f
theorem Ay{b d:Int}{x y:Nat}(hb:0<b)(hd:0<d)(hl:d<=b)(h:x<=y)(f:b.natAbs*y<=2^800):d.natAbs*x<=2^800:=
 Nat.le_trans (Nat.mul_le_mul (show d.natAbs<=b.natAbs by lia) h) f
theorem yq{b d:Int}{x:Nat}(hb:0<b)(hd:0<d)(hl:d<=b)(h:b.natAbs<=x):d.natAbs<=x:=by lia
theorem GQ(u:g.Ok)(h:Ng g n)(h0:n.1≠[])(h2:2<=(aW n).length)(hb:2<=b)(f:b.natAbs<=2^860)(G:b.natAbs*(sm n).am<=2^800)(O:(sm n).ph<=p)(H:p<=115)(P:∃t∈n.1,fB b t=true)(Q:4*p+22<=D)(z:Hy g p D):DS g (D+1) n b:=by
 refine dh (tP hb n) λB U W=>?_;refine eM (vN h hb) λ_ u2 u3 _=>?_;have i:=uj h hb (Nat.le_trans f (Nat.pow_le_pow_right (by decide) (by decide)));have I:2<=(sm (uN b n)).ph:=ca (r:=(uN b n).2) (λe=>by
  refine ab P λt ht hf=>?_;have:t∈n.1.filter (fB b):=List.mem_filter.mpr ⟨ht,hf⟩;rw[List.map_eq_nil_iff.mp e]at this;cases this) λt ht=>((lm (b:=b) h (by exact Int.le_of_lt hb)).a t ht).sb u
 have F:b.natAbs*(sm (wN b n)).am<=2^800:=Nat.le_trans (Nat.mul_le_mul_left _ (by lia)) G;have X:=B.1;refine GW u h h0 h2 hb f G O H (by lia) (wr u i hb f F (Dn hb n) (p:=p) (by(clear I;lia)) H B U W Q (λhg=>?_) (λ_ J Y _ _=>?_) λZ h' Os b'=>z Z h' (by(clear I;lia)) b')
 . refine eM (vN i (b:=(Int.gcd (GG b n.1) (n.2%b):Int)) (by assumption)) λ_ v2 v3 _=>?_;refine z _ (lm (b:=(Int.gcd (GG b n.1) (n.2%b):Int)) i (by assumption)) (by lia) _ (Int.ediv_pos_of_pos_of_dvd (by lia) (by exact Int.le_of_lt X) B.2.1) (Nat.le_trans (Int.natAbs_ediv_le_natAbs ..) f) (Az (by lia) (by lia) F)
 . have N:=Int.le_of_dvd (by lia) Y;exact z _ i (by lia) _ (by exact Int.le_of_lt J) (yq (by lia) (by exact Int.le_of_lt J) N f) (Ay (by lia) (by lia) N (Nat.le_refl _) F)
theorem ui(f:∀t∈n.1,fB b t=false):wN b n=(n.1,n.2%b):=by unfold wN;rw[List.filter_eq_self.mpr λt ht=>by unfold gB;rw[f t ht];rfl]
theorem PI(i:g.Ok)(h:Ng g n)(h0:n.1≠[])(h2:2<=(aW n).length)(hb:2<=b)(u:b.natAbs<=2^860)(z:b.natAbs*(sm n).am<=2^800)(B:(sm n).ph<=p)(F:p<=115)(P:∀t∈n.1,fB b t=false)(hr:0<=n.2/\n.2<b)
 (Q:∀e:Int,0<e->e∣b->(∀t∈n.1,e∣t.k)->e∣n.2->e=1)(G:4*p+22<=D)(H:Hy g p D):DS g (D+2) n b:=by
 have I:wN b n=n:=by rw[ui P,Int.emod_eq_of_lt hr.1 hr.2]
 refine dh (tP hb n) λf J N=>?_;rw[I]at f J N;have Z:=Q _ f.1 f.2.1 f.2.2.1 f.2.2.2;refine GW i h h0 h2 hb u z B F (by lia) ?_;rw[I];refine wr i h hb u z hr (p:=p) B F f J N (by exact Nat.le_succ_of_le G) (λhg=>by lia) (λ_ U W ht _=>?_) λX h' Os Y b1 b2 b3=>(H X h' (by lia) Y b1 b2 b3).mono (by lia);have O:=Int.le_of_dvd (by exact Int.le_of_lt hb) W;refine ab ht λt ht e=>?_;exact GQ i h h0 h2 (by assumption) (yq (by lia) (by exact Int.le_of_lt U) O u) (Ay (by lia) (by lia) O (Nat.le_refl _) z) B F ⟨t,ht,by unfold fB;rw[e,Int.emod_self];rfl⟩ G H
theorem KQ(f:g.Ok)(h:Ng g n)(h0:n.1=[])(hb:1<=b)(u:b.natAbs<=2^860):DS g 17 n b:=by
 have e:n=([],n.2):=by rw[<-h0]
 refine⟨([],n.2/b),λk z=>?_,⟨cV (Nat.le_trans (Int.natAbs_ediv_le_natAbs ..) h.p.vb),λρ _=>?_,?_,Nat.zero_le _,?_,λi hi=>?_⟩,λ_ _⟨t,ht,_⟩=>?_⟩
 . rw[show nO n=aO n.2 by rw[e];exact cm _,cm];exact kM f h.p.vb hb (Nat.le_trans u (Nat.pow_le_pow_right (by decide) (by decide))) k z
 . rw[aD];have:(sm n).val ρ=n.2:=by rw[e,aD]
   rw[this]
 . rw[aD];exact Nat.zero_le _
 . rw[aD];exact Nat.zero_le _
 . rw[aD]at hi;injection hi
 . rw[h0]at ht;cases ht
theorem CN(Y:g.Ok){t:Tm}(h:Ng g ([t],0))(iN:t.k≠1)(hb:1<=b)(Z:b.natAbs<=2^860)(I:b.natAbs*(sm ([t],0)).am<=2^800)(hp:(sm ([t],0)).ph<=p)(cK:p<=115)(hD:4*p+22<=D)(IH:Hy g p D):DS g (D+1) ([t],0) b:=by
 have sb:Sm b=true:=bR (by lia);have ht:t∈(([t],0):aY).1:=List.mem_cons_self;have U:=h.a t ht;have J:=h.p.nz t ht;have bs:=U.sb Y;have N:¬2<=(aW (([t],0):aY)).length:=by simp[aW]
 have q2:nO ([t],0)=bG 485 t.x t.k (dU t) (d9 t):=if_neg iN;have P:(sm ([t],0)).ph=2*t.s.ph:=by simp[nS,aq,wk,iN]
 have W:md [t]=0:=if_neg iN;have ev:∀ρ,(sm ([t],0)).val ρ=t.s.val ρ*t.k:=λρ=>by simp[nS,ao]
 have G:(sm ([t],0)).am=bC t.k*t.s.am:=by simp[nS,aq]
 have Qd:∀i,t.s.vs i=true->(sm ([t],0)).vs i=true:=λi hi=>List.any_eq_true.mpr ⟨t,ht,hi⟩;refine aP U.obj λC fl e hC=>?_;by_cases q:t.k%b=0
 . have T:=um Y h ht iN hb sb q;have kd:=kQ (by assumption) q;have Hu:bC (t.k/b)*t.s.am<=(sm ([t],0)).am:=by rw[G];exact Nat.mul_le_mul_right _ kd
   have a0:(sm ([t],0)).am<=2^800:=h.p.am;have w2:=mX (t.k/b);have PF:(sm ([tq b t],0)).am=bC (t.k/b)*t.s.am:=by simp[nS,aq,tq]
   have Rr:(sm ([tq b t],0)).ph=wk (t.k/b)*t.s.ph:=by simp[nS,aq,tq]
   refine⟨([tq b t],0),λk f=>?_,⟨⟨⟨λu Q=>by rw[List.mem_singleton.mp Q];exact gW J q,by simp,by show(sm ([tq b t],0)).am<=_;rw[PF];(clear G;lia),Nat.zero_le _⟩,λu Q=>by rw[List.mem_singleton.mp Q];exact U⟩,λρ _=>?_,?_,?_,?_,λi hi=>?_⟩,λz=>absurd z N⟩
   . rw[q2,cU (show ba.op 485 .FloorDiv (.type "int")=some 454 by kernel_rfl),T k (by lia)]
   . have:(sm ([tq b t],0)).val ρ=t.s.val ρ*(t.k/b):=by simp[nS,ao,tq]
     rw[this,ev,Int.mul_ediv_assoc _ (Int.dvd_of_emod_eq_zero q)]
   . rw[Rr,P,W];have:=Nat.mul_le_mul_right t.s.ph w2;assumption
   . show t.s.ph+0<=_;rw[P];lia
   . rw[PF];have:1*(sm ([t],0)).am<=b.natAbs*(sm ([t],0)).am:=Nat.mul_le_mul_right _ (by(clear Rr PF w2 a0 Hu kd q G W P N hD cK hp I Z;omega));lia
   . refine ab (cO hi) λu Q e=>?_;rw[List.mem_singleton.mp Q]at e;exact Qd i e
 . have pZ:2<=b:=by
    by_cases q1:b=1
    . rw[q1,Int.emod_one]at q;exact absurd rfl q
    . lia
   have st:∀r,(∀k,D<=k->(if(b.fmod t.k==0)=true then(if decide (0<t.k)=true then((oP (aF k) (aV k) .FloorDiv (.int b) (.int t.k)).bind λd=>(oP (aF k) (aV k) .FloorDiv t.x d).bind some)else(aF k 192 [bG 485 t.x t.k (dU t) (d9 t),.int b,.bool false] []).bind some)else(aF k 192 [bG 485 t.x t.k (dU t) (d9 t),.int b,.bool false] []).bind some)=some r)->Op (D+1) .FloorDiv (nO ([t],0)) (.int b) r:=λr H k f=>by rw[q2,cU (show ba.op 485 .FloorDiv (.type "int")=some 454 by kernel_rfl)];refine aw (d:=D) (by exact up hD rfl) (by decide) (λk f=>?_) k f;have H:=H k f;rw[e]at H⊢;rw[Kq,dt (by assumption),Option.bind_some,dZ _ _ (.inl rfl)];show(if(t.k%b==0)=true then _ else _)=_;rw[if_neg (by simpa using q),yc J,Option.bind_some,dZ _ _ (.inl rfl)];exact H
   by_cases q3:b.fmod t.k=0/\0<t.k
   . refine af q3 λq3 q4=>?_;have X:=Int.dvd_of_fmod_eq_zero q3;have B:=gM t.x t.s t.t;have kle:=Int.le_of_dvd (by lia) X;have kk:bC t.k=t.k.natAbs:=if_pos (by exact Int.le_of_lt q4);have OD:t.k*(b/t.k)=b:=Int.mul_ediv_cancel' X;have HP:(b/t.k).natAbs*t.k.natAbs=b.natAbs:=by rw[<-Int.natAbs_mul,Int.mul_comm,OD]
     have jS:(b/t.k).natAbs*t.s.am<=b.natAbs*(sm ([t],0)).am:=by rw[G,<-HP];have:(b/t.k).natAbs*(1*t.s.am)<=(b/t.k).natAbs*(t.k.natAbs*(bC t.k*t.s.am)):=Nat.mul_le_mul_left _ (Nat.le_trans (Nat.mul_le_mul_right _ (fb J)) (Nat.le_mul_of_pos_left _ (by(clear HP OD kk kle B X q3 pZ G W P N hD cK hp I Z hb;omega))));rw[Nat.one_mul]at this;rw[Nat.mul_assoc];exact this
     have a1:t.s.am<=2^800:=by have:=Nat.mul_le_mul_right t.s.am (fb J);have:(sm ([t],0)).am<=2^800:=h.p.am;lia
     obtain⟨m,O,R,_⟩:=IH (pM t.x t.s t.t) (j6 U a1) (by rw[B.ph];have:=bs.ph;lia) (b/t.k) (Int.ediv_pos_of_pos_of_dvd (by lia) (by lia) X) (Nat.le_trans (Int.natAbs_ediv_le_natAbs ..) Z) (by rw[B.am];exact Nat.le_trans jS I);refine⟨m,st _ λk f=>?_,R.w (λρ bh=>?_) ?_ ?_ (by rw[B.am];exact jS) (λi hi=>Qd i (by rw[B.vs]at hi;exact hi)),λz=>absurd z N⟩
     . have O:=O k f;rw[vy]at O;rw[if_pos (by simpa using q3),if_pos (by simpa using q4),dl (bR (by(clear jS HP pZ q G I;lia))) q4,Option.bind_some,O];rfl
     . rw[B.val,ev]
       conv=>rhs;rw[<-OD,Int.mul_comm (t.s.val ρ)]
       exact(Int.mul_ediv_mul_of_pos _ _ q4).symm
     all_goals
      rw[B.ph,P,W];have:=bs.ph;have:=gw (pM t.x t.s t.t).1;lia
   . obtain⟨m,E,R⟩:=Cu Y h pZ (by have:(2:Nat)^860<=2^870:=Nat.pow_le_pow_right (by lia) (by decide);lia) I (.inr ⟨Int.le_refl _,show(0:Int)<b by lia⟩) (p:=p) hp (by lia);refine⟨m,st _ λk f=>?_,R,λz=>absurd z N⟩;have F:aF k 192 [bG 485 t.x t.k (dU t) (d9 t),.int b,.bool false] []=some (nO m):=
      aw (d:=4*p+16) (by lia) (by decide) (λk f=>(zz ..).trans (E _ _ q2 k f _)) k (by lia)
     rw[F];by_cases q4:b.fmod t.k=0
     . rw[if_pos (by simpa using q4),if_neg (by simp;have:=λz=>q3 ⟨q4,z⟩;(clear q4 J iN;lia))];rfl
     . rw[if_neg (by simpa using q4)];rfl
end
section
variable{g:Gv}{call:aI}{make:aH}{n m a:aY}{p:Nat}{b:Int}{D:Nat}
theorem uw(h:Ng g n)(hb:b=1):RD g n b n:=by rw[hb];exact⟨h,λρ _=>(Int.ediv_one _).symm,Nat.le_add_right ..,Nat.le_trans dC (Nat.le_add_right ..),by show _<=1*_;lia,λ_ h=>h⟩
theorem wv{C:Addr}{fl:List (Str×AV)}{f:AV}:iq call make C fl 1 f=some (.obj C fl):=rfl
theorem PG{w:aY}(I:g.Ok)(hw:Ng g w)(W:w.1≠[])(hb:2<=b)(hB:b.natAbs<=2^860)(ha:b.natAbs*(sm w).am<=2^800)(hp:(sm w).ph<=p)(X:p<=115)(Y:∀t∈w.1,t.k%b≠0)(Z:0<=w.2/\w.2<b){G:Int}(hg:1<G)(gd:G∣b)(J:∀t∈w.1,G∣t.k)(g3:G∣w.2)
 (G2:∀e:Int,e∣b->(∀t∈w.1,e∣t.k)->e∣w.2->e∣G)(hD:4*p+22<=D)(N:Hy g p D):DS g (D+2) (uN G w) (b/G):=by
 have O:∀t∈w.1,t.k%G=0:=λt ht=>Int.emod_eq_zero_of_dvd (J t ht);have h2:w.2%G=0:=Int.emod_eq_zero_of_dvd g3;have f:G*(b/G)=b:=Int.mul_ediv_cancel' gd;have i:=lm hw (b:=G) (by exact Int.le_of_lt hg);refine eM (vN hw (b:=G) (by assumption)) λ_ v2 v3 _=>?_;refine af (lq O h2) λev _=>?_;have DZ:0<b/G:=Int.ediv_pos_of_pos_of_dvd (by exact Int.le_of_lt hb) (by lia) gd;have P:(b/G).natAbs<=2^860:=Nat.le_trans (Int.natAbs_ediv_le_natAbs ..) hB;have B:(b/G).natAbs*(sm (uN G w)).am<=2^800:=Az (by lia) (by lia) ha;have Oq:2<=b/G:=Classical.byContradiction λz=>by
  have e:b/G=1:=by lia
  rw[e,Int.mul_one]at f;refine ax (List.exists_mem_of_ne_nil _ W) λt ht=>?_;exact Y t ht (by rw[<-f];exact O t ht)
 have F:(uN G w).1=w.1.map (tq G):=by rw[ev]
 have Cd:(uN G w).2=w.2/G:=by rw[ev]
 have f8:(uN G w).1≠[]:=by rw[F];exact λe=>W (List.map_eq_nil_iff.mp e)
 rcases aL (uN G w)with⟨q1,_⟩|⟨t,q0,q1,_⟩|⟨t,q0,q1,_⟩|⟨_,q1,_⟩
 . exact absurd q1 f8
 . have Q:w.1.map (tq G)=[t]:=by rw[<-F,q0]
   refine ab (List.map_eq_singleton_iff.mp Q) λt0 U H=>?_;have:=((xg I hw (b:=G) (by lia) O h2).2) t0 U (by rw[H];exact q1);exact(N _ i (by lia) _ (by assumption) P B).mono (by lia)
 . rw[q0]at i B v3⊢;exact(CN I i q1 (by lia) P B (by lia) X hD N).mono (by lia)
 . refine PI I i f8 q1 Oq P B (by lia) X (λt ht=>?_) ?_ (λe he Q U H=>?_) hD N
   . rw[F]at ht;refine ab (List.mem_map.mp ht) λu hu bg=>?_;rw[<-bg];refine decide_eq_false λz=>Y u hu ?_;rw[<-(Int.mul_ediv_cancel' (J u hu)),<-f,Int.mul_emod_mul_of_pos _ _ (by exact Int.le_of_lt hg),z,Int.mul_zero]
   . rw[Cd];refine⟨Int.ediv_nonneg Z.1 (by lia),Int.ediv_lt_of_lt_mul (by lia) ?_⟩;rw[Int.mul_comm,f];exact Z.2
   . have:=G2 (G*e) (by rw[<-f];exact Int.mul_dvd_mul_left G Q) (λt ht=>by
      have:=U (tq G t) (by rw[F];exact List.mem_map.mpr ⟨t,ht,rfl⟩);rw[<-Int.mul_ediv_cancel' (J t ht)];exact Int.mul_dvd_mul_left G this) (by
      rw[Cd]at H;rw[<-Int.mul_ediv_cancel' g3];exact Int.mul_dvd_mul_left G H)
     have h1:=Int.le_of_dvd (by lia) this;have h2:G*1<=G*e:=Int.mul_le_mul_of_nonneg_left (by assumption) (by lia);have h3:G*e=G*1:=by lia
     exact Int.eq_of_mul_eq_mul_left (by lia) h3
theorem KS(i:g.Ok)(h:Ng g n)(h0:n.1≠[])(h2:2<=(aW n).length)(hb:1<=b)(f:b.natAbs<=2^860)(H:b.natAbs*(sm n).am<=2^800)(P:(sm n).ph<=p)(u:p<=115)(B:4*p+22<=D)(F:Hy g p D):DS g (D+3) n b:=by
 have q2:nO n=bZ ((aW n).map iX) (sm n).mn (sm n).mx:=by
  rcases aL n with⟨q1,_⟩|⟨t,rfl,_⟩|⟨t,rfl,_⟩|⟨_,_,q2⟩
  . exact absurd q1 h0
  . simp[aW]at h2
  . simp[aW]at h2
  . exact q2
 by_cases q1:b=1
 . refine⟨n,λk X=>?_,uw h q1,λ_ h=>by lia⟩;rw[q2,cU (show ba.op 656 .FloorDiv (.type "int")=some 632 by kernel_rfl)];refine aw (d:=D) (by exact up B rfl) (by decide) (λk X=>?_) k (by lia);rw[Kj,rR (C:=656) (.inr (.inr (.inr (.inr (.inr (.inr rfl)))))) (by decide) (by lia),Option.bind_some,if_neg (by decide),if_pos (by simpa using q1)]
 have hb:2<=b:=by lia
 by_cases z:∃t∈n.1,fB b t=true
 . exact(GQ i h h0 h2 hb f H P u z B F).mono (by lia)
 have z:∀t∈n.1,fB b t=false:=λt ht=>by
  induction e:fB b t with
  |false=>rfl
  |true=>exact absurd ⟨t,ht,e⟩ z
 have Y:(2:Nat)^860<=2^870:=Nat.pow_le_pow_right (by decide) (by decide);refine dh (tP hb n) λG Q Z=>?_;have I:=uj h hb (Nat.le_trans f Y);have J:=ui z;have nL:(sm (wN b n)).ph=(sm n).ph:=by rw[J];rfl
 have HT:(sm (wN b n)).am=(sm n).am:=by rw[J];rfl
 have U:=Dn hb n;have N:(wN b n).1=n.1:=by rw[J]
 have O:b.natAbs*(sm (wN b n)).am<=2^800:=by rw[HT];exact H
 refine GW i h h0 h2 hb f H P u (by lia) (wr i I hb f O U (p:=p) (by lia) u G Q Z (by lia) (λhg=>?_) (λ_ Ck jQ ht hl=>?_) λn' h' Os b' b1 b2 b3=>(F n' h' (by lia) b' b1 b2 b3).mono (by lia))
 . refine PG i I (by rw[N];exact h0) hb f O (by lia) u (λt ht=>?_) U hg G.2.1 G.2.2.1 G.2.2.2 Q B F;rw[N]at ht;exact of_decide_eq_false (z t ht)
 . have W:=Int.le_of_dvd (by assumption) jQ;refine ab ht λt ht e=>?_;exact(GQ i I (by rw[N];exact h0) hl (by assumption) (yq (by lia) (by exact Int.le_of_lt Ck) W f) (Ay (by lia) (by lia) W (Nat.le_refl _) O) (by lia) u ⟨t,ht,by unfold fB;rw[e,Int.emod_self];rfl⟩ B F).mono (by lia)
theorem PH(N:g.Ok){t:Tm}(h:Ng g ([t],0))(iN:t.k=1)(hb:1<=b)(hB:b.natAbs<=2^860)(B:b.natAbs*(sm ([t],0)).am<=2^800)(G:(sm ([t],0)).ph<=p)(Y:p<=115)(hD:4*p+30<=D)(P:Hy g p D):DS g (D+4) ([t],0) b:=by
 have Q:¬2<=(aW (([t],0):aY)).length:=by simp[aW]
 have q2:nO ([t],0)=t.x:=if_pos iN;have hA:=h.a t List.mem_cons_self;have f:(sm ([t],0)).val=t.s.val/\(sm ([t],0)).ph=t.s.ph/\(sm ([t],0)).am=t.s.am/\(sm ([t],0)).vs=t.s.vs/\md [t]=1:=by refine⟨funext λρ=>?_,?_,?_,funext λi=>?_,if_pos iN⟩<;>simp [nS,ao,aq,wk,bC,iN]
 have E:FS g p ([t],0) b:=by
  by_cases q:b=1
  . refine⟨_,λC fl e k _ fa=>?_,uw h q⟩;rw[q,wv,<-e]
  . exact Cu N h (by lia) (by lia) B (.inr ⟨Int.le_refl _,show(0:Int)<b by assumption⟩) (p:=p) G (by lia)
 obtain⟨m,E,R⟩:=E;have F:∀C fl,t.x= .obj C fl->ba.op C .FloorDiv (.type "int")=some 192->DS g (D+4) ([t],0) b:=λC fl e ho=>by refine⟨m,λk u=>?_,R,λz=>absurd z Q⟩;rw[q2,e,cU ho];exact aw (d:=4*p+16) (by lia) (by decide) (λk u=>(zA ..).trans (E C fl (q2.trans e) k u _)) k (by lia)
 rcases hA.inv with⟨i,_,_,hx,_⟩|⟨ts,r,c,hn,hu,hc,jS,iT,hx,hs⟩|⟨ts,r,c,hn,hu,hc,nv,iT,hx,hs⟩|⟨ts,c,_,_,hx,_⟩
 . exact F _ _ hx (by kernel_rfl)
 . have U:t.s.ph=(nS ts r).ph+md ts:=by rw[hs];rfl
   have W:t.s.am=c.natAbs*(nS ts r).am:=by rw[hs];rfl
   have TI:1<=(nS ts r).am:=cz (r:=r) hn hu.p.nz λt ht=>(hu.a t ht).sb N;have H:(c*b).natAbs*(nS ts r).am=b.natAbs*t.s.am:=by rw[Int.natAbs_mul,W,Nat.mul_comm c.natAbs,Nat.mul_assoc]
   have JX:(c*b).natAbs<=2^800:=by rw[f.2.2.1,<-H]at B;exact Nat.le_trans (Nat.le_mul_of_pos_right _ TI) B
   have Z:1<=c*b:=by have:=Int.mul_pos (show 0<c by exact Int.le_of_lt hc) (show 0<b by assumption);assumption
   have Ra:c.natAbs<=2^800:=by rw[Int.natAbs_mul]at JX;exact Nat.le_trans (Nat.le_mul_of_pos_right _ (Int.natAbs_pos.mpr (Int.ne_of_gt hb))) JX
   have J:(sm (ts,r)).ph<=p:=by rw[f.2.1,U]at G;exact Nat.le_trans (Nat.le_add_right _ _) G
   have I:DS g (D+3) (ts,r) (c*b):=by
    rw[f.2.2.1,<-H]at B;by_cases qm:md ts=1
    . exact(P (ts,r) hu (by have:(sm (ts,r)).ph=(nS ts r).ph:=rfl;rw[f.2.1]at G;(clear J f;lia)) _ Z (by lia) B).mono (by lia)
    . rcases aL (ts,r)with⟨q1,_⟩|⟨t',q0,q1,_⟩|⟨t',q0,q1,_⟩|⟨_,q1,_⟩
      . exact absurd q1 hn
      . have:ts=[t']:=congrArg (·.1) q0;rw[this]at qm;exact absurd (if_pos q1) qm
      . have Ce:Ng g (ts,r):=hu;have J1:(c*b).natAbs*(sm (ts,r)).am<=2^800:=B;rw[q0]at Ce J1 J⊢;exact(CN N Ce q1 Z (by lia) J1 J Y (by lia) P).mono (by lia)
      . exact KS N hu hn q1 Z (by lia) B J Y (by lia) P
   obtain⟨m,O,R,_⟩:=I;refine⟨m,λk u=>?_,R.w (λρ bh=>?_) ?_ ?_ ?_ (λi hi=>?_),λz=>absurd z Q⟩
   . rw[q2,hx,cU (show ba.op 526 .FloorDiv (.type "int")=some 502 by kernel_rfl)];refine aw (d:=D+3) (by lia) (by decide) (λk u=>?_) k u;have O:=O k u;refine aP (bx (r:=r) hu.a) λC fl e hC=>?_;rw[show nO (ts,r)= .obj C fl from e]at O;rw[e,Pf];refine bE (im (bR (by lia)) (bR (by lia))) ?_;rw[O];rfl
   . rw[f.1,hs];exact(Int.ediv_ediv_of_nonneg (by lia)).symm
   . rw[f.2.1];show(nS ts r).ph+md ts<=_;(clear f;lia)
   . rw[f.2.1];show(nS ts r).ph+md ts<=_;lia
   . rw[f.2.2.1];exact Nat.le_of_eq H
   . rw[f.2.2.2.1,hs];exact hi
 . have U:t.s.ph=(nS ts r).ph+mm ts r:=by rw[hs];rfl
   have W:t.s.am=(nS ts r).am:=by rw[hs];rfl
   refine aP (bx (r:=r) hu.a) λC fl e hC=>?_;by_cases qd:c%b=0
   . have jQ:=Int.dvd_of_emod_eq_zero qd;have H:b*(c/b)=c:=Int.mul_ediv_cancel' jQ;have DZ:0<c/b:=Int.ediv_pos_of_pos_of_dvd (by lia) (by exact Int.le_of_lt hb) jQ;have QV:c/b<=c:=Int.ediv_le_self _ (by lia);have J:(sm (ts,r)).ph<=p:=by rw[f.2.1,U]at G;exact Nat.le_trans (Nat.le_add_right _ _) G
     have I:DS g (D+3) (ts,r) b/\(mm ts r=1\/md ts=0):=by
      rw[f.2.2.1,W]at B;by_cases qm:mm ts r=1
      . exact⟨(P (ts,r) hu (by have:(sm (ts,r)).ph=(nS ts r).ph:=rfl;rw[f.2.1]at G;(clear J f;lia)) _ hb hB B).mono (by lia),.inl qm⟩
      . have:=yu hn qm;refine bV this λt' aK bg ht=>?_;clear this;subst aK;rw[bg]at*
        exact⟨(CN N hu ht hb hB B J Y (by lia) P).mono (by lia),.inr (if_neg ht)⟩
     refine af I λcr hm=>?_;obtain⟨v,O,R,_⟩:=cr;have UM:=gw ts;have UL:=kh ts r;have UK:=kh v.1 v.2;have pX:=R.ph;obtain⟨m,O2,R2⟩:=oN N (p+1) v R.nd (by(clear U;lia)) (by lia) (c/b) DZ (by lia);have tO:(sm v).ph+mm v.1 v.2<=t.s.ph+1:=by(clear f;lia)
     refine⟨m,λk u=>?_,R2.w (λρ bh=>?_) (by rw[f.2.1,f.2.2.2.2];exact tO) (by rw[f.2.1,f.2.2.2.2];exact tO) (by rw[f.2.2.1,W];exact R.am) (λi hi=>?_),λz=>absurd z Q⟩
     . rw[q2,hx,cU (show ba.op 574 .FloorDiv (.type "int")=some 550 by kernel_rfl)];refine aw (d:=D+3) (by lia) (by decide) (λk u=>?_) k u;have O:=O k u;rw[show nO (ts,r)= .obj C fl from e]at O;rw[e,Kl];unfold yx;refine bE (dt (by lia)) ?_;rw[dZ _ _ (.inl rfl)];show(if(c%b==0)=true then _ else _)=_;rw[if_pos (by simpa using qd),O,Option.bind_some,dl (bR (by lia)) (by lia),Option.bind_some,(O2 k (by lia))];rfl
     . rw[R.val ρ bh,f.1,hs];show(nS ts r).val ρ/b%(c/b)=(nS ts r).val ρ%c/b;generalize(nS ts r).val ρ=x;have h1:=Int.mul_ediv_add_emod x b;have h2:=Int.mul_ediv_add_emod (x/b) (c/b);have h3:x%c=b*(x/b%(c/b))+x%b:=by
        have h4:x=c*(x/b/(c/b))+(b*(x/b%(c/b))+x%b):=by
         conv=>lhs;rw[<-h1,<-h2]
         rw[Int.mul_add,<-Int.mul_assoc,H];rw[Int.add_assoc]
        have a0:=Int.emod_nonneg x (b:=b) (by exact Int.ne_of_gt hb);have a1:=Int.emod_lt_of_pos x (b:=b) (by lia);have b1:=Int.emod_lt_of_pos (x/b) (b:=c/b) (by assumption);have c0:=Int.mul_nonneg (show 0<=b by lia) (Int.emod_nonneg (x/b) (b:=c/b) (by exact Int.ne_of_gt DZ));have c1:b*(x/b%(c/b)+1)<=b*(c/b):=Int.mul_le_mul_of_nonneg_left (by assumption) (by lia);rw[H,Int.mul_add,Int.mul_one]at c1
        conv=>lhs;rw[h4]
        rw[Int.add_comm,Int.add_mul_emod_self_left];exact Int.emod_eq_of_lt (by(clear h4;lia)) (by(clear h2 h1 O2 QV DZ H qd hb;lia))
       rw[h3,Int.add_comm,Int.add_mul_ediv_left _ _ (by lia),Int.ediv_eq_zero_of_lt (Int.emod_nonneg x (by lia)) (Int.emod_lt_of_pos x (by lia)),Int.zero_add]
     . rw[f.2.2.2.1,hs];exact R.vs i hi
   . refine⟨m,λk u=>?_,R,λz=>absurd z Q⟩;have X:Ev (D+4) 550 [nO ([t],0),.int b] [] (nO m):=aw (d:=D+3) (by lia) (by decide) λk u=>by
      have F2:aF k 192 [nO ([t],0),.int b,.bool true] []=some (nO m):=by rw[q2,hx];exact aw (d:=4*p+16) (by lia) (by decide) (λk u=>(zz ..).trans (E _ _ (q2.trans hx) k u _)) k (by lia)
      rw[q2,hx]at F2⊢;rw[e]at F2⊢;rw[Kl];unfold yx;refine bE (dt (by lia)) ?_;rw[dZ _ _ (.inl rfl)];show(if(c%b==0)=true then _ else _)=_;rw[if_neg (by simpa using qd),F2];rfl
     have X:=X k u;rw[q2,hx]at X⊢;rw[cU (show ba.op 574 .FloorDiv (.type "int")=some 550 by kernel_rfl)];exact X
 . exact F _ _ hx (by kernel_rfl)
theorem x7(f:g.Ok):∀p:Nat,p<=115->∀n,Ng g n->(sm n).ph<=p->∀b:Int,1<=b->b.natAbs<=2^860->b.natAbs*(sm n).am<=2^800->DS g (4*p+40) n b:=by
 intro p
 induction p with
 |zero=>intro _ n h u b hb i z;refine(KQ f h (Classical.byContradiction λq=>?_) hb i).mono (by decide);have:2<=(sm n).ph:=ca (r:=n.2) q λt ht=>(h.a t ht).sb f;lia
 |succ p ih=>
  intro B n h u b hb i z;have F:Hy g (p+1) (4*p+40):=λG h' I H b1 b2 b3=>ih (by exact Nat.le_of_lt B) G h' (by lia) H b1 b2 b3;rcases aL n with⟨q1,_⟩|⟨t,rfl,q1,_⟩|⟨t,rfl,q1,_⟩|⟨q0,q1,_⟩
  . exact(KQ f h q1 hb i).mono (by lia)
  . exact(PH f h q1 hb i z u B (by lia) F).mono (by lia)
  . exact(CN f h q1 hb i z u B (by lia) F).mono (by lia)
  . exact(KS f h q0 q1 hb i z u B (by lia) F).mono (by lia)
end
section
variable{g:Gv}{call:aI}{make:aH}{n m v:aY}{p:Nat}{b:Int}{D:Nat}
noncomputable abbrev IV(n:aY)(b:Int):(Nat->Int)->Int:=λρ=>if(sm n).val ρ<b then 1 else 0
noncomputable abbrev RL(g:Gv)(n:aY)(b:Int)(m:aY):Prop:=RS g m (IV n b) (nP n.1+2) (nP n.1+2) (sm n).am (λi=>(sm n).vs i=true)
theorem FD{c:Int}(f:c=0\/c=1)(h:∀ρ,g.In ρ->c=IV n b ρ):RL g n b ([],c):=
 ⟨cV (by rcases f with rfl|rfl<;>decide),λρ u=>by rw[aD];exact h ρ u,by rw[aD];exact Nat.zero_le _,Nat.zero_le _,by rw[aD];exact Nat.zero_le _,λi hi=>by rw[aD]at hi;injection hi⟩
inductive LA(g:Gv)(v:aY)(b:Int):Prop
 |mk (m:aY) (e:∀k,6<=k->((aV k 430 [nO v,.int b]).bind λgl=>(aF k 354 [.obj 430 gl] []).bind some)=some (nO m)) (r:RL g v b m)
theorem IW(U:g.Ok)(h:Ng g v)(h0:v.1=[]\/v.2=0)(b:Int):LA g v b:=by
 refine aP (bx (r:=v.2) h.a) λC fl e W=>?_;have e:nO v= .obj C fl:=e;have P:Bd (nO v) (sm v).mn (sm v).mx:=lH h.a;have st:∀x y:Int,Ev 4 413 [.obj 430 (qq (nO v) (.int b))] [] (.tup [.int x,.int y])->∀k,6<=k->((aV k 430 [nO v,.int b]).bind λX=>(aF k 354 [.obj 430 X] []).bind some)=(aF k 354 [bG 430 (nO v) b x y] []).bind some:=λx y E k u=>by
  have M:Mk 6 430 [nO v,.int b] (IF (nO v) b x y):=mw (d:=4) (by decide) λk u=>by rw[OS,E k u];rfl
  rw[M k u];rfl
 have Y:∃q,(∀k,3<=k->cM (aF k) (aV k) .Eq (nO v) (.int b)=some q)/\(q=true->v.1=[]/\v.2=b):=by
  by_cases q1:v.1=[]
  . have G:v=([],v.2):=by rw[<-q1]
    refine ag (v.2==b) (λk u=>?_) (λq=>⟨q1,by simpa using q⟩);rw[show nO v=aO v.2 by rw[G];exact cm _];show(match ba.eq 338 (.type "int")with|some f=>(aF k f [aO v.2,.int b] []).bind Er|none=>none)=_;rw[show ba.eq 338 (.type "int")=some 321 by kernel_rfl];dsimp only;rw[(aw (by decide) (by decide) λk _=>Pr ..) k u];rfl
  . refine ag false (λk u=>?_) (λq=>by cases q);rw[e];refine rR W (λq=>?_) u;rcases aL v with⟨q2,_⟩|⟨t,rfl,_,q3⟩|⟨t,rfl,_,q3⟩|⟨_,_,q3⟩
    . exact q1 q2
    . refine aP ((h.a t List.mem_cons_self).obj) λC' eK Z TH=>?_;rw[q3,Z]at e;(injection e with z;subst z);rcases TH with rfl|rfl|rfl|rfl<;>cases q
    . rw[q3]at e;(injection e with z;subst z);cases q
    . rw[q3]at e;(injection e with z;subst z);cases q
 refine ab Y λq J Oq=>?_;have body:∀r,(∀k,3<=k->(if q=true then some (.tup [.int 0,.int 0])else if decide ((sm v).mx<b)=true then some (.tup [.int 1,.int 1])else if decide (b<=(sm v).mn)=true then some (.tup [.int 0,.int 0])else some (.tup [.int 0,.int 1]))=some r)->Ev 4 413 [.obj 430 (qq (nO v) (.int b))] [] r:=λr H=>aw (d:=3) (by decide) (by decide) λk u=>by have J:=J k u;rw[e]at J P⊢;refine af (P (aF k) (aV k)) λG N=>?_;rw[Pm,J,Option.bind_some,G,N];exact(H k u)
 have bn:=λρ B=>h.bn U (ρ:=ρ) B;have g8:∀c:Int,(c=0\/c=1)->(∀ρ,g.In ρ->c=IV v b ρ)->Ev 4 413 [.obj 430 (qq (nO v) (.int b))] [] (.tup [.int c,.int c])->LA g v b:=λc hc hv E=>by
  refine⟨([],c),λk u=>?_,FD hc hv⟩;have:Ev 5 354 [bG 430 (nO v) b c c] [] (aO c):=aw (d:=4) (by omega) (by decide) λk u=>by rw[pr _ _ 430 (.inl rfl),if_pos (by simp),if_pos (by simp),e9 _ k u];rfl
  rw[st c c E k u,this k (by exact Nat.le_of_lt u),cm];rfl
 by_cases I:q=true
 . refine af (Oq I) λh1 h2=>?_;refine g8 0 (.inl rfl) (λρ _=>?_) (body _ λk _=>by rw[if_pos I]);have:(sm v).val ρ=b:=by rw[(by rw[<-h1]:v=([],v.2)),aD];exact h2
   show 0=if(sm v).val ρ<b then(1:Int)else 0
   rw[if_neg (by lia)]
 . by_cases F:(sm v).mx<b
   . refine g8 1 (.inr rfl) (λρ B=>?_) (body _ λk _=>by rw[if_neg I,if_pos (decide_eq_true F)]);have:=(λρ B=>(bn ρ B).2) ρ B;show 1=if(sm v).val ρ<b then(1:Int)else 0
     rw[if_pos (by lia)]
   . by_cases O:b<=(sm v).mn
     . refine g8 0 (.inl rfl) (λρ B=>?_) (body _ λk _=>by rw[if_neg I,if_neg (by simpa using F),if_pos (decide_eq_true O)]);have:=(λρ B=>(bn ρ B).1) ρ B;show 0=if(sm v).val ρ<b then(1:Int)else 0
       rw[if_neg (by(clear F;lia))]
     . have E:=body (.tup [.int 0,.int 1]) λk _=>by rw[if_neg I,if_neg (by simpa using F),if_neg (by simpa using O)]
       have Q:v.1≠[]:=λq1=>by
        have G:v=([],v.2):=by rw[<-q1]
        rw[G,aD]at F O;lia
       have N:v.2=0:=h0.resolve_left Q;obtain⟨ts,r⟩:=v;simp only at N;subst N;obtain⟨s1,s2,s3,s4,s5,s6,s7⟩:=gM (bG 430 (nX ts 0) b 0 1) (oD ts b) (("(":Str)++nT ts 0++("<":Str)++bb b++(")":Str));refine⟨pM _ _ _,λk u=>?_,⟨j6 (.lt ts b Q h.p h.a (show(sm (ts,0)).mn<b by exact Int.not_le.mp O) (show b<=(sm (ts,0)).mx by exact Int.not_lt.mp F)) h.p.am,λρ _=>by rw[s1];rfl,Nat.le_of_eq s2,Nat.le_of_eq s3,Nat.le_of_eq s4,λi hi=>by rw[s5]at hi;exact hi⟩⟩;rw[st 0 1 E k u,vi (.inl rfl) (nO (ts,0)) b (by decide) k (by exact up u rfl),vy];rfl
theorem CT{K y b:Int}(f:0<K):K*y<b<->y<(b+K-1)/K:=by have:=Int.le_ediv_iff_mul_le (a:=y+1) (b:=b+K-1) f;rw[Int.add_mul,Int.mul_comm y K,Int.one_mul]at this;omega
inductive P3(g:Gv)(d:Nat)(n:aY)(b:Int):Prop
 |mk (m:aY) (e:Ev d 359 [nO n,.int b] [] (nO m)) (r:RL g n b m)
theorem LG(B:g.Ok)(h:Ng g n)(G:n.1=[]\/∃t,n=([t],0))(b:Int):P3 g 8 n b:=by
 rcases aL n with⟨q1,q2⟩|⟨t,rfl,q1,q2⟩|⟨t,rfl,q1,q2⟩|⟨q0,q1,_⟩
 . obtain⟨m,E,R⟩:=IW B h (.inl q1) b;refine⟨m,aw (d:=7) (by decide) (by decide) λk f=>?_,R⟩;have E:=E k (by exact Nat.le_of_lt f);rw[q2]at E⊢;rw[Ee _ _ 338 (by decide)];exact E
 . obtain⟨m,E,R⟩:=IW B h (.inr rfl) b;refine⟨m,aw (d:=7) (by decide) (by decide) λk f=>?_,R⟩;have E:=E k (by exact Nat.le_of_lt f);refine aP ((h.a t List.mem_cons_self).obj) λC fl e P=>?_;rw[q2,e]at E⊢;rw[Ee _ _ C (by rcases P with rfl|rfl|rfl|rfl<;>decide)];exact E
 . have ht:t∈(([t],0):aY).1:=List.mem_cons_self;have N:=h.a t ht;have X:=h.p.nz t ht;have ev:∀ρ,(sm ([t],0)).val ρ=t.s.val ρ*t.k:=λρ=>by simp[nS,ao]
   have Y:(sm ([t],0)).am=bC t.k*t.s.am:=by simp[nS,aq]
   have a0:(sm ([t],0)).am<=2^800:=h.p.am;have kp:=Nat.mul_le_mul_right t.s.am (fb X);refine aP N.obj λC fl e P=>?_;by_cases q3:t.k= -1
   . obtain⟨m,E,R⟩:=IW B h (.inr rfl) b;refine⟨m,aw (d:=7) (by omega) (by decide) λk f=>?_,R⟩;have E:=E k (by exact Nat.le_of_lt f);rw[q2,e]at E⊢;rw[Eb,if_pos (by simpa using q3)];exact E
   . let s:Int:=if 0<t.k then 1 else-1
     let K:Int:=if t.k<0 then-t.k else t.k
     have Q:s≠0:=by show(if 0<t.k then(1:Int)else-1)≠0;split<;>decide
     have H:0<K:=by show 0<if t.k<0 then-t.k else t.k;split<;>omega
     have I:t.k=K*s:=by
      show t.k=(if t.k<0 then-t.k else t.k)*(if 0<t.k then 1 else-1);by_cases z:0<t.k
      . rw[if_pos z,if_neg (by(clear H q3 q1;lia))];lia
      . rw[if_neg z,if_pos (by(clear q3;lia))];(clear H;lia)
     have O:bC s<=bC t.k:=by
      show bC (if 0<t.k then 1 else-1)<=_;unfold bC;by_cases z:0<t.k
      . rw[if_pos z,if_pos (by decide),if_pos (by exact Int.le_of_lt z)];(clear I G;lia)
      . rw[if_neg z,if_neg (by decide),if_neg (by(clear I q3;lia))];exact Nat.mul_le_mul_left _ (by(clear I q3 G;lia))
     have U:s.natAbs<=2^900:=by show(if 0<t.k then(1:Int)else-1).natAbs<=_;split<;>decide
     have W:=(h.fv B).2.2.2 t ht;have Z:Ng g ([{t with k:=s}],0):=by
      have F:(sm ([{t with k:=s}],0)).am=bC s*t.s.am:=by simp[nS,aq]
      have:=Nat.mul_le_mul_right t.s.am O;exact⟨⟨λu J=>by rw[List.mem_singleton.mp J];exact Q,by simp,by show(sm ([{t with k:=s}],0)).am<=_;rw[F];(clear F W U O I H kp;omega),Nat.zero_le _⟩,λu J=>by rw[List.mem_singleton.mp J];exact N⟩
     have M:=BX (t:={t with k:=s}) B (λ_=>⟨N,U,by show t.s.am<=_;lia⟩) N;rw[if_neg (show¬({t with k:=s}:Tm).k=0 from Q)]at M;obtain⟨m,E,R⟩:=IW B Z (.inr rfl) ((b+K-1)/K);have sK:Sm K=true:=by refine bR ?_;show(if t.k<0 then-t.k else t.k).natAbs<=_;have:(t.k).natAbs<=2^800:=W;split<;>omega
     refine⟨m,aw (d:=7) (by omega) (by decide) λk f=>?_,R.w (λρ bh=>?_) ?_ ?_ ?_ λi hi=>?_⟩
     . have E:=E k (by exact Nat.le_of_lt f);have M:=M k (by exact Nat.le_of_lt f);have M:oP (aF k) (aV k) .Mult (.obj C fl) (.int s)=some (nO ([{t with k:=s}],0)):=by rw[<-e];exact M
       rw[q2,e,Eb,if_neg (by simpa using q3)];show((oP _ _ .Mult (.obj C fl) (.int s)).bind λv=>(oP _ _ .FloorDiv (.int (b+K-1)) (.int K)).bind λw=>(aV k 430 [v,w]).bind λgl=>(aF k 354 [.obj 430 gl] []).bind some)=_;rw[M,Option.bind_some,dl sK H,Option.bind_some];exact E
     . show(if(sm ([{t with k:=s}],0)).val ρ<(b+K-1)/K then(1:Int)else 0)=if(sm ([t],0)).val ρ<b then 1 else 0
       have F:(sm ([{t with k:=s}],0)).val ρ=t.s.val ρ*s:=by simp[nS,ao]
       have e2:t.s.val ρ*t.k=K*(t.s.val ρ*s):=by rw[I,<-Int.mul_assoc,<-Int.mul_assoc,Int.mul_comm K]
       have:=CT (y:=t.s.val ρ*s) (b:=b) H;rw[F,ev,e2];simp only[this]
     . exact Nat.le_refl _
     . exact Nat.le_refl _
     . have F:(sm ([{t with k:=s}],0)).am=bC s*t.s.am:=by simp[nS,aq]
       rw[F,Y];exact Nat.mul_le_mul_right _ O
     . refine ab (cO hi) λu J e=>?_;rw[List.mem_singleton.mp J]at e;exact List.any_eq_true.mpr ⟨t,ht,e⟩
 . rcases G with G|⟨t,rfl⟩
   . exact absurd G q0
   . simp[aW]at q1
end
section
variable{g:Gv}{call:aI}{make:aH}{n m v:aY}{p:Nat}{b:Int}{D:Nat}
theorem lN{C:Addr}(h:ue C):ba.isin (.ref C) (.ref 656)=some (decide (C=656)):=by rcases h with rfl|rfl|rfl|rfl|rfl|rfl|rfl<;>kernel_rfl
theorem yt(h:∀t∈n.1,At g t.x t.s t.t):∃C fl,nO n= .obj C fl/\ue C/\(C=656<->(n.1≠[]/\2<=(aW n).length)):=by
 rcases aL n with⟨q1,q2⟩|⟨t,rfl,q1,q2⟩|⟨t,rfl,q1,q2⟩|⟨q0,q1,q2⟩
 . exact⟨_,_,q2,.inr (.inl rfl),λh=>(by cases h),λh=>absurd q1 h.1⟩
 . refine aP ((h t List.mem_cons_self).obj) λC fl e f=>?_;refine⟨C,fl,q2.trans e,f.nd,λh=>?_,λh=>?_⟩
   . rw[h]at f;rcases f with h|h|h|h<;>cases h
   . have:=h.2;simp[aW]at this
 . refine⟨_,_,q2,.inr (.inr (.inr (.inl rfl))),λh=>(by cases h),λh=>?_⟩;have:=h.2;simp[aW]at this
 . exact⟨_,_,q2,.inr (.inr (.inr (.inr (.inr (.inr rfl))))),λ_=>⟨q0,q1⟩,λ_=>rfl⟩
theorem QC(i:g.Ok)(h:Ng g v)(h0:v.2=0)(b:Int):∃m,(∀k,8<=k->ri (aF k) (aV k) (nO v) (.int b)=some (nO m))/\RL g v b m:=by
 refine cP (yt h.a) λC fl e u z=>?_;by_cases q:C=656
 . obtain⟨m,E,R⟩:=IW i h (.inr h0) b;refine ag m (λk f=>?_) R;have E:=E k (by exact up f rfl);unfold ri;rw[e]at E⊢;show(ba.isin (.ref C) (.ref 656)).bind _=_;rw[lN u,Option.bind_some,if_pos (decide_eq_true q)];exact E
 . obtain⟨m,E,R⟩:=LG i h (by
    rcases aL v with⟨q1,_⟩|⟨t,q0,_⟩|⟨t,q0,_⟩|⟨q0,q1,_⟩
    . exact .inl q1
    . exact .inr ⟨t,q0⟩
    . exact .inr ⟨t,q0⟩
    . exact absurd (z.mpr ⟨q0,q1⟩) q) b
   refine ag m (λk f=>?_) R;have E:=E k f;unfold ri;rw[e]at E⊢;show(ba.isin (.ref C) (.ref 656)).bind _=_;rw[lN u,Option.bind_some,if_neg (by simpa using q),E];rfl
noncomputable def mB(b:Int)(t:Tm):Bool:=decide (t.k≠1)&&(decide (0<t.k)&&decide (b<=d9 t))
theorem o5{t:Tm}(h:At g t.x t.s t.t):jT (bz t)=true/\mN b (bz t)=some (mB b t):=by
 unfold bz mB;by_cases q:t.k=1
 . rw[if_pos q];refine aP h.obj λC fl e f=>?_;rw[e,decide_eq_false (show¬t.k≠1 by simpa using q)];rcases f with rfl|rfl|rfl|rfl<;>exact ⟨rfl,rfl⟩
 . rw[if_neg q,decide_eq_true q];refine⟨rfl,(by kernel_rfl:mN b (bG 485 t.x t.k (dU t) (d9 t))=if decide (0<t.k)=true then some (decide (b<=d9 t))else some false).trans ?_⟩;induction decide (0<t.k)<;>rfl
theorem BZ(W:g.Ok)(h:Ng g n)(h0:n.1≠[])(hl:n.1.length<=60)(l:AV)(b:Int){k:Nat}:∃x,bU (ay (aF k) (aV k) 359 0 196) ["x"] (bf ((aW n).map iX)) [("lhs",.fz l),("b",.fz (.int b)),("new_sum",.ol [])]=some (.next (dD l (b-n.2) (.ol (n.1.map bz)) [("x",.fz x)])):=by
 obtain⟨X,z,r1,H,B,rfl⟩:=fK (body:=ay (aF k) (aV k) 359 0 196) (nm:=["x"]) (x:=bz) (f:=λi t=>i++[t]) (b0:=([]:List Tm)) (R:=λi σ=>∃r:ah,(r=[]\/∃x,r=[(("x":Str),EV.fz x)])/\(i≠[]->r≠[])/\σ=dD l b (.ol (i.map bz)) r) n.1 (λi t Y e σ F=>by
  refine bV F λr hr _ I=>?_;clear F;subst I;rw[dE,List.nil_append];have J:aX (dD l b (.ol (i.map bz)) r) ["x"] [bz t]=dD l b (.ol (i.map bz)) [("x",.fz (bz t))]:=by rcases hr with rfl|⟨x,rfl⟩<;>rfl
  refine wC (oq (h.a t (by rw[e];simp))) λC fl G N O P=>?_;have u:(i.map bz).length<=1000:=by have:=congrArg List.length e;rw[List.length_append,List.length_cons]at this;rw[List.length_map];lia
  rw[J];refine⟨_,?_,[("x",.fz (bz t))],.inr ⟨_,rfl⟩,(λ_ h=>nomatch h),rfl⟩;rw[G,Jd _ _ l b _ C (by
   rcases N with rfl|rfl|rfl|rfl|rfl|rfl|rfl
   . decide
   . exact absurd rfl O
   . decide
   . decide
   . decide
   . decide
   . exact absurd rfl P) fl,if_pos u,List.map_append,<-G];rfl) (σ0:=dD l b (.ol []) []) ⟨[],.inl rfl,λh=>absurd rfl h,rfl⟩
 rw[dE,List.nil_append]at z B;refine ax (H.resolve_left (B h0)) λx Q=>?_;subst Q;have U:bf ((aW n).map iX)=bf (n.1.map bz)++bf (((if n.2=0 then[]else[.inr n.2]):List It).map iX):=by unfold aW;rw[List.map_append,List.map_map];exact List.map_append ..
 rw[U,jh z];by_cases q:n.2=0
 . rw[if_pos q,q,Int.sub_zero];exact⟨x,rfl⟩
 . rw[if_neg q];refine⟨aO n.2,?_⟩;refine rI (row:=[aO n.2]) ?_;rw[(rfl:aX (dD l b (.ol (n.1.map bz)) [("x",.fz x)]) ["x"] [aO n.2]=dD l b (.ol (n.1.map bz)) [("x",.fz (aO n.2))]),Je]
end
section
variable{g:Gv}{call:aI}{make:aH}{n m v:aY}{p:Nat}{b:Int}{D:Nat}
noncomputable def HH(b:Int)(ts:List Tm):Int:=ts.foldl (λg t=>(Int.gcd g t.k:Int)) b
theorem P6(ts:List Tm):HH b ts∣b/\(∀t∈ts,HH b ts∣t.k)/\(ts≠[]->0<=HH b ts):=by
 have:∀(ts:List Tm)(f:Int),let G:=ts.foldl (λg t=>(Int.gcd g t.k:Int)) f;G∣f/\(∀t∈ts,G∣t.k)/\(ts≠[]\/0<=f->0<=G):=λts=>by
  induction ts with
  |nil=>exact λf=>⟨Int.dvd_refl _,λt ht=>(nomatch ht),λh=>h.resolve_left λz=>z rfl⟩
  |cons a l ih=>
   intro f;refine dh (ih (Int.gcd f a.k)) λh1 h2 i=>?_;refine⟨Int.dvd_trans h1 (Int.gcd_dvd_left ..),λt ht=>?_,λ_=>i (.inr (by lia))⟩;rcases List.mem_cons.mp ht with rfl|ht
   . exact Int.dvd_trans h1 (Int.gcd_dvd_right ..)
   . exact h2 t ht
 refine dh (this ts b) λh1 h2 i=>?_;exact⟨h1,h2,λh=>i (.inl h)⟩
theorem Bq(f:Tm->Int)(q:Tm->Bool)(l:List Tm):ao (l.map f)=ao ((l.filter q).map f)+ao ((l.filter λt=> !q t).map f):=by
 induction l with
 |nil=>rfl
 |cons a l ih=>
  rw[List.filter_cons,List.filter_cons,List.map_cons,ak,ih];induction q a
  . simp[ak];lia
  . simp[ak];lia
theorem lY(q:Tm->Bool)(w:Tm->Nat)(l:List Tm):aq ((l.filter q).map w)<=aq (l.map w):=by
 induction l with
 |nil=>exact Nat.le_refl _
 |cons a l ih=>
  rw[List.filter_cons,List.map_cons,au];split
  . rw[List.map_cons,au];lia
  . lia
theorem sM(f:g.Ok){ts:List Tm}(h:Ng g (ts,0))(hl:ts.length<=60)(i:nP ts<=p)(u:p<=120):Ev (4*p+11) 211 [.list (ts.map bz)] [] (nO (ts,0)):=by
 have S:=lu f h.w hl i u;have:(ts.map (λt=>(([t],0):aY))++nF 0).map nO=ts.map bz:=by rw[show nF 0=[]from rfl,List.append_nil,List.map_map];rfl
 rw[this]at S;exact S
set_option maxHeartbeats 1000000 in
theorem So(J:g.Ok)(h:Ng g n)(h0:n.1≠[])(h2:2<=(aW n).length)(b:Int)(Y:nP n.1<=p)(cK:p<=118):P3 g (4*p+13) n b:=by
 have hl:n.1.length<=60:=h.w.len J (by lia);have q2:nO n=bZ ((aW n).map iX) (sm n).mn (sm n).mx:=by
  rcases aL n with⟨q1,_⟩|⟨t,rfl,_⟩|⟨t,rfl,_⟩|⟨_,_,q2⟩
  . exact absurd q1 h0
  . simp[aW]at h2
  . simp[aW]at h2
  . exact q2
 have hv:Ng g (n.1,0):=⟨⟨h.p.nz,h.p.nd,h.p.am,Nat.zero_le _⟩,h.a⟩;generalize J0:b-n.2=b';let T1:=n.1.filter (mB b');let B:=n.1.filter λt=> !mB b' t;have OI:Ng g (B,0):=kX h _ (Nat.zero_le _);have f1:(n.1.map bz).filter (lI b')=T1.map bz:=by rw[List.filter_map];refine congrArg (List.map bz) (List.filter_congr λt ht=>?_);show(mN b' (bz t)).getD false=_;rw[(o5 (h.a t ht)).2];rfl
 have f2:(n.1.map bz).filter (λy=> !lI b' y)=B.map bz:=by rw[List.filter_map];refine congrArg (List.map bz) (List.filter_congr λt ht=>?_);show(!(mN b' (bz t)).getD false)=_;rw[(o5 (h.a t ht)).2];rfl
 refine cP (yt hv.a) λC fl ev hC hs=>?_;have key:∃m,(∀k,4*p+12<=k->∀x,oY (aF k) (aV k) 6 192 (kb (nO (n.1,0)) (.int b') (n.1.map bz) x (n.1.map bz) (T1.map bz) (B.map bz) [])=some (nO m))/\RL g (n.1,0) b' m:=by
  refine ab (QC J hv rfl b') λm0 E0 R0=>?_;by_cases qe:T1=[]
  . refine ag m0 (λk F x=>?_) R0;rw[Nq _ _ _ _ _ _ _ _ _ (by rw[qe];rfl),N1];exact E0 k (by exact up F rfl)
  . refine dh (P6 (b:=b') T1) λH1 H2 H3=>?_;have H3:=H3 qe;have O:∀t∈T1,t.k≠1/\0<t.k:=λt ht=>by
     have:=(List.mem_filter.mp ht).2;unfold mB at this;simp at this;exact⟨this.1,this.2.1⟩
    refine ax (List.exists_mem_of_ne_nil _ qe) λN P=>?_;have Z:0<HH b' T1:=by
     have:=H2 N P;refine Or.elim (Int.lt_or_eq_of_le H3) (λz=>?_) λz=>?_
     . exact z
     . rw[<-z]at this;have:=(O N P).2;lia
    have UV:HH b' T1<=N.k:=Int.le_of_dvd (O N P).2 (H2 N P);have sG:Sm (HH b' T1)=true:=by have:=(h.fv J).2.2.2 N (List.mem_filter.mp P).1;exact bR (by(clear qe hs;lia))
    have Q:∀k,1<=k->∀x,∃y,bU (ay (aF k) (aV k) 359 1 189) ["x"] (bf (T1.map bz)) (kb (nO (n.1,0)) (.int b') (n.1.map bz) x (n.1.map bz) (T1.map bz) (B.map bz) [("mul_gcd",.fz (.int b'))])=
     some (.next (kb (nO (n.1,0)) (.int b') (n.1.map bz) y (n.1.map bz) (T1.map bz) (B.map bz) [("mul_gcd",.fz (.int (HH b' T1)))])):=λk F x=>by
     obtain⟨σ,e,y,rfl⟩:=fK (body:=ay (aF k) (aV k) 359 1 189) (nm:=["x"]) (x:=bz) (f:=λH t=>H++[t]) (b0:=([]:List Tm)) (R:=λH σ=>∃y,σ=kb (nO (n.1,0)) (.int b') (n.1.map bz) y (n.1.map bz) (T1.map bz) (B.map bz) [("mul_gcd",.fz (.int (HH b' H)))]) T1 (λH t ka e σ bJ=>by
      refine ax bJ λy aK=>?_;clear bJ;rw[aK];rw[dE,List.nil_append];have ht:t∈T1:=by rw[e];simp
      have et:bz t=bG 485 t.x t.k (dU t) (d9 t):=if_neg (O t ht).1;refine⟨_,?_,bz t,rfl⟩;rw[et,Jf _ _ _ _ _ _ _ _ _ 485 rfl];refine bE (show gA (aF k) (aV k) (bG 485 t.x t.k (dU t) (d9 t)) "b"=some (.int t.k) by kernel_rfl) ?_;refine bE (CH _ _ F) ?_;have:HH b' (H++[t])=(Int.gcd (HH b' H) t.k:Int):=by unfold HH;rw[List.foldl_append];rfl
      rw[this]) ⟨x,rfl⟩
     rw[dE,List.nil_append]at e;exact⟨y,e⟩
    have S2:=sM (p:=p) J OI (Nat.le_trans (List.length_filter_le ..) hl) (Nat.le_trans (lY _ _ _) Y) (by lia);have bO:Bd (nO (B,0)) (sm (B,0)).mn (sm (B,0)).mx:=lH OI.a;have I:∀k,4*p+12<=k->∀x,∃y,oY (aF k) (aV k) 6 192 (kb (nO (n.1,0)) (.int b') (n.1.map bz) x (n.1.map bz) (T1.map bz) (B.map bz) [])=Nj (aF k) (aV k) 2 189 (kb (nO (n.1,0)) (.int b') (n.1.map bz) y (n.1.map bz) (T1.map bz) (B.map bz) [("mul_gcd",.fz (.int (HH b' T1)))]):=λk F x=>by
     refine ax (Q k (by exact up F rfl) x) λy e=>?_;refine⟨y,?_⟩;have ht:ib (.list (T1.map bz))=some true:=by
      have U:(T1.map bz).length<=1000:=by rw[List.length_map];exact Nat.le_trans (List.length_filter_le ..) (by lia)
      show(if _ then some (!(T1.map bz).isEmpty)else none)=_;rw[if_pos U]
      induction hq:T1 using List.casesOn with
      |nil=>exact absurd hq qe
      |cons=>rfl
     rw[Np _ _ _ _ _ _ _ _ _ ht,e];rfl
    by_cases c1:0<=(sm (B,0)).mn/\(sm (B,0)).mx<HH b' T1
    .
     have jQ:∀t∈T1,t.k%HH b' T1=0:=λt ht=>Int.emod_eq_zero_of_dvd (H2 t ht);generalize HH b' T1=G at*
     have hU:Ng g (T1.map (tq G),0):=by have:=lm (b:=G) (kX h _ (Nat.zero_le _):Ng g (T1,0)) (by assumption);rw[((lq (n:=(T1,0)) jQ (Int.zero_emod _)).1),Int.zero_ediv]at this;exact this
     have S1:=sM (p:=p) J hU (by rw[List.length_map];exact Nat.le_trans (List.length_filter_le ..) hl) (by
      have e:nP (T1.map (tq G))=nP T1:=by unfold nP;rw[List.map_map];rfl
      rw[e];exact Nat.le_trans (lY _ _ _) Y) (by lia)
     refine ab (QC J hU rfl (b'/G)) λm E R=>?_;have val:∀ρ,(sm (n.1,0)).val ρ=G*(sm (T1.map (tq G),0)).val ρ+(sm (B,0)).val ρ:=λρ=>by show ao (n.1.map λt=>t.s.val ρ*t.k)+0=G*(ao (List.map _ (List.map _ _))+0)+(ao (B.map λt=>t.s.val ρ*t.k)+0);rw[Bq _ (mB b'),List.map_map,Int.add_zero,Int.add_zero,Int.add_zero];congr 1;rw[Int.mul_comm,<-lM];refine congrArg ao (List.map_congr_left λt ht=>?_);show t.s.val ρ*t.k=t.s.val ρ*(t.k/G)*G;rw[Int.mul_assoc,Int.ediv_mul_cancel (Int.dvd_of_emod_eq_zero (jQ t ht))]
     refine ag m (λk F x=>?_) (R.w (λρ bh=>?_) ?_ ?_ ?_ λi hi=>?_)
     . refine ax (I k F x) λy e=>?_;refine af (bO (aF k) (aV k)) λb1 b2=>?_;obtain⟨σ',ec⟩:=c7 (step:=aU (aF k) (aV k) 359 0 37) (σ0:=[("mul_gcd",.fz (.int G))]) (sh:=λy=>[("mul_gcd",.fz (.int G)),("mul",.fz y)]) (x:=bz) (f:=λt=>bz (tq G t)) T1 (λt ht σ bJ acc hc=>by
        have T:=um J h (List.mem_filter.mp ht).1 (O t ht).1 (by assumption) sG (jQ t ht) k (by exact up F rfl);have et:bz t=bG 485 t.x t.k (dU t) (d9 t):=if_neg (O t ht).1;have T:oP (aF k) (aV k) .FloorDiv (bz t) (.int G)=some (bz (tq G t)):=by rw[et,cU (show ba.op 485 .FloorDiv (.type "int")=some 454 by kernel_rfl)];exact T
        rcases bJ with rfl|⟨z,rfl⟩
        . rw[Am _ _ G _ acc [] (.inl rfl),if_pos hc,T];rfl
        . rw[Am _ _ G _ acc _ (.inr ⟨z,rfl⟩),if_pos hc,T];rfl) (Nat.le_trans (List.length_filter_le ..) (by lia))
       rw[e,QD];refine bE (S2 k (by exact Nat.le_of_lt F)) ?_;refine bE b1 ?_;show(if decide (0<=(sm (B,0)).mn)=true then _ else _)=_;rw[if_pos (decide_eq_true c1.1),b2,Option.bind_some];show(if decide ((sm (B,0)).mx<G)=true then _ else _)=_;rw[if_pos (decide_eq_true c1.2),ec];show(aF k 211 [.list (T1.map λt=>bz (tq G t))] []).bind _=_;have ex:T1.map (λt=>bz (tq G t))=(T1.map (tq G)).map bz:=by rw[List.map_map];rfl
       rw[ex];refine bE (S1 k (by lia)) ?_;refine bE (dl sG Z) ?_;rw[F5];exact E k (by lia)
     . show(if(sm (T1.map (tq G),0)).val ρ<b'/G then(1:Int)else 0)=if(sm (n.1,0)).val ρ<b' then 1 else 0
       refine af (OI.bn J bh) λo1 o2=>?_;have o1:(sm (B,0)).mn<=(sm (B,0)).val ρ:=o1;have o2:(sm (B,0)).val ρ<=(sm (B,0)).mx:=o2;rw[val ρ];have pZ:G*(b'/G)=b':=Int.mul_ediv_cancel' H1;generalize(sm (T1.map (tq G),0)).val ρ=S at*
       generalize(sm (B,0)).val ρ=o at*
       have:S<b'/G<->G*S+o<b':=by
        constructor
        . intro z;have:=Int.mul_le_mul_of_nonneg_left (show S+1<=b'/G by assumption) (Int.le_of_lt Z);rw[pZ,Int.mul_add]at this;lia
        . intro z;refine Int.not_le.mp λy=>?_;have:=Int.mul_le_mul_of_nonneg_left y (Int.le_of_lt Z);rw[pZ]at this;lia
       simp only[this]
     . have e:nP (T1.map (tq G))=nP T1:=by unfold nP;rw[List.map_map];rfl
       have:nP T1<=nP n.1:=lY _ _ _;show nP (T1.map (tq G))+2<=nP n.1+2;lia
     . have e:nP (T1.map (tq G))=nP T1:=by unfold nP;rw[List.map_map];rfl
       have:nP T1<=nP n.1:=lY _ _ _;show nP (T1.map (tq G))+2<=nP n.1+2;lia
     . refine Nat.le_trans ?_ (lY (mB b') (λt=>bC t.k*t.s.am) n.1);show aq (List.map _ (List.map _ _))<=_;rw[List.map_map];exact bM λt ht=>Nat.mul_le_mul_right _ (kQ Z (jQ t ht))
     . refine ab (cO hi) λt ht e=>?_;refine ab (List.mem_map.mp ht) λu hu W=>?_;subst W;exact List.any_eq_true.mpr ⟨u,(List.mem_filter.mp hu).1,e⟩
    . refine ag m0 (λk F x=>?_) R0;refine ax (I k F x) λy e=>?_;refine af (bO (aF k) (aV k)) λb1 b2=>?_;rw[e,QD];refine bE (S2 k (by lia)) ?_;refine bE b1 ?_;show(if decide (0<=(sm (B,0)).mn)=true then _ else _)=_;by_cases c2:0<=(sm (B,0)).mn
      . rw[if_pos (decide_eq_true c2),b2,Option.bind_some];show(if decide ((sm (B,0)).mx<HH b' T1)=true then _ else _)=_;rw[if_neg (by simp;have:=λz=>c1 ⟨c2,z⟩;lia),F5];exact E0 k (by lia)
      . rw[if_neg (by simpa using c2),F5];exact E0 k (by lia)
 refine ab key λm E R=>?_;refine⟨m,aw (d:=4*p+12) (by lia) (by decide) λk F=>?_,R.w (λρ bh=>?_) (Nat.le_refl _) (Nat.le_refl _) (Nat.le_refl _) λi hi=>hi⟩
 . refine ax (BZ J h h0 hl (nO n) b (k:=k)) λx e=>?_;rw[J0]at e;have g1:(n.1.map bz).all jT=true:=List.all_eq_true.mpr λy hy=>by
    refine ab (List.mem_map.mp hy) λt ht W=>?_;subst W;exact(o5 (b:=0) (h.a t ht)).1
   have g2:(decide ((n.1.map bz).length<=1000)&&(n.1.map bz).all (λx=>(mN b' x).isSome))=true:=by rw[Bool.and_eq_true];refine⟨decide_eq_true (by rw[List.length_map];lia),List.all_eq_true.mpr λy hy=>?_⟩;refine ab (List.mem_map.mp hy) λt ht W=>?_;rw[<-W];rw[(o5 (h.a t ht)).2];rfl
   have X:(aW (n.1,0)).map iX=n.1.map bz:=by unfold aW;rw[if_pos rfl,List.append_nil,List.map_map];rfl
   have Bp:oY (aF k) (aV k) 3 195 (dD (nO (n.1,0)) b' (.fz (.list (n.1.map bz))) [("x",.fz x)])=oY (aF k) (aV k) 4 194 (dD (nO (n.1,0)) b' (.fz (.list (n.1.map bz))) [("x",.fz x),("nodes",.fz (.list (n.1.map bz)))]):=by
    rw[ev,LH];refine bE (lN hC) ?_;by_cases q:C=656
    . rw[if_pos (decide_eq_true q),<-ev];refine af (hs.mp q) λh1 h3=>?_;have q3:nO (n.1,0)=bZ ((aW (n.1,0)).map iX) (sm (n.1,0)).mn (sm (n.1,0)).mx:=by
       rcases aL (n.1,0)with⟨q1,_⟩|⟨t,e0,_⟩|⟨t,e0,_⟩|⟨_,_,q2⟩
       . exact absurd q1 h1
       . rw[e0]at h3;simp[aW]at h3
       . rw[e0]at h3;simp[aW]at h3
       . exact q2
      rw[q3,X,show gA (aF k) (aV k) (bZ (n.1.map bz) (sm (n.1,0)).mn (sm (n.1,0)).mx) "nodes"=some (.list (n.1.map bz)) by kernel_rfl];rfl
    . rw[if_neg (by simpa using q),<-ev];have:n.1.map bz=[nO (n.1,0)]:=by
       rcases aL (n.1,0)with⟨q1,_⟩|⟨t,e0,_⟩|⟨t,e0,_⟩|⟨q0,q1,_⟩
       . exact absurd q1 h0
       . have:=congrArg (·.1) e0;simp only at this;rw[this];rfl
       . have:=congrArg (·.1) e0;simp only at this;rw[this];rfl
       . exact absurd (hs.mpr ⟨q0,q1⟩) q
      rw[<-this]
   rw[q2,Ks,<-q2];refine bE e ?_;show oY _ _ 2 196 _=_;rw[Mine.Internal.LI];refine bE ((sM (p:=p) J hv hl Y (by lia) k (by lia))) ?_;rw[Bp,Nr _ _ _ _ _ _ _ g1 g2,f1,f2];exact E k F x
 . show(if(sm (n.1,0)).val ρ<b' then(1:Int)else 0)=if(sm n).val ρ<b then 1 else 0
   have:(sm n).val ρ=(sm (n.1,0)).val ρ+n.2:=by show _+n.2=_+0+n.2;rw[Int.add_zero]
   have:(sm (n.1,0)).val ρ<b'<->(sm n).val ρ<b:=by(clear hl cK Y h2;omega)
   simp only[this]
theorem vh(f:g.Ok)(h:Ng g n)(b:Int)(i:nP n.1<=p)(u:p<=118):P3 g (4*p+13) n b:=by
 rcases aL n with⟨q1,_⟩|⟨t,e,_⟩|⟨t,e,_⟩|⟨q0,q1,_⟩
 . obtain⟨m,E,R⟩:=LG f h (.inl q1) b;exact⟨m,E.mono (by lia),R⟩
 . obtain⟨m,E,R⟩:=LG f h (.inr ⟨t,e⟩) b;exact⟨m,E.mono (by lia),R⟩
 . obtain⟨m,E,R⟩:=LG f h (.inr ⟨t,e⟩) b;exact⟨m,E.mono (by lia),R⟩
 . exact So f h q0 q1 b i u
end
section
variable{g:Gv}{call:aI}{make:aH}{n m v:aY}{p:Nat}{b:Int}{D:Nat}{x y:AV}{s:Sem}{t:Str}{l:List (Str×AV)}{S:Nat->Bool}{sv:Nat->Int}{q:Nat}
structure mt(g:Gv)(l:List (Str×AV))(S:Nat->Bool)(sv:Nat->Int):Prop where
 dict:∀i,i<3->g.lo i<g.hi i->fe l (aN g i)=if S i then some (aO (sv i))else none
 ok:∀i,S i=true->g.lo i<=sv i/\sv i<=g.hi i
noncomputable def upd(S:Nat->Bool)(sv ρ:Nat->Int):Nat->Int:=λi=>if S i then sv i else ρ i
theorem mt.In(h:mt g l S sv){ρ:Nat->Int}(f:g.In ρ):g.In (upd S sv ρ):=λi=>by
 unfold upd;split
 . exact h.ok i (by assumption)
 . exact f i
inductive gb(l:List (Str×AV))(D:Nat)(x y:AV):Prop
 |mk (C:Addr) (fl:List (Str×AV)) (f:Addr) (e:x= .obj C fl) (m:ba.cZ C "substitute"=some f) (v:Ev D f [x,.dict l] [] y)
theorem gb.mono{D'}(h:gb l D x y)(hd:D<=D'):gb l D' x y:=by obtain⟨C,fl,f,i,u,z⟩:=h;exact⟨C,fl,f,i,u,z.mono hd⟩
theorem gb.cZ(h:gb l D x y){R:Type}{k:Nat}(i:D<=k){K:AV->Option R}:(bH x "substitute" λf a=>(aF k f [a,.dict l] []).bind K)=K y:=by obtain⟨C,fl,f,u,z,B⟩:=h;have:=B k i;rw[u]at this⊢;rw[bl z,this];rfl
structure SR(g:Gv)(S:Nat->Bool)(sv:Nat->Int)(s:Sem)(q:Nat)(m:aY):Prop where
 nd:Ng g m
 val:∀ρ,g.In ρ->(sm m).val ρ=s.val (upd S sv ρ)
 ph:2*(sm m).ph+2<=3*s.ph
 p:2*nP m.1+2<=3*q
 am:(sm m).am<=s.am
 vs:∀i,(sm m).vs i=true->s.vs i=true/\S i=false
noncomputable def cI:It->Nat
 | .inl _=>2
 | .inr _=>0
noncomputable def cW:It->Nat
 | .inl t=>2*wk t.k
 | .inr _=>0
structure SI(g:Gv)(S:Nat->Bool)(sv:Nat->Int)(i:It)(m:aY):Prop where
 nd:Ng g m
 val:∀ρ,g.In ρ->(sm m).val ρ=(sm (eY i)).val (upd S sv ρ)
 ph:2*(sm m).ph+cW i<=3*(sm (eY i)).ph
 p:2*nP m.1+cI i<=3*nP (eY i).1
 am:(sm m).am<=(sm (eY i)).am
 vs:∀j,(sm m).vs j=true->(sm (eY i)).vs j=true/\S j=false
theorem xy(z:g.Ok)(P:mt g l S sv)(h:Ng g n)(Q:∀t∈n.1,∃m,gb l D t.x (nO m)/\SR g S sv t.s t.s.ph m)(U:6*nP n.1+20<=D)(Y:nP n.1<=70){i:It}(hi:i∈aW n):∃m,gb l (D+1) (iX i) (nO m)/\SI g S sv i m:=by
 rcases fc hi with⟨t,ht,rfl⟩|⟨_,rfl⟩
 . refine ab (Q t ht) λm E R=>?_;have G:=h.a t ht;have Z:t.s.ph<=nP n.1:=aR (f:=λt:Tm=>t.s.ph) ht;have ev:∀ρ,(sm ([t],0)).val ρ=t.s.val ρ*t.k:=λρ=>by simp[nS,ao]
   have I:(sm ([t],0)).am=bC t.k*t.s.am:=by simp[nS,aq]
   have J:(sm ([t],0)).ph=wk t.k*t.s.ph:=by simp[nS,aq]
   have eq:nP (([t],0):aY).1=t.s.ph:=by simp[nP,aq]
   have N:∀j,t.s.vs j=true->(sm ([t],0)).vs j=true:=λj u=>List.any_eq_true.mpr ⟨t,List.mem_cons_self,u⟩;have a0:(sm ([t],0)).am<=2^800:=(h.term ht).p.am;have rp:=R.p;have pX:=R.ph;by_cases q:t.k=1
   . have H:wk t.k=1:=by rw[q];rfl
     have W:bC t.k=1:=by rw[q];rfl
     refine ag m (by rw[show iX (.inl t)=t.x from if_pos q];exact E.mono (by lia)) ⟨R.nd,λρ F=>?_,?_,?_,?_,λj u=>⟨N j (R.vs j u).1,(R.vs j u).2⟩⟩
     . show _=(sm ([t],0)).val _;rw[ev,q,Int.mul_one];exact R.val ρ F
     . show _+2*wk t.k<=3*(sm ([t],0)).ph;rw[J,H];lia
     . show _+2<=3*nP (([t],0):aY).1;rw[eq];assumption
     . show _<=(sm ([t],0)).am;rw[I,W,Nat.one_mul];exact R.am
   . have H:wk t.k=2:=if_neg q;have k8:=(h.fv z).2.2.2 t ht;have am:bC t.k*(sm m).am<=bC t.k*t.s.am:=Nat.mul_le_mul_left _ R.am;have hv:((sm m).val g.lo*t.k).natAbs<=2^870:=by
      rw[R.val g.lo z.cX];have bn:=G.bn z (P.In z.cX);have sb:=G.sb z;have:=eF sb (Int.le_trans sb.mn bn.1) bn.2;have:=gP (n:=bC t.k*t.s.am) (by assumption);omega
     have B:=kf R.nd (j:=t.k) (by lia) z hv;have O:=sU z R.nd (j:=t.k) (bR (by lia)) (by lia) hv (p:=nP m.1) (Nat.le_refl _) (by lia);refine ag (eV t.k m) ?_ ⟨B.nd,λρ F=>?_,?_,?_,?_,λj u=>⟨N j (R.vs j (B.vs j u)).1,(R.vs j (B.vs j u)).2⟩⟩
     . rw[show iX (.inl t)=bG 485 t.x t.k (dU t) (d9 t)from if_neg q];refine⟨485,_,475,rfl,by kernel_rfl,aw (d:=D) (by exact up U rfl) (by decide) λk X=>?_⟩;refine aP G.obj λC fl e hC=>?_;have E:=E.cZ (K:=λy=>(oP (aF k) (aV k) .Mult y (.int t.k)).bind some) X;rw[e]at E⊢;rw[Kp,E,O k (by lia)];rfl
     . show _=(sm ([t],0)).val _;rw[ev,B.val ρ F,R.val ρ F]
     . show _+2*wk t.k<=3*(sm ([t],0)).ph;have:=B.ph;rw[J,H];lia
     . show _+2<=3*nP (([t],0):aY).1;have:=B.p;rw[eq];lia
     . show _<=(sm ([t],0)).am;rw[I];exact Nat.le_trans B.am am
 . have e0:eY (.inr n.2)=([],n.2):=rfl;refine ag ([],n.2) ⟨338,lE n.2,328,rfl,by kernel_rfl,aw (d:=D) (by lia) (by decide) λk _=>?_⟩ ⟨cV h.p.vb,λρ _=>?_,?_,?_,Nat.le_refl _,λj u=>?_⟩
   . exact(Cv ..).trans (congrArg some (cm n.2).symm)
   . rw[e0,aD]
   . show 2*(sm ([],n.2)).ph+0<=_;rw[aD];exact Nat.zero_le _
   . exact Nat.zero_le _
   . rw[aD]at u;injection u
inductive SN(g:Gv)(l:List (Str×AV))(S:Nat->Bool)(sv:Nat->Int)(D:Nat)(n:aY):Prop
 |mk (m:aY) (e:gb l (D+2) (nO n) (nO m)) (r:SR g S sv (sm n) (nP n.1) m) (x:md n.1=0->2*(sm m).ph+4<=3*(sm n).ph)
set_option maxHeartbeats 1000000 in
theorem qJ(z:g.Ok)(N:mt g l S sv)(h:Ng g n)(h0:n.1≠[])(hr:n.2.natAbs<=2^870)(F:∀t∈n.1,∃m,gb l D t.x (nO m)/\SR g S sv t.s t.s.ph m)(hD:6*nP n.1+20<=D)(hp:nP n.1<=70):SN g l S sv D n:=by
 refine ax (Iz (l:=aW n) (Q:=λi m=>gb l (D+1) (iX i) (nO m)/\SI g S sv i m) λi hi=>xy z N h F hD hp hi) λf hf=>?_;rcases aL n with⟨q1,_⟩|⟨t,rfl,q1,q2⟩|⟨t,rfl,q1,q2⟩|⟨_,q1,q2⟩
 . exact absurd q1 h0
 . refine af (hf (.inl t) (by simp[aW])) λE R=>?_;have u:_+2*wk t.k<=_:=R.ph;have:=fj t.k;exact⟨f (.inl t),E.mono (by lia),⟨R.nd,R.val,Nat.le_trans (by lia) u,R.p,R.am,R.vs⟩,λh=>by rw[show md [t]=1 from if_pos q1]at h;injection h⟩
 . refine af (hf (.inl t) (by simp[aW])) λE R=>?_;have u:_+2*wk t.k<=_:=R.ph;have e2:wk t.k=2:=if_neg q1;rw[e2]at u;exact⟨f (.inl t),E.mono (by lia),⟨R.nd,R.val,Nat.le_trans (by lia) u,R.p,R.am,R.vs⟩,λ_=>u⟩
 . have M:=λi hi=>(hf i hi).2;have O:n.1.length<=60:=h.w.len z (by lia);have hl:=fU n;have P:(sm n).am<=2^800:=h.p.am;have am:aq ((aW n).map λi=>(sm (f i)).am)<=(sm n).am:=by
    rw[<-yR n];exact bM λi hi=>(M i hi).am
   have U:2<=aq ((aW n).map λi=>cI i):=by
    rw[gy (λi=>cI i) λ_=>rfl]
    match hn:n.1,h0 with
    |t::l,_=>exact Nat.le_add_right 2 _
   have ew:2<=aq ((aW n).map λi=>cW i)/\(md n.1=0->4<=aq ((aW n).map λi=>cW i)):=by
    rw[gy (λi=>cW i) λ_=>rfl]
    match hn:n.1,h0 with
    |[t],_=>
     have:=fj t.k;refine⟨Nat.mul_le_mul_left 2 (fj t.k),λB=>show 4<=2*wk t.k+0 from ?_⟩;have:t.k≠1:=λq=>by rw[show md [t]=1 from if_pos q]at B;injection B
     rw[show wk t.k=2 from if_neg this];decide
    |t::t'::l,_=>have:=fj t.k;have:=fj t'.k;exact⟨Nat.le_trans (Nat.mul_le_mul_left 2 (fj t.k)) (Nat.le_add_right _ _),λB=>by injection B⟩
   have G:∀w c:It->Nat,aq ((aW n).map λi=>2*w i+c i)=2*aq ((aW n).map w)+aq ((aW n).map λi=>c i):=λw c=>by
    generalize aW n=L
    induction L with
    |nil=>rfl
    |cons a L F=>simp only[List.map_cons,au,F];lia
   have ph:2*aq ((aW n).map λi=>(sm (f i)).ph)+aq ((aW n).map λi=>cW i)<=3*(sm n).ph:=by have:=bM (l:=aW n) λi hi=>(M i hi).ph;rw[G,cF,yN]at this;assumption
   have pp:2*aq ((aW n).map λi=>nP (f i).1)+2<=3*nP n.1:=by have:=bM (l:=aW n) λi hi=>(M i hi).p;rw[G,cF,gy (λi=>nP (eY i).1) λ_=>rfl]at this;have e:aq (n.1.map λt=>nP (eY (.inl t)).1)=nP n.1:=rfl;rw[e]at this;lia
   have hv:(ao (((aW n).map f).map λn=>(sm n).val g.lo)).natAbs<=2^879+2^863:=by
    rw[List.map_map];have e:ao ((aW n).map ((λn=>(sm n).val g.lo)∘f))=(sm n).val (upd S sv g.lo):=by rw[<-kT];exact congrArg ao (List.map_congr_left λi hi=>(M i hi).val g.lo z.cX)
    rw[e];have a1:=fS z h.a h.p.am (N.In z.cX);exact pW a1 hr (by decide)
   have R:=xu (g:=g) (ns:=(aW n).map f) (λn hn=>by refine ab (List.mem_map.mp hn) λi hi H=>?_;subst H;exact(M i hi).nd.w) (by rw[List.map_map];exact Nat.le_trans am P) z hv;have u:=R.ph;have I:=R.p;have W:=R.am;rw[List.map_map]at u I W;have u:(sm (cu ((aW n).map f))).ph<=aq ((aW n).map λi=>(sm (f i)).ph):=u;have I:nP (cu ((aW n).map f)).1<=aq ((aW n).map λi=>nP (f i).1):=I;have T:=eA z (aW n) f (λi hi=>(M i hi).nd.w) (p:=aq ((aW n).map λi=>nP (f i).1)) (λi hi=>aR (f:=λi=>nP (f i).1) hi) (by lia) (by
    have:∀L:List It,(∀i∈L,i∈aW n)->(L.flatMap λi=>(f i).1).length<=aq (L.map λi=>nP (f i).1):=λL=>by
     induction L with
     |nil=>intro _;exact Nat.le_refl _
     |cons a L F=>intro hL;rw[List.flatMap_cons,List.length_append,List.map_cons,au];have:=i8 λt ht=>((((M a (hL a List.mem_cons_self)).nd).a t ht).sb z).ph;have:=F λi hi=>hL i (List.mem_cons_of_mem _ hi);lia
    have:=this _ λi hi=>hi;lia) (Nat.le_trans am P)
   refine⟨cu ((aW n).map f),⟨656,_,642,q2,by kernel_rfl,?_⟩,⟨R.nd,λρ X=>?_,by lia-abstractProof,by lia-abstractProof,Nat.le_trans W am,λj J=>?_⟩,λB=>by have:=ew.2 B;(clear B;lia)⟩
   . rw[q2];refine aw (d:=D+1) (by lia) (by decide) λk Y=>?_;obtain⟨σ',e⟩:=c7 (step:=aU (aF k) (aV k) 642 0 38) (σ0:=[("var_vals",.fz (.dict l))]) (sh:=λy=>[("var_vals",.fz (.dict l)),("node",.fz y)]) (x:=iX) (f:=λi=>nO (f i)) (aW n) (λi hi σ bJ acc Z=>by
      refine aP (jd h.a (r:=n.2) (x:=iX i) (by rw[<-jc];exact List.mem_map.mpr ⟨i,hi,rfl⟩)) λC fl U hC=>?_;have E:=(hf i hi).1;rw[U]at E⊢;rcases bJ with rfl|⟨y,rfl⟩
      . rw[pH _ _ _ C fl acc [] (.inl rfl),if_pos Z,E.cZ Y]
      . rw[pH _ _ _ C fl acc _ (.inr ⟨y,rfl⟩),if_pos Z,E.cZ Y]) (by lia)
     rw[Kh,e];show(aF k 211 [.list ((aW n).map λi=>nO (f i))] []).bind some=_;rw[T k (by lia)];rfl
   . rw[R.val ρ X,List.map_map,<-kT];exact congrArg ao (List.map_congr_left λi hi=>(M i hi).val ρ X)
   . refine ab (R.vs j J) λn' hn J=>?_;refine ab (List.mem_map.mp hn) λi hi H=>?_;subst H;have:=(M i hi).vs j J;exact⟨tF hi this.1,this.2⟩
end
section
variable{g:Gv}{call:aI}{make:aH}{n m v:aY}{p:Nat}{b:Int}{D:Nat}{x y:AV}{s:Sem}{t:Str}{l:List (Str×AV)}{S:Nat->Bool}{sv:Nat->Int}{q:Nat}
inductive SE(g:Gv)(l:List (Str×AV))(S:Nat->Bool)(sv:Nat->Int)(D:Nat)(x:AV)(s:Sem):Prop
 |mk (m:aY) (e:gb l D x (nO m)) (r:SR g S sv s s.ph m)
theorem EZ(B:g.Ok)(U:mt g l S sv)(h:At g x s t):s.ph<=70->SE g l S sv (6*s.ph+50) x s:=by
 have W:∀{ts:List Tm}{r:Int}{D:Nat},ts≠[]->Nd g ts r->nP ts<=70->(∀t∈ts,t.s.ph<=70->SE g l S sv (6*t.s.ph+50) t.x t.s)->6*nP ts+50<=D->r.natAbs<=2^870->SN g l S sv D (ts,r):=λ{ts r D} hn hd F H hD hr=>by refine qJ (n:=(ts,r)) B U hd hn hr (λt ht=>?_) (by show 6*nP ts+20<=D;lia) F;have tp:t.s.ph<=nP ts:=aR (f:=λt:Tm=>t.s.ph) ht;obtain⟨m,E,R⟩:=H t ht (by lia);exact ag m (E.mono (by lia)) R
 induction h with
 |var i hi hl=>
  intro _;have A:At g _ _ _:= .var i hi hl;have st:∀z,(if S i then some (aO (sv i))else none).getD (dm g i)=z->gb l 62 (dm g i) z:=λz hz=>⟨284,_,274,rfl,by kernel_rfl,aw (d:=61) (by decide) (by decide) λk N=>by
   rw[<-hz,<-U.dict i hi hl];have:=(A.key B (p:=2) (Nat.le_refl _) (by decide)) k (by exact up N rfl);unfold dm at this⊢;rw[Kt,this];rfl⟩
  by_cases q:S i=true
  . refine⟨([],sv i),st _ (by rw[if_pos q];exact(cm _).symm),⟨cV ?_,λρ _=>?_,?_,?_,?_,λj u=>?_⟩⟩
    . have:=U.ok i q;have:=B.pos i;have:=B.sm i;have hx:XX=2^62:=rfl;lia
    . rw[aD];show sv i=upd S sv ρ i;unfold upd;rw[if_pos q]
    . rw[aD];show 0+2<=3*2;decide
    . show 0+2<=3*2;lia
    . rw[aD];exact Nat.zero_le _
    . rw[aD]at u;injection u
  . have e:=gM (dm g i) (gr g i) (aN g i);refine⟨pM (dm g i) (gr g i) (aN g i),st _ (by rw[if_neg q];rfl),⟨j6 A (show 1<=2^800 by decide),λρ _=>?_,?_,?_,?_,λj u=>?_⟩⟩
    . rw[e.val];show ρ i=upd S sv ρ i;unfold upd;rw[if_neg q]
    . rw[e.ph];exact Nat.le_refl 6
    . rw[e.p];exact Nat.le_refl 6
    . rw[e.am];exact Nat.le_refl _
    . rw[e.vs]at u;have:j=i:=by simpa[gr]using u
      subst this;exact⟨u,by simpa using q⟩
 |div ts r c hn F ha hc jS iT ie sE H=>
  intro P;have I:(cL ts r c).ph=(nS ts r).ph+md ts:=rfl;have h1:=i0 (r:=r) hn (λt ht=>((ha t ht).sb B).ph);have h2:nP ts<=(nS ts r).ph:=dC;obtain⟨m,E,R,X⟩:=W (D:=6*(cL ts r c).ph+44) hn ⟨F,ha⟩ (by(clear h1;lia)) H (by lia) jS.2;have Y:c.natAbs*(nS ts r).am<=2^800:=jS.1;have Ra:c.natAbs<=2^800:=Nat.le_trans (Nat.le_mul_of_pos_right _ (cz (r:=r) hn F.nz λt ht=>(ha t ht).sb B)) Y;have pX:=R.ph;have Z:c.natAbs*(sm m).am<=c.natAbs*(nS ts r).am:=Nat.mul_le_mul_left _ R.am;obtain⟨J,O,Q,_⟩:=x7 B (sm m).ph (by lia) m R.nd (Nat.le_refl _) c (by exact Int.le_of_lt hc) (by lia) (Nat.le_trans Z Y);have Te:=gw m.1;have h0:md ts=0\/md ts=1:=by have:=gw ts;(clear P;lia)
  have f1:2*((sm m).ph+md m.1)+2<=3*(cL ts r c).ph:=by
   refine Or.elim h0 (λz=>?_) λz=>?_
   . have:=X z;(clear z;lia)
   . lia
  have q1:=Q.ph;have q2:=Q.p;refine⟨J,⟨526,_,516,rfl,by kernel_rfl,aw (d:=6*(cL ts r c).ph+49) (by lia) (by decide) λk N=>?_⟩,⟨Q.nd,λρ G=>?_,by lia,by lia,Nat.le_trans Q.am Z,λj u=>R.vs j (Q.vs j u)⟩⟩
  . refine aP (bx (r:=r) ha) λC fl e hC=>?_;have E:=E.cZ (K:=λy=>(oP (aF k) (aV k) .FloorDiv y (.int c)).bind some) (k:=k) (by(clear E I;lia));rw[show nO (ts,r)= .obj C fl from e]at E;rw[e,Ko,E,O k (by lia)];rfl
  . rw[Q.val ρ G,R.val ρ G];rfl
 |mod ts r c hn F ha hc nv iT H=>
  intro P;have I:(eW ts r c).ph=(nS ts r).ph+mm ts r:=rfl;have zc:∀t∈ts,2<=t.s.ph:=λt ht=>((ha t ht).sb B).ph;have h1:=i0 (r:=r) hn zc;have h2:nP ts<=(nS ts r).ph:=dC;have h3:=ki ts r;obtain⟨m,E,R,X⟩:=W (D:=6*(eW ts r c).ph+44) hn ⟨F,ha⟩ (by lia) H (by(clear h2;lia)) nv.2;have pX:=R.ph;have e0:(sm (ts,r)).ph=(nS ts r).ph:=rfl;obtain⟨J,O,Q⟩:=oN B (sm m).ph m R.nd (Nat.le_refl _) (by lia) c (by exact Int.le_of_lt hc) nv.1;have Te:=kh m.1 m.2;have h0:md ts=0\/mm ts r=1:=by have:=gw ts;have:=kh ts r;(clear P;lia)
  have f1:2*((sm m).ph+mm m.1 m.2)+2<=3*(eW ts r c).ph:=by
   refine Or.elim h0 (λz=>?_) λz=>?_
   . have:=X z;lia
   . lia
  have q1:=Q.ph;have q2:=Q.p;refine⟨J,⟨574,_,564,rfl,by kernel_rfl,aw (d:=6*(eW ts r c).ph+49) (by lia) (by decide) λk N=>?_⟩,⟨Q.nd,λρ G=>?_,by lia,by lia,Nat.le_trans Q.am R.am,λj u=>R.vs j (Q.vs j u)⟩⟩
  . refine aP (bx (r:=r) ha) λC fl e hC=>?_;have E:=E.cZ (K:=λy=>(oP (aF k) (aV k) .Mod y (.int c)).bind some) (k:=k) (by(clear E I;lia));rw[show nO (ts,r)= .obj C fl from e]at E;rw[e,Kk,E,O k (by lia)];rfl
  . rw[Q.val ρ G,R.val ρ G];rfl
 |lt ts c hn F ha h1 h2 H=>
  intro P;have I:(oD ts c).ph=nP ts+2:=rfl;obtain⟨m,E,R,_⟩:=W (r:=0) (D:=6*(oD ts c).ph+44) hn ⟨F,ha⟩ (by lia) H (by lia) (Nat.zero_le _);have rp:=R.p;obtain⟨J,O,Q⟩:=vh B R.nd c (p:=nP m.1) (Nat.le_refl _) (by lia);have q1:=Q.ph;have q2:=Q.p;refine⟨J,⟨430,_,420,rfl,by kernel_rfl,aw (d:=6*(oD ts c).ph+49) (by lia) (by decide) λk N=>?_⟩,⟨Q.nd,λρ G=>?_,by lia,by lia,Nat.le_trans Q.am R.am,λj u=>R.vs j (Q.vs j u)⟩⟩
  . refine aP (bx (r:=0) ha) λC fl e hC=>?_;have E:=E.cZ (K:=λy=>(aF k 359 [y,.int c] []).bind some) (k:=k) (by(clear E I;lia));rw[show nO (ts,0)= .obj C fl from e]at E;rw[e,Kr,E,O k (by lia)];rfl
  . rw[Q.val ρ G];show(if(sm m).val ρ<c then(1:Int)else 0)=if(nS ts 0).val (upd S sv ρ)<c then 1 else 0
    rw[R.val ρ G]
theorem EY(u:g.Ok)(B:mt g l S sv)(h:Ng g n)(hr:n.2.natAbs<=2^870)(F:nP n.1<=70):∃m,gb l 480 (nO n) (nO m)/\Ng g m/\(∀ρ,g.In ρ->(sm m).val ρ=(sm n).val (upd S sv ρ))/\nP m.1<=105/\(∀i,(sm m).vs i=true->(sm n).vs i=true/\S i=false)/\m.2.natAbs<=2^872:=by
 by_cases q:n.1=[]
 . have e:n=([],n.2):=by rw[<-q]
   refine GN n ⟨338,lE n.2,328,by rw[e];exact cm _,by kernel_rfl,aw (d:=479) (by decide) (by decide) λk _=>?_⟩ h (λρ _=>?_) (by lia) (λi hi=>?_) (Nat.le_trans hr (Nat.pow_le_pow_right (by decide) (by decide)))
   . rw[e,cm];exact Cv ..
   . rw[e,aD]
   . rw[e,aD]at hi;injection hi
 . obtain⟨m,E,R,_⟩:=qJ (D:=470) u B h q hr (λt ht=>by
    have G:t.s.ph<=nP n.1:=aR (f:=λt:Tm=>t.s.ph) ht;obtain⟨m,E,R⟩:=EZ u B (h.a t ht) (by lia);exact ag m (E.mono (by lia)) R) (by lia) F
   have H:=R.p;refine GN m (E.mono (by decide)) R.nd R.val (by lia) R.vs ?_;have a1:=fS u h.a h.p.am (B.In u.cX);have z:=fS u R.nd.a R.nd.p.am u.cX;have z:((sm m).val g.lo-m.2).natAbs<=2^862:=z;rw[R.val g.lo u.cX]at z;exact xj z (pW a1 hr (Nat.le_refl _)) (by decide)
end
set_option tactic.hygienic true
section
variable{g:Gv}{call:aI}{make:aH}{n m v:aY}{p:Nat}{b:Int}{D:Nat}{x y:AV}{s:Sem}{t:Str}
theorem fV{α β}{body:ah->Option fX}{nm:List Str}{R:β->ah->Prop}{x:α->List AV}{f:β->α->β}{b0:β}(l:List α)(H:∀i a u,l=i++a::u->∀σ,R (i.foldl f b0) σ->∃σ',body (aX σ nm (x a))=some (.next σ')/\R (f (i.foldl f b0) a) σ'){σ0:ah}(h0:R b0 σ0):∃σ',bU body nm (l.map x) σ0=some (.next σ')/\R (l.foldl f b0) σ':=by
 have:∀u i,l=i++u->∀σ,R (i.foldl f b0) σ->∃σ',bU body nm (u.map x) σ=some (.next σ')/\R (l.foldl f b0) σ':=λu=>by
  induction u with
  |nil=>intro i e σ h;rw[List.append_nil]at e;subst e;exact ag σ rfl h
  |cons a u ih=>intro i e σ h;refine ab (H i a u e σ h) λz B h1=>?_;refine ab (ih (i++[a]) (by simp[e]) z (by simpa using h1)) λF G h2=>?_;refine ag F ?_ h2;rw[List.map_cons,bU,B];exact G
 exact this l [] rfl σ0 h0
noncomputable def VD(g:Gv)(is:List Nat):List (Str×AV):=is.map λi=>(aN g i,dm g i)
noncomputable def dR(acc:List Nat)(i:Nat):List Nat:=if i∈acc then acc else acc++[i]
noncomputable def we(gY:List (List Nat)):List Nat:=gY.foldl (λacc is=>is.foldl dR acc) []
theorem gn{i j:Nat}(hi:i<3)(u:j<3)(h:aN g i=aN g j):i=j:=by
 have e:∀i,i<3->∃l,cl (aN g i)=(97+i)::l:=λi h=>by
  unfold aN;simp only[j5]
  match i,h with
  |0,_=>exact⟨_,rfl⟩
  |1,_=>exact⟨_,rfl⟩
  |2,_=>exact⟨_,rfl⟩
 refine ax (e i hi) λa f=>?_;refine ax (e j u) λb hb=>?_;rw[h]at f;rw[f]at hb;have:=(List.cons.inj hb).1;(clear hb f u hi;lia)
theorem mq{f:Nat->AV}{acc:List Nat}(B:∀j∈acc,j<3){i:Nat}(hi:i<3):bI (acc.map λi=>(aN g i,f i)) (aN g i) (f i)=(dR acc i).map λi=>(aN g i,f i):=by
 unfold bI dR;have e:(acc.map λi=>(aN g i,f i)).any (λF=>decide (F.1=aN g i))=decide (i∈acc):=by
  rw[List.any_map];by_cases q:i∈acc
  . rw[decide_eq_true q];exact List.any_eq_true.mpr ⟨i,q,decide_eq_true rfl⟩
  . rw[decide_eq_false q];refine List.any_eq_false.mpr λj u=>?_;simp only[Function.comp,decide_eq_true_eq];intro z;exact q (gn (B j u) hi z▸u)
 rw[e];by_cases q:i∈acc
 . rw[if_pos (decide_eq_true q),if_pos q,List.map_map];refine List.map_congr_left λj u=>?_;show(if aN g j=aN g i then(aN g j,f i)else(aN g j,f j))=_;split
   . rename_i z;rw[gn (B j u) hi z]
   . rfl
 . rw[if_neg (by simpa using q),if_neg q];simp
theorem Db{acc:List Nat}(f:∀j∈acc,j<3){i:Nat}(hi:i<3):bI (VD g acc) (aN g i) (dm g i)=VD g (dR acc i):=mq f hi
theorem gN{acc:List Nat}{i j:Nat}:j∈dR acc i<->j∈acc\/j=i:=by
 unfold dR;split
 . rename_i h;exact⟨.inl,λz=>z.elim id λe=>e▸h⟩
 . simp
theorem gZ:∀{is acc:List Nat}{j:Nat},j∈is.foldl dR acc<->j∈acc\/j∈is
 |[],acc,j=>by simp
 |i::is,acc,j=>by rw[List.foldl_cons,gZ,gN];simp[or_assoc]
theorem i7{f:List (List Nat)}{j:Nat}:j∈we f<->∃is∈f,j∈is:=by
 have:∀(f:List (List Nat))(acc:List Nat),j∈f.foldl (λacc is=>is.foldl dR acc) acc<->j∈acc\/∃is∈f,j∈is:=λf=>by
  induction f with
  |nil=>intro acc;simp
  |cons a l ih=>intro acc;rw[List.foldl_cons,ih,gZ];simp[or_assoc]
 rw[we,this];simp
theorem k6{acc:List Nat}{i:Nat}(h:acc.Nodup):(dR acc i).Nodup:=by
 unfold dR;split
 . exact h
 . rename_i q;exact List.nodup_append.mpr ⟨h,by simp,λa f b hb e=>q (by rw[List.mem_singleton.mp hb]at e;exact e▸f)⟩
theorem rJ:∀{is acc:List Nat},acc.Nodup->(is.foldl dR acc).Nodup
 |[],_,h=>h
 |i::is,_,h=>rJ (is:=is) (k6 (i:=i) h)
theorem uM(f:List (List Nat)):(we f).Nodup:=by
 have:∀(f:List (List Nat))(acc:List Nat),acc.Nodup->(f.foldl (λacc is=>is.foldl dR acc) acc).Nodup:=λf=>by
  induction f with
  |nil=>intro acc h;exact h
  |cons a l ih=>intro acc h;exact ih _ (rJ h)
 exact this f [] .nil
theorem yF{acc:List Nat}(h:acc.Nodup)(f:∀j∈acc,j<3):acc.length<=3:=by
 have:=h.length_le_of_subset (l₂:=[0,1,2]) λj i=>by exact FW (P:=λj=>j∈[0,1,2]) (f j i) (.head _) (.tail _ (.head _)) (.tail _ (.tail _ (.head _)))
 simpa using this
theorem KG(u:List (List Nat))(h:∀is∈u,∀i∈is,i<3):Ev 3 42 [.list (u.map λis=> .dict (VD g is))] [] (.dict (VD g (we u))):=aw (by decide) (by decide) λk _=>by
 have P:∀(u:List (List Nat))(acc:List Nat),(∀is∈u,∀i∈is,i<3)->(∀i∈acc,i<3)->∀i∈u.foldl (λacc is=>is.foldl dR acc) acc,i<3:=λu=>by
  induction u with
  |nil=>intro acc _ h;exact h
  |cons a l ih=>
   intro acc h h';refine ih _ (λis hi=>h is (List.mem_cons_of_mem _ hi)) λi hi=>?_;refine Or.elim (gZ.mp hi) (λz=>?_) λz=>?_
   . exact h' i z
   . exact h a List.mem_cons_self i z
 obtain⟨σ,e,r,hr,hn,rfl⟩:=fK (body:=ay (aF k) (aV k) 42 0 198) (nm:=["row"]) (x:=λis=>AV.dict (VD g is)) (f:=λacc is=>is.foldl dR acc) (b0:=([]:List Nat)) (R:=λacc σ=>∃r:ah,(r=[]\/∃d B,r=(("row":Str),EV.fz d)::B/\(B=[]\/∃y z,B=[(("k":Str),EV.fz y),(("v":Str),EV.fz z)]))/\acc.Nodup/\σ=(("rows":Str),EV.fz (.list (u.map λis=> .dict (VD g is))))::("ret",.od (VD g acc))::r) u (λF is Q e σ G=>by
  refine bV G λr hr hn H=>?_;clear G;subst H;have U:∀j∈F.foldl (λacc is=>is.foldl dR acc) [],j<3:=P F [] (λis hi=>h is (by rw[e];simp[hi])) (λ_ h=>nomatch h);generalize F.foldl (λacc is=>is.foldl dR acc) []=acc at*
  have I:∃B:ah,(B=[]\/∃y z,B=[(("k":Str),EV.fz y),(("v":Str),EV.fz z)])/\aX ((("rows":Str),EV.fz (.list (u.map λis=> .dict (VD g is))))::("ret",.od (VD g acc))::r) ["row"] [.dict (VD g is)]=(("rows":Str),EV.fz (.list (u.map λis=> .dict (VD g is))))::("ret",.od (VD g acc))::("row",.fz (.dict (VD g is)))::B:=by
   rcases hr with rfl|⟨d,B,rfl,J⟩
   . exact ag [] (.inl rfl) rfl
   . exact ag B J rfl
  refine ab I λB J I=>?_;obtain⟨gh,W,r1,X,Y,rfl⟩:=fV (body:=ay (aF k) (aV k) 42 1 197) (nm:=["k","v"]) (x:=λi=>[.str (aN g i),dm g i]) (f:=dR) (b0:=acc) (R:=λacc σ=>∃r:ah,(r=[]\/∃y z,r=[(("k":Str),EV.fz y),(("v":Str),EV.fz z)])/\(acc.Nodup/\∀j∈acc,j<3)/\σ=(("rows":Str),EV.fz (.list (u.map λis=> .dict (VD g is))))::("ret",.od (VD g acc))::("row",.fz (.dict (VD g is)))::r) is (λF i Q Z σ G=>by
   refine bV G λr2 On bg H=>?_;clear G;refine af bg λO N=>?_;subst H;generalize F.foldl dR acc=acc at*
   have hi:=(h is (by rw[e];simp)) i (by rw[Z];simp);have e6:aX ((("rows":Str),EV.fz (.list (u.map λis=> .dict (VD g is))))::("ret",.od (VD g acc))::("row",.fz (.dict (VD g is)))::r2) ["k","v"] [.str (aN g i),dm g i]=(("rows":Str),EV.fz (.list (u.map λis=> .dict (VD g is))))::("ret",.od (VD g acc))::("row",.fz (.dict (VD g is)))::[("k",.fz (.str (aN g i))),("v",.fz (dm g i))]:=by rcases On with rfl|⟨y,z,rfl⟩<;>rfl
   have hl:(VD g acc).length<=1000:=by have:=yF O N;unfold VD;rw[List.length_map];lia
   rw[e6,NV,if_pos hl,Db N hi];exact⟨_,rfl,_,.inr ⟨_,_,rfl⟩,⟨k6 O,λj hj=>(gN.mp hj).elim (N j) λe=>e▸hi⟩,rfl⟩) (σ0:=(("rows":Str),EV.fz (.list (u.map λis=> .dict (VD g is))))::("ret",.od (VD g acc))::("row",.fz (.dict (VD g is)))::B) ⟨B,J,⟨hn,U⟩,rfl⟩
  have e7:(VD g is).map (λz=>[AV.str z.1,z.2])=is.map λi=>[.str (aN g i),dm g i]:=by unfold VD;rw[List.map_map];rfl
  rw[I,Sw,e7,W,Option.bind_some];exact⟨_,rfl,_,.inr ⟨_,_,rfl,X⟩,Y.1,rfl⟩) (σ0:=[(("rows":Str),EV.fz (.list (u.map λis=> .dict (VD g is)))),("ret",.od [])]) ⟨[],.inl rfl,.nil,rfl⟩
 rw[TT,e,Option.bind_some];exact Pk _ _ _ _ r
inductive ff(g:Gv)(D:Nat)(x:AV)(s:Sem):Prop
 |mk (C:Addr) (fl:List (Str×AV)) (f:Addr) (is:List Nat) (e:x= .obj C fl) (m:ba.cZ C "vars"=some f) (v:Ev D f [x] [] (.dict (VD g is))) (nd:is.Nodup) (h:∀i,i∈is<->s.vs i=true) (l:∀i∈is,i<3)
theorem ff.mono{D'}(h:ff g D x s)(hd:D<=D'):ff g D' x s:=by obtain⟨C,fl,f,is,i,u,z,B,F,G⟩:=h;exact⟨C,fl,f,is,i,u,z.mono hd,B,F,G⟩
theorem kF(h:ff g D x s)(G:3<=D){C:Addr}(B:C=430\/C=485\/C=526\/C=574)(b mn mx:Int){s':Sem}(H:∀i,s'.vs i=s.vs i):ff g (D+1) (bG C x b mn mx) s':=by
 obtain⟨I,fl,f,is,J,N,z,W,O,F⟩:=h;have P:ba.cZ C "vars"=some 387:=by rcases B with rfl|rfl|rfl|rfl<;>kernel_rfl
 refine⟨C,_,387,we [is,[]],rfl,P,aw (by exact Nat.le_of_lt G) (by decide) λk Q=>?_,uM _,λi=>?_,λi hi=>?_⟩
 . have z:=z k Q;have M:=KG (g:=g) [is,[]] (λU hi i u=>by
    rcases List.mem_cons.mp hi with rfl|hi
    . exact F i u
    . rw[List.mem_singleton.mp hi]at u;cases u) k (by lia)
   rw[J]at z⊢;rw[Pn _ _ C I B,bl N,z,Option.bind_some];rw[M];rfl
 . rw[i7,H,<-O];simp
 . refine ab (i7.mp hi) λU JQ u=>?_;rcases List.mem_cons.mp JQ with rfl|JQ
   . exact F i u
   . rw[List.mem_singleton.mp JQ]at u;cases u
theorem mY(og:g.Ok)(h:Ng g n)(X:∀t∈n.1,ff g D t.x t.s)(Y:5<=D)(hp:nP n.1<=120):ff g (D+2) (nO n) (sm n):=by
 have T:∀t∈n.1,ff g (D+1) (bz t) (sm ([t],0)):=λt ht=>by
  have hv:∀i,(sm ([t],0)).vs i=t.s.vs i:=λi=>by simp[nS]
  unfold bz;split
  . obtain⟨C,fl,f,is,I,G,J,Z,P,Q⟩:=(X t ht).mono (Nat.le_succ D);exact⟨C,fl,f,is,I,G,J,Z,λi=>by rw[hv];exact P i,Q⟩
  . exact kF (X t ht) (by exact up Y rfl) (.inr (.inl rfl)) _ _ _ hv
 have N:∀c,ff g (D+1) (aO c) (sm ([],c)):=λc=>⟨338,lE c,64,[],rfl,by kernel_rfl,aw (d:=D) (by exact up Y rfl) (by decide) (λk _=>TR ..),.nil,λi=>by rw[aD];simp,λi hi=>(nomatch hi)⟩;rcases aL n with⟨q1,q2⟩|⟨t,rfl,q1,q2⟩|⟨t,rfl,q1,q2⟩|⟨q0,q1,q2⟩
 . have e:n=([],n.2):=by rw[<-q1]
   have:=(N n.2).mono (Nat.le_succ (D+1));rw[<-e]at this;rw[q2];exact this
 . have:=(T t List.mem_cons_self).mono (Nat.le_succ (D+1));exact this
 . have:=(T t List.mem_cons_self).mono (Nat.le_succ (D+1));exact this
 . have hI:∀i∈aW n,ff g (D+1) (iX i) (sm (eY i)):=λi hi=>by
    rcases fc hi with⟨t,ht,rfl⟩|⟨_,rfl⟩
    . exact T t ht
    . exact N _
   have hlen:n.1.length<=60:=h.w.len og hp;have hl:=fU n;have H:∃F:It->List Nat,∀i∈aW n,(∀k,D+1<=k->(bH (iX i) "vars" λf a=>aF k f [a] [])=some (.dict (VD g (F i))))/\(∀j,j∈F i<->(sm (eY i)).vs j=true)/\∀j∈F i,j<3:=by
    have:∀i∈aW n,∃is:List Nat,(∀k,D+1<=k->(bH (iX i) "vars" λf a=>aF k f [a] [])=some (.dict (VD g is)))/\(∀j,j∈is<->(sm (eY i)).vs j=true)/\∀j∈is,j<3:=λi hi=>by obtain⟨C,fl,f,is,I,G,J,Z,P,Q⟩:=hI i hi;refine dA is (λk U=>?_) P Q;have J:=J k U;rw[I]at J⊢;rw[bl G];exact J
    classical
    exact⟨λi=>if h:∃is:List Nat,(∀k,D+1<=k->(bH (iX i) "vars" λf a=>aF k f [a] [])=some (.dict (VD g is)))/\(∀j,j∈is<->(sm (eY i)).vs j=true)/\∀j∈is,j<3 then h.choose else[],λi hi=>by
     have:=this i hi;simp only[dif_pos this];exact this.choose_spec⟩
   refine ax H λF H=>?_;refine⟨656,_,595,we ((aW n).map F),q2,by kernel_rfl,?_,uM _,λj=>?_,λj B=>?_⟩
   . rw[q2];refine aw (d:=D+1) (by lia) (by decide) λk U=>?_;obtain⟨σ',e⟩:=c7 (step:=aU (aF k) (aV k) 595 0 38) (σ0:=[]) (sh:=λy=>[("x",.fz y)]) (x:=iX) (f:=λi=> .dict (VD g (F i))) (aW n) (λi hi σ bJ acc hc=>by
      refine aP (jd h.a (r:=n.2) (x:=iX i) (by rw[<-jc];exact List.mem_map.mpr ⟨i,hi,rfl⟩)) λC fl W hC=>?_;obtain⟨C',eK,f,is,I,G,_⟩:=hI i hi;have E:=(H i hi).1 k U;rw[W]at I;(injection I with z;subst z);rw[W,bl G]at E;rw[W];rcases bJ with rfl|⟨y,rfl⟩
      . rw[Al _ _ C fl acc [] (.inl rfl),if_pos hc,bl G,E];rfl
      . rw[Al _ _ C fl acc _ (.inr ⟨y,rfl⟩),if_pos hc,bl G,E];rfl) (by lia)
     have M:=KG (g:=g) ((aW n).map F) (λis hi i B=>by
      refine ab (List.mem_map.mp hi) λit u O=>?_;subst O;exact(H it u).2.2 i B) k (by lia)
     rw[List.map_map]at M;rw[O9,e];show(aF k 42 [.list ((aW n).map λi=> .dict (VD g (F i)))] []).bind some=_;rw[show aF k 42 [.list ((aW n).map λi=> .dict (VD g (F i)))] []=_ from M];rfl
   . rw[i7];constructor
     . rintro⟨is,hi,B⟩;refine ab (List.mem_map.mp hi) λi u O=>?_;subst O;exact tF u (((H i u).2.1 j).mp B)
     . intro B;refine ab (cO B) λt ht e=>?_;have u: .inl t∈aW n:=by unfold aW;exact List.mem_append_left _ (List.mem_map.mpr ⟨t,ht,rfl⟩)
       exact ag (F (.inl t)) (List.mem_map.mpr ⟨_,u,rfl⟩) (((H _ u).2.1 j).mpr (List.any_eq_true.mpr ⟨t,List.mem_cons_self,e⟩))
   . refine ab (i7.mp B) λis hi B=>?_;refine ab (List.mem_map.mp hi) λi u O=>?_;subst O;exact(H i u).2.2 j B
theorem AZ(B:g.Ok)(h:At g x s t):s.ph<=120->ff g (4*s.ph+20) x s:=by
 have F:∀{ts:List Tm}{r:Int}{q:Nat},Nd g ts r->nP ts+1<=q->nP ts<=120->(∀t∈ts,t.s.ph<=120->ff g (4*t.s.ph+20) t.x t.s)->ff g (4*q+19) (nX ts r) (nS ts r):=λ{ts r q} hd N u z=>by refine(mY (n:=(ts,r)) (D:=4*q+16) B hd (λt ht=>?_) (by lia) u).mono (by lia);have O:t.s.ph<=nP ts:=aR (f:=λt:Tm=>t.s.ph) ht;exact(z t ht (by lia)).mono (by lia)
 induction h with
 |var i hi hl=>
  intro _;have A:At g _ _ _:= .var i hi hl;refine⟨284,_,267,[i],rfl,by kernel_rfl,aw (d:=27) (by decide) (by decide) λk H=>?_,by simp,λj=>?_,λj I=>?_⟩
  . have:=(A.key B (p:=2) (Nat.le_refl _) (by assumption)) k (by exact up H rfl);unfold dm at this⊢;rw[Pv,this];rfl
  . show j∈[i]<->(j==i)=true;simp
  . rw[List.mem_singleton.mp I];exact hi
 |div ts r c hn u ha hc jS iT ie sE z=>intro h1;have G:(cL ts r c).ph=(nS ts r).ph+md ts:=rfl;have h2:=i0 (r:=r) hn λt ht=>((ha t ht).sb B).ph;exact kF (F (q:=(cL ts r c).ph) ⟨u,ha⟩ (by assumption) (by lia) z) (by lia) (.inr (.inr (.inl rfl))) _ _ _ λ_=>rfl
 |mod ts r c hn u ha hc nv iT z=>intro h1;have G:(eW ts r c).ph=(nS ts r).ph+mm ts r:=rfl;have h2:=i0 (r:=r) hn λt ht=>((ha t ht).sb B).ph;have J:=ki ts r;exact kF (F (q:=(eW ts r c).ph) ⟨u,ha⟩ (by lia) (by lia) z) (by lia) (.inr (.inr (.inr rfl))) _ _ _ λ_=>rfl
 |lt ts c hn u ha h1 h2 z=>intro J;have G:(oD ts c).ph=nP ts+2:=rfl;exact kF (F (q:=(oD ts c).ph) (r:=0) ⟨u,ha⟩ (by lia) (by lia) z) (by lia) (.inl rfl) _ _ _ λ_=>rfl
theorem oi(i:g.Ok)(h:Ng g n)(u:nP n.1<=120):ff g 502 (nO n) (sm n):=
 mY (D:=500) i h (λt ht=>by
  have z:t.s.ph<=nP n.1:=aR (f:=λt:Tm=>t.s.ph) ht;exact(AZ i (h.a t ht) (by lia)).mono (by lia)) (by decide) u
end
set_option tactic.hygienic false
section
variable(call:aI)(make:aH)
noncomputable abbrev SL(xs:List AV)(ns rs us:List AV)(r:ah):ah:=("script",.fz (.list xs))::("nodes",.fz (.list ns))::("rows",.fz (.list rs))::("used",.fz (.list us))::r
noncomputable def lw(j:Nat):Stmt:=((As 702)[j]?).getD (.Pass default)
noncomputable abbrev oL(n:Nat)(σ:ah)(st:Stmt){R:Type}(kN kC:ah->Option R)(kR:AV->ah->Option R):Option R:=bB ba (hZ call make) (jJ 702) 40 n σ [st] kN kC kR
noncomputable abbrev xL(n:Nat)(σ:ah)(l:List Stmt){R:Type}(kN kC:ah->Option R)(kR:AV->ah->Option R):Option R:=bB ba (hZ call make) (jJ 702) 40 n σ l kN kC kR
noncomputable def Mi{R:Type}(y:AV)(k:AV->AV->AV->Option R):Option R:=uD y λys=>(match ys with
 |[]=>none
 |a::ys=>(match ys with
  |[]=>none
  |b::ys=>(match ys with
   |[]=>none
   |c::ys=>if ys.isEmpty then k a b c else none)))
noncomputable def gq{R:Type}(rs:List AV)(k m:Int)(K:AV->Option R):Option R:=(bc rs k).bind λv=>d7 v λl=>(bc l m).bind K
noncomputable abbrev mK(rs:List AV)(k m:Int):Option AV:=gq rs k m some
theorem gp{R:Type}{rs:List AV}{k m:Int}{x:AV}{K:AV->Option R}(h:mK rs k m=some x):gq rs k m K=K x:=by refine ab (bL h) λv h1 h=>?_;refine ab (bL h) λl h2 h=>?_;refine ab (bL h) λy f h=>?_;(injection h with z;subst z);unfold gq d7;rw[h1,Option.bind_some,h2,Option.bind_some,f];rfl
noncomputable def yL{R:Type}(ns:List AV)(j:Int)(K:AV->Option R):Option R:=(bc ns j).bind λv=>(gA call make v "key").bind K
noncomputable def gj{R:Type}(ns:List AV)(j:Int)(l:List (Str×AV))(K:Bool->Option R):Option R:=yL call make ns j λx=>b8 x λs=>K (fe l s).isSome
noncomputable def M7{R:Type}(ns:List AV)(j:Int)(l:List (Str×AV))(K:Bool->Option R):Option R:=yL call make ns j λx=>b8 x λs=>K (!(fe l s).isSome)
noncomputable def Uh{R:Type}(l:List (Str×AV))(iv:AV)(K:AV->Option R):Option R:=match(vA iv).i with
 |some _=>none
 |none=>b8 iv λs=>(fe l s).bind K
noncomputable abbrev SK(xs ns rs us:List AV)(k:Int)(r:ah):ah:=SL xs ns rs us (("k",.fz (.int k))::r)
noncomputable def tj(j nm:AV):Nat->ah
 |0=>[("j",.fz j)]
 |1=>[("name",.fz nm),("j",.fz j)]
 |_=>[("j",.fz j),("name",.fz nm)]
noncomputable def tl(j nm:AV):Nat->ah
 |0=>[]
 |1=>[("name",.fz nm)]
 |i+2=>tj j nm i
noncomputable def sA(d:AV)(e:EV)(j nm:AV):Nat->ah
 |0=>[]
 |i+1=>("named",.fz d)::("names",e)::tj j nm i
noncomputable abbrev sN(d:AV)(e:EV)(j nm:AV)(i:Nat):ah:=("named",.fz d)::("names",e)::tl j nm i
noncomputable abbrev wx(w:Nat->AV)(r:ah):ah:=("left",.fz (w 0))::("rest",.fz (w 1))::("values",.fz (w 2))::("i",.fz (w 3))::r
noncomputable def tx(j nm:AV)(w:Nat->AV):Nat->ah
 |0=>[("j",.fz j)]
 |1=>[("name",.fz nm),("j",.fz j)]
 |2=>[("j",.fz j),("name",.fz nm)]
 |3=>("j",.fz j)::wx w []
 |4=>("j",.fz j)::wx w [("name",.fz nm)]
 |5=>("name",.fz nm)::("j",.fz j)::wx w []
 |_=>("j",.fz j)::("name",.fz nm)::wx w []
noncomputable abbrev sX(d:AV)(e:EV)(j nm:AV)(w:Nat->AV)(i:Nat):ah:=("named",.fz d)::("names",e)::tx j nm w i
noncomputable def LF(a b c d:AV):Nat->AV
 |0=>a
 |1=>b
 |2=>c
 |_=>d
noncomputable def dI:Nat->Nat
 |0=>0
 |i+1=>i+2
noncomputable def nI:Nat->Nat
 |0=>1
 |1=>1
 |3=>3
 |_=>4
noncomputable def jI:Nat->Nat
 |0=>0
 |1=>1
 |2=>0
 |3=>1
 |_=>2
noncomputable def hI:Nat->Nat
 |0=>0
 |1=>1
 |_=>2
noncomputable def fI:Nat->Nat
 |0=>3
 |1=>5
 |2=>6
 |i=>i
noncomputable def gI:Nat->Nat
 |0=>4
 |1=>5
 |2=>6
 |3=>4
 |i=>i
theorem n7{A:Type}{f g:Nat->A}(a:mz f g 0)(b:mz f g 1)(c:mz f g 2)(d:mz f g 3)(e:mz f g 4)(h:mz f g 5)(k:∀n,mz f g (n+6)):∀i,f i=g i:=n3 a b (n5 (f:=λi=>f (i+2)) (g:=λi=>g (i+2)) c d e h k)
variable(xs ns rs us:List AV)(k j:Int)(d jv nm left:AV)(e:EV)(l l2 vd:List (Str×AV))(ys:List AV)(a:Str)(w:Nat->AV)(ii:Int)
variable{R:Type}{kN kC:ah->Option R}{kR:AV->ah->Option R}
noncomputable abbrev r3:List (List AV):=[[.int 0],[.int 1],[.int 2]]
noncomputable abbrev sR(left r:AV)(i:Nat):ah:=aQ (aQ (SK xs ns rs us k (sX (.dict l) e (.int j) nm w i)) "left" (.fz left)) "rest" (.fz r)
noncomputable abbrev sV(left r:AV)(vd:List (Str×AV))(ii:Int)(i:Nat):ah:=aQ (aQ (sR xs ns rs us k j nm e l w left r i) "values" (.od vd)) "i" (.fz (.int ii))
theorem NQ:oL call make 200 [("script",.fz (.list xs))] (lw 1) kN kC kR=((fG xs).bind λl=>(oP call make .Sub l (.int 12)).bind λa=>(r7 (.builtin "max") [.int 3,a]).bind λb=>(r7 (.builtin "min") [.int 6,b]).bind λn=>(call 697 [.list xs,n] []).bind λy=>Mi y λa b c=>(kN [("script",.fz (.list xs)),("nodes",.fz a),("rows",.fz b),("used",.fz c)]):Option R):=by kernel_rfl
theorem Sv:∀i,xL call make 198 (SK xs ns rs us k (sA d e jv nm i)) (gx 702 0) kN kC kR=((bc ns k).bind λy=>bH y "vars" λf v=>(call f [v] []).bind λz=>(aE (aU call make 702 0 40) r3 [("k",.fz (.int k)),("nodes",.fz (.list ns)),("used",.fz (.list us))] (.l [])).bind λp=>(gO p.2).bind λl2=>xL call make 196 (SK xs ns rs us k (sN z (.ol l2) jv nm (dI i))) ((gx 702 0).drop 2) kN kC kR:Option R):=by refine n5 ?_ ?_ ?_ ?_ (λn=>?_)<;>kernel_rfl
theorem NU:∀i,xL call make 196 (SK xs ns rs us k (sN (.dict l) e jv nm i)) ((gx 702 0).drop 2) kN kC kR=((bU (ay call make 702 1 195) ["name"] (l.map λy=>[.str y.1]) (SK xs ns rs us k (sN (.dict l) e jv nm i))).bind (f7 (λσ=>xL call make 195 σ ((gx 702 0).drop 3) kN kC kR) kC kR):Option R):=by refine n5 ?_ ?_ ?_ ?_ (λn=>?_)<;>kernel_rfl
theorem NR:∀i,xL call make 195 (SK xs ns rs us k (sN (.dict l) e jv nm i)) ((gx 702 0).drop 3) kN kC kR=((bU (ay call make 702 2 194) ["j"] r3 (SK xs ns rs us k (sN (.dict l) e jv nm i))).bind (f7 kN kC kR):Option R):=by refine n5 ?_ ?_ ?_ ?_ (λn=>?_)<;>kernel_rfl
theorem NF:∀i,xL call make 195 (aX (SK xs ns rs us k (sN (.dict l) (.ol ys) jv nm i)) ["name"] [.str a]) (gx 702 1) kN kC kR=((cM call make .NotIn (.str a) (.list ys)).bind λq=>if q=true then kR (.bool false) (SK xs ns rs us k (sN (.dict l) (.fz (.list ys)) jv (.str a) (nI i)))else kN (SK xs ns rs us k (sN (.dict l) (.fz (.list ys)) jv (.str a) (nI i))):Option R):=by refine n5 ?_ ?_ ?_ ?_ (λn=>?_)<;>kernel_rfl
theorem NG:∀i,xL call make 195 (aX (SK xs ns rs us k (sN (.dict l) (.fz (.list ys)) jv nm i)) ["name"] [.str a]) (gx 702 1) kN kC kR=((cM call make .NotIn (.str a) (.list ys)).bind λq=>if q=true then kR (.bool false) (SK xs ns rs us k (sN (.dict l) (.fz (.list ys)) jv (.str a) (nI i)))else kN (SK xs ns rs us k (sN (.dict l) (.fz (.list ys)) jv (.str a) (nI i))):Option R):=by refine n5 ?_ ?_ ?_ ?_ (λn=>?_)<;>kernel_rfl
theorem NE:∀i,xL call make 194 (aX (SK xs ns rs us k (sN (.dict l) e jv nm i)) ["j"] [.int j]) (gx 702 2) kN kC kR=(gq rs k (1+j) λy=>gq rs k 0 λz=>(cM call make .NotEq y z).bind λq=>if q=true then M7 call make ns j l λq=>if q=true then kR (.bool false) (SK xs ns rs us k (sN (.dict l) e (.int j) nm (jI i+2)))else xL call make 193 (SK xs ns rs us k (sN (.dict l) e (.int j) nm (jI i+2))) ((gx 702 2).drop 1) kN kC kR else xL call make 193 (SK xs ns rs us k (sN (.dict l) e (.int j) nm (jI i+2))) ((gx 702 2).drop 1) kN kC kR:Option R):=by refine n5 ?_ ?_ ?_ ?_ (λn=>?_)<;>kernel_rfl
theorem ND:∀i,xL call make 193 (SK xs ns rs us k (sN (.dict l) e (.int j) nm (i+2))) ((gx 702 2).drop 1) kN kC kR=((bc us k).bind λy=>(cM call make .In (.int j) y).bind λq=>if q=true then gj call make ns j l λq=>if q=true then yL call make ns j λkx=>Uh l kx λx=>(bc ns j).bind λy=>(cM call make .NotEq x y).bind λq=>if q=true then kR (.bool false) (SK xs ns rs us k (sN (.dict l) e (.int j) nm (i+2)))else kN (SK xs ns rs us k (sN (.dict l) e (.int j) nm (i+2)))else kN (SK xs ns rs us k (sN (.dict l) e (.int j) nm (i+2)))else kN (SK xs ns rs us k (sN (.dict l) e (.int j) nm (i+2))):Option R):=by refine n3 ?_ ?_ (λn=>?_)<;>kernel_rfl
theorem Hb(ys:List AV)(r:ah)(hr:r=[]\/∃f,r=[(("j":Str),EV.fz f)]):aU call make 702 0 40 (("k",.fz (.int k))::("nodes",.fz (.list ns))::("used",.fz (.list us))::r) [.int j] (.l ys)=((bc us k).bind λy=>(cM call make .In (.int j) y).bind λq=>if q=true then(if ys.length<=1000 then(bc ns j).bind λy=>(gA call make y "key").bind λz=>some ([("k",.fz (.int k)),("nodes",.fz (.list ns)),("used",.fz (.list us)),("j",.fz (.int j))],.l (ys++[z]))else none)else some ([("k",.fz (.int k)),("nodes",.fz (.list ns)),("used",.fz (.list us)),("j",.fz (.int j))],.l ys):Option (ah×Acc)):=by rcases hr with rfl|⟨f,rfl⟩<;>kernel_rfl
theorem NP:oL call make 199 (SL xs ns rs us []) (lw 2) kN kC kR=((fG ns).bind λv=>d8 v λn=>(xU n).bind λrows=>(bU (ay call make 702 0 198) ["k"] rows (SL xs ns rs us [])).bind λo=>f7 kN kC kR o:Option R):=by kernel_rfl
theorem I8:∀i,xL call make 198 (SK xs ns rs us k (sA d e jv nm (i+1))) [lw 3,lw 4,lw 5] kN kC kR=((bc ns (-1)).bind λy=>bH y "vars" λf v=>(call f [v] []).bind λz=>(bU (ay call make 702 3 196) ["j"] r3 (SK xs ns rs us k (sX z e jv nm w (hI i)))).bind (f7 (λσ=>xL call make 196 σ [lw 5] kN kC kR) kC kR):Option R):=by refine n3 ?_ ?_ (λn=>?_)<;>kernel_rfl
theorem NO:∀i,xL call make 196 (SK xs ns rs us k (sX d e jv nm w i)) [lw 5] kN kC kR=(kR (.bool true) (SK xs ns rs us k (sX d e jv nm w i)):Option R):=by refine n7 ?_ ?_ ?_ ?_ ?_ ?_ (λn=>?_)<;>kernel_rfl
theorem QE:∀i,xL call make 196 (aX (SK xs ns rs us k (sX (.dict l) e jv nm w i)) ["j"] [.int j]) (gx 702 3) kN kC kR=((bc us j).bind λy=>(cM call make .NotIn (.int j) y).bind λq=>if q=true then kC (SK xs ns rs us k (sX (.dict l) e (.int j) nm w i))else(bc ns (-1)).bind λy=>bH y "substitute" λf v=>(bc ns j).bind λz=>(gA call make z "key").bind λkx=>gq rs j (1+j) λy=>(make 338 [y]).bind λfl=>b8 kx λkx=>(call f [v,.dict [(kx,.obj 338 fl)]] []).bind λu=>xL call make 194 (aQ (SK xs ns rs us k (sX (.dict l) e (.int j) nm w i)) "left" (.fz u)) ((gx 702 3).drop 2) kN kC kR:Option R):=by refine n7 ?_ ?_ ?_ ?_ ?_ ?_ (λn=>?_)<;>kernel_rfl
theorem NC(C:Addr)(fl:List (Str×AV)):∀i,xL call make 194 (aQ (SK xs ns rs us k (sX (.dict l) e (.int j) nm w i)) "left" (.fz (.obj C fl))) ((gx 702 3).drop 2) kN kC kR=(bH (.obj C fl) "vars" λf v=>(call f [v] []).bind λz=>xL call make 193 (sR xs ns rs us k j nm e l w (.obj C fl) z i) ((gx 702 3).drop 3) kN kC kR:Option R):=by refine n7 ?_ ?_ ?_ ?_ ?_ ?_ (λn=>?_)<;>kernel_rfl
theorem Sr:∀i,xL call make 193 (sR xs ns rs us k j nm e l w left (.dict l2) i) ((gx 702 3).drop 3) kN kC kR=(gj call make ns j l2 λq=>if q=true then kR (.bool false) (sR xs ns rs us k j nm e l w left (.dict l2) i)else(bU (ay call make 702 4 190) ["i"] r3 (aQ (sR xs ns rs us k j nm e l w left (.dict l2) i) "values" (.od []))).bind (f7 (λσ=>xL call make 190 σ ((gx 702 3).drop 6) kN kC kR) kC kR):Option R):=by refine n7 ?_ ?_ ?_ ?_ ?_ ?_ (λn=>?_)<;>kernel_rfl
theorem Ny:∀i,xL call make 190 (sV xs ns rs us k j nm e l w left (.dict l2) vd ii i) (gx 702 4) kN kC kR=(if(ii !=j)=true then(bc us ii).bind λy=>(cM call make .In (.int ii) y).bind λq=>if q=true then gq rs ii (1+j) λx=>(bc ns ii).bind λy=>(gA call make y "key").bind λkx=>b8 kx λkx=>if vd.length<=1000 then kN (sV xs ns rs us k j nm e l w left (.dict l2) (bI vd kx x) ii i)else none else kN (sV xs ns rs us k j nm e l w left (.dict l2) vd ii i)else kN (sV xs ns rs us k j nm e l w left (.dict l2) vd ii i):Option R):=by refine n7 ?_ ?_ ?_ ?_ ?_ ?_ (λn=>?_)<;>kernel_rfl
theorem NA:∀i,xL call make 190 (sV xs ns rs us k j nm e l w left (.dict l2) vd ii i) ((gx 702 3).drop 6) kN kC kR=((bU (ay call make 702 5 189) ["name"] (l2.map λy=>[.str y.1]) (sV xs ns rs us k j nm e l w left (.dict l2) vd ii i)).bind (f7 (λσ=>xL call make 189 σ ((gx 702 3).drop 7) kN kC kR) kC kR):Option R):=by refine n7 ?_ ?_ ?_ ?_ ?_ ?_ (λn=>?_)<;>kernel_rfl
theorem Nv:∀i,xL call make 189 (aQ (sV xs ns rs us k j nm e l w left (.dict l2) vd ii i) "name" (.fz (.str a))) (gx 702 5) kN kC kR=(if(!(fe l a).isSome)=true then kR (.bool false) (aQ (sV xs ns rs us k j nm e l w left (.dict l2) vd ii i) "name" (.fz (.str a)))else kN (aQ (sV xs ns rs us k j nm e l w left (.dict l2) vd ii i) "name" (.fz (.str a))):Option R):=by refine n7 ?_ ?_ ?_ ?_ ?_ ?_ (λn=>?_)<;>kernel_rfl
theorem I7:∀i,xL call make 189 (sV xs ns rs us k j nm e l w left (.dict l2) vd ii i) ((gx 702 3).drop 7) kN kC kR=((call 671 [left,.dict vd] []).bind λy=>gq rs (-1) (1+j) λz=>(cM call make .NotEq y z).bind λq=>if q=true then kR (.bool false) (SK xs ns rs us k (sX (.dict l) e (.int j) nm (LF left (.dict l2) (.dict vd) (.int ii)) (fI i)))else kN (SK xs ns rs us k (sX (.dict l) e (.int j) nm (LF left (.dict l2) (.dict vd) (.int ii)) (fI i))):Option R):=by refine n7 ?_ ?_ ?_ ?_ ?_ ?_ (λn=>?_)<;>kernel_rfl
theorem I6:∀i,xL call make 189 (aQ (sV xs ns rs us k j nm e l w left (.dict l2) vd ii i) "name" (.fz (.str a))) ((gx 702 3).drop 7) kN kC kR=((call 671 [left,.dict vd] []).bind λy=>gq rs (-1) (1+j) λz=>(cM call make .NotEq y z).bind λq=>if q=true then kR (.bool false) (SK xs ns rs us k (sX (.dict l) e (.int j) (.str a) (LF left (.dict l2) (.dict vd) (.int ii)) (gI i)))else kN (SK xs ns rs us k (sX (.dict l) e (.int j) (.str a) (LF left (.dict l2) (.dict vd) (.int ii)) (gI i))):Option R):=by refine n7 ?_ ?_ ?_ ?_ ?_ ?_ (λn=>?_)<;>kernel_rfl
theorem Sn:wi.tail=([lw 1,lw 2,lw 3,lw 4,lw 5]:List Stmt):=by kernel_rfl
end
set_option tactic.hygienic true
section
variable{call:aI}{make:aH}{k:Nat}
noncomputable abbrev Nx(call:aI)(make:aH)(f N:Nat)(σ:ah)(st:Stmt)(σ':ah):Prop:=RG ba (hZ call make) (jJ f) 40 N σ st σ'
theorem Rx{f N:Nat}{σ σ':ah}{st:Stmt}{rest:List Stmt}{R:Type}{kN kC:ah->Option R}{kR:AV->ah->Option R}(h:Nx call make f (N+2) σ st σ'):bB ba (hZ call make) (jJ f) 40 (N+2) σ (st::rest) kN kC kR=bB ba (hZ call make) (jJ f) 40 (N+1) σ' rest kN kC kR:=eE h
noncomputable abbrev iL(l:List Int):AV:= .list (l.map .int)
theorem fF{l:List Int}(h:l.length<=18):fG (l.map .int)=some (.int l.length):=by rw[gU (by rw[List.length_map];lia),List.length_map]
theorem m9{xs:List AV}{i:Nat}(hi:i<xs.length)(hl:xs.length<=1000):bc xs (i:Int)=xs[i]? :=by unfold bc;rw[if_neg (by simp;lia),if_pos (by lia)];rfl
theorem Ei{l:List Int}(hl:l.length<=18){j:Int}(h0:0<=j)(h1:j<=100):∃v:Int,Ev 3 685 [iL l,.int j] [] (.int v):=by
 have u:j.natAbs<=2^1800:=Nat.le_trans (show j.natAbs<=100 by lia) (by decide);have z:∀call make,oP call make .Mult (.int 7) (.int j)=some (.int (7*j)):=λcall make=>im (by decide) (bR u);have f:∀i:Nat,i<l.length->∃v:Int,bc (l.map .int) (i:Int)=some (.int v):=λi hi=>by rw[m9 (by rw[List.length_map];exact hi) (by rw[List.length_map];lia),List.getElem?_map,List.getElem?_eq_getElem hi];exact⟨_,rfl⟩
 by_cases q:j<l.length
 . refine ax (f j.toNat (by(clear u;lia))) λv hv=>?_;rw[Int.toNat_of_nonneg h0]at hv;refine⟨v,aw (by decide) (by decide) λk _=>?_⟩;rw[GA];refine bE (fF hl) ?_;show(if decide (j<l.length)=true then _ else _)=_;rw[if_pos (by simpa using q),hv];rfl
 . by_cases q2:l=[]
   . refine⟨7*j+3,aw (by lia) (by decide) λk _=>?_⟩;rw[GA];refine bE (fF hl) ?_;show(if decide (j<l.length)=true then _ else _)=_;rw[if_neg (by simpa using q),Ea,q2,show ib (.list ([].map AV.int))=some false from rfl,Option.bind_some,if_pos (show(!false)=true from rfl),z];rfl
   . have B:0<l.length:=List.length_pos_iff.mpr q2;refine ax (f (j%l.length).toNat (by
      have:=Int.emod_lt_of_pos j (show(0:Int)<l.length by lia);lia)) λv hv=>?_
     rw[Int.toNat_of_nonneg (Int.emod_nonneg j (by lia))]at hv;refine⟨v+7*j,aw (by lia) (by decide) λk _=>?_⟩;have ht:ib (iL l)=some true:=by
      show(if(l.map AV.int).length<=1000 then some (!(l.map AV.int).isEmpty)else none)=_;rw[if_pos (by rw[List.length_map];lia)]
      induction l using List.casesOn with
      |nil=>exact absurd rfl q2
      |cons=>rfl
     rw[GA];refine bE (fF hl) ?_;show(if decide (j<l.length)=true then _ else _)=_;refine(if_neg (by simpa using q)).trans ?_;rw[Ea];refine bE ht ?_;refine(if_neg (by decide)).trans ?_;rw[Kf];refine bE (fF hl) ?_;refine bE (dt (by lia)) ?_;show((bc (l.map .int) _).bind _)=_;refine bE hv ?_;rw[z];rfl
noncomputable def du(n:Int):Int:=if(if n<0 then-n else n)<1000000000000000000 then n else n.fmod 1000000000000000003
theorem Eh(n:Int):Ev 3 692 [.int n] [] (.int (du n)):=aw (by decide) (by decide) λk _=>by
 rw[OZ];unfold du;by_cases q:(if n<0 then-n else n)<1000000000000000000
 . rw[if_pos (decide_eq_true q),if_pos q]
 . rw[if_neg (by simpa using q),if_neg q]
theorem pA(n:Int):(du n).natAbs<=1000000000000000002:=by
 unfold du;by_cases q:(if n<0 then-n else n)<1000000000000000000
 . rw[if_pos q];by_cases z:n<0
   . rw[if_pos z]at q;omega
   . rw[if_neg z]at q;lia
 . rw[if_neg q];have h1:=Int.fmod_nonneg_of_pos n (show(0:Int)<1000000000000000003 by decide);lia
theorem vp(a:Int):r7 (.builtin "abs") [.int a]=some (.int a.natAbs):=by show some (AV.int (if a<0 then-a else a))=_;rw[QL]
structure bt where
 (sp lo fi se:Nat->Int)
 Du:∀i,0<=sp i/\sp i<=1000000000000000002
 FX:∀i,0<=lo i/\lo i<=1000000000000000002
 Rh:∀i,0<=fi i/\fi i<=sp i
 Qp:∀i,0<=se i/\se i<=sp i
noncomputable def bt.gv(V:bt):Gv:=⟨V.lo,λi=>V.lo i+V.sp i⟩
noncomputable def bt.ρ(V:bt)(c i:Nat):Int:=if c=i+1 then V.lo i+V.se i else V.lo i+V.fi i
theorem bt.ok(V:bt):V.gv.Ok:=⟨λi=>(V.FX i).1,λi=>by have:=(V.Du i).1;show V.lo i<=V.lo i+V.sp i;lia,λi=>by
 have:=(V.Du i).2;have:=(V.FX i).2;show V.lo i+V.sp i<=(XX:Nat);have:XX=2^62:=rfl;lia⟩
theorem bt.In(V:bt)(c:Nat):V.gv.In (V.ρ c):=λi=>by
 have:=V.Rh i;have:=V.Qp i;have e:V.ρ c i=V.lo i+V.se i\/V.ρ c i=V.lo i+V.fi i:=by
  unfold bt.ρ;split
  . exact .inl rfl
  . exact .inr rfl
 show V.lo i<=V.ρ c i/\V.ρ c i<=V.lo i+V.sp i;refine Or.elim e (λe=>?_) λe=>?_<;>rw [e]<;>lia
noncomputable def bt.nd(V:bt)(i:Nat):aY:=if V.sp i=0 then([],V.lo i)else pM (dm V.gv i) (gr V.gv i) (aN V.gv i)
noncomputable def bt.u(V:bt)(i:Nat):List Int:=if V.sp i=0 then[]else[(i:Int)]
theorem bt.IP(V:bt){i:Nat}(hi:i<3):Ng V.gv (V.nd i):=by
 unfold bt.nd;split
 . exact cV (by
    have:=V.FX i;lia)
 . rename_i q;have:=V.Du i;exact j6 (.var i hi (show V.lo i<V.lo i+V.sp i by lia)) (show 1<=2^800 by decide)
theorem bt.tw(V:bt)(i:Nat){ρ:Nat->Int}(f:V.gv.In ρ):(sm (V.nd i)).val ρ=ρ i:=by
 unfold bt.nd;split
 . rename_i q;rw[aD];have:=f i;have h1:V.lo i<=ρ i:=this.1;have h2:ρ i<=V.lo i+V.sp i:=this.2;lia
 . rw[(gM ..).val];rfl
noncomputable abbrev gt(ρ:Nat->Nat->Int)(m:aY):AV:= .list ((List.range 4).map λc=> .int ((sm m).val (ρ c)))
theorem bt.KH(V:bt){i:Nat}(hi:i<3):Ev 6 347 [.str (BP i),.int (V.lo i),.int (V.lo i+V.sp i)] [] (nO (V.nd i)):=aw (d:=5) (by decide) (by decide) λk f=>by
 have:=V.Du i;have:=V.FX i;rw[Pp,if_pos (decide_eq_true (V.FX i).1),if_pos (decide_eq_true (by lia))];unfold bt.nd;by_cases q:V.sp i=0
 . rw[if_pos (by simp;lia),if_pos q,e9 _ k (by exact Nat.le_of_lt f),cm];rfl
 . rw[if_neg (by simp;lia),if_neg q,(mw (by decide) λk _=>OU .. :Mk 4 284 [.str (BP i),.int (V.lo i),.int (V.lo i+V.sp i)] (xf (BP i) (V.lo i) (V.lo i+V.sp i))) k (by lia)];rfl
theorem KA:Ev 3 678 [] [] (.list [.str "a",.str "b",.str "c"]):=aw (by decide) (by decide) λk _=>O0 ..
noncomputable def wV(V:bt)(i:Nat):Nat->AV
 |0=> .int (V.sp i)
 |1=> .int (V.lo i)
 |2=> .int (V.fi i)
 |3=> .int (V.se i)
 |_=>gt V.ρ (V.nd i)
theorem oA{call:aI}{make:aH}(x y:Int):oP call make .Add (.int x) (.int y)=some (.int (x+y)):=oI x y
theorem Mo{m:Option AV}{x y:Int}(h:m=some (.int x))(e:y=x):m=some (.int y):=h.trans (congrArg (λz=>some (AV.int z)) e.symm)
theorem H8(V:bt)(z:Int->Int){xs ns rs us:List AV}{n:Int}{i:Nat}(hi:i<3)(F:10<=k)(G:∀j:Int,0<=j->j<=100->aF k 685 [.list xs,.int j] []=some (.int (z j)))
 (J:V.sp i=(du (z i)).natAbs)(N:V.lo i=(du (z (3+i))).natAbs)(O:V.fi i=z (6+i)%(V.sp i+1))(P:V.se i=z (9+i)%(V.sp i+1))(hn:ns.length<=100)(hr:rs.length<=100)(H:us.length<=100)(o:Nat->AV)(j:Nat):
 ay (aF k) (aV k) 697 0 196 (s0 xs n i ns rs us (r0 o j))=some (.next (s0 xs n i (ns++[nO (V.nd i)]) (rs++[gt V.ρ (V.nd i)]) (us++[iL (V.u i)]) (r0 (wV V i) 1))):=by
 have I:=λa=>Eh a k (by exact up F rfl);have Y:=V.Du i;have Q:bc [.str "a",.str "b",.str "c"] (i:Int)=some (.str (BP i)):=by apply FW hi<;>rfl
 have U:BB (i:Int) (V.lo i) (V.fi i) (V.se i)=(List.range 4).map λc=> .int (if c=i+1 then V.lo i+V.se i else V.lo i+V.fi i):=by apply FW hi<;>rfl
 have W:AV.list (BB (i:Int) (V.lo i) (V.fi i) (V.se i))=gt V.ρ (V.nd i):=by rw[U];refine congrArg AV.list (List.map_congr_left λc _=>?_);rw[V.tw i (V.In c)];rfl
 have md:∀{d t:Int},t=z (d+i)%(V.sp i+1)->oP (aF k) (aV k) .Mod (.int (z (d+i))) (.int (V.sp i+1))=some (.int t):=λh=>Mo (dt (by lia)) h;have X:0<=1+(i:Int)/\1+(i:Int)<(List.replicate 4 (AV.int (V.lo i+V.fi i))).length/\(List.replicate 4 (AV.int (V.lo i+V.fi i))).length<=1000:=by rw[List.length_replicate];lia
 have f:∀{l:List AV},l.length<=100->l.length<=1000:=λh=>Nat.le_trans h (by decide);have B:∀d:Nat,d<=9->aF k 685 [.list xs,.int (d+i)] []=some (.int (z (d+i))):=λd hd=>G _ (by lia) (by lia);unfold ay;refine(RY ..).trans (bE (G i (by lia) (by lia)) (bE (I _) (bE (Mo (vp _) J) (bE (oA _ _) (bE (B 3 (by decide)) (bE (I _) (bE (Mo (vp _) N) (bE (oA _ _) (bE (B 6 (by decide)) (bE (oA _ _) (bE (md O) ?_)))))))))));refine(RW ..).trans (bE (oA _ _) (bE (B 9 (by decide)) (bE (oA _ _) (bE (md P) (bE (KA k (by lia)) (bE (a:=[.str "a",.str "b",.str "c"]) rfl (bE Q (bE (oA _ _) (bE (V.KH hi k (by exact up F rfl)) ((if_pos (f hn)).trans ?_))))))))));refine(RX ..).trans ((if_pos X).trans ((if_pos (f hr)).trans ?_));unfold Gz;rw[W];unfold bt.u;by_cases q:V.sp i=0
 . rw[if_neg (by simp;lia),if_pos (f H),if_pos q];rfl
 . rw[if_pos (by simp;lia),if_pos (f H),if_neg q];rfl
end
set_option tactic.hygienic false
section
variable{call:aI}{make:aH}{k:Nat}
noncomputable def pT(i:Nat):Nat:=[2,2,2,4,7,11,21,35,63].getD i 0
noncomputable def qT(i:Nat):Nat:=[2,2,2,6,10,20,34,62,104].getD i 0
noncomputable def aT(i:Nat):Nat:=2^(124*(i-2))
noncomputable def vT(i:Nat):Nat:=2^(62*i+62)
theorem Ig:((List.range 9).all λL=>(List.range L).all λa=>decide (L<3)||(decide (pT a<=pT L)&&(decide (2*pT a<=qT L)&&(decide (qT a+1<=pT L)&&(decide (pT a+2<=pT L)&&(decide (qT a<=62)&&(decide (pT a<=35)&&(decide (2^124*aT a<=aT L)&&(decide (2^62*vT a<=vT L)&&(decide (aT L<=2^800)&&(decide (vT L<=2^600)&&decide (pT L<=qT L))))))))))))=true:=by decide+kernel
theorem Ie:((List.range 9).all λL=>(List.range L).all λa=>(List.range L).all λb=>decide (L<3)||(decide (a=b)||(decide (pT a+pT b<=pT L)&&(decide (qT a+qT b<=qT L)&&decide (qT a+2*pT b<=qT L)))))=true:=by decide+kernel
structure T1(L a:Nat):Prop where
 p:pT a<=pT L
 q:2*pT a<=qT L
 r:qT a+1<=pT L
 s:pT a+2<=pT L
 t:qT a<=62
 u:pT a<=35
 am:2^124*aT a<=aT L
 vm:2^62*vT a<=vT L
 al:aT L<=2^800
 vl:vT L<=2^600
 pq:pT L<=qT L
theorem vP{L a:Nat}(f:L<9)(i:3<=L)(u:a<L):T1 L a:=by have:=List.all_eq_true.mp (List.all_eq_true.mp Ig L (List.mem_range.mpr f)) a (List.mem_range.mpr u);simp only[Bool.or_eq_true,Bool.and_eq_true,decide_eq_true_eq]at this;obtain⟨a1,z,B,F,G,H,I,J,N,O,P⟩:=this.resolve_left (by exact Nat.not_lt.mpr i);exact⟨a1,z,B,F,G,H,I,J,N,O,P⟩
theorem Mq{L a b:Nat}(f:L<9)(i:3<=L)(u:a<L)(hb:b<L)(z:a≠b):pT a+pT b<=pT L/\qT a+qT b<=qT L/\qT a+2*pT b<=qT L:=by have:=List.all_eq_true.mp (List.all_eq_true.mp (List.all_eq_true.mp Ie L (List.mem_range.mpr f)) a (List.mem_range.mpr u)) b (List.mem_range.mpr hb);simp only[Bool.or_eq_true,Bool.and_eq_true,decide_eq_true_eq]at this;exact(this.resolve_left (by exact Nat.not_lt.mpr i)).resolve_left z
noncomputable abbrev TN:=aY×List Int
structure NI(V:bt)(i:Nat)(t:TN):Prop where
 nd:Ng V.gv t.1
 ph:(sm t.1).ph<=qT i
 p:nP t.1.1<=pT i
 am:(sm t.1).am<=aT i
 val:∀ρ,V.gv.In ρ->((sm t.1).val ρ).natAbs<=vT i
 vs:∀j,(sm t.1).vs j=true->(j:Int)∈t.2
 us:∀z∈t.2,∃j:Nat,j<3/\z=j/\V.sp j≠0
 len:t.2.length<=2^i
theorem Fh{ts:List Tm}{w:Sem->Nat}:∀{L:List Tm},Nn L->(∀u∈L,∃v∈ts,v.t=u.t/\v.s=u.s)->aq (L.map λt=>w t.s)<=aq (ts.map λt=>w t.s):=λ{L}=>by
 induction L generalizing ts with
 |nil=>intro _ _;exact Nat.zero_le _
 |cons u L ih=>
  intro hn h;refine af (List.nodup_cons.mp hn) λn1 n2=>?_;refine bV (h u List.mem_cons_self) λv hv F G=>?_;refine cq (List.append_of_mem hv) λa b H=>?_;subst H;have:=ih (ts:=a++b) n2 λf i=>by
   refine bV (h f (List.mem_cons_of_mem _ i)) λz I B J=>?_;have N:z≠v:=λe=>n1 (by
    show u.t∈L.map (·.t);rw[<-F,<-e,B];exact List.mem_map.mpr ⟨f,i,rfl⟩)
   refine dA z ?_ B J;refine Or.elim (List.mem_append.mp I) (λh=>?_) λh=>?_
   . exact List.mem_append_left _ h
   . refine Or.elim (List.mem_cons.mp h) (λh=>?_) λh=>?_
     . exact absurd h N
     . exact List.mem_append_right _ h
  rw[List.map_cons,au,List.map_append,bN,List.map_cons,au];rw[List.map_append,bN]at this;rw[G];lia
theorem IA(ts:List Tm)(r:Int):(nS ts r).ph<=2*nP ts:=by rw[<-cF];exact bM λt _=>Nat.mul_le_mul_right _ (mX _)
theorem Fg{g:Gv}{n m:aY}(h:Ng g n)(z:m=n\/∃j,m=eV j n):nP (cu [n,m]).1<=nP n.1:=by
 have i:∀t∈[n,m].flatMap (·.1),∃v∈n.1,v.t=t.t/\v.x=t.x/\v.s=t.s:=λt ht=>by
  refine ab (List.mem_flatMap.mp ht) λJ hn h1=>?_;rcases List.mem_cons.mp hn with rfl|hn
  . exact wD t h1 rfl rfl rfl
  . rw[List.mem_singleton.mp hn]at h1;rcases z with rfl|⟨j,rfl⟩
    . exact wD t h1 rfl rfl rfl
    . unfold eV at h1;split at h1
      . cases h1
      . refine ab (List.mem_map.mp h1) λu f B=>?_;rw[<-B];exact wD u f rfl rfl rfl
 have M:=DG (uk (g:=g) λt ht=>by
  refine CL (i t ht) λv hv a b c=>?_;rw[<-a,<-b,<-c];exact h.a v hv)
 exact Fh (w:=λs=>s.ph) M.nn λu f=>by obtain⟨_,v,hv,a,_,c⟩:=M.mem u f;refine CL (i v hv) λF G H _ I=>?_;exact dA F G (H.trans a) (I.trans c)
noncomputable abbrev iD(ms:List TN):List AV:=ms.map λt=>nO t.1
noncomputable abbrev mD(V:bt)(ms:List TN):List AV:=ms.map λt=>gt V.ρ t.1
noncomputable abbrev kG(ms:List TN):List AV:=ms.map λt=>iL t.2
noncomputable abbrev f6(f:Nat->Int):List AV:=(List.range 4).map λc=> .int (f c)
theorem MC{V:bt}{m:aY}{f:Nat->Int}(h:∀ρ,V.gv.In ρ->True)(hf:∀c,(sm m).val (V.ρ c)=f c):AV.list (f6 f)=gt V.ρ m:=congrArg AV.list (List.map_congr_left λc _=>congrArg AV.int (hf c).symm)
theorem mf{i:Nat}{u:ah}{sh:AV->ah}{f F:Nat->Int}(H:∀c σ,(σ=u\/∃y,σ=sh y)->∀acc:List AV,acc.length<=1000->aU call make 697 i 40 σ [.int (f c)] (.l acc)=some (sh (.int (f c)),.l (acc++[.int (F c)]))){R:Type}{K:List AV->Option R}:cp call make i (bf (f6 f)) u K=K (f6 F):=by refine ax (c7 (step:=aU call make 697 i 40) (σ0:=u) (sh:=sh) (x:=λc=>AV.int (f c)) (f:=λc=>AV.int (F c)) (List.range 4) (λc _ σ z acc B=>H c σ z acc B) (by decide)) λσ' e=>?_;unfold cp;rw[e];rfl
theorem rW{kd:Int}{f h F:Nat->Int}(z:∀c,(if kd=0 then f c+h c else f c-h c)=F c){R:Type}{K:List AV->Option R}:cp call make 0 (qs (f6 f) (f6 h)) [("kind",.fz (.int kd))] K=K (f6 F):=by
 show((aE (aU call make 697 0 40) ((List.range 4).map λc=>[.int (f c),.int (h c)]) _ _).bind _)=_;obtain⟨σ',_,e⟩:=eP (step:=aU call make 697 0 40) (I:=λσ=>∃r:ah,(r=[]\/∃B G,r=[(("x":Str),EV.fz B),(("y":Str),EV.fz G)])/\σ=(("kind":Str),EV.fz (.int kd))::r) (x:=λc=>[AV.int (f c),.int (h c)]) (f:=λc=>[AV.int (F c)]) (List.range 4) [] [("kind",.fz (.int kd))] ⟨[],.inl rfl,rfl⟩ (λc _ σ i acc u=>by
  refine ab i λr hr H=>?_;clear i;rw[H];simp only[List.length_cons,List.length_nil]at u;refine ag ((("kind":Str),EV.fz (.int kd))::[(("x":Str),EV.fz (.int (f c))),(("y":Str),EV.fz (.int (h c)))]:ah) ⟨_,.inr ⟨_,_,rfl⟩,rfl⟩ ((Hc call make kd (.int (f c)) (.int (h c)) acc r hr).trans ?_);rw[if_pos (by exact Nat.le_of_lt u)];show(if(kd==0)=true then _ else _)=_;rw[<-z c];by_cases q:kd=0
  . rw[if_pos (by simpa using q),if_pos q];rfl
  . rw[if_neg (by simpa using q),if_neg q];rfl) (by rw[OV,List.length_map];decide)
 rw[e];rfl
end
section
variable{k L a b:Nat}{V:bt}{t s:TN}
inductive AS(V:bt)(L:Nat)(us:List Int)(f:(Nat->Int)->Int)(K:aI->aH->Option AV):Prop
 |mk (m:aY) (e:∀k,600<=k->K (aF k) (aV k)=some (nO m)) (n:NI V L (m,us)) (v:∀ρ,V.gv.In ρ->(sm m).val ρ=f ρ)
theorem lF{m:aY}{v:(Nat->Int)->Int}{ph p am:Nat}{vs:Nat->Prop}(R:RS V.gv m v ph p am vs)(h1:ph<=qT L)(h2:p<=pT L)(i:am<=aT L)(u:∀ρ,V.gv.In ρ->(v ρ).natAbs<=vT L){us:List Int}(B:∀j,vs j->(j:Int)∈us)(F:∀z∈us,∃j:Nat,j<3/\z=j/\V.sp j≠0)(G:us.length<=2^L):NI V L (m,us):=
 ⟨R.nd,Nat.le_trans R.ph h1,Nat.le_trans R.p h2,Nat.le_trans R.am i,λρ f=>by rw[R.val ρ f];exact u ρ f,λj H=>B j (R.vs j H),F,G⟩
theorem Sc{a L:Nat}(h:a<L):2^a<=2^L:=Nat.pow_le_pow_right (by lia) (by lia)
theorem Qt{a b L:Nat}(h:a<L)(h':b<L):2^a+2^b<=2^L:=by
 have h1:2^a<=2^(L-1):=Nat.pow_le_pow_right (by lia) (by lia);have h2:2^b<=2^(L-1):=Nat.pow_le_pow_right (by lia) (by lia);have:2^L=2^(L-1)*2:=by rw[<-Nat.pow_succ];congr 1;lia
 lia
theorem MU:(2:Nat)^600<=2^870:=Nat.pow_le_pow_right (by lia) (by lia)
theorem EA(h:NI V a t)(h':NI V b s):∀z∈t.2++s.2,∃j:Nat,j<3/\z=j/\V.sp j≠0:=λz f=>(List.mem_append.mp f).elim (h.us z) (h'.us z)
theorem Qf(n:Nat):2*vT n<=2^62*vT n:=Nat.mul_le_mul_right _ (by decide)
theorem U2(n:Nat):2*aT n<=2^124*aT n:=Nat.mul_le_mul_right _ (by decide)
theorem Rb:XX=2^62:=rfl
structure NB(V:bt)(L:Nat)(t:TN):Prop where
 xY:nP t.1.1<=35
 Rg:(sm t.1).ph<=62
 p2:nP t.1.1+2<=pT L
 h1:(sm t.1).ph+1<=pT L
 pq:pT L<=qT L
 al:aT L<=2^800
 vl:vT L<=2^870
 H4:2*2^62<=vT L
 am:∀q,q<=2^124->q*(sm t.1).am<=aT L
 val:∀ρ,V.gv.In ρ->∀q,q<=2^62->q*((sm t.1).val ρ).natAbs<=vT L
 len:t.2.length<=2^L
theorem wU(z:L<9)(B:3<=L)(i:a<L)(h:NI V a t):NB V L t:=
 have T:=vP z B i
 ⟨Nat.le_trans h.p T.u,Nat.le_trans h.ph T.t,Nat.le_trans (Nat.add_le_add_right h.p 2) T.s,Nat.le_trans (Nat.add_le_add_right h.ph 1) T.r,T.pq,T.al,Nat.le_trans T.vl MU,Nat.le_trans (Nat.mul_le_mul_left 2 (Nat.pow_le_pow_right (by decide) (Nat.le_add_left 62 _))) (Nat.le_trans (Qf a) T.vm),
  λq f=>Nat.le_trans (Nat.mul_le_mul f h.am) T.am,λρ F q f=>Nat.le_trans (Nat.mul_le_mul f (h.val ρ F)) T.vm,Nat.le_trans h.len (Sc i)⟩
theorem NB.Hu(B:NB V L t):1*(sm t.1).am<=aT L:=B.am 1 (by decide)
theorem NB.PT(B:NB V L t):(sm t.1).am<=aT L:=by have:=B.Hu;rwa [Nat.one_mul]at this
theorem NB.v1(B:NB V L t)(ρ)(f:V.gv.In ρ):((sm t.1).val ρ).natAbs<=vT L:=by have:=B.val ρ f 1 (by decide);rwa [Nat.one_mul]at this
theorem NB.pL(B:NB V L t):nP t.1.1<=pT L:=Nat.le_trans (Nat.le_add_right ..) B.p2
theorem NB.hL(B:NB V L t):(sm t.1).ph<=pT L:=Nat.le_trans (Nat.le_add_right ..) B.h1
theorem NB.Lk(B:NB V L t):XX*(sm t.1).am<=2^800:=Nat.le_trans (B.am XX (by decide)) B.al
theorem NB.Ez(B:NB V L t)(ρ)(f:V.gv.In ρ):((sm t.1).val ρ* -1).natAbs<=2^870:=by rw[Int.natAbs_mul,Nat.mul_comm];exact Nat.le_trans (B.val ρ f 1 (by decide)) B.vl
theorem iN:bC (-1)=XX:=by decide+kernel
theorem hf{x y z:Nat}(h:2*x<=z)(h':2*y<=z):x+y<=z:=by lia
theorem RE{x y:Int}{z:Nat}(h:2*x.natAbs<=z)(h':2*y.natAbs<=z):(x+y).natAbs<=z:=Nat.le_trans (Int.natAbs_add_le x y) (hf h h')
theorem Ll{x y:Int}{z:Nat}(h:2*x.natAbs<=z)(h':2*y.natAbs<=z):(x-y).natAbs<=z:=Nat.le_trans (Int.natAbs_sub_le x y) (hf h h')
theorem QJ{j:Int}{z:Nat}(f:j.natAbs<=2^61)(h:2*2^62<=z):2*j.natAbs<=z:=by lia
theorem yd(F:L<9)(G:3<=L)(u:a<L)(hb:b<L)(h:NI V a t)(h':NI V b s)(J:a=b->t=s){m:aY}(nd:Ng V.gv m)(N:m=s.1\/∃j,m=eV j s.1)(p:nP m.1<=nP s.1.1)(ph:(sm m).ph<=(sm s.1).ph\/(sm m).ph<=2*nP s.1.1)(am:2*(sm m).am<=aT L)
 (vs:∀i,(sm m).vs i=true->(sm s.1).vs i=true){v:(Nat->Int)->Int}(hv:∀ρ,V.gv.In ρ->(sm t.1).val ρ+(sm m).val ρ=v ρ)(H:∀ρ,V.gv.In ρ->(v ρ).natAbs<=vT L):NI V L (cu [t.1,m],t.2++s.2)/\∀ρ,V.gv.In ρ->(sm (cu [t.1,m])).val ρ=v ρ:=by
 have B:=wU F G u h;have I:=hf (B.am 2 (by decide)) am;have R:=AA V.ok h.nd nd (Nat.le_trans I B.al) (by rw[hv _ V.ok.cX];exact Nat.le_trans (H _ V.ok.cX) (Nat.le_trans B.vl (by decide)));have val:=λρ f=>(R.val ρ f).trans (hv ρ f);have g8:(sm (cu [t.1,m])).ph<=qT L/\nP (cu [t.1,m]).1<=pT L:=by
  by_cases q:a=b
  . obtain rfl:=J q;have s1:=Fg h.nd N;exact⟨Nat.le_trans (Nat.le_trans (IA (cu [t.1,m]).1 (cu [t.1,m]).2) (Nat.mul_le_mul_left 2 (Nat.le_trans s1 h.p))) (vP F G u).q,Nat.le_trans s1 B.pL⟩
  . refine dh (Mq F G u hb q) λO P Q=>?_;refine⟨Nat.le_trans R.ph ?_,Nat.le_trans R.p (Nat.le_trans (Nat.add_le_add h.p (Nat.le_trans p h'.p)) O)⟩;exact ph.elim (λz=>Nat.le_trans (Nat.add_le_add h.ph (Nat.le_trans z h'.ph)) P) λz=>Nat.le_trans (Nat.add_le_add h.ph (Nat.le_trans z (Nat.mul_le_mul_left 2 h'.p))) Q
 exact⟨⟨R.nd,g8.1,g8.2,Nat.le_trans R.am I,λρ f=>by rw[val ρ f];exact H ρ f,λj U=>(R.vs j U).elim (λz=>List.mem_append_left _ (h.vs j z)) λz=>List.mem_append_right _ (h'.vs j (vs j z)),EA h h',by rw[List.length_append];exact Nat.le_trans (Nat.add_le_add h.len h'.len) (Qt u hb)⟩,val⟩
theorem FC(i:L<9)(u:3<=L)(F:a<L)(hb:b<L)(h:NI V a t)(h':NI V b s)(H:a=b->t=s):AS V L (t.2++s.2) (λρ=>(sm t.1).val ρ+(sm s.1).val ρ) λcall make=>oP call make .Add (nO t.1) (nO s.1):=by have B:=wU i u F h;have f:=wU i u hb h';refine af (yd i u F hb h h' H h'.nd (.inl rfl) (Nat.le_refl _) (.inl (Nat.le_refl _)) (f.am 2 (by decide)) (λ_ z=>z) (λ_ _=>rfl) λρ G=>RE (B.val ρ G 2 (by decide)) (f.val ρ G 2 (by decide))) λN v=>?_;exact⟨_,λk I=>oO (p:=35) V.ok h.nd h'.nd B.xY f.xY (by decide) (Nat.le_trans (hf (B.am 2 (by decide)) (f.am 2 (by decide))) B.al) k (up I rfl),N,v⟩
theorem Fw(u:L<9)(z:3<=L)(F:a<L)(hb:b<L)(h:NI V a t)(h':NI V b s)(J:a=b->t=s):AS V L (t.2++s.2) (λρ=>(sm t.1).val ρ-(sm s.1).val ρ) λcall make=>oP call make .Sub (nO t.1) (nO s.1):=by
 have B:=wU u z F h;have f:=wU u z hb h';have G:=f.Ez _ V.ok.cX;have S:=kf (j:= -1) h'.nd (by rw[iN];exact f.Lk) V.ok G;have H:=S.am;rw[iN]at H;have I:2*(XX*(sm s.1).am)<=aT L:=by rw[<-Nat.mul_assoc];exact f.am _ (by decide)
 refine af (yd u z F hb h h' J S.nd (.inr ⟨-1,rfl⟩) S.p (.inr S.ph) (Nat.le_trans (Nat.mul_le_mul_left 2 H) I) S.vs (v:=λρ=>(sm t.1).val ρ-(sm s.1).val ρ) (λρ i=>by rw[S.val ρ i];lia) λρ i=>Ll (B.val ρ i 2 (by decide)) (f.val ρ i 2 (by decide))) λN v=>?_;exact⟨_,λk O=>Fo (p:=35) V.ok h.nd h'.nd B.xY f.xY (by decide) (Nat.le_trans (hf (B.am 2 (by decide)) I) B.al) G k (up O rfl),N,v⟩
theorem Fz(u:L<9)(z:3<=L)(F:a<L)(h:NI V a t){j:Int}(f:j.natAbs<=2^61):AS V L t.2 (λρ=>(sm t.1).val ρ*j) λcall make=>oP call make .Mult (nO t.1) (.int j):=by
 have B:=wU u z F h;have G:bC j<=2^124:=by
  unfold bC;split
  . exact Nat.le_trans f (by decide)
  . rw[Rb];exact Nat.le_trans (Nat.mul_le_mul_left _ f) (by decide)
 have am:=B.am _ G;have hv:∀ρ,V.gv.In ρ->((sm t.1).val ρ*j).natAbs<=vT L:=λρ H=>by rw[Int.natAbs_mul,Nat.mul_comm];exact B.val ρ H _ (Nat.le_trans f (by decide))
 have i:=Nat.le_trans (hv _ V.ok.cX) B.vl;exact⟨_,λk I=>sU V.ok h.nd (j:=j) (bR (Nat.le_trans f (by decide))) (Nat.le_trans am B.al) i (p:=35) B.xY (by decide) k (up I rfl),lF (kf h.nd (j:=j) (Nat.le_trans am B.al) V.ok i) (Nat.le_trans (Nat.mul_le_mul_left 2 h.p) (vP u z F).q) B.pL am hv h.vs h.us B.len,(kf h.nd (j:=j) (Nat.le_trans am B.al) V.ok i).val⟩
theorem FB(u:L<9)(z:3<=L)(F:a<L)(h:NI V a t){j:Int}(h1:1<=j)(f:j.natAbs<=2^61):AS V L t.2 (λρ=>(sm t.1).val ρ/j) λcall make=>oP call make .FloorDiv (nO t.1) (.int j):=by have B:=wU u z F h;have am:=B.am _ (Nat.le_trans f (by decide));obtain⟨m,O,R,_⟩:=x7 V.ok 62 (by decide) t.1 h.nd B.Rg j h1 (Nat.le_trans f (by decide)) (Nat.le_trans am B.al);have i:(sm t.1).ph+md t.1.1<=pT L:=Nat.le_trans (Nat.add_le_add_left (gw t.1.1) _) B.h1;exact⟨m,λk G=>O k (up G rfl),lF R (Nat.le_trans i B.pq) i am (λρ H=>Nat.le_trans (Int.natAbs_ediv_le_natAbs ..) (B.v1 ρ H)) h.vs h.us B.len,R.val⟩
theorem CI{x j:Int}(h:1<=j):(x%j).natAbs<=j.natAbs:=by have:=Int.emod_nonneg x (b:=j) (by lia);have:=Int.emod_lt_of_pos x (b:=j) (by lia);lia
theorem Sx{j:Int}{z:Nat}(f:j.natAbs<=2^61)(h:2*2^62<=z):j.natAbs<=z:=by lia
theorem FA(i:L<9)(u:3<=L)(z:a<L)(h:NI V a t){j:Int}(h1:1<=j)(F:j.natAbs<=2^61):AS V L t.2 (λρ=>(sm t.1).val ρ%j) λcall make=>oP call make .Mod (nO t.1) (.int j):=by have B:=wU i u z h;obtain⟨m,O,R⟩:=oN V.ok 62 t.1 h.nd B.Rg (by decide) j (by lia) (by rw[Rb];lia);have f:(sm t.1).ph+mm t.1.1 t.1.2<=pT L:=Nat.le_trans (Nat.add_le_add_left (kh t.1.1 t.1.2) _) B.h1;exact⟨m,λk G=>O k (up G rfl),lF R (Nat.le_trans f B.pq) f B.PT (λρ H=>Nat.le_trans (CI h1) (Sx F B.H4)) h.vs h.us B.len,R.val⟩
theorem BO(f:L<9)(i:3<=L)(u:a<L)(h:NI V a t){j:Int}(z:j.natAbs<=2^61):AS V L t.2 (λρ=>(sm t.1).val ρ+j) λcall make=>oP call make .Add (nO t.1) (.int j):=by
 have B:=wU f i u h;have hv:∀ρ,V.gv.In ρ->((sm t.1).val ρ+j).natAbs<=vT L:=λρ F=>RE (B.val ρ F 2 (by decide)) (QJ z B.H4);have hr:(t.1.2+j).natAbs<=2^880:=oR V.ok (ts:=t.1.1) (r:=t.1.2+j) h.nd.a h.nd.p.am (by
  show(ao _+(t.1.2+j)).natAbs<=_;rw[<-Int.add_assoc];exact Nat.le_trans (hv _ V.ok.cX) (Nat.le_trans B.vl (by decide)))
 exact⟨_,λk G=>i4 V.ok h.nd (p:=35) B.xY (by decide) (c:=j) k (up G rfl),lF (gR V.ok h.nd hr) (Nat.le_trans B.hL B.pq) B.pL B.PT hv h.vs h.us B.len,(gR V.ok h.nd hr).val⟩
theorem Fy(u:L<9)(F:3<=L)(G:a<L)(h:NI V a t){j:Int}(i:j.natAbs<=2^61):AS V L t.2 (λρ=>j-(sm t.1).val ρ) λcall make=>(nG call make (nO t.1)).bind λx=>oP call make .Add x (.int j):=by
 have B:=wU u F G h;have hv:∀ρ,V.gv.In ρ->(j-(sm t.1).val ρ).natAbs<=vT L:=λρ f=>Ll (QJ i B.H4) (B.val ρ f 2 (by decide));have H:=B.Ez _ V.ok.cX;have S:=kf (j:= -1) h.nd (by rw[iN];exact B.Lk) V.ok H;have I:=S.am;rw[iN]at I;have ev:∀ρ,V.gv.In ρ->(sm (eV (-1) t.1)).val ρ+j=j-(sm t.1).val ρ:=λρ f=>by rw[S.val ρ f];lia
 have hr:((eV (-1) t.1).2+j).natAbs<=2^880:=oR V.ok (ts:=(eV (-1) t.1).1) (r:=(eV (-1) t.1).2+j) S.nd.a S.nd.p.am (by
  show(ao _+((eV (-1) t.1).2+j)).natAbs<=_;rw[<-Int.add_assoc];exact(ev _ V.ok.cX).symm▸Nat.le_trans (hv _ V.ok.cX) (Nat.le_trans B.vl (by decide)))
 have R:=gR V.ok S.nd hr;refine⟨_,λk J=>?_,lF (R.w ev (Nat.le_refl _) (Nat.le_refl _) (Nat.le_refl _) λ_ z=>z) (Nat.le_trans S.ph (Nat.le_trans (Nat.mul_le_mul_left 2 h.p) (vP u F G).q)) (Nat.le_trans S.p B.pL) (Nat.le_trans I (B.am XX (by decide))) hv (λj i=>h.vs j (S.vs j i)) h.us B.len,λρ f=>(R.val ρ f).trans (ev ρ f)⟩;exact bE (tu V.ok h.nd (p:=35) B.xY (by decide) B.Lk H k (up J rfl)) (i4 V.ok S.nd (p:=35) (Nat.le_trans S.p B.xY) (by decide) (c:=j) k (up J rfl))
theorem RA{p:Prop}[Decidable p]{z:Nat}(h:2*2^62<=z):(if p then(1:Int)else 0).natAbs<=z:=by split<;>lia
theorem IK(f:L<9)(i:3<=L)(u:a<L)(h:NI V a t)(j:Int):AS V L t.2 (λρ=>if(sm t.1).val ρ<j then 1 else 0) λcall make=>call 359 [nO t.1,.int j] []:=by have B:=wU f i u h;obtain⟨m,O,R⟩:=vh V.ok h.nd j (p:=35) B.xY (by decide);exact⟨m,λk z=>O k (up z rfl),lF R (by have:=B.p2;have:=B.pq;have:=B.h1;lia) (by have:=B.p2;have:=B.pq;lia) B.PT (λρ F=>RA B.H4) h.vs h.us B.len,R.val⟩
theorem IL(G:L<9)(H:3<=L)(I:a<L)(h:NI V a t)(j:Int):AS V L t.2 (λρ=>if j<=(sm t.1).val ρ then 1 else 0) λcall make=>call 366 [nO t.1,.int j] []:=by
 have B:=wU G H I h;have u:=B.Ez _ V.ok.cX;have S:=kf (j:= -1) h.nd (by rw[iN];exact B.Lk) V.ok u;have sp:=S.p;have F:=S.am;rw[iN]at F;obtain⟨m,O,R⟩:=vh V.ok S.nd (-j+1) (p:=35) (Nat.le_trans sp B.xY) (by decide);have ev:∀ρ,V.gv.In ρ->IV (eV (-1) t.1) (-j+1) ρ=if j<=(sm t.1).val ρ then 1 else 0:=λρ f=>by
  show(if(sm (eV (-1) t.1)).val ρ< -j+1 then(1:Int)else 0)=_;rw[S.val ρ f];have:(sm t.1).val ρ* -1< -j+1<->j<=(sm t.1).val ρ:=by lia
  simp only[this]
 refine aP (bx (r:=t.1.2) h.nd.a) λC fl e P=>?_;have e:nO t.1=_:=e;refine⟨m,λk i=>?_,lF (R.w ev (Nat.le_refl _) (Nat.le_refl _) (Nat.le_refl _) λ_ z=>z) (by have:=B.p2;have:=B.pq;lia) (by have:=B.p2;lia) (Nat.le_trans F (B.am XX (by decide))) (λρ f=>RA B.H4) (λj J=>h.vs j (S.vs j J)) h.us B.len,λρ f=>(R.val ρ f).trans (ev ρ f)⟩;refine aw (d:=400) (by lia) (by decide) (λk i=>?_) k (up i rfl);have N:=tu V.ok h.nd (p:=35) B.xY (by decide) B.Lk u k (up i rfl);rw[e]at N⊢;rw[Po];refine bE N ?_;rw[O k (up i rfl)];rfl
end
section
variable{k L a b:Nat}{V:bt}{t s:TN}{ms:List TN}
theorem idx_map{α:Type}{l:List α}{f:α->AV}{i:Nat}(hi:i<l.length)(hl:l.length<=1000):bc (l.map f) (i:Int)=some (f l[i]):=by rw[m9 (by rw[List.length_map];exact hi) (by rw[List.length_map];exact hl),List.getElem?_map,List.getElem?_eq_getElem hi];rfl
theorem K9{L:Nat}(hL:0<L)(z:Int):∃i:Nat,i<L/\(L:Int)-1-z%L=i:=by refine ax (Int.eq_ofNat_of_zero_le (Int.emod_nonneg z (Int.ne_of_gt (Int.ofNat_lt.mpr hL)))) λr hr=>?_;have h1:r<L:=Int.ofNat_lt.mp (hr▸Int.emod_lt_of_pos z (Int.ofNat_lt.mpr hL));refine ag (L-1-r) (Nat.lt_of_le_of_lt (Nat.sub_le _ _) (Nat.sub_lt hL (by decide))) ?_;rw[hr,Int.natCast_sub (Nat.le_sub_one_of_lt h1),Int.natCast_sub hL];rfl
noncomputable abbrev fx(V:bt)(ms:List TN)(y:Fx):Fx:=⟨y.xs,iD ms,mD V ms,kG ms,y.n,y.k,y.o0,y.o1,y.o2,y.o3⟩
theorem Bu{j:Int}{xs:List AV}{v:AV}{R:Type}{K:AV->Option R}{b:Option R}(h:bc xs j=some v)(r:K v=b):lx (.int j) xs K=b:=bE (k:=K) h r
theorem MQ(hL:ms.length=L)(F:3<=L)(G:L<=8){y:Fx}{z:Nat->AV}{i:Nat}{v:Int}(H:aF k 685 [.list y.xs,.int (12+y.k)] []=some (.int v)){R:Type}(kN kC:ah->Option R)(kR:AV->ah->Option R):
 ∃(nu kd:Int)(h:Nat)(B:h<ms.length),0<=kd/\kd<8/\pu (aF k) (aV k) 195 (ST (fx V ms y) z i) (gx 697 1) kN kC kR=
  pu (aF k) (aV k) 187 (ST (fx V ms y) (tA (gt V.ρ ms[h].1) (.int nu) (.int kd) (.int h) (nO ms[h].1) (iL ms[h].2) (z 0) (z 1) (z 2) (z 3)) (i-1+1)) wT kN kC kR:=by
 refine ab (K9 (L:=L) (by exact up F rfl) (v/8)) λh B I=>?_;have f:h<ms.length:=hL▸B;have hl:ms.length<=1000:=Nat.le_trans (hL▸G) (by decide);have u:fG (iD ms)=some (.int L):=by rw[gU (by rw[List.length_map];exact hl),List.length_map,hL]
 have J:oP (aF k) (aV k) .Sub (.int ((L:Int)-1)) (.int (v/8%L))=some (.int h):=(oI _ _).trans (by rw[<-I];rfl);have N:oP (aF k) (aV k) .FloorDiv (.int (v/8)) (.int L)=some (.int (v/8/L)):=dl (bR (Nat.le_trans (show((L:Nat):Int).natAbs<=8 by assumption) (by decide))) (by lia);have s1:oP (aF k) (aV k) .Sub (.int L) (.int 1)=some (.int ((L:Int)-1)):=oI _ _;have O:bc (iD ms) (h:Int)=some (nO ms[h].1):=idx_map f hl;have i2:bc (mD V ms) (h:Int)=some (gt V.ρ ms[h].1):=idx_map f hl;have P:bc (kG ms) (h:Int)=some (iL ms[h].2):=idx_map f hl;refine⟨v/8/L,v%8,h,f,Int.emod_nonneg v (by decide),Int.emod_lt_of_pos v (by decide),?_⟩;refine(hd ..).trans (bE (oA _ _) (bE H (bE (dt (by decide)) (bE (dl (by decide) (by decide)) (bE u (bE s1 (bE u (bE (dt (by lia)) (bE J (bE u (bE N ?_)))))))))));exact Bu O (Bu i2 (Bu P rfl))
end
section
variable{call:aI}{make:aH}{k L:Nat}{V:bt}{ms:List TN}
noncomputable def Br(V:bt)(L k:Nat)(ms:List TN)(y:Fx)(z:Nat->AV)(i:Nat):Prop:=∃(t:TN)(z':Nat->AV)(i':Nat),NI V L t/\∀{R:Type}{kN kC:ah->Option R}{kR:AV->ah->Option R},pu (aF k) (aV k) 187 (ST (fx V ms y) z (i+1)) wT kN kC kR=kN (ST (fx V (ms++[t]) y) z' (i'+1))
theorem Qy{call:aI}{make:aH}{f N:Nat}{σ a b:ah}{st:Stmt}(e:a=b)(h:Nx call make f N σ st a):Nx call make f N σ st b:=e▸h
theorem Qz{call:aI}{make:aH}{f N:Nat}{σ σ' a:ah}{st:Stmt}(e:σ=σ')(h:Nx call make f N σ' st a):Nx call make f N σ st a:=e▸h
theorem Ug{α β i:Type}{m:Option α}{f:α->Option β}{k:β->Option i}{c:β}{b:Option i}(h:m.bind f=some c)(r:k c=b):(m.bind λa=>(f a).bind k)=b:=ar h λ_ e h=>bE e (bE h r)
theorem TP(t:TN)(y:Fx):fx V (ms++[t]) y=⟨y.xs,iD ms++[nO t.1],mD V ms++[gt V.ρ t.1],kG ms++[iL t.2],y.n,y.k,y.o0,y.o1,y.o2,y.o3⟩:=by simp only[fx,iD,mD,kG,List.map_append,List.map_cons,List.map_nil]
theorem pI(u z:AV)(B:Nat){y:Fx}{p nu kd he no pa a b c d:AV}{i:Nat}{us:List Int}{f:(Nat->Int)->Int}{K:aI->aH->Option AV}(N:AS V L us f K)(F:600<=k)(hl:ms.length<=1000)
 (h:∀m,K (aF k) (aV k)=some (nO m)->∀{R:Type}{kN kC:ah->Option R}{kR:AV->ah->Option R},pu (aF k) (aV k) 187 (ST (fx V ms y) (tA p nu kd he no pa a b c d) (i+1)) wT kN kC kR=g8 (fx V ms y) nu kd he no (iL us) u z (nO m) p B (f6 λc=>f (V.ρ c)) kN):Br V L k ms y (tA p nu kd he no pa a b c d) i:=by
 obtain⟨m,E,I,v⟩:=N;refine rU (m,us) (tA p nu kd he no (iL us) u z (nO m) (gt V.ρ m)) B I (λ{R}{kN kC}{kR}=>(h m (E k F)).trans ?_);have G:(f6 λc=>f (V.ρ c))=f6 λc=>(sm m).val (V.ρ c):=List.map_congr_left λc _=>congrArg AV.int (v _ (V.In c)).symm;have hl:∀f:TN->AV,(ms.map f).length<=1000:=λf=>(List.length_map f).symm▸hl;rw[G,TP];exact(if_pos (hl _)).trans ((if_pos (hl _)).trans (if_pos (hl _)))
theorem Fv{xs ys:List AV}{call:aI}{make:aH}(h:xs.length+ys.length<=1000):oP call make .Add (.list xs) (.list ys)=some (.list (xs++ys)):=by show(if Operator.Add=Operator.Add/\xs.length+ys.length<=1000 then some (AV.list (xs++ys))else none)=_;rw[if_pos ⟨rfl,h⟩]
theorem Bz{j:Nat}(i:j<4){f F:Nat->Int}{b:Int}(h:∀c,cJ call make j (.int (f c)) (.int b)=some (.int (F c))){R:Type}{K:List AV->Option R}:cp call make (j+1) (bf (f6 f)) [("by",.fz (.int b))] K=K (f6 F):=
 mf (sh:=λy=>[("by",.fz (.int b)),("x",.fz y)]) λc σ u acc z=>(PN _ _ i b _ acc u).trans ((if_pos z).trans (bE (h c) rfl))
theorem MD{f:Nat->Int}{b:Int}{R:Type}{K:List AV->Option R}:cp call make 5 (bf (f6 f)) [("by",.fz (.int b))] K=K (f6 λc=>b-f c):=
 mf (sh:=λy=>[("by",.fz (.int b)),("x",.fz y)]) λc σ i acc u=>(K1 _ _ b _ acc i).trans ((if_pos u).trans (bE (oI _ _) rfl))
theorem Iw(z:Bool){f:Nat->Int}{b:Int}{Q:Nat->Prop}[DecidablePred Q](h:∀c,cM call make (cQ z) (.int (f c)) (.int b)=some (decide (Q c))){R:Type}{K:List AV->Option R}:cp call make (6+z.toNat) (bf (f6 f)) [("by",.fz (.int b))] K=K (f6 λc=>if Q c then 1 else 0):=
 mf (sh:=λy=>[("by",.fz (.int b)),("x",.fz y)]) λc σ i acc u=>(K2 _ _ z b _ acc i).trans ((if_pos u).trans (bE (h c) (by
  by_cases q:Q c
  . rw[if_pos (decide_eq_true q),if_pos q]
  . rw[if_neg (λh=>q (of_decide_eq_true h)),if_neg q])))
theorem Hi(hL:ms.length=L)(F:3<=L)(h8:L<=8)(H:600<=k)(hI:∀i(h:i<ms.length),NI V i ms[i]){y:Fx}{a b c d:AV}{i:Nat}{nu kd:Int}{h:Nat}(hh:h<ms.length)(h0:0<=kd)(h7:kd<8):
 Br V L k ms y (tA (gt V.ρ ms[h].1) (.int nu) (.int kd) (.int h) (nO ms[h].1) (iL ms[h].2) a b c d) i:=by
 have z:=hI h hh;refine aP (bx (r:=ms[h].1.2) z.nd.a) λC fl e hC=>?_;have e:nO ms[h].1= .obj C fl:=e;rw[e];have hl:ms.length<=1000:=by lia-abstractProof
 have I:=λa=>Eh a k (by lia-abstractProof);have X:=pA nu;have G:L<9:=by lia-abstractProof
 have B:h<L:=by lia-abstractProof
 refine ab (K9 (L:=L) (by lia-abstractProof) (nu+1)) λu Q TZ=>?_;have J:u<ms.length:=by lia-abstractProof
 have U:=hI u J;have N:fG (iD ms)=some (.int L):=by rw[gU (by rw[List.length_map];exact hl),List.length_map,hL]
 have Y:oP (aF k) (aV k) .Mod (.int (nu+1)) (.int L)=some (.int ((nu+1)%L)):=dt (by lia-abstractProof);have Z:bc (iD ms) (u:Int)=some (nO ms[u].1):=idx_map J hl;have i2:bc (mD V ms) (u:Int)=some (gt V.ρ ms[u].1):=idx_map J hl;have i3:bc (kG ms) (u:Int)=some (iL ms[u].2):=idx_map J hl;have s2:oP (aF k) (aV k) .Sub (.int ((L:Int)-1)) (.int ((nu+1)%L))=some (.int u):=(oI _ _).trans (by rw[<-TZ];rfl);have s1:oP (aF k) (aV k) .Sub (.int L) (.int 1)=some (.int ((L:Int)-1)):=oI _ _;have uV:oP (aF k) (aV k) .Add (iL ms[h].2) (iL ms[u].2)=some (iL (ms[h].2++ms[u].2)):=by have:=z.len;have:=U.len;have:=Qt B Q;have:2^L<=2^8:=Nat.pow_le_pow_right (by lia-abstractProof) h8;rw[Fv (by rw[List.length_map,List.length_map];lia-abstractProof),<-List.map_append]
 have sf:∀c,Sm ((sm ms[h].1).val (V.ρ c))=true:=λc=>bR (Nat.le_trans (z.val _ (V.In c)) (by
  have:=(vP G F B).vm;have:=(vP G F B).vl;have h1:=Qf h;lia-abstractProof))
 have Rv:(2:Nat)^61<=2^1800:=Nat.pow_le_pow_right (by lia-abstractProof) (by lia-abstractProof);have O:(du nu+2).natAbs<=2^61:=Nat.le_trans (Int.natAbs_add_le _ _) (Nat.le_trans (Nat.add_le_add_right X 2) (by decide));have W:(1+((du nu+1).natAbs:Int)).natAbs<=2^61:=Nat.le_trans (Int.natAbs_add_le _ _) (Nat.le_trans (Nat.add_le_add_left (Nat.le_trans (Int.natAbs_add_le _ _) (Nat.add_le_add_right X 1)) 1) (by decide));have P:1<=1+((du nu+1).natAbs:Int):=by lia-abstractProof
 have:kd=0\/kd=1\/kd=2\/kd=3\/kd=4\/kd=5\/kd=6\/kd=7:=by lia-abstractProof
 rcases this with rfl|rfl|rfl|rfl|rfl|rfl|rfl|rfl
 . refine pI (.int u) b (LY i) (FC G F B Q z U (λq=>by cases q;rfl)) H hl λm f{R}{kN kC}{kR}=>?_;rw[e]at f;exact(b0 ..).trans (bE N (bE s1 (bE (oA _ _) (bE N (bE Y (bE s2 (Bu Z (bE f (Bu i2 (bE (a:=f6 _) rfl ((rW (λc=>if_pos rfl)).trans (Bu i3 (bE uV rfl)))))))))))))
 . refine pI (.int u) b (LY i) (Fw G F B Q z U (λq=>by subst q;rfl)) H hl λm f{R}{kN kC}{kR}=>?_;rw[e]at f;exact(b1 ..).trans (bE N (bE s1 (bE (oA _ _) (bE N (bE Y (bE s2 (Bu Z (bE f (Bu i2 (bE (a:=f6 _) rfl ((rW (λc=>if_neg (by decide))).trans (Bu i3 (bE uV rfl)))))))))))))
 . refine pI a (.int (du nu+2)) (uZ i) (Fz G F B z (j:=(du nu+2)) O) H hl λm f{R}{kN kC}{kR}=>?_;rw[e]at f;exact(b2 ..).trans (bE (I _) (bE (oA _ _) (bE f (Bz (j:=0) (by decide) λc=>im (call:=aF k) (make:=aV k) (sf c) (bR (Nat.le_trans O Rv))))))
 . refine pI a (.int (1+((du nu+1).natAbs:Int))) (uZ i) (FB G F B z (j:=(1+((du nu+1).natAbs:Int))) P W) H hl λm f{R}{kN kC}{kR}=>?_;rw[e]at f;exact(b3 ..).trans (bE (I _) (bE (oA _ _) (bE (vp _) (bE (oA _ _) (bE f (Bz (j:=1) (by decide) λc=>dl (call:=aF k) (make:=aV k) (bR (Nat.le_trans W Rv)) P))))))
 . refine pI a (.int (1+((du nu+1).natAbs:Int))) (uZ i) (FA G F B z (j:=(1+((du nu+1).natAbs:Int))) P W) H hl λm f{R}{kN kC}{kR}=>?_;rw[e]at f;exact(b4 ..).trans (bE (I _) (bE (oA _ _) (bE (vp _) (bE (oA _ _) (bE f (Bz (j:=2) (by decide) λc=>dt (call:=aF k) (make:=aV k) P))))))
 . refine pI a (.int (du nu+2)) (uZ i) (BO G F B z (j:=(du nu+2)) O) H hl λm f{R}{kN kC}{kR}=>?_;rw[e]at f;exact(b5 ..).trans (bE (I _) (bE (oA _ _) (bE f (Bz (j:=3) (by decide) λc=>oI (call:=aF k) (make:=aV k) _ _))))
 . refine pI a (.int (du nu+2)) (uZ i) (Fy G F B z (j:=(du nu+2)) O) H hl λm f{R}{kN kC}{kR}=>?_;rw[e]at f;exact(b6 ..).trans (bE (I _) (bE (oA _ _) (Ug f MD)))
 . by_cases q:nu%2=0
   . refine pI a (.int ((sm ms[h].1).val (V.ρ 2)+du (nu/2))) (uZ i) (IK G F B z ((sm ms[h].1).val (V.ρ 2)+du (nu/2))) H hl λm f{R}{kN kC}{kR}=>?_;rw[e]at f;exact(b7 ..).trans (bE rfl (bE (dl (by decide) (by decide)) (bE (I _) (bE (oA _ _) (bE (dt (by decide)) (bE (dZ _ _ (.inl rfl)) ((if_pos (by simpa using q)).trans (bE f (Iw false λc=>rfl)))))))))
   . refine pI a (.int ((sm ms[h].1).val (V.ρ 2)+du (nu/2))) (uZ i) (IL G F B z ((sm ms[h].1).val (V.ρ 2)+du (nu/2))) H hl λm f{R}{kN kC}{kR}=>?_;rw[e]at f;exact(b7 ..).trans (bE rfl (bE (dl (by decide) (by decide)) (bE (I _) (bE (oA _ _) (bE (dt (by decide)) (bE (dZ _ _ (.inl rfl)) ((if_neg (by simpa using q)).trans (bE f (Iw true λc=>rfl)))))))))
end
set_option tactic.hygienic true
section
variable{k L a b:Nat}{V:bt}{t s:TN}{ms:List TN}
noncomputable def FN(sc:Int->Int):bt where
 sp i:=(du (sc i)).natAbs
 lo i:=(du (sc (3+i))).natAbs
 fi i:=sc (6+i)%((du (sc i)).natAbs+1)
 se i:=sc (9+i)%((du (sc i)).natAbs+1)
 Du i:=⟨by lia,by have:=pA (sc i);lia⟩
 FX i:=⟨by lia,by have:=pA (sc (3+i));lia⟩
 Rh i:=⟨Int.emod_nonneg _ (by lia),by have:=Int.emod_lt_of_pos (sc (6+i)) (show(0:Int)<(du (sc i)).natAbs+1 by lia);lia⟩
 Qp i:=⟨Int.emod_nonneg _ (by lia),by have:=Int.emod_lt_of_pos (sc (9+i)) (show(0:Int)<(du (sc i)).natAbs+1 by lia);lia⟩
noncomputable def init(V:bt):List TN:=[(V.nd 0,V.u 0),(V.nd 1,V.u 1),(V.nd 2,V.u 2)]
theorem M8(V:bt){i:Nat}(hi:i<3):NI V i (V.nd i,V.u i):=by
 have H:=V.Du i;have hl:=V.FX i;have F:pT i=2/\qT i=2/\1<=aT i/\2^62<=vT i:=by apply FW hi<;>decide
 have hv:∀ρ,V.gv.In ρ->((sm (V.nd i)).val ρ).natAbs<=vT i:=λρ G=>by rw[V.tw i G];have:=G i;exact i5 (Int.le_trans hl.1 this.1) this.2 (Int.le_trans (Int.add_le_add hl.2 H.2) (Int.le_trans (by decide) (Int.ofNat_le.mpr F.2.2.2)))
 have:=V.IP hi;refine⟨this,?_,?_,?_,hv,λj f=>?_,λz B=>?_,?_⟩
 . show(sm (V.nd i)).ph<=qT i;unfold bt.nd;split
   . rw[aD];exact Nat.zero_le _
   . rw[(gM ..).ph,F.2.1];exact Nat.le_refl 2
 . show nP (V.nd i).1<=pT i;unfold bt.nd;split
   . exact Nat.zero_le _
   . rw[(gM ..).p,F.1];exact Nat.le_refl 2
 . show(sm (V.nd i)).am<=aT i;unfold bt.nd;split
   . rw[aD];exact Nat.zero_le _
   . rw[(gM ..).am];exact F.2.2.1
 . have f:(sm (V.nd i)).vs j=true:=f;show(j:Int)∈V.u i;unfold bt.nd at f;unfold bt.u;split at f
   . rw[aD]at f;injection f
   . rename_i q;rw[(gM ..).vs]at f;have:j=i:=by simpa[gr]using f
     rw[if_neg q,this];exact List.mem_singleton.mpr rfl
 . have B:z∈V.u i:=B;unfold bt.u at B;split at B
   . cases B
   . rename_i q;exact dA i hi (List.mem_singleton.mp B) q
 . show(V.u i).length<=2^i;have:=Nat.one_le_two_pow (n:=i);unfold bt.u;split
   . exact Nat.zero_le _
   . exact this
noncomputable def Rt(V:bt)(xs:List AV)(b:Nat)(σ:ah):Prop:=∃(ms:List TN)(y:Fx)(z:Nat->AV)(i:Nat),(∃DE,ms=init V++DE)/\ms.length=3+b/\(∀i(h:i<ms.length),NI V i ms[i])/\y.xs=xs/\(b≠0->i≠0)/\σ=ST (fx V ms y) z i
theorem H7(hL:ms.length=L)(B:3<=L)(F:L<=8)(G:600<=k)(hI:∀i(h:i<ms.length),NI V i ms[i]){y:Fx}{z:Nat->AV}{i:Nat}{v:Int}(H:aF k 685 [.list y.xs,.int (12+y.k)] []=some (.int v)):
 ∃(t:TN)(f:Nat->AV)(u:Nat),NI V L t/\ay (aF k) (aV k) 697 1 195 (ST (fx V ms y) z i)=some (.next (ST (fx V (ms++[t]) y) f (u+1))):=by
 refine CK (MQ (V:=V) (z:=z) (i:=i) hL B F H (λσ=>some (fX.next σ)) (λσ=>some (.cont σ)) (λx σ=>some (.ret x σ))) λnu kd h e=>?_;obtain⟨I,J,O,e⟩:=e;refine ga (Hi (nu:=nu) (y:=y) (a:=z 0) (b:=z 1) (c:=z 2) (d:=z 3) (i:=i-1) hL B F G hI I J O) λt f u N P=>?_;exact rU t f u N (e.trans P)
theorem Gy{A B C:Nat->AV}{w:Nat->Nat->AV}{xs:List AV}{n:Int}{body:ah->Option fX}(T:∀(ns rs us:List AV)(i:Nat),i<3->ns.length<=100->rs.length<=100->us.length<=100->∀r:ah,(∃o j,r=r0 o j)->body (xJ xs (.int n) ns rs us (("k",.fz (.int i))::r))=some (.next (xJ xs (.int n) (ns++[A i]) (rs++[B i]) (us++[C i]) (("k",.fz (.int i))::r0 (w i) 1)))):
 bU body ["k"] [[.int 0],[.int 1],[.int 2]] (xJ xs (.int n) [] [] [] [])=some (.next (xJ xs (.int n) [A 0,A 1,A 2] [B 0,B 1,B 2] [C 0,C 1,C 2] (("k",.fz (.int 2))::r0 (w 2) 1))):=by
 have f:∀(rows:List (List AV))(row:List AV)(σ u σ':ah),aX σ ["k"] row=u->body u=some (.next σ')->bU body ["k"] (row::rows) σ=bU body ["k"] rows σ':=λrows row σ u σ' e h=>(congrArg (Option.bind · _) ((congrArg body e).trans h)).trans rfl;rw[f _ _ (xJ xs (.int n) [] [] [] []) (xJ xs (.int n) [] [] [] [("k",.fz (.int (0:Nat)))]) _ rfl (T [] [] [] 0 (by lia) (by decide) (by decide) (by decide) [] ⟨w 0,0,rfl⟩)];rw[f _ _ _ (xJ xs (.int n) [A 0] [B 0] [C 0] (("k",.fz (.int (1:Nat)))::r0 (w 0) 1)) _ rfl (T [A 0] [B 0] [C 0] 1 (by lia) (by simp) (by simp) (by simp) _ ⟨w 0,1,rfl⟩)];rw[f _ _ _ (xJ xs (.int n) [A 0,A 1] [B 0,B 1] [C 0,C 1] (("k",.fz (.int (2:Nat)))::r0 (w 1) 1)) _ rfl (T [A 0,A 1] [B 0,B 1] [C 0,C 1] 2 (by lia) (by simp) (by simp) (by simp) _ ⟨w 1,1,rfl⟩)];rfl
theorem cnt(l:List Nat):∀b:Nat,l.foldl (λb _=>b+1) b=b+l.length:=by
 induction l with
 |nil=>intro b;rfl
 |cons a l ih=>intro b;rw[List.foldl_cons,ih,List.length_cons];lia
theorem Fe(O:600<=k){xs:List AV}{n:Nat}(hn:n<=6)(P:Int->Int)(Q:∀j:Int,0<=j->j<=100->aF k 685 [.list xs,.int j] []=some (.int (P j))){σ0:ah}(h0:Rt V xs 0 σ0):
 ∃σ,bU (ay (aF k) (aV k) 697 1 195) ["k"] ((List.range n).map λi:Nat=>[AV.int i]) σ0=some (.next σ)/\Rt V xs n σ:=by
 obtain⟨σ,e,R⟩:=fV (body:=ay (aF k) (aV k) 697 1 195) (nm:=["k"]) (x:=λi:Nat=>[AV.int i]) (f:=λb _=>b+1) (b0:=0) (R:=Rt V xs) (List.range n) (λu i ka e σ U=>by
  obtain⟨ms,y,z,j,⟨W,X⟩,B,F,G,Y,rfl⟩:=U;rw[cnt]at B Y⊢;have Z:=congrArg List.length e;rw[List.length_range,List.length_append,List.length_cons]at Z;have hi:i=u.length:=by have:=congrArg (λl=>l[u.length]?) e;simp at this;rw[List.getElem?_range (by lia)]at this;exact(Option.some.inj this).symm
  let H:Fx:=⟨y.xs,y.ns,y.rs,y.us,y.n,i,y.o0,y.o1,y.o2,y.o3⟩;refine ga (H7 (k:=k) (y:=H) (z:=z) (i:=j) B (by lia) (by lia) O F (G▸Q (12+i) (by lia) (by lia))) λt z' I N et=>?_;refine⟨_,et,ms++[t],H,z',I+1,⟨W++[t],by rw[X,List.append_assoc]⟩,by rw[List.length_append,B];rfl,λj J=>?_,G,λ_=>Nat.succ_ne_zero I,rfl⟩;rw[List.length_append]at J;by_cases q:j<ms.length
  . rw[List.getElem_append_left q];exact F j q
  . have:j=ms.length:=by simp at J;lia
    subst this;rw[List.getElem_append_right (by lia)];simp only[Nat.sub_self,List.getElem_cons_zero];rw[B];exact N) h0
 rw[cnt,List.length_range,Nat.zero_add]at R;exact ag σ e R
set_option maxHeartbeats 1000000 in
theorem K0(Y:609<=k){l:List Int}(hl:l.length<=18){m:Nat}(G:m<4):∃(V:bt)(ms:List TN),(∃H,ms=init V++H)/\ms.length=3+(m+3)/\(∀i(h:i<ms.length),NI V i ms[i])/\aF (k+1) 697 [iL l,.int (m+3:Nat)] []=some (.tup [.list (iD ms),.list (mD V ms),.list (kG ms)]):=by
 have F:∃f:Int->Int,∀j:Int,0<=j->j<=100->aF k 685 [iL l,.int j] []=some (.int (f j)):=by
  classical
  exact⟨λj=>if h:0<=j/\j<=100 then(Ei hl h.1 h.2).choose else 0,λj h0 h1=>by
   simp only[dif_pos (And.intro h0 h1)];exact(Ei hl h0 h1).choose_spec k (by lia)⟩
 refine ax F λf F=>?_;have I:=Gy (A:=λi=>nO ((FN f).nd i)) (B:=λi=>gt (FN f).ρ ((FN f).nd i)) (C:=λi=>iL ((FN f).u i)) (w:=wV (FN f)) (xs:=l.map .int) (n:=(m+3:Nat)) (body:=ay (aF k) (aV k) 697 0 196) (λns rs us i hi h1 h2 J r hr=>by
  obtain⟨o,j,rfl⟩:=hr;exact H8 (FN f) f hi (by lia) F rfl rfl rfl rfl h1 h2 J o j)
 generalize FN f=V at*
 let y:Fx:=⟨l.map .int,[],[],[],(m+3:Nat),2,.int (V.sp 2),.int (V.lo 2),.int (V.fi 2),.int (V.se 2)⟩;obtain⟨σ,N,ms,O,z,i,Q,U,W,Z,X,rfl⟩:=Fe (V:=V) (k:=k) (xs:=l.map .int) (by lia) (n:=m+3) (by lia) f F (σ0:=SS (fx V (init V) y) (gt V.ρ (V.nd 2)) []) ⟨init V,y,λ_=>gt V.ρ (V.nd 2),0,⟨[],by simp⟩,rfl,λi hi=>by
  exact FW (P:=λi=>∀h:i<(init V).length,NI V i (init V)[i]) hi (λ_=>M8 V (by decide)) (λ_=>M8 V (by decide)) (λ_=>M8 V (by decide)) hi,rfl,λh=>absurd rfl h,rfl⟩
 refine zR V ms Q U W (Ag (by lia) (by decide) ?_);rw[OY];refine bE I ?_;refine(Kd (aF k) (aV k) (fx V (init V) y) (gt V.ρ (V.nd 2)) m G).trans ?_;refine(bE N ?_)
 cases i with
 |zero=>exact absurd rfl (X (by lia))
 |succ i=>exact Ke _ _ (fx V ms O) z i
end
set_option tactic.hygienic false
section
variable{g:Gv}{n m:aY}{D:Nat}{x:AV}{s:Sem}{t:Str}{l:List (Str×AV)}{S:Nat->Bool}{sv:Nat->Int}
theorem IM(h:Ng g m)(hv:∀i,(sm m).vs i≠true):m.1=[]:=by
 induction e:m.1 using List.casesOn with
 |nil=>rfl
 |cons a b=>
  have f:a∈m.1:=by rw[e];exact List.mem_cons_self
  refine ax ((h.a a f).vr.2) λi hi=>?_;exact absurd (List.any_eq_true.mpr ⟨a,f,hi⟩) (hv i)
theorem uG(h:Ng g m)(hv:∀i,(sm m).vs i≠true)(ρ:Nat->Int):nO m=aO ((sm m).val ρ):=by rw[(by rw[<-IM h hv]:m=([],m.2)),aD,cm]
noncomputable def AI(g:Gv)(l:List (Str×AV))(S:Nat->Bool)(sv:Nat->Int)(D:Nat)(x:AV)(s:Sem):Prop:=∃c:Int,gb l D x (aO c)/\∀ρ,g.In ρ->c=s.val (upd S sv ρ)
theorem ur(u:g.Ok)(U:mt g l S sv)(h:Ng g n)(hr:n.2.natAbs<=2^872)(hl:n.1.length<=60)(z:∀t∈n.1,AI g l S sv D t.x t.s)(W:20<=D):AI g l S sv (D+2) (nO n) (sm n):=by
 have T:∀i∈aW n,∃c:Int,gb l (D+1) (iX i) (aO c)/\(∀ρ,g.In ρ->c=(sm (eY i)).val (upd S sv ρ))/\c.natAbs<=2^880:=λi hi=>by
  rcases fc hi with⟨t,ht,rfl⟩|⟨_,rfl⟩
  . refine ab (z t ht) λc E v=>?_;have J:=h.a t ht;have ev:∀ρ,(sm ([t],0)).val ρ=t.s.val ρ*t.k:=λρ=>by simp[nS,ao]
    have bn:=J.bn u (U.In u.cX);have sb:=J.sb u;have N:=eF sb (Int.le_trans sb.mn bn.1) bn.2;have a0:(sm ([t],0)).am<=2^800:=(h.term ht).p.am;have tx:=gP (n:=bC t.k*t.s.am) (by assumption);rw[<-v _ u.cX]at N;by_cases q:t.k=1
    . refine dA c (by rw[show iX (.inl t)=t.x from if_pos q];exact E.mono (by lia)) (λρ G=>?_) ?_
      . show c=(sm ([t],0)).val _;rw[ev,q,Int.mul_one];exact v ρ G
      . have P:c*t.k=c:=by rw[q,Int.mul_one]
        rw[P]at N;lia
    . have X:=(h.fv u).2.2.2 t ht;have Y:=h.p.nz t ht;have Q:c.natAbs<=2^880:=by
       have:c.natAbs*1<=c.natAbs*t.k.natAbs:=Nat.mul_le_mul_left _ (by(clear X q;lia));rw[Int.natAbs_mul]at N;lia
      refine dA (c*t.k) ?_ (λρ G=>?_) (by lia)
      . rw[show iX (.inl t)=bG 485 t.x t.k (dU t) (d9 t)from if_neg q];refine⟨485,_,475,rfl,by kernel_rfl,aw (d:=D) (by exact up W rfl) (by decide) λk I=>?_⟩;refine aP J.obj λC fl e hC=>?_;have E:=E.cZ (K:=λy=>(oP (aF k) (aV k) .Mult y (.int t.k)).bind some) I;have O:=FK u (i:= .inr c) (j:=t.k) (bR (by lia)) (bR (by lia)) k (by lia);have O:oP (aF k) (aV k) .Mult (aO c) (.int t.k)=some (aO (c*t.k)):=by
         rw[show iX (.inr c)=aO c from rfl]at O;rw[O];have:eV t.k (eY (.inr c))=([],c*t.k):=if_neg Y;rw[this,cm]
        rw[e]at E⊢;rw[Kp,E,O];rfl
      . show c*t.k=(sm ([t],0)).val _;rw[ev,v ρ G]
  . have hb:=h.p.vb;refine dA n.2 ⟨338,lE n.2,328,rfl,by kernel_rfl,aw (d:=D) (by lia) (by decide) λk _=>Cv ..⟩ (λρ _=>?_) hb;rw[aD]
 have B:∃F:It->Int,∀i∈aW n,gb l (D+1) (iX i) (aO (F i))/\(∀ρ,g.In ρ->F i=(sm (eY i)).val (upd S sv ρ))/\(F i).natAbs<=2^880:=by
  classical
  exact⟨λi=>if h:∃c:Int,gb l (D+1) (iX i) (aO c)/\(∀ρ,g.In ρ->c=(sm (eY i)).val (upd S sv ρ))/\c.natAbs<=2^880 then h.choose else 0,λi hi=>by
   have:=T i hi;simp only[dif_pos this];exact this.choose_spec⟩
 refine ax B λF B=>?_;rcases aL n with⟨q1,q2⟩|⟨t,rfl,q1,q2⟩|⟨t,rfl,q1,q2⟩|⟨q0,q1,q2⟩
 . have e:n=([],n.2):=by rw[<-q1]
   refine ag n.2 ⟨338,lE n.2,328,q2,by kernel_rfl,aw (d:=D+1) (by lia) (by decide) λk _=>?_⟩ λρ _=>?_
   . rw[q2];exact Cv ..
   . rw[e,aD]
 . refine dh (B (.inl t) (by simp[aW])) λE v _=>?_;exact ag (F (.inl t)) (E.mono (by lia)) v
 . refine dh (B (.inl t) (by simp[aW])) λE v _=>?_;exact ag (F (.inl t)) (E.mono (by lia)) v
 . have UR:=fU n;have Z:∀L:List It,(L.map λi=>(([],F i):aY)).flatMap (·.1)=[]/\ao ((L.map λi=>(([],F i):aY)).map (·.2))=ao (L.map F)/\aq (L.map λi=>(sm ([],F i)).am)=0/\(L.flatMap λi=>(([],F i):aY).1)=[]:=λL=>by
    induction L with
    |nil=>exact⟨rfl,rfl,rfl,rfl⟩
    |cons a L z=>
     refine⟨?_,?_,?_,?_⟩
     . rw[List.map_cons,List.flatMap_cons,z.1];rfl
     . rw[List.map_cons,List.map_cons,ak,z.2.1,List.map_cons,ak]
     . rw[List.map_cons,au,z.2.2.1,aD]
     . rw[List.flatMap_cons,z.2.2.2];rfl
   have H:=eA u (aW n) (λi=>(([],F i):aY)) (λi _=>yj (F i)) (p:=0) (λ_ _=>Nat.zero_le _) (by decide) (by rw[(Z _).2.2.2];simp;lia) (by rw[(Z _).2.2.1];exact Nat.zero_le _);have eS:cu ((aW n).map λi=>(([],F i):aY))=([],ao ((aW n).map F)):=by unfold cu;rw[(Z _).1,(Z _).2.1];rfl
   rw[eS,cm]at H;refine ag (ao ((aW n).map F)) ⟨656,_,642,q2,by kernel_rfl,?_⟩ λρ G=>?_
   . rw[q2];refine aw (d:=D+1) (by lia) (by decide) λk I=>?_;obtain⟨σ',e⟩:=c7 (step:=aU (aF k) (aV k) 642 0 38) (σ0:=[("var_vals",.fz (.dict l))]) (sh:=λy=>[("var_vals",.fz (.dict l)),("node",.fz y)]) (x:=iX) (f:=λi=>aO (F i)) (aW n) (λi hi σ bJ acc Q=>by
      refine aP (jd h.a (r:=n.2) (x:=iX i) (by rw[<-jc];exact List.mem_map.mpr ⟨i,hi,rfl⟩)) λC fl P hC=>?_;have E:=(B i hi).1;rw[P]at E⊢;rcases bJ with rfl|⟨y,rfl⟩
      . rw[pH _ _ _ C fl acc [] (.inl rfl),if_pos Q,E.cZ I]
      . rw[pH _ _ _ C fl acc _ (.inr ⟨y,rfl⟩),if_pos Q,E.cZ I]) (by lia)
     rw[Kh,e];have H:=H k (by lia);rw[(List.map_congr_left λi _=>cm _)]at H;show(aF k 211 [.list ((aW n).map λi=>aO (F i))] []).bind some=_;rw[H];rfl
   . rw[<-kT];exact congrArg ao (List.map_congr_left λi hi=>(B i hi).2.1 ρ G)
theorem Bj(u:g.Ok)(I:mt g l S sv)(h:At g x s t):(∀i,s.vs i=true->S i=true)->s.ph<=120->AI g l S sv (4*s.ph+30) x s:=by
 have J:∀{ts:List Tm}{r:Int}{q:Nat},ts≠[]->Nd g ts r->nP ts+1<=q->q<=120->(∀t∈ts,(∀i,t.s.vs i=true->S i=true)->t.s.ph<=120->AI g l S sv (4*t.s.ph+30) t.x t.s)->(∀i,(nS ts r).vs i=true->S i=true)->r.natAbs<=2^870->∃c:Int,gb l (4*q+28) (nO (ts,r)) (aO c)/\(∀ρ,g.In ρ->c=(nS ts r).val (upd S sv ρ))/\c.natAbs<=2^872:=λ{ts r q} hn hd F Z G hv hr=>by
  have N:Ng g (ts,r):=hd;refine ab (ur (n:=(ts,r)) (D:=4*q+26) u I N (Nat.le_trans hr (Nat.pow_le_pow_right (by lia) (by decide))) (N.w.len u (by show nP ts<=120;lia)) (λt ht=>by
   have tp:t.s.ph<=nP ts:=aR (f:=λt:Tm=>t.s.ph) ht;refine ab (G t ht (λi hi=>hv i (List.any_eq_true.mpr ⟨t,ht,hi⟩)) (by lia)) λc E v=>?_;exact ag c (E.mono (by lia)) v) (by lia)) λc E v=>?_
  refine dA c E v ?_;have a1:=fS u hd.a hd.p.am (I.In u.cX);rw[<-show c=(nS ts r).val (upd S sv g.lo)from v _ u.cX]at a1;exact pW a1 hr (by decide)
 induction h with
 |var i hi hl=>
  intro hv _;have A:At g _ _ _:= .var i hi hl;have q:S i=true:=hv i (by show(i==i)=true;simp);refine ag (sv i) ⟨284,_,274,rfl,by kernel_rfl,aw (d:=37) (by decide) (by decide) λk B=>?_⟩ λρ _=>?_
  . have e:=I.dict i hi hl;rw[if_pos q]at e;have:=(A.key u (p:=2) (Nat.le_refl _) (by assumption)) k (by exact up B rfl);unfold dm at this⊢;rw[Kt,this];show some ((fe l (aN g i)).getD _)=_;rw[e];rfl
  . show sv i=upd S sv ρ i;unfold upd;rw[if_pos q]
 |div ts r c hn F ha hc jS iT ie sE G=>intro hv h1;have P:(cL ts r c).ph=(nS ts r).ph+md ts:=rfl;have h2:=i0 (r:=r) hn λt ht=>((ha t ht).sb u).ph;refine bV (J (q:=(cL ts r c).ph) hn ⟨F,ha⟩ (by assumption) h1 G hv jS.2) λz E v U=>?_;have Ra:c.natAbs<=2^800:=Nat.le_trans (Nat.le_mul_of_pos_right _ (cz (r:=r) hn F.nz λt ht=>(ha t ht).sb u)) jS.1;refine ag (z/c) ⟨526,_,516,rfl,by kernel_rfl,aw (d:=4*(cL ts r c).ph+29) (by lia) (by decide) λk B=>?_⟩ (λρ H=>by rw[v ρ H];rfl);refine aP (bx (r:=r) ha) λC fl e W=>?_;have E:=E.cZ (K:=λy=>(oP (aF k) (aV k) .FloorDiv y (.int c)).bind some) (k:=k) (by exact Nat.le_of_lt B);rw[show nO (ts,r)= .obj C fl from e]at E;rw[e,Ko,E,kM u (by lia) (by exact Int.le_of_lt hc) (by lia) k (by exact up B rfl)];rfl
 |mod ts r c hn F ha hc nv iT G=>intro hv h1;have P:(eW ts r c).ph=(nS ts r).ph+mm ts r:=rfl;have h2:=i0 (r:=r) hn λt ht=>((ha t ht).sb u).ph;have X:=ki ts r;refine bV (J (q:=(eW ts r c).ph) hn ⟨F,ha⟩ (by lia) h1 G hv nv.2) λz E v U=>?_;have nz:=cV (g:=g) (c:=z) (by lia);obtain⟨Y,O,Q⟩:=oN u 0 ([],z) nz (by rw[aD];exact Nat.le_refl _) (by decide) c (by exact Int.le_of_lt hc) nv.1;have q2:=uG Q.nd (λi hi=>by have:=Q.vs i hi;rw[aD]at this;injection this) g.lo;rw[Q.val _ u.cX,aD]at q2;refine ag (z%c) ⟨574,_,564,rfl,by kernel_rfl,aw (d:=4*(eW ts r c).ph+29) (by lia) (by decide) λk B=>?_⟩ (λρ H=>by rw[v ρ H];rfl);refine aP (bx (r:=r) ha) λC fl e W=>?_;have E:=E.cZ (K:=λy=>(oP (aF k) (aV k) .Mod y (.int c)).bind some) (k:=k) (by exact Nat.le_of_lt B);have O:=O k (by exact up B rfl);rw[cm,q2]at O;rw[show nO (ts,r)= .obj C fl from e]at E;rw[e,Kk,E,O];rfl
 |lt ts c hn F ha h1 h2 G=>
  intro hv X;have P:(oD ts c).ph=nP ts+2:=rfl;refine bV (J (r:=0) (q:=(oD ts c).ph) hn ⟨F,ha⟩ (by lia) X G hv (Nat.zero_le _)) λz E v U=>?_;have nz:=cV (g:=g) (c:=z) (by lia);obtain⟨Y,O,Q⟩:=vh u nz c (p:=0) (Nat.zero_le _) (by lia);have q2:=uG Q.nd (λi hi=>by have:=Q.vs i hi;rw[aD]at this;injection this) g.lo;rw[Q.val _ u.cX]at q2;refine ag (IV ([],z) c g.lo) ⟨430,_,420,rfl,by kernel_rfl,aw (d:=4*(oD ts c).ph+29) (by lia) (by decide) λk B=>?_⟩ λρ H=>?_
  . refine aP (bx (r:=0) ha) λC fl e W=>?_;have E:=E.cZ (K:=λy=>(aF k 359 [y,.int c] []).bind some) (k:=k) (by exact Nat.le_of_lt B);have O:=O k (by exact up B rfl);rw[cm,q2]at O;rw[show nO (ts,0)= .obj C fl from e]at E;rw[e,Kr,E,O];rfl
  . show(if(sm ([],z)).val g.lo<c then(1:Int)else 0)=if(nS ts 0).val (upd S sv ρ)<c then 1 else 0
    rw[aD,<-v ρ H]
theorem xx(u:g.Ok)(z:mt g l S sv)(h:Ng g n)(hr:n.2.natAbs<=2^872)(B:nP n.1<=120)(hv:∀i,(sm n).vs i=true->S i=true):AI g l S sv 520 (nO n) (sm n):=
 ur (D:=518) u z h hr (h.w.len u B) (λt ht=>by
  have F:t.s.ph<=nP n.1:=aR (f:=λt:Tm=>t.s.ph) ht;refine ab (Bj u z (h.a t ht) (λi hi=>hv i (List.any_eq_true.mpr ⟨t,ht,hi⟩)) (by lia)) λc E v=>?_;exact ag c (E.mono (by lia)) v) (by decide)
end
section
variable{call:aI}{make:aH}{k L:Nat}{V:bt}{ms:List TN}
theorem ji{body:ah->Option fX}{nm:List Str}{R:ah->Prop}:∀{rows:List (List AV)},(∀row∈rows,∀σ,R σ->∃σ',(body (aX σ nm row)=some (.next σ')\/body (aX σ nm row)=some (.cont σ'))/\R σ')->∀{σ},R σ->∃σ',bU body nm rows σ=some (.next σ')/\R σ'
 |[],_,σ,h=>⟨σ,rfl,h⟩
 |row::rows,H,σ,h=>by refine ab (H row List.mem_cons_self σ h) λu e h1=>?_;refine ab (ji (rows:=rows) (λr hr=>H r (List.mem_cons_of_mem _ hr)) h1) λf i h2=>?_;refine ag f ?_ h2;refine Or.elim e (λe=>?_) λe=>?_<;>(simp only[bU,e];exact i)
structure Tr(V:bt)(ms:List TN):Prop where
 Sz:∃DE,ms=init V++DE
 l6:6<=ms.length
 l9:ms.length<=9
 ni:∀i(h:i<ms.length),NI V i ms[i]
theorem Tr.PR(T:Tr V ms){j:Nat}(f:j<3):∃h:j<ms.length,ms[j]=(V.nd j,V.u j):=by
 have:=T.l6;refine⟨by lia,?_⟩;refine ax T.Sz λi e=>?_;subst e;rw[List.getElem_append_left (by show j<3;exact f)]
 match j,f with
 |0,_=>rfl
 |1,_=>rfl
 |2,_=>rfl
theorem Tr.ns(T:Tr V ms){j:Nat}(i:j<3):bc (iD ms) (j:Int)=some (nO (V.nd j)):=by obtain⟨h,e⟩:=T.PR i;have:=T.l9;rw[idx_map (f:=λt:TN=>nO t.1) h (by lia),e]
theorem Tr.us(T:Tr V ms){j:Nat}(h:j<ms.length):bc (kG ms) (j:Int)=some (iL ms[j].2):=by have:=T.l9;exact idx_map (f:=λt:TN=>iL t.2) h (by lia)
theorem uz(f:Nat->Int){c:Nat}(i:c<4):bc (f6 f) (c:Int)=some (.int (f c)):=by apply Nt i<;>rfl
theorem ut{rs l:List AV}{k m:Int}{x:AV}(h1:bc rs k=some (.list l))(h2:bc l m=some x):Mine.Internal.mK rs k m=some x:=by unfold Mine.Internal.mK gq;rw[h1];show(bc l m).bind some=_;rw[h2];rfl
theorem Tr.mK(T:Tr V ms){j c:Nat}(h:j<ms.length)(i:c<4):Mine.Internal.mK (mD V ms) (j:Int) (c:Int)=some (.int ((sm ms[j].1).val (V.ρ c))):=by have:=T.l9;exact ut (idx_map (f:=λt:TN=>gt V.ρ t.1) h (by lia)) (uz _ i)
theorem Tr.last(T:Tr V ms):∃h:ms.length-1<ms.length,bc (iD ms) (-1)=some (nO ms[ms.length-1].1)/\∀c:Nat,c<4->Mine.Internal.mK (mD V ms) (-1) (c:Int)=some (.int ((sm ms[ms.length-1].1).val (V.ρ c))):=by
 have i:=T.l6;have B:=T.l9;have h:ms.length-1<ms.length:=Nat.sub_lt (Nat.lt_of_lt_of_le (by decide) i) (by decide);have neg:∀f:TN->AV,bc (ms.map f) (-1)=some (f ms[ms.length-1]):=λf=>by
  unfold bc;rw[if_neg (by decide),if_neg (by decide),if_pos (by rw[List.length_map];lia)];have e:(-1+((ms.map f).length:Int)).toNat=ms.length-1:=by rw[List.length_map];obtain⟨m,u⟩:=dW (Nat.le_trans (by decide) i);rw[u,Int.natCast_add,Int.add_comm,Int.add_assoc];exact congrArg Int.toNat (Int.add_zero (m:Int))
  rw[e,List.getElem?_map,List.getElem?_eq_getElem h];rfl
 refine ag h (neg _) λc z=>?_;exact ut (neg λt:TN=>gt V.ρ t.1) (uz _ z)
theorem iI{j:Nat}(f:j<3)(i:V.sp j≠0):nO (V.nd j)=dm V.gv j/\At V.gv (dm V.gv j) (gr V.gv j) (aN V.gv j)/\V.gv.lo j<V.gv.hi j:=by
 have h0:=V.Du j;have hl:V.gv.lo j<V.gv.hi j:=by show V.lo j<V.lo j+V.sp j;lia
 unfold bt.nd;rw[if_neg i];exact⟨rfl,.var j f hl,hl⟩
theorem gV(f:100<=k){j:Nat}(u:j<3)(z:V.sp j≠0):gA (aF k) (aV k) (dm V.gv j) "key"=some (.str (aN V.gv j))/\∀{R:Type}{ns:List AV}{i:Int}{K:AV->Option R},bc ns i=some (dm V.gv j)->yL (aF k) (aV k) ns i K=K (.str (aN V.gv j)):=by have K:=((iI u z).2.1).key V.ok (p:=2) (Nat.le_refl _) (by decide) k (by exact up f rfl);refine⟨K,λh=>?_⟩;unfold yL;refine bE h ?_;exact bE K rfl
theorem lQ(j:Int)(u:List Int):cM call make .In (.int j) (iL u)=some (decide (j∈u))/\cM call make .NotIn (.int j) (iL u)=some (!decide (j∈u)):=by
 have e:u.any (· ==j)=decide (j∈u):=by
  by_cases q:j∈u
  . rw[decide_eq_true q];exact List.any_eq_true.mpr ⟨j,q,by simp⟩
  . rw[decide_eq_false q];exact List.any_eq_false.mpr λx hx=>by simp;intro z;exact q (z▸hx)
 constructor
 . show((gD (u.map AV.int)).map λns=>ns.any (· ==j))=_;rw[jP,Option.map_some,e]
 . show((gD (u.map AV.int)).map λns=>ns.any (· ==j)).map _=_;rewrite[jP,Option.map_some,e];rfl
theorem AF{is:List Nat}(h:∀i∈is,i<3){f:Nat->AV}{j:Nat}(u:j<3):fe (is.map λi=>(aN V.gv i,f i)) (aN V.gv j)=if j∈is then some (f j)else none:=by
 induction is with
 |nil=>rfl
 |cons a l ih=>
  show List.lookup (aN V.gv j) ((aN V.gv a,f a)::_)=_;rw[List.lookup_cons];by_cases q:j=a
  . subst q;simp
  . have:(aN V.gv j==aN V.gv a)=false:=by
     rw[beq_eq_false_iff_ne];exact λz=>q (gn u (h a List.mem_cons_self) z)
    rw[this];have:=ih λi hi=>h i (List.mem_cons_of_mem _ hi);show fe (l.map λi=>(aN V.gv i,f i)) (aN V.gv j)=_;rw[this];simp[q]
theorem GR{m:aY}(h:Ng V.gv m){j:Nat}(f:(sm m).val (V.ρ (1+j))≠(sm m).val (V.ρ 0)):(sm m).vs j=true:=by
 refine Classical.byContradiction λq=>f ?_;refine oV (λt ht=>(h.a t ht).dep) _ _ λi hi=>?_;have u:i≠j:=λe=>by subst e;exact q hi
 unfold bt.ρ;rw[if_neg (by(clear f;lia)),if_neg (by lia)]
theorem NI.real{t:TN}{i:Nat}(h:NI V i t){j:Nat}(f:(sm t.1).vs j=true):j<3/\V.sp j≠0:=by
 refine bV (h.us _ (h.vs j f)) λz h1 h2 u=>?_;have:j=z:=by lia
 rw[this];exact⟨h1,u⟩
theorem BV(z:100<=k){j:Nat}(i:j<3)(u:V.sp j≠0):cM (aF k) (aV k) .NotEq (dm V.gv j) (dm V.gv j)=some false:=by
 have e:aF k 93 [dm V.gv j,dm V.gv j] []=some (.bool true):=by obtain⟨k',rfl⟩:=dW (n:=k) (by lia);have K:=(iI i u).2.1.key V.ok (p:=2) (Nat.le_refl _) (by decide) k' (by lia);refine Ag (by lia) (by decide) ?_;refine(TQ (aF k') (aV k') 284 284 (xf (BP j) (V.gv.lo j) (V.gv.hi j)) (xf (BP j) (V.gv.lo j) (V.gv.hi j))).trans ?_;rw[show ba.isin (.ref 284) (.ref 227)=some true by kernel_rfl,Option.bind_some,if_neg (by decide),K,Option.bind_some,Option.bind_some];show some (AV.bool (aN V.gv j==aN V.gv j))=_;simp
 show(match ba.eq 284 (.ref 284)with|some f=>((aF k f [dm V.gv j,dm V.gv j] []).bind Er).map (!·)|none=>none)=_;rw[show ba.eq 284 (.ref 284)=some 93 by kernel_rfl];dsimp only;rw[e];rfl
end
section
variable{call:aI}{make:aH}{k L:Nat}{V:bt}{ms:List TN}
noncomputable abbrev SM(V:bt)(ms:List TN)(xs:List AV)(kk:Int)(r:ah):ah:=SK xs (iD ms) (mD V ms) (kG ms) kk r
theorem J8{body:ah->Option fX}{nm:Str}{σ0 f i u:ah}(h0:body (aX σ0 [nm] [.int 0])=some (.next f))(h1:body (aX f [nm] [.int 1])=some (.next i))(h2:body (aX i [nm] [.int 2])=some (.next u)):bU body [nm] r3 σ0=some (.next u):=bE h0 (bE h1 (bE h2 rfl))
theorem K5(T:Tr V ms)(hk:640<=k){xs:List AV}{kk:Nat}(H:kk<ms.length){d0:AV}{e0:EV}{j0 nm0:AV}{i:Nat}:∃(d:AV)(e:EV)(j nm:AV)(U:Nat),ay (aF k) (aV k) 702 0 198 (SM V ms xs kk (sA d0 e0 j0 nm0 i))=some (.next (SM V ms xs kk (sA d e j nm (U+1)))):=by
 have N:=T.ni kk H;have h9:=T.l9;have i3:=T.us H;have hp:nP ms[kk].1.1<=120:=Nat.le_trans N.p (by
  have:pT kk<=63:=by
   have:∀i<9,pT i<=63:=by decide
   exact this kk (by lia)
  lia)
 obtain⟨C,fl,f,is,e1,e2,O,e4,e5,e6⟩:=oi V.ok N.nd hp;have O:=O k (by exact up hk rfl);let B:List Str:=(List.range 3).flatMap λj:Nat=>if(j:Int)∈ms[kk].2 then[aN V.gv j]else[]
 have W:∃σ',aE (aU (aF k) (aV k) 702 0 40) [[.int 0],[.int 1],[.int 2]] [("k",.fz (.int kk)),("nodes",.fz (.list (iD ms))),("used",.fz (.list (kG ms)))] (.l [])=some (σ',.l (B.map .str)):=by
  obtain⟨σ',_,e⟩:=eP (step:=aU (aF k) (aV k) 702 0 40) (I:=λσ=>∃r:ah,(r=[]\/∃y0,r=[(("j":Str),EV.fz y0)])/\σ=(("k":Str),EV.fz (.int kk))::("nodes",.fz (.list (iD ms)))::("used",.fz (.list (kG ms)))::r) (x:=λj:Nat=>[AV.int j]) (f:=λj:Nat=>(if(j:Int)∈ms[kk].2 then[AV.str (aN V.gv j)]else[])) (List.range 3) [] [("k",.fz (.int kk)),("nodes",.fz (.list (iD ms))),("used",.fz (.list (kG ms)))] ⟨[],.inl rfl,rfl⟩ (λj u σ P acc Q=>by
   have u:=List.mem_range.mp u;refine ab P λr hr J=>?_;clear P;rw[J];refine ag ((("k":Str),EV.fz (.int kk))::("nodes",.fz (.list (iD ms)))::("used",.fz (.list (kG ms)))::[(("j":Str),EV.fz (.int j))]:ah) ⟨_,.inr ⟨_,rfl⟩,rfl⟩ ((Hb _ _ (iD ms) (kG ms) kk j acc r hr).trans ?_);refine bE i3 ?_;refine bE ((lQ _ _).1) ?_;by_cases q:(j:Int)∈ms[kk].2
   . refine bV (N.us _ q) λz h1 h2 h3=>?_;have:j=z:=by lia
     subst this;rw[if_pos q]at Q⊢;simp only[List.length_cons,List.length_nil]at Q;rw[if_pos (decide_eq_true q),if_pos (by exact Nat.le_of_lt Q),T.ns u,Option.bind_some,(iI u h3).1,(gV (by exact up hk rfl) u h3).1];rfl
   . rw[if_neg q]at Q⊢;rw[if_neg (by simpa using q)];simp) (by
   have:∀l:List Nat,(l.flatMap λj:Nat=>(if(j:Int)∈ms[kk].2 then[AV.str (aN V.gv j)]else[])).length<=l.length:=λl=>by
    induction l with
    |nil=>exact Nat.le_refl _
    |cons a l ih=>rw[List.flatMap_cons,List.length_append,List.length_cons];split<;>simp only[List.length_cons,List.length_nil]<;>lia
   have:=this (List.range 3);rw[List.length_range]at this;rw[List.length_nil];lia)
  refine⟨σ',?_⟩;rw[show([[.int 0],[.int 1],[.int 2]]:List (List AV))=(List.range 3).map λj:Nat=>[AV.int j]from rfl,e];have:(B.map AV.str)=(List.range 3).flatMap λj:Nat=>(if(j:Int)∈ms[kk].2 then[AV.str (aN V.gv j)]else[]):=by rw[List.map_flatMap];refine congrArg (λf=>List.flatMap f (List.range 3)) (funext λj=>?_);split<;>rfl
  rw[this];rfl
 refine ax W λgh W=>?_;have Ox:∀j∈is,B.any (· ==aN V.gv j)=true:=λj u=>by refine List.any_eq_true.mpr ⟨aN V.gv j,List.mem_flatMap.mpr ⟨j,List.mem_range.mpr (e6 j u),?_⟩,by simp⟩;rw[if_pos (N.vs j ((e5 j).mp u))];exact List.mem_singleton.mpr rfl
 have QZ:∀j∈is,cM (aF k) (aV k) .NotIn (.str (aN V.gv j)) (.list (B.map .str))=some false:=λj u=>by show((fu (B.map AV.str)).map λns=>ns.any (· ==aN V.gv j)).map _=_;rewrite[jC,Option.map_some,Ox j u];rfl
 let S:EV->AV->Nat->ah:=λe nm i=>SM V ms xs kk (sN (.dict (VD V.gv is)) e j0 nm i);let I:ah->Prop:=λσ=>∃(e:EV)(nm:AV)(i:Nat),(e= .ol (B.map .str)\/e= .fz (.list (B.map .str)))/\σ=S e nm i;refine ab (ji (body:=ay (aF k) (aV k) 702 1 195) (nm:=["name"]) (rows:=(VD V.gv is).map λy=>[.str y.1]) (σ:=S (.ol (B.map .str)) nm0 (dI i)) (R:=I) (λrow tK σ P=>?_) ⟨_,_,_,.inl rfl,rfl⟩) λxa en Oc=>?_
 . refine ab (List.mem_map.mp tK) λy hy J=>?_;rw[<-J];refine ab (List.mem_map.mp hy) λj u J=>?_;rw[<-J];refine ga P λe nm i he X=>?_;rw[X];refine ag (S (.fz (.list (B.map .str))) (.str (aN V.gv j)) (nI i)) (.inl ?_) ⟨.fz (.list (B.map .str)),.str (aN V.gv j),nI i,.inr rfl,rfl⟩;rcases he with rfl|rfl
   . exact(NF _ _ xs (iD ms) (mD V ms) (kG ms) kk j0 nm (VD V.gv is) (B.map .str) (aN V.gv j) i).trans (bE (QZ j u) rfl)
   . exact(NG _ _ xs (iD ms) (mD V ms) (kG ms) kk j0 nm (VD V.gv is) (B.map .str) (aN V.gv j) i).trans (bE (QZ j u) rfl)
 have one:∀(e:EV)(jv nm:AV)(i j:Nat),j<3->ay (aF k) (aV k) 702 2 194 (aX (SM V ms xs kk (sN (.dict (VD V.gv is)) e jv nm i)) ["j"] [.int j])=some (.next (SM V ms xs kk (sN (.dict (VD V.gv is)) e (.int j) nm (jI i+2)))):=λe jv nm i j u=>by
  have s1:=T.mK (c:=1+j) H (by lia);have s0:=T.mK (c:=0) H (by decide);have Y:∀{j:Nat},j<3->fe (VD V.gv is) (aN V.gv j)=if j∈is then some (dm V.gv j)else none:=λu=>AF e6 u
  refine Eq.trans (b:=xL (aF k) (aV k) 193 (SM V ms xs kk (sN (.dict (VD V.gv is)) e (.int j) nm (jI i+2))) ((gx 702 2).drop 1) (λσ=>some (fX.next σ)) (λσ=>some (.cont σ)) (λx σ=>some (.ret x σ))) ?_ ?_
  . refine(NE ..).trans ?_;rw[gp s1,gp s0,dZ _ _ (.inr (.inr (.inr (.inr rfl))))];show(if((sm ms[kk].1).val (V.ρ (1+j))!=(sm ms[kk].1).val (V.ρ 0))=true then _ else _)=_;by_cases q:(sm ms[kk].1).val (V.ρ (1+j))=(sm ms[kk].1).val (V.ρ 0)
    . rw[if_neg (by simpa using q)]
    . rw[if_pos (by simpa using q)];have hv:=GR N.nd q;have F:=(N.real hv).2;refine Eq.trans ((gV (by lia) u F).2 ((T.ns u).trans (congrArg some (iI u F).1))) ?_;show(if(!(fe (VD V.gv is) (aN V.gv j)).isSome)=true then _ else _)=_;rw[Y u,if_pos ((e5 j).mpr hv)];rfl
  . refine(ND ..).trans ?_;refine bE i3 ?_;refine bE ((lQ _ _).1) ?_;by_cases q:(j:Int)∈ms[kk].2
    . rw[if_pos (decide_eq_true q)];refine bV (N.us _ q) λz h1 h2 F=>?_;have:j=z:=by lia
      subst this;have Z:bc (iD ms) j=some (dm V.gv j):=(T.ns u).trans (congrArg some (iI u F).1);refine Eq.trans ((gV (by lia) u F).2 Z) ?_;by_cases q2:j∈is
      . have G:=Y u;rw[if_pos q2]at G;show(if(fe (VD V.gv is) (aN V.gv j)).isSome=true then _ else _)=_;rw[if_pos (by rw[G];rfl)];refine Eq.trans ((gV (by lia) u F).2 Z) ?_;show((fe (VD V.gv is) (aN V.gv j)).bind _)=_;rw[G,Option.bind_some,Z,Option.bind_some,BV (by lia) u F,Option.bind_some,if_neg (by decide)]
      . have G:=Y u;rw[if_neg q2]at G;show(if(fe (VD V.gv is) (aN V.gv j)).isSome=true then _ else _)=_;rw[G];rfl
    . rw[if_neg (by simpa using q)]
 rw[e1]at O;refine ga Oc λe nm U he X=>?_;subst X;refine⟨.dict (VD V.gv is),e,.int 2,nm,jI (jI (jI U+2)+2),?_⟩;refine(Sv ..).trans (bE (idx_map (f:=λt:TN=>nO t.1) H (by lia)) ?_);rw[e1,bl e2];refine bE O (bE W (bE rfl ?_));refine(NU ..).trans (bE en ?_);exact(NR ..).trans (bE (J8 (one _ _ _ _ 0 (by decide)) (one _ _ _ _ 1 (by decide)) (one _ _ _ _ 2 (by decide))) rfl)
end
section
variable{call:aI}{make:aH}{k L:Nat}{V:bt}{ms:List TN}
theorem Jp{g:Gv}(O:g.Ok){n:aY}(h:Ng g n)(hr:n.2.natAbs<=2^872)(P:nP n.1<=120){is:List Nat}{v:Nat->Int}(I:∀i∈is,i<3)(hv:∀i∈is,g.lo i<=v i/\v i<=g.hi i)(Q:∀i,(sm n).vs i=true->i∈is):∃c:Int,Ev 530 671 [nO n,.dict (is.map λi=>(aN g i,.int (v i)))] [] (.int c)/\∀ρ,g.In ρ->c=(sm n).val (upd (λi=>decide (i∈is)) v ρ):=by
 have G:∀j,j∈is.foldl dR []<->j∈is:=λj=>by rw[gZ];simp
 have U:mt g ((is.foldl dR []).map λi=>(aN g i,aO (v i))) (λi=>decide (i∈is)) v:=⟨λi hi hl=>by
  have e:∀{is:List Nat},(∀i∈is,i<3)->fe (is.map λi=>(aN g i,aO (v i))) (aN g i)=if i∈is then some (aO (v i))else none:=λ{is} h=>by
   induction is with
   |nil=>rfl
   |cons a l ih=>
    show List.lookup (aN g i) ((aN g a,aO (v a))::_)=_;rw[List.lookup_cons];by_cases q:i=a
    . rw[q];simp
    . have:(aN g i==aN g a)=false:=by
       rw[beq_eq_false_iff_ne];exact λz=>q (gn hi (h a List.mem_cons_self) z)
      rw[this];have:=ih λi hi=>h i (List.mem_cons_of_mem _ hi);show fe (l.map λi=>(aN g i,aO (v i))) (aN g i)=_;rw[this];simp[q]
  rw[e (λj W=>I j ((G j).mp W))];by_cases q:i∈is
  . rw[if_pos ((G i).mpr q),if_pos (decide_eq_true q)]
  . rw[if_neg λz=>q ((G i).mp z),if_neg (by simpa using q)],λi hi=>hv i (of_decide_eq_true hi)⟩
 refine ab (xx O U h hr P (λi hi=>decide_eq_true (Q i hi))) λc X val=>?_;obtain⟨C,fl,f,J,Y,B⟩:=X;refine ag c (aw (d:=529) (by decide) (by decide) λk N=>?_) val;have u:∀(l:List Nat)(acc:List Nat)(σ:ah),(∀i∈l,i<3)->(∀i∈acc,i<3)->acc.Nodup->(σ=[]\/∃Z y1,σ=[(("k":Str),EV.fz Z),(("v":Str),EV.fz y1)])->∃σ',aE (aU (aF k) (aV k) 671 0 37) (l.map λi=>[.str (aN g i),.int (v i)]) σ (.d (acc.map λi=>(aN g i,aO (v i))))=some (σ',.d ((l.foldl dR acc).map λi=>(aN g i,aO (v i)))):=λl=>by
  induction l with
  |nil=>intro acc σ _ _ _ _;exact⟨σ,rfl⟩
  |cons a l ih=>
   intro acc σ hl H hn bJ;have OF:acc.length<=1000:=by have:=yF hn H;lia
   have st:=Hd (aF k) (aV k) (aN g a) (.int (v a)) (acc.map λi=>(aN g i,aO (v i))) σ bJ;rw[if_pos (by rw[List.length_map];exact OF),e9 _ k (by exact up N rfl),Option.bind_some]at st;rw[(mq (f:=λi=>aO (v i)) H (hl a List.mem_cons_self))]at st;refine ax (ih (dR acc a) _ (λi hi=>hl i (List.mem_cons_of_mem _ hi)) (λi hi=>(gN.mp hi).elim (H i) λz=>z▸hl a List.mem_cons_self) (k6 hn) (.inr ⟨.str (aN g a),.int (v a),rfl⟩)) λσ' e=>?_;refine⟨σ',?_⟩;simp only[List.map_cons,aE,st,Option.bind_some,List.foldl_cons];exact e
 refine ax (u is [] [] I (λ_ h=>(nomatch h)) .nil (.inl rfl)) λσ' ec=>?_;have B:=B k (by exact up N rfl);refine aP (bx (r:=n.2) h.a) λC' eK F hC=>?_;have F:nO n= .obj C' eK:=F;rw[F]at J;cases J;have er:(is.map λi=>(aN g i,AV.int (v i))).map (λz=>[AV.str z.1,z.2])=is.map λi=>[.str (aN g i),.int (v i)]:=by rw[List.map_map];rfl
 rw[F]at B⊢;rw[O3];refine bE ((iA hC).2.1) ?_;refine(if_neg (by decide)).trans ?_;rw[bl Y,er];rw[ec];show(aF k f [.obj C fl,.dict _] []).bind _=_;refine bE B ?_;refine bE (show ba.isin (iW (aO c)) (.ref 338)=some true by kernel_rfl) ?_;refine(if_pos rfl).trans ?_;rw[show gA (aF k) (aV k) (aO c) "b"=some (.int c)from J7 c];rfl
end
section
variable{call:aI}{make:aH}{k L:Nat}{V:bt}{ms:List TN}
theorem jG(x:Str)(a b:EV):∀σ:ah,aQ (aQ σ x a) x b=aQ σ x b
 |[]=>by simp[aQ]
 |(y,f)::r=>by
  by_cases q:y=x
  . simp[aQ,q]
  . simp[aQ,q,jG x a b r]
theorem NI.b{t:TN}{i:Nat}(N:NI V i t)(hi:i<9):nP t.1.1<=63/\t.1.2.natAbs<=2^870:=by
 have b1:(List.range 9).all (λi=>decide (pT i<=63)&&decide (vT i<=2^600))=true:=by decide+kernel
 have b2:=List.all_eq_true.mp b1 i (List.mem_range.mpr hi);rw[Bool.and_eq_true]at b2;have p1:pT i<=63:=of_decide_eq_true b2.1;have v1:vT i<=2^600:=of_decide_eq_true b2.2;clear b2 b1;refine⟨Nat.le_trans N.p p1,?_⟩;exact xj (fS (ts:=t.1.1) (r:=t.1.2) V.ok N.nd.a N.nd.p.am V.ok.cX) (Nat.le_trans (N.val _ V.ok.cX) v1) (by decide)
theorem DN(T:Tr V ms):∃h:ms.length-1<ms.length,NI V (ms.length-1) ms[ms.length-1]/\nP ms[ms.length-1].1.1<=63/\ms[ms.length-1].1.2.natAbs<=2^870:=by have f:=T.l6;have i:=T.l9;have h:ms.length-1<ms.length:=Nat.sub_lt (Nat.lt_of_lt_of_le (by decide) f) (by decide);have N:=T.ni _ h;exact ag h N (N.b (by lia))
theorem ul(V:bt)(j:Nat):(j:Int)∈V.u j<->V.sp j≠0:=by
 unfold bt.u;by_cases q:V.sp j=0
 . rw[if_pos q];simp[q]
 . rw[if_neg q];simp[q]
theorem qx{S:Nat->Bool}{v ρ:Nat->Int}(h:∀i,S i=true->v i=ρ i):upd S v ρ=ρ:=funext λi=>by
 unfold upd;split
 . exact h i (by assumption)
 . rfl
set_option maxHeartbeats 2000000 in
theorem R8{g:Gv}{j:Nat}(f:j<3)(v:Nat->Int)(hv:g.lo j<=v j/\v j<=g.hi j):mt g [(aN g j,aO (v j))] (λi=>decide (i=j)) v:=⟨λi hi _=>by
 show List.lookup (aN g i) [(aN g j,aO (v j))]=_;rw[List.lookup_cons];by_cases q:i=j
 . rw[q,beq_self_eq_true];exact(if_pos (decide_eq_true rfl)).symm
 . rw[beq_eq_false_iff_ne.mpr λz=>q (gn hi f z)];exact(if_neg λz=>q (of_decide_eq_true z)).symm,λi hi=>of_decide_eq_true hi▸hv⟩
theorem Hj{a b:Int}(h:a=b):¬(a !=b)=true:=λz=>bne_iff_ne.mp z h
theorem K4(T:Tr V ms)(I:640<=k){xs:List AV}{kk:Int}{is:List Nat}(e6:∀i∈is,i<3){hl:ms.length-1<ms.length}(e5:∀i,i∈is<->(sm ms[ms.length-1].1).vs i=true){j:Nat}(J:j<3){e:EV}{jv nm:AV}{w:Nat->AV}{i:Nat}:
 ∃σ',(ay (aF k) (aV k) 702 3 196 (aX (SM V ms xs kk (sX (.dict (VD V.gv is)) e jv nm w i)) ["j"] [.int j])=some (.next σ')\/ay (aF k) (aV k) 702 3 196 (aX (SM V ms xs kk (sX (.dict (VD V.gv is)) e jv nm w i)) ["j"] [.int j])=some (.cont σ'))/\∃(jv nm:AV)(w:Nat->AV)(i:Nat),σ'=SM V ms xs kk (sX (.dict (VD V.gv is)) e jv nm w i):=by
 obtain⟨Q4,ej⟩:=T.PR J;have Mh:=T.us Q4;rw[ej]at Mh;by_cases Q:V.sp j=0
 . exact ag _ (.inr ((QE ..).trans (bE Mh (bE (lQ _ _).2 (if_pos (by rw[decide_eq_false λz=>(ul V j).mp z Q];rfl)))))) ⟨.int j,nm,w,i,rfl⟩
 obtain⟨_,NL,pL,rL⟩:=DN T;obtain⟨HN,l1,l2⟩:=T.last;have SD:=R8 J (λi=>V.ρ (1+j) i) (V.In (1+j) j);obtain⟨m1,E1,n1,v1,p1,AY,r1⟩:=EY V.ok SD NL.nd rL (by lia);refine aP (bx (r:=m1.2) n1.a) λC fl P hC=>?_;have P:nO m1= .obj C fl:=P;obtain⟨C2,UZ,f2,G,q1,q2,q3,q4,q5,q6⟩:=oi V.ok n1 (by lia);have q3:=q3 k (by exact up I rfl);rw[P]at q1 q3;(injection q1 with z;subst z);have Th:decide ((j:Int)∈V.u j)=true:=decide_eq_true ((ul V j).mpr Q);have kv:=gV (k:=k) (by exact up I rfl) J Q;have Oi:G⊆is:=λz B=>(e5 z).mpr (AY z ((q5 z).mp B)).1;have S9:j∉G:=λB=>by have:=(AY j ((q5 j).mp B)).2;simp at this
 have wo:bc (iD ms) (j:Int)=some (dm V.gv j):=(T.ns J).trans (congrArg some (iI J Q).1);have DY:∀(z:Nat)(B:z<ms.length),ms[z]=(V.nd z,V.u z)->Mine.Internal.mK (mD V ms) (z:Int) (1+(j:Int))=some (.int (V.ρ (1+j) z)):=λz B e=>(T.mK (c:=1+j) B (by lia)).trans (congrArg (λy=>some (AV.int y)) (by rw[e];exact V.tw z (V.In (1+j))));let U:ah:=sR xs (iD ms) (mD V ms) (kG ms) kk j nm e (VD V.gv is) w (.obj C fl) (.dict (VD V.gv G)) i;let Z:List (Str×AV)->Int->ah:=λvd ii=>sV xs (iD ms) (mD V ms) (kG ms) kk j nm e (VD V.gv is) w (.obj C fl) (.dict (VD V.gv G)) vd ii i;let F:List Nat->List (Str×AV):=λacc=>acc.map λi=>(aN V.gv i,.int (V.ρ (1+j) i));let fI:List Nat×Nat->Nat->List Nat×Nat:=λa i=>(if i≠j/\V.sp i≠0 then dR a.1 i else a.1,a.2+1);have IZ:∃ii:Int,bU (ay (aF k) (aV k) 702 4 190) ["i"] r3 (aQ U "values" (.od []))=some (.next (Z (F ((List.range 3).foldl fI ([],0)).1) ii))/\(∀z∈((List.range 3).foldl fI ([],0)).1,z<3):=by
  obtain⟨σ',ef,hn,N,H⟩:=fV (body:=ay (aF k) (aV k) 702 4 190) (nm:=["i"]) (x:=λi:Nat=>[AV.int i]) (f:=fI) (b0:=(([],0):List Nat×Nat)) (R:=λa σ=>a.1.Nodup/\(∀z∈a.1,z<3)/\(a.2=0/\a.1=[]/\σ=aQ U "values" (.od [])\/∃ii:Int,σ=Z (F a.1) ii)) (List.range 3) (λpre z ka ez σ H=>by
   refine dh H λhn N H=>?_;generalize pre.foldl fI ([],0)=a at*
   have B:z<3:=List.mem_range.mp (by rw[ez];simp);obtain⟨QM,Rj⟩:=T.PR B;have hb:aX σ ["i"] [.int z]=Z (F a.1) z:=by
    rcases H with⟨_,ha,rfl⟩|⟨ii,rfl⟩
    . rw[ha];rfl
    . exact jG _ _ _ _
   have OF:(F a.1).length<=1000:=by have:=yF hn N;rw[List.length_map];lia
   have Qg:=T.us QM;rw[Rj]at Qg;have to:∀{l},(fI a z).1=l->(some (fX.next (Z (F l) z)))=some (fX.next (Z (F (fI a z).1) z)):=λh=>congrArg (λl=>some (fX.next (Z (F l) z))) h.symm;refine wD (Z (F (fI a z).1) z) ?_ ?_ ?_ (.inr ⟨z,rfl⟩)
   . rw[hb];refine(Ny ..).trans ?_;by_cases W:z=j
     . exact(if_neg (Hj (by rw[W]))).trans (to (if_neg λy=>y.1 W))
     . refine(if_pos (bne_iff_ne.mpr λy=>W (Int.ofNat.inj y))).trans (bE Qg (bE (lQ _ _).1 ?_));by_cases O:V.sp z=0
       . exact(if_neg λy=>(ul V z).mp (of_decide_eq_true y) O).trans (to (if_neg λy=>y.2 O))
       . refine(if_pos (decide_eq_true ((ul V z).mpr O))).trans ((gp (DY z QM Rj)).trans (bE ((T.ns B).trans (congrArg some (iI B O).1)) (bE (gV (k:=k) (by exact up I rfl) B O).1 (bE rfl ((if_pos OF).trans ?_)))));exact(congrArg (λl=>some (fX.next (aQ (aQ U "values" (.od l)) "i" (.fz (.int z))))) (mq (f:=λi=> .int (V.ρ (1+j) i)) N B)).trans (to (if_pos ⟨W,O⟩))
   . show(if z≠j/\V.sp z≠0 then dR a.1 z else a.1).Nodup;split
     . exact k6 hn
     . exact hn
   . intro y hy;have hy:y∈(if z≠j/\V.sp z≠0 then dR a.1 z else a.1):=hy;split at hy
     . exact(gN.mp hy).elim (N y) λq=>q▸B
     . exact N y hy) (σ0:=aQ U "values" (.od [])) ⟨.nil,λ_ h=>(nomatch h),.inl ⟨rfl,rfl,rfl⟩⟩
  refine ax (H.resolve_left λz=>by rw[(rfl:((List.range 3).foldl fI ([],0)).2=3)]at z;injection z.1) λii aK=>?_;subst aK;exact ag ii ef N
 refine ab IZ λii eI TJ=>?_;have Ni:∀z,z∈((List.range 3).foldl fI ([],0)).1<->z<3/\z≠j/\V.sp z≠0:=λz=>by
  have:∀(l:List Nat)(a:List Nat×Nat),z∈(l.foldl fI a).1<->z∈a.1\/(z∈l/\z≠j/\V.sp z≠0):=λl=>by
   induction l with
   |nil=>intro a;simp
   |cons y l ih=>
    intro a;rw[List.foldl_cons,ih];show(z∈(if y≠j/\V.sp y≠0 then dR a.1 y else a.1)\/_)<->_;by_cases q:y≠j/\V.sp y≠0
    . rw[if_pos q,gN];constructor
      . rintro((h|rfl)|h)
        . exact .inl h
        . exact .inr ⟨List.mem_cons_self,q⟩
        . exact .inr ⟨List.mem_cons_of_mem _ h.1,h.2⟩
      . rintro(h|⟨h,h'⟩)
        . exact .inl (.inl h)
        . rcases List.mem_cons.mp h with rfl|h
          . exact .inl (.inr rfl)
          . exact .inr ⟨h,h'⟩
    . rw[if_neg q];constructor
      . rintro(h|h)
        . exact .inl h
        . exact .inr ⟨List.mem_cons_of_mem _ h.1,h.2⟩
      . rintro(h|⟨h,h'⟩)
        . exact .inl h
        . rcases List.mem_cons.mp h with rfl|h
          . exact absurd h' q
          . exact .inr ⟨h,h'⟩
  rw[this,List.mem_range];simp
 generalize((List.range 3).foldl fI ([],0)).1=DW at*
 refine ab (ji (body:=ay (aF k) (aV k) 702 5 189) (nm:=["name"]) (rows:=(VD V.gv G).map λy=>[.str y.1]) (σ:=Z (F DW) ii) (R:=λσ'=>σ'=Z (F DW) ii\/∃a:Str,σ'=aQ (Z (F DW) ii) "name" (.fz (.str a))) (λrow tK σ H=>?_) (.inl rfl)) λRM eN Oa=>?_
 . refine ab (List.mem_map.mp tK) λy hy bg=>?_;rw[<-bg];refine ab (List.mem_map.mp hy) λz B bg=>?_;rw[<-bg];have hb:aX σ ["name"] [.str (aN V.gv z)]=aQ (Z (F DW) ii) "name" (.fz (.str (aN V.gv z))):=by
    rcases H with rfl|⟨a,rfl⟩
    . rfl
    . exact jG _ _ _ _
   refine ag _ (.inl ?_) (.inr ⟨aN V.gv z,rfl⟩);rw[hb];exact(Nv ..).trans (if_neg (by rw[(AF e6 (q6 z B)),if_pos (Oi B)];exact Bool.false_ne_true))
 refine ab (Jp V.ok n1 r1 (by omega) (is:=DW) (v:=λi=>V.ρ (1+j) i) TJ (λi _=>V.In (1+j) i) (λz B=>by
  have h1:=AY z B;have h2:=NL.real h1.1;exact(Ni z).mpr ⟨h2.1,by simpa using h1.2,h2.2⟩)) λc X vc=>?_
 have X:=X k (by exact up I rfl);rw[P]at X;have cv:c=(sm ms[ms.length-1].1).val (V.ρ (1+j)):=by rw[vc _ (V.In (1+j)),qx (λ_ _=>rfl),v1 _ (V.In (1+j)),qx (λ_ _=>rfl)]
 have ne:cM (aF k) (aV k) .NotEq (.int c) (.int ((sm ms[ms.length-1].1).val (V.ρ (1+j))))=some false:=by rw[<-cv,dZ _ _ (.inr (.inr (.inr (.inr rfl))))];show some (c !=c)=_;simp
 have Kb:∀{R:Type}(p r:Option R),((aF k 671 [.obj C fl,.dict (F DW)] []).bind λz=>gq (mD V ms) (-1) (1+(j:Int)) λy=>(cM (aF k) (aV k) .NotEq z y).bind λq=>if q=true then p else r)=r:=λ_ _=>bE X ((gp (l2 (1+j) (by lia))).trans (bE ne rfl));have g8:∃σ',(∃(jv nm:AV)(w:Nat->AV)(i:Nat),σ'=SM V ms xs kk (sX (.dict (VD V.gv is)) e jv nm w i))/\xL (aF k) (aV k) 189 RM ((gx 702 3).drop 7) (λσ=>some (fX.next σ)) (λσ=>some (.cont σ)) (λx σ=>some (.ret x σ))=some (.next σ'):=by
  rcases Oa with rfl|⟨a,rfl⟩
  . exact ag _ ⟨_,_,_,_,rfl⟩ ((I7 _ _ xs (iD ms) (mD V ms) (kG ms) kk j nm (.obj C fl) e (VD V.gv is) (VD V.gv G) (F DW) w ii i).trans (Kb _ _))
  . exact ag _ ⟨_,_,_,_,rfl⟩ ((I6 _ _ xs (iD ms) (mD V ms) (kG ms) kk j nm (.obj C fl) e (VD V.gv is) (VD V.gv G) (F DW) a w ii i).trans (Kb _ _))
 refine ab g8 λRK hR e7=>?_;refine ag RK (.inl ?_) hR;obtain⟨C3,UY,f3,z1,z2,Y⟩:=E1;have Y:=Y k (by exact up I rfl);rw[z1,P]at Y;refine(QE ..).trans (bE Mh (bE (lQ _ _).2 ((if_neg (by rw[Th];decide)).trans (bE l1 ((congrArg (λx=>bH x "substitute" _) z1).trans ((bl z2).trans (bE wo (bE kv.1 ((gp (DY j Q4 ej)).trans (bE (e9 _ k (by exact up I rfl)) (bE rfl (bE Y ?_))))))))))));refine(NC ..).trans ((bl q2).trans (bE q3 ?_));refine(Sr ..).trans ((kv.2 wo).trans ((if_neg (by rw[show fe (VD V.gv G) (aN V.gv j)=_ from AF q6 J,if_neg S9];exact Bool.false_ne_true)).trans (bE eI ?_)));exact(NA ..).trans (bE eN e7)
end
section
variable{call:aI}{make:aH}{k L:Nat}{V:bt}{ms:List TN}
theorem M2{l:Nat}(h:l<=18):∃m:Nat,m<4/\((oP call make .Sub (.int (l:Int)) (.int 12)).bind λa=>(r7 (.builtin "max") [.int 3,a]).bind λb=>r7 (.builtin "min") [.int 6,b])=some (.int (m+3:Nat)):=by refine af ((by decide+kernel:∀l:Nat,l<19->min 6 (max 3 (l-12))-3<4/\(if(if(l:Int)-12>3 then(l:Int)-12 else 3)<6 then(if(l:Int)-12>3 then(l:Int)-12 else 3)else 6)=((min 6 (max 3 (l-12))-3+3:Nat):Int)) l (Nat.lt_succ_of_le h)) λhn e=>?_;refine ag (min 6 (max 3 (l-12))-3) hn ?_;rw[<-e];rfl
theorem law_pure:pS:=λl hl=>by
 have hb:bB ba (hZ (aF 690) (aV 690)) (jJ 702) 40 200 [("script",.fz (.list (l.map .int)))] ([lw 1,lw 2,lw 3,lw 4,lw 5]) (λ_=>none) (λ_=>none) (λx _=>some x)=some (.bool true):=by
  refine ab (M2 (call:=aF 690) (make:=aV 690) hl) λm O B=>?_;refine wC (K0 (k:=689) (by decide) hl O) λV ms h1 h2 J P=>?_;have T:Tr V ms:=⟨h1,by(clear h1;lia),by(clear J h1 B hl;lia),J⟩;have h9:=T.l9;have h6:=T.l6;have N:(iD ms).length=ms.length:=List.length_map _;have Q:fG (iD ms)=some (.int ms.length):=(gU (by rw[N];(clear h2;lia))).trans (by rw[N]);have U:∀(l:List Nat)(a:Nat),l.foldl (λa _=>a+1) a=a+l.length:=λl=>by
   induction l with
   |nil=>intro a;rfl
   |cons x l ih=>intro a;rw[List.foldl_cons,ih,List.length_cons];lia
  have F:∃(kk:Int)(d:AV)(e:EV)(j nm:AV)(i:Nat),bU (ay (aF 690) (aV 690) 702 0 198) ["k"] ((List.range ms.length).map λi:Nat=>[AV.int i]) (SL (l.map .int) (iD ms) (mD V ms) (kG ms) [])=some (.next (SM V ms (l.map .int) kk (sA d e j nm (i+1)))):=by
   obtain⟨σ',G,u⟩:=fV (body:=ay (aF 690) (aV 690) 702 0 198) (nm:=["k"]) (x:=λi:Nat=>[AV.int i]) (f:=λa _=>a+1) (b0:=0) (R:=λ(a:Nat) σ=>(a=0/\σ=SL (l.map .int) (iD ms) (mD V ms) (kG ms) [])\/∃(kk:Int)(d:AV)(e:EV)(j nm:AV)(i:Nat),σ=SM V ms (l.map .int) kk (sA d e j nm (i+1))) (List.range ms.length) (λW z ka X σ u=>by
    have hb:∃(d:AV)(e:EV)(j nm:AV)(i:Nat),aX σ ["k"] [.int z]=SM V ms (l.map .int) z (sA d e j nm i):=by
     rcases u with⟨_,rfl⟩|⟨kk,d,e,j,nm,i,rfl⟩
     . exact⟨.none,.fz .none,.none,.none,0,rfl⟩
     . exact⟨d,e,j,nm,i+1,rfl⟩
    obtain⟨d,e,j,nm,i,H⟩:=hb;obtain⟨Y,Z,j',I,i',es⟩:=K5 (k:=690) T (by decide) (xs:=l.map .int) (List.mem_range.mp (by rw[X];simp):z<ms.length) (d0:=d) (e0:=e) (j0:=j) (nm0:=nm) (i:=i);exact ag _ (by rw[H];exact es) (.inr ⟨z,Y,Z,j',I,i',rfl⟩)) (σ0:=SL (l.map .int) (iD ms) (mD V ms) (kG ms) []) (.inl ⟨rfl,rfl⟩)
   have u:=u.resolve_left λz=>by have:=z.1;rw[U,List.length_range]at this;(clear h2;lia)
   obtain⟨kk,d,e,j,nm,i,rfl⟩:=u;exact⟨kk,d,e,j,nm,i,G⟩
  obtain⟨kk,d,e,j,nm,i,eL⟩:=F;obtain⟨_,NL,pL,rL⟩:=DN T;obtain⟨HN,l1,l2⟩:=T.last;obtain⟨C,fl,f,is,q1,q2,q3,q4,q5,q6⟩:=oi V.ok NL.nd (by lia);have q3:=q3 690 (by decide);rw[q1]at q3 l1;obtain⟨σ',G,jv,I,w,m',rfl⟩:=ji (body:=ay (aF 690) (aV 690) 702 3 196) (nm:=["j"]) (R:=λσ=>∃(jv nm:AV)(w:Nat->AV)(i:Nat),σ=SM V ms (l.map .int) kk (sX (.dict (VD V.gv is)) e jv nm w i)) (rows:=(List.range 3).map λj:Nat=>[AV.int j]) (λrow tK σ u=>by
   refine KL u λjv nm w i oa=>?_;rw[oa];refine ab (List.mem_map.mp tK) λj hj bg=>?_;rw[<-bg];exact K4 (k:=690) T (by lia) (xs:=l.map .int) (kk:=kk) q6 (hl:=HN) q5 (List.mem_range.mp hj)) (σ:=SM V ms (l.map .int) kk (sX (.dict (VD V.gv is)) e j nm (λ_=> .none) (hI i))) ⟨j,nm,λ_=> .none,hI i,rfl⟩
  refine dF.trans ((NQ ..).trans ?_);refine ab (bL B) λa ea B=>?_;refine ab (bL B) λb H B=>?_;refine bE (fF hl) (bE ea (bE H (bE B (bE P ?_))));refine dF.trans ((NP ..).trans (bE Q (bE rfl (bE (if_pos (by(clear h2 h1;lia))) (bE eL ?_)))));refine(I8 _ _ (l.map .int) (iD ms) (mD V ms) (kG ms) kk d j nm e (λ_=> .none) i).trans (bE l1 ((bl q2).trans (bE q3 (bE G ?_))));exact NO _ _ (l.map .int) (iD ms) (mD V ms) (kG ms) kk (.dict (VD V.gv is)) jv I e w (kN:=λ_=>none) (kC:=λ_=>none) (kR:=λx _=>some x) m'
 rw[Sn,z9 (by decide)];exact hb
end
end Mine.Internal
end
theorem PySem.Challenge.cw_iy0027_01_holds : PySem.Challenge.rw_iy0027_01.Holds :=
 Mine.Internal.joined Mine.Internal.law_pure
