import PyProof.Rows.All
import Wide.All
import OpenK.AllK
import Wide.FinOn
import KE.KNestM
import Lean
import PySem.Challenge.RW_iy0027_01
set_option Elab.async false
set_option maxRecDepth 100000
set_option linter.all false
set_option exponentiation.threshold 2000
set_option genSizeOf false
set_option genInjectivity false
set_option bootstrap.genMatcherCode false
set_option backward.match.sparseCases false
set_option tactic.hygienic false
noncomputable section
namespace Mine.Internal
open PySem PySem.W PySem.Calls PyProof.Rows
abbrev Vg:=@Nat.le_trans
abbrev Vh:=@wpAny_bind
abbrev Vi:=@if_pos
abbrev Vj:=@wpAny_mono
abbrev Vk:=@if_neg
abbrev Vl:=@Option.bind_some
abbrev Vm:=@List.mem_cons_self
abbrev Vn:=@List.map_cons
abbrev Vo:=@List.mem_singleton
abbrev Vp:=@List.length_map
abbrev Vq:=@Nat.zero_le
abbrev Vs:=@Int.le_of_lt
abbrev Vt:=@Nat.le_refl
abbrev Vu:=@absurd
abbrev Vv:=@List.map_map
abbrev Vw:=@List.mem_cons_of_mem
abbrev Vx:=@congrArg
abbrev Vy:=@List.mem_map
abbrev Vz:=@wpAny_pure
abbrev VB:=@List.all_eq_true
abbrev VC:=@Nat.mul_le_mul_right
abbrev VF:=@Nat.mul_le_mul_left
abbrev VG:=@wpAny_standAt
abbrev VH:=@Nat.pow_le_pow_right
abbrev VI:=@wpAny_holding
abbrev VJ:=@decide_eq_true
abbrev VK:=@List.lookup_cons
abbrev VM:=@List.map_append
abbrev VN:=@List.mem_cons
abbrev VO:=@List.length_append
abbrev VP:=@List.length_cons
abbrev VQ:=@Int.le_trans
abbrev VS:=@List.flatMap_cons
abbrev VT:=@Nat.le_of_lt
abbrev VU:=@Bool.false_ne_true
abbrev VV:=@Int.natAbs_ediv_le_natAbs
abbrev VW:=@Heap.get?_push_of_some
abbrev VX:=@List.any_eq_true
abbrev VY:=@List.mem_filter
abbrev VZ:=@Heap.get?_push_size
abbrev V0:=@List.map_congr_left
abbrev V3:=@Option.map_eq_some_iff
abbrev V4:=@List.forall_mem_cons
abbrev V5:=@Int.emod_lt_of_pos
abbrev V6:=@Bool.and_eq_true
abbrev V7:=@Heap.lt_size
abbrev V8:=@List.length_filter_le
abbrev V9:=@of_decide_eq_true
abbrev Wa:=@List.isEmpty_iff
abbrev Wb:=@List.length_nil
abbrev Wc:=@Int.emod_nonneg
abbrev Wd:=@Int.ne_of_gt
abbrev We:=@List.foldl_cons
abbrev Wf:=@Nat.add_le_add
abbrev Wg:=@Nat.le_add_right
abbrev Wh:=@Nat.add_le_add_right
abbrev Wi:=@Nat.le_mul_of_pos_left
abbrev Wj:=@Nat.le_of_eq
abbrev Wl:=@List.mem_append
abbrev Wm:=@List.nil_append
abbrev Wn:=@Int.mul_ediv_add_emod
abbrev Wo:=@Int.mul_le_mul_of_nonneg_left
abbrev Wp:=@Classical.byContradiction
abbrev Wq:=@Nat.mul_le_mul
abbrev Wr:=@Int.ofNat_le
abbrev Ws:=@List.filter_cons
abbrev Wt:=@Nat.add_le_add_left
abbrev Wu:=@Nat.le_mul_of_pos_right
abbrev Wv:=@List.mem_range
abbrev Ww:=@Nat.ne_of_lt
abbrev Wx:=@Int.mul_ediv_cancel'
abbrev Wy:=@Int.mul_le_mul_of_nonneg_right
abbrev Wz:=@List.mem_flatMap
abbrev WA:=@Nat.le_of_ble_eq_true
abbrev WB:=@List.append_nil
abbrev WC:=@Int.lt_of_lt_of_le
abbrev WD:=@Bool.false_eq_true
abbrev WE:=@Nat.mul_assoc
abbrev WF:=@Bool.or_eq_true_iff
abbrev WG:=@Option.isSome_iff_exists
abbrev WH:=@Int.le_refl
abbrev WI:=@Int.natAbs_add_le
abbrev WJ:=@List.append_assoc
abbrev WK:=@Int.emod_eq_of_lt
abbrev WL:=@List.map_eq_nil_iff
abbrev WM:=@Nat.mul_comm
abbrev WN:=@Int.add_zero
abbrev WO:=@Int.ediv_pos_of_pos_of_dvd
abbrev WP:=@Nat.casesAuxOn
abbrev WQ:=@Int.natAbs_mul
abbrev WS:=@Int.natCast_nonneg
abbrev WT:=@Array.getElem?_toList
abbrev WU:=@beq_iff_eq
abbrev WV:=@Int.mul_comm
abbrev WW:=@Int.add_comm
abbrev WX:=@Nat.le_add_left
abbrev WY:=@Bool.and_eq_true_iff
abbrev WZ:=@List.mem_append_left
abbrev W0:=@Int.add_assoc
abbrev W1:=@Int.le_of_dvd
abbrev W2:=@Int.dvd_of_emod_eq_zero
abbrev W3:=@Int.emod_eq_zero_of_dvd
abbrev W4:=@Int.mul_zero
abbrev W5:=@decide_eq_false
abbrev W6:=@Int.ofNat_natAbs_of_nonpos
abbrev W7:=@List.length_range
abbrev W8:=@List.foldl_append
abbrev W9:=@List.forall_mem_singleton
abbrev Xa:=@Int.mul_nonneg
abbrev Xb:=@Int.zero_add
abbrev Xc:=@Int.ediv_le_ediv
abbrev Xd:=@List.getElem?_eq_getElem
abbrev Xe:=@Int.eq_ofNat_of_zero_le
abbrev Xf:=@Int.mul_assoc
abbrev Xg:=@Bool.or_eq_true
abbrev Xh:=@List.nodup_cons
abbrev Xi:=@Nat.lt_of_succ_lt_succ
set_option compiler.extract_closed false in
open Lean in
local macro_rules
 | `(tactic|rw[$rs,*])=>do
   let mut t<- `(tactic|try with_reducible rfl)
   for r in rs.getElems.reverse do
    let e:=r.raw[1];let l:=mkNode `Lean.Parser.Term.ellipsis #[mkAtom ".."];let e:=if e.isOfKind `Lean.Parser.Term.app then e.modifyArg 1 λa=>mkNullNode (a.getArgs.push l)else Syntax.mkApp ⟨e⟩ #[⟨l⟩]
    t<- `(tactic|((first|refine $(mkIdent (if r.raw[0].isNone then `Ss else `Sv)) $(⟨e⟩) ?_|rewrite[$r]);$t))
   pure t
set_option compiler.extract_closed false in
open Lean in
local macro_rules
 | `(tactic|lia)=>do
   let mut t<- `(tactic|lia-abstractProof)
   for c in "QPONMLKJIHGFEDCBAxwvutsrqponmlkjihgfedcba".toList do
    t<- `(tactic|first|exact $(mkIdent (.mkSimple ("q".push c)))|($t:tactic))
   `(tactic|first|assumption|exact Vq _|with_reducible rfl|($t:tactic))
@[elab_as_elim] theorem Ss{α:Sort _}{a b:α}{motive:α->Prop}(h:a=b)(k:motive b):motive a:=h▸k
@[elab_as_elim] theorem Sv{α:Sort _}{a b:α}{motive:α->Prop}(h:b=a)(k:motive b):motive a:=h▸k
theorem ag{i:Sort _}{A B:i->Prop}(f:i)(h0:A f)(h1:B f):∃f,A f/\B f:=⟨f,h0,h1⟩
theorem dA{i:Sort _}{A B C:i->Prop}(f:i)(h0:A f)(h1:B f)(h2:C f):∃f,A f/\B f/\C f:=⟨f,h0,h1,h2⟩
theorem wR{i:Sort _}{A B C D:i->Prop}(f:i)(h0:A f)(h1:B f)(h2:C f)(u:D f):∃f,A f/\B f/\C f/\D f:=⟨f,h0,h1,h2,u⟩
theorem PR{i:Sort _}{A B C D E:i->Prop}(f:i)(h0:A f)(h1:B f)(h2:C f)(u:D f)(z:E f):∃f,A f/\B f/\C f/\D f/\E f:=⟨f,h0,h1,h2,u,z⟩
theorem G5{i:Sort _}{A B C D E F:i->Prop}(f:i)(h0:A f)(h1:B f)(h2:C f)(u:D f)(z:E f)(G:F f):∃f,A f/\B f/\C f/\D f/\E f/\F f:=⟨f,h0,h1,h2,u,z,G⟩
theorem Aa{u z:Sort _}{A:u->z->Prop}(f:u)(i:z)(h0:A f i):∃f i,A f i:=⟨f,i,h0⟩
theorem jn{u z:Sort _}{A B:u->z->Prop}(f:u)(i:z)(h0:A f i)(h1:B f i):∃f i,A f i/\B f i:=⟨f,i,h0,h1⟩
theorem uh{u z:Sort _}{A B C:u->z->Prop}(f:u)(i:z)(h0:A f i)(h1:B f i)(h2:C f i):∃f i,A f i/\B f i/\C f i:=⟨f,i,h0,h1,h2⟩
theorem z9{u z:Sort _}{A B C D:u->z->Prop}(f:u)(i:z)(h0:A f i)(h1:B f i)(h2:C f i)(F:D f i):∃f i,A f i/\B f i/\C f i/\D f i:=⟨f,i,h0,h1,h2,F⟩
theorem PQ{z B F:Sort _}{A:z->B->F->Prop}(f:z)(i:B)(u:F)(h0:A f i u):∃f i u,A f i u:=⟨f,i,u,h0⟩
theorem si{z F G:Sort _}{A B:z->F->G->Prop}(f:z)(i:F)(u:G)(h0:A f i u)(h1:B f i u):∃f i u,A f i u/\B f i u:=⟨f,i,u,h0,h1⟩
theorem K3{z F G:Sort _}{A B C:z->F->G->Prop}(f:z)(i:F)(u:G)(h0:A f i u)(h1:B f i u)(h2:C f i u):∃f i u,A f i u/\B f i u/\C f i u:=⟨f,i,u,h0,h1,h2⟩
theorem Um{z F G:Sort _}{A B C D:z->F->G->Prop}(f:z)(i:F)(u:G)(h0:A f i u)(h1:B f i u)(h2:C f i u)(H:D f i u):∃f i u,A f i u/\B f i u/\C f i u/\D f i u:=⟨f,i,u,h0,h1,h2,H⟩
theorem qa{a b c:Nat}(h:a<=b:=by assumption)(k:b<=c:=by assumption):a<=c:=Vg h k
theorem qb{a b c:Nat}(h:a<=b:=by assumption)(k:b<=c:=by decide):a<=c:=Vg h k
theorem qc{a b c:Nat}(k:b<=c:=by assumption)(h:a<=b:=by decide):a<=c:=Vg h k
theorem qd{a b:Nat}(h:a<b:=by assumption):a<=b:=VT h
theorem qe{a b c:Nat}(h:a+b<=c:=by assumption):b<=c:=Vg (WX _ _) h
theorem qf{a b c:Nat}(h:a+b<=c:=by assumption):a<=c:=Vg (Wg _ _) h
theorem qg{a b c:Nat}(h:a<=b:=by assumption):a<=b+c:=Vg h (Wg _ _)
theorem qh{a b c:Nat}(h:a<=b:=by assumption):a<=c+b:=Vg h (WX _ _)
theorem qi{a b c d:Nat}(k:a+d<=c:=by assumption)(h:b<=d:=by decide):a+b<=c:=Vg (Wt h _) k
theorem qj{a b c d:Nat}(h:a<=b:=by assumption)(k:b<=c:=by assumption)(l:c<=d:=by assumption):a<=d:=Vg h (Vg k l)
theorem qk{a b c d:Nat}(h:a<=b:=by assumption)(k:b<=c:=by assumption)(l:c<=d:=by decide):a<=d:=Vg h (Vg k l)
theorem ql{a b c:Nat}(h:a<=b:=by assumption):c+a<=c+b:=Wt h _
theorem qm{a b c:Nat}(h:a<=b:=by assumption):a+c<=b+c:=Wh h _
theorem qn{a b c d:Nat}(h:a<=b:=by assumption)(k:c<=d:=by assumption):a+c<=b+d:=Wf h k
theorem qo{a b c:Nat}(h:a<=b:=by assumption)(k:b<c:=by assumption):a<c:=Nat.lt_of_le_of_lt h k
theorem qp{a b c:Nat}(h:a<=b:=by assumption)(k:b<c:=by decide):a<c:=Nat.lt_of_le_of_lt h k
theorem qq{a:Nat}(h:a≠0:=by assumption):0<a:=Nat.pos_of_ne_zero h
theorem qr{a b:Nat}(h:a=b:=by assumption):a<=b:=Wj h
theorem qs{a b:Nat}(h:b=a:=by assumption):a<=b:=Wj h.symm
theorem qt{a b:Nat}(h:b<a:=by assumption):¬a<=b:=Nat.not_le_of_gt h
theorem qu{a b:Nat}(h:b<=a:=by assumption):¬a<b:=Nat.not_lt_of_le h
theorem qv{a b:Nat}(h:¬b<=a:=by assumption):a<b:=Nat.lt_of_not_le h
theorem qw{a b:Nat}(h:¬b<a:=by assumption):a<=b:=Nat.le_of_not_lt h
theorem qx{a b c:Nat}(h:a<=c:=by assumption):a-b<=c:=Vg (Nat.sub_le _ _) h
theorem qA{a b c:Int}(h:a<=b:=by assumption)(k:b<=c:=by assumption):a<=c:=VQ h k
theorem qB{a b c:Int}(k:b<=c:=by assumption)(h:a<=b:=by decide):a<=c:=VQ h k
theorem qC{a b:Int}(h:a<b:=by assumption):a<=b:=Vs h
theorem qD{a b c:Int}(h:a<b:=by assumption)(k:b<=c:=by assumption):a<c:=WC h k
theorem qE{a b c:Int}(h:a<=b:=by assumption)(k:b<c:=by assumption):a<c:=Int.lt_of_le_of_lt h k
theorem qF{a b c:Int}(k:b<=c:=by assumption)(h:a<b:=by decide):a<c:=WC h k
theorem qG{a b:Int}(h:b<a:=by assumption):a≠b:=Wd h
theorem qH{a b c:Int}(k:c<=a:=by assumption)(h:b<c:=by decide):a≠b:=Wd (WC h k)
theorem qI{a b:Int}(h:b<a:=by assumption):¬a<=b:=Int.not_le.mpr h
theorem qJ{a b:Int}(h:b<=a:=by assumption):¬a<b:=Int.not_lt.mpr h
theorem qK{a b:Int}(h:¬b<=a:=by assumption):a<b:=Int.not_le.mp h
theorem qL{a b:Int}(h:¬b<a:=by assumption):a<=b:=Int.not_lt.mp h
theorem qM{a b:Nat}(h:a<=b:=by assumption):(a:Int)<=b:=Wr.mpr h
theorem qN{a b:Nat}(h:a<b:=by assumption):(a:Int)<b:=Int.ofNat_lt.mpr h
theorem qO{a b c:Int}(h:a<b:=by assumption)(k:b<=c:=by assumption):a<=c:=Vs (WC h k)
theorem qP{a b c:Nat}(h:a<=b:=by decide):a<=c+b:=Vg h (WX _ _)
theorem qQ{a b c:Nat}(h:a<=b:=by decide):c+a<=c+b:=Wt h _
theorem dW{n:Nat}(h:1<=n):∃m,n=m+1:=⟨n-1,(Nat.sub_add_cancel h).symm⟩
theorem FB{n:Nat}(h:2<=n):∃m,n=m+2:=⟨n-2,(Nat.sub_add_cancel h).symm⟩
theorem FZ{x:Int}{K:Nat}:x.natAbs<=K<-> -(K:Int)<=x/\x<=K:=by
 induction x using Int.casesOn with
 |ofNat n=>exact⟨λh=>⟨VQ (Int.neg_nonpos_of_nonneg (WS K)) (WS n),Wr.mpr h⟩,λh=>Wr.mp h.2⟩
 |negSucc n=>exact⟨λh=>⟨Int.neg_le_neg (Wr.mpr h),VQ (Vs (Int.negSucc_lt_zero n)) (WS K)⟩,λh=>Wr.mp (Int.le_of_neg_le_neg h.1)⟩
theorem QY(a:Int):(if a<0 then-a else a)=(a.natAbs:Int):=by
 by_cases h:a<0
 . rw[Vi h,W6 (Vs h)]
 . rw[Vk h,Int.natAbs_of_nonneg (Int.not_lt.mp h)]
theorem Jz{c:Prop}[Decidable c]{P Q:Prop}(h1:c->P)(h2:¬c->Q):if c then P else Q:=if h:c then(Vi h).symm▸h1 h else(Vk h).symm▸h2 h
theorem up{a b k:Nat}(h:b<=k)(e:Nat.ble a b=true):a<=k:=Vg (WA e) h
theorem bE{α β:Type}{m:Option α}{k:α->Option β}{a:α}{b:Option β}(h:m=some a)(r:k a=b):m.bind k=b:=by subst h;exact r
theorem af{A B:Prop}{Q:Prop}(h:A/\B)(k:A->B->Q):Q:=k h.1 h.2
theorem dh{A B C:Prop}{Q:Prop}(h:A/\B/\C)(k:A->B->C->Q):Q:=k h.1 h.2.1 h.2.2
theorem eM{A B C D:Prop}{Q:Prop}(h:A/\B/\C/\D)(k:A->B->C->D->Q):Q:=k h.1 h.2.1 h.2.2.1 h.2.2.2
theorem G4{A B C D E:Prop}{Q:Prop}(h:A/\B/\C/\D/\E)(k:A->B->C->D->E->Q):Q:=k h.1 h.2.1 h.2.2.1 h.2.2.2.1 h.2.2.2.2
theorem ax{i:Type}{A:i->Prop}{Q:Prop}(h:∃f,A f)(k:∀f,A f->Q):Q:=h.elim k
theorem ab{i:Type}{A B:i->Prop}{Q:Prop}(h:∃f,A f/\B f)(k:∀f,A f->B f->Q):Q:=h.elim λf h=>k f h.1 h.2
theorem bV{i:Type}{A B C:i->Prop}{Q:Prop}(h:∃f,A f/\B f/\C f)(k:∀f,A f->B f->C f->Q):Q:=h.elim λf h=>k f h.1 h.2.1 h.2.2
theorem CZ{i:Type}{A B C D:i->Prop}{Q:Prop}(h:∃f,A f/\B f/\C f/\D f)(k:∀f,A f->B f->C f->D f->Q):Q:=h.elim λf h=>k f h.1 h.2.1 h.2.2.1 h.2.2.2
theorem K2{i:Type}{A B C D E:i->Prop}{Q:Prop}(h:∃f,A f/\B f/\C f/\D f/\E f)(k:∀f,A f->B f->C f->D f->E f->Q):Q:=h.elim λf h=>k f h.1 h.2.1 h.2.2.1 h.2.2.2.1 h.2.2.2.2
theorem cq{u:Type}{z:Type}{A:u->z->Prop}{Q:Prop}(h:∃f i,A f i)(k:∀f i,A f i->Q):Q:=h.elim λf h=>ax h (k f)
theorem aP{u:Type}{z:Type}{A B:u->z->Prop}{Q:Prop}(h:∃f i,A f i/\B f i)(k:∀f i,A f i->B f i->Q):Q:=h.elim λf h=>ab h (k f)
theorem cP{u:Type}{z:Type}{A B C:u->z->Prop}{Q:Prop}(h:∃f i,A f i/\B f i/\C f i)(k:∀f i,A f i->B f i->C f i->Q):Q:=h.elim λf h=>bV h (k f)
theorem wQ{u:Type}{z:Type}{A B C D:u->z->Prop}{Q:Prop}(h:∃f i,A f i/\B f i/\C f i/\D f i)(k:∀f i,A f i->B f i->C f i->D f i->Q):Q:=h.elim λf h=>CZ h (k f)
theorem K1{u:Type}{z:Type}{A B C D E:u->z->Prop}{Q:Prop}(h:∃f i,A f i/\B f i/\C f i/\D f i/\E f i)(k:∀f i,A f i->B f i->C f i->D f i->E f i->Q):Q:=h.elim λf h=>K2 h (k f)
theorem CY{z:Type}{B:Type}{F:Type}{A:z->B->F->Prop}{Q:Prop}(h:∃f i u,A f i u)(k:∀f i u,A f i u->Q):Q:=h.elim λf h=>cq h (k f)
theorem f9{z:Type}{F:Type}{G:Type}{A B:z->F->G->Prop}{Q:Prop}(h:∃f i u,A f i u/\B f i u)(k:∀f i u,A f i u->B f i u->Q):Q:=h.elim λf h=>aP h (k f)
theorem sg{z:Type}{F:Type}{G:Type}{A B C:z->F->G->Prop}{Q:Prop}(h:∃f i u,A f i u/\B f i u/\C f i u)(k:∀f i u,A f i u->B f i u->C f i u->Q):Q:=h.elim λf h=>cP h (k f)
theorem CX{z:Type}{F:Type}{G:Type}{A B C D:z->F->G->Prop}{Q:Prop}(h:∃f i u,A f i u/\B f i u/\C f i u/\D f i u)(k:∀f i u,A f i u->B f i u->C f i u->D f i u->Q):Q:=h.elim λf h=>wQ h (k f)
theorem K0{B:Type}{F:Type}{G:Type}{H:Type}{A:B->F->G->H->Prop}{Q:Prop}(h:∃f i u z,A f i u z)(k:∀f i u z,A f i u z->Q):Q:=h.elim λf h=>CY h (k f)
theorem ad{α:Type}{a:α}{P:Prop}(h:none=some a):P:=nomatch h
theorem JE{α:Type}{p:Prop}[Decidable p]{a b:α}(h:(if p then some a else none)=some b):p/\a=b:=by
 by_cases q:p
 . exact⟨q,Option.some.inj ((Vi q).symm.trans h)⟩
 . exact ad ((Vk q).symm.trans h)
theorem uV{α:Type}{a:α}{P:Prop}(h:a∈[]):P:=Vu h List.not_mem_nil
theorem Ia{α:Type}{P:α->Prop}:∀x∈([]:List α),P x:=λ_ h=>uV h
theorem fm{α:Type}{P:α->Prop}{a:α}{l:List α}(h:P a)(t:∀x∈l,P x):∀x∈a::l,P x:=V4.mpr ⟨h,t⟩
inductive AV where
 |none
 |bool(b:Bool)
 |int(i:Int)
 |str(s:Str)
 |obj(C:Addr)(fl:List (Str×AV))
 |list(xs:List AV)
 |tup(xs:List AV)
 |dict(es:List (Str×AV))
inductive Ty where
 |obj(C:Addr)(fl:List (Str×AV))
 |bA(a:Addr)
 |list(xs:List AV)
 |tup(xs:List AV)
 |dict(es:List (Str×AV))
 |raw
 |code(q:Str)
noncomputable abbrev TM:=Addr->Option Ty
noncomputable def Sub(fl eK:List (Str×AV)):Prop:=∀k x,fl.lookup k=some x->eK.lookup k=some x
theorem Sub.refl(fl):Sub fl fl:=λ_ _ e=>e
theorem Sub.trans{a b c}(x:Sub a b)(y:Sub b c):Sub a c:=λk v e=>y k v (x k v e)
theorem Sub.snoc{fl:List (Str×AV)}{k:Str}{x:AV}:Sub fl (fl++[(k,x)]):=λk' v e=>by rw[List.lookup_append,e];rfl
noncomputable def Jn(C:Addr):Str:=if C=284 then "_val" else "max"
noncomputable def bS(C:Addr)(fl:List (Str×AV)):Bool:=(fl.lookup (Jn C)).isSome
noncomputable def Kn(C:Addr)(fl eK:List (Str×AV)):Prop:=fl=eK\/(Sub fl eK/\bS C fl=false)
theorem Kn.sub{C fl eK}(x:Kn C fl eK):Sub fl eK:=x.elim (λe=>e▸ .refl _) (·.1)
theorem Kn.trans{C a b d}(x:Kn C a b)(y:Kn C b d):Kn C a d:=by
 rcases x with rfl|⟨x,h⟩
 . exact y
 . exact .inr ⟨x.trans y.sub,h⟩
noncomputable def ij(a b:Ty):Prop:=Ty.casesOn (motive:=λ_=>Prop) a (λC fl=>∃eK,b= .obj C eK/\Kn C fl eK) (λx=>b= .bA x) (λx=>b= .list x) (λx=>b= .tup x) (λx=>b= .dict x) (b= .raw) (λq=>b= .code q)
theorem ij.refl(t:Ty):ij t t:=by induction t<;>first|exact rfl|exact⟨_,rfl,.inl rfl⟩
theorem ij.obj{C fl eK}(h:Kn C fl eK):ij (.obj C fl) (.obj C eK):=⟨_,rfl,h⟩
theorem ij.od{a d}(q:ij a (.bA d)):a= .bA d:=by
 induction a with
 |obj=>obtain⟨_,q,_⟩:=q;injection q
 |bA=>exact q.symm
 |_=>injection q
theorem ij.trans{a b c:Ty}(x:ij a b)(y:ij b c):ij a c:=by
 induction a with
 |obj=>obtain⟨_,rfl,h⟩:=x;obtain⟨_,rfl,k⟩:=y;exact⟨_,rfl,h.trans k⟩
 |_=>obtain rfl:=x;exact y
noncomputable def js(T T':TM):Prop:=∀a ty,T a=some ty->∃j8,T' a=some j8/\ij ty j8
theorem js.refl(T:TM):js T T:=λ_ ty e=>⟨ty,e,.refl _⟩
theorem js.trans{f i u:TM}(x:js f i)(y:js i u):js f u:=λa ty e=>by refine ab (x a ty e) λz B l2=>?_;refine ab (y a z B) λF G H=>?_;exact⟨F,G,l2.trans H⟩
noncomputable def VR(T:TM)(v:Value)(x:AV):Prop:=AV.casesOn (motive_1:=λ_=>Prop) x (v= .none) (λb=>v= .bool b) (λi=>∃t,v= .int i t) (λs=>∃t,v= .str s t) (λC fl=>∃a eK,v= .ref a/\T a=some (.obj C eK)/\Kn C fl eK) (λxs=>∃a,v= .ref a/\T a=some (.list xs)) (λxs=>∃a,v= .ref a/\T a=some (.tup xs)) (λes=>∃a,v= .ref a/\T a=some (.dict es))
section
variable{T:TM}
theorem VR.none:VR T .none .none:=rfl
theorem VR.bool(b):VR T (.bool b) (.bool b):=rfl
theorem VR.int(i t):VR T (.int i t) (.int i):=⟨t,rfl⟩
theorem VR.str(s t):VR T (.str s t) (.str s):=⟨t,rfl⟩
theorem VR.obj{a C fl eK}(h:T a=some (.obj C eK))(f:Kn C fl eK):VR T (.ref a) (.obj C fl):=⟨_,_,rfl,h,f⟩
theorem VR.list{a xs}(h:T a=some (.list xs)):VR T (.ref a) (.list xs):=⟨_,rfl,h⟩
theorem VR.tup{a xs}(h:T a=some (.tup xs)):VR T (.ref a) (.tup xs):=⟨_,rfl,h⟩
theorem VR.dict{a es}(h:T a=some (.dict es)):VR T (.ref a) (.dict es):=⟨_,rfl,h⟩
theorem VR.is{P:Value->Prop}(n:P .none)(b:∀b,P (.bool b))(i:∀i t,P (.int i t))(s:∀s t,P (.str s t))(r:∀a,P (.ref a)){v x}(h:VR T v x):P v:=by
 induction x using AV.casesOn with
 |none=>obtain rfl:=h;exact n
 |bool=>obtain rfl:=h;exact b _
 |int=>obtain⟨_,rfl⟩:=h;exact i _ _
 |str=>obtain⟨_,rfl⟩:=h;exact s _ _
 |obj=>obtain⟨_,_,rfl,_⟩:=h;exact r _
 |_=>obtain⟨_,rfl,_⟩:=h;exact r _
theorem VR.inv{v:Value}{x:AV}(h:VR T v x):VR T v x:=h
end
noncomputable def VL(T T':TM):Prop:=∀{v x},VR T v x->VR T' v x
theorem VL.of{T T':TM}(l:∀a ty,T a=some ty->ty≠ .raw->∃i,T' a=some i/\ij ty i):VL T T':=λ{v x} h=>by
 have one:∀(ty:Ty),ty≠ .raw->(∀{t},ij ty t->t=ty)->(∃a,v= .ref a/\T a=some ty)->∃a,v= .ref a/\T' a=some ty:=λty h k=>λ⟨a,e,q⟩=>ab (l a _ q h) λt f q=>⟨a,e,k q▸f⟩
 induction x using AV.casesOn with
 |obj=>obtain⟨a,_,e,h,u⟩:=h;obtain⟨_,f,_,rfl,q⟩:=l _ _ h nofun;exact⟨a,_,e,f,u.trans q⟩
 |list x=>exact one (.list x) (λq=>by injection q) (λq=>q) h
 |tup x=>exact one (.tup x) (λq=>by injection q) (λq=>q) h
 |dict x=>exact one (.dict x) (λq=>by injection q) (λq=>q) h
 |_=>exact h
theorem js.vl{T T':TM}(l:js T T'):VL T T':=VL.of λa ty e _=>l a ty e
theorem VR.mono{T T':TM}{v:Value}{x:AV}(h:VR T v x)(l:js T T'):VR T' v x:=l.vl h
theorem Ge{P:Nat->Prop}{i:Nat}(h:i<3)(a:P 0)(b:P 1)(c:P 2):P i:=by
 rcases i with _|_|_|i
 . exact a
 . exact b
 . exact c
 . exact Vu (Xi (Xi (Xi h))) (Nat.not_lt_zero _)
theorem NM{P:Nat->Prop}{i:Nat}(h:i<4)(a:P 0)(b:P 1)(c:P 2)(d:P 3):P i:=by
 rcases i with _|i
 . exact a
 . exact Ge (P:=λi=>P (i+1)) (Xi h) b c d
class inductive F2{α β:Type}(R:α->β->Prop):List α->List β->Prop
 |nil:F2 R [] []
 |cons {v x vs xs} (h:R v x) (t:F2 R vs xs):F2 R (v::vs) (x::xs)
section
variable{α β:Type}{R S:α->β->Prop}{vs:List α}{xs:List β}
theorem F2.inv(h:F2 R vs xs):List.casesOn (motive:=λ_=>Prop) xs (vs=[]) λx xs=>∃v r,vs=v::r/\R v x/\F2 R r xs:=F2.rec rfl (λh t _=>⟨_,_,rfl,h,t⟩) h
theorem F2.lift(h:F2 R vs xs)(l:∀v x,R v x->S v x):F2 S vs xs:=F2.rec .nil (λh _=> .cons (l _ _ h)) h
theorem F2.flip(h:F2 R vs xs):F2 (λx v=>R v x) xs vs:=F2.rec .nil (λh _=> .cons h) h
theorem F2.length(h:F2 R vs xs):vs.length=xs.length:=F2.rec rfl (λ_ _=>Vx (· +1)) h
theorem F2.append{ws ys}(h:F2 R vs xs)(k:F2 R ws ys):F2 R (vs++ws) (xs++ys):=F2.rec (motive:=λvs xs _=>F2 R (vs++ws) (xs++ys)) k (λh _=> .cons h) h
theorem F2.get(h:F2 R vs xs):∀{i:Nat}{x:β},xs[i]? =some x->∃v,vs[i]? =some v/\R v x:=by
 induction h with
 |nil=>exact λe=>ad e
 |cons h _ ih=>
  intro i y e
  induction i using WP with
  |zero=>exact⟨_,rfl,Option.some.inj e▸h⟩
  |succ i=>exact ih e
theorem F2.one{x}(h:F2 R vs [x]):∃v,vs=[v]/\R v x:=by obtain⟨v,r,rfl,h1,t⟩:=h.inv;obtain rfl:=t.inv;exact⟨v,rfl,h1⟩
theorem F2.two{x y}(h:F2 R vs [x,y]):∃v w,vs=[v,w]/\R v x/\R w y:=by obtain⟨v,r,rfl,h1,t⟩:=h.inv;obtain⟨w,rfl,k⟩:=t.one;exact⟨v,w,rfl,h1,k⟩
end
noncomputable abbrev dx(T:TM):=F2 (VR T)
theorem dx.lift{T T':TM}{vs xs}(h:dx T vs xs)(l:VL T T'):dx T' vs xs:=F2.lift h λ_ _=>l
theorem F2.mono{T T':TM}{vs xs}(h:dx T vs xs)(l:js T T'):dx T' vs xs:=dx.lift h l.vl
structure Qm(T:TM)(P:Params)(e:DictEntry)(kx:Str×AV):Prop where
 key:∃t,e.key= .str kx.1 t
 hash:e.hash=PyData.keyHash P kx.1
 val:VR T e.val kx.2
noncomputable abbrev nY(T:TM)(P:Params):=F2 (Qm T P)
theorem nY.lift{T T':TM}{P es l}(h:nY T P es l)(q:VL T T'):nY T' P es l:=F2.lift h λ_ _ h=>⟨h.key,h.hash,q h.val⟩
theorem nY.mono{T T':TM}{P es l}(h:nY T P es l)(q:js T T'):nY T' P es l:=h.lift q.vl
structure Cx where
 prog:Program
 w:World
 K:Frag
 h₀:Heap
 tab:Addr
 tx:AV->Option Str
 fS:Pos:=default
 i9:Str:=default
noncomputable abbrev Cx.M(c:Cx):Model:=model c.prog c.w
noncomputable def aB:Str:="_key"
noncomputable def az:List Str:=["a","b","min","max","nodes","expr","_val"]
noncomputable def dN(c:Cx)(T:TM)(C:Addr)(fl:List (Str×AV))(m:Str->Option Value):Prop:=
 ∀k,match fl.lookup k with
  |some x=>∃v,m k=some v/\VR T v x
  |none=>if k=aB then(∀v,m k=some v->bS C fl=true/\∃s t,v= .str s t/\c.tx (.obj C fl)=some s)else m k=none
noncomputable abbrev bo(vs:Array Value)(n:Nat):Obj:={cls:= .type "list",data:= .seq vs n}
noncomputable abbrev iA(vs:Array Value)(n:Nat):Obj:={cls:= .type "tuple",data:= .seq vs n}
noncomputable abbrev aC(es:Array DictEntry)(n:Nat):Obj:={cls:= .type "dict",data:= .dict es n}
inductive LE(c:Cx)(T:TM)(h:Heap)(a C:Addr)(fl:List (Str×AV)):Prop
 |mk (d:Addr) (m:Str->Option Value) (es:Array DictEntry) (n:Nat) (at_:h.get? a=some (instObj C d)) (own:T d=some (.bA a)) (dat:h.get? d=some (aC es n)) (ns:h.Ns d m) (fields:dN c T C fl m) (names:∀k x,fl.lookup k=some x->az.contains k=true) (sz:es.size<=fl.length+(if(m aB).isSome=true then 1 else 0)) (lt:fl.length<=100)
noncomputable def dB(c:Cx)(T:TM)(h:Heap)(a:Addr):Ty->Prop
 | .obj C fl=>LE c T h a C fl
 | .bA _=>∃o,h.get? a=some o
 | .list xs=>∃vs n,h.get? a=some (bo vs n)/\dx T vs.toList xs
 | .tup xs=>∃vs n,h.get? a=some (iA vs n)/\dx T vs.toList xs
 | .dict l=>∃es n,h.get? a=some (aC es n)/\nY T c.w.params es.toList l/\(l.map (·.1)).Nodup
 | .raw=>∃o,h.get? a=some o
 | .code q=>∃o vs t,h.get? a=some o/\o.data= .fields vs/\vs[1]? =some (.str q t)
section
variable{c:Cx}{T:TM}{h:Heap}
theorem dB.bA{a d o}(at_:h.get? d=some o):dB c T h d (.bA a):=⟨o,at_⟩
theorem dB.list{a xs vs n}(at_:h.get? a=some (bo vs n))(items:dx T vs.toList xs):dB c T h a (.list xs):=⟨_,_,at_,items⟩
theorem dB.tup{a xs vs n}(at_:h.get? a=some (iA vs n))(items:dx T vs.toList xs):dB c T h a (.tup xs):=⟨_,_,at_,items⟩
theorem dB.dict{a l es n}(at_:h.get? a=some (aC es n))(items:nY T c.w.params es.toList l)(nd:(l.map (·.1)).Nodup):dB c T h a (.dict l):=⟨_,_,at_,items,nd⟩
theorem dB.raw{a o}(at_:h.get? a=some o):dB c T h a .raw:=⟨o,at_⟩
theorem dB.code{a o vs q t}(at_:h.get? a=some o)(hd:o.data= .fields vs)(f:vs[1]? =some (.str q t)):dB c T h a (.code q):=⟨_,_,_,at_,hd,f⟩
theorem dB.inv{a ty}(x:dB c T h a ty):dB c T h a ty:=x
end
structure nV(c:Cx)(T:TM)(ps:Array Value):Prop where
 pW:TriplesOk ps.toList
 lam:∀cv,codeAmong c.fS ps.toList=some cv->∃a,cv= .ref a/\T a=some (.code c.i9)
theorem nV.le{c T T' ps}(x:nV c T ps)(l:js T T'):nV c T' ps:=⟨x.pW,λf e=>by
 refine ab (x.lam f e) λa i u=>?_;refine ab (l a _ u) λty z q=>?_;obtain rfl:=q;exact⟨a,i,z⟩⟩
structure W(c:Cx)(T:TM)(h:Heap):Prop where
 base:∀b o,c.h₀.get? b=some o->h.get? b=some o
 lo:∀a ty,T a=some ty->c.h₀.get? a=none/\a≠c.tab
 ok:∀a ty,T a=some ty->dB c T h a ty
 tab:∃ps,h.get? c.tab=some (tabObj ps)/\nV c T ps
theorem dB.ex{c T h a ty}(x:dB c T h a ty):∃o,h.get? a=some o:=by
 induction ty with
 |obj=>obtain⟨_,_,_,_,e,_⟩:=x;exact⟨_,e⟩
 |bA=>exact x
 |raw=>exact x
 |code=>obtain⟨_,_,_,e,_⟩:=x;exact⟨_,e⟩
 |_=>obtain⟨_,_,e,_⟩:=x;exact⟨_,e⟩
theorem W.none_of{c T h a}(x:W c T h)(e:h.get? a=none):T a=none:=by
 induction q:T a with
 |none=>rfl
 |some ty=>exact ax (x.ok a ty q).ex λo f=>ad (e.symm.trans f)
theorem W.free{c T h a}(x:W c T h)(e:h.get? a=none):c.h₀.get? a=none/\a≠c.tab:=by
 refine⟨?_,?_⟩
 . induction q:c.h₀.get? a with
   |none=>rfl
   |some o=>exact ad (e.symm.trans (x.base a o q))
 . rintro rfl;exact ab x.tab λps h _=>ad (e.symm.trans h)
noncomputable def Ba(T:TM)(a:Addr):Prop:=∀d,T a≠some (.bA d)
theorem Ba.none{T:TM}{a:Addr}(h:T a= .none):Ba T a:=λd q=>ad (h.symm.trans q)
theorem Ba.le{T T':TM}{a:Addr}(x:Ba T a)(l:js T T')(h:T a= .none->T' a= .none):Ba T' a:=by
 induction e:T a with
 |none=>exact .none (h e)
 |some ty=>refine ab (l a ty e) λi f q=>?_;intro d hd;obtain rfl:=Option.some.inj (f.symm.trans hd);exact x d (e.trans (Vx some q.od))
structure bF(c:Cx)(T:TM)(s:Shared)(T':TM)(s':Shared):Prop where
 eq:∀a ty,T a=some ty->T' a=some ty
 keep:∀a o,Ba T a->a≠c.tab->s.heap.get? a=some o->s'.heap.get? a=some o
 cN:∀a o,a≠c.tab->s.heap.get? a=some o->T a=none->T' a=none
 gens:AllBare s.gens->AllBare s'.gens
 os:s'.os=s.os
theorem bF.le{c T s T' s'}(x:bF c T s T' s'):js T T':=λa ty e=>⟨ty,x.eq a ty e,.refl _⟩
theorem bF.refl(c:Cx)(T:TM)(s:Shared):bF c T s T s:=⟨λ_ _ e=>e,λ_ _ _ _ e=>e,λ_ _ _ _ e=>e,λh=>h,rfl⟩
theorem bF.trans{c:Cx}{f i u:TM}{z B F:Shared}(x:bF c f z i B)(y:bF c i B u F):bF c f z u F:=
 ⟨λa ty e=>y.eq a ty (x.eq a ty e),λa o h1 h2 G=>y.keep a o (h1.le x.le λq=>x.cN a o h2 G q) h2 (x.keep a o h1 h2 G),
  λa o h0 h1 h2=>y.cN a o h0 (x.keep a o (.none h2) h0 h1) (x.cN a o h0 h1 h2),λh=>y.gens (x.gens h),y.os.trans x.os⟩
theorem bF.np{c:Cx}{T T':TM}{s s':Shared}(x:bF c T s T' s'):∀a o,T a=none->a≠c.tab->s.heap.get? a=some o->s'.heap.get? a=some o:=λa o h=>x.keep a o (.none h)
theorem bF.toks{c:Cx}{T T':TM}{s s':Shared}(x:bF c T s T' s')(t:Nat):bF c T s T' {s' with toks:=t}:=⟨x.eq,x.keep,x.cN,x.gens,x.os⟩
theorem bF.j9{c:Cx}{T:TM}{s:Shared}(t:Nat):bF c T s T {s with toks:=t}:=(bF.refl c T s).toks t
theorem bF.grown{c:Cx}{T:TM}{s:Shared}{h':Heap}(k:∀b o,s.heap.get? b=some o->h'.get? b=some o)(t:Nat):bF c T s T {s with heap:=h',toks:=t}:=
 ⟨λ_ _ e=>e,λa o _ _ e=>k a o e,λ_ _ _ _ e=>e,λh=>h,rfl⟩
theorem bF.fresh{c aj ae T s}(x:bF c aj ae T s)(w:W c T s.heap){a:Addr}(e:s.heap.get? a=none):ae.heap.get? a=none:=by
 induction q:ae.heap.get? a with
 |none=>rfl
 |some o=>
  have hn:=w.none_of e;have h0:aj a=none:=by
   induction q2:aj a with
   |none=>rfl
   |some ty=>exact ad (hn.symm.trans (x.eq a ty q2))
  exact ad (e.symm.trans (x.np a o h0 (w.free e).2 q))
inductive Got(c:Cx)(T:TM)(s:Shared)(x:AV)(v:Value)(s':Shared):Prop
 |mk (T':TM) (e:bF c T s T' s') (w:W c T' s'.heap) (r:VR T' v x)
inductive Dx(c:Cx)(T:TM)(s:Shared)(xs:List AV)(vs:List Value)(s':Shared):Prop
 |mk (T':TM) (e:bF c T s T' s') (w:W c T' s'.heap) (r:dx T' vs xs)
noncomputable def fv(T:TM)(a:Addr)(ty:Ty):TM:=λb=>if b=a then some ty else T b
theorem kK{T:TM}{a:Addr}{ty:Ty}(h:T a=none):∀b t,T b=some t->fv T a ty b=some t:=λb t e=>(Vk λq:b=a=>ad ((q▸h:T b=none).symm.trans e)).trans e
theorem dH{T:TM}{a:Addr}{ty:Ty}(h:T a=none):js T (fv T a ty):=λb t e=>⟨t,kK h b t e,.refl _⟩
theorem bP{T:TM}{a:Addr}{ty:Ty}:fv T a ty a=some ty:=Vi rfl
theorem dq{T:TM}{a b:Addr}{ty:Ty}(h:b≠a):fv T a ty b=T b:=Vk h
theorem dN.lift{c T T' C fl m}(x:dN c T C fl m)(l:VL T T'):dN c T' C fl m:=λk=>by
 have:=x k;generalize fl.lookup k=y at*
 induction y with
 |some=>exact ab this λv a b=>⟨v,a,l b⟩
 |none=>exact this
theorem dN.mono{c T T' C fl m}(x:dN c T C fl m)(l:js T T'):dN c T' C fl m:=x.lift l.vl
theorem dB.map{c:Cx}{T T':TM}{h h':Heap}{a:Addr}{ty:Ty}(x:dB c T h a ty)(l:VL T T')(k:∀{o},h.get? a=some o->h'.get? a=some o)(kd:∀{d},T d=some (.bA a)->T' d=some (.bA a)/\∀{o},h.get? d=some o->h'.get? d=some o):dB c T' h' a ty:=by
 induction ty with
 |obj=>obtain⟨d,m,u,n,at_,own,i,ns,f,r1,r2,r3⟩:=x;exact af (kd own) λz kd=>⟨d,m,u,n,k at_,z,kd i,CY ns λo B F g=>⟨o,B,F,kd g.1,g.2⟩,f.lift l,r1,r2,r3⟩
 |list=>exact aP x λ_ _ at_ items=> .list (k at_) (items.lift l)
 |tup=>exact aP x λ_ _ at_ items=> .tup (k at_) (items.lift l)
 |dict=>exact cP x λ_ _ at_ items nd=> .dict (k at_) (items.lift l) nd
 |code=>exact sg x λ_ _ _ at_ a b=> .code (k at_) a b
 |_=>exact ax x λ_ at_=>⟨_,k at_⟩
theorem dB.keeps{c:Cx}{T T':TM}{h h':Heap}{a:Addr}{ty:Ty}(x:dB c T h a ty)(l:js T T')(k:∀b o,(∃ty,T b=some ty)->h.get? b=some o->h'.get? b=some o)(e:T a=some ty):dB c T' h' a ty:=
 x.map l.vl (k _ _ ⟨_,e⟩) λ{d} own=>ab (l _ _ own) λt e(q:t= .bA a)=>⟨q▸e,k _ _ ⟨_,own⟩⟩
theorem W.grown{c T h h'}(x:W c T h)(k:∀b o,h.get? b=some o->h'.get? b=some o):W c T h':=
 ⟨λb f e=>k _ _ (x.base b f e),x.lo,λa ty e=>(x.ok a ty e).keeps (.refl T) (λb f _ i=>k _ _ i) e,let⟨ps,e,r⟩:=x.tab;⟨ps,k _ _ e,r⟩⟩
theorem W.push{c T h}(x:W c T h)(o:Obj):W c T (h.push o):=x.grown λ_ _ e=>VW _ e
theorem bF.push{c:Cx}{T:TM}{s:Shared}(o:Obj):bF c T s T {s with heap:=s.heap.push o}:=bF.grown (t:=s.toks) λ_ _ e=>VW _ e
theorem W.upd{c T h h'}{a:Addr}(x:W c T h)(f:Heap.SameBut a h h')(i:T a=none)(hb:c.h₀.get? a=none/\a≠c.tab):W c T h':=
 ⟨λb o e=>(f.2 b (λq=>ad (hb.1.symm.trans (q▸e)))).trans (x.base b o e),x.lo,
  λb ty e=>(x.ok b ty e).keeps (.refl T) (λb o⟨ty,e⟩ u=>(f.2 b (λq=>ad (i.symm.trans (q▸e)))).trans u) e,
  let⟨ps,e,r⟩:=x.tab;⟨ps,(f.2 _ hb.2.symm).trans e,r⟩⟩
theorem W.type{c T h}{a:Addr}{ty:Ty}(x:W c T h)(i:T a=none)(hb:c.h₀.get? a=none/\a≠c.tab)(u:dB c (fv T a ty) h a ty):W c (fv T a ty) h:=
 ⟨x.base,λb t e=>by
  by_cases q:b=a
  . rw[q];exact hb
  . rw[dq q]at e;exact x.lo b t e,
  λb t e=>by
   by_cases q:b=a
   . subst q;rw[bP]at e;obtain rfl:=Option.some.inj e;exact u
   . have f:=e;rw[dq q]at f;exact(x.ok b t f).keeps (dH i) (λ_ _ _ e=>e) f,let⟨ps,e,r⟩:=x.tab;⟨ps,e,r.le (dH i)⟩⟩
theorem bF.type{c:Cx}{aj T:TM}{ae s:Shared}{a:Addr}{ty:Ty}(x:bF c aj ae T s)(f:T a=none)(hb:ae.heap.get? a=none):bF c aj ae (fv T a ty) s:=
 ⟨λb t e=>kK f b t (x.eq b t e),x.keep,λb o h0 h1 h2=>(dq (λq=>ad (hb.symm.trans (q▸h1)))).trans (x.cN b o h0 h1 h2),x.gens,x.os⟩
theorem aG(h:Heap):h.get? h.objs.size=none:=by
 induction q:h.get? h.objs.size with
 |none=>rfl
 |some o=>exact Vu (V7 q) (Nat.lt_irrefl _)
theorem pi{c T s s' ty}{a:Addr}(w:W c T s.heap)(e:bF c T s T s')(i:W c T s'.heap)(f:s.heap.get? a=none)(u:dB c (fv T a ty) s'.heap a ty):bF c T s (fv T a ty) s'/\W c (fv T a ty) s'.heap:=by have hn:=w.none_of f;exact⟨e.type hn f,i.type hn (w.free f) u⟩
theorem lT{c T s xs}{vs:List Value}(w:W c T s.heap)(h:dx T vs xs):Got c T s (.list xs) (.ref s.heap.objs.size) {s with heap:=s.heap.push (bo vs.toArray 0)}:=by have hn:=w.none_of (aG _);refine af (pi (ty:= .list xs) w (bF.push (bo vs.toArray 0)) (w.push _) (aG _) (.list (VZ _ rfl) (h.mono (dH hn)))) λa b=>?_;exact⟨_,a,b,.list bP⟩
theorem CE{c T s xs}{vs:List Value}(w:W c T s.heap)(h:dx T vs xs):Got c T s (.tup xs) (.ref s.heap.objs.size) {s with heap:=s.heap.push (iA vs.toArray 0)}:=by have hn:=w.none_of (aG _);refine af (pi (ty:= .tup xs) w (bF.push (iA vs.toArray 0)) (w.push _) (aG _) (.tup (VZ _ rfl) (h.mono (dH hn)))) λa b=>?_;exact⟨_,a,b,.tup bP⟩
theorem Got.int{c T s}(w:W c T s.heap)(i t n):Got c T s (.int i) (.int i t) {s with toks:=n}:=⟨T,.j9 _,w,.int _ _⟩
theorem Got.fM{c T s}(w:W c T s.heap)(b):Got c T s (.bool b) (.bool b) s:=⟨T,.refl ..,w,.bool _⟩
theorem Got.trans{c T s T' s' x v fo}(e:bF c T s T' s')(g:Got c T' s' x v fo):Got c T s x v fo:=
 let⟨uq,e',w,r⟩:=g;⟨uq,e.trans e',w,r⟩
set_option tactic.hygienic true
inductive EV where
 |fz(x:AV)
 |ol(xs:List AV)
 |od(es:List (Str×AV))
 |self(a:Addr)(C:Addr)(fl:List (Str×AV))
 |raw(v:Value)
noncomputable def EV.owned:EV->Bool
 | .fz _=>false
 | .raw _=>false
 |_=>true
noncomputable abbrev ah:=List (Str×EV)
noncomputable def aQ:ah->Str->EV->ah
 |[],x,e=>[(x,e)]
 |(y,f)::r,x,e=>if y=x then(x,e)::r else(y,f)::aQ r x e
theorem dP:∀(σ:ah)(x:Str)(e:EV)(y:Str),(aQ σ x e).lookup y=if y=x then some e else σ.lookup y
 |[],x,e,y=>by
  simp only[aQ,VK,List.lookup_nil];by_cases h:y=x
  . simp[h]
  . simp[h,beq_eq_false_iff_ne.mpr h]
 |(z,f)::r,x,e,y=>by
  simp only[aQ];by_cases i:z=x
  . subst i;simp only[if_true,VK];by_cases h:y=z
    . simp[h]
    . simp[h,beq_eq_false_iff_ne.mpr h]
  . simp only[i,if_false,VK];rw[dP r x e y];by_cases h:y=x
    . subst h;have:(y==z)=false:=beq_eq_false_iff_ne.mpr (λq=>i q.symm);simp[this]
    . simp[h]
theorem b9{σ:ah}{x:Str}{ev:EV}{P:Str->EV->Prop}(a:P x ev)(b:∀y f,y≠x->σ.lookup y=some f->P y f)(y:Str)(f:EV)(h:(aQ σ x ev).lookup y=some f):P y f:=by
 have h:=(dP σ x ev y).symm.trans h;by_cases q:y=x
 . exact Option.some.inj ((Vi q).symm.trans h)▸q▸a
 . exact b y f q ((Vk q).symm.trans h)
noncomputable def kE(env:Env)(m:Str->Option Value)(h:Heap)(x:Str)(v:Value):Prop:=
 (env.kindOf x=some .local/\m x=some v)\/
 ((env.kindOf x=some .cell\/(env.kindOf x=some .free/\(x==("__classdict__":Str))=false))/\∃a,env.cells.lookup x=some a/\h.IsCell a (some v))
noncomputable def ER(c:Cx)(T:TM)(h:Heap)(H₀:Heap)(r:Addr)(v:Value):EV->Prop
 | .fz x=>VR T v x
 | .raw w=>v=w
 | .ol xs=>v= .ref r/\∃vs n,h.get? r=some (bo vs n)/\H₀.get? r=none/\T r=none/\dx T vs.toList xs
 | .od l=>v= .ref r/\∃es n,h.get? r=some (aC es n)/\H₀.get? r=none/\T r=none/\nY T c.w.params es.toList l/\(l.map (·.1)).Nodup
 | .self a C fl=>a=r/\v= .ref r/\H₀.get? r=none/\T r=some (.obj C fl)/\∃d,h.get? r=some (instObj C d)
section
variable{c:Cx}{T:TM}{h H₀:Heap}
theorem ER.fz{r v x}(q:VR T v x):ER c T h H₀ r v (.fz x):=q
theorem ER.raw{r v}:ER c T h H₀ r v (.raw v):=rfl
theorem ER.ol{r vs n xs}(at_:h.get? r=some (bo vs n))(lo:H₀.get? r=none)(f:T r=none)(items:dx T vs.toList xs):ER c T h H₀ r (.ref r) (.ol xs):=⟨rfl,_,_,at_,lo,f,items⟩
theorem ER.od{r es n l}(at_:h.get? r=some (aC es n))(lo:H₀.get? r=none)(f:T r=none)(items:nY T c.w.params es.toList l)(nd:(l.map (·.1)).Nodup):ER c T h H₀ r (.ref r) (.od l):=⟨rfl,_,_,at_,lo,f,items,nd⟩
theorem ER.self{r C fl d}(at_:h.get? r=some (instObj C d))(lo:H₀.get? r=none)(ty:T r=some (.obj C fl)):ER c T h H₀ r (.ref r) (.self r C fl):=⟨rfl,rfl,lo,ty,_,at_⟩
theorem ER.inv{r v x}(q:ER c T h H₀ r v x):ER c T h H₀ r v x:=q
theorem ER.at_{r v ev}(x:ER c T h H₀ r v ev)(f:ev.owned=true):∃o,h.get? r=some o/\∀y,o.data≠ .cell y:=by
 induction ev with
 |ol=>obtain⟨_,_,_,e,_⟩:=x;exact ag _ e (λ_ q=>by injection q)
 |od=>obtain⟨_,_,_,e,_⟩:=x;exact ag _ e (λ_ q=>by injection q)
 |self=>obtain⟨_,_,_,_,_,e⟩:=x;exact ag _ e (λ_ q=>by injection q)
 |_=>injection f
noncomputable def Ob(T:TM)(a:Addr):Prop:=T a=none\/∃C fl,T a=some (.obj C fl)
theorem Ob.fix{a}(h:Ob T a):Ba T a:=λd q=>h.elim (λe=>ad (e.symm.trans q)) λ⟨_,_,e⟩=>by injection e.symm.trans q with z;injection z
theorem ER.map{T':TM}{h':Heap}{r v ev}(x:ER c T h H₀ r v ev)(l:VL T T')(k:ev.owned=true->Ob T r->H₀.get? r=none->∀{o},h.get? r=some o->h'.get? r=some o)(nn:ev.owned=true->H₀.get? r=none->T r=none->∀{o},h.get? r=some o->T' r=none)(i:ev.owned=true->∀{C fl},T r=some (.obj C fl)->T' r=some (.obj C fl)):ER c T' h' H₀ r v ev:=by
 induction ev with
 |fz=>exact l x
 |raw=>exact x
 |ol=>exact af x λe x=>wQ x λ_ _ at_ lo f items=>⟨e,_,_,k rfl (.inl f) lo at_,lo,nn rfl lo f at_,items.lift l⟩
 |od=>exact af x λe x=>K1 x λ_ _ at_ lo f items nd=>⟨e,_,_,k rfl (.inl f) lo at_,lo,nn rfl lo f at_,items.lift l,nd⟩
 |self=>exact G4 x λe u lo ty x=>ax x λ_ at_=>⟨e,u,lo,i rfl ty,_,k rfl (.inr ⟨_,_,ty⟩) lo at_⟩
end
noncomputable def AX(σ:ah)(ρ:Str->Addr):Prop:=∀x y e f,σ.lookup x=some e->σ.lookup y=some f->e.owned=true->f.owned=true->ρ x=ρ y->x=y
structure ig(c:Cx)(env:Env)(H₀:Heap)(σ:ah)(T:TM)(h:Heap)(m:Str->Option Value)(ρ:Str->Addr):Prop where
 ns:h.Ns env.locals m
 inj:AX σ ρ
 apart:∀x ev,σ.lookup x=some ev->ev.owned=true->ρ x≠env.locals
 val:∀x ev,σ.lookup x=some ev->∃v,kE env m h x v/\ER c T h H₀ (ρ x) v ev
structure FR(c:Cx)(env:Env)(H₀:Heap)(σ:ah)(T:TM)(h:Heap):Prop where
 kind:env.scope.kind= .function
 glob:env.globals=mainGlobals
 blt:env.builtins=builtinsNs
 jy:∀a,H₀.get? a=none->c.h₀.get? a=none/\a≠c.tab
 loc:T env.locals=none
 fA:H₀.get? env.locals=none
 cells:∀x a,env.cells.lookup x=some a->(∃v,h.IsCell a v)/\T a=none/\c.h₀.get? a=none/\a≠c.tab
 inj:∀x y a,env.cells.lookup x=some a->env.cells.lookup y=some a->x=y
 own:∀x,env.kindOf x=some .cell->∃a,env.cells.lookup x=some a
 vals:∃m ρ,ig c env H₀ σ T h m ρ
theorem FR.fz{c:Cx}{env:Env}{H₀ h:Heap}{σ:ah}{T:TM}{m}(k:env.scope.kind= .function)(g:env.globals=mainGlobals)(b:env.builtins=builtinsNs)(lo:∀a,H₀.get? a=none->c.h₀.get? a=none/\a≠c.tab)(l:T env.locals=none)(H:H₀.get? env.locals=none)
 (f:∀x a,env.cells.lookup x=some a->(∃v,h.IsCell a v)/\T a=none/\c.h₀.get? a=none/\a≠c.tab)(B:∀x y a,env.cells.lookup x=some a->env.cells.lookup y=some a->x=y)(own:∀x,env.kindOf x=some .cell->∃a,env.cells.lookup x=some a)
 (ns:h.Ns env.locals m)(G:∀p∈σ,∃v y,p.2= .fz y/\kE env m h p.1 v/\VR T v y):FR c env H₀ σ T h:=by
 have no:∀{z:Str}{e:EV},σ.lookup z=some e->e.owned=true->False:=λi u=>by refine aP (G _ (mem_of_lookup i)) λv y F _=>?_;subst F;exact Vu u VU
 refine⟨k,g,b,lo,l,H,f,B,own,m,λ_=>0,ns,λ_ _ _ _ i _ u=>(no i u).elim,λ_ _ i u=>(no i u).elim,λz e i=>?_⟩;refine cP (G _ (mem_of_lookup i)) λv y F h1 h2=>?_;subst F;exact ag v h1 (.fz h2)
noncomputable def eo(env:Env)(H₀:Heap)(x:Str):Prop:=∀a,env.cells.lookup x=some a->env.kindOf x=some .cell->H₀.get? a=none
theorem eo.local{env:Env}{H₀:Heap}{x:Str}(h:env.kindOf x=some .local):eo env H₀ x:=λa _ e=>by injection h.symm.trans e with z;injection z
theorem Heap.Ns.obj{h:Heap}{a m}(x:h.Ns a m):∃o f n,h.get? a=some o/\o.data= .dict f n:=let⟨o,f,n,e,d,_⟩:=x;⟨o,f,n,e,d⟩
theorem ig.ext{c env H₀ σ T T' s s' m ρ}(F:FR c env H₀ σ T s.heap)(V:ig c env H₀ σ T s.heap m ρ)(e:bF c T s T' s'):ig c env H₀ σ T' s'.heap m ρ:=by
 have kp:∀a o,T a=none->c.h₀.get? a=none/\a≠c.tab->s.heap.get? a=some o->s'.heap.get? a=some o:=λa o h1 h2 u=>e.np a o h1 h2.2 u;have f:∀x a v,env.cells.lookup x=some a->s.heap.IsCell a v->s'.heap.IsCell a v:=λx a v hx i=>by refine dh (F.cells x a hx) λ_ z B=>?_;refine ab i λo G hd=>?_;exact ag o (kp a o z B G) hd
 refine⟨?_,V.inj,V.apart,λx ev hx=>?_⟩
 . refine f9 V.ns λo H I J N=>?_;exact si o H I (kp _ _ F.loc (F.jy _ F.fA) J) N
 . refine ab (V.val x ev hx) λv h1 h2=>?_;refine ag v ?_ ?_
   . rcases h1 with h1|⟨hk,a,ha,i⟩
     . exact .inl h1
     . exact .inr ⟨hk,a,ha,f x a _ ha i⟩
   . exact h2.map e.le.vl (λ_ O lo _=>e.keep _ _ O.fix (F.jy _ lo).2) (λ_ lo P _ at_=>e.cN _ _ (F.jy _ lo).2 at_ P) λ_ _ _=>e.eq _ _
theorem FR.ext{c env H₀ σ T T' s s'}(F:FR c env H₀ σ T s.heap)(e:bF c T s T' s'):FR c env H₀ σ T' s'.heap:=by refine cq F.vals λm ρ V=>?_;refine f9 (Heap.Ns.obj V.ns) λlo G H z I=>?_;refine⟨F.kind,F.glob,F.blt,F.jy,e.cN _ _ (F.jy _ F.fA).2 z F.loc,F.fA,λx a hx=>?_,F.inj,F.own,m,ρ,V.ext F e⟩;refine dh (F.cells x a hx) λB i f=>?_;refine aP B λv o u hd=>?_;exact⟨⟨v,o,e.np a o i f.2 u,hd⟩,e.cN _ _ f.2 u i,f⟩
theorem kE.load{c:Cx}{env H₀ σ T m}{s:Shared}{x:Str}{v:Value}{M A E}{Q:Value->Shared->Prop}(F:FR c env H₀ σ T s.heap)(f:s.heap.Ns env.locals m)(H:kE env m s.heap x v)(h:Q v s):wpAny M A (loadName env x) Q E s:=by
 rcases H with⟨hk,hm⟩|⟨hk|⟨hk,hn⟩,a,ha,hc⟩
 . exact wpAny_loadName_local F.kind hk f hm h
 . exact wpAny_loadName_cell F.kind hk ha hc h
 . exact wpAny_loadName_free F.kind hk ha hc h hn
theorem n4{c:Cx}{env H₀ σ T}{s:Shared}{x:Str}{y:AV}{M A E}{Q:Value->Shared->Prop}(F:FR c env H₀ σ T s.heap)(hx:σ.lookup x=some (.fz y))(h:∀v,VR T v y->Q v s):wpAny M A (loadName env x) Q E s:=by refine cq F.vals λm ρ V=>?_;refine ab (V.val x _ hx) λv h1 h2=>?_;exact h1.load F V.ns (h v h2.inv)
theorem vX{c:Cx}{env H₀ σ T}{s:Shared}{x:Str}{xs:List AV}{M A E}{Q:Value->Shared->Prop}(F:FR c env H₀ σ T s.heap)(hx:σ.lookup x=some (.ol xs))
 (h:∀a vs n,s.heap.get? a=some (bo vs n)->dx T vs.toList xs->T a=none->H₀.get? a=none->Q (.ref a) s):wpAny M A (loadName env x) Q E s:=by
 refine cq F.vals λm ρ V=>?_;refine ab (V.val x _ hx) λv h1 h2=>?_;obtain⟨rfl,_,_,at_,lo,f,items⟩:=h2.inv;exact h1.load F V.ns (h _ _ _ at_ items f lo)
theorem vY{c:Cx}{env H₀ σ T}{s:Shared}{x:Str}{l:List (Str×AV)}{M A E}{Q:Value->Shared->Prop}(F:FR c env H₀ σ T s.heap)(hx:σ.lookup x=some (.od l))
 (h:∀a f n,s.heap.get? a=some (aC f n)->nY T c.w.params f.toList l->(l.map (·.1)).Nodup->T a=none->H₀.get? a=none->Q (.ref a) s):wpAny M A (loadName env x) Q E s:=by
 refine cq F.vals λm ρ V=>?_;refine ab (V.val x _ hx) λv h1 h2=>?_;obtain⟨rfl,_,_,at_,lo,i,items,nd⟩:=h2.inv;exact h1.load F V.ns (h _ _ _ at_ items nd i lo)
theorem qS{c:Cx}{env H₀ σ T}{s:Shared}{x:Str}{a C fl}{M A E}{Q:Value->Shared->Prop}(F:FR c env H₀ σ T s.heap)(hx:σ.lookup x=some (.self a C fl))
 (h:∀d,s.heap.get? a=some (instObj C d)->T a=some (.obj C fl)->H₀.get? a=none->Q (.ref a) s):wpAny M A (loadName env x) Q E s:=by
 refine cq F.vals λm ρ V=>?_;refine ab (V.val x _ hx) λv h1 h2=>?_;generalize ρ x=r at h2;obtain⟨rfl,rfl,lo,ty,_,at_⟩:=h2.inv;exact h1.load F V.ns (h _ at_ ty lo)
structure St(c:Cx)(aj:TM)(ae:Shared)(env:Env)(σ:ah)(T:TM)(s:Shared):Prop where
 w:W c T s.heap
 e:bF c aj ae T s
 f:FR c env ae.heap σ T s.heap
 hO:W c aj ae.heap
theorem bF.upd{c aj ae T}{s:Shared}{a:Addr}{h':Heap}{t:Nat}(x:bF c aj ae T s)(i:Heap.SameBut a s.heap h')(u:ae.heap.get? a=none):bF c aj ae T {s with heap:=h',toks:=t}:=
 ⟨x.eq,λb o h1 h2 f=>(i.2 b (λq=>ad (u.symm.trans (q▸f)))).trans (x.keep b o h1 h2 f),x.cN,x.gens,x.os⟩
theorem St.toks{c aj ae env σ T s}(x:St c aj ae env σ T s)(t:Nat):St c aj ae env σ T {s with toks:=t}:=⟨x.w,x.e.toks t,x.f,x.hO⟩
theorem St.ext{c aj ae env σ T s T' s'}(x:St c aj ae env σ T s)(e:bF c T s T' s')(w:W c T' s'.heap):St c aj ae env σ T' s':=⟨w,x.e.trans e,x.f.ext e,x.hO⟩
theorem ER.sameBut{c T h h' H₀ r v ev}{b:Addr}(x:ER c T h H₀ r v ev)(f:Heap.SameBut b h h')(hb:ev.owned=true->r≠b):ER c T h' H₀ r v ev:=
 x.map (λq=>q) (λo _ _ _=>(f.2 _ (hb o)).trans) (λ_ _ n _ _=>n) λ_ _ _ e=>e
theorem ER.kO{c T h H₀ r v ev a y}(x:ER c T h H₀ r v ev)(f:ev.owned=true)(i:h.IsCell a y):r≠a:=λq=>by refine ab (x.at_ f) λo e d=>?_;refine ab i λB u z=>?_;exact d _ (Option.some.inj (e.symm.trans (q▸u))▸z)
noncomputable def dS(env:Env)(T:TM)(s s':Shared):Prop:=(∀a ty o,T a=some ty->s.heap.get? a=some o->s'.heap.get? a=some o)/\
 ∀a o,a≠env.locals->(∀x,env.cells.lookup x≠some a)->s.heap.get? a=some o->s'.heap.get? a=some o
theorem dS.of{env:Env}{T:TM}{s s':Shared}{a:Addr}(i:Heap.SameBut a s.heap s'.heap)(hn:T a=none)(u:a=env.locals\/∃x,env.cells.lookup x=some a):dS env T s s':=
 ⟨λb ty o h1 f=>(i.2 b (λq=>ad (hn.symm.trans (q▸h1)))).trans f,λb o h1 h2 f=>(i.2 b (λq=>by
  rcases u with e|⟨x,e⟩
  . exact h1 (q.trans e)
  . exact h2 x (q▸e))).trans f⟩
theorem dS.refl(env T s):dS env T s s:=⟨λ_ _ _ _ e=>e,λ_ _ _ _ e=>e⟩
theorem dS.trans{env T s s' fo}(x:dS env T s s')(y:dS env T s' fo):dS env T s fo:=⟨λa ty o h1 h2=>y.1 a ty o h1 (x.1 a ty o h1 h2),λa o h1 h2 f=>y.2 a o h1 h2 (x.2 a o h1 h2 f)⟩
theorem jB{c aj ae env σ T}{s:Shared}{x:Str}{v:Value}{ev:EV}{M A E}{Q:Unit->Shared->Prop}(S:St c aj ae env σ T s)(oc:eo env ae.heap x)
 (H:env.kindOf x=some .local\/env.kindOf x=some .cell)
 {m:Str->Option Value}{ρ:Str->Addr}(V:ig c env ae.heap σ T s.heap m ρ)
 (r:Addr)(hv:ER c T s.heap ae.heap r v ev)(hl:ev.owned=true->r≠env.locals)(fresh:ev.owned=true->∀y f,y≠x->σ.lookup y=some f->f.owned=true->ρ y≠r)
 (h:∀s',St c aj ae env (aQ σ x ev) T s'->dS env T s s'->Q () s'):wpAny M A (storeName env x v) Q E s:=by
 have F:=S.f;let I:Str->Addr:=λy=>if y=x then r else ρ y
 have O:I x=r:=Vi rfl;have N:∀y,y≠x->I y=ρ y:=λy hy=>Vk hy;have wD:AX (aQ σ x ev) I:=λy z e f hy U=>b9 (P:=λy e=>∀z f,(aQ σ x ev).lookup z=some f->e.owned=true->f.owned=true->I y=I z->y=z)
  (b9 (λ_ _ _=>rfl) λz f n U W of X=>Vu ((N z n).symm.trans (X.symm.trans O)) (fresh W z f n U of))
  (λy e n hy=>b9 (λW of X=>Vu ((N y n).symm.trans (X.trans O)) (fresh of y e n hy W)) λz f n' U W of X=>V.inj y z e f hy U W of ((N y n).symm.trans (X.trans (N z n')))) y e hy z f U
 have RU:∀y f,(aQ σ x ev).lookup y=some f->f.owned=true->I y≠env.locals:=
  b9 (λof q=>hl of (O.symm.trans q)) λy f n hy of q=>V.apart y f hy of ((N y n).symm.trans q)
 have nC:∀{a v},s.heap.IsCell a v->a≠env.locals:=λ⟨_,h1,h2⟩ q=>f9 (Heap.Ns.obj V.ns) λ_ _ _ Y hd=>by injection h2.symm.trans (Option.some.inj ((q▸h1:s.heap.get? env.locals=_).symm.trans Y)▸hd)
 refine Or.elim H (λH=>?_) λH=>?_
 . refine wpAny_storeName_local H V.ns (λh' hn i=>?_) (by rw[F.kind];rfl);have B:∀a v,s.heap.IsCell a v->h'.IsCell a v:=λa v G=>G.sameBut i (nC G);refine h _ ?_ (dS.of i F.loc (.inl rfl));refine⟨S.w.upd i F.loc (F.jy _ F.fA),S.e.upd i F.fA,⟨F.kind,F.glob,F.blt,F.jy,F.loc,F.fA,λy a hy=>?_,F.inj,F.own,_,I,hn,wD,RU,b9 ⟨v,.inl ⟨H,Vi rfl⟩,O▸hv.sameBut i hl⟩ λy f n hy=>?_⟩,S.hO⟩
   . exact af (F.cells y a hy) λ⟨v,G⟩ r=>⟨⟨v,B a v G⟩,r⟩
   . rw[N y n];refine ab (V.val y f hy) λu h2 h3=>⟨u,h2.imp (λ⟨Z,m2⟩=>⟨Z,(Vk n).trans m2⟩) λ⟨Z,a,J,G⟩=>⟨Z,a,J,B a _ G⟩,h3.sameBut i (V.apart y f hy)⟩
 . refine ax (F.own x H) λa J=>?_;refine dh (F.cells x a J) λcr c2 c3=>?_;refine ax cr λSa G=>?_;refine wpAny_storeName_cell F.kind H J G λh' hn i=>?_;refine h _ ?_ (dS.of i c2 (.inr ⟨x,J⟩));refine⟨S.w.upd i c2 c3,(S.e.upd (t:=s.toks) i (oc a J H)),⟨F.kind,F.glob,F.blt,F.jy,F.loc,F.fA,λy b hy=>?_,F.inj,F.own,m,I,?_,wD,RU,b9 ⟨v,.inr ⟨.inl H,a,J,hn⟩,O▸hv.sameBut i λY=>hv.kO Y G⟩ λy f n hy=>?_⟩,S.hO⟩
   . refine af (F.cells y b hy) λ⟨v1,Kb⟩ r=>⟨?_,r⟩;by_cases q:b=a
     . exact⟨_,q▸hn⟩
     . exact⟨v1,Kb.sameBut i q⟩
   . refine f9 V.ns λo es n g1 g2=>?_;exact si o es n ((i.2 _ (nC G).symm).trans g1) g2
   . rw[N y n];exact ab (V.val y f hy) λu h2 h3=>⟨u,h2.imp id λ⟨Z,b,hb,A7⟩=>⟨Z,b,hb,A7.sameBut i λq=>n (F.inj y x a (q▸hb) J)⟩,h3.sameBut i λY=>h3.kO Y G⟩
theorem gj{c aj ae env σ T}{s:Shared}{x:Str}{v:Value}{y:AV}{M A E}{Q:Unit->Shared->Prop}(S:St c aj ae env σ T s)(i:eo env ae.heap x)
 (u:env.kindOf x=some .local\/env.kindOf x=some .cell)(hv:VR T v y)
 (h:∀s',St c aj ae env (aQ σ x (.fz y)) T s'->dS env T s s'->Q () s'):wpAny M A (storeName env x v) Q E s:=by
 refine cq S.f.vals λm ρ V=>?_;exact jB S i u V 0 (.fz hv) (λq=>by exact Vu q VU) (λq=>by exact Vu q VU) h
theorem la{c aj ae env σ T T'}{s s':Shared}{x:Str}{r:Addr}{vs n}{xs:List AV}{M A E}{Q:Unit->Shared->Prop}(S:St c aj ae env σ T s)(u:eo env ae.heap x)
 (B:env.kindOf x=some .local\/env.kindOf x=some .cell)(e:bF c T s T' s')(w:W c T' s'.heap)(hr:s.heap.get? r=none)(hn:T' r=none)(F:s'.heap.get? r=some (bo vs n))(hi:dx T' vs.toList xs)
 (h:∀i,St c aj ae env (aQ σ x (.ol xs)) T' i->dS env T' s' i->Q () i):wpAny M A (storeName env x (.ref r)) Q E s':=by
 refine cq S.f.vals λm ρ V=>?_;refine jB (S.ext e w) u B (V.ext S.f e) r (.ol F (S.e.fresh S.w hr) hn hi) (λ_ q=>?_) (λ_ y f _ hy of q=>?_) h
 . exact f9 (Heap.Ns.obj V.ns) λ_ _ _ z _=>ad (hr.symm.trans (q▸z))
 . exact ab (V.val y f hy) λv _ G=>ab (G.at_ of) λ_ e _=>ad (hr.symm.trans (q▸e))
theorem s8{c aj ae env σ T T'}{s s':Shared}{x:Str}{r:Addr}{es n}{l:List (Str×AV)}{M A E}{Q:Unit->Shared->Prop}(S:St c aj ae env σ T s)(u:eo env ae.heap x)
 (B:env.kindOf x=some .local\/env.kindOf x=some .cell)(e:bF c T s T' s')(w:W c T' s'.heap)(hr:s.heap.get? r=none)(hn:T' r=none)(F:s'.heap.get? r=some (aC es n))(hi:nY T' c.w.params es.toList l)(nd:(l.map (·.1)).Nodup)
 (h:∀i,St c aj ae env (aQ σ x (.od l)) T' i->dS env T' s' i->Q () i):wpAny M A (storeName env x (.ref r)) Q E s':=by
 refine cq S.f.vals λm ρ V=>?_;refine jB (S.ext e w) u B (V.ext S.f e) r (.od F (S.e.fresh S.w hr) hn hi nd) (λ_ q=>?_) (λ_ y f _ hy of q=>?_) h
 . exact f9 (Heap.Ns.obj V.ns) λ_ _ _ z _=>ad (hr.symm.trans (q▸z))
 . exact ab (V.val y f hy) λv _ G=>ab (G.at_ of) λ_ e _=>ad (hr.symm.trans (q▸e))
noncomputable def lU(σ:ah)(x:Str):ah:=match σ.lookup x with
 |some (.ol xs)=>aQ σ x (.fz (.list xs))
 |some (.od l)=>aQ σ x (.fz (.dict l))
 |_=>σ
theorem ER.type{c T h H₀ r v ev a ty}(x:ER c T h H₀ r v ev)(f:T a=none)(hb:ev.owned=true->r≠a):ER c (fv T a ty) h H₀ r v ev:=
 x.map (dH f).vl (λ_ _ _ _ e=>e) (λo _ n _ _=>(dq (hb o)).trans n) λ_ _ _=>kK f _ _
theorem St.Eo{c aj ae env σ T s}{x:Str}{ev:EV}{ty:Ty}{y:AV}(S:St c aj ae env σ T s)(hx:σ.lookup x=some ev)(I:ev.owned=true)
 (hy:∀r v,ER c T s.heap ae.heap r v ev->VR (fv T r ty) v y/\T r=none/\ae.heap.get? r=none/\dB c (fv T r ty) s.heap r ty):
 ∃T',St c aj ae env (aQ σ x (.fz y)) T' s/\∀a ty,T a=some ty->T' a=some ty:=by
 refine cq S.f.vals λm ρ V=>?_;have F:=S.f;refine ab (V.val x ev hx) λv h1 h2=>?_;refine eM (hy _ v h2) λO H J Q=>?_;refine ag (fv T (ρ x) ty) ⟨S.w.type H (F.jy _ J) Q,S.e.type H J,⟨F.kind,F.glob,F.blt,F.jy,?_,F.fA,λz a i=>?_,F.inj,F.own,m,ρ,V.ns,?_,?_,λz f i=>?_⟩,S.hO⟩ (kK H)
 . rw[dq (V.apart x ev hx I).symm];exact F.loc
 . refine dh (F.cells z a i) λU W X=>?_;refine ax U λu N=>?_;exact⟨⟨u,N⟩,by rw[dq λq=>h2.kO I N q.symm];exact W,X⟩
 . exact λa b e f B hb=>b9 (ev:= .fz y) (P:=λa e=>∀b f,(aQ σ x (.fz y)).lookup b=some f->e.owned=true->f.owned=true->ρ a=ρ b->a=b) (λ_ _ _ G=>Vu G VU) (λa e _ B=>b9 (ev:= .fz y) (P:=λb f=>e.owned=true->f.owned=true->ρ a=ρ b->a=b) (λ_ G=>Vu G VU) λb f _ hb=>V.inj a b e f B hb) a e B b f hb
 . exact b9 (P:=λa e=>e.owned=true->ρ a≠env.locals) (λG=>Vu G VU) λa e _ B=>V.apart a e B
 . exact b9 (P:=λz f=>∃v,kE env m s.heap z v/\ER c (fv T (ρ x) ty) s.heap ae.heap (ρ z) v f) ⟨v,h1,.fz O⟩ (λz f q1 i=>ab (V.val z f i) λu Y Z=>⟨u,Y,Z.type H λof q=>q1 (V.inj z x f ev i hx of I q)⟩) z f i
theorem St.lU{c aj ae env σ T s}(S:St c aj ae env σ T s)(x:Str):∃T',St c aj ae env (lU σ x) T' s/\∀a ty,T a=some ty->T' a=some ty:=by
 unfold Mine.Internal.lU
 induction hx:σ.lookup x using Option.casesOn with
 |none=>exact ag T S λ_ _ e=>e
 |some e=>
  induction e using EV.casesOn with
  |ol xs=>exact S.Eo (ty:= .list xs) hx rfl λr v q=>by obtain⟨rfl,_,_,at_,lo,f,items⟩:=q.inv;exact⟨.list bP,f,lo,.list at_ (items.mono (dH f))⟩
  |od l=>exact S.Eo (ty:= .dict l) hx rfl λr v q=>by obtain⟨rfl,_,_,at_,lo,f,items,nd⟩:=q.inv;exact⟨.dict bP,f,lo,.dict at_ (items.mono (dH f)) nd⟩
  |_=>exact ag T S λ_ _ e=>e
set_option tactic.hygienic false
set_option tactic.hygienic true
structure cD(A:Around)(k:Nat):Prop where
 depth:A.depth+k<=999
 units:A.units+8*k+100<=9800
 guards:A.guards=some []
 handled:A.handled=none
theorem cD.in1{A:Around}{k:Nat}(x:cD A k)(h:A.units+8*k+101<=9800):cD A.in1 k:=⟨x.depth,by rw[Around.in1_units];lia,x.guards,x.handled⟩
theorem cD.le{A:Around}{k j:Nat}(x:cD A k)(h:j<=k):cD A j:=⟨by have:=x.depth;lia,by have:=x.units;lia,x.guards,x.handled⟩
theorem cD.line{A:Around}{k:Nat}(x:cD A k):A.units<cLine:=by have:=x.units;unfold cLine;lia
theorem cD.Jj{A:Around}{k:Nat}(x:cD A k):A.in1.units<cLine:=by rw[Around.in1_units];have:=x.units;unfold cLine;lia
theorem cD.lim{A:Around}{k:Nat}(x:cD A k):A.depth<recursionLimit:=by have:=x.depth;unfold recursionLimit;lia
noncomputable def cg:Value->Shared->Prop:=λ_ _=>False
noncomputable def bQ(c:Cx)(env:Env)(A:Around)(H₀:Heap)(σ:ah)(e:Expr)(x:AV):Prop:=
 ∀T s,W c T s.heap->FR c env H₀ σ T s.heap->wpAny c.M A (eval e env) (Got c T s x) cg s
inductive AT(c:Cx)(T:TM)(s:Shared)(b b':Bool)(s':Shared):Prop
 |mk (q:b'=b) (T':TM) (e:bF c T s T' s') (w:W c T' s'.heap)
noncomputable def iU(c:Cx)(env:Env)(A:Around)(H₀:Heap)(σ:ah)(e:Expr)(b:Bool):Prop:=
 ∀T s,W c T s.heap->FR c env H₀ σ T s.heap->wpAny c.M A (isTrue e env (eval e env)) (AT c T s b) cg s
section
variable{c:Cx}{env:Env}{A:Around}{H₀:Heap}{σ:ah}
theorem bQ.then{e x}{T s}{α:Type}{f:Value->Sem α}{Q:α->Shared->Prop}{E}(h:bQ c env A H₀ σ e x)(w:W c T s.heap)(F:FR c env H₀ σ T s.heap)
 (k:∀v T' s',bF c T s T' s'->W c T' s'.heap->FR c env H₀ σ T' s'.heap->VR T' v x->wpAny c.M A (f v) Q E s'):wpAny c.M A (eval e env>>=f) Q E s:=
 Vh (Vj (h T s w F) (λv s'⟨T',ex,i,r⟩=>k v T' s' ex i (F.ext ex) r) λ_ _ z=>z.elim)
theorem bQ.hold{e x}{T s}{α:Type}{l:List Value}{f:Value->Sem α}{Q:α->Shared->Prop}{E}(h:bQ c env A H₀ σ e x)(w:W c T s.heap)(F:FR c env H₀ σ T s.heap)
 (k:∀v T' s',bF c T s T' s'->W c T' s'.heap->FR c env H₀ σ T' s'.heap->VR T' v x->wpAny c.M A (f v) Q E s'):wpAny c.M A (holding l (eval e env)>>=f) Q E s:=
 Vh (VI (Vj (h T s w F) (λv s'⟨T',ex,i,r⟩=>k v T' s' ex i (F.ext ex) r) λ_ _ z=>z.elim))
theorem pu{i k pos}:bQ c env A H₀ σ (.Constant (.int i) k pos) (.int i):=λT s w F=>wpAny_Constant_int (.int w _ _ _)
theorem mP{k pos}:bQ c env A H₀ σ (.Constant .none k pos) .none:=λT s w F=>wpAny_Constant_none ⟨T,.refl ..,w,.none⟩
theorem mQ{b k pos}:bQ c env A H₀ σ (.Constant (.bool b) k pos) (.bool b):=λT s w F=>wpAny_Constant_bool ⟨T,.refl ..,w,.bool _⟩
theorem jm{x k pos}:bQ c env A H₀ σ (.Constant (.str x) k pos) (.str x):=λT s w F=>wpAny_Constant_str ⟨T,.j9 _,w,.str _ _⟩
theorem bY{x pos y}(h:σ.lookup x=some (.fz y))(hd:(x==("__debug__":Str))=false):bQ c env A H₀ σ (.Name x pos) y:=λT s w F=>
 wpAny_Name (n4 F h λv r=>⟨T,.refl ..,w,r⟩) hd
theorem r7{t b o pos x}{q:Bool}(ht:iU c env A H₀ σ t q)(hb:q=true->bQ c env A H₀ σ b x)(i:q=false->bQ c env A H₀ σ o x):bQ c env A H₀ σ (.IfExp t b o pos) x:=λT s w F=>by
 refine Vh (Vj (ht T s w F) (λu s'⟨e,T',ex,f⟩=>?_) λ_ _ z=>z.elim);subst e
 induction u with
 |true=>exact Vj (hb rfl T' s' f (F.ext ex)) (λv B g=>g.trans ex) λ_ _ z=>z
 |false=>exact Vj (i rfl T' s' f (F.ext ex)) (λv B g=>g.trans ex) λ_ _ z=>z
noncomputable def HM(c:Cx)(A:Around)(op:Operator)(x y z:AV):Prop:=∀T s u v,W c T s.heap->VR T u x->VR T v y->wpAny c.M A (binaryOp op u v) (Got c T s z) cg s
theorem r8{l op r pos x y z}(hl:bQ c env A H₀ σ l x)(hr:bQ c env A H₀ σ r y)(i:HM c A op x y z):bQ c env A H₀ σ (.BinOp l op r pos) z:=λT s w F=>by rw[arm_eval_BinOp];refine hl.then w F λu T1 s1 B G H r1=>hr.hold G H λv I J f N F2 r2=>?_;refine Vh (VG (wpAny_operate' (Vj (i I J u v N (r1.mono f.le) r2) (λv s' g=>(g.trans f).trans B) λ_ _ z=>z)))
noncomputable def Sm(a:Int):Bool:=decide (a.natAbs<2^1900)
theorem uI{a:Int}(h:Sm a=true):Builtin.Int.intBits a<=2^20:=by
 have h:=V9 h;unfold Builtin.Int.intBits;split
 . exact Vq _
 . rename_i q;have:a.natAbs≠0:=by simpa using q
   have:=(Nat.log2_lt this).mpr h;lia
theorem xV{a:Int}(h:Sm a=true):a.natAbs.log2<1920:=by
 by_cases q:a.natAbs=0
 . rw[q];decide
 . have:=(Nat.log2_lt q).mpr (V9 h);lia
theorem BI{a b:Int}(h:Sm b=true):Builtin.divisionGoesByPylong a b=false:=by
 have h2:=xV h;unfold Builtin.divisionGoesByPylong;have:decide ((if b==0 then 0 else b.natAbs.log2/30+1)>300)=false:=by apply W5;split<;>lia
 simp only[this,Bool.false_and]
noncomputable def binI(op:Operator)(a b:Int):Option AV:=match op with
 | .Add=>some (.int (a+b))
 | .Sub=>some (.int (a-b))
 | .Mult=>if Sm a&&Sm b then some (.int (a*b))else none
 | .FloorDiv=>if Sm b&&b !=0 then some (.int (a.fdiv b))else none
 | .Mod=>if b !=0 then some (.int (a.fmod b))else none
 |_=>none
theorem yj{op a b z}(h:binI op a b=some z):HM c A op (.int a) (.int b) z:=λT s u v w i B=>by
 refine ax i.inv λt f=>?_;subst f;refine ax B.inv λF f=>?_;subst f
 induction op with
 |Add=>exact Option.some.inj h▸add_int (.int w _ _ _)
 |Sub=>exact Option.some.inj h▸sub_int (.int w _ _ _)
 |Mult=>refine af (JE h) λq e=>e▸?_;have q:=(V6 ..).mp q;exact mul_int (.int w _ _ _) (IntMulOk.of_bits (uI q.1) (uI q.2))
 |Mod=>exact af (JE h) λq e=>e▸mod_int' (by simpa using q) (.int w _ _ _)
 |FloorDiv=>refine af (JE h) λq e=>e▸?_;have q:=(V6 ..).mp q;exact floordiv_int (by simpa using q.2) (.int w _ _ _) (.inl (BI q.1))
 |_=>exact ad h
theorem FE{a b:Str}(h:a.length+b.length<=sizeLine):HM c A .Add (.str a) (.str b) (.str (a++b)):=λT s u v w z i=>by refine ax z.inv λt f=>?_;subst f;refine ax i λB f=>?_;clear i;subst f;exact add_str (λB tk=>⟨T,.j9 _,w,.str _ _⟩) h
noncomputable def sQ(c:Cx)(A:Around)(op:CmpOp)(x y:AV)(b:Bool):Prop:=∀T s u v,W c T s.heap->VR T u x->VR T v y->wpAny c.M A (compareOp op u v) (Got c T s (.bool b)) cg s
noncomputable def Hj(op:CmpOp)(a b:Int):Option Bool:=match op with
 | .Eq=>some (a==b)
 | .NotEq=>some (a !=b)
 | .Lt=>some (decide (a<b))
 | .LtE=>some (decide (a<=b))
 | .Gt=>some (decide (b<a))
 | .GtE=>some (decide (b<=a))
 |_=>none
theorem Hm{op a b z}(h:Hj op a b=some z):sQ c A op (.int a) (.int b) z:=λT s u v w i B=>by
 refine ax i.inv λt f=>?_;subst f;refine ax B.inv λF f=>?_;subst f
 induction op with
 |Eq=>exact Option.some.inj h▸eq_int (.fM w _)
 |NotEq=>exact Option.some.inj h▸ne_int (.fM w _)
 |Lt=>exact Option.some.inj h▸lt_int (.fM w _)
 |LtE=>exact Option.some.inj h▸le_int (.fM w _)
 |Gt=>exact Option.some.inj h▸gt_int (.fM w _)
 |GtE=>exact Option.some.inj h▸ge_int (.fM w _)
 |_=>exact ad h
theorem Hk{a b:Str}:sQ c A .Eq (.str a) (.str b) (a==b):=λT s u v w i z=>by refine ax i.inv λt f=>?_;subst f;refine ax z.inv λB f=>?_;subst f;exact eq_str (.fM w _)
noncomputable def isNone:AV->Bool
 | .none=>true
 |_=>false
theorem VR.none?{T:TM}{x u}(h:VR T u x):(u==Value.none)=isNone x:=by induction x using AV.casesOn<;>first|(obtain rfl:=h;rfl)|(refine ax h λ_ f=>?_;clear h;subst f;rfl)|(refine ab h λ_ f _=>?_;clear h;subst f;rfl)|(refine aP h λ_ _ i _=>?_;clear h;subst i;rfl)
theorem wW{x}:sQ c A .Is x .none (isNone x):=λT s u v w f i=>by obtain rfl:=i.inv;exact is_none (f.none?.symm▸ .fM w _)
theorem pF{x}:sQ c A .IsNot x .none (!isNone x):=λT s u v w f i=>by obtain rfl:=i.inv;exact isNot_none (f.none?.symm▸ .fM w _)
theorem cG{op:CmpOp}{e:Expr}{t:Sem Value}(h:behindInMarks op e=false):markedEach [op] [e] [t]=[t]:=by unfold markedEach;rw[markedBehindIn_of_false h]
theorem GW{l op r pos x y b}(i:behindInMarks op r=false)(hl:bQ c env A H₀ σ l x)(hr:bQ c env A H₀ σ r y)(B:sQ c A op x y b):bQ c env A H₀ σ (.Compare l [op] [r] pos) (.bool b):=λT s w F=>by rw[arm_eval_Compare];refine hl.then w F λu T1 s1 G H I r1=>?_;rw[cG i];refine hr.hold H I λv J N f O F2 r2=>?_;exact Vh (VG (wpAny_operate' (Vj (B J N u v O (r1.mono f.le) r2) (λv s' g=>(g.trans f).trans G) λ_ _ z=>z)))
theorem EY{l op r pos x y b}(i:behindInMarks op r=false)(hl:bQ c env A H₀ σ l x)(hr:bQ c env A H₀ σ r y)(B:sQ c A op x y b):iU c env A H₀ σ (.Compare l [op] [r] pos) b:=λT s w F=>by rw[arm_isTrue_Compare];refine hl.then w F λu T1 s1 G H I r1=>?_;rw[cG i];refine hr.hold H I λv J N f O F2 r2=>?_;refine Vh (VG (Vh (wpAny_operate' (Vj (B J N u v O (r1.mono f.le) r2) (λz s' g=>?_) λ_ _ z=>z))));obtain⟨T',ex,P,Q⟩:=g;obtain rfl:=Q.inv;exact VI (wpAny_truthy_bool ⟨rfl,T',(G.trans f).trans ex,P⟩)
end
set_option tactic.hygienic false
structure aM(c:Cx):Prop where
 K:c.K.In c.h₀
 g:∃mg,c.h₀.Ns mainGlobals mg
 b:∃mb,c.h₀.Ns builtinsNs mb/\∀x:Str,x≠"__name__"->mb x=bootBuiltins x
 lim:c.h₀.NoLimit
 mods:∃o,c.h₀.get? sysModules=some o
theorem aM.iH{c:Cx}(O:aM c){a:Addr}(h:c.h₀.get? a=none):(a==sysModules)=false:=by refine ax O.mods λo f=>?_;refine beq_eq_false_iff_ne.mpr λq=>?_;rw[q,f]at h;injection h
theorem W.gh{c T h}(w:W c T h)(O:aM c):c.K.In h:=O.K.keeps w.base
noncomputable def kq(c:Cx)(env:Env)(A:Around)(H₀:Heap)(σ:ah)(e:Expr)(v:Value):Prop:=
 ∀T s,W c T s.heap->FR c env H₀ σ T s.heap->wpAny c.M A (eval e env) (λv' s'=>v'=v/\s'=s) cg s
noncomputable def Uz(c:Cx)(T:TM)(s:Shared)(x:AV):Result->Shared->Prop:=λr s'=>∃v,r= .ok (.ret v)/\Got c T s x v s'
noncomputable def KR(T:TM)(p:Str×Value)(q:Str×AV):Prop:=p.1=q.1/\VR T p.2 q.2
noncomputable abbrev jA(T:TM):=F2 (KR T)
theorem jA.cons{T:TM}{k v x vs xs}(h:VR T v x)(t:jA T vs xs):jA T ((k,v)::vs) ((k,x)::xs):=F2.cons ⟨rfl,h⟩ t
theorem jA.keys{T:TM}{vs xs}(h:jA T vs xs):vs.map (·.1)=xs.map (·.1):=by
 induction h with
 |nil=>rfl
 |cons h _ ih=>exact congr (Vx List.cons h.1) ih
noncomputable def dz(c:Cx)(f:Addr)(xs:List AV)(kx:List (Str×AV))(r:AV)(k:Nat):Prop:=
 ∀A T s vs kv,cD A k->W c T s.heap->dx T vs xs->jA T kv kx->codeAny c.M A (.call (.ref f) ⟨vs,kv⟩) (Uz c T s r) s
theorem dz.run{c f xs kx r k A T s vs kv}(h:dz c f xs kx r k)(R:cD A k)(w:W c T s.heap)(hv:dx T vs xs)(i:jA T kv kx):wpAny c.M A (call (.ref f) vs kv) (Got c T s r) cg s:=
 wpAny_call (codeAny_mono (h A T s vs kv R w hv i) λu s'⟨v,e,g⟩=>by subst e;exact g)
section
variable{c:Cx}{env:Env}{A:Around}{H₀:Heap}{σ:ah}
theorem CT(O:aM c){x pos v}(hx:env.kindOf x=some .globalImplicit)(e:nsIn c.K mainGlobals x=some (some v))(hd:(x==("__debug__":Str))=false):kq c env A H₀ σ (.Name x pos) v:=λT s w F=>by refine Name_function_global F.kind hx ?_ hd;unfold loadGlobal;rw[F.glob];refine Vh ((looks_nsIn (w.gh O) e).here ?_);exact Vz ⟨rfl,rfl⟩
theorem vx(O:aM c){x pos v}(hx:env.kindOf x=some .globalImplicit)(e:nsIn c.K mainGlobals x=some none)(hb:bootBuiltins x=some v)(hn:x≠"__name__")(hd:(x==("__debug__":Str))=false):kq c env A H₀ σ (.Name x pos) v:=λT s w F=>by refine Name_function_global F.kind hx ?_ hd;unfold loadGlobal;rw[F.glob,F.blt];refine Vh ((looks_nsIn (w.gh O) e).here ?_);refine ab O.b λf h1 h2=>?_;refine Vh (wpAny_nsGet (h1.keeps w.base) ?_);rw[h2 x hn,hb];exact Vz ⟨rfl,rfl⟩
noncomputable def noStar:List Expr->Bool
 |[]=>true
 |e::r=> !isStarred e&&noStar r
theorem aA{e:Expr}{r:List Expr}(h:isStarred e=false):starEach (e::r) env=(false,eval e env)::starEach r env:=by induction e using Expr.casesOn<;>first|rfl|injection h
theorem bW(pos:Pos):∀{f:List Expr},noStar f=true->(backTo pos (starEach f env)).any (·.1)=false
 |[],_=>rfl
 |e::r,h=>by rw[noStar,V6,Bool.not_eq_true']at h;rw[aA h.1];show(false||(backTo pos (starEach r env)).any (·.1))=false;rw[bW pos h.2];rfl
noncomputable def dT(c:Cx)(env:Env)(A:Around)(H₀:Heap)(σ:ah):=F2 λe x=>isStarred e=false/\bQ c env A H₀ σ e x
theorem dT.nil:dT c env A H₀ σ [] []:=F2.nil
theorem dT.cons{e es x xs}(f:isStarred e=false)(h:bQ c env A H₀ σ e x)(t:dT c env A H₀ σ es xs):dT c env A H₀ σ (e::es) (x::xs):=F2.cons ⟨f,h⟩ t
theorem nh{β:Type}{R:Expr->β->Prop}{es xs}(h:F2 R es xs)(k:∀{e x},R e x->isStarred e=false):noStar es=true:=by
 induction h with
 |nil=>rfl
 |cons h _ ih=>exact WY.mpr ⟨by rw[k h];rfl,ih⟩
theorem dT.noStar{es xs}(h:dT c env A H₀ σ es xs):noStar es=true:=nh h (·.1)
theorem Dx.cons{T s x xs v vs s' T' fo}(e:bF c T s T' s')(r:VR T' v x)(g:Dx c T' s' xs vs fo):Dx c T s (x::xs) (v::vs) fo:=
 let⟨uq,e',w,rr⟩:=g;⟨uq,e.trans e',w,.cons (r.mono e'.le) rr⟩
theorem dT.run{es xs}(h:dT c env A H₀ σ es xs):∀{pos T s},W c T s.heap->FR c env H₀ σ T s.heap->wpAny c.M A (spliced (backTo pos (starEach es env))) (Dx c T s xs) cg s:=by
 induction h with
 |nil=>intro pos T s w F;exact wpAny_items_nil ⟨T,.refl ..,w,.nil⟩
 |cons h t ih=>intro pos T s w F;refine wpAny_items_cons (Vj (h.2 T s w F) (λv s'⟨T',ex,f,r⟩=>?_) λ_ _ z=>z) (aA h.1);exact Vj (ih f (F.ext ex)) (λvs i g=>g.cons ex r) λ_ _ z=>z
theorem ma{es xs k pos}(h:dT c env A H₀ σ es xs)(i:xs.length<=1000):bQ c env A H₀ σ (.Tuple es k pos) (.tup xs):=λT s w F=>by refine wpAny_Tuple (Vj (h.run w F) (λvs s'⟨T',ex,f,r⟩=>⟨by rw[r.length,sizeLine_eq];lia,(CE f r).trans ex⟩) λ_ _ z=>z)
theorem dk{es xs pos f T s}{Q:Args->Shared->Prop}{E}(h:dT c env A H₀ σ es xs)(w:W c T s.heap)(F:FR c env H₀ σ T s.heap)
 (q:∀vs T' s',bF c T s T' s'->W c T' s'.heap->dx T' vs xs->Q ⟨vs,[]⟩ s'):wpAny c.M A (evalArgs f true (backTo pos (starEach es env)) []) Q E s:=by
 have i:=h.run (pos:=pos) w F
 induction es using List.casesOn with
 |nil=>obtain rfl:=h.flip.inv;exact evalArgs_nil3 (q [] T s (.refl ..) w .nil)
 |cons=>rcases h.flip.inv with⟨_,_,rfl,h,t⟩;rw[aA h.1]at i⊢;exact evalArgs_plain (Vj i (λvs s'⟨T',ex,u,r⟩=>q vs T' s' ex u r) λ_ _ z=>z.elim)
theorem gk(O:aM c){es xs pos f k T s first fx r}(B:keepIn c.K (.ref f)=true)(i:dT c env A H₀ σ es xs)(G:dz c f (fx++xs) [] r k)(R:cD A k)
 (w:W c T s.heap)(F:FR c env H₀ σ T s.heap)(hf:dx T first fx):wpAny c.M A (callWith pos (.ref f) first (backTo pos (starEach es env)) []) (Got c T s r) cg s:=by
 refine callWith_of (P:=λh=>c.K.In h) (by rw[bW pos i.noStar];rfl) (keeps_K B) ?_;refine dk i w F λvs T' s' ex u H=>⟨u.gh O,?_⟩;exact Vj (G.run R u ((hf.mono ex.le).append H) .nil) (λv I g=>g.trans ex) λ_ _ z=>z
theorem CU(O:aM c){id p es xs pos f k r}(hn:kq c env A H₀ σ (.Name id p) (.ref f))(i:keepIn c.K (.ref f)=true)(u:dT c env A H₀ σ es xs)(B:dz c f xs [] r k)(R:cD A k):
 bQ c env A H₀ σ (.Call (.Name id p) es [] pos) r:=λT s w F=>by
 rw[arm_eval_Call_Name'];refine Vh (Vj (hn T s w F) (λv s'⟨G,H⟩=>?_) λ_ _ z=>z);subst G;subst H;exact gk (fx:=[]) O i u B R w F .nil
end
noncomputable def one{α:Type}:List α->Option α
 |[]=>none
 |a::l=>match l with
  |[]=>some a
  |_::_=>none
noncomputable def two{α:Type}:List α->Option (α×α)
 |[]=>none
 |a::l=>(one l).map λb=>(a,b)
structure VE where
 nm:Option (Str×Pos)
 HJ:Option (Expr×Str×Pos)
 call:Option (Expr×List Expr×List Keyword×Pos)
 tup:Option (List Expr×Nat×Pos)
 MO:Option (Option Expr×Option Expr×Option Expr×Pos)
 cst:Option (Const×Nat×Pos)
 set:Bool
 plain:Bool
 comp:Bool
noncomputable def vE:Expr->VE
 | .Name x p=>⟨some (x,p),none,none,none,none,none,false,true,false⟩
 | .Attribute o x p=>⟨none,some (o,x,p),none,none,none,none,false,true,false⟩
 | .Call f as ks p=>⟨none,none,some (f,as,ks,p),none,none,none,false,true,false⟩
 | .Tuple es n p=>⟨none,none,none,some (es,n,p),none,none,false,true,false⟩
 | .Slice a b c p=>⟨none,none,none,none,some (a,b,c,p),none,false,true,false⟩
 | .Constant c n p=>⟨none,none,none,none,none,some (c,n,p),false,true,false⟩
 | .Set .. =>⟨none,none,none,none,none,none,true,true,false⟩
 | .UnaryOp .. =>⟨none,none,none,none,none,none,false,false,false⟩
 | .BoolOp .. =>⟨none,none,none,none,none,none,false,false,false⟩
 | .IfExp .. =>⟨none,none,none,none,none,none,false,false,false⟩
 | .Compare .. =>⟨none,none,none,none,none,none,false,false,false⟩
 | .ListComp .. =>⟨none,none,none,none,none,none,false,true,true⟩
 | .SetComp .. =>⟨none,none,none,none,none,none,false,true,true⟩
 | .DictComp .. =>⟨none,none,none,none,none,none,false,true,true⟩
 | .NamedExpr .. =>⟨none,none,none,none,none,none,false,false,false⟩
 |_=>⟨none,none,none,none,none,none,false,true,false⟩
noncomputable def iI(e:Expr):Option (Str×Pos):=(vE e).nm
noncomputable def He:Const->Option Int
 | .int j=>some j
 |_=>none
theorem JF{α:Type}{c:Prop}[Decidable c]{a:Option α}{b:α}(h:(if c then a else none)=some b):c/\a=some b:=by
 by_cases q:c
 . exact⟨q,(Vi q).symm.trans h⟩
 . exact nomatch (Vk q).symm.trans h
theorem sT{α:Type}{c:Bool}{a:Option α}{b:α}(h:(if c=true then none else a)=some b):c=false/\a=some b:=by
 induction c with
 |false=>exact⟨rfl,h⟩
 |true=>exact nomatch h
theorem rQ{α:Type}{c:Bool}{a:Option α}{b:α}(h:(if c=true then a else none)=some b):c=true/\a=some b:=JF h
theorem bL{α β:Type}{o:Option α}{f:α->Option β}{b:β}(h:o.bind f=some b):∃a,o=some a/\f a=some b:=Option.bind_eq_some_iff.mp h
theorem ar{α β:Type}{P:Prop}{o:Option α}{f:α->Option β}{b:β}(h:o.bind f=some b)(k:∀a,o=some a->f a=some b->P):P:=let⟨a,x,y⟩:=Option.bind_eq_some_iff.mp h;k a x y
theorem bK{a b:Bool}{P:Prop}(h:(a&&b)=true)(k:a=true->b=true->P):P:=k (WY.mp h).1 (WY.mp h).2
theorem bD{α:Type}{p P:Prop}[Decidable p]{a:Option α}{b:α}(h:(if p then a else none)=some b)(k:p->a=some b->P):P:=by
 by_cases q:p
 . rw[Vi q]at h;exact k q h
 . rw[Vk q]at h;exact nomatch h
theorem yM{α β:Type}{P:Prop}{o:Option α}{f:α->β}{b:β}(h:o.map f=some b)(k:∀a,o=some a->f a=b->P):P:=let⟨a,x,y⟩:=V3.mp h;k a x y
theorem de{α:Type}{l:List α}{a}(h:one l=some a):l=[a]:=by
 match l,h with
 |[b],h=>exact Vx (λx=>[x]) (Option.some.inj h)
theorem iz{α:Type}{l:List α}{p:α×α}(h:two l=some p):l=[p.1,p.2]:=by
 rcases l with _|⟨b,l⟩
 . exact nomatch h
 . refine ab (V3.mp h) λd e q=>?_;rw[de e,<-q]
theorem RP{a:Bool}(h:(!a)=false):a=true:=by induction a;exact nomatch h;rfl
theorem Db{a:Bool}(h:(!a)=true):a=false:=by induction a;rfl;exact nomatch h
theorem be{a b:Bool}(h:(a&&b)=true):a=true/\b=true:=WY.mp h
theorem cj{e p}(h:iI e=some p):e= .Name p.1 p.2:=by
 have:(match iI e with|some p=> .Name p.1 p.2|none=>e)=e:=by induction e using Expr.casesOn<;>rfl
 rw[h]at this;exact this.symm
theorem um{e p}(h:(vE e).HJ=some p):e= .Attribute p.1 p.2.1 p.2.2:=by
 have:(match(vE e).HJ with|some p=> .Attribute p.1 p.2.1 p.2.2|none=>e)=e:=by induction e using Expr.casesOn<;>rfl
 rw[h]at this;exact this.symm
theorem pG{e p}(h:(vE e).call=some p):e= .Call p.1 p.2.1 p.2.2.1 p.2.2.2:=by
 have:(match(vE e).call with|some p=> .Call p.1 p.2.1 p.2.2.1 p.2.2.2|none=>e)=e:=by induction e using Expr.casesOn<;>rfl
 rw[h]at this;exact this.symm
theorem lr{e p}(h:(vE e).tup=some p):e= .Tuple p.1 p.2.1 p.2.2:=by
 have:(match(vE e).tup with|some p=> .Tuple p.1 p.2.1 p.2.2|none=>e)=e:=by induction e using Expr.casesOn<;>rfl
 rw[h]at this;exact this.symm
theorem Hd{e p}(h:(vE e).cst=some p):e= .Constant p.1 p.2.1 p.2.2:=by
 have:(match(vE e).cst with|some p=> .Constant p.1 p.2.1 p.2.2|none=>e)=e:=by induction e using Expr.casesOn<;>rfl
 rw[h]at this;exact this.symm
theorem Fp{e p}(h:(vE e).MO=some p):e= .Slice p.1 p.2.1 p.2.2.1 p.2.2.2:=by
 have:(match(vE e).MO with|some p=> .Slice p.1 p.2.1 p.2.2.1 p.2.2.2|none=>e)=e:=by induction e using Expr.casesOn<;>rfl
 rw[h]at this;exact this.symm
theorem C6{q j}(h:He q=some j):q= .int j:=by
 have:(match He q with|some j=> .int j|none=>q)=q:=by induction q<;>rfl
 rw[h]at this;exact this.symm
set_option tactic.hygienic true
theorem eB{h:Heap}{d:Addr}{m:Str->Option Value}{es n}(hn:h.Ns d m)(i:h.get? d=some (aC es n))(name:Str):lookIn name (aC es n)=some (m name):=by
 refine CX hn λo G H f u B F=>?_;rw[i]at f;obtain rfl:=Option.some.inj f;(injection u with z;subst z);rw[<-F name];unfold lookIn nsFind findBy;dsimp only;rw[<-Array.find?_toList]
 cases hf:es.toList.find? (·.key.isStr name)with
 |some e=>rfl
 |none=>
  have:es.toList.any (·.refKey)=false:=by rw[List.any_eq_false];intro e he;refine cq (B e (Array.mem_toList_iff.mp he)) λn t h=>?_;simp[DictEntry.refKey,h]
  simp[this]
noncomputable def MW(K:Frag):Value->Option Addr
 | .ref f=>if typeIn K (.ref f)==some (.type "function")then some f else none
 |_=>none
noncomputable def jN(K:Frag)(C:Addr)(name:Str):Option Addr:=(findIn K (.ref C) name).bind λo=>o.bind (MW K)
theorem wv{K C name f}(h:jN K C name=some f):findIn K (.ref C) name=some (some (.ref f))/\typeIn K (.ref f)=some (.type "function"):=
 ar h λo e h=>ar h λv i h=>by
  subst i
  induction v with
  |ref g=>exact af (JE h) λq z=>z▸⟨e,beq_iff_eq.mp q⟩
  |_=>exact ad h
structure f0(K:Frag)(C:Addr):Prop where
 get:findIn K (.ref C) "__getattribute__"=some (some (.builtin "object.__getattribute__"))
 hook:findIn K (.ref C) "__getattr__"=some none
 has:hasDictIn K C=true
 plain:∀k,az.contains k=true->findIn K (.ref C) k=some none
section
variable{c:Cx}{env:Env}{A:Around}{H₀:Heap}{σ:ah}
structure LF(c:Cx)(T:TM)(h:Heap)(a C:Addr)(fl:List (Str×AV))(d:Addr)(m:Str->Option Value)(es:Array DictEntry)(n:Nat):Prop where
 inst:InstAt h a (instObj C d) C (some (aC es n))
 ns:h.Ns d m
 fld:∀k x,fl.lookup k=some x->∃v,m k=some v/\VR T v x
 off:∀k,az.contains k=false->k≠aB->m k=none
inductive Qa(c:Cx)(T:TM)(h:Heap)(v:Value)(C:Addr)(fl:List (Str×AV)):Prop
 |mk (a d:Addr) (m:Str->Option Value) (es:Array DictEntry) (n:Nat) (ev:v= .ref a) (I:LF c T h a C fl d m es n)
theorem il{T h v C fl}(w:W c T h)(r:VR T v (.obj C fl)):Qa c T h v C fl:=by
 refine cP r λa u z ht B=>?_;clear r;subst z;obtain⟨_,_,_,_,at_,own,i,ns,f,names,F,_⟩:=w.ok _ _ ht;refine⟨a,_,_,_,_,rfl,⟨at_,rfl,rfl,i⟩,ns,λk x e=>?_,λk h1 h2=>?_⟩<;>have:=f k
 . rw[B.sub k x e]at this;exact this
 . induction e:u.lookup k with
   |some x=>exact Vu (h1.symm.trans (names k x e)) VU
   |none=>rw[e]at this;exact(Vk h2).mp this
theorem jS{T v x}(r:VR T v x):handedIn v=true:=r.is (P:=λv=>handedIn v=true) rfl (λ_=>rfl) (λ_ _=>rfl) (λ_ _=>rfl) λ_=>rfl
theorem xu(O:aM c){T s v C fl k x}{f:Bool}(X:f0 c.K C)(i:az.contains k=true)(e:fl.lookup k=some x)(w:W c T s.heap)(r:VR T v (.obj C fl)):wpAny c.M A (getAttr v k f) (Got c T s x) cg s:=by obtain⟨a,d,m,z,n,rfl,I⟩:=il w r;refine ab (I.fld k x e) λu h1 h2=>?_;refine get_value (w.gh O) I.inst X.get (findObj_own X.has (X.plain k i) rfl ?_) (jS h2) ⟨T,.j9 _,w,h2⟩;rw[eB I.ns I.inst.dict,h1]
noncomputable def bk(o:Expr):Bool:=(vE o).call.all λp=> !(p.2.1.isEmpty&&p.2.2.1.isEmpty&&(iI p.1).isSome)
theorem dw{o:Expr}{i:Str}{t:Sem Value}(h:bk o=true):attributeBase o i env t=t:=by
 induction o using Expr.casesOn<;>try rfl
 rename_i f u z pos;induction f using Expr.casesOn<;>try rfl
 induction u using List.casesOn<;>try rfl
 induction z using List.casesOn<;>try rfl
 exact Vu h VU
theorem vy{o attr pos C fl y}(hb:bk o=true)(f:bQ c env A H₀ σ o (.obj C fl))(i:∀T s v,W c T s.heap->VR T v (.obj C fl)->wpAny c.M A (getAttr v attr true) (Got c T s y) cg s):bQ c env A H₀ σ (.Attribute o attr pos) y:=λT s w F=>by rw[arm_eval_Attribute,dw hb];refine f.then w F λv T1 s1 B G H r1=>Vh (VG (Vh (VI (Vj (i T1 s1 v G r1) (λu I g=>?_) λ_ _ z=>z))));exact Vh (wpAny_letTemporaryGo (Vz (g.trans B)))
theorem zZ(O:aM c){o attr pos C fl x}(hb:bk o=true)(f:bQ c env A H₀ σ o (.obj C fl))(X:f0 c.K C)(i:az.contains attr=true)(e:fl.lookup attr=some x):bQ c env A H₀ σ (.Attribute o attr pos) x:=
 vy hb f λT s v w r=>xu O X i e w r
structure ur(K:Frag)(C:Addr)(name:Str)(p f:Addr):Prop where
 find:findIn K (.ref C) name=some (some (.ref p))
 get:specialIn K (.ref p) "__get__"=some (some (.builtin "property.__get__"))
 takes:takesIn K (.ref p)=some true
 made:∃rest,recIn K p "property"=some (.ref f::rest)
theorem zh{K C}(h:hasDictIn K C=true):(clsIn K C).isSome=true:=by refine ab (any_some h) λf e _=>?_;rw[e];rfl
theorem Bc(O:aM c){T s v C fl k name p f y}{i:Bool}(X:f0 c.K C)(P:ur c.K C name p f)(B:dz c f [.obj C fl] [] y k)(R:cD A k)(F:A.units+8*k+101<=9800)(w:W c T s.heap)(r:VR T v (.obj C fl)):wpAny c.M A (getAttr v name i) (Got c T s y) cg s:=by obtain⟨a,d,m,N,n,rfl,I⟩:=il w r;refine ax P.made λrest hr=>?_;refine get_bind (w.gh O) I.inst X.get (findObj_data (zh X.has) P.find P.get P.takes) X.hook (wpAny_call (prop_get (s:={s with toks:=s.toks+1}) (w.gh O) hr ?_));refine codeAny_mono (B A.in1 T {s with toks:=s.toks+1} [.ref a] [] (R.in1 F) w (.cons r .nil) .nil) λG s'⟨u,H,T',ex,J,z⟩=>?_;subst H;exact handed_on (jS z) ⟨T',(bF.j9 _).trans ex,J,z⟩
theorem iV(O:aM c){T s v C fl name f}{i:Sem Bool}{Q:Value×List Value->Shared->Prop}{E}(X:f0 c.K C)(u:jN c.K C name=some f)(h1:az.contains name=false)(h2:name≠aB)(w:W c T s.heap)(r:VR T v (.obj C fl))
 (h:Q (.ref f,[v]) s):wpAny c.M A (getMethod v name i) Q E s:=by
 obtain⟨a,d,m,z,n,rfl,I⟩:=il w r;refine af (wv u) λB F=>?_;refine method_fn (w.gh O) I.inst X.get X.hook B F ?_ h;show(lookIn name (aC z n)).map _=_;rw[eB I.ns I.inst.dict,I.off name h1 h2];rfl
theorem cy{o:Expr}{name:Str}{i pos:Pos}{u:Value}{n:Nat}{f:List (Bool×Sem Value)}{s:Shared}{Q:Value->Shared->Prop}{E}(hl:(i.endLine==pos.line)=true)(hn:n<30)(B:f.any (·.1)=false)
 (F:∀G,wpAny c.M A (getMethod u name G) (λfx s'=>wpAny c.M A (callWith pos fx.1 fx.2 f []) Q E s') E s):wpAny c.M A (methodCall o name i pos env u n f []) Q E s:=by
 unfold methodCall;have hf:methodCallForm n f []=true:=by
  unfold methodCallForm;have:f.all (λx=> !x.1)=true:=by rw[VB];intro x hx;rw[List.any_eq_false]at B;simpa using B x hx
  simp only[this,List.all_nil,Bool.true_and,List.isEmpty_nil,if_true,Nat.add_zero];exact VJ hn
 rw[hf];unfold calleeOf methodCallPos;rw[Vi rfl];refine Vh (VI (Vj (F _) (λfx s' h=>?_) λ_ _ z=>z));rw[hl];exact Vh (Vz h)
theorem wM(O:aM c){o name apos pos es xs C fl f r k}(hb:bk o=true)(G:bQ c env A H₀ σ o (.obj C fl))(X:f0 c.K C)(H:jN c.K C name=some f)(h1:az.contains name=false)(h2:name≠aB)
 (I:keepIn c.K (.ref f)=true)(i:dT c env A H₀ σ es xs)(J:dz c f (.obj C fl::xs) [] r k)(R:cD A k)(hl:(apos.endLine==pos.line)=true)(hn:es.length<30):bQ c env A H₀ σ (.Call (.Attribute o name apos) es [] pos) r:=λT s w F=>by
 rw[arm_eval_Call,dw hb];refine G.then w F λv T1 s1 N B P r1=>Vh (VG ?_);refine cy hl (by exact hn) (bW pos i.noStar) λQ=>iV O X H h1 h2 B r1 ?_;exact Vj (gk O (fx:=[.obj C fl]) I i J R B P (.cons r1 .nil)) (λu U g=>g.trans N) λ_ _ z=>z
noncomputable def mA(c:Cx)(C f:Addr)(name:Str):Prop:=∀A T s,W c T s.heap->wpAny c.M A (getAttr (.ref C) name) (λv s'=>v= .ref f/\∃t,s'={s with toks:=t}) cg s
theorem wZ(O:aM c){C f mc name}(hr:readsIn c.K C mc=true)(e:findCls c.K (.ref C) mc name=some (.val (.ref f))):mA c C f name:=λA T s w=>
 cls_value (w.gh O) hr e rfl ⟨rfl,_,rfl⟩
theorem mR(O:aM c){C f mc name p rest}(hr:readsIn c.K C mc=true)(e:findCls c.K (.ref C) mc name=some (.get (.builtin "staticmethod.__get__") (.ref p) .none (.ref C)))(i:recIn c.K p "staticmethod"=some (.ref f::rest)):mA c C f name:=λA T s w=>
 cls_bind (w.gh O) hr e (wpAny_call (sm_get (s:={s with toks:=s.toks+1}) (w.gh O) i (handed_on rfl ⟨rfl,_,rfl⟩)))
theorem ug(O:aM c){id p name apos pos es xs C f r k}(hb:kq c env A H₀ σ (.Name id p) (.ref C))(H:specialIn c.K (.ref C) "__getattribute__"=some (some (.builtin "type.__getattribute__")))(I:mA c C f name)
 (J:keepIn c.K (.ref f)=true)(G:dT c env A H₀ σ es xs)(N:dz c f xs [] r k)(R:cD A k)(hl:(apos.endLine==pos.line)=true)(hn:es.length<30):bQ c env A H₀ σ (.Call (.Attribute (.Name id p) name apos) es [] pos) r:=λT s w F=>by
 rw[arm_eval_Call,dw rfl];refine Vh (Vj (hb T s w F) (λv s'⟨i,B⟩=>?_) λ_ _ z=>z);subst i;subst B;refine Vh (VG ?_);refine cy hl (by exact hn) (bW pos G.noStar) λP=>method_cls (w.gh O) H (Vj (I A T _ w) (λv s'⟨i,t,B⟩=>?_) λ_ _ z=>z);subst i;subst B;exact Vj (gk O (fx:=[]) (T:=T) J G N R w F .nil) (λu Q g=>g.trans (.j9 t)) λ_ _ z=>z
end
set_option tactic.hygienic false
inductive Ar where
 |a(x:AV)
 |k(v:Value)
noncomputable def Ih(T:TM)(v:Value)(a:Ar):Prop:=Ar.casesOn (motive:=λ_=>Prop) a (λx=>VR T v x) (λw=>v=w)
noncomputable def nZ(T:TM):=F2 (Ih T)
theorem nZ.nil{T:TM}:nZ T [] []:=F2.nil
theorem nZ.a{T:TM}{v x vs xs}(h:VR T v x)(t:nZ T vs xs):nZ T (v::vs) (.a x::xs):=F2.cons h t
theorem nZ.k{T:TM}{v vs xs}(t:nZ T vs xs):nZ T (v::vs) (.k v::xs):=F2.cons rfl t
noncomputable def Qo(T:TM)(vs:List Value):List Ar->Prop
 |[]=>vs=[]
 | .a x::xs=>∃v r,vs=v::r/\VR T v x/\nZ T r xs
 | .k v::xs=>∃r,vs=v::r/\nZ T r xs
theorem nZ.inv{T:TM}{vs xs}(h:nZ T vs xs):Qo T vs xs:=by
 have h:=F2.inv h
 induction xs using List.casesOn with
 |nil=>exact h
 |cons x=>
  obtain⟨v,r,rfl,h,t⟩:=h
  induction x with
  |a=>exact uh _ _ rfl h t
  |k=>obtain rfl:=h;exact ag _ rfl t
theorem D3{T:TM}:∀{f vs:List Value},nZ T vs (f.map .k)->vs=f
 |[],_,h=>by obtain rfl:=h.inv;rfl
 |c::r,_,h=>by refine ab h.inv λ_ i t=>?_;subst i;rw[D3 t]
section
variable{c:Cx}{env:Env}{A:Around}{H₀:Heap}{σ:ah}
noncomputable def HR(c:Cx)(env:Env)(A:Around)(H₀:Heap)(σ:ah)(e:Expr)(a:Ar):Prop:=isStarred e=false/\Ar.casesOn (motive:=λ_=>Prop) a (λx=>bQ c env A H₀ σ e x) λv=>kq c env A H₀ σ e v
noncomputable def gc(c:Cx)(env:Env)(A:Around)(H₀:Heap)(σ:ah):=F2 (HR c env A H₀ σ)
theorem gc.nil:gc c env A H₀ σ [] []:=F2.nil
theorem gc.a{e es x xs}(f:isStarred e=false)(h:bQ c env A H₀ σ e x)(t:gc c env A H₀ σ es xs):gc c env A H₀ σ (e::es) (.a x::xs):=F2.cons ⟨f,h⟩ t
theorem gc.k{e es v xs}(f:isStarred e=false)(h:kq c env A H₀ σ e v)(t:gc c env A H₀ σ es xs):gc c env A H₀ σ (e::es) (.k v::xs):=F2.cons ⟨f,h⟩ t
theorem gc.noStar{es xs}(h:gc c env A H₀ σ es xs):noStar es=true:=nh h (·.1)
theorem Ih.mono{T T':TM}{v a}(h:Ih T v a)(l:js T T'):Ih T' v a:=by
 induction a with
 |a=>exact VR.mono h l
 |k=>exact h
theorem HR.run{e a T s}(h:HR c env A H₀ σ e a)(w:W c T s.heap)(F:FR c env H₀ σ T s.heap):wpAny c.M A (eval e env) (λv s'=>∃T',bF c T s T' s'/\W c T' s'.heap/\Ih T' v a) cg s:=by
 have h:=h.2
 induction a with
 |a=>exact Vj (h T s w F) (λv s'⟨T',ex,f,r⟩=>⟨T',ex,f,r⟩) λ_ _ z=>z
 |k=>exact Vj (h T s w F) (λv s'⟨q1,q2⟩=>⟨T,q2▸ .refl ..,q2▸w,q1⟩) λ_ _ z=>z
theorem gc.run{es xs}(h:gc c env A H₀ σ es xs):∀{pos T s},W c T s.heap->FR c env H₀ σ T s.heap->wpAny c.M A (spliced (backTo pos (starEach es env))) (λvs s'=>∃T',bF c T s T' s'/\W c T' s'.heap/\nZ T' vs xs) cg s:=by
 induction h with
 |nil=>intro pos T s w F;exact wpAny_items_nil ⟨T,.refl ..,w,.nil⟩
 |cons h t ih=>intro pos T s w F;refine wpAny_items_cons (Vj (h.run w F) (λv s'⟨T',ex,i,r⟩=>?_) λ_ _ z=>z) (aA h.1);exact Vj (ih i (F.ext ex)) (λvs H⟨u,f,B,G⟩=>⟨u,ex.trans f,B,F2.cons (r.mono f.le) G⟩) λ_ _ z=>z
theorem n8{es xs pos f T s}{Q:Args->Shared->Prop}{E}(h:gc c env A H₀ σ es xs)(w:W c T s.heap)(F:FR c env H₀ σ T s.heap)
 (q:∀vs T' s',bF c T s T' s'->W c T' s'.heap->nZ T' vs xs->Q ⟨vs,[]⟩ s'):wpAny c.M A (evalArgs f true (backTo pos (starEach es env)) []) Q E s:=by
 have i:=h.run (pos:=pos) w F
 induction es using List.casesOn with
 |nil=>obtain rfl:=(F2.flip h).inv;exact evalArgs_nil3 (q [] T s (.refl ..) w .nil)
 |cons=>rcases(F2.flip h).inv with⟨_,_,rfl,h,t⟩;rw[aA h.1]at i⊢;exact evalArgs_plain (Vj i (λvs s'⟨T',ex,u,r⟩=>q vs T' s' ex u r) λ_ _ z=>z.elim)
noncomputable def HT(c:Cx)(A:Around)(f:Value)(xs:List Ar)(r:AV):Prop:=∀T s vs,W c T s.heap->nZ T vs xs->wpAny c.M A (call f vs) (Got c T s r) cg s
theorem df{id p bi es xs pos r}(hn:kq c env A H₀ σ (.Name id p) (.builtin bi))(f:gc c env A H₀ σ es xs)(i:HT c A (.builtin bi) xs r):bQ c env A H₀ σ (.Call (.Name id p) es [] pos) r:=λT s w F=>by rw[arm_eval_Call_Name'];refine Vh (Vj (hn T s w F) (λv s'⟨B,G⟩=>?_) λ_ _ z=>z);subst B;subst G;refine callWith_builtin (bW pos f.noStar) (n8 f w F λvs T' s' ex H r=>?_);exact Vj (i T' s' vs H r) (λu I g=>g.trans ex) λ_ _ z=>z
noncomputable def iW:AV->Value
 | .none=> .type "NoneType"
 | .bool _=> .type "bool"
 | .int _=> .type "int"
 | .str _=> .type "str"
 | .obj C _=> .ref C
 | .list _=> .type "list"
 | .tup _=> .type "tuple"
 | .dict _=> .type "dict"
structure kr(K:Frag)(C:Addr):Prop where
 get:plainGet K C "__class__"=true
 has:hasDictIn K C=true
 find:findIn K (.ref C) "__class__"=some (some (.builtin "object.__class__"))
 mro:mroIn K C (.type "object")=some true
structure LJ(K:Frag):Prop where
 n:specialIn K (.builtin "object.__class__") "__get__"=some (some (.builtin "getset_descriptor.__get__"))
 t:takesIn K (.builtin "object.__class__")=some true
theorem tR{T:TM}{s:Shared}{v x}(w:W c T s.heap)(r:VR T v x)(Z:LJ c.K)(i:∀C fl,x= .obj C fl->kr c.K C):∃H:Heap->Prop,KitX c.K v (iW x) H/\H s.heap:=by
 induction x using AV.casesOn with
 |none=>obtain rfl:=r;exact ag _ kitx_none trivial
 |bool=>obtain rfl:=r;exact ag _ kitx_bool trivial
 |int=>refine ax r λ_ f=>?_;clear r;subst f;exact ag _ kitx_int trivial
 |str=>refine ax r λ_ f=>?_;clear r;subst f;exact ag _ kitx_str trivial
 |obj=>obtain⟨a,d,m,G,n,rfl,I⟩:=il w r;obtain⟨u,z,B,F⟩:=i _ _ rfl;exact ag _ (kitx_own u z B Z.n Z.t F) I.inst
 |list=>refine ab r λ_ f h=>?_;clear r;subst f;exact aP (w.ok _ _ h) λ_ _ at_ _=>⟨_,kitx_list,_,at_,rfl⟩
 |tup=>refine ab r λ_ f h=>?_;clear r;subst f;exact aP (w.ok _ _ h) λ_ _ at_ _=>⟨_,kitx_tuple,_,at_,rfl⟩
 |dict=>refine ab r λ_ f h=>?_;clear r;subst f;exact cP (w.ok _ _ h) λ_ _ at_ _ _=>⟨_,kitx_dict,_,at_,rfl⟩
theorem iF{T v x}(r:VR T v x):v≠ .builtin "__main__.__loader__#opaque":=
 r.is (P:=λv=>v≠ .builtin "__main__.__loader__#opaque") (λh=>by injection h) (λ_ h=>by injection h) (λ_ _ h=>by injection h) (λ_ _ h=>by injection h) λ_ h=>by injection h
theorem xx{T:TM}{s:Shared}{v x}(w:W c T s.heap)(r:VR T v x):Looks c.M s.heap (typeOf v) (iW x):=by
 have L:∀{a o ty},v= .ref a->s.heap.get? a=some o->o.cls=ty->Looks c.M s.heap (typeOf v) ty:=λe at_ h=>e▸h▸(Looks.ld (part:=none) at_).andThen .now
 induction x using AV.casesOn with
 |none=>obtain rfl:=r;exact Looks.of_pure rfl
 |bool=>obtain rfl:=r;exact Looks.of_pure rfl
 |int=>refine ax r λ_ f=>?_;clear r;subst f;exact Looks.of_pure rfl
 |str=>refine ax r λ_ f=>?_;clear r;subst f;exact Looks.of_pure rfl
 |obj=>obtain⟨a,d,m,i,n,rfl,I⟩:=il w r;exact I.inst.type
 |list=>exact ab r λ_ e h=>aP (w.ok _ _ h) λ_ _ at_ _=>L e at_ rfl
 |tup=>exact ab r λ_ e h=>aP (w.ok _ _ h) λ_ _ at_ _=>L e at_ rfl
 |dict=>exact ab r λ_ e h=>cP (w.ok _ _ h) λ_ _ at_ _ _=>L e at_ rfl
theorem w9(O:aM c)(Z:LJ c.K){x cv b}(f:∀C fl,x= .obj C fl->kr c.K C)(e:kitOne c.K (iW x) cv=some b):HT c A (.builtin "isinstance") [.a x,.k cv] (.bool b):=λT s vs w r=>by refine cP r.inv λ_ _ i h t=>?_;subst i;refine ab t.inv λ_ u z=>?_;subst u;obtain rfl:=z.inv;refine ab (tR w h Z f) λH X p=>?_;exact kia_one X (w.gh O) p e (iF h) λtk=>⟨T,.j9 _,w,.bool _⟩
theorem ud(O:aM c)(Z:LJ c.K){p e x es sZ k tp pos b}(hn:kq c env A H₀ σ (.Name "isinstance" p) (.builtin "isinstance"))(i:isStarred e=false)(he:bQ c env A H₀ σ e x)(ht:gc c env A H₀ σ es (sZ.map .k))(U:sZ.length<=1000)
 (G:∀C fl,x= .obj C fl->kr c.K C)(q:kitAny c.K (iW x) sZ=some b):bQ c env A H₀ σ (.Call (.Name "isinstance" p) [e,.Tuple es k tp] [] pos) (.bool b):=λT s w F=>by
 rw[arm_eval_Call_Name'];refine Vh (Vj (hn T s w F) (λv s'⟨I,J⟩=>?_) λ_ _ z=>z);subst I;subst J;refine callWith_builtin (by rw[aA i];rfl) ?_;rw[aA i];refine evalArgs_plain (spliced_cons (Vj (he T _ w F) (λv s1⟨T1,ex,N,r1⟩=>?_) λ_ _ z=>z.elim));show wpAny _ _ (spliced ((false,eval (.Tuple es k tp) env)::[])) _ _ _;refine spliced_cons (wpAny_Tuple (Vj (ht.run N (F.ext ex)) (λvs u⟨P,B,Q,r2⟩=>?_) λ_ _ z=>z.elim));have hv:=D3 r2;subst hv;refine⟨by rw[sizeLine_eq];lia,spliced_nil ?_⟩;have f:=Q.push (iA vs.toArray 0);refine ab (tR (s:={u with heap:=u.heap.push (iA vs.toArray 0)}) f (r1.mono B.le) Z G) λH X p=>?_;refine kia_tup X (f.gh O) p (VZ _ rfl) q (iF r1) λtk=>⟨P,((ex.trans B).trans (bF.push _)).toks tk,f,.bool _⟩
theorem xA{e:Expr}{x:AV}{b:Bool}(he:isTrue e env (eval e env)=(do let v<-eval e env;standAt e.pos;holding [v] (truthy v)))(h:bQ c env A H₀ σ e x)
 (ht:∀T s v,W c T s.heap->VR T v x->wpAny c.M A (truthy v) (AT c T s b) cg s):iU c env A H₀ σ e b:=λT s w F=>by
 rw[he];refine h.then w F λv T1 s1 f i H r1=>Vh (VG (VI (Vj (ht T1 s1 v i r1) (λI J⟨q,u,B,G⟩=>⟨q,u,f.trans B,G⟩) λ_ _ z=>z)))
theorem EX{x pos b}(h:iU c env A H₀ σ x b):iU c env A H₀ σ (.UnaryOp .Not x pos) (!b):=λT s w F=>by rw[arm_isTrue_UnaryOp];exact Vh (Vj (h T s w F) (λf s'⟨e,T',x,w⟩=>Vz ⟨by rw[e],T',x,w⟩) λ_ _ z=>z)
theorem qY{t b o pos q r}(ht:iU c env A H₀ σ t q)(hb:q=true->iU c env A H₀ σ b r)(G:q=false->iU c env A H₀ σ o r):iU c env A H₀ σ (.IfExp t b o pos) r:=λT s w F=>by
 rw[arm_isTrue_IfExp];refine Vh (Vj (ht T s w F) (λH s'⟨e,T',ex,B⟩=>?_) λ_ _ z=>z.elim);subst e
 induction H with
 |true=>exact Vj (hb rfl T' s' B (F.ext ex)) (λv I⟨e,f,i,u⟩=>⟨e,f,ex.trans i,u⟩) λ_ _ z=>z
 |false=>exact Vj (G rfl T' s' B (F.ext ex)) (λv I⟨e,f,i,u⟩=>⟨e,f,ex.trans i,u⟩) λ_ _ z=>z
noncomputable def iT(c:Cx)(env:Env)(A:Around)(H₀:Heap)(σ:ah)(es:List Expr)(b:Bool):Prop:=es.foldr (λe P=>(b=false/\iU c env A H₀ σ e false)\/(iU c env A H₀ σ e true/\P)) (b=true)
noncomputable def ut(c:Cx)(env:Env)(A:Around)(H₀:Heap)(σ:ah)(es:List Expr)(b:Bool):Prop:=es.foldr (λe P=>(b=true/\iU c env A H₀ σ e true)\/(iU c env A H₀ σ e false/\P)) (b=false)
theorem iT.nil:iT c env A H₀ σ [] true:=rfl
theorem iT.no{e es}(h:iU c env A H₀ σ e false):iT c env A H₀ σ (e::es) false:= .inl ⟨rfl,h⟩
theorem iT.yes{e es b}(h:iU c env A H₀ σ e true)(t:iT c env A H₀ σ es b):iT c env A H₀ σ (e::es) b:= .inr ⟨h,t⟩
theorem ut.nil:ut c env A H₀ σ [] false:=rfl
theorem ut.yes{e es}(h:iU c env A H₀ σ e true):ut c env A H₀ σ (e::es) true:= .inl ⟨rfl,h⟩
theorem ut.no{e es b}(h:iU c env A H₀ σ e false)(t:ut c env A H₀ σ es b):ut c env A H₀ σ (e::es) b:= .inr ⟨h,t⟩
theorem iT.un{e es b}(h:iT c env A H₀ σ (e::es) b):(b=false/\iU c env A H₀ σ e false)\/(iU c env A H₀ σ e true/\iT c env A H₀ σ es b):=h
theorem ut.un{e es b}(h:ut c env A H₀ σ (e::es) b):(b=true/\iU c env A H₀ σ e true)\/(iU c env A H₀ σ e false/\ut c env A H₀ σ es b):=h
theorem AT.then{T s b' T' s'}(ex:bF c T s T' s'){M A}{t:Sem Bool}{E}(h:wpAny M A t (AT c T' s' b') E s'):wpAny M A t (AT c T s b') E s':=Vj h (λv B⟨e,f,i,u⟩=>⟨e,f,ex.trans i,u⟩) λ_ _ z=>z
theorem iT.run{es b}:iT c env A H₀ σ es b->∀{T s},W c T s.heap->FR c env H₀ σ T s.heap->wpAny c.M A (allTrue .And es env) (AT c T s b) cg s:=by
 induction es with
 |nil=>exact λh T s w F=>wpAny_allTrue_And_nil ⟨h.symm,T,.refl ..,w⟩
 |cons e es ih=>
  refine λh T s w F=>wpAny_allTrue_And_cons ((iT.un h).elim (λ⟨q,h⟩=>Vj (h T s w F) (λf s'⟨e,T',x,w⟩=>?_) λ_ _ z=>z) λ⟨h,t⟩=>Vj (h T s w F) (λf s'⟨e,T',x,w⟩=>?_) λ_ _ z=>z)
  . subst e;subst q;exact⟨rfl,T',x,w⟩
  . subst e;exact AT.then x (ih t w (F.ext x))
theorem ut.run{es b}:ut c env A H₀ σ es b->∀{T s},W c T s.heap->FR c env H₀ σ T s.heap->wpAny c.M A (allTrue .Or es env) (AT c T s b) cg s:=by
 induction es with
 |nil=>exact λh T s w F=>wpAny_allTrue_Or_nil ⟨h.symm,T,.refl ..,w⟩
 |cons e es ih=>
  refine λh T s w F=>wpAny_allTrue_Or_cons ((ut.un h).elim (λ⟨q,h⟩=>Vj (h T s w F) (λf s'⟨e,T',x,w⟩=>?_) λ_ _ z=>z) λ⟨h,t⟩=>Vj (h T s w F) (λf s'⟨e,T',x,w⟩=>?_) λ_ _ z=>z)
  . subst e;subst q;exact⟨rfl,T',x,w⟩
  . subst e;exact AT.then x (ih t w (F.ext x))
theorem EZ{es b pos}(h:iT c env A H₀ σ es b):iU c env A H₀ σ (.BoolOp .And es pos) b:=λT s w F=>wpAny_isTrue_BoolOp (h.run w F)
theorem Ir{es b pos}(h:ut c env A H₀ σ es b):iU c env A H₀ σ (.BoolOp .Or es pos) b:=λT s w F=>wpAny_isTrue_BoolOp (h.run w F)
noncomputable def ib:AV->Option Bool
 | .none=>some false
 | .bool b=>some b
 | .int i=>some (i !=0)
 | .list xs=>if xs.length<=1000 then some (!xs.isEmpty)else none
 |_=>none
theorem om{x b}(h:ib x=some b){T s v}(w:W c T s.heap)(r:VR T v x):wpAny c.M A (truthy v) (AT c T s b) cg s:=by
 induction x using AV.casesOn with
 |none=>obtain rfl:=r;exact λ_ _ _=>⟨Option.some.inj h,T,.refl ..,w⟩
 |bool=>obtain rfl:=r;exact wpAny_truthy_bool ⟨Option.some.inj h,T,.refl ..,w⟩
 |int=>refine ax r λ_ f=>?_;clear r;subst f;exact truthy_int ⟨Option.some.inj h,T,.refl ..,w⟩
 |list xs=>refine ab r λ_ f ht=>?_;clear r;subst f;refine af (JE h) λu e=>e▸?_;refine aP (w.ok _ _ ht) λvs _ at_ items=>?_;have i:vs.size=xs.length:=items.length;refine wpAny_truthy_list ⟨_,at_,rfl,_,rfl⟩ (by rw[i];lia-abstractProof) ⟨Vx (!·) ?_,T,.j9 _,w⟩;exact(Vx (λn=>decide (n=0)) i).trans (by induction xs using List.casesOn<;>rfl)
 |_=>exact ad h
structure HS(c:Cx)(C:Addr)(tb:Value)(nm:String):Prop where
 same:tb= .ref C\/∃right rp ro,∀h,c.K.In h->Looks c.M h (fillsNumberSlot tb nm) right/\Looks c.M h (isSubtype tb (.ref C)) false/\Looks c.M h (numberSlotInPython tb nm) rp/\Looks c.M h (typeLookup tb (dunderR nm)) ro
theorem vN{α}{M:Model}{E}{s:Shared}{t:Sem (Option Value)}{k:Option Value->Sem α}{Q:α->Shared->Prop}{f:Value->α}(h:wpAny M A t (λr s'=>∃v,r=some v/\Q (f v) s') E s)(e:∀v,k (some v)=pure (f v)):wpAny M A (t>>=k) Q E s:=
 Vh (Vj h (λr s'⟨v,h1,h2⟩=>by rw[h1,e];exact Vz h2) λ_ _ z=>z)
theorem Lo{α β}{M:Model}{E}{s:Shared}{q:Prop}[Decidable q]{i u:Sem β}{j:β->Sem α}{r1 r2:β}{Q:α->Shared->Prop}(h1:q->Looks M s.heap i r1)(h2:¬q->Looks M s.heap u r2)(h:∀r,(q/\r=r1)\/(¬q/\r=r2)->wpAny M A (j r) Q E s):wpAny M A (if q then i>>=j else u>>=j) Q E s:=by
 by_cases f:q
 . rw[Vi f];exact Vh ((h1 f).here (h r1 (.inl ⟨f,rfl⟩)))
 . rw[Vk f];exact Vh ((h2 f).here (h r2 (.inr ⟨f,rfl⟩)))
noncomputable def LQ(c:Cx)(h:Heap)(C:Addr)(tb:Value)(nm:String)(rt rp:Bool)(ro:Option Value):Prop:=¬(Value.ref C==tb)=true->Looks c.M h (fillsNumberSlot tb nm) rt/\Looks c.M h (isSubtype tb (.ref C)) false/\Looks c.M h (numberSlotInPython tb nm) rp/\Looks c.M h (typeLookup tb (dunderR nm)) ro
theorem Ll{E}{s:Shared}{a C:Addr}{ox od}{nm:String}{b tb:Value}{Q:Option Value->Shared->Prop}{rt rp ro}(I:InstAt s.heap a ox C od)(hb:Looks c.M s.heap (typeOf b) tb)
 (f:Looks c.M s.heap (fillsNumberSlot (.ref C) nm) true)(i:Looks c.M s.heap (numberSlotInPython (.ref C) nm) true)
 (B:LQ c s.heap C tb nm rt rp ro)
 (one:wpAny c.M A (tryMethod (.ref a) (PySem.dunder nm) b) (λr s'=>∃v,r=some v/\Q (some v) s') E s):wpAny c.M A (binaryOp1 nm (.ref a) b) Q E s:=by
 unfold binaryOp1;refine Vh ((show Looks c.M s.heap (typeOf (.ref a)) (.ref C)from I.type).here (Vh (hb.here (Vh (f.here ?_)))));refine Lo (r1:=false) (r2:=rt) (λ_=> .now) (λq=>(B q).1) λr hr=>?_
 induction r with
 |false=>exact Vh (Vz (vN one λv=>rfl))
 |true=>
  have B:=B (hr.elim (λh=>nomatch h.2) (·.1));refine Vh (B.2.1.here (Vh (i.here (Vh (B.2.2.1.here ?_)))))
  induction rp with
  |true=>exact vN one λv=>rfl
  |false=>exact Vh (B.2.2.2.here (vN one λv=>rfl))
theorem Lk{E}{s:Shared}{op:Operator}{a b:Value}{Q:Value->Shared->Prop}
 (one:wpAny c.M A (binaryOp1 op.info.2 a b) (λr s'=>∃v,r=some v/\Q v s') E s):wpAny c.M A (binaryOp op a b) Q E s:=by
 unfold binaryOp;exact VI (vN one λ_=>rfl)
theorem Dc{E}{s:Shared}{a C f g:Addr}{ox od}{op:Operator}{b tb:Value}{Q:Value->Shared->Prop}(X:c.K.In s.heap)(I:InstAt s.heap a ox C od)(hb:Looks c.M s.heap (typeOf b) tb)(H:selfFirst c.K C=true)
 (G:findIn c.K (.ref C) (PySem.dunder op.info.2)=some (some (.ref f)))(hf:isFn c.K (.ref f)=true)(hr:findIn c.K (.ref C) (dunderR op.info.2)=some (some (.ref g)))
 (B:HS c C tb op.info.2)(h:wpAny c.M A (call (.ref f) [.ref a,b]) (PySem.W.CmpBack Q) E s):wpAny c.M A (binaryOp op (.ref a) b) Q E s:=by
 refine aP (ksp_first H) λP rest J N=>?_;obtain⟨i,u,F,O⟩:∃i u F,LQ c s.heap C tb op.info.2 i u F:=match B.same with
  | .inl e=>⟨false,false,none,λq=>Vu (e▸beq_self_eq_true _) q⟩
  | .inr ⟨i,u,F,L⟩=>⟨i,u,F,λ_=>L _ X⟩
 exact Lk (Ll I hb (fills_K X J N G) (ksp_inPy X G hr (.inr ⟨_,rfl⟩)) O (Vj (ksp_try X I G hf h) (λr s'⟨v,h1,h2⟩=>⟨v,h1,v,rfl,h2⟩) λ_ _ z=>z))
end
section
variable{c:Cx}{env:Env}{A:Around}{H₀:Heap}{σ:ah}
theorem Got.grown{T:TM}{s:Shared}{x:AV}{v:Value}{h':Heap}{tk:Nat}(w:W c T s.heap)(k:∀b o,s.heap.get? b=some o->h'.get? b=some o)(r:VR T v x):Got c T s x v {s with heap:=h',toks:=tk}:=
 ⟨T,bF.grown k tk,w.grown k,r⟩
structure HN(c:Cx)(C:Addr)(op:Operator)(tb:Value)(f:Addr):Prop where
 first:selfFirst c.K C=true
 find:findIn c.K (.ref C) (PySem.dunder op.info.2)=some (some (.ref f))
 fn:isFn c.K (.ref f)=true
 refl:∃g:Addr,findIn c.K (.ref C) (dunderR op.info.2)=some (some (.ref g))
 types:HS c C tb op.info.2
theorem vM{Q:Value->Shared->Prop}{T v x s'}(r:VR T v x)(h:Q v s'):PySem.W.CmpBack Q v s':=
 r.is (P:=λv=>Q v s'->PySem.W.CmpBack Q v s') (λh=>h) (λ_ h=>h) (λ_ _ h=>h) (λ_ _ h=>h) (λ_ h=>h) h
theorem FG(O:aM c){op C fl y f r k}(X:HN c C op (iW y) f)(G:dz c f [.obj C fl,y] [] r k)(R:cD A k):HM c A op (.obj C fl) y r:=λT s u v w i B=>by obtain⟨a,d,m,N,n,rfl,I⟩:=il w i;refine ax X.refl λg H=>?_;refine Dc (w.gh O) I.inst (xx w B) X.first X.find X.fn H X.types (Vj (G.run R w (.cons i (.cons B .nil)) .nil) (λz s' q=>?_) λ_ _ z=>z);obtain⟨T',ex,J,F⟩:=q;exact vM F ⟨T',ex,J,F⟩
structure Dy(c:Cx)(C:Addr)(tb:Value)(f:Addr):Prop where
 notFirst:notFirst c.K C tb=true
 find:findIn c.K (.ref C) "__eq__"=some (some (.ref f))
 fn:isFn c.K (.ref f)=true
theorem Hl(O:aM c){C fl y f b k}(X:Dy c C (iW y) f)(N:dz c f [.obj C fl,y] [] (.bool b) k)(R:cD A k):sQ c A .Eq (.obj C fl) y b:=λT s u v w F G=>by
 obtain⟨a,d,m,U,n,rfl,I⟩:=il w F;have H:=w.gh O;have P:wpAny c.M A (call (.ref f) [.ref a,v]) (PySem.W.CmpBack (Got c T s (.bool b))) cg s:=Vj (N.run R w (.cons F (.cons G .nil)) .nil) (λz s' q=>by
  obtain⟨T',ex,Q,J⟩:=q;exact vM J ⟨T',ex,Q,J⟩) λ_ _ z=>z
 have one:wpAny c.M A (tryCompare (.ref a) (cmpInfo .Eq).2.1 v) (λr s'=>∃v,r=some v/\Got c T s (.bool b) v s') cg s:=by unfold tryCompare;refine Vh (ifBound_K H I.inst X.find X.fn (Vj P (λv s' hv=>?_) λ_ _ e=>e));induction v<;>first|exact hv.elim|exact Vz ⟨_,rfl,hv⟩
 refine cmp_ofEq ?_;unfold richCompare;dsimp only[oneThing_ref];refine VI (Vh (wpAny_cRoomFor R.line ?_));refine Vh (I.inst.type.here (Vh ((xx w G).here (wpAny_ite_split (λq=>?_) λ_=>?_))))
 . have e:subIn c.K (iW y) (.ref C)=some false:=by
    refine Or.elim (WF.mp X.notFirst) (λe=>?_) λe=>?_
    . rw[beq_iff_eq.mp e]at q;simp at q
    . exact beq_iff_eq.mp e
   refine Vh ((looks_subIn H e).here ?_);simp only[WD,if_false];refine Vh (Vj one (λr s' z=>?_) λ_ _ e=>e);refine ab z λv i B=>?_;clear z;subst i;exact Vz B
 . refine Vh (Vz ?_);simp only[WD,if_false];refine Vh (Vj one (λr s' z=>?_) λ_ _ e=>e);refine ab z λv i B=>?_;clear z;subst i;exact Vz B
noncomputable def HO(c:Cx)(A:Around)(x z:AV):Prop:=∀T s u,W c T s.heap->VR T u x->wpAny c.M A (unaryOp .USub u) (Got c T s z) cg s
theorem B8(O:aM c){C fl f r k}(h1:findIn c.K (.ref C) "__neg__"=some (some (.ref f)))(h2:isFn c.K (.ref f)=true)(B:dz c f [.obj C fl] [] r k)(R:cD A k):HO c A (.obj C fl) r:=λT s u w i=>by obtain⟨a,d,m,F,n,rfl,I⟩:=il w i;unfold unaryOp;refine VI ?_;exact Vh (special_fn (w.gh O) I.inst h1 (beq_iff_eq.mp h2) (Vj (B.run R w (.cons i .nil) .nil) (λ_ _ z=>Vz z) λ_ _ z=>z))
theorem I3{a:Int}:HO c A (.int a) (.int (-a)):=λT s u w f=>by refine ax f λ_ i=>?_;clear f;subst i;exact neg_int (.int w _ _ _)
theorem zX{e pos x z}(h:bQ c env A H₀ σ e x)(hn:HO c A x z):bQ c env A H₀ σ (.UnaryOp .USub e pos) z:=λT s w F=>by rw[arm_eval_UnaryOp];refine h.then w F λv T1 s1 f i u r1=>Vh (VG (VI (Vj (hn T1 s1 v i r1) (λ_ _ g=>g.trans f) λ_ _ z=>z)))
theorem nZ.a1{T:TM}{vs x}(r:nZ T vs [.a x]):∃v,vs=[v]/\VR T v x:=F2.one (R:=Ih T) r
theorem nZ.i2{T:TM}{vs a b}(r:nZ T vs [.a (.int a),.a (.int b)]):∃t u,vs=[.int a t,.int b u]:=by obtain⟨_,_,rfl,⟨_,rfl⟩,_,rfl⟩:=F2.two r;exact Aa _ _ rfl
theorem AF{a:Int}:HT c A (.builtin "abs") [.a (.int a)] (.int (if a<0 then-a else a)):=λT s vs w r=>by obtain⟨_,rfl,_,rfl⟩:=r.a1;exact call_abs_int λu tk=> .int w _ _ _
theorem Got.either{T s s' p}[Decidable p]{a b:Int}{u v}(h:Got c T s (.int a) (.int a u) s')(h':Got c T s (.int b) (.int b v) s'):Got c T s (.int (if p then a else b)) (if p then .int a u else .int b v) s':=by
 by_cases q:p
 . rw[Vi q,Vi q];exact h
 . rw[Vk q,Vk q];exact h'
theorem HB(f:A.handled=none){a b:Int}:HT c A (.builtin "max") [.a (.int a),.a (.int b)] (.int (if b>a then b else a)):=λT s vs w r=>by refine cq r.i2 λ_ _ i=>?_;subst i;exact max_two_ints f λh' tk k=> .either (.grown w k (.int _ _)) (.grown w k (.int _ _))
theorem HA(f:A.handled=none){a b:Int}:HT c A (.builtin "min") [.a (.int a),.a (.int b)] (.int (if b<a then b else a)):=λT s vs w r=>by refine cq r.i2 λ_ _ i=>?_;subst i;exact min_two_ints f λh' tk k=> .either (.grown w k (.int _ _)) (.grown w k (.int _ _))
inductive Qd(T:TM)(h:Heap)(v:Value)(xs:List AV):Prop
 |mk (a:Addr) (vs:Array Value) (n:Nat) (ev:v= .ref a) (ho:h.get? a=some (bo vs n)) (hi:dx T vs.toList xs)
theorem listAt{T:TM}{h:Heap}{v:Value}{xs:List AV}(w:W c T h)(r:VR T v (.list xs)):Qd T h v xs:=by refine ab r.inv λ_ f ht=>?_;subst f;refine aP ((w.ok _ _ ht).inv) λ_ _ at_ items=>?_;exact⟨_,_,_,rfl,at_,items⟩
theorem bw{h:Heap}{a vs n}(f:h.get? a=some (bo vs n)):h.IsList a vs:=⟨_,f,rfl,_,rfl⟩
theorem dd{T:TM}{vs:Array Value}{xs}(h:dx T vs.toList xs):vs.size=xs.length:=by rw[<-h.length,Array.length_toList]
noncomputable def Go:AV->Option Int
 | .int i=>some i
 |_=>none
noncomputable def Fk:AV->Option Str
 | .str i=>some i
 |_=>none
noncomputable def Dp{α:Type}(f:AV->Option α)(xs:List AV):Option (List α):=xs.foldr (λx r=>(f x).bind λi=>r.map (i:: ·)) (some [])
theorem sD{α:Type}{f:AV->Option α}{g:α->AV}(h:∀a,f (g a)=some a)(l:List α):Dp f (l.map g)=some l:=by
 induction l with
 |nil=>rfl
 |cons a l ih=>exact bE (h a) (Vx (Option.map (a:: ·)) ih)
noncomputable def gD(xs:List AV):=Dp Go xs
noncomputable def fq(xs:List AV):=Dp Fk xs
theorem vU{α:Type}{f:AV->Option α}{T:TM}{R:List Value->List α->Prop}(n:R [] [])(k:∀{v x i vs is},VR T v x->f x=some i->R vs is->R (v::vs) (i::is)){vs xs}(h:dx T vs xs):∀{ns},Dp f xs=some ns->R vs ns:=by
 induction h with
 |nil=>exact λe=>Option.some.inj e▸n
 |cons h _ ih=>exact λe=>ar e λi u e=>yM e λl z e=>e▸k h u (ih z)
theorem pb{T:TM}{vs xs ns}(hv:dx T vs xs)(hn:gD xs=some ns):IntsAre vs ns:=vU (f:=Go) (R:=IntsAre) .nil (λ{v x i vs is} h e t=>by
 induction x using AV.casesOn with
 |int=>refine ax h λ_ u=>?_;clear h;subst u;exact Option.some.inj e▸ .cons _ _ t
 |_=>exact ad e) hv hn
theorem kJ{T:TM}{vs xs ns}(hv:dx T vs xs)(hn:fq xs=some ns):StrsAre vs ns:=vU (f:=Fk) (R:=StrsAre) .nil (λ{v x i vs is} h e t=>by
 induction x using AV.casesOn with
 |str=>refine ax h λ_ u=>?_;clear h;subst u;exact Option.some.inj e▸ .cons _ _ t
 |_=>exact ad e) hv hn
theorem Hz(f:A.handled=none){xs ns}(e:gD xs=some ns):HT c A (.builtin "sum") [.a (.list xs)] (.int ns.sum):=λT s vs w r=>by
 refine ab r.a1 λ_ i h=>?_;subst i;obtain⟨a,u,n,rfl,z,hi⟩:=listAt w h;have hI:=pb hi e;refine ax hI.allInts.items λys hx=>?_;have hl:s.heap.IsList a (intItems ys):=by rw[<-hx];exact bw z
 refine sum_intListG f hl λh' tk B k=>?_;have:preSum (numAt ys) ys.size=ns.sum:=by rw[preSum_eq,List.take_of_length_le (by simp)];have:=hI.numsOf;rw[show u.toList=(intItems ys).toList from by rw[<-hx],nums_intItems]at this;rw[this]
 rw[this];exact Got.grown w k (.int _ _)
theorem StrsAre.Sc{T:TM}{vs ss}(h:StrsAre vs ss):dx T vs (ss.map .str):=by
 induction h with
 |nil=>exact .nil
 |cons y t _ ih=>exact .cons (.str _ _) ih
theorem B5{xs ys}(I:xs.length+ys.length<=1000):HM c A .Add (.list xs) (.list ys) (.list (xs++ys)):=λT s u v w G H=>by obtain⟨a,vs,n,rfl,i,hi⟩:=listAt w G;obtain⟨b,f,m,rfl,z,B⟩:=listAt w H;refine concat_meets ⟨_,i,rfl⟩ ⟨_,z,rfl⟩ noFill_list_add seq_list_add PySem.F.slot_list_add PySem.F.entry_list_add (PySem.F.args_list_add_2 _ _) (list_addW a b vs f n m _ _ _ _ (by rw[dd hi,dd B,sizeLine_eq];lia)) ⟨i,z,?_⟩;rw[(by simp:vs++f=(vs.toList++f.toList).toArray)];exact lT w (hi.append B)
theorem wY{k:Int}{xs ns}(e:gD xs=some ns):sQ c A .In (.int k) (.list xs) (ns.any (· ==k)):=λT s u v w f i=>by obtain⟨a,vs,n,rfl,z,hi⟩:=listAt w i;refine ax f λ_ B=>?_;clear f;subst B;exact in_list_ints (bw z) (pb hi e) (.fM w _)
theorem wX{k:Str}{xs ns}(e:fq xs=some ns):sQ c A .In (.str k) (.list xs) (ns.any (· ==k)):=λT s u v w f i=>by obtain⟨a,vs,n,rfl,z,hi⟩:=listAt w i;refine ax f λ_ B=>?_;clear f;subst B;exact in_list_strs (bw z) (kJ hi e) (.fM w _)
theorem pE{k:Int}{xs ns}(e:gD xs=some ns):sQ c A .NotIn (.int k) (.list xs) (!(ns.any (· ==k))):=λT s u v w f i=>by obtain⟨a,vs,n,rfl,z,hi⟩:=listAt w i;refine ax f λ_ B=>?_;clear f;subst B;exact notin_list_ints (bw z) (pb hi e) (.fM w _)
theorem pD{k:Str}{xs ns}(e:fq xs=some ns):sQ c A .NotIn (.str k) (.list xs) (!(ns.any (· ==k))):=λT s u v w f i=>by obtain⟨a,vs,n,rfl,z,hi⟩:=listAt w i;refine ax f λ_ B=>?_;clear f;subst B;exact notin_list_strs (bw z) (kJ hi e) (.fM w _)
theorem mU{xs ns}(e:fq xs=some ns)(B:xs.length<64)(T:TM)(s:Shared)(v:Value)(w:W c T s.heap)(r:VR T v (.list xs)):
 wpAny c.M A (call (.builtin "sorted") [v]) (λu s'=>∃ms:List Str,ms.Perm ns/\sortedS ms=true/\Got c T s (.list (ms.map .str)) u s') cg s:=by
 obtain⟨a,vs,n,rfl,F,hi⟩:=listAt w r;refine sorted_strs (vs:=vs.toList) (bw F) (kJ hi e) (by rw[hi.length];exact B) λf i h1 h2 G=>⟨i,h2,G,?_⟩;refine ax (sortedAll_at s.heap vs.toList f) λJ he=>?_;have z:∀b o,s.heap.get? b=some o->(sortedAll s.heap vs.toList f).get? b=some o:=λb o h=>sortedAll_old h;have hf:s.heap.get? (s.heap.objs.size+1)=none:=by
  induction q:s.heap.get? (s.heap.objs.size+1)with
  |none=>rfl
  |some o=>exact Vu (V7 q) (Nat.not_lt.mpr (Nat.le_succ _))
 refine af (pi (s':={s with heap:=sortedAll s.heap vs.toList f}) (ty:= .list (i.map .str)) w (bF.grown z s.toks) (w.grown z) hf (.list he (StrsAre.Sc h1))) λH I=>?_;exact⟨_,H,I,.list bP⟩
end
set_option tactic.hygienic true
theorem jA.get{T:TM}{vs xs}(h:jA T vs xs){i:Nat}{k:Str}{v:Value}(e:vs[i]? =some (k,v)):∃x,xs[i]? =some (k,x)/\VR T v x:=by refine bV (F2.get h.flip e) λf e u h=>?_;obtain⟨_,x⟩:=f;subst u;exact ag x e h
noncomputable def fe(l:List (Str×AV))(k:Str):Option AV:=l.lookup k
noncomputable def bI(l:List (Str×AV))(k:Str)(x:AV):List (Str×AV):=
 if l.any (λkv=>decide (kv.1=k))then l.map (λkv=>if kv.1=k then(kv.1,x)else kv)else l++[(k,x)]
theorem jA.at{T:TM}{vs xs}(h:jA T vs xs)(k:Str):match fe xs k with
 |some x=>∃v,valueAt vs k=some v/\VR T v x
 |none=>valueAt vs k=none:=by
 induction h with
 |nil=>rfl
 | @cons p q vs xs h _ ih=>
   obtain⟨k',v⟩:=p;obtain⟨_,x⟩:=q;obtain⟨rfl:k'=_,h⟩:=h;unfold fe valueAt at*
   by_cases e:k=k'
   . subst e;simp;exact h
   . rw[VK,beq_eq_false_iff_ne.mpr e,List.find?_cons_of_neg (by simpa using λq=>e q.symm)];exact ih
theorem jA.isSome{T:TM}{vs xs}(h:jA T vs xs)(k:Str):(valueAt vs k).isSome=(fe xs k).isSome:=by
 have:=h.at k;generalize fe xs k=y at*
 induction y with
 |some=>exact ab this λv e _=>e▸rfl
 |none=>exact this▸rfl
theorem jA.stored{T:TM}{vs xs}(h:jA T vs xs){k:Str}{v:Value}{x:AV}(hv:VR T v x):jA T (PySem.stored vs k v) (bI xs k x):=by
 have f:vs.any (λi=>decide (i.1=k))=xs.any (λi=>decide (i.1=k)):=by
  induction h with
  |nil=>rfl
  |cons h _ ih=>exact congr (Vx (λz=>or (decide (z=k))) h.1) ih
 unfold PySem.stored bI;rw[f];split
 . rename_i u;clear f u
   induction h with
   |nil=>exact .nil
   | @cons p q vs xs h _ ih=>
     obtain⟨k',B⟩:=p;obtain⟨_,F⟩:=q;obtain⟨rfl:k'=_,h⟩:=h;simp only[Vn];by_cases e:k'=k
     . simp only[e,if_true];exact .cons hv ih
     . simp only[e,if_false];exact .cons h ih
 . rename_i u;clear f u
   induction h with
   |nil=>exact .cons hv .nil
   |cons h _ ih=>exact F2.cons h ih
section
variable{c:Cx}{env:Env}{A:Around}{H₀:Heap}{σ:ah}
theorem fO{T:TM}{h:Heap}{d:Addr}{f:Array DictEntry}{n:Nat}{l:List (Str×AV)}(z:h.get? d=some (aC f n))(hi:nY T c.w.params f.toList l)(nd:(l.map (·.1)).Nodup):
 ∃kvs,h.DictAt (PySem.strKind c.prog c.w) d kvs n/\jA T kvs l:=by
 have key:∀{f:List DictEntry}{l},nY T c.w.params f l->∃kvs,jA T kvs l/\Pairs (PySem.strKind c.prog c.w) f kvs/\∀e∈f,∃k,(PySem.strKind c.prog c.w).is k e.key=true/\e.hash=(PySem.strKind c.prog c.w).hash k:=by
  intro f l h
  induction h with
  |nil=>exact dA [] .nil .nil λ_ h=>uV h
  | @cons e kx f l h _ ih=>
    refine bV ih λkvs h1 h2 i=>?_;obtain⟨⟨t,B⟩,F,hv⟩:=h;have u:(PySem.strKind c.prog c.w).is kx.1 e.key=true:=by rw[B];exact beq_self_eq_true kx.1
    refine dA ((kx.1,e.val)::kvs) (.cons hv h1) (.cons u rfl h2) λG h'=>?_;rcases VN.mp h' with rfl|h'
    . exact ag kx.1 u F
    . exact i G h'
 refine bV (key hi) λkvs h1 h2 i=>?_;exact ag kvs ⟨_,f,z,⟨rfl,rfl,rfl⟩,rfl,λe he=>i e (Array.mem_toList_iff.mpr he),h2,by rw[h1.keys];exact nd⟩ h1
theorem tH{T:TM}{h:Heap}{d:Addr}{kvs:List (Str×Value)}{l:List (Str×AV)}(hd:h.DictOf (PySem.strKind c.prog c.w) d kvs)(hi:jA T kvs l):
 ∃f n,h.get? d=some (aC f n)/\nY T c.w.params f.toList l/\(l.map (·.1)).Nodup:=by
 obtain⟨o,f,I,u,⟨h1,h2,z⟩,B,F,G,nd⟩:=hd;obtain⟨cl,Q,U,W⟩:=o;simp only at h1 h2 z B;subst h1 h2 z B;refine uh f I u ?_ (by rw[<-hi.keys];exact nd);have i:∀e∈f.toList,∃k,(PySem.strKind c.prog c.w).is k e.key=true/\e.hash=(PySem.strKind c.prog c.w).hash k:=λe he=>F e (Array.mem_toList_iff.mp he);generalize f.toList=el at G i;clear u F nd
 induction G generalizing l with
 |nil=>obtain rfl:=hi.flip.inv;exact .nil
 | @cons e kv f kvs g1 g2 g3 ih=>refine cP hi.flip.inv λJ xs N H ht=>?_;obtain⟨_,x⟩:=J;subst N;refine af H λO hv=>?_;clear H;subst O;refine ab (i e (.head _)) λk' q1 q2=>?_;have P:=(PySem.strKind c.prog c.w).inj _ _ _ q1 g1;subst P;refine ax (Value.isStrOf_shape q1) λt q3=>?_;exact .cons ⟨⟨t,q3⟩,q2,g2▸hv⟩ (ih ht.flip λe he=>i e (.tail _ he))
theorem cC{M:Model}{E}{s:Shared}{pos:Pos}{i:String}{first:List Value}{f:List (Bool×Sem Value)}{Q:Value->Shared->Prop}(u:f.any (·.1)=false)
 (h:wpAny M A (evalArgs (.builtin i) true f []) (λa z=>wpAny M A (call (.builtin i) (first++a.pos) a.kw) Q E z) E s):wpAny M A (callWith pos (.builtin i) first f []) Q E s:=
 callWith_builtin_kwB u rfl h
inductive Qc(c:Cx)(T:TM)(s:Shared)(xs:List AV)(v:Value)(s':Shared):Prop
 |mk (T':TM) (a:Addr) (vs:Array Value) (n:Nat) (ev:v= .ref a) (e:bF c T s T' s') (w:W c T' s'.heap) (o:s'.heap.get? a=some (bo vs n)) (it:dx T' vs.toList xs) (fx:Ba T' a) (ht:a≠c.tab) (h0:c.h₀.get? a=none)
inductive Ql(c:Cx)(T:TM)(s:Shared)(l:List (Str×AV))(v:Value)(s':Shared):Prop
 |mk (T':TM) (a:Addr) (es:Array DictEntry) (n:Nat) (ev:v= .ref a) (e:bF c T s T' s') (w:W c T' s'.heap) (o:s'.heap.get? a=some (aC es n)) (it:nY T' c.w.params es.toList l) (nd:(l.map (·.1)).Nodup) (fx:Ba T' a) (ht:a≠c.tab) (h0:c.h₀.get? a=none)
noncomputable def sI(c:Cx)(env:Env)(A:Around)(H₀:Heap)(σ:ah)(e:Expr)(xs:List AV):Prop:=
 ∀T s,W c T s.heap->FR c env H₀ σ T s.heap->wpAny c.M A (eval e env) (Qc c T s xs) cg s
noncomputable def pV(c:Cx)(env:Env)(A:Around)(H₀:Heap)(σ:ah)(e:Expr)(l:List (Str×AV)):Prop:=
 ∀T s,W c T s.heap->FR c env H₀ σ T s.heap->wpAny c.M A (eval e env) (Ql c T s l) cg s
theorem tO{e xs}(h:bQ c env A H₀ σ e (.list xs)):sI c env A H₀ σ e xs:=λT s w F=>Vj (h T s w F) (λv s'⟨T',ex,f,r⟩=>by
 refine ab r.inv λ_ i ht=>?_;subst i;have lo:=f.lo _ _ ht;exact aP (f.ok _ _ ht) λ_ _ at_ items=>⟨T',_,_,_,rfl,ex,f,at_,items,(λd q=>by rw[ht]at q;exact Ty.noConfusion (Option.some.inj q)),lo.2,lo.1⟩) λ_ _ z=>z
theorem Ad{e l}(h:bQ c env A H₀ σ e (.dict l)):pV c env A H₀ σ e l:=λT s w F=>Vj (h T s w F) (λv s'⟨T',ex,f,r⟩=>by
 refine ab r.inv λ_ i ht=>?_;subst i;have lo:=f.lo _ _ ht;exact cP (f.ok _ _ ht) λ_ _ at_ items nd=>⟨T',_,_,_,rfl,ex,f,at_,items,nd,(λd q=>by rw[ht]at q;exact Ty.noConfusion (Option.some.inj q)),lo.2,lo.1⟩) λ_ _ z=>z
theorem yQ{x pos xs}(h:σ.lookup x=some (.ol xs))(hd:(x==("__debug__":Str))=false):sI c env A H₀ σ (.Name x pos) xs:=λT s w F=>
 wpAny_Name (vX F h λa vs n at_ items f lo=>⟨T,a,vs,n,rfl,.refl ..,w,at_,items,.none f,(F.jy _ lo).2,(F.jy _ lo).1⟩) hd
theorem Ae{x pos l}(h:σ.lookup x=some (.od l))(hd:(x==("__debug__":Str))=false):pV c env A H₀ σ (.Name x pos) l:=λT s w F=>
 wpAny_Name (vY F h λa f n at_ items nd i lo=>⟨T,a,f,n,rfl,.refl ..,w,at_,items,nd,.none i,(F.jy _ lo).2,(F.jy _ lo).1⟩) hd
noncomputable def bc(xs:List AV)(k:Int):Option AV:=
 if k< -1000||k>1000 then none else if 0<=k then xs[k.toNat]? else if-(xs.length:Int)<=k then xs[(k+xs.length).toNat]? else none
theorem c9{f:Expr}{o i:Value}:∃u,subscripted f false o i=operate u (getItem o i):=by
 induction f using Expr.casesOn<;>try exact⟨_,rfl⟩
 rename_i a b c d;induction c<;>exact ⟨_,rfl⟩
theorem zY{e i pos xs k y}(he:sI c env A H₀ σ e xs)(hi:bQ c env A H₀ σ i (.int k))(h:bc xs k=some y):bQ c env A H₀ σ (.Subscript e i pos) y:=λT s w F=>by
 rw[arm_eval_Subscript];refine Vh (Vj (he T s w F) (λv s1 g=>?_) λ_ _ z=>z);obtain⟨T1,a,vs,n,rfl,B,H,I,f,fx,nt,lo⟩:=g;refine hi.hold H (F.ext B) λv J N u O F2 r2=>Vh (VG ?_);refine ax r2.inv λt P=>?_;subst P;have hl:=bw (u.keep a _ fx nt I);have G:=dd f;refine ax (@c9 i (.ref a) (.int k t)) λQ U=>?_;refine tail_any hl.typeIs slot_list_getitem.lookup ?_ U;have g8:∀{v},VR T1 v y->Got c T s y v N:=λq=>⟨J,B.trans u,O,q.mono u.le⟩;unfold bc at h;split at h
 . injection h
 . rename_i hb;simp only[Xg,decide_eq_true_eq,not_or,Int.not_lt]at hb;split at h
   . refine ab (f.get h) λv hv r=>?_;exact wpAny_getItem_list hl ‹_› (by lia) (by exact WT.symm.trans hv) (g8 r)
   . split at h
     . refine ab (f.get h) λv hv r=>?_;exact wpAny_getItem_list_neg hl (by lia) (by rw[G];assumption) (by lia) (by rw[G];exact WT.symm.trans hv) (g8 r)
     . injection h
theorem CQ{e xs pos sp cp kk k}(he:sI c env A H₀ σ e xs)(h0:0<=k)(N:xs.length<=1000):bQ c env A H₀ σ (.Subscript e (.Slice none (some (.Constant (.int k) kk cp)) none sp) pos) (.list (xs.take k.toNat)):=λT s w F=>by
 rw[arm_eval_Subscript];refine Vh (Vj (he T s w F) (λv s1 g=>?_) λ_ _ z=>z);obtain⟨T1,a,vs,n,rfl,u,B,G,i,fx,nt,lo⟩:=g;refine Vh (VI (wpAny_Slice ?_));rw[evalPart_none,evalPart_some];refine Vz (wpAny_Constant_int (Vz (Vh (VG ?_))));have f:(s1.heap.push {cls:= .type "slice",data:= .fields #[.none,.int k s1.toks,.none]}).get? a=some (bo vs n):=VW _ G;refine ax (@c9 (.Slice none (some (.Constant (.int k) kk cp)) none sp) (.ref a) (.ref s1.heap.objs.size)) λH I=>?_;refine tail_any (T:="list") ⟨_,f,rfl⟩ slot_list_getitem.lookup (wpAny_getItem_list_slice (bw f) (.new ..) .none (.int _ _) .none (by decide) ?_ (by rw[dd i,sizeLine_eq];lia)) I;have J:slicePick vs none (some k) none=(vs.toList.take k.toNat).toArray:=by rw[(by lia:k=(k.toNat:Int)),slicePick_upto' vs k.toNat,Int.toNat_natCast]
 rw[J];have ex:bF c T s T1 {s1 with heap:=s1.heap.push {cls:= .type "slice",data:= .fields #[.none,.int k s1.toks,.none]},toks:=s1.toks+1}:=u.trans ((bF.push _).toks _);refine(lT (s:={s1 with heap:=s1.heap.push {cls:= .type "slice",data:= .fields #[.none,.int k s1.toks,.none]},toks:=s1.toks+1}) ((B.push {cls:= .type "slice",data:= .fields #[.none,.int k s1.toks,.none]})) ?_).trans ex;have tk:∀{vs xs},dx T1 vs xs->∀m,dx T1 (vs.take m) (xs.take m):=by
  intro vs xs h
  induction h with
  |nil=>intro m;simp;exact .nil
  |cons h _ ih=>intro m;induction m using WP with
   |zero=>exact .nil
   |succ m=>exact .cons h (ih m)
 exact tk i _
theorem Df{e xs p pos}(hn:kq c env A H₀ σ (.Name "len" p) (.builtin "len"))(i:isStarred e=false)(he:sI c env A H₀ σ e xs)(I:xs.length<=1000):bQ c env A H₀ σ (.Call (.Name "len" p) [e] [] pos) (.int xs.length):=λT s w F=>by rw[arm_eval_Call_Name'];refine Vh (Vj (hn T s w F) (λv s'⟨f,B⟩=>?_) λ_ _ z=>z);subst f;subst B;refine callWith_builtin (by rw[aA i];rfl) ?_;rw[aA i];refine evalArgs_plain (spliced_cons (Vj (he T _ w F) (λv s1 g=>?_) λ_ _ z=>z.elim));obtain⟨T1,a,vs,n,rfl,f,G,H,u,fx,nt,lo⟩:=g;refine spliced_nil (call_len_list (bw H) (by rw[dd u];lia-abstractProof) ?_);rw[dd u];exact(Got.int G _ _ _).trans f
theorem ue{e i pos l k y}(he:pV c env A H₀ σ e l)(hi:bQ c env A H₀ σ i (.str k))(h:fe l k=some y):bQ c env A H₀ σ (.Subscript e i pos) y:=λT s w F=>by rw[arm_eval_Subscript];refine Vh (Vj (he T s w F) (λv s1 g=>?_) λ_ _ z=>z);obtain⟨T1,a,X,n,rfl,u,G,H,I,nd,fx,nt,lo⟩:=g;refine hi.hold G (F.ext u) λv J Y f N F2 r2=>Vh (VG ?_);refine ax r2.inv λt O=>?_;subst O;refine ab (fO (f.keep a _ fx nt H) I nd) λkvs hd hv=>?_;have B:=hv.at k;rw[h]at B;refine ab B λv P Q=>?_;refine ax (@c9 i (.ref a) (.str k t)) λU W=>?_;refine tail_any hd.dictOf.typeIs slot_dict_getitem.lookup (wpAny_getItem_of (knd:=PySem.strKind c.prog c.w) (k:=k) (beq_self_eq_true k) hd.dictOf.mapOf P ?_) W;exact⟨J,(u.trans f).toks _,N,Q.mono f.le⟩
theorem wO{l op r pos k d}(O:aM c)(I:op= .In\/op= .NotIn)(J:behindInMarks op r=false)(hl:bQ c env A H₀ σ l (.str k))(hr:pV c env A H₀ σ r d):
 bQ c env A H₀ σ (.Compare l [op] [r] pos) (.bool (if op= .In then(fe d k).isSome else !(fe d k).isSome)):=λT s w F=>by
 rw[arm_eval_Compare];refine hl.then w F λu T1 s1 i N P r1=>?_;rw[cG J];refine Vh (VI (Vj (hr T1 s1 N P) (λv W g=>?_) λ_ _ z=>z));obtain⟨B,a,X,n,rfl,G,H,f,Q,nd,fx,nt,lo⟩:=g;refine Vh (VG (wpAny_operate' ?_));refine ax r1.inv λt U=>?_;subst U;refine ab (fO f Q nd) λkvs hd hv=>?_;rcases I with rfl|rfl
 . exact wpAny_in_of (knd:=PySem.strKind c.prog c.w) (k:=k) (beq_self_eq_true k) (O.iH lo) hd.dictOf.mapOf ⟨B,(i.trans G).toks _,H,Vx Value.bool (hv.isSome k)⟩
 . exact wpAny_notIn_of (knd:=PySem.strKind c.prog c.w) (k:=k) (beq_self_eq_true k) (O.iH lo) hd.dictOf.mapOf ⟨B,(i.trans G).toks _,H,Vx (λb=>Value.bool (!b)) (hv.isSome k)⟩
theorem wd{l op r pos k d}(O:aM c)(I:op= .In\/op= .NotIn)(J:behindInMarks op r=false)(hl:bQ c env A H₀ σ l (.str k))(hr:pV c env A H₀ σ r d):
 iU c env A H₀ σ (.Compare l [op] [r] pos) (if op= .In then(fe d k).isSome else !(fe d k).isSome):=λT s w F=>by
 rw[arm_isTrue_Compare];refine hl.then w F λu T1 s1 i N P r1=>?_;rw[cG J];refine Vh (VI (Vj (hr T1 s1 N P) (λv W g=>?_) λ_ _ z=>z));obtain⟨B,a,X,n,rfl,G,H,f,Q,nd,fx,nt,lo⟩:=g;refine Vh (VG (Vh (wpAny_operate' ?_)));refine ax r1.inv λt U=>?_;subst U;refine ab (fO f Q nd) λkvs hd hv=>?_;rcases I with rfl|rfl
 . exact wpAny_in_of (knd:=PySem.strKind c.prog c.w) (k:=k) (beq_self_eq_true k) (O.iH lo) hd.dictOf.mapOf (VI (wpAny_truthy_bool ⟨hv.isSome k,B,(i.trans G).toks _,H⟩))
 . exact wpAny_notIn_of (knd:=PySem.strKind c.prog c.w) (k:=k) (beq_self_eq_true k) (O.iH lo) hd.dictOf.mapOf (VI (wpAny_truthy_bool ⟨Vx (!·) (hv.isSome k),B,(i.trans G).toks _,H⟩))
theorem uf{o apos pos es l k y}(O:aM c)(hb:bk o=true)(N:pV c env A H₀ σ o l)(f:dT c env A H₀ σ es [.str k,y])(hl:(apos.endLine==pos.line)=true)(hn:es.length<30):
 bQ c env A H₀ σ (.Call (.Attribute o "get" apos) es [] pos) ((fe l k).getD y):=λT s w F=>by
 rw[arm_eval_Call,dw hb];refine Vh (Vj (N T s w F) (λv s1 g=>?_) λ_ _ z=>z);obtain⟨T1,a,ds,n,rfl,H,P,I,J,nd,fx,nt,lo⟩:=g;refine Vh (VG ?_);refine ab (fO I J nd) λkvs hd hv=>?_;refine cy hl (by exact hn) (bW pos f.noStar) λpl=>getMethod_builtin hd.dictOf.typeIs PySem.F.plainAttrs_dict PySem.F.slot_dict_get PySem.F.type_dict_get hd.dictOf.mapOf.noDict ?_;refine cC (bW pos f.noStar) (dk f P (F.ext H) λvs Q s2 i U r2=>?_);refine cP r2.inv λv1 Bf u h1 W=>?_;subst u;refine cP W.inv λX Qr u h2 Y=>?_;subst u;obtain rfl:=Y.inv;refine ax h1.inv λt Z=>?_;subst Z;have B:=i.keep a _ fx nt I;refine ab (fO B J nd) λkvs hd hv=>?_;refine call_meetsIn PySem.F.slot_dict_get hd.dictOf.typeIs PySem.F.entry_dict_get (PySem.F.args_dict_get_3 _ _ _) (meets_dict_get_default (PySem.strKind c.prog c.w) a (k:=k) (key:= .str k t) (beq_self_eq_true k) (O.iH lo) X) ⟨_,hd.dictOf.mapOf,?_⟩;refine⟨Q,(H.trans i).toks _,U,?_⟩;have G:=hv.at k;split at G
 . rename_i x e;refine ab G λv q1 q2=>?_;rw[e,q1];exact q2.mono i.le
 . rename_i e;rw[e,G];exact h2
end
set_option tactic.hygienic false
noncomputable def tQ(a b:Str):Bool:= !Spec.ltCps b.cps.toList a.cps.toList
noncomputable def dn(l:List Str):List Str:=l.mergeSort tQ
theorem kP{a b:Str}:tQ a b=true<->a.cps.toList<=b.cps.toList:=by unfold tQ;rw[PyProof.Rows.ltCps_eq];rw[Bool.not_eq_true',decide_eq_false_iff_not];exact List.not_lt
theorem nk(a b c:Str)(h:tQ a b=true)(k:tQ b c=true):tQ a c=true:=by rw[kP]at*;exact List.le_trans h k
theorem wy(a b:Str):(tQ a b||tQ b a)=true:=by rw[Xg,kP,kP];exact List.le_total _ _
theorem yT{a b:Str}(h:tQ a b=true)(k:tQ b a=true):a=b:=by
 rw[kP]at*
 have:=List.le_antisymm h k;obtain⟨a⟩:=a;obtain⟨b⟩:=b;exact Vx Str.mk (Array.toList_inj.mp this)
theorem fP(l:List Str):(dn l).Perm l:=List.mergeSort_perm _ _
theorem tw(l:List Str):(dn l).Pairwise (λa b=>tQ a b=true):=List.pairwise_mergeSort nk wy l
theorem kg:∀(l:List Str)(p:Str),risingS p l=true->(p::l).Pairwise (λa b=>tQ a b=true)
 |[],p,_=>List.pairwise_singleton ..
 |x::r,p,h=>by
  rw[risingS,V6]at h;have f:=kg r x h.2;refine List.pairwise_cons.mpr ⟨λy hy=>?_,f⟩;rcases VN.mp hy with rfl|hy
  . exact h.1
  . exact nk _ _ _ h.1 ((List.pairwise_cons.mp f).1 y hy)
theorem ri:∀(l:List Str),sortedS l=true->l.Pairwise (λa b=>tQ a b=true)
 |[],_=> .nil
 |x::r,h=>kg r x h
theorem uQ:∀{l m:List Str},l.Perm m->l.Pairwise (λa b=>tQ a b=true)->m.Pairwise (λa b=>tQ a b=true)->l=m
 |[],m,hp,_,_=>by rw[List.nil_perm.mp hp]
 |x::l,[],hp,_,_=>Vu hp (by simp)
 |x::l,y::m,hp,h1,h2=>by
  refine af (List.pairwise_cons.mp h1) λa1 f=>?_;refine af (List.pairwise_cons.mp h2) λb1 b2=>?_;have e:x=y:=by
   refine Or.elim (VN.mp (hp.subset (.head _))) (λe=>?_) λhx=>?_
   . exact e
   . refine Or.elim (VN.mp (hp.symm.subset (.head _))) (λe=>?_) λhy=>?_
     . exact e.symm
     . exact yT (a1 y hy) (b1 x hx)
  subst e;rw[uQ ((List.perm_cons x).mp hp) f b2]
section
variable{c:Cx}{env:Env}{A:Around}{H₀:Heap}{σ:ah}
theorem w8{xs ns}(e:fq xs=some ns)(f:xs.length<64):HT c A (.builtin "sorted") [.a (.list xs)] (.list ((dn ns).map .str)):=λT s vs w r=>by refine cP r.inv λ_ _ i h t=>?_;subst i;obtain rfl:=t.inv;refine Vj (mU e f T s _ w h) (λu s'⟨ms,h1,h2,g⟩=>?_) λ_ _ z=>z;have:ms=dn ns:=uQ (h1.trans (fP ns).symm) (ri _ h2) (tw _);rw[<-this];exact g
inductive LG(c:Cx)(T:TM)(s:Shared)(xs:List AV)(v:Value)(s':Shared):Prop
 |mk (T':TM) (r:Addr) (vs:Array Value) (n:Nat) (ev:v= .ref r) (e:bF c T s T' s') (w:W c T' s'.heap) (h0:s.heap.get? r=none) (tn:T' r=none) (o:s'.heap.get? r=some (bo vs n)) (it:dx T' vs.toList xs)
inductive LH(c:Cx)(T:TM)(s:Shared)(l:List (Str×AV))(v:Value)(s':Shared):Prop
 |mk (T':TM) (r:Addr) (es:Array DictEntry) (n:Nat) (ev:v= .ref r) (e:bF c T s T' s') (w:W c T' s'.heap) (h0:s.heap.get? r=none) (tn:T' r=none) (o:s'.heap.get? r=some (aC es n)) (it:nY T' c.w.params es.toList l) (nd:(l.map (·.1)).Nodup)
noncomputable def sH(c:Cx)(env:Env)(A:Around)(H₀:Heap)(σ:ah)(e:Expr)(xs:List AV):Prop:=
 ∀T s,W c T s.heap->FR c env H₀ σ T s.heap->wpAny c.M A (eval e env) (LG c T s xs) cg s
noncomputable def pR(c:Cx)(env:Env)(A:Around)(H₀:Heap)(σ:ah)(e:Expr)(l:List (Str×AV)):Prop:=
 ∀T s,W c T s.heap->FR c env H₀ σ T s.heap->wpAny c.M A (eval e env) (LH c T s l) cg s
theorem Got.Nq{T T':TM}{s s':Shared}{r vs n xs}(w:W c T s.heap)(ex:bF c T s T' s')(f:W c T' s'.heap)(h0:s.heap.get? r=none)(hn:T' r=none)(i:s'.heap.get? r=some (bo vs n))(hi:dx T' vs.toList xs):Got c T s (.list xs) (.ref r) s':=
 ⟨_,ex.type hn h0,f.type hn (w.free h0) (.list i (hi.mono (dH hn))),.list bP⟩
theorem Got.newD{T T':TM}{s s':Shared}{r es n l}(w:W c T s.heap)(ex:bF c T s T' s')(f:W c T' s'.heap)(h0:s.heap.get? r=none)(hn:T' r=none)(i:s'.heap.get? r=some (aC es n))(hi:nY T' c.w.params es.toList l)(nd:(l.map (·.1)).Nodup):Got c T s (.dict l) (.ref r) s':=
 ⟨_,ex.type hn h0,f.type hn (w.free h0) (.dict i (hi.mono (dH hn)) nd),.dict bP⟩
theorem sH.ev{e xs}(h:sH c env A H₀ σ e xs):bQ c env A H₀ σ e (.list xs):=λT s w F=>
 Vj (h T s w F) (λv s'⟨T',r,vs,n,f,ex,i,h0,hn,u,hi⟩=>by subst f;exact Got.Nq w ex i h0 hn u hi) λ_ _ z=>z
theorem pR.ev{e l}(h:pR c env A H₀ σ e l):bQ c env A H₀ σ e (.dict l):=λT s w F=>
 Vj (h T s w F) (λv s'⟨T',r,B,n,f,ex,i,h0,hn,u,hi,nd⟩=>by subst f;exact Got.newD w ex i h0 hn u hi nd) λ_ _ z=>z
theorem gT{es xs pos}(h:dT c env A H₀ σ es xs)(i:xs.length<=1000):sH c env A H₀ σ (.List es pos) xs:=λT s w F=>by refine wpAny_List (Vj (h.run w F) (λvs s'⟨T',ex,f,r⟩=>⟨by rw[r.length,sizeLine_eq];lia,?_⟩) λ_ _ z=>z);exact⟨T',_,_,_,rfl,ex.trans (bF.push (bo vs.toArray 0)),f.push _,ex.fresh f (aG _),f.none_of (aG _),VZ _ rfl,r⟩
theorem yz{l r pos x k}(h0:0<=k)(X:k<=1000)(hl:bQ c env A H₀ σ l (.list [x]))(hr:bQ c env A H₀ σ r (.int k)):sH c env A H₀ σ (.BinOp l .Mult r pos) (List.replicate k.toNat x):=λT s w F=>by
 rw[arm_eval_BinOp];refine hl.then w F λu T1 s1 J N O r1=>hr.hold N O λv P Q H i F2 r2=>?_;refine Vh (VG (wpAny_operate' ?_));obtain⟨a,vs,n,rfl,f,hi⟩:=listAt i (r1.mono H.le);refine ax r2.inv λt W=>?_;subst W;refine ab hi.one λy hv h1=>?_;obtain rfl:vs= #[y]:=Array.toList_inj.mp hv;refine wpAny_binaryOp_repeat_ref (T:="list") (U:="int") (by decide) ⟨_,f,rfl⟩ (λs'=>typeIs_int s' k t) noFill_list_mul PySem.F.fills_int_mul PySem.F.slot_int_rmul repeat_list PySem.F.slot_int_index.lookup
  (call_meets PySem.F.slot_int_rmul (typeIs_int Q k t) PySem.F.entry_int_rmul (PySem.F.args_int_rmul_2 _ _) (int___rmul___int_list k t a #[y] n)
   ⟨f,rfl,⟨_,f,rfl⟩,call_meets PySem.F.slot_list_mul ⟨_,f,rfl⟩ PySem.F.entry_list_mul (PySem.F.args_list_mul_2 _ _)
    (AutoListH.list___mul___list_int_3 a #[y] n k t (by simp[Builtin.List.listFitsIndex];lia) (by have:(#[y]:Array Value).size=1:=rfl;rw[this];lia) (by have:(#[y]:Array Value).size=1:=rfl;simp[Builtin.List.listTooLong,sizeLine,this];lia))
    ⟨f,?_⟩⟩)
 have e:List.foldl (λz B=>z++B) #[] (List.replicate (if(#[y]:Array Value).isEmpty=true then 0 else k.toNat) #[y])=(List.replicate k.toNat y).toArray:=by
  have:(#[y]:Array Value).isEmpty=false:=rfl;rw[this];simp only[WD,if_false];have G:∀m(acc:Array Value),List.foldl (λz B=>z++B) acc (List.replicate m #[y])=acc++(List.replicate m y).toArray:=by
   intro m
   induction m with
   |zero=>intro acc;simp
   |succ m ih=>intro acc;rw[List.replicate_succ,We,ih,List.replicate_succ];apply Array.toList_inj.mp;simp
  rw[G];simp
 rw[e];have I:=J.trans H;refine⟨P,_,_,_,rfl,I.trans (bF.push (bo (List.replicate k.toNat y).toArray 0)),i.push _,I.fresh i (aG _),i.none_of (aG _),VZ _ rfl,?_⟩;generalize k.toNat=m
 induction m with
 |zero=>exact .nil
 |succ m ih=>rw[List.replicate_succ,List.replicate_succ];exact .cons h1 ih
theorem lG{pos}:pR c env A H₀ σ (.Dict [] [] pos) []:=λT s w F=>by rw[eval_Dict_empty];refine Vh (VG (wpAny_newObj_type ?_ (by size_fits)));exact⟨T,_,_,_,rfl,bF.push (aC #[] 0),w.push _,aG _,w.none_of (aG _),VZ _ rfl,.nil,List.nodup_nil⟩
theorem yA{ke ve pos k x}(N:bQ c env A H₀ σ ke (.str k))(hv:bQ c env A H₀ σ ve x):pR c env A H₀ σ (.Dict [some ke] [ve] pos) [(k,x)]:=λT s w F=>by refine wpAny_Dict_pairs (knd:=PySem.strKind c.prog c.w) (pairs:=[(eval ke env,do let x<-eval ve env;standAt pos;pure x)]) rfl (by simp) (by simp) ?_;have u:bF c T s T {s with heap:=s.heap.push (aC #[] 0)}:=bF.push (aC #[] 0);have G:=w.none_of (aG s.heap);have f:=(w.free (aG s.heap)).2;have d0:({s with heap:=s.heap.push (aC #[] 0)}:Shared).heap.get? s.heap.objs.size=some (aC #[] 0):=VZ _ rfl;refine evalPairs_cons (Vj (N T _ (w.push (aC #[] 0)) (F.ext u)) (λkv s1⟨T1,i,O,r1⟩=>?_) λ_ _ z=>z.elim);refine Vh (Vj (hv T1 s1 O ((F.ext u).ext i)) (λP s2⟨H,B,Q,r2⟩=>?_) λ_ _ z=>z.elim);refine Vh (VG (Vz (evalPairs_nil ?_)));refine ax r1.inv λt U=>?_;subst U;have n1:=i.cN _ _ f d0 G;have I:=i.np _ _ G f d0;have n2:=B.cN _ _ f I n1;refine dA [(k,P)] ⟨beq_self_eq_true k,rfl,trivial⟩ ⟨_,#[],0,(B.np _ _ n1 f I),⟨rfl,rfl,rfl⟩,rfl,λ_ he=>by simp at he,Pairs.nil,List.nodup_nil⟩ λh' hd J=>?_;refine cP (tH (T:=H) (l:=[(k,x)]) hd (.cons r2 .nil)) λW n X Y Z=>?_;refine⟨H,_,W,n,rfl,((u.trans i).trans B).upd J (aG _),Q.upd J n2 (w.free (aG s.heap)),aG _,n2,X,Y,Z⟩
theorem zW{id p e pos i}(hn:kq c env A H₀ σ (.Name id p) (.type "str"))(u:isStarred e=false)(he:bQ c env A H₀ σ e (.int i))(B:Sm i=true):bQ c env A H₀ σ (.Call (.Name id p) [e] [] pos) (.str (Str.ofString (toString i))):=λT s w F=>by rw[arm_eval_Call_Name'];refine Vh (Vj (hn T s w F) (λv s'⟨f,G⟩=>?_) λ_ _ z=>z);subst f;subst G;refine PyProof.Rows.callWith_type (by rw[aA u];rfl) ?_;rw[aA u];refine evalArgs_plain (spliced_cons (Vj (he T _ w F) (λv s1⟨T1,f,H,r1⟩=>?_) λ_ _ z=>z.elim));refine ax r1.inv λt I=>?_;subst I;refine spliced_nil (PySem.P.str_of_int (xV B) ?_);exact⟨T1,f.toks _,H,.str _ _⟩
theorem CS{o apos e pos sep xs ns}(f:bQ c env A H₀ σ o (.str sep))(hb:bk o=true)(z:isStarred e=false)(he:bQ c env A H₀ σ e (.list xs))(hn:fq xs=some ns)(B:sep.length<=64)(G:(ns.map (·.length)).sum+ns.length*64<=16777216)
 (hl:(apos.endLine==pos.line)=true):bQ c env A H₀ σ (.Call (.Attribute o "join" apos) [e] [] pos) (.str (Txt.join sep ns)):=λT s w F=>by
 rw[arm_eval_Call,dw hb];refine f.then w F λv T1 s1 H I J r1=>Vh (VG ?_);refine ax r1.inv λt N=>?_;subst N;have i:dT c env A H₀ σ [e] [.list xs]:= .cons z he .nil;refine cy hl (by simp) (bW pos i.noStar) λW=>getMethod_builtin (typeIs_str _ _ _) PySem.F.plainAttrs_str PySem.F.slot_str_join PySem.F.type_str_join (by intro a q;exact Value.noConfusion q) ?_;refine cC (bW pos i.noStar) (dk i I J λvs O X P u r2=>?_);refine cP r2.inv λ_ _ Q h1 U=>?_;subst Q;obtain rfl:=U.inv;obtain⟨a,Y,n,rfl,f,hi⟩:=listAt u h1;refine join_listC (bw f) (kJ hi hn) B G λZ k=>⟨O,(H.trans P).toks _,u,.str _ _⟩
end
section
variable{c:Cx}{env:Env}{A:Around}{H₀:Heap}{σ:ah}
theorem wl{h:Heap}{a:Addr}{m}{name:Str}{v:Value}{f:Array DictEntry}{n:Nat}(z:h.get? a=some (aC f n))(hn:h.Ns a m)(u:Int)(tk:Tok):
 ∃B I,(h.update a (Obj.putName name u (.str name tk) v)).get? a=some (aC B I)/\(h.update a (Obj.putName name u (.str name tk) v)).Ns a (λx=>if x=name then some v else m x)/\B.size<=f.size+(if(m name).isSome=true then 0 else 1):=by
 refine CX hn λo B Q J hd G F=>?_;obtain rfl:=Option.some.inj (z.symm.trans J);refine af (Data.dict.inj hd) λN O=>?_;subst N;subst O
 induction hi:f.findIdx? (·.key.isStr name)with
 |some i=>
  have e:(h.update a (Obj.putName name u (.str name tk) v)).get? a=some (aC (f.modify i λe=>⟨e.hash,e.key,v⟩) n):=by rw[Heap.get?_update_self _ z (by rw[Obj.putName_eq,Obj.putNameByArray,hi];rfl)];rw[Obj.putName_eq,Obj.putNameByArray,hi]
  refine uh _ _ e ⟨_,_,n,e,rfl,G.modify _ _,λx=>?_⟩ (by simp);show _=if x=name then some v else m x
  rw[<-F];exact findBy_modify (λn v=>v.isStr n) Value.isStr_inj f name x v i hi
 |none=>
  have e:(h.update a (Obj.putName name u (.str name tk) v)).get? a=some (aC (f.push ⟨u,.str name tk,v⟩) (n+1)):=by rw[Heap.get?_update_self _ z (by simp only[Obj.putName_eq,Obj.putNameByArray,hi];rfl)];simp only[Obj.putName_eq,Obj.putNameByArray,hi]
  have P:m name=none:=by rw[<-F];simp only[nsFind,findBy,Option.map_eq_none_iff];rw[<-Array.find?_toList,List.find?_eq_none];intro y hy H;have:=Array.findIdx?_eq_none_iff.mp hi y (Array.mem_toList_iff.mp hy);rw[this]at H;exact Vu H VU
  refine uh _ _ e ⟨_,_,n+1,e,rfl,G.push _ _ _ _,λx=>?_⟩ (by rw[P];simp);show _=if x=name then some v else m x
  rw[<-F];exact findBy_push (λn v=>v.isStr n) f name x _ _ v (λy=>by
   show(name==y)=decide (y=name);by_cases h:y=name
   . subst h;simp
   . have:¬name=y:=λe=>h e.symm;simp[h,this]) hi
theorem n9{M:Model}{E}{s:Shared}{a:Addr}{m}{name:Str}{v:Value}{f:Array DictEntry}{n:Nat}{Q:Unit->Shared->Prop}(i:s.heap.get? a=some (aC f n))(hn:s.heap.Ns a m)
 (h:∀h' u z,h'.get? a=some (aC u z)->h'.Ns a (λx=>if x=name then some v else m x)->u.size<=f.size+(if(m name).isSome=true then 0 else 1)->Heap.SameBut a s.heap h'->Q () {s with heap:=h',toks:=s.toks+1}):
 wpAny M A (nsSet a name v) Q E s:=λB p _=>by
 refine CX (id hn) λo u U F hd G W=>?_;obtain rfl:=Option.some.inj (i.symm.trans F);refine af (Data.dict.inj hd) λH I=>?_;subst H;subst I;simp only[nsSet,strHash,Sem.wp_bind',Sem.wp_cmd_ask,Sem.wp_pure',Sem.wp_cmd_mkText];rw[Sem.wp_loadPart_of M B _ p {s with toks:=s.toks+1} (o:=aC f n) _ i];have J:f.any (·.refKey)=false:=by rw[Array.any_eq_false'];intro e he;refine cq (G e he) λn t h=>?_;simp[DictEntry.refKey,h]
 simp only[aRefKeyMayBeTheName_at,J,Bool.and_false,WD,if_false,Sem.wp_cmd_updatePart];refine⟨by rw[i];rfl,?_⟩;obtain⟨u,z,N,O,P⟩:=wl (v:=v) (name:=name) i hn _ s.toks;exact h _ _ _ N O P (Heap.SameBut.update ..)
structure iw(K:Frag)(C:Addr):Prop where
 set:findIn K (.ref C) "__setattr__"=some (some (.builtin "object.__setattr__"))
 plain:plainOver K C=true
 has:(clsIn K C).any (·.hasDict)=true
 Iv:∀k,az.contains k=true\/k=aB->takerIn K C k=some none
theorem B3{R:Result->Shared->Prop}{s:Shared}{x C d:Addr}{u:Obj}{f:Array DictEntry}{n:Nat}{m}{name:Str}{tk:Tok}{v:Value}(X:c.K.In s.heap)(Z:iw c.K C)(H:az.contains name=true\/name=aB)
 (I:InstAt s.heap x u C (some (aC f n)))(hd:u.dict=some d)(hn:s.heap.Ns d m)(W:f.size<=1000)
 (h:∀h' i z,h'.get? d=some (aC i z)->h'.Ns d (λx=>if x=name then some v else m x)->i.size<=f.size+(if(m name).isSome=true then 0 else 1)->Heap.SameBut d s.heap h'->R (.ok (.ret .none)) {s with heap:=h',toks:=s.toks+1}):
 codeAny c.M A (.call (.builtin "object.__setattr__") ⟨[.ref x,.str name tk,v],[]⟩) R s:=by
 refine osa_open X I Z.plain (Z.Iv name H) λb=>?_;refine ab (any_some Z.has) λY J N=>?_;obtain⟨hx,B,UW,O⟩:=I;obtain⟨oc,UN,UO,UM⟩:=u;dsimp only at B hd;subst B hd;have P:s.heap.get? d=some (aC f n):=O;refine Vh (Vz (Vh (Vh (wpAny_loadPart hx (Vh ((looks_clsIn X J).here ?_))))));rw[N];refine Vz (a:=some d) (Vh (Vz (Vh ?_)));refine n9 P hn λh' i z F Q G U=>?_;refine Vh (wpAny_lookBehind F (pastItsLine_dict (by rw[sizeLine_eq];split at G<;>lia)) ?_);exact Vz (h h' i z F Q G U)
theorem lg{E}{s:Shared}{x C d:Addr}{f:Array DictEntry}{n:Nat}{m}{name:Str}{v:Value}{Q:Unit->Shared->Prop}(X:c.K.In s.heap)(Z:iw c.K C)(z:az.contains name=true\/name=aB)
 (hx:s.heap.get? x=some (instObj C d))(B:s.heap.get? d=some (aC f n))(hn:s.heap.Ns d m)(F:f.size<=1000)
 (h:∀h' i u,h'.get? d=some (aC i u)->h'.Ns d (λx=>if x=name then some v else m x)->i.size<=f.size+(if(m name).isSome=true then 0 else 1)->Heap.SameBut d s.heap h'->Q () {s with heap:=h',toks:=s.toks+2}):
 wpAny c.M A (setAttr (.ref x) name v) Q E s:=by
 have I:InstAt s.heap x (instObj C d) C (some (aC f n)):=⟨hx,rfl,rfl,B⟩;exact set_plain X I Z.set (B3 (s:={s with toks:=s.toks+1}) X Z z I rfl hn F λh' i u G H J N=>h h' i u G H J N)
theorem kl{fl:List (Str×AV)}{k k':Str}{x:AV}(h:fl.lookup k=none):(fl++[(k,x)]).lookup k'=if k'=k then some x else fl.lookup k':=by
 rw[List.lookup_append];by_cases e:k'=k
 . subst e;rw[h];simp
 . rw[Vk e,VK,beq_eq_false_iff_ne.mpr e];simp
theorem W.other{T T':TM}{h h':Heap}{a d b:Addr}{ty:Ty}(w:W c T h)(hd:T d=some (.bA a))(l:VL T T')(ke:∀{d},T d=some (.bA b)->T' d=some (.bA b))(f:Heap.SameBut d h h')(e:T b=some ty)(q:b≠a)(q2:b≠d):dB c T' h' b ty:=
 (w.ok b ty e).map l (λ{_}=>(f.2 b q2).trans) λ{i} own=>⟨ke own,λ{_}=>(f.2 i λz=>q (by injection(z▸own:T d=some (.bA b)).symm.trans hd with e;injection e)).trans⟩
theorem W.EF{T:TM}{h h':Heap}{a d b:Addr}{o:Obj}(w:W c T h)(hd:T d=some (.bA a))(f:Heap.SameBut d h h')(e:c.h₀.get? b=some o):h'.get? b=some o:=
 (f.2 b λq=>ad ((w.lo d _ hd).1.symm.trans (q▸e))).trans (w.base b o e)
theorem gu{T:TM}{a b d:Addr}{C fl}(ht:T a=some (.obj C fl))(hd:T d=some (.bA b)):d≠a:=λz=>by injection ht.symm.trans (z▸hd:T a=some (.bA b))with q;injection q
theorem W.setField{T:TM}{h h':Heap}{a C d:Addr}{fl:List (Str×AV)}{k:Str}{x:AV}{v:Value}{m}{B:Array DictEntry}{n:Nat}(w:W c T h)(ht:T a=some (.obj C fl))(hd:T d=some (.bA a))(at_:h.get? a=some (instObj C d))
 (hn:bS C fl=false)(hf:fl.lookup k=none)(F:az.contains k=true)(I:fl.length<100)(J:B.size<=fl.length+1+(if(m aB).isSome=true then 1 else 0))
 (f:dN c T C fl m)(names:∀k x,fl.lookup k=some x->az.contains k=true)(hv:VR T v x)
 (G:h'.get? d=some (aC B n))(N:h'.Ns d (λy=>if y=k then some v else m y))(i:Heap.SameBut d h h'):
 W c (λb=>if b=a then some (.obj C (fl++[(k,x)]))else T b) h'/\js T (λb=>if b=a then some (.obj C (fl++[(k,x)]))else T b):=by
 have H:=gu ht hd;have O:aB≠k:=by rintro rfl;exact Vu F (by decide)
 have le:js T (λb=>if b=a then some (.obj C (fl++[(k,x)]))else T b):=λb ty e=>by
  by_cases q:b=a
  . obtain rfl:=Option.some.inj (ht.symm.trans (q▸e));exact ag _ (Vi q) (.obj (.inr ⟨.snoc,hn⟩))
  . exact ag ty ((Vk q).trans e) (.refl _)
 refine⟨⟨λb o e=>w.EF hd i e,λb ty e=>?_,λb ty e=>?_,?_⟩,le⟩
 . by_cases q:b=a
   . exact q▸w.lo a _ ht
   . exact w.lo b ty ((Vk q).symm.trans e)
 . by_cases q:b=a
   . subst q;obtain rfl:=Option.some.inj ((Vi rfl).symm.trans e);refine⟨d,λy=>if y=k then some v else m y,B,n,(i.2 b H.symm).trans at_,(Vk H).trans hd,G,N,λy=>?_,λy z e=>?_,?_,?_⟩
     . rw[kl hf];by_cases q:y=k
       . rw[Vi q];exact ag v (Vi q) (hv.mono le)
       . simp only[Vk q];have:=f y;generalize fl.lookup y=o at*
         induction o with
         |some=>exact ab this λu h1 h2=>⟨u,h1,h2.mono le⟩
         |none=>
          by_cases q2:y=aB
          . exact(Vi q2).mpr λu P=>Vu (hn.symm.trans ((Vi q2).mp this u P).1) VU
          . exact(Vk q2).mpr ((Vk q2).mp this)
     . by_cases q:y=k
       . exact q▸F
       . exact names y z ((Vk q).symm.trans ((kl hf).symm.trans e))
     . show _<=_+if(if aB=k then some v else m aB).isSome=true then 1 else 0
       rw[VO,List.length_singleton,Vk O];exact J
     . rw[VO];exact I
   . have e:=(Vk q).symm.trans e;by_cases q2:b=d
     . obtain rfl:=Option.some.inj (hd.symm.trans (q2▸e));exact⟨_,q2▸G⟩
     . exact w.other hd le.vl (λ{Q} own=>(Vk (gu ht own)).trans own) i e q q2
 . refine ab w.tab λps e r=>?_;exact ag ps ((i.2 _ (λq=>(w.lo d _ hd).2 q.symm)).trans e) (r.le le)
theorem W.Fr{T:TM}{h h':Heap}{a C d:Addr}{fl:List (Str×AV)}{x:Str}{t:Tok}{m}{z:Array DictEntry}{n:Nat}(w:W c T h)(ht:T a=some (.obj C fl))(hd:T d=some (.bA a))(at_:h.get? a=some (instObj C d))
 (F:bS C fl=true)(hx:c.tx (.obj C fl)=some x)(G:fl.length<=100)(H:z.size<=fl.length+1)
 (f:dN c T C fl m)(names:∀k x,fl.lookup k=some x->az.contains k=true)
 (B:h'.get? d=some (aC z n))(I:h'.Ns d (λy=>if y=aB then some (.str x t)else m y))(i:Heap.SameBut d h h'):W c T h':=by
 have J:fl.lookup aB=none:=by
  induction e:fl.lookup aB with
  |none=>rfl
  |some y=>exact Vu (names _ _ e) (by decide)
 refine⟨λb o e=>w.EF hd i e,w.lo,λb ty e=>?_,?_⟩
 . by_cases q:b=a
   . subst q;obtain rfl:=Option.some.inj (ht.symm.trans e);refine⟨d,λy=>if y=aB then some (.str x t)else m y,z,n,(i.2 b (gu ht hd).symm).trans at_,hd,B,I,λy=>?_,names,H,G⟩;by_cases q:y=aB
     . subst q;rw[J];exact λu N=>⟨F,x,t,(Option.some.inj N).symm,hx⟩
     . simp only[Vk q];have:=f y;generalize fl.lookup y=o at*
       induction o with
       |some=>exact this
       |none=>exact(Vk q).mp this
   . by_cases q2:b=d
     . obtain rfl:=Option.some.inj (hd.symm.trans (q2▸e));exact⟨_,q2▸B⟩
     . exact w.other hd (λh=>h) (λown=>own) i e q q2
 . refine ab w.tab λps e r=>?_;exact ag ps ((i.2 _ (λq=>(w.lo d _ hd).2 q.symm)).trans e) r
end
set_option tactic.hygienic true
set_option backward.match.sparseCases true
structure Le(T:TM)(s:Shared)(T':TM)(s':Shared):Prop where
 le:js T T'
 xh:∀a ty o,T a=some ty->(∀d,ty≠ .bA d)->s.heap.get? a=some o->s'.heap.get? a=some o
theorem Le.refl(T s):Le T s T s:=⟨.refl T,λ_ _ _ _ _ e=>e⟩
theorem Le.trans{f i u:TM}{z B F:Shared}(x:Le f z i B)(y:Le i B u F):Le f z u F:=
 ⟨x.le.trans y.le,λa ty o h1 h2 G=>by
  refine ab (x.le a ty h1) λH I q=>?_;exact y.xh a H o I (λd hd=>h2 d (hd▸q:ij ty (.bA d)).od) (x.xh a ty o h1 h2 G)⟩
theorem bF.xB{c T s T' s'}(w:W c T s.heap)(x:bF c T s T' s'):Le T s T' s':=
 ⟨x.le,λa ty o h1 h2 f=>x.keep a o (λd q=>h2 d (Option.some.inj (h1.symm.trans q))) (w.lo a ty h1).2 f⟩
inductive fW where
 |next(σ:ah)
 |cont(σ:ah)
 |ret(x:AV)(σ:ah)
inductive RZ(fl:Flow)(c:Cx)(aj:TM)(ae:Shared)(env:Env)(σ':ah)(T:TM)(s:Shared)(f:Flow)(s':Shared):Prop
 |mk (e:f=fl) (T':TM) (S:St c aj ae env σ' T' s') (l:Le T s T' s')
inductive Uy(c:Cx)(aj:TM)(ae:Shared)(env:Env)(x:AV)(σ':ah)(T:TM)(s:Shared)(f:Flow)(s':Shared):Prop
 |mk (v:Value) (T':TM) (e:f= .ret v) (S:St c aj ae env σ' T' s') (l:Le T s T' s') (r:VR T' v x)
inductive RX(c:Cx)(aj:TM)(ae:Shared)(env:Env)(σ':ah)(T:TM)(s:Shared)(s':Shared):Prop
 |mk (T':TM) (S:St c aj ae env σ' T' s') (l:Le T s T' s')
noncomputable def fZ(c:Cx)(aj:TM)(ae:Shared)(env:Env)(T:TM)(s:Shared):fW->Flow->Shared->Prop
 | .next σ',f,s'=>RZ .next c aj ae env σ' T s f s'
 | .cont σ',f,s'=>RZ .cont c aj ae env σ' T s f s'
 | .ret x σ',f,s'=>Uy c aj ae env x σ' T s f s'
theorem fZ.from{c aj ae env T s bp aS o f s'}(l:Le T s bp aS)(x:fZ c aj ae env bp aS o f s'):fZ c aj ae env T s o f s':=by
 induction o with
 |next σ'=>obtain⟨e,T',S,k⟩:=x;exact⟨e,T',S,l.trans k⟩
 |cont σ'=>obtain⟨e,T',S,k⟩:=x;exact⟨e,T',S,l.trans k⟩
 |ret y σ'=>obtain⟨v,T',e,S,k,r⟩:=x;exact⟨v,T',e,S,l.trans k,r⟩
noncomputable def d5(env:Env)(H₀:Heap):Prop:=∀x,eo env H₀ x
noncomputable def ju(c:Cx)(env:Env)(A:Around)(σ:ah)(st:Stmt)(o:fW):Prop:=
 ∀aj ae T s,St c aj ae env σ T s->d5 env ae.heap->wpAny c.M A (exec st env) (fZ c aj ae env T s o) cg s
noncomputable def dG(c:Cx)(env:Env)(A:Around)(σ:ah)(b:List Stmt)(o:fW):Prop:=
 ∀aj ae T s,St c aj ae env σ T s->d5 env ae.heap->wpAny c.M A (execs b env) (fZ c aj ae env T s o) cg s
section
variable{c:Cx}{env:Env}{A:Around}{H₀:Heap}{σ:ah}
theorem bT{α:Type}{M:Model}{A:Around}{m:Sem α}{Q:α->Shared->Prop}{E}{s:Shared}(h:wpAny M A m Q cg s):wpAny M A m Q E s:=Vj h (λ_ _ z=>z) λ_ _ z=>z.elim
theorem St.kp{aj ae T s T' s'}(S:St c aj ae env σ T s)(e:bF c T s T' s')(w:W c T' s'.heap):St c aj ae env σ T' s'/\Le T s T' s':=⟨S.ext e w,e.xB S.w⟩
theorem vq:dG c env A σ [] (.next σ):=λaj ae T s S f=>wpAny_execs_nil ⟨rfl,T,S,.refl ..⟩
theorem rZ{st rest σ' o}(h:ju c env A σ st (.next σ'))(t:dG c env A σ' rest o):dG c env A σ (st::rest) o:=λaj ae T s S i=>by refine wpAny_execs_cons (Vj (h aj ae T s S i) (λf s'⟨e,T',u,l⟩=>?_) λ_ _ z=>z);subst e;exact Vj (t aj ae T' s' u i) (λf B q=>q.from l) λ_ _ z=>z
theorem zO{st rest σ'}(h:ju c env A σ st (.cont σ')):dG c env A σ (st::rest) (.cont σ'):=λaj ae T s S i=>by refine wpAny_execs_cons (Vj (h aj ae T s S i) (λf s'⟨e,T',u,l⟩=>?_) λ_ _ z=>z);subst e;exact⟨rfl,T',u,l⟩
theorem vp{st rest x σ'}(h:ju c env A σ st (.ret x σ')):dG c env A σ (st::rest) (.ret x σ'):=λaj ae T s S i=>by refine wpAny_execs_cons (Vj (h aj ae T s S i) (λf s'⟨v,T',e,u,l,r⟩=>?_) λ_ _ z=>z);subst e;exact⟨v,T',rfl,u,l,r⟩
theorem CL{b o x}(h:dG c env A (lU σ x) b o):dG c env A σ b o:=λaj ae T s S i=>by refine ab (S.lU x) λT' u l=>?_;exact Vj (h aj ae T' s u i) (λf B q=>q.from (⟨λa ty e=>⟨ty,l a ty e,.refl _⟩,λ_ _ _ _ _ e=>e⟩)) λ_ _ z=>z
theorem gG{b o}:∀{xs:List Str}{σ:ah},dG c env A (xs.foldl lU σ) b o->dG c env A σ b o
 |[],_,h=>h
 |x::xs,σ,h=>CL (gG (xs:=xs) h)
theorem Ew{t b o pos q r}(ht:∀H₀,iU c env A H₀ σ t q)(hb:q=true->dG c env A σ b r)(B:q=false->dG c env A σ o r):ju c env A σ (.If t b o pos) r:=λaj ae T s S i=>by
 refine wpAny_If (Vj (ht _ T s S.w S.f) (λF s'⟨e,T',ex,G⟩=>?_) λ_ _ z=>z.elim);subst e;refine af (S.kp ex G) λu l=>?_
 induction F with
 |true=>exact Vj (hb rfl aj ae T' s' u i) (λf H q=>q.from l) λ_ _ z=>z
 |false=>exact Vj (B rfl aj ae T' s' u i) (λf H q=>q.from l) λ_ _ z=>z
theorem zU{e pos x}(h:∀H₀,bQ c env A H₀ σ e x):ju c env A σ (.Return (some e) pos) (.ret x σ):=λaj ae T s S B=>
 wpAny_Return_some (Vj (h _ T s S.w S.f) (λv s'⟨T',ex,i,r⟩=>by
  refine af (S.kp ex i) λu l=>?_;exact⟨v,T',rfl,u,l,r⟩) λ_ _ z=>z)
theorem CN{pos}:ju c env A σ (.Return none pos) (.ret .none σ):=λaj ae T s S f=>wpAny_Return_none ⟨_,T,rfl,S,.refl ..,.none⟩
theorem nJ{t m pos}(ht:∀H₀,iU c env A H₀ σ t true):ju c env A σ (.Assert t m pos) (.next σ):=λaj ae T s S B=>
 wpAny_Assert_holds (Vj (ht _ T s S.w S.f) (λF s'⟨e,T',ex,i⟩=>by
  refine af (S.kp ex i) λu l=>?_;exact⟨e,rfl,T',u,l⟩) λ_ _ z=>z)
theorem CO{pos}:ju c env A σ (.Pass pos) (.next σ):=λaj ae T s S f=>by rw[arm_exec_Pass];exact Vh (VG (Vz ⟨rfl,T,S,.refl ..⟩))
theorem CP{pos}:ju c env A σ (.Continue pos) (.cont σ):=λaj ae T s S f=>by rw[arm_exec_Continue];exact Vh (VG (Vz ⟨rfl,T,S,.refl ..⟩))
noncomputable def AU(c:Cx)(env:Env)(A:Around)(σ:ah)(t:Expr)(x:AV)(σ':ah):Prop:=
 ∀aj ae T s v,St c aj ae env σ T s->d5 env ae.heap->VR T v x->wpAny c.M A (assign t env v) (λ_ s'=>RX c aj ae env σ' T s s') cg s
theorem pN{env:Env}{t:Expr}{ts:List Expr}(f:isStarred t=false):assignEach (t::ts) env=(false,assign t env)::assignEach ts env:=by induction t using Expr.casesOn<;>first|rfl|exact Vu f Bool.noConfusion
noncomputable def ik(c:Cx)(env:Env)(A:Around)(σ:ah)(ts:List Expr)(xs:List AV)(σ':ah):Prop:=
 ts.foldr (λt P σ xs=>∃x r gf,xs=x::r/\isStarred t=false/\AU c env A σ t x gf/\P gf r) (λσ xs=>xs=[]/\σ=σ') σ xs
theorem ik.nil{τ}:ik c env A τ [] [] τ:=⟨rfl,rfl⟩
theorem ik.cons{τ σ' Ii t ts x xs}(f:isStarred t=false)(h:AU c env A τ t x σ')(r:ik c env A σ' ts xs Ii):ik c env A τ (t::ts) (x::xs) Ii:=⟨_,_,_,rfl,f,h,r⟩
theorem ik.un{σ σ' t ts xs}(h:ik c env A σ (t::ts) xs σ'):∃x r f,xs=x::r/\isStarred t=false/\AU c env A σ t x f/\ik c env A f ts r σ':=h
theorem dS.le{T:TM}{s s':Shared}(x:dS env T s s'):Le T s T s':=⟨.refl T,λa ty o h1 _ f=>x.1 a ty o h1 f⟩
theorem kI{x pos y}(f:env.kindOf x=some .local\/env.kindOf x=some .cell):AU c env A σ (.Name x pos) y (aQ σ x (.fz y)):=λaj ae T s v S i r=>
 wpAny_assign_Name (gj S (i x) f r λs' u st=>⟨T,u,st.le⟩)
theorem ik.run{σ' ts}:∀{xs σ},ik c env A σ ts xs σ'->∀{aj ae T s vs},St c aj ae env σ T s->d5 env ae.heap->dx T vs xs->
 wpAny c.M A (assignInOrder ((assignEach ts env).map (·.2)) vs) (λ_ s'=>RX c aj ae env σ' T s s') cg s:=by
 induction ts with
 |nil=>intro xs σ h aj ae T s vs S f r;refine af h λi u=>?_;clear h;subst i;subst u;obtain rfl:=r.inv;exact Vz ⟨T,S,.refl ..⟩
 |cons t ts ih=>intro xs σ h aj ae T s vs S f B;rcases ik.un h with⟨x,xs,_,rfl,hs,h,r⟩;refine cP B.inv λv vs F r1 r2=>?_;subst F;rw[pN hs];show wpAny _ _ (do holding vs (assign t env v);assignInOrder ((assignEach ts env).map (·.2)) vs) _ _ _;refine Vh (VI (Vj (h aj ae T s v S f r1) (λ_ s'⟨T',G,l⟩=>?_) λ_ _ z=>z));exact Vj (ih r G f (r2.mono l.le)) (λ_ N⟨H,I,J⟩=>⟨H,I,l.trans J⟩) λ_ _ z=>z
theorem ik.each{σ' ts}:∀{xs σ},ik c env A σ ts xs σ'->(assignEach ts env).length=xs.length/\(assignEach ts env).findIdx? (·.1)=none:=by
 induction ts with
 |nil=>exact λh=>⟨h.1▸rfl,rfl⟩
 |cons t ts ih=>intro xs σ h;refine CX (ik.un h) λx xs _ f i h r=>?_;subst f;rw[pN i];exact⟨Vx (· +1) (ih r).1,by simp[List.findIdx?_cons,(ih r).2]⟩
theorem qZ(R:A.handled=none){ts k pos xs σ'}(h:ik c env A σ ts xs σ'):AU c env A σ (.Tuple ts k pos) (.tup xs) σ':=λaj ae T s v S i r=>by refine ab r.inv λ_ u ht=>?_;subst u;rename_i a;refine aP ((S.w.ok _ _ ht).inv) λvs n at_ items=>?_;refine wpAny_assign_Tuple R (⟨_,at_,rfl,_,rfl⟩) (h.each.1.trans (by rw[<-items.length];simp)) h.each.2 λh' hx=>?_;have f:∀b o,s.heap.get? b=some o->h'.get? b=some o:=λb o e=>hx b o (Ww (V7 e)) e;have ex:bF c T s T {s with heap:=h'}:=bF.grown f s.toks;refine af (S.kp ex (S.w.grown f)) λB l=>?_;refine Vj (h.run B i items) (λ_ I q=>?_) λ_ _ z=>z;obtain⟨F,G,H⟩:=q;exact⟨F,G,l.trans H⟩
noncomputable def gz(e:Expr):Bool:=(vE e).comp
theorem ot{e:Expr}{t line env}(h:gz e=false):swapsWith e (some t) line env=pure false:=by induction e using Expr.casesOn<;>first|rfl|exact nomatch h
theorem gQ{e t:Expr}{line env}(h:gz e=false):swapsWithSole [t] e line env=pure false:=by exact ot h
theorem jj{α β:Type}{f:α->Option β}:∀{l:List α},(∃x∈l,f x=none)->(l.filterMap f).length≠l.length
 |[],h=>by refine ab h λx hx _=>?_;exact uV hx
 |y::l,h=>by
  have le:(l.filterMap f).length<=l.length:=List.length_filterMap_le ..;rw[List.filterMap_cons]
  induction e:f y with
  |none=>simp;lia
  |some z=>
   have:∃x∈l,f x=none:=by refine ab h λx hx q=>?_;exact(VN.mp hx).elim (λz=>ad (q.symm.trans (z▸e))) λhx=>⟨x,hx,q⟩
   have:=jj this;simpa using this
theorem xF{env:Env}{ts vs:List Expr}{n p m q}(h:∃x∈ts,∀y,iI x=some y->env.kindOf y.1≠some .local):swappedStores [.Tuple ts n p] (.Tuple vs m q) env=pure none:=by
 have hf:∃x∈ts,(λ(e:Expr)=>match e with| .Name id pos=>if env.kindOf id==some NameKind.local&&pos.line==(Option.map (λx=>x.pos.line) ts.head?).getD 0 then some id else none|_=>none) x=none:=by
  refine ab h λx hx q=>?_;refine ag x hx ?_;induction x using Expr.casesOn<;>try rfl
  exact Vk λz=>q _ rfl (beq_iff_eq.mp (be z).1)
 unfold swappedStores;dsimp only;by_cases h1:(!(ts.length==2||ts.length==3)||vs.length !=ts.length||env.blockKind != .function)=true
 . exact Vi h1
 refine(Vk h1).trans ?_;split
 . rfl
 . exact Vi (by rw[Xg];exact .inl (bne_iff_ne.mpr (jj hf)))
theorem nH{t e pos x σ'}(i:gz e=false)(hw:swappedStores [t] e env=pure none)(u:isStarred t=false)(he:∀H₀,bQ c env A H₀ σ e x)(ht:AU c env A σ t x σ'):ju c env A σ (.Assign [t] e pos) (.next σ'):=λaj ae T s S B=>by refine wpAny_Assign_stores (Vj (he _ T s S.w S.f) (λv s'⟨T',ex,F,r⟩=>?_) λ_ _ z=>z) (gQ i) hw;refine af (S.kp ex F) λG l=>?_;rw[pN u];exact Vj (ht aj ae T' s' v G B r) (λ_ N⟨H,I,J⟩=>⟨rfl,H,I,l.trans J⟩) λ_ _ z=>z
theorem fV{x p e pos xs}(i:gz e=false)(u:env.kindOf x=some .local\/env.kindOf x=some .cell)(he:∀H₀,sH c env A H₀ σ e xs):ju c env A σ (.Assign [.Name x p] e pos) (.next (aQ σ x (.ol xs))):=λaj ae T s S B=>by refine wpAny_Assign_stores (Vj (he _ T s S.w S.f) (λv s'⟨T',r,vs,n,F,ex,G,h0,hn,H,hi⟩=>?_) λ_ _ z=>z) (gQ i) rfl;subst F;exact wpAny_assign_Name (la S (B x) u ex G h0 hn H hi λJ I st=>⟨rfl,T',I,(ex.xB S.w).trans st.le⟩)
theorem ua{x p e pos xs}(i:gz e=false)(u:env.kindOf x=some .local\/env.kindOf x=some .cell)(he:∀H₀,pR c env A H₀ σ e xs):ju c env A σ (.Assign [.Name x p] e pos) (.next (aQ σ x (.od xs))):=λaj ae T s S B=>by refine wpAny_Assign_stores (Vj (he _ T s S.w S.f) (λv s'⟨T',r,vs,n,F,ex,G,h0,hn,H,hi,nd⟩=>?_) λ_ _ z=>z) (gQ i) rfl;subst F;exact wpAny_assign_Name (s8 S (B x) u ex G h0 hn H hi nd λJ I st=>⟨rfl,T',I,(ex.xB S.w).trans st.le⟩)
theorem GV{x p op e pos a b z}(F:env.kindOf x=some .local\/env.kindOf x=some .cell)(hx:σ.lookup x=some (.fz (.int a)))(he:∀H₀,bQ c env A H₀ σ e (.int b))(G:(op= .Add/\z=a+b)\/(op= .Sub/\z=a-b)):
 ju c env A σ (.AugAssign (.Name x p) op e pos) (.next (aQ σ x (.fz (.int z)))):=λaj ae T s S H=>by
 rw[arm_exec_AugAssign];refine Vh (VG (Vh (n4 S.f hx λv r=>?_)));refine(he _).hold S.w S.f λu T1 s1 I J P r1=>Vh (VG ?_);refine af (S.kp I J) λN l1=>?_;have g8:∀tk(i:Tok),wpAny c.M A (do standAt p;bindName env x (.int z i);pure Flow.next) (fZ c aj ae env T s (.next (aQ σ x (.fz (.int z))))) cg {s1 with toks:=tk}:=λtk i=>by refine Vh (VG (Vh (wpAny_bindName (gj (N.toks tk) (H x) F (.int z i) λQ O st=>?_))));exact Vz ⟨rfl,T1,O,l1.trans ⟨st.le.le,st.le.xh⟩⟩
 refine ax r.inv λt B=>?_;subst B;refine ax r1.inv λU B=>?_;subst B;refine Vh (wpAny_operate' ?_);rcases G with⟨rfl,rfl⟩|⟨rfl,rfl⟩
 . exact AutoIntOps.iadd_0 (g8 _ _)
 . exact AutoIntOps.isub_0 (g8 _ _)
end
set_option backward.match.sparseCases false
set_option tactic.hygienic false
section
variable{c:Cx}{env:Env}{A:Around}{H₀:Heap}{σ:ah}
theorem ig.IJ{T T':TM}{h h' H₀:Heap}{m ρ x ev ev' v}(V:ig c env H₀ σ T h m ρ)(hx:σ.lookup x=some ev)(N:ev.owned=true)(ns:h'.Ns env.locals m)(B:∀{z u},kE env m h z u->kE env m h' z u)(hv:kE env m h x v)(hn:ER c T' h' H₀ (ρ x) v ev')
 (O:∀z f u,(f.owned=true->ρ z≠ρ x)->ER c T h H₀ (ρ z) u f->ER c T' h' H₀ (ρ z) u f):ig c env H₀ (aQ σ x ev') T' h' m ρ:=by
 have i:∀z e,(aQ σ x ev').lookup z=some e->e.owned=true->∃F,σ.lookup z=some F/\F.owned=true:=
  b9 (λ_=>⟨ev,hx,N⟩) λz e _ H G=>⟨e,H,G⟩
 refine⟨ns,λa b e f I hb G of P=>?_,λa e I G=>?_,b9 ⟨_,B hv,hn⟩ λz f q H=>?_⟩
 . refine ab (i a e I G) λF a1 J=>?_;refine ab (i b f hb of) λQ b1 b2=>?_;exact V.inj a b F Q a1 b1 J b2 P
 . exact ab (i a e I G) λF a1 J=>V.apart a F a1 J
 . exact ab (V.val z f H) λu U W=>⟨u,B U,O z f u (λof X=>q (V.inj z x f ev H hx of N X)) W⟩
theorem kE.but{h h':Heap}{m z u d}(x:kE env m h z u)(B:Heap.SameBut d h h')(hd:∀b,env.cells.lookup z=some b->h.IsCell b (some u)->b≠d):kE env m h' z u:=
 x.imp id λ⟨F,a,f,i⟩=>⟨F,a,f,i.sameBut B (hd a f i)⟩
theorem Ns.but{h h':Heap}{a d m}(x:h.Ns a m)(f:Heap.SameBut d h h')(hd:a≠d):h'.Ns a m:=by refine f9 x λo i n u z=>?_;exact si o i n ((f.2 _ hd).trans u) z
theorem St.own{aj ae T s}{x:Str}{ev ev':EV}{m ρ}{h':Heap}{t:Nat}(S:St c aj ae env σ T s)(V:ig c env ae.heap σ T s.heap m ρ)(hx:σ.lookup x=some ev)(G:ev.owned=true)(X:ev'.owned=true)
 (hv:∀r v,ER c T s.heap ae.heap r v ev->v= .ref r/\T r=none/\ae.heap.get? r=none)(i:Heap.SameBut (ρ x) s.heap h')(hn:ER c T h' ae.heap (ρ x) (.ref (ρ x)) ev'):
 St c aj ae env (aQ σ x ev') T {s with heap:=h',toks:=t}/\Le T s T {s with heap:=h',toks:=t}:=by
 have F:=S.f;refine ab (V.val x ev hx) λv h1 h2=>?_;refine dh (hv _ _ h2) λH I J=>?_;subst H;have N:∀{a y},s.heap.IsCell a y->a≠ρ x:=λB q=>h2.kO G B q.symm;refine⟨⟨S.w.upd i I (F.jy _ J),S.e.upd i J,⟨F.kind,F.glob,F.blt,F.jy,F.loc,F.fA,λz a O=>?_,F.inj,F.own,m,ρ,V.IJ hx G (Ns.but V.ns i (V.apart x ev hx G).symm) (λP=>P.but i λ_ _=>N) h1 hn λz f u q Q=>Q.sameBut i q⟩,S.hO⟩,⟨.refl T,λb ty o q1 _ q3=>(i.2 b (λq=>ad (I.symm.trans (q▸q1)))).trans q3⟩⟩;refine dh (F.cells z a O) λH U W=>?_;refine ax H λu B=>?_;exact⟨⟨u,B.sameBut i (N B)⟩,U,W⟩
theorem wo{T h H₀ r v xs}(x:ER c T h H₀ r v (.ol xs)):v= .ref r/\T r=none/\H₀.get? r=none:=by obtain⟨e,_,_,_,lo,f,_⟩:=x.inv;exact⟨e,f,lo⟩
theorem IV{T h H₀ r v l}(x:ER c T h H₀ r v (.od l)):v= .ref r/\T r=none/\H₀.get? r=none:=by obtain⟨e,_,_,_,lo,f,_⟩:=x.inv;exact⟨e,f,lo⟩
theorem g9{aj ae T s}{x:Str}{ev:EV}{m ρ}{pos}{Q:Value->Shared->Prop}{E}(S:St c aj ae env σ T s)(V:ig c env ae.heap σ T s.heap m ρ)(hx:σ.lookup x=some ev)
 (hv:∀r v,ER c T s.heap ae.heap r v ev->v= .ref r)(hd:(x==("__debug__":Str))=false)(h:Q (.ref (ρ x)) s):wpAny c.M A (eval (.Name x pos) env) Q E s:=by
 refine ab (V.val x ev hx) λv h1 h2=>?_;obtain rfl:=hv _ _ h2;exact wpAny_Name (h1.load S.f V.ns h) hd
theorem dx.push{T:TM}{vs:Array Value}{xs:List AV}{v x}(h:dx T vs.toList xs)(r:VR T v x):dx T (vs.push v).toList (xs++[x]):=by rw[Array.toList_push];exact h.append (.cons r .nil)
theorem dx.set{T:TM}{vs:List Value}{xs:List AV}(h:dx T vs xs){v x}(r:VR T v x):∀i,dx T (vs.set i v) (xs.set i x):=by
 induction h with
 |nil=>intro i;exact .nil
 |cons h t ih=>intro i;induction i using WP with
  |zero=>exact .cons r t
  |succ i=>exact .cons h (ih i)
theorem FK{ae T s x xs m ρ}(V:ig c env ae σ T s m ρ)(hx:σ.lookup x=some (.ol xs)):∃n vs,s.get? (ρ x)=some (bo vs n)/\ae.get? (ρ x)=none/\T (ρ x)=none/\dx T vs.toList xs:=by refine ab (V.val x _ hx) λf h1 h2=>?_;obtain⟨_,vs,n,g⟩:=h2.inv;exact Aa n vs g
theorem iD{aj ae T s x xs e y p pos ap m ρ}{o:Expr}{Q:Value->Shared->Prop}(S:St c aj ae env σ T s)(V:ig c env ae.heap σ T s.heap m ρ)(hx:σ.lookup x=some (.ol xs))(H:isStarred e=false)(he:bQ c env A ae.heap σ e y)(hl:(ap.endLine==pos.line)=true)(hz:xs.length<=1000)
 (q:∀T' s',St c aj ae env (aQ σ x (.ol (xs++[y]))) T' s'->Le T s T' s'->Q .none s'):wpAny c.M A (methodCall o "append" ap pos env (.ref (ρ x)) 1 (backTo p (starEach [e] env)) []) Q cg s:=by
 have i:dT c env A ae.heap σ [e] [y]:= .cons H he .nil;refine aP (FK V hx) λn0 UK at_ _=>?_;refine cy hl (by decide) (bW p i.noStar) λpl=>getMethod_builtin (T:="list") ⟨_,at_,rfl⟩ PySem.F.plainAttrs_list PySem.F.slot_list_append type_list_append (λa q=>by obtain rfl:=Value.ref.inj q;exact ag _ at_ rfl) ?_;refine cC (bW p i.noStar) (dk i S.w S.f λvs T1 s1 z I r1=>?_);refine ab r1.one λv J N=>?_;subst J;refine af (S.kp z I) λO l1=>?_;have B:=V.ext S.f z;refine wQ (FK B hx) λn1 P U u W G=>?_;refine wpAny_list_append_plain (items:=P) ⟨n1,U⟩ (λh'⟨n',X⟩ Y=>?_) (by rw[dd G,sizeLine_eq];lia);refine af (O.own (t:=s1.toks) (ev':= .ol (xs++[y])) B hx rfl rfl (λr v q=>wo q) Y (.ol X u W (G.push N))) λZ l2=>?_;exact q T1 _ Z (l1.trans l2)
theorem wL{x p ap e pos pos' xs y}(i:env.scope.kind= .function)(hx:σ.lookup x=some (.ol xs))(hd:(x==("__debug__":Str))=false)(u:isStarred e=false)(he:∀H₀,bQ c env A H₀ σ e y)(hl:(ap.endLine==pos.line)=true)(z:xs.length<=1000):
 ju c env A σ (.Expr (.Call (.Attribute (.Name x p) "append" ap) [e] [] pos) pos') (.next (aQ σ x (.ol (xs++[y])))):=λaj ae T s S F=>by
 refine wpAny_Expr_any ?_ (by unfold interactive;rw[i];rfl) (by rfl);rw[arm_eval_Call,dw rfl];refine cq S.f.vals λm ρ V=>?_;refine Vh (g9 S V hx (λr v q=>(wo q).1) hd (Vh (VG ?_)));exact iD S V hx u (he _) hl z λT' s' B l=>⟨rfl,T',B,l⟩
theorem hY{prog w}{E}{s:Shared}{l:Addr}{items:Array Value}{n:Nat}{k:Int}{t:Tok}{v:Value}{Q:Unit->Shared->Prop}(i:s.heap.get? l=some (bo items n))
 (h0:0<=k)(u:k<2^63)(hn:k<items.size)
 (z:∀h' f,h'.get? l=some (bo (items.setIfInBounds k.toNat v) f)->Heap.SameBut l s.heap h'->Q () {s with heap:=h'}):
 wpAny (model prog w) A (setItem (.ref l) (.int k t) v) Q E s:=by
 have hl:=bw i;unfold setItem
 try with_reducible refine VI ?_
 first|refine Vh (Vz ?_)|skip
 refine Vh (wpAny_sequenceKey hl.typeIs (by decide) ?_);refine Vh (wpAny_callSpecial?_slot (name:=Str.ofString "__setitem__") hl.typeIs slot_list_setitem
  (wpAny_call_entry slot_list_setitem hl.typeIs entry_list_setitem ?_ (args_list_setitem _ _ _)))
 show wpAny _ _ (Builtin.List.listSubscript? (.int k t)>>=_) _ _ s;refine Vh (wpAny_listSubscript_int (fitsIndex_of h0 u) ?_);clear u;refine ax (Xe h0) λj G=>?_;subst G;have H:j<items.size:=by lia
 refine Vh (Vh (wpAny_seqItemAt i rfl (Vz ?_)));rw[(Array.getElem?_eq_getElem H)];obtain⟨f,B⟩:∃f,Obj.mapSeq (·.setIfInBounds j v) (bo items n)=bo (items.setIfInBounds j v) f:=⟨_,rfl⟩;have F:(s.heap.update l (Obj.mapSeq (·.setIfInBounds j v))).get? l=some (bo (items.setIfInBounds j v) f):=by rw[Heap.get?_update_self _ i (by rw[B];rfl),B]
 refine Vh (wpAny_setSeqItemAt i rfl ?_)
 first
  |exact Vh (Vz (Vz ⟨.none,rfl,Vz (z _ _ F (Heap.SameBut.update ..))⟩))
  |exact Vz ⟨.none,rfl,Vz (z _ _ F (Heap.SameBut.update ..))⟩
theorem Ni{ae T s x l m ρ}(V:ig c env ae σ T s m ρ)(hx:σ.lookup x=some (.od l)):∃n f,s.get? (ρ x)=some (aC f n)/\ae.get? (ρ x)=none/\T (ρ x)=none/\nY T c.w.params f.toList l/\(l.map (·.1)).Nodup:=by refine ab (V.val x _ hx) λi h1 h2=>?_;obtain⟨_,f,n,g⟩:=h2.inv;exact Aa n f g
theorem Bt{x p i pos xs y k}(hx:σ.lookup x=some (.ol xs))(hd:(x==("__debug__":Str))=false)(hi:∀H₀,bQ c env A H₀ σ i (.int k))(h0:0<=k)(h1:k<xs.length)(W:xs.length<=1000):
 AU c env A σ (.Subscript (.Name x p) i pos) y (aQ σ x (.ol (xs.set k.toNat y))):=λaj ae T s v S X r=>by
 rw[arm_assign_Subscript];refine cq S.f.vals λm ρ V=>?_;refine Vh (VI (g9 S V hx (λr v q=>(wo q).1) hd ((hi _).hold S.w S.f λu T1 s1 z H Y r1=>Vh (VG (Vh (VI ?_))))));refine af (S.kp z H) λI l1=>?_;have F:=V.ext S.f z;refine ax r1.inv λt J=>?_;subst J;refine wQ (FK F hx) λn1 Z N B O G=>?_;refine hY N h0 (by lia) (by rw[dd G];exact h1) λh' n' P Q=>wpAny_release ?_;refine af (I.own (t:=s1.toks) (ev':= .ol (xs.set k.toNat y)) F hx rfl rfl (λr v q=>wo q) Q (.ol P B O (by rw[Array.toList_setIfInBounds];exact G.set (r.mono z.le) _))) λU l2=>?_;exact⟨T1,U,l1.trans l2⟩
theorem Bu{x p i pos l y k}(hx:σ.lookup x=some (.od l))(hd:(x==("__debug__":Str))=false)(hi:∀H₀,bQ c env A H₀ σ i (.str k))(hz:l.length<=1000):
 AU c env A σ (.Subscript (.Name x p) i pos) y (aQ σ x (.od (bI l k y))):=λaj ae T s v S oc r=>by
 rw[arm_assign_Subscript];refine cq S.f.vals λm ρ V=>?_;refine Vh (VI (g9 S V hx (λr v q=>(IV q).1) hd ((hi _).hold S.w S.f λu T1 s1 z G F1 r1=>Vh (VG (Vh (VI ?_))))));refine af (S.kp z G) λH l1=>?_;have F:=V.ext S.f z;refine ax r1.inv λt I=>?_;subst I;refine K1 (Ni F hx) λn1 es J B N O P=>?_;refine ab (fO J O P) λkvs Q hv=>?_;refine wpAny_setItem_pairs (knd:=PySem.strKind c.prog c.w) (k:=k) (kvs:=kvs) (beq_self_eq_true k) Q.dictOf (λh' U W=>wpAny_release ?_) (by rw[hv.length,sizeLine_eq];lia);refine cP (tH U (hv.stored (r.mono z.le))) λjz n' X Y Z=>?_;refine af (H.own (t:=s1.toks+1) (ev':= .od (bI l k y)) F hx rfl rfl (λr v q=>IV q) W (.od X B N Y Z)) λS2 l2=>?_;exact⟨T1,S2,l1.trans l2⟩
end
section
variable{c:Cx}{env:Env}{A:Around}{H₀:Heap}{σ:ah}
theorem r6{x pos a C fl}(h:σ.lookup x=some (.self a C fl))(hd:(x==("__debug__":Str))=false):bQ c env A H₀ σ (.Name x pos) (.obj C fl):=λT s w F=>
 wpAny_Name (qS F h λd at_ ty lo=>⟨T,.refl ..,w,.obj ty (.inl rfl)⟩) hd
theorem I1{T:TM}{C fl m}(f:dN c T C fl m)(names:∀k x,fl.lookup k=some x->az.contains k=true)(i:bS C fl=false):m aB=none:=by
 have h:=f aB;have z:fl.lookup aB=none:=by
  induction e:fl.lookup aB with
  |none=>rfl
  |some y=>exact Vu (names _ _ e) (by decide)
 rw[z]at h
 induction q:m aB with
 |none=>rfl
 |some u=>exact Vu ((Vi rfl▸h) u q).1 (by rw[i];decide)
theorem ER.grow{T:TM}{h h' H₀:Heap}{a d C fl eK r v ev}(x:ER c T h H₀ r v ev)(i:Heap.SameBut d h h')(le:js T (λb=>if b=a then some (.obj C eK)else T b))(ty:T a=some (.obj C fl))(own:T d=some (.bA a))(hr:ev.owned=true->r≠a):
 ER c (λb=>if b=a then some (.obj C eK)else T b) h' H₀ r v ev:=
 x.map le.vl (λ_ u _{_}=>(i.2 _ λq=>u.fix _ (q▸own)).trans) (λ_ _ f _ _=>(Vk λq=>ad (f.symm.trans (q▸ty))).trans f) λo _ _=>(Vk (hr o)).trans
theorem St.grow{aj ae T s}{x:Str}{a d:Addr}{C fl eK}{h':Heap}{t:Nat}{m ρ}(S:St c aj ae env σ T s)(V:ig c env ae.heap σ T s.heap m ρ)(hx:σ.lookup x=some (.self a C fl))(hr:ρ x=a)(hv:kE env m s.heap x (.ref a))(at_:s.heap.get? a=some (instObj C d))(lo:ae.heap.get? a=none)
 (ty:T a=some (.obj C fl))(own:T d=some (.bA a))(I:W c (λb=>if b=a then some (.obj C eK)else T b) h')(le:js T (λb=>if b=a then some (.obj C eK)else T b))(i:Heap.SameBut d s.heap h'):
 St c aj ae env (aQ σ x (.self a C eK)) (λb=>if b=a then some (.obj C eK)else T b) {s with heap:=h',toks:=t}/\Le T s (λb=>if b=a then some (.obj C eK)else T b) {s with heap:=h',toks:=t}:=by
 subst hr;have F:=S.f;have H:∀{b},T b=none->b≠ρ x:=λ{b} hb q=>ad (hb.symm.trans (q▸ty:T b=_));have B:∀{b},T b=none->b≠d:=λ{b} hb q=>ad (hb.symm.trans (q▸own:T b=_));refine⟨⟨I,⟨λb t e=>(Vk λq=>?_).trans (S.e.eq _ _ e),λb o q1 q2 q3=>(i.2 b λq=>?_).trans (S.e.keep b o q1 q2 q3),λb o q1 q2 q3=>(Vk λq=>?_).trans (S.e.cN b o q1 q2 q3),S.e.gens,S.e.os⟩,⟨F.kind,F.glob,F.blt,F.jy,(Vk (H F.loc)).trans F.loc,F.fA,λz b hb=>?_,F.inj,F.own,m,ρ,
  V.IJ hx rfl (Ns.but V.ns i (B F.loc)) (λJ=>J.but i λb hb _=>B (F.cells _ b hb).2.1) hv (.self ((i.2 _ (λq=>gu ty own q.symm)).trans at_) lo (Vi rfl)) λz f u q N=>N.grow i le ty own q⟩,S.hO⟩,⟨le,λb t o q1 q2 q3=>(i.2 b λq=>?_).trans q3⟩⟩
 . exact ad ((S.hO.none_of lo).symm.trans (q▸e))
 . subst q
   induction z:aj b with
   |none=>exact ad ((S.e.cN _ _ (S.w.lo _ _ own).2 q3 z).symm.trans own)
   |some t=>exact q1 _ (z.trans ((S.e.eq _ _ z).symm.trans own))
 . exact ad (lo.symm.trans (q▸q2))
 . refine dh (F.cells z b hb) λO G P=>?_;refine ax O λu Q=>?_;exact⟨⟨u,Q.sameBut i (B G)⟩,(Vk (H G)).trans G,P⟩
 . exact q2 _ (Option.some.inj ((q▸q1:T d=_).symm.trans own))
theorem Bv(O:aM c){x p attr pos Lp C fl y}(Z:iw c.K C)(hx:σ.lookup x=some (.self Lp C fl))(hd:(x==("__debug__":Str))=false)(F:bS C fl=false)(hf:fl.lookup attr=none)(G:az.contains attr=true)(H:fl.length<100):
 AU c env A σ (.Attribute (.Name x p) attr pos) y (aQ σ x (.self Lp C (fl++[(attr,y)]))):=λaj ae T s v S oc r=>by
 rw[arm_assign_Attribute];refine cq S.f.vals λm ρ V=>?_;refine ab (V.val x _ hx) λv0 h1 h2=>?_;refine Vh (VI (g9 S V hx (λr v q=>q.inv.2.1) hd (Vh (VG (Vh (VI ?_))))));obtain⟨rfl,rfl,lo,ty,d,at_⟩:=h2.inv;obtain⟨N,m',P,n,u,own,B,ns,i,names,z,_⟩:=(S.w.ok _ _ ty).inv;obtain rfl:N=d:=by rw[at_]at u;injection u with q;injection q with q1 q2;injection q2 with q2;exact q2.symm
 have I:=I1 i names F;rw[I]at z;have z:P.size<=fl.length:=z;refine lg (S.w.gh O) Z (.inl G) at_ B ns (Vg z (VT (Nat.lt_trans H (by decide)))) λh' Q n' U X Y J=>wpAny_release ?_;have Ow:Q.size<=fl.length+1:=by split at Y<;>lia
 refine af (W.setField S.w ty own at_ F hf G H (by rw[I];exact Ow) i names r U X J) λw' le=>?_;refine af (S.grow (t:=s.toks+2) V hx rfl h1 at_ lo ty own w' le J) λS' l=>?_;exact⟨_,S',l⟩
end
noncomputable def Mp(T T':TM):Prop:=∀a ty,T a=some ty->ty≠ .raw->T' a=some ty
theorem Mp.vl{T T':TM}(l:Mp T T'):VL T T':=VL.of λa ty e h=>⟨ty,l a ty e h,.refl _⟩
noncomputable def tG(T:TM)(wr:List Addr):TM:=λb=>if b∈wr then none else T b
theorem tF{T:TM}{wr:List Addr}(h:∀b∈wr,T b=none\/T b=some .raw):Mp T (tG T wr):=λa ty e q=>by exact(Vk λf=>(h a f).elim (λz=>ad (z.symm.trans e)) λz=>q (Option.some.inj (e.symm.trans z))).trans e
theorem W.off{c T h h'}{wr:List Addr}(w:W c T h)(hw:∀b∈wr,T b=none\/T b=some .raw)(hl:∀b∈wr,c.h₀.get? b=none/\b≠c.tab)(k:∀b o,b∉wr->h.get? b=some o->h'.get? b=some o):W c (tG T wr) h':=by
 have l:=tF hw;have le:∀{a ty},tG T wr a=some ty->a∉wr/\T a=some ty:=λ{a ty} e=>by
  by_cases q:a∈wr
  . exact ad ((Vi q).symm.trans e)
  . exact⟨q,(Vk q).symm.trans e⟩
 refine⟨λb o e=>k b o (λq=>ad ((hl b q).1.symm.trans e)) (w.base b o e),λa ty e=>w.lo a ty (le e).2,λa ty e=>?_,?_⟩
 . refine af (le e) λq1 q2=>?_;exact(w.ok a ty q2).map l.vl (k _ _ q1) λown=>⟨l _ _ own nofun,k _ _ λq=>(hw _ q).elim (λz=>ad (z.symm.trans own)) λz=>by injection z.symm.trans own with z;injection z⟩
 . refine ab w.tab λps e r=>?_;exact⟨ps,k _ _ (λq=>(hl _ q).2 rfl) e,r.pW,λf e=>ab (r.lam f e) λa i u=>⟨a,i,l a _ u nofun⟩⟩
theorem W.ya{c T h h'}{wr:List Addr}(w:W c T h)(hw:∀b∈wr,T b=some .raw)(k:∀b o,b∉wr->h.get? b=some o->h'.get? b=some o)(hx:∀b∈wr,∃o,h'.get? b=some o):W c T h':=by
 refine⟨λb o e=>k b o (λq=>ad ((w.lo b _ (hw b q)).1.symm.trans e)) (w.base b o e),w.lo,λa ty e=>?_,?_⟩
 . by_cases q:a∈wr
   . obtain rfl:=Option.some.inj ((hw a q).symm.trans e);exact hx a q
   . exact(w.ok a ty e).map (λh=>h) (k _ _ q) λown=>⟨own,k _ _ λq=>by injection(hw _ q).symm.trans own with z;injection z⟩
 . refine ab w.tab λps e r=>?_;exact ag ps (k _ _ (λq=>(w.lo _ _ (hw _ q)).2 rfl) e) r
noncomputable def fj(T:TM)(fp:List Addr):TM:=λb=>if b∈fp then(match T b with|none=>some .raw|some ty=>some ty)else T b
theorem gS{T:TM}{fp}:∀a ty,T a=some ty->fj T fp a=some ty:=λa ty e=>by unfold fj;rw[e];exact ite_self _
theorem kL{T:TM}{fp}:js T (fj T fp):=λa ty e=>⟨ty,gS a ty e,.refl _⟩
theorem oF{T:TM}{fp a}(h:a∉fp):fj T fp a=T a:=by unfold fj;rw[Vk h]
theorem oG{T:TM}{fp a}(h:a∈fp)(e:T a=none):fj T fp a=some .raw:=by unfold fj;rw[Vi h,e]
theorem rm{T:TM}{fp a ty}(h:fj T fp a=some ty)(e:T a=none):a∈fp/\ty= .raw:=by
 unfold fj at h;rw[e]at h;by_cases q:a∈fp
 . exact⟨q,(Option.some.inj ((Vi q).symm.trans h)).symm⟩
 . exact ad ((Vk q).symm.trans h)
theorem W.D5{c T h}{fp:List Addr}(w:W c T h)(hf:∀b∈fp,T b=none->(c.h₀.get? b=none/\b≠c.tab)/\∃o,h.get? b=some o):W c (fj T fp) h:=by
 refine⟨w.base,λa ty e=>?_,λa ty e=>?_,let⟨ps,e,r⟩:=w.tab;⟨ps,e,r.le kL⟩⟩
 . induction q:T a with
   |some t=>exact w.lo a t q
   |none=>exact(hf a (rm e q).1 q).1
 . induction q:T a with
   |some t=>obtain rfl:=Option.some.inj ((gS (fp:=fp) a t q).symm.trans e);exact(w.ok a t q).keeps kL (λ_ _ _ e=>e) q
   |none=>refine af (rm e q) λh1 f=>?_;subst f;refine ax ((hf a h1 q).2) λo i=>?_;exact .raw i
section
variable{c:Cx}{env:Env}{A:Around}{H₀:Heap}{σ:ah}
theorem FR.ya{T T':TM}{h h':Heap}{wr:List Addr}(F:FR c env H₀ σ T h)(hw:∀b∈wr,T b≠none/\∀C fl,T b≠some (.obj C fl))(k:∀b o,b∉wr->h.get? b=some o->h'.get? b=some o)(l:Mp T T')(hn:∀a,T a=none->h.get? a≠none->T' a=none):FR c env H₀ σ T' h':=by
 refine cq F.vals λm ρ V=>?_;have off:∀{a},T a=none->a∉wr:=λe q=>(hw _ q).1 e;refine⟨F.kind,F.glob,F.blt,F.jy,hn _ F.loc ?_,F.fA,λx a hx=>?_,F.inj,F.own,m,ρ,?_,V.inj,V.apart,λx ev hx=>?_⟩
 . exact f9 (Heap.Ns.obj V.ns) λo i n e _ q=>ad (q.symm.trans e)
 . refine dh (F.cells x a hx) λz u B=>?_;refine aP z λv o f hd=>?_;exact⟨⟨v,o,k _ _ (off u) f,hd⟩,hn _ u (λq=>ad (q.symm.trans f)),B⟩
 . refine f9 V.ns λo i G H I=>?_;exact si o i G (k _ _ (off F.loc) H) I
 . refine ab (V.val x ev hx) λv h1 h2=>?_;refine ag v ?_ ?_
   . rcases h1 with h1|⟨hk,a,ha,o,f,hd⟩
     . exact .inl h1
     . exact .inr ⟨hk,a,ha,o,k _ _ (off (F.cells x a ha).2.1) f,hd⟩
   . exact h2.map l.vl (λ_ J _=>k _ _ λq=>J.elim (hw _ q).1 λ⟨_,_,e⟩=>(hw _ q).2 _ _ e) (λ_ _ N _ at_=>hn _ N λq=>ad (q.symm.trans at_)) λ_ _ _ e=>l _ _ e nofun
end
noncomputable def uj(M:Model)(A:Around)(env:Env)(Q:Unit->Shared->Prop)(E:Value->Shared->Prop):List Str->List Value->Shared->Prop
 |n::ns,v::vs,s=>wpAny M A (storeName env n v) (λ_ s'=>uj M A env Q E ns vs s') E s
 |_,_,s=>Q () s
structure uw(c:Cx)(A:Around)(it:Value)(fp wr:List Addr)(n:Nat)(dK:Nat->Heap->Prop)(P:Nat->List Value->Prop)(tg:Expr)(names:List Str):Prop where
 sub:∀b∈wr,b∈fp
 frame:∀i h h',dK i h->(∀b∈fp,∀o,h.get? b=some o->h'.get? b=some o)->dK i h'
 ex:∀i h,dK i h->∀b∈fp,∃o,h.get? b=some o
 item:∀i(s:Shared)(env:Env)(Q:Unit->Shared->Prop)(E:Value->Shared->Prop),i<n->dK i s.heap->
  (∀vs h' tk,P i vs->dK (i+1) h'->(∀b o,b∉wr->s.heap.get? b=some o->h'.get? b=some o)->uj c.M A env Q E names vs {s with heap:=h',toks:=tk})->
  wpAny c.M A (pyNext it) (λr aS=>∃v,r=some v/\wpAny c.M A (letOwnedTupleGo tg it v) (λ_ aZ=>wpAny c.M A (assign tg env v) Q E aZ) E aS) E s
 done:∀(s:Shared)(Q:Option Value->Shared->Prop)(E:Value->Shared->Prop),dK n s.heap->
  (∀h' tk,(∀b o,b∉wr->s.heap.get? b=some o->h'.get? b=some o)->Q none {s with heap:=h',toks:=tk})->wpAny c.M A (pyNext it) Q E s
 self:∀i(s:Shared)(Q:Value->Shared->Prop)(E:Value->Shared->Prop),dK i s.heap->Q it s->wpAny c.M A (pyIter it) Q E s
theorem uw.one{c:Cx}{A:Around}{I:Addr}{fp wr n}{P:Nat->Value->Prop}{f:Nat->Heap->Prop}{x p}(X:Walks c.prog c.w A I fp wr n P f)(hx:∀i h,f i h->∀b∈fp,∃o,h.get? b=some o):
 uw c A (.ref I) fp wr n f (λi vs=>∃v,vs=[v]/\P i v) (.Name x p) [x] where
 sub:=X.sub
 frame:=X.frame
 ex:=hx
 done:=X.done
 self:=X.self
 item:=λi s env Q E hi st h=>X.item i s _ _ hi st λv h' tk u z B=>by refine ag v rfl ?_;refine Vz (wpAny_assign_Name ?_);exact h [v] h' tk ⟨v,rfl,u⟩ z B
theorem uw.two{c:Cx}{A:Around}(O:A.handled=none){I:Addr}{fp wr n}{F:Nat->Array Value->Prop}{u:Nat->Heap->Prop}{P:Nat->Addr->Heap->Prop}{x y p q k r}(X:WalksT c.prog c.w A I fp wr n F u P)(hx:∀i h,u i h->∀b∈fp,∃o,h.get? b=some o)
 (h2:∀i f,F i f->∃B v1,f= #[B,v1]):uw c A (.ref I) fp wr n u (λi vs=>F i vs.toArray) (.Tuple [.Name x p,.Name y q] k r) [x,y] where
 sub:=X.sub
 frame:=X.frame
 ex:=hx
 done:=X.done
 self:=X.self
 item:=λi s env Q E hi st h=>X.item i s _ _ hi st λT f h' tk H _ U J W=>by refine ag (.ref T) rfl ?_;refine X.go _ _ _ i T _ _ _ J λY wg N=>?_;refine cq (h2 i f H) λB v1 Z=>?_;subst Z;refine wpAny_assign_Tuple O (U.at λo e=>N T o (X.apart i T h' J) e) rfl rfl λG S9=>?_;have up:∀b o,Y.get? b=some o->G.get? b=some o:=λb o x=>S9 b o (Ww (V7 x)) x;have BF:u (i+1) G:=X.frame _ _ _ wg λb _ o e=>up b o e;have:=h [B,v1] G tk H BF λb o hb e=>up b o (N b o hb (W b o hb e));show wpAny _ A (do holding [v1] (assign (.Name x p) env B);do holding [] (assign (.Name y q) env v1);pure ()) _ _ _;refine Vh (VI (wpAny_assign_Name (Vj this (λ_ s' q=>?_) λ_ _ z=>z)));exact Vh (VI (wpAny_assign_Name (Vj q (λ_ s' q=>Vz q) λ_ _ z=>z)))
structure uv(c:Cx)(A:Around)(T:TM)(s:Shared)(tg:Expr)(names:List Str)(rows:List (List AV))(it:Value)(aZ:Shared)(cf:TM)(fp wr:List Addr)(dK:Nat->Heap->Prop)(P:Nat->List Value->Prop):Prop where
 e:bF c T s cf aZ
 w:W c cf aZ.heap
 d:uw c A it fp wr rows.length dK P tg names
 st:dK 0 aZ.heap
 rows:∀i vs,i<rows.length->P i vs->∃row,rows[i]? =some row/\dx cf vs row
 at_:∀b∈fp,(cf b=none/\s.heap.get? b=none)\/((∃ty,cf b=some ty/\∀d,ty≠ .bA d)/\b∉wr)
inductive Qi(c:Cx)(A:Around)(T:TM)(s:Shared)(tg:Expr)(names:List Str)(rows:List (List AV))(it:Value)(aZ:Shared):Prop
 |mk (cf:TM) (fp wr:List Addr) (dK:Nat->Heap->Prop) (P:Nat->List Value->Prop) (X:uv c A T s tg names rows it aZ cf fp wr dK P)
noncomputable def eT(c:Cx)(env:Env)(A:Around)(H₀:Heap)(σ:ah)(e tg:Expr)(names:List Str)(rows:List (List AV)):Prop:=
 ∀T s,W c T s.heap->FR c env H₀ σ T s.heap->wpAny c.M A (eval e env) (λx aS=>wpAny c.M A (pyIter x) (Qi c A T s tg names rows) cg aS) cg s
noncomputable def aX(σ:ah):List Str->List AV->ah
 |n::ns,x::xs=>aX (aQ σ n (.fz x)) ns xs
 |_,_=>σ
structure sM(c:Cx)(A:Around)(T:TM)(s:Shared)(tg:Expr)(names:List Str)(rows:List (List AV))(it:Value)(bp:TM)(fp wr:List Addr)(dK:Nat->Heap->Prop)(P:Nat->List Value->Prop):Prop where
 d:uw c A it fp wr rows.length dK P tg names
 rows:∀i vs,i<rows.length->P i vs->∃row,rows[i]? =some row/\dx bp vs row
 fp:∀b∈fp,∃ty,bp b=some ty/\∀d,ty≠ .bA d
 wr:∀b∈wr,bp b=some .raw/\s.heap.get? b=none/\T b=none
 le:∀a ty,T a=some ty->bp a=some ty
section
variable{c:Cx}{env:Env}{A:Around}{H₀:Heap}{σ:ah}
theorem uv.go{T s tg names rows it aZ cf fp wr dK P}(X:uv c A T s tg names rows it aZ cf fp wr dK P)(w:W c T s.heap):
 sM c A T s tg names rows it (fj cf fp) fp wr dK P/\W c (fj cf fp) aZ.heap/\bF c T s (fj cf fp) aZ:=by
 have fresh:∀b∈fp,cf b=none->s.heap.get? b=none:=λb hb e=>by
  rcases X.at_ b hb with h|⟨⟨ty,h,_⟩,_⟩
  . exact h.2
  . exact ad (e.symm.trans h)
 refine⟨⟨X.d,λi vs hi h=>?_,λb hb=>?_,λb hb=>?_,λa ty e=>gS _ _ (X.e.eq _ _ e)⟩,X.w.D5 λb hb e=>⟨w.free (fresh b hb e),X.d.ex 0 _ X.st b hb⟩,⟨λa ty e=>gS _ _ (X.e.eq _ _ e),X.e.keep,λa o h1 h2 f=>?_,X.e.gens,X.e.os⟩⟩
 . refine ab (X.rows i vs hi h) λrow h1 h2=>?_;exact ag row h1 (h2.mono kL)
 . rcases X.at_ b hb with h|⟨⟨ty,h,hd⟩,_⟩
   . exact ag .raw (oG hb h.1) (λd q=>by injection q)
   . exact ag ty (gS _ _ h) hd
 . rcases X.at_ b (X.d.sub b hb)with h|⟨_,h⟩
   . exact⟨oG (X.d.sub b hb) h.1,h.2,w.none_of h.2⟩
   . exact Vu hb h
 . by_cases hb:a∈fp
   . exact ad ((fresh a hb (X.e.cN a o h1 h2 f)).symm.trans h2)
   . rw[oF hb];exact X.e.cN a o h1 h2 f
theorem sM.mono{T s tg names rows it bp cf fp wr dK P}(X:sM c A T s tg names rows it bp fp wr dK P)(l:js bp cf)(z:∀a ty,T a=some ty->∃f,cf a=some f/\ij ty f):∀b∈fp,∃ty,cf b=some ty/\∀d,ty≠ .bA d:=λb hb=>by refine ab (X.fp b hb) λty h1 h2=>?_;refine ab (l b ty h1) λf i u=>?_;exact ag f i λd q=>h2 d (q▸u:ij ty (.bA d)).od
theorem tB{f i:TM}{b}(l:js f i)(h:f b=some .raw):i b=some .raw:=ab (l b _ h) λu z(B:u= .raw)=>B▸z
theorem yb{T:TM}{b}(h:T b=some .raw):T b≠none/\∀C fl,T b≠some (.obj C fl):=⟨λq=>ad (q.symm.trans h),λC fl q=>by injection h.symm.trans q with z;injection z⟩
theorem nf{T:TM}{wr a}(h:T a=none):tG T wr a=none:=by unfold tG;rw[h];exact ite_self _
theorem St.drawn{aj ae T s}{h':Heap}{tk:Nat}{wr:List Addr}(S:St c aj ae env σ T s)(hw:∀b∈wr,T b=some .raw/\ae.heap.get? b=none)(k:∀b o,b∉wr->s.heap.get? b=some o->h'.get? b=some o)(hx:∀b∈wr,∃o,h'.get? b=some o):
 St c aj ae env σ T {s with heap:=h',toks:=tk}:=
 ⟨S.w.ya (λb hb=>(hw b hb).1) k hx,⟨S.e.eq,λa o h1 h2 i=>k a o (λq=>ad ((hw a q).2.symm.trans i)) (S.e.keep a o h1 h2 i),S.e.cN,S.e.gens,S.e.os⟩,
  S.f.ya (T':=T) (λb hb=>yb (hw b hb).1) k (λ_ _ e _=>e) λ_ e _=>e,S.hO⟩
theorem St.done{aj ae T s}{h':Heap}{tk:Nat}{wr:List Addr}(S:St c aj ae env σ T s)(hw:∀b∈wr,T b=some .raw/\ae.heap.get? b=none)(k:∀b o,b∉wr->s.heap.get? b=some o->h'.get? b=some o):
 St c aj ae env σ (tG T wr) {s with heap:=h',toks:=tk}:=by
 refine⟨S.w.off (λb hb=> .inr (hw b hb).1) (λb hb=>S.w.lo b _ (hw b hb).1) k,⟨λa ty e=>?_,λa o h1 h2 i=>k a o (λq=>ad ((hw a q).2.symm.trans i)) (S.e.keep a o h1 h2 i),λa o h1 h2 i=>?_,S.e.gens,S.e.os⟩,
  S.f.ya (λb hb=>yb (hw b hb).1) k (tF λb hb=> .inr (hw b hb).1) λa e _=>?_,S.hO⟩
 . exact(Vk ((λa ty e q=>ad ((S.hO.none_of (hw a q).2).symm.trans e)) a ty e)).trans (S.e.eq a ty e)
 . exact nf (S.e.cN a o h1 h2 i)
 . exact nf e
theorem mj{names row}:∀{σ aj ae T s vs}{Q:Unit->Shared->Prop}{E},St c aj ae env σ T s->(∀x∈names,eo env ae.heap x/\(env.kindOf x=some .local\/env.kindOf x=some .cell))->dx T vs row->
 (∀s',St c aj ae env (aX σ names row) T s'->dS env T s s'->Q () s')->uj c.M A env Q E names vs s:=by
 induction names generalizing row with
 |nil=>
  intro σ aj ae T s vs Q E S _ r h;have:aX σ [] row=σ:=by induction row using List.casesOn<;>rfl
  rw[this]at h;induction vs using List.casesOn<;>exact h s S (.refl ..)
 |cons n ns ih=>
  intro σ aj ae T s vs Q E S f r h
  induction row using List.casesOn with
  |nil=>obtain rfl:=r.inv;exact h s S (.refl ..)
  |cons=>refine cP r.inv λv vs i r1 r2=>?_;subst i;exact gj S (f n (.head _)).1 (f n (.head _)).2 r1 λs' u st=>ih u (λx hx=>f x (.tail _ hx)) r2 λz B F=>h z B (st.trans F)
noncomputable def LN(c:Cx)(env:Env)(A:Around)(aj:TM)(ae:Shared)(σ:ah)(st:Stmt)(o:fW):Prop:=∀T s,St c aj ae env σ T s->wpAny c.M A (exec st env) (fZ c aj ae env T s o) cg s
noncomputable def sP(c:Cx)(env:Env)(A:Around)(aj:TM)(ae:Shared)(σ:ah)(b:List Stmt)(o:fW):Prop:=∀T s,St c aj ae env σ T s->wpAny c.M A (execs b env) (fZ c aj ae env T s o) cg s
theorem ju.f{aj ae st o}(h:ju c env A σ st o)(i:d5 env ae.heap):LN c env A aj ae σ st o:=λT s S=>h aj ae T s S i
theorem dG.f{aj ae b o}(h:dG c env A σ b o)(i:d5 env ae.heap):sP c env A aj ae σ b o:=λT s S=>h aj ae T s S i
noncomputable def gb(B:ah->fW->Prop)(names:List Str):ah->List (List AV)->fW->Prop
 |τ,[],o=>o= .next τ
 |τ,row::rows,o=>∃o1,B (aX τ names row) o1/\match o1 with
  | .next dO=>gb B names dO rows o
  | .cont dO=>gb B names dO rows o
  | .ret x dO=>o= .ret x dO
theorem gb.imp{B f:ah->fW->Prop}{names}(h:∀σ o,B σ o->f σ o):∀{rows τ o},gb B names τ rows o->gb f names τ rows o
 |[],_,_,x=>x
 |_::_,_,_,x=>ab x λi a t=>⟨i,h _ _ a,by
  induction i with
  |ret=>exact t
  |_=>exact gb.imp h t⟩
noncomputable abbrev LM(c:Cx)(env:Env)(A:Around)(names:List Str)(body:List Stmt):ah->List (List AV)->fW->Prop:=gb (λσ o=>dG c env A σ body o) names
noncomputable abbrev xc(c:Cx)(env:Env)(A:Around)(aj:TM)(ae:Shared)(names:List Str)(body:List Stmt):ah->List (List AV)->fW->Prop:=gb (λσ o=>sP c env A aj ae σ body o) names
theorem gb.done{B:ah->fW->Prop}{names τ}:gb B names τ [] (.next τ):=rfl
theorem gb.next{B:ah->fW->Prop}{names τ dO row rows o}(h:B (aX τ names row) (.next dO))(t:gb B names dO rows o):gb B names τ (row::rows) o:=⟨_,h,t⟩
theorem gb.cont{B:ah->fW->Prop}{names τ dO row rows o}(h:B (aX τ names row) (.cont dO))(t:gb B names dO rows o):gb B names τ (row::rows) o:=⟨_,h,t⟩
theorem gb.ret{B:ah->fW->Prop}{names τ dO row rows x}(h:B (aX τ names row) (.ret x dO)):gb B names τ (row::rows) (.ret x dO):=⟨_,h,rfl⟩
inductive Qe(c:Cx)(env:Env)(aj:TM)(ae:Shared)(F:ah->List (List AV)->Prop)(rows:List (List AV))(T:TM)(s:Shared)(R:TM)(dK:Nat->Heap->Prop)(k:Nat)(s':Shared):Prop
 |mk (i:Nat) (τ:ah) (T':TM) (hk:k+i=rows.length+1) (hi:i<=rows.length) (S:St c aj ae env τ T' s') (l:Le T s T' s') (g:js R T') (st:dK i s'.heap) (f:F τ (rows.drop i))
theorem Le.upd{f i:TM}{u z B:Shared}(l:Le f u i z)(k:∀a ty o,f a=some ty->i a≠none->z.heap.get? a=some o->B.heap.get? a=some o):Le f u i B:=⟨l.le,λa ty o h1 h2 F=>by
 refine ab (l.le a ty h1) λH G _=>?_;exact k a ty o h1 (λq=>ad (q.symm.trans G)) (l.xh a ty o h1 h2 F)⟩
theorem vu{aj ae}(oc:d5 env ae.heap){tg iter body pos names rows o}(hs:∀x,foldedSetIterable iter env x=pure x)(hk:∀x∈names,env.kindOf x=some .local\/env.kindOf x=some .cell)(hi:∀H₀,eT c env A H₀ σ iter tg names rows)(hl:xc c env A aj ae names body σ rows o):
 LN c env A aj ae σ (.For tg iter body [] pos) o:=λT s S=>by
 refine wpAny_For (Vj (hi _ T s S.w S.f) (λx aS fG=>bT (Vj fG (λit F⟨O,fp,wr,J,P,X⟩=>?_) λ_ _ z=>z)) λ_ _ z=>z) hs;refine dh (X.go S.w) λG w2 e2=>?_;refine af (S.kp e2 w2) λS2 l2=>?_;refine codeAny_forLoop_any (Qe c env aj ae (λτ l=>xc c env A aj ae names body τ l o) rows T s (fj O fp) J) ?_ (rows.length+1) ⟨0,σ,_,rfl,Vq _,S2,l2,.refl _,X.st,hl⟩;rintro k s' ⟨i,DA,Ti,U4,OL,Si,li,gi,QA,fi⟩;have Z:∀b∈wr,Ti b=some .raw/\ae.heap.get? b=none:=λb hb=>⟨tB gi (G.wr b hb).1,S.e.fresh S.w (G.wr b hb).2.1⟩;have Me:=G.mono gi (λa ty e=>li.le a ty e);have Q:∀{a ty},T a=some ty->a∉wr:=λe q=>ad ((G.wr _ q).2.2.symm.trans e);by_cases N:i<rows.length
 . refine Vj (G.d.item i s' env (λ_ F=>wpAny c.M A (execs body env) (λf u=>match f with
    | .next| .cont=>∃m,m<k/\Qe c env aj ae (λτ l=>xc c env A aj ae names body τ l o) rows T s (fj O fp) J m u
    | .brk=>fZ c aj ae env T s o .next u
    | .ret v=>fZ c aj ae env T s o (.ret v) u) cg F) cg N QA λvs h' tk hP A3 I=>?_) (λr aS⟨v,e,q⟩=>?_) λ_ _ z=>z.elim
   . have Sd:=Si.drawn (tk:=tk) Z I λb hb=>G.d.ex _ _ A3 b (G.d.sub b hb);refine ab (G.rows i vs N hP) λrow hr hv=>?_;refine mj Sd (λx hx=>⟨oc x,hk x hx⟩) (hv.mono gi) λF Sb HU=>?_;have ML:J (i+1) F.heap:=G.d.frame _ _ _ A3 λb hb o U=>by
      refine ab (Me b hb) λty h1 _=>?_;exact HU.1 b ty o h1 U
     have lb:Le T s Ti F:=li.upd λa ty o h1 h2 W=>by
      induction e:Ti a with
      |none=>exact Vu e h2
      |some Y=>exact HU.1 a Y o e (I a o (Q h1) W)
     obtain⟨h1,h2⟩:=List.getElem?_eq_some_iff.mp hr;rw[List.drop_eq_getElem_cons h1,h2]at fi;have Bo:∀{σ':ah}{u:Shared}(T':TM),St c aj ae env σ' T' u->Le Ti F T' u->xc c env A aj ae names body σ' (rows.drop (i+1)) o->
      ∃m,m<k/\Qe c env aj ae (λτ l=>xc c env A aj ae names body τ l o) rows T s (fj O fp) J m u:=λ{σ' u} T' H B t=>by
      refine⟨rows.length-i,by lia,i+1,σ',T',by lia,N,H,lb.trans B,gi.trans B.le,G.d.frame _ _ _ ML λb hb o U=>?_,t⟩;refine ab (Me b hb) λty h1 h2=>?_;exact B.xh b ty o h1 h2 U
     refine ab fi λo1 h t=>?_;refine Vj (h Ti F Sb) (λf u q=>?_) λ_ _ z=>z
     induction o1 with
     |next dO=>obtain⟨rfl,T',H,B⟩:=q;exact Bo T' H B t
     |cont dO=>obtain⟨rfl,T',H,B⟩:=q;exact Bo T' H B t
     |ret x dO=>obtain⟨v,T',rfl,H,B,r⟩:=q;obtain rfl:o=_:=t;exact⟨v,T',rfl,H,lb.trans B,r⟩
   . subst e;dsimp only;exact bT (Vj q (λ_ Qz q=>Vj q (λ_ F q=>bT (Vj q (λf u q=>by induction f<;>exact q) λ_ _ z=>z)) λ_ _ z=>z.elim) λ_ _ z=>z)
 . obtain rfl:=Nat.le_antisymm OL (Nat.not_lt.mp N);rw[List.drop_length]at fi;obtain rfl:o=_:=fi;refine G.d.done _ _ _ QA λh' tk I=>wpAny_execs_nil ⟨rfl,_,Si.done (tk:=tk) Z I,⟨λa ty e=>?_,λa ty o h1 h2 W=>I a o (Q h1) (li.xh a ty o h1 h2 W)⟩⟩;refine ab (li.le a ty e) λY e' q=>?_;exact ag Y ((Vk (Q e)).trans e') q
theorem GU{tg iter body pos names rows o}(u:∀x,foldedSetIterable iter env x=pure x)(z:∀x∈names,env.kindOf x=some .local\/env.kindOf x=some .cell)(hi:∀H₀,eT c env A H₀ σ iter tg names rows)(hl:LM c env A names body σ rows o):
 ju c env A σ (.For tg iter body [] pos) o:=λaj ae T s S i=>vu i u z hi (hl.imp λ_ _ h=>h.f i) T s S
end
theorem WalksT.items{prog:Program}{w:World}{A:Around}{K:Type}[DecidableEq K]{knd:KeyKind prog w K}(X:A.handled=none)(I d:Addr)(N:d≠I)(kvs:List (K×Value))(F:Nat):
 WalksT prog w A I [I,d] [I] kvs.length (λi z=>∃k x key,kvs[i]? =some (k,x)/\knd.is k key=true/\z= #[key,x])
  (λi h=>(∃ok f,IsItemIter h I d i kvs.length F ok f)/\h.DictAt knd d kvs F)
  (λi T h=>(∃ok f,IsItemIterOut h I d (i+1) kvs.length F ok f T)/\h.DictAt knd d kvs F/\T≠I) where
 sub:=λb hb=>by simp at hb;simp[hb]
 frame:=λi h h' st O=>by refine af st λu h2=>?_;refine cq u λok f h1=>?_;exact⟨⟨ok,f,O I (by exact Vm) _ h1⟩,h2.at' λo e=>O d (by exact Vw _ Vm) o e⟩
 item:=λi s Q E hi st B=>by refine af st λu h2=>?_;refine cq u λok f h1=>?_;obtain⟨⟨k,x⟩,hx⟩:∃p,kvs[i]? =some p:=⟨kvs[i],by simp[hi]⟩;refine wpAny_pyNext_items_item h1 h2 hx λkey h' H G Y Z P=>?_;exact B s.heap.objs.size #[key,x] h' s.toks ⟨k,x,key,hx,H,rfl⟩ (Vt _) ⟨_,Y,rfl,_,rfl⟩ ⟨⟨key,x,G⟩,h2.at' λo e=>P d o N e,(Nat.ne_of_gt (V7 h1))⟩ λb o hb e=>P b o (λq=>hb (by simp[q])) e
 go:=λU k pos i T s Q E J B=>by refine dh J λu h2 _=>?_;refine cq u λok f h1=>?_;exact wpAny_letOwnedTupleGo_items h1 λh' H G=>B h' ⟨⟨ok,f,H⟩,h2.at' λo e=>G.extBut d o N e⟩ λb o hb e=>G.extBut b o (λq=>hb (by simp[q])) e
 apart:=λi T h J W=>by simp at W;exact J.2.2 W
 done:=λs Q E st B=>by refine af st λu h2=>?_;refine cq u λok f h1=>?_;exact wpAny_pyNext_items_end X h1 h2 (by simp) λh' he=>B h' s.toks λb o hb e=>he b o (λq=>hb (by simp[q])) e
 self:=λi s Q E st h=>by refine af st λu h2=>?_;refine cq u λok f h1=>?_;exact kcp_self h1 h
theorem uw.len{c A it fp wr n m dK P tg names}(D:uw c A it fp wr n dK P tg names)(h:m=n):uw c A it fp wr m dK P tg names:=by subst h;exact D
section
variable{c:Cx}{env:Env}{A:Around}{H₀:Heap}{σ:ah}
theorem dx.ix{T:TM}{vs:List Value}{xs:List AV}(h:dx T vs xs){i:Nat}{v:Value}(e:vs[i]? =some v):∃y,xs[i]? =some y/\VR T v y:=F2.get h.flip e
theorem oW{α β:Type}{f:α->β}{l:List α}{i:Nat}{x:α}(h:l[i]? =some x):(l.map f)[i]? =some (f x):=List.getElem?_map.trans (Vx (Option.map f) h)
theorem ti{h:Heap}{a b:Addr}{f i:Obj}(h1:h.get? a=some f)(h2:h.get? b=some i):∀x∈[a,b],∃o,h.get? x=some o:=V4.mpr ⟨⟨_,h1⟩,W9.mpr ⟨_,h2⟩⟩
theorem o6{T T1:TM}{s s1:Shared}{o:Obj}{a:Addr}{ty tg names rows n dK P}(e:bF c T s T1 s1)(w:W c T1 s1.heap)(ht:T1 a=some ty)(f:∀d,ty≠ .bA d)
 (D:uw c A (.ref s1.heap.objs.size) [s1.heap.objs.size,a] [s1.heap.objs.size] n dK P tg names)(hl:rows.length=n)(st:dK 0 (s1.heap.push o))(hr:∀i vs,i<n->P i vs->∃row,rows[i]? =some row/\dx T1 vs row):
 Qi c A T s tg names rows (.ref s1.heap.objs.size) {s1 with heap:=s1.heap.push o}:=by
 subst hl;refine ax ((w.ok _ _ ht).ex) λz u=>?_;exact⟨T1,_,_,_,_,e.trans (bF.push _),w.push _,D,st,hr,V4.mpr ⟨.inl ⟨w.none_of (aG _),e.fresh w (aG _)⟩,W9.mpr (.inr ⟨⟨_,ht,f⟩,λq=>(Ww (V7 u)) (Vo.mp q)⟩)⟩⟩
theorem va(B:A.handled=none){e x p xs}(he:bQ c env A H₀ σ e (.list xs)):eT c env A H₀ σ e (.Name x p) [x] (xs.map λy=>[y]):=λT s w F=>by refine Vj (he T s w F) (λv s1 g=>?_) λ_ _ z=>z;obtain⟨T1,G,u,r⟩:=g;refine ab r.inv λa f ht=>?_;subst f;refine aP ((u.ok _ _ ht).inv) λvs n at_ items=>?_;have hl:=bw at_;refine wpAny_pyIter_list hl (o6 G u ht nofun (uw.one (Walks.list B _ a (Ww (V7 at_)) vs) λi h st=>by obtain⟨⟨_,h1,_⟩,_,h2,_⟩:=st;exact ti h1 h2) (by rw[Vp,dd items]) ⟨⟨_,VZ _ rfl,rfl,rfl⟩,hl.push _⟩ λi H _ st=>?_);refine ab st λv f hv=>?_;clear st;subst f;refine ab (items.ix (WT.trans hv)) λy h1 h2=>?_;exact ag [y] (oW h1) (.cons h2 .nil)
theorem Co(O:aM c)(G:A.handled=none){e x p l}(he:bQ c env A H₀ σ e (.dict l)):eT c env A H₀ σ e (.Name x p) [x] (l.map λy=>[.str y.1]):=λT s w F=>by refine Vj (he T s w F) (λv s1 g=>?_) λ_ _ z=>z;obtain⟨T1,H,f,r⟩:=g;refine ab r.inv λa B ht=>?_;subst B;refine cP ((f.ok _ _ ht).inv) λJ n at_ items nd=>?_;refine ab (fO at_ items nd) λkvs hd hv=>?_;refine wpAny_pyIter_dict (O.iH (f.lo _ _ ht).1) hd (o6 H f ht nofun (uw.one (Walks.dictKeys (knd:=PySem.strKind c.prog c.w) G _ a (Ww (V7 at_)) kvs n) λi h st=>by obtain⟨⟨_,h1,_⟩,_,_,h2,_⟩:=st;exact ti h1 h2) (by rw[Vp,hv.length]) ⟨⟨_,VZ _ rfl,rfl,rfl⟩,hd.push _⟩ λi N _ st=>?_);obtain⟨v,rfl,k,u,h1,h2⟩:=st;refine ab (hv.get h1) λy I P=>?_;refine ax (Value.isStrOf_shape h2) λt B=>?_;subst B;exact ag [.str k] (oW I) (.cons (.str _ _) .nil)
theorem zd(O:aM c)(H:A.handled=none){o apos pos x y p q k r l}(hb:bk o=true)(he:bQ c env A H₀ σ o (.dict l))(hl:(apos.endLine==pos.line)=true):
 eT c env A H₀ σ (.Call (.Attribute o "items" apos) [] [] pos) (.Tuple [.Name x p,.Name y q] k r) [x,y] (l.map λz=>[.str z.1,z.2]):=λT s w F=>by
 rw[arm_eval_Call,dw hb];refine he.then w F λv T1 s1 J B X N=>Vh (VG ?_);refine ab N.inv λa G ht=>?_;subst G;refine cP ((B.ok _ _ ht).inv) λY n at_ items nd=>?_;refine ab (fO at_ items nd) λkvs hd hv=>?_;refine cy hl (by decide) (by rfl) λZ=>getMethod_builtin hd.dictOf.typeIs PySem.F.plainAttrs_dict PySem.F.slot_dict_items PySem.F.type_dict_items hd.dictOf.mapOf.noDict ?_;refine cC (by rfl) (evalArgs_nil3 (call_meetsIn PySem.F.slot_dict_items hd.dictOf.typeIs PySem.F.entry_dict_items (PySem.F.args_dict_items_1 _) (meets_dict_items (PySem.strKind c.prog c.w) a (O.iH (B.lo _ _ ht).1)) ⟨⟨kvs,hd.dictOf⟩,?_⟩));have f:=hd.push {cls:= .type "dict_items",data:= .fields #[.ref a]};refine wpAny_pyIter_items (s:={s1 with heap:=s1.heap.push {cls:= .type "dict_items",data:= .fields #[.ref a]}}) ⟨_,VZ _ rfl,rfl,rfl⟩ f (o6 (J.trans (bF.push _)) (B.push _) ht nofun (uw.two H (WalksT.items (knd:=PySem.strKind c.prog c.w) H _ a (Ww (V7 (VW _ at_))) kvs n) (λi h st=>by obtain⟨⟨_,_,h1⟩,_,_,h2,_⟩:=st;exact ti h1 h2) λi I st=>by refine sg st λk x key _ _ h=>?_;exact Aa key x h) (by rw[Vp,hv.length]) ⟨⟨_,_,VZ _ rfl⟩,f.push _⟩ λi P _ st=>?_);refine sg st λk u key h1 h2 Q=>?_;refine ab (hv.get h1) λz U W=>?_;refine ax (Value.isStrOf_shape h2) λt G=>?_;subst G;obtain rfl:P=[.str k t,u]:=Vx Array.toList Q;exact ag [.str k,z] (oW U) (.cons (.str _ _) (.cons W .nil))
theorem rq{n:Int}(h0:0<=n):Builtin.Range.rangeSize 0 n 1=n:=by
 unfold Builtin.Range.rangeSize;split
 . split
   . rw[Int.ediv_one];lia
   . lia
 . lia
theorem yc{n:Int}(h0:0<=n)(f:n<=1000):Builtin.Range.small 0 n 1=true:=by unfold Builtin.Range.small;rw[rq h0];simp[Builtin.Range.rangeFitsLong];lia
theorem zc(I:A.handled=none){id p0 e pos x p n}(hn:kq c env A H₀ σ (.Name id p0) (.type "range"))(B:isStarred e=false)(he:bQ c env A H₀ σ e (.int n))(h0:0<=n)(J:n<=1000):
 eT c env A H₀ σ (.Call (.Name id p0) [e] [] pos) (.Name x p) [x] ((List.range n.toNat).map λ(i:Nat)=>[.int i]):=λT s w F=>by
 rw[arm_eval_Call_Name'];refine Vh (Vj (hn T s w F) (λv s' g=>?_) λ_ _ z=>z);refine af g λN f=>?_;clear g;subst N;subst f;refine PyProof.Rows.callWith_type (by rw[aA B];rfl) ?_;rw[aA B];refine evalArgs_plain (spliced_cons (Vj (he T _ w F) (λv s1⟨T1,O,P,r1⟩=>?_) λ_ _ z=>z.elim));refine ax r1.inv λt f=>?_;subst f;refine spliced_nil (call_range_1 (wpAny_pyIter_range (IsRange.new ..) (yc h0 J) ?_));rw[(rq h0)];generalize TA:s1.heap.push {cls:= .type "range",data:= .fields #[.int 0 s1.toks,.int n t,.int 1 (s1.toks+1)]}=h2;have G:∀b o,s1.heap.get? b=some o->h2.get? b=some o:=λb o e=>by rw[<-TA];exact VW _ e
 have u:=P.grown G;have H:=O.trans (bF.grown G (s1.toks+1+1));refine ax (Xe h0) λm f=>?_;subst f;refine⟨T1,_,_,_,_,H.trans (bF.push _),u.push _,(uw.one (Walks.range (prog:=c.prog) (w:=c.w) I h2.objs.size 0 1 m) λi h st=>W9.mpr ⟨_,st⟩).len (by rw[Vp,W7];rfl),?_,?_,W9.mpr (.inl ⟨u.none_of (aG _),H.fresh u (aG _)⟩)⟩
 . rw[show((m:Int)-((0:Nat):Int))=m from Int.sub_zero _];exact VZ _ rfl
 . rintro i AZ hi ⟨v,rfl,t',rfl⟩;rw[Vp,W7]at hi;refine ag [.int i] (oW (List.getElem?_range hi)) (.cons ?_ .nil);rw[Int.mul_one,Xb];exact .int _ _
end
section
variable{c:Cx}{env:Env}{A:Around}{H₀:Heap}{σ:ah}
noncomputable def qR(xs ys:List AV):List (List AV):=xs.zipWith (λx y=>[x,y]) ys
theorem qz(xs ys):(qR xs ys).length=min xs.length ys.length:=List.length_zipWith
theorem xp{xs ys:List AV}{i:Nat}{x y:AV}(h1:xs[i]? =some x)(h2:ys[i]? =some y):(qR xs ys)[i]? =some [x,y]:=List.getElem?_zipWith.trans (by rw[h1,h2])
theorem EL{N l1 l2:Nat}(h1:l1<N)(h2:l2<N):ZipApart (N+4) (N+2) (N+3) N (N+1) l1 l2:=
 have n:∀a b,Nat.beq a b=false->N+a≠N+b:=λa b h e=>Nat.ne_of_beq_eq_false h (Nat.add_left_cancel e);have l:∀a{x},x<N->x≠N+a:=λa _ h=>Ww (Nat.lt_of_lt_of_le h (Wg N a))
 ⟨n 2 4 rfl,n 3 4 rfl,n 0 4 rfl,n 1 4 rfl,n 2 3 rfl,n 2 0 rfl,n 2 1 rfl,n 3 0 rfl,n 3 1 rfl,n 0 1 rfl,l 4 h1,l 3 h1,l 0 h1,l 1 h1,l 4 h2,l 3 h2,l 0 h2,l 1 h2⟩
theorem P8{P:Nat->Prop}{N l1 l2:Nat}(h:∀a,P (N+a))(h1:P l1)(h2:P l2):∀b∈[N+4,N+2,N+3,N,N+1,l1,l2],P b:=fm (h 4) (fm (h 2) (fm (h 3) (fm (h 0) (fm (h 1) (fm h1 (fm h2 Ia))))))
theorem ux{N l:Nat}(h:l<N):l∉[N+4,N+3,N,N+1]:=λhb=>
 have n:∀a,l≠N+a:=λa=>Ww (Nat.lt_of_lt_of_le h (Wg N a))
 fm (P:=λx=>l≠x) (n 4) (fm (n 3) (fm (n 0) (fm (n 1) Ia))) l hb rfl
theorem EK(N:A.handled=none){T F:TM}{s f:Shared}{l1 l2:Addr}{xs ys x y p q k r}(e:bF c T s F f)(w:W c F f.heap)(h1:F l1=some (.list xs))(h2:F l2=some (.list ys)):
 wpAny c.M A (call (.type "zip") [.ref l1,.ref l2]) (λz X=>wpAny c.M A (pyIter z) (Qi c A T s (.Tuple [.Name x p,.Name y q] k r) [x,y] (qR xs ys)) cg X) cg f:=by
 refine aP ((w.ok _ _ h1).inv) λY n1 H O=>?_;refine aP ((w.ok _ _ h2).inv) λZ n2 B i2=>?_;have LW:=V7 H;have LV:=V7 B;refine call_zip_2 (bw H) (bw B) λh' Q g2 g3 g4 g5 g6 G=>wpAny_pyIter_zip Q ?_;have fr:∀a,F (f.heap.objs.size+a)=none/\s.heap.get? (f.heap.objs.size+a)=none:=λa=>
  have z:f.heap.get? (f.heap.objs.size+a)=none:=by
   induction e:f.heap.get? (f.heap.objs.size+a)with
   |none=>rfl
   |some o=>exact Vu (V7 e) (Nat.not_lt.mpr (Wg ..))
  ⟨w.none_of z,e.fresh w z⟩
 refine⟨F,_,_,_,_,e.trans (bF.grown G f.toks),w.grown G,(uw.two N (WalksT.zip2 N _ _ _ _ _ l1 l2 (EL LW LV) Y Z) (λi h st=>?_) λi U st=>by refine cP st λx y _ _ h=>?_;exact Aa x y h).len (by rw[qz,dd O,dd i2]),?_,?_,P8 (λa=> .inl (fr a)) (.inr ⟨⟨_,h1,λd q=>nomatch q⟩,ux LW⟩) (.inr ⟨⟨_,h2,λd q=>nomatch q⟩,ux LV⟩)⟩
 . obtain⟨a1,I,⟨_,_,J⟩,⟨_,a4,_⟩,⟨_,a5,_⟩,⟨_,a6,_⟩,_,a7,_⟩:=st;exact fm (P:=λb=>∃o,h.get? b=some o) ⟨_,a1⟩ (fm ⟨_,I⟩ (fm ⟨_,J⟩ (fm ⟨_,a4⟩ (fm ⟨_,a5⟩ (fm ⟨_,a6⟩ (fm ⟨_,a7⟩ Ia))))))
 . exact⟨Q,g2,⟨_,_,g3⟩,g4,g5,(bw H).at λo e=>G _ o e,(bw B).at λo e=>G _ o e⟩
 . rintro i AZ hi ⟨u,v,a1,I,J⟩;obtain rfl:AZ=[u,v]:=Vx Array.toList J;refine ab (O.ix (WT.trans a1)) λy1 b1 b2=>?_;refine ab (i2.ix (WT.trans I)) λy2 c1 c2=>?_;exact ag [y1,y2] (xp b1 c1) (.cons b2 (.cons c2 .nil))
theorem Gn(H:A.handled=none){id p0 e1 e2 pos x y p q k r xs ys}(hn:kq c env A H₀ σ (.Name id p0) (.type "zip"))(i:isStarred e1=false)(u:isStarred e2=false)(I:bQ c env A H₀ σ e1 (.list xs))(J:bQ c env A H₀ σ e2 (.list ys)):
 eT c env A H₀ σ (.Call (.Name id p0) [e1,e2] [] pos) (.Tuple [.Name x p,.Name y q] k r) [x,y] (qR xs ys):=λT s w F=>by
 rw[arm_eval_Call_Name'];refine Vh (Vj (hn T s w F) (λv s' g=>?_) λ_ _ z=>z);refine af g λN f=>?_;clear g;subst N;subst f;refine PyProof.Rows.callWith_type (by rw[aA i,aA u];rfl) ?_;rw[aA i,aA u];refine evalArgs_plain (spliced_cons (Vj (I T _ w F) (λv1 s1⟨T1,B,O,r1⟩=>?_) λ_ _ z=>z.elim));refine spliced_cons (Vj (J T1 _ O (F.ext B)) (λQ U⟨W,G,P,r2⟩=>?_) λ_ _ z=>z.elim);refine ab ((r1.mono G.le).inv) λl1 f h1=>?_;subst f;refine ab r2.inv λl2 f h2=>?_;subst f;exact spliced_nil (EK H (B.trans G) P h1 h2)
end
set_option tactic.hygienic true
set_option backward.match.sparseCases true
noncomputable def me(e:Expr)(acc:Value)(env:Env):Sem Unit:=match e with
 | .ListComp elt _ _ _=>do let _<-call (.builtin "list.append") [acc,<-eval elt env]
 | .DictComp k v _ _ _=>do
  let kv<-eval k env;let vv<-holding [kv] (eval v env)
  match acc with
  | .ref d=>do
    standAt {k.pos with endLine:=v.pos.endLine,endCol:=v.pos.endCol}
    holding [kv,vv] (dictSet d kv vv)
  |_=>unsupported "internal:dictcomp"
 |_=>unsupported ""
noncomputable def o8:Expr->Bool
 | .ListComp .. =>true
 | .DictComp .. =>true
 |_=>false
theorem lO{P:Expr->Prop}{e:Expr}(he:o8 e=true)(l:∀a b c d,P (.ListComp a b c d))(k:∀a b c d f,P (.DictComp a b c d f)):P e:=by induction e using Expr.casesOn<;>first|exact l .. |exact k .. |exact Vu he VU
theorem sr{e z f:Expr}{i:List Expr}{d:Nat}{B acc:Value}{env:Env}(he:o8 e=true)(u:(clausesOf e)[d]? =some ⟨z,f,i,0⟩):compTurn e d B acc env=(do
 standAt f.pos
 match<-pyNext B with
 |none=>pure (.done .next)
 |some v=>
  letOwnedTupleGo z B v
  assign z env v
  let mut ok:=true
  for c in i do
   if ok then ok<-isTrue c env (eval c env)
  if ok then
   match(clausesOf e)[d+1]? with
   |some g'=>
    let x<-eval g'.iter env
    standAt g'.iter.pos
    let x<-if g'.is_async !=0 then foldedIterable g'.iter x else foldedSetIterable g'.iter env x
    let _<-runOwn (.compStart e (d+1) (<-holding [x] (if g'.is_async !=0 then asyncIter x else pyIter x)) acc env) env
   |none=>me e acc env
  again (.compLoop e d B acc env)):=by
 revert u;apply lO he
 . intro _ g _ _ u;have u:g[d]? =some ⟨z,f,i,0⟩:=u;unfold compTurn;dsimp only;rw[u];rfl
 . intro _ _ g _ _ u;have u:g[d]? =some ⟨z,f,i,0⟩:=u;unfold compTurn;dsimp only;rw[u];rfl
section
variable{c:Cx}{env:Env}{A:Around}{H₀:Heap}{σ:ah}
noncomputable def oq(ifs:List Expr)(env:Env):Sem Bool:=forIn ifs true λc r=>if r=true then do let ok<-isTrue c env (eval c env);pure (ForInStep.yield ok)else pure (ForInStep.yield r)
theorem sj{e:Expr}{d:Nat}{f acc:Value}(he:o8 e=true):A.under (.compLoop e d f acc env)=A/\c.M.den (.compLoop e d f acc env)=(compTurn e d f acc env).onRaise (λx=>do noteFrame x env;theTreesLotGoes x):=by apply lO he<;>intros<;>exact ⟨rfl,rfl⟩
theorem nL{e:Expr}{d:Nat}{f acc:Value}(he:o8 e=true):A.under (.compStart e d f acc env)=A/\c.M.den (.compStart e d f acc env)=(compStart e d f acc env).onRaise (λx=>do noteFrame x env;standAt theWindowsPlace):=by apply lO he<;>intros<;>exact ⟨rfl,rfl⟩
theorem iu{e J B:Expr}{F:List Expr}{d:Nat}{u acc:Value}{s:Shared}{R:Result->Shared->Prop}(he:o8 e=true)(Z:(clausesOf e)[d]? =some ⟨J,B,F,0⟩)
 (h:wpAny c.M A (pyNext u) (λr N=>match r with
  |none=>R (.ok .next) N
  |some v=>wpAny c.M A (letOwnedTupleGo J u v) (λ_ P=>wpAny c.M A (assign J env v) (λ_ Q=>wpAny c.M A (oq F env) (λok I=>
   if ok=true then(match(clausesOf e)[d+1]? with
    |some G=>G.is_async=0/\(∀x,foldedSetIterable G.iter env x=pure x)/\wpAny c.M A (eval G.iter env) (λx H=>wpAny c.M A (pyIter x) (λU W=>codeAny c.M A (.compStart e (d+1) U acc env) (λr X=>(∃f,r= .ok f)/\codeAny c.M A (.compLoop e d u acc env) R X) W) cg H) cg I
    |none=>wpAny c.M A (me e acc env) (λ_ H=>codeAny c.M A (.compLoop e d u acc env) R H) cg I)
   else codeAny c.M A (.compLoop e d u acc env) R I) cg Q) cg P) cg N) cg s):
 codeAny c.M A (.compLoop e d u acc env) R s:=by
 refine codeAny_of_tree ?_;rw[(sj (c:=c) (A:=A) he).1,(sj (c:=c) (A:=A) he).2];refine wpAny_noted ?_;rw[sr he Z];refine Vh (VG (Vh (bT (Vj h (λr N Y=>?_) λ_ _ z=>z))))
 induction r with
 |none=>exact Vz Y
 |some v=>
  refine Vh (bT (Vj Y (λ_ P Oo=>?_) λ_ _ z=>z));refine Vh (bT (Vj Oo (λ_ Q On=>?_) λ_ _ z=>z));refine Vh (bT (Vj On (λok I i=>?_) λ_ _ z=>z))
  induction ok with
  |false=>exact Vz ⟨rfl,i⟩
  |true=>
   simp only[if_true]at i⊢;split at i
   . rename_i G Gx;refine dh i λha hf i=>?_;have hb:(G.is_async !=0)=false:=by rw[ha];rfl
     simp only[hb,WD,if_false];refine Vh (bT (Vj i (λx H O=>?_) λ_ _ z=>z));refine Vh (VG (Vh (wpAny_of_eq (hf x) (Vh (VI (bT (Vj O (λU W Om=>?_) λ_ _ z=>z)))))));refine Vh (wpAny_runOwn (codeAny_mono Om λr X q=>?_));obtain⟨⟨f,rfl⟩,q⟩:=q;exact Vz ⟨rfl,q⟩
   . rename_i Gx;exact Vh (bT (Vj i (λ_ H O=>Vz ⟨rfl,O⟩) λ_ _ z=>z))
theorem gJ{e B f:Expr}{i:List Expr}{d:Nat}{u acc:Value}{s:Shared}{R:Result->Shared->Prop}(he:o8 e=true)(F:(clausesOf e)[d]? =some ⟨B,f,i,0⟩)
 (h0:codeAny c.M A (.compLoop e d u acc env) R s)(h:wpAny c.M A (pyIter u) (λz s'=>codeAny c.M A (.compLoop e d z acc env) R s') cg s):
 codeAny c.M A (.compStart e d u acc env) R s:=by
 refine codeAny_of_tree ?_;rw[(nL (c:=c) (A:=A) he).1,(nL (c:=c) (A:=A) he).2];refine wpAny_notedAt ?_;unfold compStart;rw[F];show wpAny _ A (ask>>=_) _ _ s;refine Vh (wpAny_askSetting (wpAny_ite (Jz (λ_=>?_) λ_=>?_)))
 . first
    |exact Vh (Vz (Vz (And.intro rfl h0)))
    |exact Vz (And.intro rfl h0)
 . refine Vh (wpAny_rule ?_)
   first
    |exact Vh (VG (Vh (bT (Vj h (λz s' h'=>Vz (And.intro rfl h')) λ_ _ x=>x))))
    |(show wpAny _ _ (standAt f.pos>>=_) _ _ s;exact Vh (VG (Vh (bT (Vj h (λz s' h'=>Vz (And.intro rfl h')) λ_ _ x=>x)))))
end
set_option backward.match.sparseCases false
set_option tactic.hygienic false
inductive Acc where
 |l(xs:List AV)
 |d(l:List (Str×AV))
noncomputable def AccAt(c:Cx)(T:TM)(h:Heap)(D:Addr):Acc->Prop
 | .l xs=>∃vs n,h.get? D=some (bo vs n)/\dx T vs.toList xs
 | .d l=>∃es n,h.get? D=some (aC es n)/\nY T c.w.params es.toList l/\(l.map (·.1)).Nodup
structure iy(c:Cx)(env:Env)(ae:Shared)(T:TM)(s:Shared)(D:Addr)(a:Acc):Prop where
 at_:AccAt c T s.heap D a
 cN:T D=none
 lo:ae.heap.get? D=none
 nl:D≠env.locals
 nc:∀x,env.cells.lookup x≠some D
theorem AccAt.ex{c T h D a}(x:AccAt c T h D a):∃o,h.get? D=some o:=by
 induction a with
 |l=>refine aP x λvs n e _=>?_;exact⟨_,e⟩
 |d=>refine aP x λvs n e _=>?_;exact⟨_,e⟩
theorem AccAt.lift{c T T' h h' D a}(x:AccAt c T h D a)(k:∀{o},h.get? D=some o->h'.get? D=some o)(l:VL T T'):AccAt c T' h' D a:=by
 induction a with
 |l=>exact aP x λ_ _ e i=>⟨_,_,k e,i.lift l⟩
 |d=>exact cP x λ_ _ e i nd=>⟨_,_,k e,i.lift l,nd⟩
noncomputable def aJ:Expr->List Str
 | .Name x _=>[x]
 | .Tuple [.Name x _,.Name y _] _ _=>[x,y]
 |_=>[]
noncomputable def jw(σ:ah):Prop:=∀x e,σ.lookup x=some e->e.owned=false
theorem jw.bind:∀{ns row σ},jw σ->jw (aX σ ns row)
 |[],_,_,h=>h
 |n::ns,[],_,h=>h
 |n::ns,x::xs,σ,h=>jw.bind (ns:=ns) (b9 (P:=λ_ e=>e.owned=false) rfl λy e _ hy=>h y e hy)
section
variable{c:Cx}{env:Env}{A:Around}{H₀:Heap}{σ:ah}
theorem iy.ext{ae T s T' s' D a}(x:iy c env ae T s D a)(f:∀a,ae.heap.get? a=none->c.h₀.get? a=none/\a≠c.tab)(e:bF c T s T' s'):iy c env ae T' s' D a:=
 have⟨o,ho⟩:=x.at_.ex
 ⟨x.at_.lift (e.np _ _ x.cN (f _ x.lo).2) e.le.vl,e.cN _ o (f _ x.lo).2 ho x.cN,x.lo,x.nl,x.nc⟩
inductive nW(c:Cx)(env:Env)(A:Around)(σ:ah):Expr->Acc->Acc->Prop
 |list {elt gens scope pos xs x} (h:∀H₀,bQ c env A H₀ σ elt x) (hz:xs.length<=1000):nW c env A σ (.ListComp elt gens scope pos) (.l xs) (.l (xs++[x]))
 |dict {k v gens scope pos l kx x} (hk:∀H₀,bQ c env A H₀ σ k (.str kx)) (hv:∀H₀,bQ c env A H₀ σ v x) (hz:l.length<=1000):nW c env A σ (.DictComp k v gens scope pos) (.d l) (.d (bI l kx x))
noncomputable def mV(c:Cx)(env:Env)(A:Around)(σ:ah)(ts:List Expr)(b:Bool):Prop:=(ts=[]/\b=true)\/∃t,ts=[t]/\∀H₀,iU c env A H₀ σ t b
theorem mV.nil:mV c env A σ [] true:= .inl ⟨rfl,rfl⟩
theorem mV.one{t b}(h:∀H₀,iU c env A H₀ σ t b):mV c env A σ [t] b:= .inr ⟨_,rfl,h⟩
class inductive dy(c:Cx)(env:Env)(A:Around)(e:Expr):Nat->ah->List (List AV)->Acc->ah->Acc->Prop
 |done {d τ a}:dy c env A e d τ [] a τ a
 |skip {d τ row rows a dO a' g} (hg:(clausesOf e)[d]? =some g) (ht:mV c env A (aX τ (aJ g.target) row) g.ifs false) (t:dy c env A e d (aX τ (aJ g.target) row) rows a dO a'):
  dy c env A e d τ (row::rows) a dO a'
 |emit {d τ row rows a a1 dO a' g} (hg:(clausesOf e)[d]? =some g) (ht:mV c env A (aX τ (aJ g.target) row) g.ifs true) (hn:(clausesOf e)[d+1]? =none) (he:nW c env A (aX τ (aJ g.target) row) e a a1)
  (t:dy c env A e d (aX τ (aJ g.target) row) rows a1 dO a'):dy c env A e d τ (row::rows) a dO a'
 |nest {d τ row rows rk a a1 Qp dO a' g DC lL Gp} (hg:(clausesOf e)[d]? =some g) (ht:mV c env A (aX τ (aJ g.target) row) g.ifs true) (hn:(clausesOf e)[d+1]? =some ⟨DC,lL,Gp,0⟩)
  (hf:∀x,foldedSetIterable lL env x=pure x) (hk:∀x∈aJ DC,env.kindOf x=some .local) (hi:∀H₀,eT c env A H₀ (aX τ (aJ g.target) row) lL DC (aJ DC) rk)
  (inner:dy c env A e (d+1) (aX τ (aJ g.target) row) rk a Qp a1) (t:dy c env A e d Qp rows a1 dO a'):dy c env A e d τ (row::rows) a dO a'
theorem mV.run{ifs b}(h:mV c env A σ ifs b){T s}(w:W c T s.heap)(F:FR c env H₀ σ T s.heap):wpAny c.M A (oq ifs env) (AT c T s b) cg s:=by
 rcases h with⟨rfl,rfl⟩|⟨_,rfl,h⟩
 . exact wpAny_tests_nil ⟨rfl,T,.refl ..,w⟩
 . exact wpAny_tests_one (h H₀ T s w F)
theorem St.foreign{aj ae T s D}{h':Heap}{t:Nat}(S:St c aj ae env σ T s)(fz:jw σ)(z:T D=none)(h0:ae.heap.get? D=none)(hl:D≠env.locals)(B:∀x,env.cells.lookup x≠some D)(i:Heap.SameBut D s.heap h'):
 St c aj ae env σ T {s with heap:=h',toks:=t}/\Le T s T {s with heap:=h',toks:=t}:=by
 have F:=S.f;refine cq F.vals λm ρ V=>?_;refine⟨⟨S.w.upd i z (F.jy _ h0),S.e.upd i h0,⟨F.kind,F.glob,F.blt,F.jy,F.loc,F.fA,λx a hx=>?_,F.inj,F.own,m,ρ,?_,V.inj,V.apart,λx ev hx=>?_⟩,S.hO⟩,⟨.refl T,λb ty o q1 _ q3=>(i.2 b (λq=>ad (z.symm.trans (q▸q1)))).trans q3⟩⟩
 . refine dh (F.cells x a hx) λH I J=>?_;refine ax H λv u=>?_;exact⟨⟨v,u.sameBut i λq=>B x (q▸hx)⟩,I,J⟩
 . refine f9 V.ns λo N n O P=>?_;exact si o N n ((i.2 _ (Ne.symm hl)).trans O) P
 . refine ab (V.val x ev hx) λv h1 h2=>?_;exact ag v (h1.imp id λ⟨Q,a,G,u⟩=>⟨Q,a,G,u.sameBut i λq=>B x (q▸G)⟩) (h2.sameBut i λq=>Vu ((fz x ev hx).symm.trans q) VU)
theorem nW.run{e a a1 aj ae T s D}(he:nW c env A σ e a a1)(S:St c aj ae env σ T s)(fz:jw σ)(X:iy c env ae T s D a):
 wpAny c.M A (me e (.ref D) env) (λ_ s'=>∃T',St c aj ae env σ T' s'/\Le T s T' s'/\iy c env ae T' s' D a1) cg s:=by
 induction he with
 | @list elt gens scope pos xs x h hz=>refine(h _).then S.w S.f λv T1 s1 B F P r1=>?_;refine af (S.kp B F) λG l1=>?_;have i:=X.ext S.f.jy B;refine aP i.at_ λvs n H hi=>?_;refine Vh (wpAny_list_append_plain (items:=vs) ⟨n,H⟩ (λh'⟨I,Y⟩ J=>?_) (by rw[dd hi,sizeLine_eq];lia));refine af (G.foreign (t:=s1.toks) fz i.cN i.lo i.nl i.nc J) λN l2=>?_;exact Vz ⟨T1,N,l1.trans l2,⟨⟨_,I,Y,hi.push r1⟩,i.cN,i.lo,i.nl,i.nc⟩⟩
 | @dict k v gens scope pos l kx x hk hv hz=>
   show wpAny _ _ (do
    let O<-eval k env;let Q<-holding [O] (eval v env)
    standAt {k.pos with endLine:=v.pos.endLine,endCol:=v.pos.endCol}
    holding [O,Q] (dictSet D O Q)) _ _ _
   refine(hk _).then S.w S.f λu T1 s1 B F P r1=>?_;refine af (S.kp B F) λG l1=>?_;refine(hv _).hold F P λu2 Z s2 U w2 F2 r2=>Vh (VG (VI ?_));refine af (G.kp U w2) λN l2=>?_;have z:=(X.ext S.f.jy B).ext S.f.jy U;refine cP z.at_ λes n H hi nd=>?_;refine ax r1.inv λt aK=>?_;subst aK;refine ab (fO H hi nd) λkvs J7 W=>?_;refine wpAny_dictSet_pairs (knd:=PySem.strKind c.prog c.w) (k:=kx) (kvs:=kvs) (beq_self_eq_true kx) J7.dictOf (λh' zt J=>?_) (by rw[W.length,sizeLine_eq];lia);refine cP (tH zt (W.stored r2)) λjz I g1 g2 g3=>?_;refine af (N.foreign (t:=s2.toks+1) fz z.cN z.lo z.nl z.nc J) λS3 l3=>?_;exact dA Z S3 ((l1.trans l2).trans l3) ⟨⟨jz,I,g1,g2,g3⟩,z.cN,z.lo,z.nl,z.nc⟩
theorem iQ{e tg iter ifs d it fp wr dK P aj ae T s Tb sb bp rows0 i D a row rows τ}{R:Result->Shared->Prop}(he:o8 e=true)(hg:(clausesOf e)[d]? =some ⟨tg,iter,ifs,0⟩)
 (G:sM c A Tb sb tg (aJ tg) rows0 it bp fp wr dK P)(hr:rows0.drop i=row::rows)(S:St c aj ae env τ T s)(l:Le Tb sb T s)(g:js bp T)(st:dK i s.heap)(X:iy c env ae T s D a)
 (hw:∀b∈wr,ae.heap.get? b=none)(W:∀x∈aJ tg,env.kindOf x=some .local)
 (K:∀u,i+1<=rows0.length->rows0.drop (i+1)=rows->(∀{T' s'},Le T u T' s'->dK (i+1) s'.heap)->St c aj ae env (aX τ (aJ tg) row) T u->Le Tb sb T u->iy c env ae T u D a->wpAny c.M A (oq ifs env) (λok B=>
  if ok=true then(match(clausesOf e)[d+1]? with
   |some g'=>g'.is_async=0/\(∀x,foldedSetIterable g'.iter env x=pure x)/\wpAny c.M A (eval g'.iter env) (λx F=>wpAny c.M A (pyIter x) (λJ N=>codeAny c.M A (.compStart e (d+1) J (.ref D) env) (λr O=>(∃f,r= .ok f)/\codeAny c.M A (.compLoop e d it (.ref D) env) R O) N) cg F) cg B
   |none=>wpAny c.M A (me e (.ref D) env) (λ_ F=>codeAny c.M A (.compLoop e d it (.ref D) env) R F) cg B)
  else codeAny c.M A (.compLoop e d it (.ref D) env) R B) cg u):codeAny c.M A (.compLoop e d it (.ref D) env) R s:=by
 have H:i<rows0.length:=Nat.lt_of_not_le λh=>by injection(List.drop_eq_nil_of_le h).symm.trans hr
 have hd:rows0[i]::rows0.drop (i+1)=row::rows:=(List.drop_eq_getElem_cons H).symm.trans hr;have Y:∀b∈wr,T b=some .raw/\ae.heap.get? b=none:=λb hb=>⟨tB g (G.wr b hb).1,hw b hb⟩;have Me:=G.mono g (λa ty e=>l.le a ty e);refine iu he hg (Vj (G.d.item i s env (λ_ u=>wpAny c.M A (oq ifs env) (λok B=>if ok=true then(match(clausesOf e)[d+1]? with|some g'=>g'.is_async=0/\(∀x,foldedSetIterable g'.iter env x=pure x)/\wpAny c.M A (eval g'.iter env) (λx F=>wpAny c.M A (pyIter x) (λJ N=>codeAny c.M A (.compStart e (d+1) J (.ref D) env) (λr O=>(∃f,r= .ok f)/\codeAny c.M A (.compLoop e d it (.ref D) env) R O) N) cg F) cg B|none=>wpAny c.M A (me e (.ref D) env) (λ_ F=>codeAny c.M A (.compLoop e d it (.ref D) env) R F) cg B)else codeAny c.M A (.compLoop e d it (.ref D) env) R B) cg u) cg H st λvs h' tk hP Z Q=>?_) (λr aS hq=>?hend) λ_ _ z=>z)
 case hend=>refine ab hq λv e q=>?_;subst e;exact q
 refine ab (G.rows i vs H hP) λMV wD hv=>?_;obtain rfl:MV=row:=(Option.some.inj ((Xd H).symm.trans wD)).symm.trans (List.cons.inj hd).1;refine mj (S.drawn (tk:=tk) Y Q λb hb=>G.d.ex _ _ Z b (G.d.sub b hb)) (λx hx=>⟨eo.local (W x hx),.inl (W x hx)⟩) (hv.mono g) λu Sb U=>?_;refine K u H (List.cons.inj hd).2 (λl'=>G.d.frame _ _ _ (G.d.frame _ _ _ Z λb hb o I=>ab (Me b hb) λty h1 _=>U.1 b ty o h1 I) λb hb o I=>ab ((G.mono g (λa ty e=>l.le a ty e)) b hb) λty h1 h2=>l'.xh b ty o h1 h2 I) Sb ?_ ?_
 . refine⟨l.le,λa ty o h1 h2 h3=>?_⟩;refine ab (l.le a ty h1) λj8 e' _=>?_;exact U.1 a j8 o e' (Q a o (λq=>ad ((G.wr a q).2.2.symm.trans h1)) (l.xh a ty o h1 h2 h3))
 . exact⟨X.at_.lift (λI=>U.2 D _ X.nl X.nc (Q D _ (λq=>ad (X.cN.symm.trans (Y D q).1)) I)) λh=>h,X.cN,X.lo,X.nl,X.nc⟩
theorem Ah{e d τ rows a dO a'}(he:o8 e=true)(h:dy c env A e d τ rows a dO a'):
 ∀{O B H Z fp wr dK P aj ae T s Tb sb bp u i D}{R:Result->Shared->Prop},(clausesOf e)[d]? =some ⟨O,B,H,0⟩->sM c A Tb sb O (aJ O) u Z bp fp wr dK P->u.drop i=rows->i<=u.length->
  St c aj ae env τ T s->jw τ->Le Tb sb T s->js bp T->dK i s.heap->iy c env ae T s D a->(∀b∈wr,ae.heap.get? b=none)->(∀x∈aJ O,env.kindOf x=some .local)->
  (∀T' s',St c aj ae env dO T' s'->jw dO->Le Tb sb T' s'->iy c env ae T' s' D a'->R (.ok .next) s')->codeAny c.M A (.compLoop e d Z (.ref D) env) R s:=by
 induction h with
 |done=>
  intro O B H Z fp wr dK P aj ae T s Tb sb bp u i D R F G hr hi S fz l g st X hw N hR;have OK:i=u.length:=by exact Nat.le_antisymm hi (Nat.le_of_sub_eq_zero (List.length_drop.symm.trans (Vx List.length hr)))
  subst OK;have Cr:∀b∈wr,T b=some .raw/\ae.heap.get? b=none:=λb hb=>⟨tB g (G.wr b hb).1,hw b hb⟩;refine iu he F (G.d.done _ _ _ st λh' tk iP=>?_);have nw:D∉wr:=λq=>ad (X.cN.symm.trans (Cr D q).1);have HY:∀{b ty},Tb b=some ty->b∉wr:=λe q=>ad ((G.wr _ q).2.2.symm.trans e);refine hR _ _ (S.done (tk:=tk) Cr iP) fz ⟨λb ty e=>?_,λb ty o h1 h2 h3=>iP b o (HY h1) (l.xh b ty o h1 h2 h3)⟩ ⟨X.at_.lift (iP D _ nw) (tF λb hb=> .inr (Cr b hb).1).vl,(Vk nw).trans X.cN,X.lo,X.nl,X.nc⟩;exact ab (l.le b ty e) λj8 e' q=>⟨j8,(Vk (HY e)).trans e',q⟩
 |skip J5 ht t ih=>intro O B H Z fp wr dK P aj ae T s Tb sb bp u i D R F G hr hi S fz l g st X hw N hR;obtain rfl:=Option.some.inj (J5.symm.trans F);refine iQ he F G hr S l g st X hw N λcE J3 J9 BF I l3 X3=>?_;refine Vj (ht.run I.w I.f) (λb ic g4=>?_) λ_ _ z=>z;obtain⟨rfl,T4,Q,U⟩:=g4;exact af (I.kp Q U) λS4 J=>ih F G J9 J3 S4 fz.bind (l3.trans J) (g.trans J.le) (BF J) (X3.ext S.f.jy Q) hw N hR
 |emit J5 ht hn TF t ih=>intro O B H Z fp wr dK P aj ae T s Tb sb bp u i D R F G hr hi S fz l g st X hw N hR;obtain rfl:=Option.some.inj (J5.symm.trans F);refine iQ he F G hr S l g st X hw N λcE J3 J9 BF I l3 X3=>?_;refine Vj (ht.run I.w I.f) (λb ic g4=>?_) λ_ _ z=>z;obtain⟨rfl,T4,Q,U⟩:=g4;refine af (I.kp Q U) λS4 J=>?_;rw[hn];refine Vj (TF.run S4 fz.bind (X3.ext S.f.jy Q)) (λ_ iC g5=>?_) λ_ _ z=>z;refine bV g5 λT5 S5 l5 X5=>?_;exact ih F G J9 J3 S5 fz.bind (l3.trans (J.trans l5)) (g.trans (J.trans l5).le) (BF (J.trans l5)) X5 hw N hR
 |nest J5 ht hn hf iP hit inner t SZ ih=>
  intro O B H Z fp wr dK P aj ae T s Tb sb bp u i D R F G hr hi S fz l g st X hw N hR;obtain rfl:=Option.some.inj (J5.symm.trans F);refine iQ he F G hr S l g st X hw N λcE J3 J9 BF I l3 X3=>?_;refine Vj (ht.run I.w I.f) (λb ic g4=>?_) λ_ _ z=>z;obtain⟨rfl,T4,Q,U⟩:=g4;refine af (I.kp Q U) λS4 J=>?_;rw[hn];refine⟨by first|rfl|trivial,⟨hf,Vj (hit _ T4 ic U S4.f) (λx iC zn=>Vj zn (λxg re g6=>?_) λ_ _ z=>z) λ_ _ z=>z⟩⟩;obtain⟨cf,Vb,UJ,Ux,P',Y⟩:=g6;refine dh (Y.go U) λG' w6 e6=>?_;refine af (S4.kp e6 w6) λS6 l6=>?_;have X6:=(X3.ext S.f.jy Q).ext S.f.jy e6;have W:codeAny c.M A (.compLoop e (_+1) xg (.ref D) env) (λr rc=>(∃f,r= .ok f)/\codeAny c.M A (.compLoop e _ Z (.ref D) env) R rc) re:=
   SZ hn G' rfl (Vq _) S6 fz.bind l6 (.refl _) Y.st X6 (λb hb=>S4.e.fresh U (G'.wr b hb).2.1) iP λT7 s7 S7 T8 l7 X7=>⟨⟨_,rfl⟩,ih F G J9 J3 S7 T8 (l3.trans (J.trans l7)) (g.trans (J.trans l7).le) (BF (J.trans l7)) X7 hw N hR⟩
  exact gJ he hn W (G'.d.self 0 _ _ _ Y.st W)
end
set_option tactic.hygienic true
noncomputable def jr(env:Env):List (Str×NameKind)->List (Str×Addr)->List (Str×Addr)
 |[],acc=>acc
 |(n,k)::r,acc=>if k== .free then(match env.cells.lookup n with|some a=>jr env r ((n,a)::acc)|none=>jr env r acc)else jr env r acc
theorem gK{env:Env}:∀{names acc x a},(∀y b,acc.lookup y=some b->env.cells.lookup y=some b)->(jr env names acc).lookup x=some a->env.cells.lookup x=some a
 |[],acc,x,a,h,e=>h x a e
 |(n,k)::r,acc,x,a,h,e=>by
  unfold jr at e;split at e
  . split at e
    . rename_i b hb;refine gK (λy f hy=>?_) e;rw[VK]at hy;by_cases q:y=n
      . subst q;simp at hy;rw[<-hy];exact hb
      . rw[beq_eq_false_iff_ne.mpr q]at hy;exact h y f hy
    . exact gK h e
  . exact gK h e
theorem hH{env:Env}:∀{names acc x},(∃a,acc.lookup x=some a)->∃a,(jr env names acc).lookup x=some a
 |[],acc,x,h=>h
 |(n,k)::r,acc,x,h=>by
  unfold jr;split
  . split
    . rename_i b hb;refine hH ?_;rw[VK];split
      . exact⟨_,rfl⟩
      . exact h
    . exact hH h
  . exact hH h
theorem gL{env:Env}:∀{names acc x},(x,NameKind.free)∈names->(∃a,env.cells.lookup x=some a)->∃a,(jr env names acc).lookup x=some a
 |(n,k)::r,acc,x,f,hx=>by
  unfold jr;refine Or.elim (VN.mp f) (λe=>?_) λf=>?_
  . cases e;refine ax hx λa i=>?_;simp only[beq_self_eq_true,if_true,i];exact hH ⟨a,by simp⟩
  . split
    . split
      . exact gL f hx
      . exact gL f hx
    . exact gL f hx
theorem mS{scope:Scope}{env:Env}(h:∀x∈scope.names,x.2= .free->∃a,env.cells.lookup x.1=some a):closureFor scope env=pure (jr env scope.names []):=by
 dsimp only[closureFor];have key:∀(names:List (Str×NameKind))(acc:List (Str×Addr)),(∀x∈names,x.2= .free->∃a,env.cells.lookup x.1=some a)->
  (forIn names acc λ(x:Str×NameKind)(f:List (Str×Addr))=>if(x.2==NameKind.free)=true then(do let __do_lift<-cellOf env x.1;pure (ForInStep.yield ((x.1,__do_lift)::f)))else pure (ForInStep.yield f))=(pure (jr env names acc):Sem _):=by
  intro names
  induction names with
  |nil=>intro acc _;rfl
  |cons y r ih=>
   intro acc hn;obtain⟨n,k⟩:=y;rw[List.forIn_cons];unfold jr;by_cases q:k= .free
   . subst q;refine ax (hn (n,.free) (.head _) rfl) λa i=>?_;simp only[beq_self_eq_true,if_true,i,cellOf];rw[pure_bind];exact ih _ λx hx=>hn x (.tail _ hx)
   . have hb:(k==NameKind.free)=false:=by simpa using q
     simp only[hb,WD,if_false,pure_bind];exact ih _ λx hx=>hn x (.tail _ hx)
 have:=key scope.names [] h;rw[this];rfl
structure hJ(env:Env)(σ:ah)(scope:Scope)(sc:ah):Prop where
 kind:scope.kind= .function
 yu:∀x∈scope.names,x.2≠ .cell
 locs:∀x∈scope.names,x.2= .local->scope.names.lookup x.1=some .local
 free:∀x∈scope.names,x.2= .free->∃y,σ.lookup x.1=some (.fz y)/\(env.kindOf x.1=some .cell\/env.kindOf x.1=some .free)
 EC:∀x e,sc.lookup x=some e->∃y,e= .fz y/\σ.lookup x=some (.fz y)/\(x,NameKind.free)∈scope.names/\scope.names.lookup x=some .free/\(x==("__classdict__":Str))=false
theorem iZ{env:Env}:∀{names:List (Str×NameKind)}{x:Str},names.lookup x=some .free->
 (names.map λ(n,k)=>if(k==NameKind.free&&env.scope.kind== .function&&env.kindOf n==some .cell)then(n,NameKind.cell)else(n,k)).lookup x=some .cell\/
 (names.map λ(n,k)=>if(k==NameKind.free&&env.scope.kind== .function&&env.kindOf n==some .cell)then(n,NameKind.cell)else(n,k)).lookup x=some .free
 |[],_,h=>by simp at h
 |(n,k)::r,x,h=>by
  rw[Vn]
  induction hx:x==n with
  |true=>
   simp only[VK,hx]at h;obtain rfl:=Option.some.inj h;by_cases f:(NameKind.free==NameKind.free&&env.scope.kind== .function&&env.kindOf n==some .cell)=true
   . left;simp only[Vi f,VK,hx]
   . right;simp only[Vk f,VK,hx]
  |false=>
   simp only[VK,hx]at h;have e:∀q:NameKind×Unit,True:=λ_=>trivial;refine Or.elim ((@iZ env r x) h) (λh'=>?_) λh'=>?_
   . left;by_cases f:(k==NameKind.free&&env.scope.kind== .function&&env.kindOf n==some .cell)=true
     . simp only[Vi f,VK,hx];exact h'
     . simp only[Vk f,VK,hx];exact h'
   . right;by_cases f:(k==NameKind.free&&env.scope.kind== .function&&env.kindOf n==some .cell)=true
     . simp only[Vi f,VK,hx];exact h'
     . simp only[Vk f,VK,hx];exact h'
theorem fQ{env:Env}:∀{names:List (Str×NameKind)}{x:Str},(∀y∈names,y.2≠ .cell)->
 (names.map λ(n,k)=>if(k==NameKind.free&&env.scope.kind== .function&&env.kindOf n==some .cell)then(n,NameKind.cell)else(n,k)).lookup x=some .cell->(x,NameKind.free)∈names
 |[],_,_,h=>by simp at h
 |(n,k)::r,x,hn,h=>by
  rw[Vn]at h;by_cases f:(k==NameKind.free&&env.scope.kind== .function&&env.kindOf n==some .cell)=true
  . simp only[Vi f,VK]at h;have i:k= .free:=by simp at f;exact f.1.1
    induction hx:x==n with
    |true=>rw[beq_iff_eq.mp hx,i];exact .head _
    |false=>rw[hx]at h;exact .tail _ (fQ (λy hy=>hn y (.tail _ hy)) h)
  . simp only[Vk f,VK]at h
    induction hx:x==n with
    |true=>rw[hx]at h;obtain rfl:=Option.some.inj h;exact Vu rfl (hn (n,.cell) (.head _))
    |false=>rw[hx]at h;exact .tail _ (fQ (λy hy=>hn y (.tail _ hy)) h)
noncomputable def pP:Acc->Obj
 | .l _=>bo #[] 0
 | .d _=>aC #[] 0
noncomputable def xa(b:Bool):Acc:=if b then .l []else .d []
section
variable{c:Cx}{env:Env}{A:Around}{H₀:Heap}{σ:ah}
theorem ll{e:Expr}{scope:Scope}{pos tg iter ifs gs rows sc dO a' b}{yB:Sem Value}{use:Option (Value->Sem Unit)}{Q:Value->Shared->Prop}{E}{T s}(he:o8 e=true)(mF:clausesOf e=⟨tg,iter,ifs,0⟩::gs)(X:hJ env σ scope sc)
 (hk:∀x∈aJ tg,scope.names.lookup x=some .local)(hf:∀x,foldedSetIterable iter env x=pure x)(hi:eT c env A H₀ σ iter tg (aJ tg) rows)
 (hS:∀H:Env,H.scope=relabel scope env->dy c H A e 0 sc rows (xa b) dO a')(OT:∀(s:Shared)(Q:Value->Shared->Prop)(E:Value->Shared->Prop),Q (.ref s.heap.objs.size) {s with heap:=s.heap.push (pP (xa b))}->wpAny c.M A yB Q E s)
 (w:W c T s.heap)(F:FR c env H₀ σ T s.heap)
 (hQ:∀T' s' D C m,bF c T s T' s'->W c T' s'.heap->s.heap.get? D=none->T' D=none->AccAt c T' s'.heap D a'->s.heap.get? C=none->T' C=none->C≠D->s'.heap.Ns C m->compPost c.M A E use Q (.ref D) C (.ok .next) s'):
 wpAny c.M A (comprehension e scope env pos yB false (eval iter env) use) Q E s:=by
 have rR:∀x∈scope.names,x.2= .free->∃a,env.cells.lookup x.1=some a:=λx hx O=>by
  refine ab (X.free x hx O) λy h1 h2=>?_;refine cq F.vals λm ρ V=>?_;refine ab (V.val x.1 _ h1) λv U _=>?_;rcases U with⟨U,_⟩|⟨_,a,Z,_⟩
  . refine Or.elim h2 (λh2=>?_) λh2=>?_<;>rw [U]at h2<;>cases h2
  . exact⟨a,Z⟩
 refine wpAny_comprehension_free mF hf (mS rR) X.kind X.locs (bT (Vj (hi T s w F) (λx aS I=>bT (Vj I (λit i⟨cf,fp,wr,dK,P,Y⟩=>?_) λ_ _ z=>z)) λ_ _ z=>z));refine dh (Y.go w) λG w2 e2=>?_;refine OT i _ _ (wpAny_newFunctionEnv X.yu (by intro y hy;simp at hy) (λI wF mO=>?_) X.kind);generalize U8:fj cf fp=T3 at*
 dsimp only at wF mO⊢;generalize OW:i.heap.push (pP (xa b))=H2 at wF mO⊢;have TV:H2.get? i.heap.objs.size=some (pP (xa b)):=by rw[<-OW];refine VZ _ ?_;induction b<;>rfl
 have hC:H2.objs.size=i.heap.objs.size+1:=by rw[<-OW,Heap.size_push]
 have OY:i.heap.objs.size≠H2.objs.size:=by rw[hC];exact Ww (Nat.lt_succ_self _)
 have u:∀b o,i.heap.get? b=some o->I.get? b=some o:=λb o e=>mO.extBut b o (by rw[hC];exact Ww (Nat.lt_succ_of_lt (V7 e))) (VW _ (OW▸VW _ e));have Rv:I.get? i.heap.objs.size=some (pP (xa b)):=mO.extBut _ _ OY (VW _ TV);have El:i.heap.get? H2.objs.size=none:=by
  induction q:i.heap.get? H2.objs.size with
  |none=>rfl
  |some o=>exact Vu (V7 q) (by rw[hC];exact Nat.not_lt.mpr (Nat.le_succ _))
 have fD:s.heap.get? i.heap.objs.size=none:=e2.fresh w2 (aG _);have fC:s.heap.get? H2.objs.size=none:=e2.fresh w2 El;have nD:=w2.none_of (aG i.heap);generalize Va:i.heap.objs.size=D at*
 generalize TX:H2.objs.size=C at*
 have e3:bF c T s T3 {i with heap:=I,toks:=i.toks+([]:List (Str×Value)).length}:=e2.trans (bF.grown u _);have J:∃H:Env,H={newEnv scope C env.globals (jr env scope.names []) env.qual none .none (some env) builtinsNs with scope:=relabel scope env}:=⟨_,rfl⟩;refine ax J λH J=>?_;have c1:H.scope=relabel scope env:=by rw[J]
 have c2:H.locals=C:=by rw[J];rfl
 have c3:H.cells=jr env scope.names []:=by rw[J];rfl
 have c4:H.globals=env.globals:=by rw[J];rfl
 have c5:H.builtins=env.builtins:=by rw[J];rfl
 have sub:∀{x a},H.cells.lookup x=some a->env.cells.lookup x=some a:=λ{x a} h=>by rw[c3]at h;exact gK (acc:=[]) (λy b hy=>by simp at hy) h
 have B:∀x,H.kindOf x=(scope.names.map λ(n,k)=>if(k==NameKind.free&&env.scope.kind== .function&&env.kindOf n==some .cell)then(n,NameKind.cell)else(n,k)).lookup x:=λx=>by unfold Env.kindOf;rw[c1];rfl
 have Fx:=(F.ext e2).ya (T':=T3) (h':=I) (wr:=[]) (λb hb=>by cases hb) (λb o _ e=>u b o e) (λ_ _ e _=>e) λ_ e _=>e;have S:St c T s H sc T3 {i with heap:=I,toks:=i.toks+([]:List (Str×Value)).length}:=by
  refine⟨(w2.grown u),e3,⟨by rw[c1];exact X.kind,by rw[c4];exact F.glob,by rw[c5];exact F.blt,λa Z=>w.free Z,by rw[c2];exact(w2.none_of El),by rw[c2];exact fC,λx a hx=>Fx.cells x a (sub hx),λx y a hx hy=>F.inj x y a (sub hx) (sub hy),λx hx=>?_,(λx=>([]:List (Str×Value)).reverse.lookup x),λ_=>0,?_,?_,?_,λx ev hx=>?_⟩,w⟩
  . rw[B]at hx;have hm:=fQ X.yu hx;rw[c3];exact gL hm (rR _ hm rfl)
  . rw[c2];exact wF
  . intro x y ex ey hx hy oe of _;refine ab (X.EC x ex hx) λz e _=>?_;rw[e]at oe;exact Vu oe VU
  . intro x ex hx oe;refine ab (X.EC x ex hx) λz e _=>?_;rw[e]at oe;exact Vu oe VU
  . refine K2 (X.EC x ev hx) λy aK h2 U h4 h5=>?_;subst aK;refine cq Fx.vals λm ρ V=>?_;refine ab (V.val x _ h2) λv g1 g2=>?_;refine ab (X.free _ U rfl) λz _ O=>?_;refine ag v (.inr ⟨?_,?_⟩) ?_
    . rw[B];refine Or.elim (iZ (env:=env) h4) (λq=>?_) λq=>?_
      . exact .inl q
      . exact .inr ⟨q,h5⟩
    . rcases g1 with⟨g1,_⟩|⟨_,a,Z,hc⟩
      . refine Or.elim O (λO=>?_) λO=>?_<;>(have Q9:env.kindOf x=_:=O;rw[g1]at Q9;cases Q9)
      . refine ax (gL (env:=env) (acc:=[]) U ⟨a,Z⟩) λa' Ke=>?_;have:a'=a:=by
         have:=gK (acc:=[]) (λy b hy=>by simp at hy) Ke;rw[Z]at this;exact(Option.some.inj this).symm
        subst this;exact ag a' (by rw[c3];exact Ke) hc
    . have q:=g2.inv;exact .fz q
 have iP:∀x∈aJ tg,H.kindOf x=some .local:=λx hx=>by rw[B];exact lookup_relabel_local (hk x hx)
 have fz:jw sc:=λx ev hx=>by refine ab (X.EC x ev hx) λy e _=>?_;rw[e];rfl
 have XA:iy c H s T3 {i with heap:=I,toks:=i.toks+([]:List (Str×Value)).length} D (xa b):=by
  refine⟨?_,nD,fD,by rw[c2];exact OY,λx hx=>?_⟩
  . induction b with
    |true=>exact jn (#[]) 0 Rv .nil
    |false=>exact uh (#[]) 0 Rv .nil List.nodup_nil
  . have:=(F.cells x D (sub hx)).1;refine aP this λv o ho _=>?_;rw[fD]at ho;exact ad ho
 have HV:dK 0 I:=Y.d.frame _ _ _ Y.st λb _ o e=>u b o e;have Tc:∀b∈wr,s.heap.get? b=none:=λb hb=>(G.wr b hb).2.1;have N:codeAny c.M A (.compLoop e 0 it (.ref D) H) (compPost c.M A E use Q (.ref D) C) {i with heap:=I,toks:=i.toks+([]:List (Str×Value)).length}:=by refine Ah he (hS H c1) (by rw[mF];rfl) G rfl (Vq _) S fz (e3.xB w) (.refl _) HV XA Tc iP λT' s' S' _ _ X'=>?_;refine cq S'.f.vals λm ρ V=>?_;have nl:=S'.f.loc;rw[c2]at nl;have ns:=V.ns;rw[c2]at ns;exact hQ T' s' D C m S'.e S'.w fD X'.cN X'.at_ fC nl (Ne.symm OY) ns
 have:=gJ he (by rw[mF];rfl) N (Y.d.self 0 _ _ _ HV N);rw[J]at this;exact this
end
set_option tactic.hygienic false
section
variable{c:Cx}{env:Env}{A:Around}{H₀:Heap}{σ:ah}
theorem l8(k v gens scope pos):eval (.DictComp k v gens scope pos) env=comprehension (.DictComp k v gens scope pos) scope env (firstIterPos gens pos) newDict (firstAsync gens) (firstIter gens env):=rfl
theorem wq{elt tg iter ifs gs scope pos rows sc dO xs}(X:hJ env σ scope sc)
 (B:∀x∈aJ tg,scope.names.lookup x=some .local)(hf:∀x,foldedSetIterable iter env x=pure x)(hi:∀H₀,eT c env A H₀ σ iter tg (aJ tg) rows)
 (G:∀u:Env,u.scope=relabel scope env->dy c u A (.ListComp elt (⟨tg,iter,ifs,0⟩::gs) scope pos) 0 sc rows (.l []) dO (.l xs)):sH c env A H₀ σ (.ListComp elt (⟨tg,iter,ifs,0⟩::gs) scope pos) xs:=λT s w F=>by
 rw[eval_ListComp];refine ll (b:=true) (use:=none) rfl rfl X B hf (hi H₀) G (λs Q E h=>wpAny_newObj_type h (by size_fits)) w F λT' s' D C m H I h0 hn J z N O ns=>?_;refine aP J λvs n P f=>?_;refine ag m ns λh' i=>⟨T',D,vs,n,rfl,H.upd i z,I.upd i N (w.free z),h0,hn,(i.2 _ (Ne.symm O)).trans P,f⟩
theorem wt{ke ve tg iter ifs gs scope pos rows sc dO l}(X:hJ env σ scope sc)
 (B:∀x∈aJ tg,scope.names.lookup x=some .local)(hf:∀x,foldedSetIterable iter env x=pure x)(hi:∀H₀,eT c env A H₀ σ iter tg (aJ tg) rows)
 (G:∀u:Env,u.scope=relabel scope env->dy c u A (.DictComp ke ve (⟨tg,iter,ifs,0⟩::gs) scope pos) 0 sc rows (.d []) dO (.d l)):pR c env A H₀ σ (.DictComp ke ve (⟨tg,iter,ifs,0⟩::gs) scope pos) l:=λT s w F=>by
 rw[l8];refine ll (b:=false) (use:=none) rfl rfl X B hf (hi H₀) G (λs Q E h=>wpAny_newObj_type h (by size_fits)) w F λT' s' D C m H I h0 hn J z N O ns=>?_;refine cP J λP n U f nd=>?_;refine ag m ns λh' i=>⟨T',D,P,n,rfl,H.upd i z,I.upd i N (w.free z),h0,hn,(i.2 _ (Ne.symm O)).trans U,f,nd⟩
theorem ub{y py elt tg iter ifs gs scope pos IG rows sc dO xs}(O:swapsWith (.ListComp elt (⟨tg,iter,ifs,0⟩::gs) scope pos) (some (.Name y py)) IG.line env=pure true)(hy:env.kindOf y=some .local)(X:hJ env σ scope sc)
 (P:∀x∈aJ tg,scope.names.lookup x=some .local)(hf:∀x,foldedSetIterable iter env x=pure x)(hi:∀H₀,eT c env A H₀ σ iter tg (aJ tg) rows)
 (U:∀G:Env,G.scope=relabel scope env->dy c G A (.ListComp elt (⟨tg,iter,ifs,0⟩::gs) scope pos) 0 sc rows (.l []) dO (.l xs)):
 ju c env A σ (.Assign [.Name y py] (.ListComp elt (⟨tg,iter,ifs,0⟩::gs) scope pos) IG) (.next (aQ σ y (.ol xs))):=λaj ae T s S Y=>by
 rw[exec_Assign_Name_used _ _ _ _ O];refine Vh (VG (Vh ?_));refine Vh (Vj (Q:=λ_ s'=>fZ c aj ae env T s (.next (aQ σ y (.ol xs))) .next s') ?_ (λ_ s' q=>Vz (Vz q)) λ_ _ z=>z);refine ll (b:=true) (use:=some (assign (.Name y py) env)) rfl rfl X P hf (hi _) U (λs Q E h=>wpAny_newObj_type h (by size_fits)) S.w S.f λT' s' D C m i Z h0 hn ha u El Kg ns=>?_;refine aP ha λvs n ho F=>?_;refine f9 (Heap.Ns.obj ns) λoC eC nC To U7=>?_;have w5:W c (fj T' [C]) s'.heap:=Z.D5 λb hb e=>by simp at hb;subst hb;exact⟨S.w.free u,oC,To⟩
 have H:bF c T s (fj T' [C]) s':=⟨λa ty e=>gS _ _ (i.eq a ty e),i.keep,λa o h1 h2 B=>by
  have f7:a≠C:=λq=>by rw[q,u]at h2;exact ad h2
  rw[oF (by simpa using f7)];exact i.cN a o h1 h2 B,i.gens,i.os⟩
 have Tu:fj T' [C] D=none:=by rw[oF (by simpa using Ne.symm Kg)];exact hn
 have I:fj T' [C] C=some .raw:=oG (by exact Vm) El;refine wpAny_assign_Name (la S (Y y) (.inl hy) H w5 h0 Tu ho (F.mono kL) λfo pQ st=>?_);refine ag m ?_ (λh' J=>⟨rfl,_,pQ.done (wr:=[C]) (tk:=fo.toks) (λb hb=>by simp at hb;subst hb;exact⟨I,S.e.fresh S.w u⟩) (λb o hb e=>by simp at hb;exact(J.2 _ hb).trans e),?_⟩)
 . refine f9 ns λo es ep g1 g2=>?_;exact si o es ep (st.1 C .raw o I g1) g2
 . have lw:=(H.xB S.w).trans st.le;refine⟨λa ty e=>?_,λa ty o h1 h2 B=>(J.2 a (λq=>?_)).trans (lw.xh a ty o h1 h2 B)⟩
   . refine ab (lw.le a ty e) λj8 Uq q=>?_;refine ag j8 ?_ q;unfold tG;rewrite[Vk ?_];exact Uq;intro N;simp at N;subst N;rw[S.w.none_of u]at e;exact ad e
   . subst q;rw[u]at B;exact ad B
end
set_option tactic.hygienic true
set_option backward.match.sparseCases true
structure bq(A:Around)(k:Nat):Prop where
 r:cD A k
 u:A.units+8*k+105<=9800
theorem cD.frame{A:Around}{k:Nat}(x:cD A (k+1))(env:Env):bq (A.deeper env) k:=by
 obtain⟨h1,h2,f,i⟩:=x;refine⟨⟨?_,?_,f,i⟩,?_⟩
 . show A.depth+1+k<=999;lia
 . rw[Around.deeper_units];lia
 . rw[Around.deeper_units];lia
structure sO(K:Frag)(f:Addr)(fd:FuncData)(body:List Stmt):Prop where
 look:∃o,K.lookup f=some o/\o.data= .func fd
 body:fd.body= .stmts body
 Ut:fd.closure=[]
 glob:fd.globals=mainGlobals
 blt:fd.builtins=builtinsNs
 code:codeIn K fd.code fd.qualname=true
 co:fd.scope.isCoroutine=false
 gen:fd.scope.isGenerator=false
 kind:fd.scope.kind= .function
theorem nN{i:Str->Option NameKind}:∀{f:List (Str×Value)}{m:Str->Option Value}{n:Str},(∀v,(n,v)∉f)->bindL i f m n=m n
 |[],_,_,_=>rfl
 |(x,v)::r,m,n,h=>by
  unfold bindL;rw[nN λv hv=>h v (.tail _ hv)];split
  . have:n≠x:=λq=>h v (by rw[q];exact .head _);simp only[Vk this]
  . rfl
theorem nQ{i:Str->Option NameKind}:∀{f:List (Str×Value)}{m:Str->Option Value}{n:Str},(∀v,(n,v)∉f)->bindC i f m n=m n
 |[],_,_,_=>rfl
 |(x,v)::r,m,n,h=>by
  unfold bindC;rw[nQ λv hv=>h v (.tail _ hv)];split
  . rfl
  . have:n≠x:=λq=>h v (by rw[q];exact .head _);simp only[Vk this]
theorem sx{i:Str->Option NameKind}{n:Str}{v:Value}(z:i n=some .local):∀{f:List (Str×Value)}{m:Str->Option Value},(f.map (·.1)).Nodup->(n,v)∈f->bindL i f m n=some v
 |(x,u)::r,m,nd,h=>by
  unfold bindL;rw[Vn,Xh]at nd;refine Or.elim (VN.mp h) (λe=>?_) λh=>?_
  . refine af (Prod.mk.inj e) λB F=>?_;subst B;subst F;rw[nN λv hv=>nd.1 (Vy.mpr ⟨_,hv,rfl⟩),Vi z];simp
  . exact sx z nd.2 h
theorem sy{i:Str->Option NameKind}{n:Str}{v:Value}(z:i n≠some .local):∀{f:List (Str×Value)}{m:Str->Option Value},(f.map (·.1)).Nodup->(n,v)∈f->bindC i f m n=some v
 |(x,u)::r,m,nd,h=>by
  unfold bindC;rw[Vn,Xh]at nd;refine Or.elim (VN.mp h) (λe=>?_) λh=>?_
  . refine af (Prod.mk.inj e) λB F=>?_;subst B;subst F;rw[nQ λv hv=>nd.1 (Vy.mpr ⟨_,hv,rfl⟩),Vk z];simp
  . exact sy z nd.2 h
theorem cK:∀{names:List (Str×NameKind)}{n:Nat}{acc:List (Str×Addr)}{x:Str},(∃a,acc.lookup x=some a)\/(x,NameKind.cell)∈names->∃a,(cellsFrom n names acc).lookup x=some a
 |[],n,acc,x,h=>by
  refine Or.elim h (λh=>?_) λh=>?_
  . exact h
  . exact uV h
 |(y,k)::r,n,acc,x,h=>by
  unfold cellsFrom;split
  . rename_i f;refine cK ?_;rcases h with⟨a,h⟩|h
    . left;rw[VK];split
      . exact⟨_,rfl⟩
      . exact⟨a,h⟩
    . refine Or.elim (VN.mp h) (λe=>?_) λh=>?_
      . (injection e with z;subst z);left;exact⟨n,by simp⟩
      . exact .inr h
  . rename_i f;refine cK ?_;refine Or.elim h (λh=>?_) λh=>?_
    . exact .inl h
    . refine Or.elim (VN.mp h) (λe=>?_) λh=>?_
      . exact Vu (beq_iff_eq.mpr (Vx Prod.snd e).symm) f
      . exact .inr h
structure j7(scope:Scope)(ns:List Str):Prop where
 nd:ns.Nodup
 kind:∀n∈ns,scope.names.lookup n=some .local\/scope.names.lookup n=some .cell
noncomputable def BR(c:Cx)(T:TM)(h H₀:Heap)(p:Str×Value)(q:Str×EV):Prop:=p.1=q.1/\∃r,ER c T h H₀ r p.2 q.2
noncomputable abbrev Bb(c:Cx)(T:TM)(h H₀:Heap):=F2 (BR c T h H₀)
theorem Bb.cons{c T h H₀}{n v ev r vs xs}(q:ER c T h H₀ r v ev)(t:Bb c T h H₀ vs xs):Bb c T h H₀ ((n,v)::vs) ((n,ev)::xs):=F2.cons ⟨rfl,r,q⟩ t
theorem Bb.get{c T h H₀ vs xs}(x:Bb c T h H₀ vs xs):∀{n:Str}{ev:EV},xs.lookup n=some ev->∃r v,(n,v)∈vs/\ER c T h H₀ r v ev:=by
 induction x with
 |nil=>exact λe=>ad e
 | @cons p p' vs xs q t ih=>
   intro n ev e;obtain⟨f,v⟩:=p;obtain⟨_,ev'⟩:=p';obtain⟨rfl:f=_,r,q⟩:=q;rw[VK]at e;by_cases i:n=f
   . subst i;rw[beq_self_eq_true]at e;exact jn r v (.head _) (Option.some.inj e▸q)
   . rw[beq_eq_false_iff_ne.mpr i]at e;exact aP (ih e) λr v h1 h2=>⟨r,v,.tail _ h1,h2⟩
theorem dX{names:List (Str×NameKind)}{n:Str}{k:NameKind}(h:names.lookup n=some k):(n,k)∈names:=mem_of_lookup h
section
variable{c:Cx}{A:Around}
noncomputable def k7(xs:List (Str×EV)):Prop:=∀x y e f,xs.lookup x=some e->xs.lookup y=some f->e.owned=true->f.owned=true->x=y
noncomputable abbrev IM:Flow->Value:=λfl=>match fl with| .ret v=>v|_=> .none
theorem ko(O:aM c){f fd body}{T s bp aS vs kv binds bs}{X:Obj}{k:Nat}{R:Result->Shared->Prop}(xi:aS.heap.get? f=some X)(hd:X.data= .func fd)(rU:fd.body= .stmts body)(Gz:fd.closure=[])(zs:fd.globals=mainGlobals)(GB:fd.builtins=builtinsNs)(wH:aS.heap.CodeRec fd.code fd.qualname)
 (CB:fd.scope.isCoroutine=false)(t4:fd.scope.isGenerator=false)(Y:fd.scope.kind= .function)(Z:cD A (k+1))(w:W c T s.heap)(e:bF c T s bp aS)(F:W c bp aS.heap)
 (hb:BindsTo aS fd ⟨vs,kv⟩ binds)(br:Bb c bp aS.heap s.heap binds bs)(B:j7 fd.scope (binds.map (·.1)))(one:k7 bs)
 (fH:∀env A',env.scope=fd.scope->(env.code=fd.code/\env.qual=fd.qualname++".<locals>.")->bq A' k->∀aZ,St c T s env bs bp aZ->d5 env s.heap->wpAny c.M A' (execs body env) (λfl s'=>R (.ok (.ret (IM fl))) s') cg aZ):
 codeAny c.M A (.call (.ref f) ⟨vs,kv⟩) R aS:=by
 refine codeAny_call_function (by have:=Z.depth;unfold recursionLimit;lia) xi hd CB t4 rU wH (hb _ _ _ _ ?_);rw[Gz];have vh:∀x∈binds,fd.scope.names.lookup x.1=some .local\/(fd.scope.names.lookup x.1=some .cell/\((cellsFrom (aS.heap.objs.size+1) fd.scope.names []).lookup x.1).isSome=true):=λx hx=>by
  refine Or.elim (B.kind x.1 (Vy.mpr ⟨x,hx,rfl⟩)) (λh=>?_) λh=>?_
  . exact .inl h
  . refine .inr ⟨h,?_⟩;refine ax (cK (n:=aS.heap.objs.size+1) (acc:=[]) (.inr (dX h))) λa u=>?_;rw[u];rfl
 refine wpAny_newFunctionEnv_cells Y vh λenv he s' I=>?_;have H:env.scope=fd.scope:=by rw[he];rfl
 have J:env.locals=aS.heap.objs.size:=by rw[he];rfl
 have Q:env.cells=cellsFrom (aS.heap.objs.size+1) fd.scope.names []:=by rw[he];rfl
 have c4:env.globals=fd.globals:=by rw[he];rfl
 have c5:env.builtins=fd.builtins:=by rw[he];rfl
 refine aP I.done λh' tk zq N=>?_;subst zq;refine⟨(O.lim.keeps F.base).keeps N,codeAny_func ?_⟩;have w':W c bp h':=F.grown N;have e':bF c T s bp {aS with heap:=h',toks:=tk}:=e.trans (bF.grown N tk);have P:∀b,aS.heap.objs.size<=b->aS.heap.get? b=none:=λb hb=>by
  induction q:aS.heap.get? b with
  |none=>rfl
  |some o=>exact Vu (V7 q) (Nat.not_lt.mpr hb)
 have fresh:∀b,aS.heap.objs.size<=b->bp b=none/\s.heap.get? b=none/\c.h₀.get? b=none/\b≠c.tab:=λb hb=>⟨F.none_of (P b hb),e.fresh F (P b hb),F.free (P b hb)⟩;have i:∀{x a},env.cells.lookup x=some a->aS.heap.objs.size<=a:=λ{x a} h=>by have:=I.above x a (mem_of_lookup h);rw[J]at this;exact VT this
 have S:St c T s env bs bp {aS with heap:=h',toks:=tk}:=by
  refine⟨w',e',⟨by rw[H];exact Y,by rw[c4];exact zs,by rw[c5];exact GB,λa u=>w.free u,by rw[J];exact(fresh _ (Vt _)).1,by rw[J];exact(fresh _ (Vt _)).2.1,
   λx a hx=>⟨⟨_,I.cell x a hx⟩,(fresh a (i hx)).1,(fresh a (i hx)).2.2⟩,λx y a hx hy=>name_of_addr I.apart (mem_of_lookup hx) (mem_of_lookup hy),λx hx=>?_,?_⟩,w⟩
  . have:(x,NameKind.cell)∈fd.scope.names:=by unfold Env.kindOf at hx;rw[H]at hx;exact dX hx
    rw[Q];exact cK (.inr this)
  .
   have Od:∀n,∃r:Addr,∀ev,bs.lookup n=some ev->∃v,(n,v)∈binds/\ER c bp aS.heap s.heap r v ev:=λn=>by
    induction q:bs.lookup n with
    |none=>exact⟨0,λev e=>ad e⟩
    |some ev=>exact aP (Bb.get br q) λr v h1 h2=>⟨r,λev' e=>Option.some.inj e▸⟨v,h1,h2⟩⟩
   refine ax (Classical.axiomOfChoice Od) λρ bh=>?_;have Uj:∀{r v ev},ER c bp aS.heap s.heap r v ev->ER c bp h' s.heap r v ev:=λ{r v ev} x=>x.map (λh=>h) (λ_ _ _{_}=>N _ _) (λ_ _ n _ _=>n) λ_ _ _ e=>e;refine⟨_,ρ,I.toInCall.ns,λx y ex ey hx hy U oy _=>one x y ex ey hx hy U oy,λx ev hx U q=>?_,λx ev hx=>?_⟩
   . exact ab (bh x ev hx) λv _ h2=>ab (h2.at_ U) λo e _=>ad ((P _ (Vt _)).symm.trans (q.trans J▸e))
   . refine ab (bh x ev hx) λv h1 h2=>?_;refine ag v ?_ (Uj h2);have kx:env.kindOf x=fd.scope.names.lookup x:=by unfold Env.kindOf;rw[H]
     refine Or.elim (B.kind x (Vy.mpr ⟨_,h1,rfl⟩)) (λG=>?_) λG=>?_
     . exact .inl ⟨kx.trans G,sx (kx.trans G) B.nd h1⟩
     . have Rh:env.kindOf x=some .cell:=kx.trans G;refine ax (cK (n:=aS.heap.objs.size+1) (acc:=[]) (.inr (dX G))) λa u=>?_;refine .inr ⟨.inl Rh,a,by rw[Q];exact u,?_⟩;have:=I.cell x a (by rw[Q];exact u);rw[sy (λq=>by injection Rh.symm.trans q with z;injection z) B.nd h1]at this;exact this
 have oc:d5 env s.heap:=λx a hx _=>(fresh a (i hx)).2.1;exact bT (fH env _ H ⟨by rw[he];rfl,by rw[he];rfl⟩ (Z.frame env) _ S oc)
theorem iR(O:aM c){f fd body}(X:sO c.K f fd body){T s bp aS vs kv binds bs}{k:Nat}{R:Result->Shared->Prop}(F:cD A (k+1))(w:W c T s.heap)(e:bF c T s bp aS)(i:W c bp aS.heap)
 (hb:BindsTo aS fd ⟨vs,kv⟩ binds)(G:Bb c bp aS.heap s.heap binds bs)(B:j7 fd.scope (binds.map (·.1)))(one:k7 bs)
 (H:∀env u,env.scope=fd.scope->(env.code=fd.code/\env.qual=fd.qualname++".<locals>.")->bq u k->∀z,St c T s env bs bp z->d5 env s.heap->wpAny c.M u (execs body env) (λfl s'=>R (.ok (.ret (IM fl))) s') cg z):
 codeAny c.M A (.call (.ref f) ⟨vs,kv⟩) R aS:=
 let⟨_,ho,hd⟩:=X.look
 ko O (i.gh O _ _ ho) hd X.body X.Ut X.glob X.blt (codeRec_of (i.gh O) X.code) X.co X.gen X.kind F w e i hb G B one H
noncomputable def EJ(c:Cx)(fd:FuncData)(xs:List AV)(kx:List (Str×AV))(ps:List (Str×AV)):Prop:=
 ∀T s vs kv,W c T s.heap->dx T vs xs->jA T kv kx->∃binds,BindsTo s fd ⟨vs,kv⟩ binds/\jA T binds ps
noncomputable def sY(ps:List (Str×AV)):ah:=ps.map λp=>(p.1,.fz p.2)
theorem AC{T:TM}{h H₀:Heap}{vs ps}(x:jA T vs ps):Bb c T h H₀ vs (sY ps):=by
 induction x with
 |nil=>exact .nil
 |cons h _ ih=>exact F2.cons ⟨h.1,0,.fz h.2⟩ ih
theorem CG{ps:List (Str×AV)}:k7 (sY ps):=by
 have:∀{ps:List (Str×AV)}{x e},(sY ps).lookup x=some e->e.owned=false:=by
  intro ps
  induction ps with
  |nil=>intro x e h;simp[sY]at h
  |cons p ps ih=>
   intro x e h;simp only[sY,Vn,VK]at h;split at h
   . obtain rfl:=Option.some.inj h;rfl
   . exact ih h
 exact λx y e f hx _ i _=>Vu ((this hx).symm.trans i) VU
theorem mh(O:aM c){f fd body xs kx ps}{r:AV}{k:Nat}(X:sO c.K f fd body)(hb:EJ c fd xs kx ps)(B:j7 fd.scope (ps.map (·.1)))
 (J:∀env u,env.scope=fd.scope->(env.code=fd.code/\env.qual=fd.qualname++".<locals>.")->bq u k->∃o,dG c env u (sY ps) body o/\((∃σ,o= .ret r σ)\/(r= .none/\∃σ,o= .next σ))):dz c f xs kx r (k+1):=λA T s vs N P w hv Q=>by
 refine ab (hb T s vs N w hv Q) λF h1 h2=>?_;refine iR O X P w (.refl ..) w h1 (AC h2) (by rw[h2.keys];exact B) CG λenv u e U R G S H=>?_;obtain⟨o,I,⟨σ,rfl⟩|⟨rfl,σ,rfl⟩⟩:=J env u e U R
 . exact Vj (I T s T G S H) (λfl s'⟨v,T',e,i,_,W⟩=>⟨v,by rw[e],T',i.e,i.w,W⟩) λ_ _ z=>z
 . exact Vj (I T s T G S H) (λfl s'⟨e,T',i,_⟩=>⟨.none,by rw[e],T',i.e,i.w,.none⟩) λ_ _ z=>z
end
set_option backward.match.sparseCases false
set_option tactic.hygienic false
theorem depth_under_make(A:Around)(C:Addr)(f:List Value):(A.under (.builtin "type.__call__" ⟨.ref C::f,[]⟩)).depth=A.depth+1:=by
 show A.depth+(Code.builtin "type.__call__" ⟨.ref C::f,[]⟩).weight=_;have:(Code.builtin "type.__call__" ⟨.ref C::f,[]⟩).weight=1:=by rfl
 rw[this]
theorem jg(A:Around)(C:Addr)(f:List Value)(h:A.guards=some []):(A.under (.builtin "type.__call__" ⟨.ref C::f,[]⟩)).guards=some []:=by
 show pushGuards (Code.builtin "type.__call__" ⟨.ref C::f,[]⟩).guards A.guards=_;have:(Code.builtin "type.__call__" ⟨.ref C::f,[]⟩).guards=[]:=by rfl
 rw[this,h];rfl
theorem cD.make{A:Around}{k:Nat}(x:cD A (k+1))(C:Addr)(f:List Value):cD (A.under (.builtin "type.__call__" ⟨.ref C::f,[]⟩)) k:=
 ⟨by rw[depth_under_make];have:=x.depth;lia,by rw[units_under_make];have:=x.units;lia,jg A C f x.guards,x.handled⟩
section
variable{c:Cx}{A:Around}
inductive UF(c:Cx)(T:TM)(s:Shared)(a C:Addr)(fl:List (Str×AV))(r:Result)(s':Shared):Prop
 |mk (q:r= .ok (.ret .none)) (T':TM) (e:bF c T s T' s') (w:W c T' s'.heap) (t:T' a=some (.obj C fl))
noncomputable def sL(c:Cx)(C f:Addr)(xs:List AV)(fl:List (Str×AV))(k:Nat):Prop:=
 ∀A T s bp aS a d vs,cD A k->W c T s.heap->bF c T s bp aS->W c bp aS.heap->bp a=some (.obj C [])->aS.heap.get? a=some (instObj C d)->s.heap.get? a=none->dx bp vs xs->
  codeAny c.M A (.call (.ref f) ⟨.ref a::vs,[]⟩) (UF c T s a C fl) aS
noncomputable def LP(c:Cx)(fd:FuncData)(self:Str)(xs:List AV)(ps:List (Str×AV)):Prop:=
 ∀T s v vs,W c T s.heap->dx T vs xs->∃binds,BindsTo s fd ⟨v::vs,[]⟩ ((self,v)::binds)/\jA T binds ps
theorem oO{x a C fl}{ps:List (Str×AV)}:k7 ((x,.self a C fl)::sY ps):=by
 have:∀{ps:List (Str×AV)}{x e},(sY ps).lookup x=some e->e.owned=false:=by
  intro ps
  induction ps with
  |nil=>intro x e h;simp[sY]at h
  |cons p ps ih=>
   intro x e h;simp only[sY,Vn,VK]at h;split at h
   . obtain rfl:=Option.some.inj h;rfl
   . exact ih h
 have key:∀{y e},((x,EV.self a C fl)::sY ps).lookup y=some e->e.owned=true->y=x:=by
  intro y e h o;rw[VK]at h;by_cases q:y=x
  . exact q
  . rw[beq_eq_false_iff_ne.mpr q]at h;rw[this h]at o;exact Vu o VU
 intro y z e f hy i u of;rw[key hy u,key i of]
theorem zk(O:aM c){C f fd body self xs ps fl k}(X:sO c.K f fd body)(hb:LP c fd self xs ps)(B:j7 fd.scope (self::ps.map (·.1)))
 (J:∀a env i,env.scope=fd.scope->(env.code=fd.code/\env.qual=fd.qualname++".<locals>.")->bq i k->∃σ,σ.lookup self=some (.self a C fl)/\dG c env i ((self,.self a C [])::sY ps) body (.next σ)):sL c C f xs fl (k+1):=λA T s G N a d vs P w e H Q hx hn hv=>by
 refine ab (hb G N (.ref a) vs H hv) λu h1 h2=>?_;refine iR O X P w e H h1 (Bb.cons (r:=a) (.self hx hn Q) (AC h2)) (by rw[Vn,h2.keys];exact B) oO λenv i e U R W S Y=>?_;refine ab (J a env i e U R) λσ Z h4=>?_;refine Vj (h4 T s G W S Y) (λeK s'⟨e,T',F,_⟩=>?_) λ_ _ z=>z;rw[e];refine⟨rfl,T',F.e,F.w,?_⟩;refine cq F.f.vals λm ρ V=>?_;refine ab (V.val self _ Z) λv _ I=>?_;generalize ρ self=r at I;obtain⟨rfl,rfl,lo,ty,_,at_⟩:=I.inv;exact ty
structure iS(K:Frag)(C f:Addr):Prop where
 makes:makesIn K C=true
 init:findIn K (.ref C) "__init__"=some (some (.ref f))
 fn:typeIn K (.ref f)=some (.type "function")
theorem Be(O:aM c){C f xs fl k T s vs}(X:iS c.K C f)(hi:sL c C f xs fl k)(J:cD A (k+1))(w:W c T s.heap)(hv:dx T vs xs):wpAny c.M A (call (.ref C) vs) (Got c T s (.obj C fl)) cg s:=by
 refine wpAny_call ?_;have z:=w.gh O;obtain⟨i,g,d,t,u⟩:=s;refine make_core (makes_of z X.makes) (looks_findIn z X.init) (λself=>bind_fn z self X.fn) (.inl rfl) ?_;have hd:((i.push emptyDict).push (instObj C i.objs.size)).get? i.objs.size=some (aC #[] 0):=VW _ (VZ _ rfl);have hx:((i.push emptyDict).push (instObj C i.objs.size)).get? (i.objs.size+1)=some (instObj C i.objs.size):=by rw[<-(Heap.size_push ..)];exact VZ _ rfl
 have up:∀b o,i.get? b=some o->((i.push emptyDict).push (instObj C i.objs.size)).get? b=some o:=λb o e=>VW _ (VW _ e);have B:i.get? i.objs.size=none:=aG i;have n1:i.get? (i.objs.size+1)=none:=by
  induction q:i.get? (i.objs.size+1)with
  |none=>rfl
  |some o=>exact Vu (V7 q) (Nat.not_lt.mpr (Nat.le_succ _))
 have F:=w.none_of B;have G:i.objs.size≠i.objs.size+1:=Ww (Nat.lt_succ_self _);have N:bF c T ⟨i,g,d,t,u⟩ T ⟨(i.push emptyDict).push (instObj C i.objs.size),g,d,t,u⟩:=bF.grown (s:=⟨i,g,d,t,u⟩) up t;have P:=(w.grown up).type (ty:= .bA (i.objs.size+1)) F (w.free B) (.bA hd);have H:fv T i.objs.size (.bA (i.objs.size+1)) (i.objs.size+1)=none:=by rw[dq (Ne.symm G)];exact(w.none_of n1)
 have own:fv (fv T i.objs.size (.bA (i.objs.size+1))) (i.objs.size+1) (.obj C []) i.objs.size=some (.bA (i.objs.size+1)):=by rw[dq G];exact bP
 have Q:=P.type (a:=i.objs.size+1) (ty:= .obj C []) H (w.free n1) ⟨i.objs.size,λ_=>none,#[],0,hx,own,hd,
  ⟨_,#[],0,hd,rfl,λe he=>by simp at he,λx=>rfl⟩,(λk=>by
   by_cases q:k=aB
   . exact(Vi q).mpr λv e=>ad e
   . exact(Vk q).mpr rfl),(λk x e=>ad e),by exact Vt _,by exact Vq _⟩
 have I:=(N.type (ty:= .bA (i.objs.size+1)) F B).type (a:=i.objs.size+1) (ty:= .obj C []) H n1;refine codeAny_mono (hi _ T ⟨i,g,d,t,u⟩ _ _ (i.objs.size+1) i.objs.size vs (J.make C vs) w I Q bP hx n1 (hv.mono I.le)) λr s'⟨e,T',U,Y,Z⟩=>?_;subst e;exact⟨rfl,T',U,Y,.obj Z (.inl rfl)⟩
variable{env:Env}{H₀:Heap}{σ:ah}
theorem CR(O:aM c){id p es xs pos C f fl k}(hn:kq c env A H₀ σ (.Name id p) (.ref C))(B:keepIn c.K (.ref C)=true)(i:dT c env A H₀ σ es xs)(X:iS c.K C f)(hi:sL c C f xs fl k)(G:cD A (k+1)):
 bQ c env A H₀ σ (.Call (.Name id p) es [] pos) (.obj C fl):=λT s w F=>by
 rw[arm_eval_Call_Name'];refine Vh (Vj (hn T s w F) (λv s'⟨H,I⟩=>?_) λ_ _ z=>z);subst H;subst I;refine callWith_of (P:=λh=>c.K.In h) (by rw[bW pos i.noStar];rfl) (keeps_K B) ?_;refine dk i w F λvs T' s' ex u J=>⟨u.gh O,?_⟩;exact Vj (Be O X hi G u J) (λv N g=>g.trans ex) λ_ _ z=>z
end
set_option tactic.hygienic true
structure sJ(K:Frag)(C:Addr):Prop where
 cls:f0 K C
 set:iw K C
 key:findIn K (.ref C) aB=some (some .none)
section
variable{c:Cx}{env:Env}{A:Around}{H₀:Heap}{σ:ah}
theorem oR(K:Frag):specialIn K .none "__get__"=some none:=by rfl
noncomputable def pU(h:Heap)(v:Value)(C:Addr)(x:Str):Prop:=∃a d m t es n,v= .ref a/\h.get? a=some (instObj C d)/\h.get? d=some (aC es n)/\h.Ns d m/\m aB=some (.str x t)
theorem wb(O:aM c){T s v C x}{f:Bool}{E}{Q:Value->Shared->Prop}(Z:sJ c.K C)(w:W c T s.heap)(k:pU s.heap v C x)(h:∀t tk,Q (.str x t) {s with toks:=tk}):wpAny c.M A (getAttr v aB f) Q E s:=by
 obtain⟨a,d,m,t,u,n,rfl,at_,i,ns,q⟩:=k;refine get_value (w.gh O) (⟨at_,rfl,rfl,i⟩) Z.cls.get (findObj_own Z.cls.has Z.key ?_ ?_) rfl (h t _)
 . show(specialIn c.K .none "__get__"==some none)=true;rw[oR];rfl
 . rw[eB ns i,q]
theorem s9(O:aM c){T s v C fl}{z:Bool}(Z:sJ c.K C)(G:bS C fl=true)(w:W c T s.heap)(r:VR T v (.obj C fl)):
 wpAny c.M A (getAttr v aB z) (λu s'=>(∃t,s'={s with toks:=t})/\(u= .none\/∃x t,u= .str x t/\c.tx (.obj C fl)=some x/\pU s.heap v C x)) cg s:=by
 refine cP r.inv λa H J ht N=>?_;subst J;have:fl=H:=by
  rcases N with h|⟨_,h⟩
  . exact h
  . rw[G]at h;exact Vu h.symm VU
 subst this;obtain⟨d,m,F,n,at_,own,f,ns,i,names,Q⟩:=(w.ok _ _ ht).inv;have I:InstAt s.heap a (instObj C d) C (some (aC F n)):=⟨at_,rfl,rfl,f⟩;have B:=i aB;have P:fl.lookup aB=none:=by
  induction e:fl.lookup aB with
  |none=>rfl
  |some y=>exact Vu (names _ _ e) (by decide)
 rw[P]at B;simp only[if_true]at B
 induction q:m aB with
 |none=>refine get_value (w.gh O) I Z.cls.get (findObj_cls Z.cls.has Z.key (oR _) rfl (by decide+kernel) ?_) rfl ⟨⟨_,rfl⟩,.inl rfl⟩;rw[eB ns f,q]
 |some u=>
  obtain⟨_,x,t,rfl,hx⟩:=B u q;refine get_value (w.gh O) I Z.cls.get (findObj_own Z.cls.has Z.key ?_ ?_) rfl ⟨⟨_,rfl⟩,.inr ⟨x,t,rfl,hx,a,d,m,t,F,n,rfl,at_,f,ns,q⟩⟩
  . show(specialIn c.K .none "__get__"==some none)=true;rw[oR];rfl
  . rw[eB ns f,q]
theorem wa(O:aM c){T s v C fl x t}{E}{Q:Unit->Shared->Prop}(Z:sJ c.K C)(z:bS C fl=true)(hx:c.tx (.obj C fl)=some x)(w:W c T s.heap)(r:VR T v (.obj C fl))
 (h:∀s',bF c T s T s'->W c T s'.heap->pU s'.heap v C x->Q () s'):wpAny c.M A (setAttr v aB (.str x t)) Q E s:=by
 refine cP r.inv λa I J ht N=>?_;subst J;have:fl=I:=by
  rcases N with h|⟨_,h⟩
  . exact h
  . rw[z]at h;exact Vu h.symm VU
 subst this;obtain⟨d,m,P,n,at_,own,i,ns,f,names,B,U⟩:=(w.ok _ _ ht).inv;have X:P.size<=1000:=by split at B<;>lia
 refine lg (w.gh O) Z.set (.inr rfl) at_ i ns X λh' Y n' F G H u=>?_;have J0:=(w.lo _ _ own);have ex:bF c T s T {s with heap:=h',toks:=s.toks+2}:=⟨λ_ _ e=>e,λb o q1 q2 q3=>(u.2 b (λq=>by subst q;exact q1 _ own)).trans q3,λ_ _ _ _ e=>e,λh=>h,rfl⟩;refine h _ ex (w.Fr ht own at_ z hx U ?_ f names F G u) ⟨a,d,_,t,Y,n',rfl,(u.2 _ (gu ht own).symm).trans at_,F,G,Vi rfl⟩;split at B<;>rename_i q
 . rw[Vi q]at H;(clear q;lia)
 . rw[Vk q]at H;(clear q;lia)
end
set_option tactic.hygienic false
section
variable{c:Cx}{env:Env}{A:Around}{H₀:Heap}{σ:ah}
theorem lh{o:Expr}{name:Str}{i pos:Pos}{B:Value}{n:Nat}{f:List (Bool×Sem Value)}{u:List (Option Str×Sem Value)}{s:Shared}{Q:Value->Shared->Prop}{E}(hl:(i.endLine==pos.line)=true)(hn:n<29)(F:f.any (·.1)=false)(G:u.all (·.1.isSome)=true)
 (H:∀I,wpAny c.M A (getMethod B name I) (λfx s'=>wpAny c.M A (callWith pos fx.1 fx.2 f u) Q E s') E s):wpAny c.M A (methodCall o name i pos env B n f u) Q E s:=by
 unfold methodCall;have hf:methodCallForm n f u=true:=by
  unfold methodCallForm;have:f.all (λx=> !x.1)=true:=by rw[VB];intro x hx;rw[List.any_eq_false]at F;simpa using F x hx
  rw[this,G];rw[Bool.true_and];apply VJ;split<;>lia
 rw[hf];unfold calleeOf methodCallPos;rw[Vi rfl];refine Vh (VI (Vj (H _) (λfx s' h=>?_) λ_ _ z=>z));rw[hl];exact Vh (Vz h)
theorem km(O:aM c){o name apos pos es xs C fl f r k kn ke kp y}(hb:bk o=true)(Z:bQ c env A H₀ σ o (.obj C fl))(X:f0 c.K C)(hm:jN c.K C name=some f)(h1:az.contains name=false)(h2:name≠aB)
 (hk:keepIn c.K (.ref f)=true)(G:dT c env A H₀ σ es xs)(Tx:bQ c env A H₀ σ ke y)(hc:dz c f (.obj C fl::xs) [(kn,y)] r k)(R:cD A k)(hl:(apos.endLine==pos.line)=true)(hn:es.length<20):
 bQ c env A H₀ σ (.Call (.Attribute o name apos) es [⟨some kn,ke,kp⟩] pos) r:=λT s w F=>by
 rw[arm_eval_Call,dw hb];refine Z.then w F λv T1 s1 e1 I Q r1=>Vh (VG ?_);refine lh hl (by simp;lia) (bW pos G.noStar) rfl λpl=>iV O X hm h1 h2 I r1 ?_;refine callWith_of (P:=λh=>c.K.In h) (by rw[bW pos G.noStar];rfl) (keeps_K hk) ?_;have last:∀vs i B,bF c T1 s1 i B->W c i B.heap->dx i vs xs->wpAny c.M A (evalAll ((backToKw pos (keywordEach [⟨some kn,ke,kp⟩] env)).map (·.2)))
    (λks U=>c.K.In U.heap/\wpAny c.M A (call (.ref f) ([v]++vs) (((backToKw pos (keywordEach [⟨some kn,ke,kp⟩] env)).filterMap (·.1)).zip ks)) (Got c T s r) cg U) cg B:=λvs i B H J r2=>by
  show wpAny _ _ (evalAll [do let v<-eval ke env;standAt pos;pure v]) _ _ _;refine wpAny_evalAll_cons (Tx.then J (Q.ext H) λu T3 s3 N Y F3 r3=>Vh (VG (Vz (wpAny_evalAll_nil ⟨Y.gh O,?_⟩))));show wpAny _ _ (call (.ref f) (v::vs) [(kn,u)]) _ _ _;exact Vj (hc.run R Y (.cons (r1.mono (H.le.trans N.le)) (r2.mono N.le)) (.cons r3 .nil)) (λq s4 g=>((g.trans N).trans H).trans e1) λ_ _ z=>z
 induction es using List.casesOn with
 |nil=>obtain rfl:=(F2.flip G).inv;exact evalArgs_kw2_nil rfl (last [] T1 s1 (.refl ..) I .nil)
 |cons=>refine cP ((F2.flip G).inv) λ_ _ bg h t=>?_;subst bg;exact evalArgs_kw2 rfl (Vj (G.run (pos:=pos) I Q) (λvs B⟨i,H,J,r2⟩=>last vs i B H J r2) λ_ _ z=>z.elim) (aA h.1)
theorem mW{self attr p q v s}{Q:Value->Shared->Prop}(hd:(self==("__debug__":Str))=false)(i:wpAny c.M A (loadName env self) (λf s'=>f=v/\s'=s) cg s)(B:wpAny c.M A (getAttr v attr true) Q cg s):
 wpAny c.M A (eval (.Attribute (.Name self p) attr q) env) Q cg s:=by
 rw[arm_eval_Attribute,dw rfl];refine Vh (wpAny_Name (Vj i (λf s'⟨F,G⟩=>?_) λ_ _ z=>z) hd);subst F;subst G;exact Vh (VG (Vh (VI (Vj B (λu H g=>Vh (wpAny_letTemporaryGo (Vz g))) λ_ _ z=>z))))
theorem yX(O:aM c){C fl x e0 self p1 p2 kk p3 p4 p5 p6 p7 p8 p9 LR IR}(Z:sJ c.K C)(J:bS C fl=true)(hx:c.tx (.obj C fl)=some x)(hd:(self==("__debug__":Str))=false)(h0:gz e0=false)
 (B:env.kindOf self=some .local)(Y:σ.lookup self=some (.fz (.obj C fl)))(he:∀H₀,bQ c env A H₀ σ e0 (.str x)):
 dG c env A σ [.If (.Compare (.Attribute (.Name self p1) aB p2) [.Is] [.Constant .none kk p3] p4) [.Assign [.Attribute (.Name self p5) aB p6] e0 p7] [] p8,.Return (some (.Attribute (.Name self p9) aB LR)) IR] (.ret (.str x) σ):=λaj ae T s S oc=>by
 refine cq S.f.vals λm ρ V=>?_;refine ab (V.val self _ Y) λv h1 h2=>?_;have hm:m self=some v:=by
  rcases h1 with⟨_,h1⟩|⟨h1|⟨h1,_⟩,_⟩
  . exact h1
  . injection B.symm.trans h1 with z;injection z
  . injection B.symm.trans h1 with z;injection z
 have N:VR T v (.obj C fl):=h2;have load:∀{T1 s1},FR c env ae.heap σ T1 s1.heap->ig c env ae.heap σ T1 s1.heap m ρ->wpAny c.M A (loadName env self) (λP s'=>P=v/\s'=s1) cg s1:=λF1 F=>wpAny_loadName_local F1.kind B F.ns hm ⟨rfl,rfl⟩;have g8:∀T1 s1,St c aj ae env σ T1 s1->ig c env ae.heap σ T1 s1.heap m ρ->Le T s T1 s1->pU s1.heap v C x->wpAny c.M A (execs [.Return (some (.Attribute (.Name self p9) aB LR)) IR] env) (fZ c aj ae env T s (.ret (.str x) σ)) cg s1:=λT1 s1 i F l1 k1=>by refine wpAny_execs_cons (wpAny_Return_some (mW hd (load i.f F) (wb O Z i.w k1 λt tk=>?_)));exact⟨_,T1,rfl,i.toks tk,⟨l1.le,l1.xh⟩,.str _ _⟩
 refine wpAny_execs_cons (wpAny_If ?_);rw[arm_isTrue_Compare];refine Vh (mW hd (load S.f V) (Vj (s9 O Z J S.w N) (λu s1⟨⟨tk,G⟩,hu⟩=>?_) λ_ _ z=>z));subst G;rw[cG rfl];refine Vh (VI (wpAny_Constant_none ?_));refine Vh (VG (Vh (wpAny_operate' (is_none ?_))));refine VI (wpAny_truthy_bool ?_);have i:=S.toks tk;rcases hu with rfl|⟨x',t',rfl,sU,ks⟩
 .
  refine wpAny_execs_cons (wpAny_Assign_stores (Vj (he _ T _ i.w i.f) (λu s2⟨Q,H,U,r2⟩=>?_) λ_ _ z=>z) (gQ h0) rfl);refine af (i.kp H U) λI l2=>?_;have W:=V.ext (s:={s with toks:=tk}) i.f H;show wpAny _ _ (assign (.Attribute (.Name self p5) aB p6) env u) _ _ _;rw[arm_assign_Attribute];refine Vh (VI (wpAny_Name (Vj (load I.f W) (λP s3⟨G,e3⟩=>?_) λ_ _ z=>z) hd));subst G;subst e3;refine Vh (VG (Vh (VI ?_)));refine ax r2.inv λt2 aK=>?_;subst aK;refine wa O Z J hx U (N.mono H.le) λs4 X w4 k4=>wpAny_release (wpAny_execs_nil ?_);refine af (I.kp X w4) λS4 l4=>?_;exact g8 Q s4 S4 (W.ext I.f X) ((⟨l2.le,l2.xh⟩:Le T s Q _).trans l4) k4
 . show wpAny _ _ (execs [] env) _ _ _;obtain rfl:=Option.some.inj (hx.symm.trans sU);exact wpAny_execs_nil (g8 T _ i V ⟨.refl T,λ_ _ _ _ _ e=>e⟩ ks)
end
section
variable{c:Cx}{env:Env}{A:Around}{H₀:Heap}{σ:ah}
noncomputable def zz(x y:Str)(a b:Int)(σ:ah):Prop:=σ.lookup x=some (.fz (.int a))/\σ.lookup y=some (.fz (.int b))
theorem zw{a b:Int}(h:b≠0):Int.gcd b (a.fmod b)=Int.gcd a b/\(a.fmod b).natAbs<b.natAbs:=by
 refine⟨?_,?_⟩
 . have e:a.fmod b=a+(-(a.fdiv b))*b:=by
    rw[Int.fmod_def,Int.neg_mul,WV b];rfl
   rw[e,Int.gcd_add_mul_right_right,Int.gcd_comm]
 . refine Or.elim (Int.lt_or_gt_of_ne h) (λh=>?_) λh=>?_
   . have h1:=Int.fmod_lt_of_pos (-a) (Int.neg_pos_of_neg h);have h2:=Int.fmod_nonneg_of_pos (-a) (Int.neg_pos_of_neg h);rw[Int.neg_fmod_neg]at h1 h2;rw[<-Int.natAbs_neg (a.fmod b),<-Int.natAbs_neg b];exact Int.natAbs_lt_natAbs_of_nonneg_of_lt h2 h1
   . exact Int.natAbs_lt_natAbs_of_nonneg_of_lt (Int.fmod_nonneg_of_pos a h) (Int.fmod_lt_of_pos a h)
theorem FR.weak{T h σ'}(F:FR c env H₀ σ T h)(i:∀x e,σ'.lookup x=some e->σ.lookup x=some e):FR c env H₀ σ' T h:=by refine cq F.vals λm ρ V=>?_;exact⟨F.kind,F.glob,F.blt,F.jy,F.loc,F.fA,F.cells,F.inj,F.own,m,ρ,V.ns,λx y e f hx hy=>V.inj x y e f (i x e hx) (i y f hy),λx e hx=>V.apart x e (i x e hx),λx e hx=>V.val x e (i x e hx)⟩
theorem St.weak{aj ae T s σ'}(S:St c aj ae env σ T s)(i:∀x e,σ'.lookup x=some e->σ.lookup x=some e):St c aj ae env σ' T s:=⟨S.w,S.e,S.f.weak i,S.hO⟩
theorem yg{T:TM}{h:Heap}{v:Value}{x y:AV}(w:W c T h)(r:VR T v (.tup [x,y])):∃t n v1 f,v= .ref t/\h.get? t=some (iA #[v1,f] n)/\VR T v1 x/\VR T f y:=by refine ab r.inv λt e ht=>?_;refine aP ((w.ok _ _ ht).inv) λvs n at_ items=>?_;refine cP items.two λv1 f i q1 q2=>?_;obtain rfl:vs= #[v1,f]:=Array.toList_inj.mp i;exact⟨t,n,v1,f,e,at_,q1,q2⟩
theorem CM(G:A.handled=none){x y elts k E7 val pos}{u1 u2:AV}(hx:env.kindOf x=some .local)(hy:env.kindOf y=some .local)(hv:∀H₀,bQ c env A H₀ σ val (.tup [u1,u2]))(H:swapsWithSole [.Tuple elts k E7] val pos.line env=pure false)
 (I:swappedStores [.Tuple elts k E7] val env=pure (some [x,y])):ju c env A σ (.Assign [.Tuple elts k E7] val pos) (.next (aQ (aQ σ y (.fz u2)) x (.fz u1))):=λaj ae T s S u=>by
 refine Assign_Tuple_swapped (names:=[x,y]) (Vj (hv _ T s S.w S.f) (λv B⟨J,N,i,r3⟩=>?_) λ_ _ z=>z.elim) H I;refine af (S.kp N i) λO P=>?_;obtain⟨t,n,v1,Q,rfl,at_,q1,q2⟩:=yg i r3;refine unpackItems_tuple (items:= #[v1,Q]) G ⟨_,at_,rfl,_,rfl⟩ λh' U=>?_;have F:∀b o,B.heap.get? b=some o->h'.get? b=some o:=λb o e=>U b o (Ww (V7 e)) e;refine af (O.kp (bF.grown F B.toks) (i.grown F)) λW X=>?_;exact Vh (VI (wpAny_bindName (gj W (u y) (.inl hy) q2 λs5 Y MN=>Vh (VI (wpAny_bindName (gj Y (u x) (.inl hx) q1 λs6 Z Sn=>Vz ⟨rfl,J,Z,((P.trans X).trans MN.le).trans Sn.le⟩))))))
theorem zT{t body p}(I:Nat->ah->Prop)(D:ah->Prop)(step:∀n σ,I n σ->∃b,(∀H₀,iU c env A H₀ σ t b)/\(if b then∃m σ',m<n/\I m σ'/\dG c env A σ body (.next σ')else D σ))
 {n σ rest o}(h:I n σ)(r:∀σ,D σ->dG c env A σ rest o):dG c env A σ (.While t body [] p::rest) o:=λaj ae T s S B=>by
 refine wpAny_execs_cons (wpAny_While (codeAny_whileLoop (λk s'=>∃i u,I k i/\St c aj ae env i u s'/\Le T s u s') ?_ n ⟨σ,T,h,S,.refl ..⟩));rintro k s' ⟨i,u,hi,Si,li⟩;refine ab (step k i hi) λb ht hb=>?_;refine bT (Vj (ht _ u s' Si.w Si.f) (λJ F⟨N,G,O,P⟩=>?_) λ_ _ z=>z);subst N;refine af (Si.kp O P) λH l2=>?_
 induction J with
 |false=>exact wpAny_execs_nil (Vj (r i hb aj ae G F H B) (λf Q q=>q.from (li.trans l2)) λ_ _ z=>z)
 |true=>refine cP hb λm σ' U hI hx=>?_;exact bT (Vj (hx aj ae G F H B) (λf Q⟨e,W,X,Y⟩=>by subst e;exact⟨m,U,σ',W,hI,X,(li.trans l2).trans Y⟩) λ_ _ z=>z)
theorem zy(G:A.handled=none){x y id p0 p1 p2 p3 p4 p5 p6 p7 p8 p9 LR IR Sz Sy Sx k1 k2}{a b:Int}(hx:env.kindOf x=some .local)(hy:env.kindOf y=some .local)(H:x≠y)(B:(x==("__debug__":Str))=false)(u:(y==("__debug__":Str))=false)
 (I:swappedStores [.Tuple [.Name x p1,.Name y p2] k1 p3] (.Tuple [.Name y p4,.BinOp (.Name x p5) .Mod (.Name y p6) p7] k2 p8) env=pure (some [x,y]))(J:∀H₀ σ,kq c env A H₀ σ (.Name id IR) (.builtin "abs"))(N:zz x y a b σ):
 dG c env A σ [.While (.Name y p0) [.Assign [.Tuple [.Name x p1,.Name y p2] k1 p3] (.Tuple [.Name y p4,.BinOp (.Name x p5) .Mod (.Name y p6) p7] k2 p8) p9] [] LR,.Return (some (.Call (.Name id IR) [.Name x Sz] [] Sy)) Sx] (.ret (.int (Int.gcd a b)) []):=by
 refine zT (λk σ=>∃i bi,k=bi.natAbs/\Int.gcd i bi=Int.gcd a b/\zz x y i bi σ) (λσ=>∃i,Int.gcd i 0=Int.gcd a b/\zz x y i 0 σ) ?_ ⟨a,b,rfl,rfl,N⟩ ?_
 . rintro _ DA ⟨i,bi,rfl,hg,hi⟩;refine ag (bi !=0) (λH₀=>xA rfl (bY hi.2 u) λT s v w r=>om (x:= .int bi) rfl w r) ?_;by_cases hb:bi=0
   . subst hb;exact ag i hg hi
   . have F:(bi !=0)=true:=bne_iff_ne.mpr hb;rw[Vi F];refine af (zw (a:=i) hb) λO P=>?_;refine uh _ _ P ⟨bi,i.fmod bi,rfl,O.trans hg,?_⟩ (rZ (CM G (u1:= .int bi) (u2:= .int (i.fmod bi)) hx hy (λH₀=>ma (.cons rfl (bY hi.2 u) (.cons rfl (r8 (bY hi.1 B) (bY hi.2 u) (yj (by unfold binI;rw[F];rfl))) .nil)) (WA rfl)) rfl I) vq);exact⟨by rw[dP,Vi rfl],by rw[dP,Vk (Ne.symm H),dP,Vi rfl]⟩
 . rintro DA ⟨i,hg,hi⟩ aj ae T s S oc;refine wpAny_execs_cons (wpAny_Return_some (Vj (df (J _ _) (.a rfl (bY hi.1 B) .nil) AF T s S.w S.f) (λv Z⟨Q,U,W,r3⟩=>?_) λ_ _ z=>z));refine af (S.kp U W) λX Y=>?_;have e:(if i<0 then-i else i)=(Int.gcd a b:Int):=by
    rw[<-hg,Int.gcd_zero];exact QY i
   exact⟨v,Q,rfl,X.weak (λx e h=>nomatch h),Y,e▸r3⟩
end
structure LI(c:Cx)(C:Addr)(tb:Value)(f:Addr):Prop where
 eq:Dy c C tb f
 ne:findIn c.K (.ref C) "__ne__"=some (some (.builtin "object.__ne__"))
 plain:plainOver c.K C=true
section
variable{c:Cx}{env:Env}{A:Around}{H₀:Heap}{σ:ah}
theorem tV{M:Model}{s:Shared}{x C:Addr}{ox od}{f:List Value}{Q:Option Value->Shared->Prop}{E}{K:Frag}(X:K.In s.heap)(I:InstAt s.heap x ox C od)(i:findIn K (.ref C) "__ne__"=some (some (.builtin "object.__ne__")))
 (h:wpAny M A (call (.builtin "object.__ne__") (.ref x::f)) (λv=>Q (some v)) E s):wpAny M A (callSpecialIfBound? (.ref x) "__ne__" f) Q E s:=by
 unfold callSpecialIfBound? bindSpecialIfBound?;refine VI (Vh (Vh (Vh (I.type.here ((looks_findIn X i).here ?_)))));refine Vh (wpAny_askSetting (wpAny_ite ?_));have g8:wpAny M A (call (.builtin "object.__ne__") ([.ref x]++f)>>=λv=>pure (some v)) Q E s:=Vh (Vj h (λv s' h'=>Vz h') λ_ _ h'=>h');have hb:bindSpecial (.builtin "object.__ne__") (.ref x)=pure (.builtin "object.__ne__",[.ref x]):=PySem.F.cmp_object.ne.bind _;refine Jz (λ_=>?_) λ_=>?_
 . rw[hb];exact Vh (Vz (Vz (by exact g8)))
 . rw[hb];exact wpAny_tryCatch (Vh (Vz (Vz (by exact g8))))
theorem Da{s:Shared}{x C f:Addr}{ox od}{v:Value}{Q:Value->Shared->Prop}{E}{K:Frag}(X:K.In s.heap)(I:InstAt s.heap x ox C od)(z:plainOver K C=true)(he:findIn K (.ref C) "__eq__"=some (some (.ref f)))(hf:isFn K (.ref f)=true)(B:A.units+1<cLine)
 (G:wpAny c.M A.in1 (call (.ref f) [.ref x,v]) (λr s'=>∃b,r= .bool b/\Q (.bool (!b)) s') E s):wpAny c.M A (call (.builtin "object.__ne__") [.ref x,v]) Q E s:=by
 refine ab (any_some z) λu H i=>?_;have ne:u.mro.isEmpty=false:=by induction q:u.mro using List.casesOn with|nil=>rw[q]at i;injection i|cons _ _=>rfl
 have sub:Looks c.M s.heap (isInstance (.ref x) (.type "object")) true:=I.type.andThen (looks_mroIn X (by unfold mroIn;rw[H,Vl,Vk (by rw[ne];decide),only_has i]));refine wpAny_call (codeAny_call_builtin PySem.F.cmp_object.ne.plain PySem.F.cmpEntry_ne (@check_slot c.M _ _ s "object.__ne__" "object" "__ne__" (.ref x) [v] [] _ PySem.F.cmpKind_ne PySem.F.cmpSplit_ne sub (PySem.F.cmpArgs_ne _ _) ?_));unfold Builtin.«object.__ne__»;refine Vh (Vz ?_);refine Vh (wpAny_cRoomFor (by rw[Around.in1_units];exact B) ?_);refine Vh (ifBound_K X I he hf (Vj G (λr s' hr=>?_) λ_ _ e=>e));refine ab hr λb J N=>?_;clear hr;subst J;exact Vh (wpAny_truthy_bool (Vz N))
theorem K8(O:aM c){C fl y f b k}(X:LI c C (iW y) f)(J:dz c f [.obj C fl,y] [] (.bool b) k)(R:bq A k):sQ c A .NotEq (.obj C fl) y (!b):=λT s u v w G H=>by
 obtain⟨a,d,m,Q,n,rfl,I⟩:=il w G;have i:=w.gh O;have one:wpAny c.M A (tryCompare (.ref a) (cmpInfo .NotEq).2.1 v) (λr s'=>∃v,r=some v/\Got c T s (.bool (!b)) v s') cg s:=by unfold tryCompare;refine Vh (tV i I.inst X.ne (Da i I.inst X.plain X.eq.find X.eq.fn R.r.Jj (Vj (J.run (R.r.in1 (by have:=R.u;lia)) w (.cons G (.cons H .nil)) .nil) (λz s' q=>?_) λ_ _ z=>z)));obtain⟨T',ex,N,P⟩:=q;obtain rfl:=P.inv;exact ag b rfl (Vz ⟨_,rfl,T',ex,N,.bool _⟩)
 show wpAny _ _ (richCompare .NotEq (.ref a) v) _ _ _;unfold richCompare;dsimp only[oneThing_ref];refine VI (Vh (wpAny_cRoomFor R.r.line ?_));refine Vh (I.inst.type.here (Vh ((xx w H).here (wpAny_ite_split (λq=>?_) λ_=>?_))))
 . have e:subIn c.K (iW y) (.ref C)=some false:=by
    refine Or.elim (WF.mp X.eq.notFirst) (λe=>?_) λe=>?_
    . rw[beq_iff_eq.mp e]at q;simp at q
    . exact beq_iff_eq.mp e
   refine Vh ((looks_subIn i e).here ?_);simp only[WD,if_false];refine Vh (Vj one (λr s' z=>?_) λ_ _ e=>e);refine ab z λv B F=>?_;clear z;subst B;exact Vz F
 . refine Vh (Vz ?_);simp only[WD,if_false];refine Vh (Vj one (λr s' z=>?_) λ_ _ e=>e);refine ab z λv B F=>?_;clear z;subst B;exact Vz F
end
structure Tb where
 glob:Str->Option Value
 bi:Str->Option Value
 cls:Addr->Bool
 cZ:Addr->Str->Option Addr
 prop:Addr->Str->Option Addr
 wf:Addr->Str->Option Addr
 op:Addr->Operator->Value->Option Addr
 eq:Addr->Value->Option Addr
 neg:Addr->Option Addr
 isin:Value->Value->Option Bool
 eJ:Value->List Value->Option Bool
structure Cb where
 call:Addr->List AV->List (Str×AV)->Option AV
 make:Addr->List AV->Option (List (Str×AV))
 stmt:List (Str×NameKind)->ah->Stmt->Option ah
structure eZ where
 ev:{R:Type}->ah->Expr->(AV->Option R)->Option R
 tr:{R:Type}->ah->Expr->(Bool->Option R)->Option R
noncomputable abbrev dM:=List (Str×NameKind)
noncomputable def Af(x:Str):Bool:=x==("__debug__":Str)
structure VA where
 i:Option Int
 s:Option Str
 l:Option (List AV)
 t:Option (List AV)
 d:Option (List (Str×AV))
noncomputable def vA:AV->VA
 | .int i=>⟨some i,none,none,none,none⟩
 | .str s=>⟨none,some s,none,none,none⟩
 | .list l=>⟨none,none,some l,none,none⟩
 | .tup t=>⟨none,none,none,some t,none⟩
 | .dict d=>⟨none,none,none,none,some d⟩
 |_=>⟨none,none,none,none,none⟩
noncomputable def d8{R:Type}(v:AV)(k:Int->Option R):Option R:=(vA v).i.bind k
noncomputable def b8{R:Type}(v:AV)(k:Str->Option R):Option R:=(vA v).s.bind k
noncomputable def uR{R:Type}(v:AV)(k:List AV->Option R):Option R:=(vA v).t.bind k
noncomputable def d7{R:Type}(v:AV)(k:List AV->Option R):Option R:=(vA v).l.bind k
noncomputable def yo{R:Type}(v:AV)(k:List (Str×AV)->Option R):Option R:=(vA v).d.bind k
noncomputable def Ue(e:EV):Option (List AV):=match e with
 | .ol xs=>some xs
 | .fz y=>(vA y).l
 |_=>none
noncomputable def Uf(e:EV):Option (List (Str×AV)):=match e with
 | .od xs=>some xs
 | .fz y=>(vA y).d
 |_=>none
noncomputable def tE{R:Type}(xs:List AV)(k:List AV->Option R):Option R:=(one xs).bind λx=>d7 x k
noncomputable def QN(σ:ah)(x:Str):Option (List AV):=if Af x then none else(σ.lookup x).bind Ue
noncomputable def Nl(σ:ah)(x:Str):Option (List (Str×AV)):=if Af x then none else(σ.lookup x).bind Uf
noncomputable def yR{R:Type}(C:eZ)(σ:ah)(e:Expr)(k:List AV->Option R):Option R:=match iI e with
 |some p=>(QN σ p.1).bind k
 |none=>C.ev σ e λv=>d7 v k
noncomputable def Hb{R:Type}(C:eZ)(σ:ah)(e:Expr)(k:List (Str×AV)->Option R):Option R:=match iI e with
 |some p=>(Nl σ p.1).bind k
 |none=>C.ev σ e λv=>yo v k
noncomputable def wS(σ:ah)(e:Expr):Option (List (Str×AV)):=(iI e).bind λp=>Nl σ p.1
noncomputable def lZ{R:Type}(f:Expr->(AV->Option R)->Option R):List Expr->(List AV->Option R)->Option R
 |[],k=>k []
 |e::es,k=>if isStarred e then none else f e λx=>lZ f es λxs=>k (x::xs)
noncomputable def QJ(op:Operator)(x y:AV):Option AV:=match x with
 | .int a=>d8 y λb=>binI op a b
 | .str a=>b8 y λb=>if op= .Add/\a.length+b.length<=1000000 then some (.str (a++b))else none
 | .list a=>d7 y λb=>if op= .Add/\a.length+b.length<=1000 then some (.list (a++b))else none
 |_=>none
noncomputable def IT(tb:Tb)(cb:Cb)(op:Operator)(x y:AV):Option AV:=match x with
 | .obj C fl=>(match tb.op C op (iW y)with
   |some f=>cb.call f [.obj C fl,y] []
   |none=>none)
 |x=>QJ op x y
noncomputable def EG:AV->Option Bool
 | .bool b=>some b
 |_=>none
noncomputable def RG(op:CmpOp)(r:Option AV):Option Bool:=match op with
 | .Eq=>r.bind EG
 | .NotEq=>(r.bind EG).map (!·)
 |_=>none
noncomputable def inR(op:CmpOp)(r:Option Bool):Option Bool:=match op with
 | .In=>r
 | .NotIn=>r.map (!·)
 |_=>none
noncomputable def Hi(tb:Tb)(cb:Cb)(op:CmpOp)(x y:AV):Option Bool:=match x with
 | .int a=>(match(vA y).i with
   |some b=>Hj op a b
   |none=>d7 y λxs=>inR op ((gD xs).map λns=>ns.any (· ==a)))
 | .str a=>(match(vA y).s with
   |some b=>if op= .Eq then some (a==b)else none
   |none=>d7 y λxs=>inR op ((fq xs).map λns=>ns.any (· ==a)))
 | .obj C fl=>(match tb.eq C (iW y)with
   |some f=>RG op (cb.call f [.obj C fl,y] [])
   |none=>none)
 |_=>none
noncomputable def Hh(tb:Tb)(cb:Cb)(op:CmpOp)(x y:AV):Option Bool:=match op with
 | .Is=>if isNone y then some (isNone x)else none
 | .IsNot=>if isNone y then some (!isNone x)else none
 |op=>Hi tb cb op x y
noncomputable def Ag:Const->Option AV
 | .none=>some .none
 | .bool b=>some (.bool b)
 | .int i=>some (.int i)
 | .str s=>some (.str s)
 |_=>none
noncomputable def sC(tb:Tb)(cb:Cb)(nm:Str):AV->Option AV
 | .obj C fl=>if tb.cls C then(if az.contains nm then fl.lookup nm else(match tb.prop C nm with|some f=>cb.call f [.obj C fl] []|none=>none))else none
 |_=>none
noncomputable def Ca(tb:Tb)(cb:Cb):AV->Option AV
 | .int a=>some (.int (-a))
 | .obj C fl=>(match tb.neg C with|some f=>cb.call f [.obj C fl] []|none=>none)
 |_=>none
noncomputable def fF(xs:List AV):Option AV:=if xs.length<=1000 then some (AV.int xs.length)else none
noncomputable def j4(ns names:dM):dM:=names.map λ(n,k)=>if(k== .free&&ns.lookup n==some .cell)then(n,.cell)else(n,k)
noncomputable def Oi:EV->Bool
 | .fz _=>true
 |_=>false
noncomputable def H9(σ:ah)(n:Str):Bool:=(σ.lookup n).any Oi
noncomputable def wi(σ:ah):dM->ah
 |[]=>[]
 |(n,k)::r=>if k== .free&&H9 σ n then(n,(σ.lookup n).getD (.fz .none))::wi σ r else wi σ r
noncomputable def xZ(ns:dM)(σ:ah)(scope:Scope):Bool:=scope.kind== .function&&scope.names.all λx=>x.2 != .cell&&scope.names.lookup x.1==some x.2&&
 (x.2 != .free||(H9 σ x.1&&(ns.lookup x.1==some .cell||ns.lookup x.1==some .free)&&x.1 !=("__classdict__":Str)))
noncomputable def o7(e:Expr):Bool:=(vE e).set
noncomputable def u9{R:Type}(v:AV)(k:List (List AV)->Option R):Option R:=match v with
 | .list xs=>k (xs.map λy=>[y])
 | .dict l=>k (l.map λy=>[.str y.1])
 |_=>none
noncomputable def yd(n:Int):Option (List (List AV)):=if 0<=n/\n<=1000 then some ((List.range n.toNat).map λ(i:Nat)=>[.int i])else none
noncomputable def pK(tb:Tb)(ns:dM)(v:Value)(e:Expr):Option (List Expr):=(vE e).call.bind λq=>(iI q.1).bind λp=>if ns.lookup p.1==some .globalImplicit&&tb.bi p.1==some v&&q.2.2.1.isEmpty&&q.2.1.all λa=> !isStarred a then some q.2.1 else none
noncomputable def za(e:Expr):Option Expr:=(vE e).call.bind λq=>(vE q.1).HJ.bind λa=>if a.2.1==("items":Str)&&bk a.1&&a.2.2.endLine==q.2.2.2.line&&q.2.1.isEmpty&&q.2.2.1.isEmpty then some a.1 else none
noncomputable def tU{R:Type}(tb:Tb)(ns:dM)(C:eZ)(σ:ah)(e:Expr)(k:List (List AV)->Option R):Option R:=
 match(pK tb ns (.type "range") e).bind one with
 |some a=>C.ev σ a λv=>d8 v λn=>(yd n).bind k
 |none=>C.ev σ e λv=>u9 v k
noncomputable def tT{R:Type}(tb:Tb)(ns:dM)(C:eZ)(σ:ah)(e:Expr)(k:List (List AV)->Option R):Option R:=
 match za e with
 |some o=>C.ev σ o λv=>yo v λl=>k (l.map λz=>[.str z.1,z.2])
 |none=>((pK tb ns (.type "zip") e).bind two).bind λp=>C.ev σ p.1 λx=>C.ev σ p.2 λy=>d7 x λxs=>d7 y λys=>k (qR xs ys)
noncomputable def rM{R:Type}(tb:Tb)(ns:dM)(C:eZ)(σ:ah)(e tg:Expr)(k:List (List AV)->Option R):Option R:=match(vE tg).tup with
 |some ts=>(two ts.1).bind λp=>(iI p.1).bind λ_=>(iI p.2).bind λ_=>tT tb ns C σ e k
 |none=>(iI tg).bind λ_=>tU tb ns C σ e k
noncomputable def aE(step:ah->List AV->Acc->Option (ah×Acc)):List (List AV)->ah->Acc->Option (ah×Acc)
 |[],σ,a=>some (σ,a)
 |row::rows,σ,a=>(step σ row a).bind λp=>aE step rows p.1 p.2
noncomputable def Ip{R:Type}(C:eZ)(σ:ah)(l:List Expr)(k:Bool->Option R):Option R:=match l with
 |[]=>k true
 |t::l=>if l.isEmpty then C.tr σ t k else none
noncomputable def EA{R:Type}(C:eZ)(σ:ah)(e:Expr)(a:Acc)(k:Acc->Option R):Option R:=match e with
 | .ListComp elt _ _ _=>(match a with| .l xs=>if xs.length<=1000 then C.ev σ elt λx=>k (.l (xs++[x]))else none| .d _=>none)
 | .DictComp ke v _ _ _=>(match a with| .d l=>if l.length<=1000 then C.ev σ ke λkx=>C.ev σ v λx=>b8 kx λkx=>k (.d (bI l kx x))else none| .l _=>none)
 |_=>none
noncomputable def Ji(ns:dM)(xs:List Str):Bool:=xs.all λx=>ns.lookup x==some .local
noncomputable def m8(tb:Tb)(ns:dM)(C:eZ)(e:Expr):Nat->Nat->ah->List AV->Acc->Option (ah×Acc)
 |0,_,_,_,_=>none
 |m+1,d,σ,row,a=>match(clausesOf e)[d]? with
  |some ⟨tg,iter,ifs,Lv⟩=>if Lv==0 then
   Ip C (aX σ (aJ tg) row) ifs λq=>if q=true then(match(clausesOf e)[d+1]? with
    |none=>EA C (aX σ (aJ tg) row) e a λa1=>some (aX σ (aJ tg) row,a1)
    |some ⟨DC,lL,Gp,Lu⟩=>if Lu==0&& !o7 lL&&Ji ns (aJ DC)then
     rM tb ns C (aX σ (aJ tg) row) lL DC λrk=>aE (m8 tb ns C e m (d+1)) rk (aX σ (aJ tg) row) a
     else none)else some (aX σ (aJ tg) row,a)
   else none
  |none=>none
noncomputable def nM{R:Type}(tb:Tb)(Ef:dM->eZ)(ns:dM)(σ:ah)(e:Expr)(scope:Scope)(a0:Acc)(k:Acc->Option R):Option R:=
 match clausesOf e with
 |⟨tg,iter,ifs,Lv⟩::gs=>if Lv==0&& !o7 iter&&xZ ns σ scope&&(aJ tg).all (λx=>scope.names.lookup x==some .local)then
  rM tb ns (Ef ns) σ iter tg λrows=>(aE (m8 tb (j4 ns scope.names) (Ef (j4 ns scope.names)) e 4 0) rows (wi σ scope.names) a0).bind λp=>k p.2
  else none
 |[]=>none
noncomputable def gO:Acc->Option (List AV)
 | .l xs=>some xs
 | .d _=>none
noncomputable def Du:Acc->Option (List (Str×AV))
 | .l _=>none
 | .d xs=>some xs
noncomputable def Hn(tb:Tb)(ns:dM)(e:Expr):Option Value:=(iI e).bind λp=>if ns.lookup p.1==some .globalImplicit then(match tb.glob p.1 with|some v=>some v|none=>tb.bi p.1)else none
noncomputable def Ak(tb:Tb)(ns:dM):List Expr->Option (List Value)
 |[]=>some []
 |e::es=>if isStarred e then none else(Hn tb ns e).bind λv=>(Ak tb ns es).bind λvs=>some (v::vs)
noncomputable def Il:Value->Option String
 | .builtin s=>some s
 |_=>none
theorem Bj{v:Value}{a}(h:Il v=some a):v= .builtin a:=by induction v using Value.casesOn<;>first|exact ad h|exact Vx Value.builtin (Option.some.inj h)
theorem zb{c:Prop}[Decidable c]{β:Type}{a b:Option β}{r:β}{Q:Prop}(h:(if c then a else b)=some r)(f:c->a=some r->Q)(i:b=some r->Q):Q:=
 if q:c then f q ((Vi q).symm.trans h)else i ((Vk q).symm.trans h)
noncomputable def sB(bi:Value)(xs:List AV):Option AV:=(Il bi).bind λs=>
 if s="abs" then(one xs).bind λx=>d8 x λa=>some (.int (if a<0 then-a else a))else
 if s="max" then(two xs).bind λp=>d8 p.1 λa=>d8 p.2 λb=>some (.int (if b>a then b else a))else
 if s="min" then(two xs).bind λp=>d8 p.1 λa=>d8 p.2 λb=>some (.int (if b<a then b else a))else
 if s="sum" then(one xs).bind λx=>d7 x λxs=>(gD xs).map λns=> .int ns.sum else
 if s="sorted" then(one xs).bind λx=>d7 x λxs=>if xs.length<64 then(fq xs).map λns=> .list ((dn ns).map .str)else none else none
noncomputable def MM{R:Type}(C:eZ)(σ:ah)(args:List Expr)(k:AV->Option R):Option R:=
 (one args).bind λe=>if isStarred e then none else C.ev σ e λx=>d8 x λi=>if Sm i then k (.str (Str.ofString (toString i)))else none
noncomputable def JC{R:Type}(tb:Tb)(ns:dM)(C:eZ)(σ:ah)(args:List Expr)(k:AV->Option R):Option R:=
 (two args).bind λp=>if isStarred p.1||isStarred p.2 then none else C.ev σ p.1 λx=>(match(vE p.2).tup with
  |some es=>(Ak tb ns es.1).bind λsZ=>if sZ.length<=1000 then(tb.eJ (iW x) sZ).bind λb=>k (.bool b)else none
  |none=>(Hn tb ns p.2).bind λcv=>(tb.isin (iW x) cv).bind λb=>k (.bool b))
noncomputable def NQ{R:Type}(C:eZ)(σ:ah)(args:List Expr)(k:AV->Option R):Option R:=
 (one args).bind λe=>if isStarred e then none else yR C σ e λxs=>(fF xs).bind k
noncomputable def P3{R:Type}(tb:Tb)(ns:dM)(C:eZ)(σ:ah)(id:Str)(v:Value)(args:List Expr)(k:AV->Option R):Option R:=
 if v== .type "str" then MM C σ args k
 else if v== .builtin "isinstance" then(if id==("isinstance":Str)then JC tb ns C σ args k else none)
 else if v== .builtin "len" then(if id==("len":Str)then NQ C σ args k else none)
 else lZ (C.ev σ) args λxs=>(sB v xs).bind k
noncomputable def BQ:Value->Option Addr
 | .ref a=>some a
 |_=>none
noncomputable def ED{R:Type}(tb:Tb)(cb:Cb)(ns:dM)(C:eZ)(σ:ah)(id:Str)(args:List Expr)(k:AV->Option R):Option R:=
 if ns.lookup id==some .globalImplicit then
  match tb.glob id with
  |some v=>(BQ v).bind λf=>lZ (C.ev σ) args λxs=>if tb.cls f then(cb.make f xs).bind λfl=>k (.obj f fl)else(cb.call f xs []).bind k
  |none=>(tb.bi id).bind λv=>P3 tb ns C σ id v args k
 else none
noncomputable def Kj{R:Type}(C:eZ)(σ:ah)(l:List (Str×AV))(nm:Str)(args:List Expr)(cB:List Keyword)(k:AV->Option R):Option R:=
 if nm==("get":Str)&&cB.isEmpty then lZ (C.ev σ) args λxs=>(two xs).bind λp=>b8 p.1 λx=>k ((fe l x).getD p.2)else none
noncomputable def xR(tb:Tb)(ns:dM)(o:Expr)(nm:Str):Option (Option Addr):=(iI o).bind λp=>if ns.lookup p.1==some .globalImplicit then some ((tb.glob p.1).bind λv=>(BQ v).bind λC=>tb.wf C nm)else none
noncomputable def yn{R:Type}(tb:Tb)(nm:Str)(v:AV)(k:Addr->AV->Option R):Option R:=match v with
 | .obj Cl fl=>(tb.cZ Cl nm).bind λf=>k f (.obj Cl fl)
 |_=>none
noncomputable def QS{R:Type}(cb:Cb)(C:eZ)(σ:ah)(f:Addr)(v:AV)(xs:List AV)(cB:List Keyword)(k:AV->Option R):Option R:=match cB with
 |[]=>(cb.call f (v::xs) []).bind k
 |⟨n,ke,_⟩::r=>if r.isEmpty then n.bind λkn=>C.ev σ ke λy=>(cb.call f (v::xs) [(kn,y)]).bind k else none
noncomputable def DG{R:Type}(cb:Cb)(C:eZ)(σ:ah)(f:Addr)(args:List Expr)(cB:List Keyword)(k:AV->Option R):Option R:=
 if cB.isEmpty then lZ (C.ev σ) args λxs=>(cb.call f xs []).bind k else none
noncomputable def D7{R:Type}(C:eZ)(σ:ah)(o:Expr)(args:List Expr)(cB:List Keyword)(k:AV->Option R):Option R:=
 C.ev σ o λv=>b8 v λsep=>if cB.isEmpty then lZ (C.ev σ) args λxs=>tE xs λxs=>(fq xs).bind λns=>if sep.length<=64/\(ns.map (·.length)).sum+ns.length*64<=16777216 then k (.str (Txt.join sep ns))else none else none
noncomputable def Nj{R:Type}(tb:Tb)(cb:Cb)(C:eZ)(σ:ah)(o:Expr)(nm:Str)(args:List Expr)(cB:List Keyword)(k:AV->Option R):Option R:=
 C.ev σ o λv=>yn tb nm v λf v=>lZ (C.ev σ) args λxs=>QS cb C σ f v xs cB k
noncomputable def yJ{R:Type}(tb:Tb)(cb:Cb)(ns:dM)(C:eZ)(σ:ah)(o:Expr)(nm:Str)(args:List Expr)(cB:List Keyword)(k:AV->Option R):Option R:=
 match xR tb ns o nm with
 |some f=>f.bind λf=>DG cb C σ f args cB k
 |none=>if !bk o then none else
  match wS σ o with
  |some l=>Kj C σ l nm args cB k
  |none=>if nm==("join":Str)then D7 C σ o args cB k else Nj tb cb C σ o nm args cB k
noncomputable def Hg{R:Type}(tb:Tb)(cb:Cb)(C:eZ)(σ:ah)(l:Expr)(ops:List CmpOp)(rs:List Expr)(k:Bool->Option R):Option R:=
 (one ops).bind λop=>(one rs).bind λr=>if behindInMarks op r then none else C.ev σ l λx=>match(if op== .In||op== .NotIn then wS σ r else none)with
  |some d=>b8 x λs=>k (if op= .In then(fe d s).isSome else !(fe d s).isSome)
  |none=>C.ev σ r λy=>(Hh tb cb op x y).bind k
noncomputable def DT{R:Type}(σ:ah)(x:Str)(k:AV->Option R):Option R:=if Af x then none else match σ.lookup x with
 |some e=>(match e with
  | .fz y=>k y
  | .self _ C fl=>k (.obj C fl)
  |_=>none)
 |none=>none
noncomputable def tz(e:Expr):Option Int:=(vE e).MO.bind λq=>if q.1.isNone&&q.2.2.1.isNone then q.2.1.bind λe=>(vE e).cst.bind λq=>He q.1 else none
noncomputable def Fj{R:Type}(C:eZ)(σ:ah)(o i:Expr)(k:AV->Option R):Option R:=match tz i with
 |some j=>if 0<=j then yR C σ o λxs=>if xs.length<=1000 then k (.list (xs.take j.toNat))else none else none
 |none=>C.ev σ i λiv=>match(vA iv).i with
  |some j=>yR C σ o λxs=>(bc xs j).bind k
  |none=>b8 iv λj=>Hb C σ o λl=>(fe l j).bind k
noncomputable def EB{R:Type}(C:eZ)(σ:ah)(ks:List (Option Expr))(vs:List Expr)(k:AV->Option R):Option R:=match ks with
 |[]=>if vs.isEmpty then k (.dict [])else none
 |ke::ks=>if ks.isEmpty then ke.bind λke=>(one vs).bind λv=>C.ev σ ke λkx=>C.ev σ v λx=>b8 kx λkx=>k (.dict [(kx,x)])else none
noncomputable def Aq{R:Type}(tb:Tb)(cb:Cb)(ns:dM)(C:eZ)(σ:ah)(f:Expr)(args:List Expr)(cB:List Keyword)(pos:Pos)(k:AV->Option R):Option R:=match iI f with
 |some p=>if cB.isEmpty then ED tb cb ns C σ p.1 args k else none
 |none=>(vE f).HJ.bind λa=>if a.2.2.endLine==pos.line&&args.length<20 then yJ tb cb ns C σ a.1 a.2.1 args cB k else none
noncomputable def RF{R:Type}(tb:Tb)(cb:Cb)(Ef:dM->eZ)(ns:dM)(σ:ah)(e:Expr)(k:AV->Option R):Option R:=match e with
 | .Constant c _ _=>(Ag c).bind k
 | .Name x _=>DT σ x k
 | .IfExp t b o _=>(Ef ns).tr σ t λq=>if q=true then(Ef ns).ev σ b k else(Ef ns).ev σ o k
 | .BinOp l op r _=>(Ef ns).ev σ l λx=>(Ef ns).ev σ r λy=>(IT tb cb op x y).bind k
 | .UnaryOp op x _=>(match op with
   | .USub=>(Ef ns).ev σ x λv=>(Ca tb cb v).bind k
   |_=>none)
 | .Compare l ops rs _=>Hg tb cb (Ef ns) σ l ops rs λb=>k (.bool b)
 | .Tuple es _ _=>lZ ((Ef ns).ev σ) es λxs=>if xs.length<=1000 then k (.tup xs)else none
 | .List es _=>lZ ((Ef ns).ev σ) es λxs=>if xs.length<=1000 then k (.list xs)else none
 | .Attribute o nm _=>if !bk o then none else(Ef ns).ev σ o λv=>(sC tb cb nm v).bind k
 | .Subscript o i _=>Fj (Ef ns) σ o i k
 | .Call f args cB pos=>Aq tb cb ns (Ef ns) σ f args cB pos k
 | .ListComp elt gens scope p=>nM tb Ef ns σ (.ListComp elt gens scope p) scope (.l []) λa=>(gO a).bind λxs=>k (.list xs)
 | .DictComp ke v gens scope p=>nM tb Ef ns σ (.DictComp ke v gens scope p) scope (.d []) λa=>(Du a).bind λxs=>k (.dict xs)
 | .Dict ks vs _=>EB (Ef ns) σ ks vs k
 |_=>none
noncomputable def HK{R:Type}(f:Expr->(Bool->Option R)->Option R):List Expr->(Bool->Option R)->Option R
 |[],k=>k true
 |e::es,k=>f e λb=>if b=true then HK f es k else k false
noncomputable def Nc{R:Type}(f:Expr->(Bool->Option R)->Option R):List Expr->(Bool->Option R)->Option R
 |[],k=>k false
 |e::es,k=>f e λb=>if b=true then k true else Nc f es k
noncomputable def Qv{R:Type}(tb:Tb)(cb:Cb)(Ef:dM->eZ)(ns:dM)(σ:ah)(e:Expr)(k:Bool->Option R):Option R:=match e with
 | .UnaryOp op x _=>(match op with
   | .Not=>(Ef ns).tr σ x λb=>k (!b)
   |_=>none)
 | .BoolOp op es _=>(match op with
   | .And=>HK ((Ef ns).tr σ) es k
   | .Or=>Nc ((Ef ns).tr σ) es k)
 | .IfExp t b o _=>(Ef ns).tr σ t λq=>if q=true then(Ef ns).tr σ b k else(Ef ns).tr σ o k
 | .Compare l ops rs _=>Hg tb cb (Ef ns) σ l ops rs k
 |e=>if(vE e).plain then(Ef ns).ev σ e λx=>(ib x).bind k else none
noncomputable def kA(tb:Tb)(cb:Cb):Nat->dM->eZ
 |0,_=>⟨λ_ _ _=>none,λ_ _ _=>none⟩
 |n+1,ns=>⟨RF tb cb (kA tb cb n) ns,Qv tb cb (kA tb cb n) ns⟩
noncomputable abbrev Ug(tb:Tb)(cb:Cb)(ns:dM)(n:Nat){R:Type}:ah->Expr->(AV->Option R)->Option R:=(kA tb cb n ns).ev
set_option tactic.hygienic true
structure c8(c:Cx)(tb:Tb):Prop where
 glob:∀x v,tb.glob x=some v->nsIn c.K mainGlobals x=some (some v)/\Af x=false
 keep:∀x a,tb.glob x=some (.ref a)->keepIn c.K (.ref a)=true
 bi:∀x v,tb.bi x=some v->nsIn c.K mainGlobals x=some none/\bootBuiltins x=some v/\x≠"__name__"/\Af x=false
 cls:∀C,tb.cls C=true->f0 c.K C
 cZ:∀C nm f,tb.cZ C nm=some f->f0 c.K C/\jN c.K C nm=some f/\az.contains nm=false/\nm≠aB/\keepIn c.K (.ref f)=true
 prop:∀C nm f,tb.prop C nm=some f->∃p,ur c.K C nm p f
 wf:∀C nm f,tb.wf C nm=some f->specialIn c.K (.ref C) "__getattribute__"=some (some (.builtin "type.__getattribute__"))/\mA c C f nm/\keepIn c.K (.ref f)=true
 op:∀C o tv f,tb.op C o tv=some f->HN c C o tv f
 eq:∀C tv f,tb.eq C tv=some f->Dy c C tv f
 ne:∀C tv f,tb.eq C tv=some f->LI c C tv f
 neg:∀C f,tb.neg C=some f->findIn c.K (.ref C) "__neg__"=some (some (.ref f))/\isFn c.K (.ref f)=true
 isin:∀tv cv b,tb.isin tv cv=some b->kitOne c.K tv cv=some b/\∀C,tv= .ref C->kr c.K C
 eJ:∀tv sZ b,tb.eJ tv sZ=some b->kitAny c.K tv sZ=some b/\∀C,tv= .ref C->kr c.K C
 Jx:LJ c.K
structure eU(c:Cx)(tb:Tb)(cb:Cb)(k:Nat):Prop where
 call:∀f xs kx r,cb.call f xs kx=some r->dz c f xs kx r k
 make:∀C xs fl,cb.make C xs=some fl->∃f j,iS c.K C f/\sL c C f xs fl j/\j+1<=k
noncomputable def my(c:Cx)(env:Env)(A:Around)(σ:ah)(e:Expr)(x:AV):Prop:=∀H₀,bQ c env A H₀ σ e x
noncomputable def Mo(c:Cx)(env:Env)(A:Around)(σ:ah)(e:Expr)(x:Bool):Prop:=∀H₀,iU c env A H₀ σ e x
structure HE(c:Cx)(env:Env)(A:Around)(C:eZ):Prop where
 ev:∀{R:Type}{σ e}{k:AV->Option R}{r},C.ev σ e k=some r->∃x,my c env A σ e x/\k x=some r
 tr:∀{R:Type}{σ e}{k:Bool->Option R}{r},C.tr σ e k=some r->∃x,Mo c env A σ e x/\k x=some r
noncomputable def xd(c:Cx)(k:Nat)(Ef:dM->eZ):Prop:=∀env A,env.scope.kind= .function->bq A k->HE c env A (Ef env.scope.names)
theorem xW{e j}(h:tz e=some j):∃p x q,e= .Slice none (some (.Constant (.int j) x q)) none p:=by refine ar h λb h1 h=>?_;refine bD h λq h=>?_;refine bK q λq1 q2=>?_;refine ar h λd h2 h=>?_;refine ar h λt i h=>?_;have f:=Fp h1;rw[Option.isNone_iff_eq_none.mp q1,Option.isNone_iff_eq_none.mp q2,h2,Hd i,C6 h]at f;exact PQ _ _ _ f
section
variable{R:Type}{v:AV}{r:R}
theorem uk{i}(h:(vA v).i=some i):v= .int i:=by
 have:(match(vA v).i with|some j=> .int j|none=>v)=v:=by induction v using AV.casesOn<;>rfl
 rw[h]at this;exact this.symm
theorem AH{i}(h:(vA v).s=some i):v= .str i:=by
 have:(match(vA v).s with|some j=> .str j|none=>v)=v:=by induction v using AV.casesOn<;>rfl
 rw[h]at this;exact this.symm
theorem AI{i}(h:(vA v).l=some i):v= .list i:=by
 have:(match(vA v).l with|some j=> .list j|none=>v)=v:=by induction v using AV.casesOn<;>rfl
 rw[h]at this;exact this.symm
theorem HI{i}(h:(vA v).t=some i):v= .tup i:=by
 have:(match(vA v).t with|some j=> .tup j|none=>v)=v:=by induction v using AV.casesOn<;>rfl
 rw[h]at this;exact this.symm
theorem AJ{i}(h:(vA v).d=some i):v= .dict i:=by
 have:(match(vA v).d with|some j=> .dict j|none=>v)=v:=by induction v using AV.casesOn<;>rfl
 rw[h]at this;exact this.symm
theorem ul{i}(h:EG v=some i):v= .bool i:=by
 have:(match EG v with|some j=> .bool j|none=>v)=v:=by induction v using AV.casesOn<;>rfl
 rw[h]at this;exact this.symm
theorem bX{k:Int->Option R}(h:d8 v k=some r):∃i,v= .int i/\k i=some r:=let⟨i,h1,h⟩:=bL h;⟨i,uk h1,h⟩
theorem dr{k:Str->Option R}(h:b8 v k=some r):∃i,v= .str i/\k i=some r:=let⟨i,h1,h⟩:=bL h;⟨i,AH h1,h⟩
theorem cY{k:List AV->Option R}(h:d7 v k=some r):∃i,v= .list i/\k i=some r:=let⟨i,h1,h⟩:=bL h;⟨i,AI h1,h⟩
theorem yl{k:List AV->Option R}(h:uR v k=some r):∃i,v= .tup i/\k i=some r:=let⟨i,h1,h⟩:=bL h;⟨i,HI h1,h⟩
theorem rB{k:List (Str×AV)->Option R}(h:yo v k=some r):∃i,v= .dict i/\k i=some r:=let⟨i,h1,h⟩:=bL h;⟨i,AJ h1,h⟩
theorem wn{xs:List AV}{k:List AV->Option R}(h:tE xs k=some r):∃i,xs=[.list i]/\k i=some r:=by refine ar h λx h1 h=>?_;refine ab (cY h) λi h2 h=>?_;exact ag i (h2▸de h1) h
end
section
variable{c:Cx}{tb:Tb}{cb:Cb}{k:Nat}{env:Env}{A:Around}{σ:ah}{C:eZ}{Ef:dM->eZ}
theorem dJ(h:HE c env A C){R:Type}{r:R}:∀{f k},lZ (C.ev σ) f k=some r->∃xs,(∀H₀,dT c env A H₀ σ f xs)/\k xs=some r
 |[],k,e=>⟨_,λ_=> .nil,e⟩
 |a::f,k,e=>by refine af (sT e) λi e=>?_;refine ab (h.ev e) λx h1 e=>?_;refine ab (dJ h e) λys h2 e=>?_;exact ag _ (λH₀=> .cons i (h1 H₀) (h2 H₀)) e
theorem FX{x p xs}(h:QN σ x=some xs):∀H₀,sI c env A H₀ σ (.Name x p) xs:=λH₀=>by
 refine af (sT h) λhd h=>?_;refine ar h λev h1 h=>?_;induction ev
 case ol=>exact Option.some.inj h▸yQ h1 hd
 case fz y=>exact tO (AI h▸bY h1 hd)
 all_goals exact ad h
theorem yw{x p xs}(h:Nl σ x=some xs):∀H₀,pV c env A H₀ σ (.Name x p) xs:=λH₀=>by
 refine af (sT h) λhd h=>?_;refine ar h λev h1 h=>?_;induction ev
 case od=>exact Option.some.inj h▸Ae h1 hd
 case fz y=>exact Ad (AJ h▸bY h1 hd)
 all_goals exact ad h
theorem pz{e l}(h:wS σ e=some l):∀H₀,pV c env A H₀ σ e l:=by refine ar h λp h1 h=>?_;rw[cj h1];exact yw h
theorem oY(h:HE c env A C){R:Type}{r:R}{e k}(he:yR C σ e k=some r):∃xs,(∀H₀,sI c env A H₀ σ e xs)/\k xs=some r:=by
 unfold yR at he
 induction hn:iI e with
 |none=>rw[hn]at he;refine ab (h.ev he) λv h1 he=>?_;refine ab (cY he) λxs f he=>?_;exact ag xs (λH₀=>tO ((f▸h1) H₀)) he
 |some p=>rw[hn]at he;refine ar he λxs h1 he=>?_;rw[cj hn];exact ag xs (FX h1) he
theorem C5(h:HE c env A C){R:Type}{r:R}{e k}(he:Hb C σ e k=some r):∃xs,(∀H₀,pV c env A H₀ σ e xs)/\k xs=some r:=by
 unfold Hb at he
 induction hn:iI e with
 |none=>rw[hn]at he;refine ab (h.ev he) λv h1 he=>?_;refine ab (rB he) λxs f he=>?_;exact ag xs (λH₀=>Ad ((f▸h1) H₀)) he
 |some p=>rw[hn]at he;refine ar he λxs h1 he=>?_;rw[cj hn];exact ag xs (yw h1) he
theorem FI{op x y z}(h:QJ op x y=some z):HM c A op x y z:=by
 induction x using AV.casesOn
 case int a=>refine ab (bX h) λb e h=>?_;exact e▸yj h
 case str a=>refine ab (dr h) λb e h=>?_;refine bD h λq h=>?_;exact e▸q.1▸Option.some.inj h▸FE (by rw[sizeLine_eq];lia)
 case list a=>refine ab (cY h) λb e h=>?_;refine bD h λq h=>?_;exact e▸q.1▸Option.some.inj h▸B5 q.2
 all_goals exact ad h
theorem FH(O:aM c)(tk:c8 c tb)(i:eU c tb cb k)(R:bq A k){op x y z}(h:IT tb cb op x y=some z):HM c A op x y z:=by
 induction x using AV.casesOn
 case obj C fl=>
  induction hf:tb.op C op (iW y)with
  |none=>unfold IT at h;simp only[hf]at h;exact nomatch h
  |some f=>unfold IT at h;simp only[hf]at h;exact FG O (tk.op _ _ _ _ hf) (i.call _ _ _ _ h) R.r
 all_goals exact FI h
theorem zl{op}{k:AV}{y:AV}{f:Option Bool}{b}(h1:∀b,f=some b->sQ c A .In k y b)(h2:∀b,f.map (!·)=some b->sQ c A .NotIn k y b)(h:inR op f=some b):sQ c A op k y b:=by induction op<;>first|exact ad h|exact h1 b h|exact h2 b h
theorem GY{op r b}(h:RG op r=some b):∃q,r=some (.bool q)/\((op= .Eq/\q=b)\/(op= .NotEq/\(!q)=b)):=by
 induction op
 case Eq=>refine ar h λv h1 h=>?_;exact ag b (ul h▸h1) (.inl ⟨rfl,rfl⟩)
 case NotEq=>refine yM h λq h h2=>?_;refine ar h λv h1 h=>?_;exact ag q (ul h▸h1) (.inr ⟨rfl,h2⟩)
 all_goals exact ad h
theorem C8(O:aM c)(tk:c8 c tb)(u:eU c tb cb k)(R:bq A k){op x y b}(h:Hi tb cb op x y=some b):sQ c A op x y b:=by
 unfold Hi at h;induction x using AV.casesOn
 case int a=>
  induction hy:(vA y).i with
  |some j=>simp only[hy]at h;exact uk hy▸Hm h
  |none=>
   simp only[hy]at h;refine ab (cY h) λxs e h=>?_;refine e▸zl (λb q=>?_) (λb q=>?_) h
   . refine ab (V3.mp q) λns h1 q=>?_;exact q▸wY h1
   . refine ab (V3.mp (Option.map_map .. ▸q)) λns h1 q=>?_;exact q▸pE h1
 case str a=>
  induction hy:(vA y).s with
  |some j=>simp only[hy]at h;refine bD h λe h=>?_;exact AH hy▸e▸Option.some.inj h▸Hk
  |none=>
   simp only[hy]at h;refine ab (cY h) λxs e h=>?_;refine e▸zl (λb q=>?_) (λb q=>?_) h
   . refine ab (V3.mp q) λns h1 q=>?_;exact q▸wX h1
   . refine ab (V3.mp (Option.map_map .. ▸q)) λns h1 q=>?_;exact q▸pD h1
 case obj C fl=>
  induction hf:tb.eq C (iW y)with
  |none=>simp only[hf]at h;exact ad h
  |some f=>
   simp only[hf]at h;obtain⟨q,hb,⟨e,h⟩|⟨e,h⟩⟩:=GY h
   . exact e▸h▸Hl O (tk.eq _ _ _ hf) (u.call _ _ _ _ hb) R.r
   . exact e▸h▸K8 O (tk.ne _ _ _ hf) (u.call _ _ _ _ hb) R
 all_goals exact ad h
theorem nq{y:AV}(h:isNone y=true):y= .none:=by induction y using AV.casesOn<;>first|rfl|exact nomatch h
theorem C7(O:aM c)(tk:c8 c tb)(f:eU c tb cb k)(R:bq A k){op x y b}(h:Hh tb cb op x y=some b):sQ c A op x y b:=by
 induction op
 case Is=>refine af (rQ h) λq h=>?_;exact nq q▸Option.some.inj h▸wW
 case IsNot=>refine af (rQ h) λq h=>?_;exact nq q▸Option.some.inj h▸pF
 all_goals exact C8 O tk f R h
theorem D4{x q}(hx:(env.scope.names.lookup x==some q)=true):env.kindOf x=some q:=beq_iff_eq.mp hx
theorem gH(O:aM c)(tk:c8 c tb){x p v}(hx:(env.scope.names.lookup x==some .globalImplicit)=true)(h:tb.glob x=some v):∀H₀ σ,kq c env A H₀ σ (.Name x p) v:=λH₀ σ=>
 CT O (D4 hx) (tk.glob x v h).1 (tk.glob x v h).2
theorem jZ(O:aM c)(tk:c8 c tb){x p v}(hx:(env.scope.names.lookup x==some .globalImplicit)=true)(h:tb.bi x=some v):∀H₀ σ,kq c env A H₀ σ (.Name x p) v:=λH₀ σ=>
 vx O (D4 hx) (tk.bi x v h).1 (tk.bi x v h).2.1 (tk.bi x v h).2.2.1 (tk.bi x v h).2.2.2
theorem jW{e:Expr}(h:o7 e=false):∀x,foldedSetIterable e env x=pure x:=λx=>by induction e using Expr.casesOn<;>first|rfl|exact nomatch h
noncomputable def EI(c:Cx)(env:Env)(A:Around)(σ:ah)(e tg:Expr)(rows:List (List AV)):Prop:=∀H₀,eT c env A H₀ σ e tg (aJ tg) rows
theorem nR(O:aM c)(tk:c8 c tb){v e args}(h:pK tb env.scope.names v e=some args):∃i u pos,e= .Call (.Name i u) args [] pos/\(∀H₀ σ,kq c env A H₀ σ (.Name i u) v)/\∀a∈args,isStarred a=false:=by refine ar h λq h1 h=>?_;refine ar h λp h2 h=>?_;refine bD h λf h=>?_;obtain rfl:=Option.some.inj h;refine bK f λf q4=>?_;refine bK f λf q3=>?_;refine bK f λq1 q2=>?_;refine K3 p.1 p.2 q.2.2.2 ?_ (jZ O tk q1 (beq_iff_eq.mp q2)) (λa z=>by simpa using VB.mp q4 a z);rw[pG h1,cj h2,Wa.mp q3]
theorem y9(O:aM c)(tk:c8 c tb)(R:bq A k)(h:HE c env A C){T:Type}{r:T}{e x p k'}(he:tU tb env.scope.names C σ e k'=some r):∃rows,(∀H₀,eT c env A H₀ σ e (.Name x p) [x] rows)/\k' rows=some r:=by
 unfold tU at he
 induction hb:(pK tb env.scope.names (.type "range") e).bind one with
 |some a=>rw[hb]at he;refine ar hb λu h1 h2=>?_;refine sg (nR (A:=A) O tk h1) λG H pos e0 hv z=>?_;rw[de h2]at z e0;rw[e0];refine ab (h.ev he) λv f he=>?_;refine ab (bX he) λn F he=>?_;refine ar he λrows i he=>?_;refine bD i λB i=>?_;exact ag rows (λH₀=>Option.some.inj i▸zc R.r.handled (hv H₀ σ) (z a (.head _)) ((F▸f) H₀) B.1 B.2) he
 |none=>
  rw[hb]at he;refine ab (h.ev he) λv f he=>?_;induction v using AV.casesOn
  case list xs=>exact ag _ (λH₀=>va R.r.handled (f H₀)) he
  case dict l=>exact ag _ (λH₀=>Co O R.r.handled (f H₀)) he
  all_goals exact ad he
theorem y8(O:aM c)(tk:c8 c tb)(R:bq A k)(h:HE c env A C){T:Type}{r:T}{e x p y q t u k'}(he:tT tb env.scope.names C σ e k'=some r):∃rows,(∀H₀,eT c env A H₀ σ e (.Tuple [.Name x p,.Name y q] t u) [x,y] rows)/\k' rows=some r:=by
 unfold tT at he
 induction hb:za e with
 |some o=>rw[hb]at he;refine ar hb λq h1 hb=>?_;refine ar hb λa h2 hb=>?_;refine bD hb λf hb=>?_;refine bK f λf q5=>?_;refine bK f λf q4=>?_;refine bK f λf q3=>?_;refine bK f λq1 q2=>?_;refine ab (h.ev he) λv i he=>?_;refine ab (rB he) λl z he=>?_;have e0:=pG h1;rw[um h2,beq_iff_eq.mp q1,Wa.mp q4,Wa.mp q5]at e0;exact ag _ (λH₀=>e0▸zd O R.r.handled q2 ((Option.some.inj hb▸z▸i) H₀) q3) he
 |none=>rw[hb]at he;refine ar he λp h1 G=>?_;clear he hb;refine ar h1 λF h1 h2=>?_;refine sg (nR (A:=A) O tk h1) λI J pos e0 hv B=>?_;rw[iz h2]at B e0;rw[e0];refine ab (h.ev G) λv f he=>?_;refine ab (h.ev he) λw i he=>?_;refine ab (cY he) λxs z he=>?_;refine ab (cY he) λys H he=>?_;exact ag _ (λH₀=>Gn R.r.handled (hv H₀ σ) (B _ (.head _)) (B _ (.tail _ (.head _))) ((z▸f) H₀) ((H▸i) H₀)) he
theorem lK(O:aM c)(tk:c8 c tb)(R:bq A k)(h:HE c env A C){T:Type}{r:T}{e tg k'}(he:rM tb env.scope.names C σ e tg k'=some r):∃rows,EI c env A σ e tg rows/\k' rows=some r:=by
 unfold rM at he
 induction ht:(vE tg).tup with
 |some ts=>rw[ht]at he;refine ar he λp h1 he=>?_;refine ar he λa h2 he=>?_;refine ar he λb i he=>?_;have f:=lr ht;rw[iz h1,cj h2,cj i]at f;exact f▸y8 O tk R h he
 |none=>rw[ht]at he;refine ar he λa h2 he=>?_;exact cj h2▸y9 O tk R h he
end
set_option tactic.hygienic false
set_option tactic.hygienic true
section
variable{c:Cx}{tb:Tb}{cb:Cb}{k:Nat}{env:Env}{A:Around}{σ:ah}{C:eZ}{Ef:dM->eZ}{R:Type}{r:R}
theorem Bp(h:HE c env A C){ifs}{k:Bool->Option R}(he:Ip C σ ifs k=some r):∃b,mV c env A σ ifs b/\k b=some r:=by
 rcases ifs with _|⟨t,l⟩
 . exact ag _ .nil he
 . refine bD he λhl he=>?_;refine ab (h.tr he) λb h1 he=>?_;exact ag b (Wa.mp hl▸ .one h1) he
theorem z8(h:HE c env A C){e a}{k:Acc->Option R}(he:EA C σ e a k=some r):∃i,nW c env A σ e a i/\k i=some r:=by
 induction e using Expr.casesOn
 case ListComp elt g s p=>
  induction a with
  |d l=>exact ad he
  |l xs=>refine bD he λf he=>?_;refine ab (h.ev he) λx h1 he=>?_;exact ag _ (.list h1 f) he
 case DictComp ke v g s p=>
  induction a with
  |l l=>exact ad he
  |d l=>refine bD he λf he=>?_;refine ab (h.ev he) λx h1 he=>?_;refine ab (h.ev he) λy h2 he=>?_;refine ab (dr he) λz u he=>?_;exact ag _ (.dict (u▸h1) h2 f) he
 all_goals exact ad he
theorem Cj{xs}(h:Ji env.scope.names xs=true):∀x∈xs,env.kindOf x=some .local:=λx hx=>beq_iff_eq.mp (VB.mp h x hx)
theorem oD{step:ah->List AV->Acc->Option (ah×Acc)}{e d σ' a'}(h:∀σ row rows a f a1,step σ row a=some (f,a1)->dy c env A e d f rows a1 σ' a'->dy c env A e d σ (row::rows) a σ' a'):∀{rs τ b},aE step rs τ b=some (σ',a')->dy c env A e d τ rs b σ' a'
 |[],τ,b,hb=>by cases hb;exact .done
 |r::rs,τ,b,hb=>by refine ar hb λp i u=>?_;exact h τ r rs b p.1 p.2 i (oD h u)
theorem rg(O:aM c)(tk:c8 c tb)(R:bq A k)(h:HE c env A C){e}:∀m d σ row rows a f a1 σ' i,m8 tb env.scope.names C e m d σ row a=some (f,a1)->dy c env A e d f rows a1 σ' i->dy c env A e d σ (row::rows) a σ' i
 |0,_,_,_,_,_,_,_,_,_,he,_=>ad he
 |m+1,d,σ,row,rows,a,f,a1,σ',i,he,t=>by
  unfold m8 at he
  induction hg:(clausesOf e)[d]? with
  |none=>rw[hg]at he;exact ad he
  |some g=>
   obtain⟨H,B,F,I⟩:=g;rw[hg]at he;refine bD he λG he=>?_;rw[beq_iff_eq.mp G]at hg;refine ab (Bp h he) λb ht he=>?_
   induction b with
   |false=>refine af (Prod.mk.inj (Option.some.inj he)) λu z=>?_;subst u;subst z;exact .skip hg ht t
   |true=>
    rw[Vi rfl]at he
    induction Gx:(clausesOf e)[d+1]? with
    |none=>rw[Gx]at he;refine ab (z8 h he) λJ h1 h2=>?_;refine af (Prod.mk.inj (Option.some.inj h2)) λu z=>?_;subst u;subst z;exact .emit hg ht Gx h1 t
    |some g=>obtain⟨N,P,Q,U⟩:=g;rw[Gx]at he;refine bD he λq he=>?_;refine bK q λq q3=>?_;refine bK q λq1 q2=>?_;rw[beq_iff_eq.mp q1]at Gx;refine ab (lK O tk R h he) λW hi h2=>?_;exact .nest hg ht Gx (jW (Db q2)) (Cj q3) hi (oD (rg O tk R h m (d+1) · · · · · · f a1) h2) t
theorem wU(f:env.scope.kind= .function)(scope:Scope):(relabel scope env).names=j4 env.scope.names scope.names:=by unfold relabel j4;simp only;congr 1;funext x;obtain⟨n,q⟩:=x;have:env.kindOf n=env.scope.names.lookup n:=rfl;rw[f,this];simp
theorem zB{n}(h:H9 σ n=true):∃y,σ.lookup n=some (.fz y):=by
 unfold H9 at h
 induction hn:σ.lookup n with
 |none=>rw[hn]at h;exact nomatch h
 |some e=>rw[hn]at h;induction e<;>first|exact⟨_,rfl⟩|exact nomatch h
theorem oz:∀{names:dM}{x e},(wi σ names).lookup x=some e->∃y,e= .fz y/\σ.lookup x=some (.fz y)/\(x,NameKind.free)∈names
 |[],_,_,h=>ad h
 |(n,q)::r,x,e,h=>by
  unfold wi at h;by_cases f:(q== .free&&H9 σ n)=true
  . rw[Vi f,VK]at h;refine bK f λq1 q2=>?_;refine ax (zB q2) λy hy=>?_;by_cases hx:x=n
    . rw[beq_iff_eq.mpr hx,hy]at h;exact dA y ((Option.some.inj h).symm) (hx▸hy) (hx▸beq_iff_eq.mp q1▸ .head _)
    . rw[beq_eq_false_iff_ne.mpr hx]at h;refine bV (oz h) λi h1 h2 u=>?_;exact dA i h1 h2 (.tail _ u)
  . rw[Vk f]at h;refine bV (oz h) λi h1 h2 u=>?_;exact dA i h1 h2 (.tail _ u)
theorem wh{scope}(h:xZ env.scope.names σ scope=true):hJ env σ scope (wi σ scope.names):=by
 refine bK h λh1 h2=>?_;have each:∀x∈scope.names,x.2≠ .cell/\scope.names.lookup x.1=some x.2/\(x.2= .free->H9 σ x.1=true/\(env.scope.names.lookup x.1=some .cell\/env.scope.names.lookup x.1=some .free)/\(x.1==("__classdict__":Str))=false):=λx hx=>by refine bK (VB.mp h2 x hx) λq q3=>?_;refine bK q λq1 q2=>?_;refine⟨bne_iff_ne.mp q1,beq_iff_eq.mp q2,λhf=>?_⟩;rw[hf]at q3;refine bK q3 λq3 q5=>?_;refine bK q3 λq3 q4=>?_;exact⟨q3,(WF.mp q4).imp beq_iff_eq.mp beq_iff_eq.mp,beq_eq_false_iff_ne.mpr (bne_iff_ne.mp q5)⟩
 refine⟨beq_iff_eq.mp h1,λx hx=>(each x hx).1,λx hx hl=>by rw[(each x hx).2.1,hl],λx hx hf=>?_,λx e hx=>?_⟩
 . refine dh ((each x hx).2.2 hf) λq1 q2 _=>?_;refine ax (zB q1) λy hy=>?_;exact ag y hy q2
 . refine bV (oz hx) λy i u f=>?_;exact PR y i u f ((each _ f).2.1) (((each _ f).2.2 rfl).2.2)
structure vW(c:Cx)(env:Env)(A:Around)(σ:ah)(e:Expr)(scope:Scope)(a0 a':Acc)(tg iter:Expr)(ifs:List Expr)(gs:List Comprehension)(rows:List (List AV))(sc dO:ah):Prop where
 cl:clausesOf e=⟨tg,iter,ifs,0⟩::gs
 ctx:hJ env σ scope sc
 loc:∀x∈aJ tg,scope.names.lookup x=some .local
 fold:∀x,foldedSetIterable iter env x=pure x
 it:EI c env A σ iter tg rows
 run:∀cA:Env,cA.scope=relabel scope env->dy c cA A e 0 sc rows a0 dO a'
theorem su(O:aM c)(tk:c8 c tb)(u:bq A k)(G:env.scope.kind= .function)(h:xd c k Ef){e scope a0}{k':Acc->Option R}(he:nM tb Ef env.scope.names σ e scope a0 k'=some r):
 ∃H,(∃z f i B rows N P,vW c env A σ e scope a0 H z f i B rows N P)/\k' H=some r:=by
 unfold nM at he
 induction mF:clausesOf e using List.casesOn with
 |nil=>rw[mF]at he;exact ad he
 |cons g B=>
  obtain⟨z,f,i,U⟩:=g;rw[mF]at he;refine bD he λq he=>?_;refine bK q λq q4=>?_;refine bK q λq q3=>?_;refine bK q λq1 q2=>?_;rw[beq_iff_eq.mp q1]at mF;refine ab (lK O tk u (h env A G u) he) λrows hi he=>?_;refine ar he λp I he=>?_;refine ag p.2 ⟨z,f,i,B,rows,_,p.1,mF,wh q3,λx hx=>beq_iff_eq.mp (VB.mp q4 x hx),jW (Db q2),hi,λF J=>?_⟩ he;have A6:F.scope.names=j4 env.scope.names scope.names:=by rw[J];exact wU G scope
  have Q:F.scope.kind= .function:=by rw[J];exact beq_iff_eq.mp (be q3).1
  rw[<-A6]at I;exact oD (rg O tk u (h F A Q u) 4 0 · · · · · · p.1 p.2) I
theorem Ds{a:Acc}{xs}(h:gO a=some xs):a= .l xs:=by
 induction a with
 |l ys=>exact Vx _ (Option.some.inj h)
 |d l=>exact ad h
theorem Dt{a:Acc}{xs}(h:Du a=some xs):a= .d xs:=by
 induction a with
 |d ys=>exact Vx _ (Option.some.inj h)
 |l l=>exact ad h
theorem vF(O:aM c)(tk:c8 c tb){e v}(he:Hn tb env.scope.names e=some v):∀H₀ σ,kq c env A H₀ σ e v:=by
 refine ar he λp h1 he=>?_;refine bD he λhx he=>?_;rw[cj h1]
 induction hg:tb.glob p.1 with
 |some w=>rw[hg]at he;exact Option.some.inj he▸gH O tk hx hg
 |none=>rw[hg]at he;exact jZ O tk hx he
theorem sw(O:aM c)(tk:c8 c tb):∀{f vs},Ak tb env.scope.names f=some vs->∀H₀ σ,gc c env A H₀ σ f (vs.map .k)
 |[],vs,e,H₀,σ=>Option.some.inj e▸ .nil
 |a::f,vs,e,H₀,σ=>by refine af (sT e) λi e=>?_;refine ar e λx h1 e=>?_;refine ar e λys h2 e=>?_;exact Option.some.inj e▸ .k i (vF O tk h1 H₀ σ) (sw O tk h2 H₀ σ)
theorem KN{es xs}{H₀}(h:dT c env A H₀ σ es xs):gc c env A H₀ σ es (xs.map .a):=by
 induction h with
 |nil=>exact .nil
 |cons h _ ih=>exact .a h.1 h.2 ih
theorem HD(f:bq A k){id p v es xs y pos}(hv:∀H₀ σ,kq c env A H₀ σ (.Name id p) v)(B:∀H₀,dT c env A H₀ σ es xs)(h:sB v xs=some y):my c env A σ (.Call (.Name id p) es [] pos) y:=λH₀=>by
 have hb:∀{ys},xs=ys->gc c env A H₀ σ es (ys.map .a):=λe=>e▸KN (B H₀);refine ar h λs e h=>?_;have hv:∀H₀ σ,kq c env A H₀ σ (.Name id p) (.builtin s):=Bj e▸hv;refine zb h (λq h=>?_) λh=>?_
 . rw[q]at hv;refine ar h λx h1 h=>?_;refine ab (bX h) λi e h=>?_;exact Option.some.inj h▸df (hv H₀ σ) (hb (e▸de h1)) AF
 refine zb h (λq h=>?_) λh=>?_
 . rw[q]at hv;refine ar h λ_ h1 h=>?_;refine ab (bX h) λi e h=>?_;refine ab (bX h) λj u h=>?_;exact Option.some.inj h▸df (hv H₀ σ) (hb (e▸u▸iz h1)) (HB f.r.handled)
 refine zb h (λq h=>?_) λh=>?_
 . rw[q]at hv;refine ar h λ_ h1 h=>?_;refine ab (bX h) λi e h=>?_;refine ab (bX h) λj u h=>?_;exact Option.some.inj h▸df (hv H₀ σ) (hb (e▸u▸iz h1)) (HA f.r.handled)
 refine zb h (λq h=>?_) λh=>?_
 . rw[q]at hv;refine ar h λx h1 h=>?_;refine ab (cY h) λl e h=>?_;refine yM h λis z h=>?_;exact h▸df (hv H₀ σ) (hb (e▸de h1)) (Hz f.r.handled z)
 refine zb h (λq h=>?_) λh=>?_
 . rw[q]at hv;refine ar h λx h1 h=>?_;refine ab (cY h) λl e h=>?_;refine bD h λF h=>?_;refine yM h λis z h=>?_;exact h▸df (hv H₀ σ) (hb (e▸de h1)) (w8 z F)
 exact ad h
theorem HC(O:aM c)(tk:c8 c tb)(P:bq A k)(h:HE c env A C){id p v args pos}{k':AV->Option R}(hv:∀H₀ σ,kq c env A H₀ σ (.Name id p) v)(he:P3 tb env.scope.names C σ id v args k'=some r):∃x,my c env A σ (.Call (.Name id p) args [] pos) x/\k' x=some r:=by
 unfold P3 at he;by_cases f:(v== .type "str")=true
 . rw[Vi f]at he;refine ar he λe h1 he=>?_;refine af (sT he) λz he=>?_;refine ab (h.ev he) λx h2 he=>?_;refine ab (bX he) λi Q he=>?_;refine bD he λB he=>?_;exact ag _ (λH₀=>de h1▸zW (beq_iff_eq.mp f▸hv H₀ σ) z ((Q▸h2) H₀) B) he
 rw[Vk f]at he;clear f;by_cases f:(v== .builtin "isinstance")=true
 . rw[Vi f]at he;have hv:=λH₀=>beq_iff_eq.mp f▸hv H₀ σ;refine bD he λF he=>?_;refine ar he λq h1 he=>?_;refine af (sT he) λz he=>?_;refine af (Bool.or_eq_false_iff.mp z) λN U=>?_;refine ab (h.ev he) λx h2 he=>?_;have G:=iz h1;rw[beq_iff_eq.mp F]at hv⊢
   induction ht:(vE q.2).tup with
   |some es=>rw[ht]at he;refine ar he λW u he=>?_;refine bD he λB he=>?_;refine ar he λb H he=>?_;refine af (tk.eJ _ _ _ H) λI J=>?_;rw[lr ht]at G;exact ag _ (λH₀=>G▸ud O tk.Jx (hv H₀) N (h2 H₀) (sw O tk u H₀ σ) B (λC fl q=>J C (by rw[q];rfl)) I) he
   |none=>rw[ht]at he;refine ar he λX u he=>?_;refine ar he λb H he=>?_;refine af (tk.isin _ _ _ H) λI J=>?_;exact ag _ (λH₀=>G▸df (hv H₀) (.a N (h2 H₀) (.k U (vF O tk u H₀ σ) .nil)) (w9 O tk.Jx (λC fl q=>J C (by rw[q];rfl)) I)) he
 rw[Vk f]at he;clear f;by_cases f:(v== .builtin "len")=true
 . rw[Vi f]at he;refine bD he λF he=>?_;refine ar he λe h1 he=>?_;refine af (sT he) λz he=>?_;refine ab (oY h he) λxs h2 he=>?_;refine ar he λx u he=>?_;refine bD u λB u=>?_;rw[beq_iff_eq.mp F,beq_iff_eq.mp f]at hv;rw[beq_iff_eq.mp F];exact ag _ (λH₀=>de h1▸Option.some.inj u▸Df (hv H₀ σ) z (h2 H₀) B) he
 rw[Vk f]at he;refine ab (dJ h he) λxs h1 he=>?_;refine ar he λy h2 he=>?_;exact ag y (HD P hv h1 h2) he
theorem uP{v a}(h:BQ v=some a):v= .ref a:=by
 have:(match BQ v with|some j=> .ref j|none=>v)=v:=by induction v<;>rfl
 rw[h]at this;exact this.symm
theorem Ao(O:aM c)(tk:c8 c tb)(z:eU c tb cb k)(i:bq A k)(h:HE c env A C){id p args pos}{k':AV->Option R}(he:ED tb cb env.scope.names C σ id args k'=some r):∃x,my c env A σ (.Call (.Name id p) args [] pos) x/\k' x=some r:=by
 refine bD he λhx he=>?_
 induction hg:tb.glob id with
 |none=>rw[hg]at he;refine ar he λv h1 he=>?_;exact HC O tk i h (jZ O tk hx h1) he
 |some v=>
  rw[hg]at he;refine ar he λf hf he=>?_;rw[uP hf]at hg;refine ab (dJ h he) λxs B he=>?_;have F:=tk.keep _ _ hg;have G:=gH (A:=A) (p:=p) O tk hx hg;by_cases H:tb.cls f=true
  . rw[Vi H]at he;refine ar he λfl u he=>?_;refine cP (z.make _ _ _ u) λg j I J N=>?_;exact ag _ (λH₀=>CR O (G H₀ σ) F (B H₀) I J (i.r.le N)) he
  . rw[Vk H]at he;refine ar he λy u he=>?_;exact ag _ (λH₀=>CU O (G H₀ σ) F (B H₀) (z.call _ _ _ _ u) i.r) he
theorem xQ(O:aM c)(tk:c8 c tb)(z:eU c tb cb k)(B:bq A k)(h:HE c env A C){o nm apos args cB pos f}{k':AV->Option R}(hl:(apos.endLine==pos.line)=true)(N:args.length<20)
 (i:xR tb env.scope.names o nm=some (some f))(he:DG cb C σ f args cB k'=some r):∃x,my c env A σ (.Call (.Attribute o nm apos) args cB pos) x/\k' x=some r:=by
 refine bD he λF he=>?_;refine ab (dJ h he) λxs h1 he=>?_;refine ar he λy h2 he=>?_;refine ar i λp G i=>?_;refine bD i λhx i=>?_;refine ar (Option.some.inj i) λv u i=>?_;refine ar i λD hr i=>?_;rw[uP hr]at u;refine dh (tk.wf _ _ _ i) λH I J=>?_;exact ag _ (λH₀=>cj G▸Wa.mp F▸ug O (gH O tk hx u H₀ σ) H I J (h1 H₀) (z.call _ _ _ _ h2) B.r hl (by lia)) he
theorem CF(O:aM c)(h:HE c env A C){o nm apos args cB pos l}{k':AV->Option R}(hl:(apos.endLine==pos.line)=true)(z:args.length<20)(i:bk o=true)(hd:wS σ o=some l)
 (he:Kj C σ l nm args cB k'=some r):∃x,my c env A σ (.Call (.Attribute o nm apos) args cB pos) x/\k' x=some r:=by
 refine bD he λq he=>?_;refine bK q λq1 q2=>?_;refine ab (dJ h he) λxs h1 he=>?_;refine ar he λp h2 he=>?_;refine ab (dr he) λs u he=>?_;have f:=iz h2;rw[u]at f;exact ag _ (λH₀=>beq_iff_eq.mp q1▸Wa.mp q2▸uf O i (pz hd H₀) (f▸h1 H₀) hl (by lia)) he
theorem PN{e x}{H₀}(h:dT c env A H₀ σ e [x]):∃a,e=[a]/\isStarred a=false/\bQ c env A H₀ σ a x:=F2.one h
theorem yZ(h:HE c env A C){o apos args cB pos}{k':AV->Option R}(hl:(apos.endLine==pos.line)=true)(i:bk o=true)
 (he:D7 C σ o args cB k'=some r):∃x,my c env A σ (.Call (.Attribute o "join" apos) args cB pos) x/\k' x=some r:=by
 refine ab (h.ev he) λv h1 he=>?_;refine ab (dr he) λu z he=>?_;refine bD he λq2 he=>?_;refine ab (dJ h he) λxs h2 he=>?_;refine ab (wn he) λys B he=>?_;refine ar he λis F he=>?_;refine bD he λf he=>?_;refine ag _ (λH₀=>?_) he;refine bV (PN (B▸h2 H₀)) λa G H I=>?_;exact G▸Wa.mp q2▸CS ((z▸h1) H₀) i H I F f.1 f.2 hl
theorem Gi(O:aM c)(tk:c8 c tb)(u:eU c tb cb k)(B:bq A k)(h:HE c env A C){o nm apos args cB pos C' fl f xs}{k':AV->Option R}(hl:(apos.endLine==pos.line)=true)(P:args.length<20)(F:bk o=true)
 (h1:my c env A σ o (.obj C' fl))(Q:tb.cZ C' nm=some f)(h2:∀H₀,dT c env A H₀ σ args xs)(he:QS cb C σ f (.obj C' fl) xs cB k'=some r):∃x,my c env A σ (.Call (.Attribute o nm apos) args cB pos) x/\k' x=some r:=by
 refine G4 (tk.cZ _ _ _ Q) λG H I J N=>?_;rcases cB with _|⟨⟨n,ke,kp⟩,l⟩
 . refine ar he λy i he=>?_;exact ag _ (λH₀=>wM O F (h1 H₀) G H I J N (h2 H₀) (u.call _ _ _ _ i) B.r hl (by lia)) he
 . refine bD he λq he=>?_;refine ar he λX U he=>?_;refine ab (h.ev he) λy W he=>?_;refine ar he λz i he=>?_;exact ag _ (λH₀=>Wa.mp q▸U▸km O F (h1 H₀) G H I J N (h2 H₀) (W H₀) (u.call _ _ _ _ i) B.r hl P) he
theorem ym{nm v}{k':Addr->AV->Option R}(h:yn tb nm v k'=some r):∃C fl f,v= .obj C fl/\tb.cZ C nm=some f/\k' f v=some r:=by
 induction v using AV.casesOn
 case obj C fl=>refine ar h λf h1 h=>?_;exact K3 C fl f rfl h1 h
 all_goals exact ad h
theorem yI(O:aM c)(tk:c8 c tb)(B:eU c tb cb k)(F:bq A k)(h:HE c env A C){o nm apos args cB pos}{k':AV->Option R}(hl:(apos.endLine==pos.line)=true)(u:args.length<20)
 (he:yJ tb cb env.scope.names C σ o nm args cB k'=some r):∃x,my c env A σ (.Call (.Attribute o nm apos) args cB pos) x/\k' x=some r:=by
 unfold yJ at he
 induction mE:xR tb env.scope.names o nm with
 |some f=>rw[mE]at he;refine ar he λf hf he=>?_;exact xQ O tk B F h hl u (hf▸mE) he
 |none=>
  rw[mE]at he;refine af (sT he) λi he=>?_;have i:bk o=true:=RP i
  induction hd:wS σ o with
  |some l=>rw[hd]at he;exact CF O h hl u i hd he
  |none=>
   rw[hd]at he;by_cases z:(nm==("join":Str))=true
   . exact beq_iff_eq.mp z▸yZ h hl i ((Vi z).symm.trans he)
   . refine ab (h.ev ((Vk z).symm.trans he)) λv h1 he=>?_;refine sg (ym he) λI fl f G H he=>?_;refine ab (dJ h he) λxs h2 he=>?_;exact Gi O tk B F h hl u i (G▸h1) H h2 (G▸he)
end
set_option tactic.hygienic false
set_option tactic.hygienic true
section
variable{c:Cx}{tb:Tb}{cb:Cb}{k:Nat}{env:Env}{A:Around}{σ:ah}{C:eZ}{Ef:dM->eZ}{R:Type}{r:R}
theorem vD(O:aM c)(tk:c8 c tb)(B:eU c tb cb k)(F:bq A k)(h:HE c env A C){l ops rs pos}{k':Bool->Option R}(he:Hg tb cb C σ l ops rs k'=some r):
 ∃b,my c env A σ (.Compare l ops rs pos) (.bool b)/\Mo c env A σ (.Compare l ops rs pos) b/\k' b=some r:=by
 refine ar he λop h1 he=>?_;refine ar he λe h2 he=>?_;refine af (sT he) λf he=>?_;refine ab (h.ev he) λx hx he=>?_;rw[de h1,de h2]
 induction hd:(if op== .In||op== .NotIn then wS σ e else none)with
 |some d=>rw[hd]at he;refine bD hd λG hd=>?_;have u:op= .In\/op= .NotIn:=(WF.mp G).imp beq_iff_eq.mp beq_iff_eq.mp;refine ab (dr he) λs z he=>?_;exact dA _ (λH₀=>wO O u f ((z▸hx) H₀) (pz hd H₀)) (λH₀=>wd O u f ((z▸hx) H₀) (pz hd H₀)) he
 |none=>rw[hd]at he;refine ab (h.ev he) λy hy he=>?_;refine ar he λb i he=>?_;have i:=C7 (A:=A) O tk B F i;exact dA b (λH₀=>GW f (hx H₀) (hy H₀) i) (λH₀=>EY f (hx H₀) (hy H₀) i) he
theorem wT{q x kk pos}(he:Ag q=some x):my c env A σ (.Constant q kk pos) x:=λH₀=>by
 induction q
 case none=>exact Option.some.inj he▸mP
 case bool=>exact Option.some.inj he▸mQ
 case int=>exact Option.some.inj he▸pu
 case str=>exact Option.some.inj he▸jm
 all_goals exact ad he
theorem yD{x p}{k':AV->Option R}(he:DT σ x k'=some r):∃y,my c env A σ (.Name x p) y/\k' y=some r:=by
 refine af (sT he) λhd he=>?_
 induction hl:σ.lookup x with
 |none=>rw[hl]at he;exact ad he
 |some e=>
  rw[hl]at he;induction e
  case fz y=>exact ag y (λH₀=>bY hl hd) he
  case self a D fl=>exact ag _ (λH₀=>r6 hl hd) he
  all_goals exact ad he
theorem BC(O:aM c)(h:HE c env A C){o i pos}{k':AV->Option R}(he:Fj C σ o i k'=some r):∃y,my c env A σ (.Subscript o i pos) y/\k' y=some r:=by
 unfold Fj at he
 induction hs:tz i with
 |some j=>rw[hs]at he;refine bD he λf he=>?_;refine ab (oY h he) λxs h1 he=>?_;refine bD he λu he=>?_;refine CY (xW hs) λp x q e=>?_;exact ag _ (λH₀=>e▸CQ (h1 H₀) f u) he
 |none=>
  rw[hs]at he;refine ab (h.ev he) λz hi he=>?_
  induction hv:(vA z).i with
  |some j=>rw[hv]at he;rw[uk hv]at hi;refine ab (oY h he) λxs h1 he=>?_;refine ar he λy h2 he=>?_;exact ag y (λH₀=>zY (h1 H₀) (hi H₀) h2) he
  |none=>rw[hv]at he;refine ab (dr he) λs e he=>?_;rw[e]at hi;refine ab (C5 h he) λxs h1 he=>?_;refine ar he λy h2 he=>?_;exact ag y (λH₀=>ue (h1 H₀) (hi H₀) h2) he
theorem Ac(h:HE c env A C){ks vs pos}{k':AV->Option R}(he:EB C σ ks vs k'=some r):∃y,my c env A σ (.Dict ks vs pos) y/\k' y=some r:=by
 rcases ks with _|⟨ke,ks⟩
 . refine bD he λhv he=>?_;exact ag _ (λH₀=>Wa.mp hv▸pR.ev lG) he
 . refine bD he λf he=>?_;refine ar he λa i he=>?_;refine ar he λb u he=>?_;refine ab (h.ev he) λx h1 he=>?_;refine ab (h.ev he) λy h2 he=>?_;refine ab (dr he) λs z he=>?_;exact ag _ (λH₀=>Wa.mp f▸i▸de u▸pR.ev (yA ((z▸h1) H₀) (h2 H₀))) he
theorem uX(O:aM c)(tk:c8 c tb)(u:bq A k)(z:env.scope.kind= .function)(h:xd c k Ef){elt gens scope pos}{k':List AV->Option R}
 (he:(nM tb Ef env.scope.names σ (.ListComp elt gens scope pos) scope (.l []) λa=>(gO a).bind k')=some r):∃xs,(∃B f i F rows G H,vW c env A σ (.ListComp elt gens scope pos) scope (.l []) (.l xs) B f i F rows G H)/\k' xs=some r:=by
 refine ab (su O tk u z h he) λa X he=>?_;refine ar he λxs h1 he=>?_;exact ag xs (Ds h1▸X) he
theorem Ai{elt gens scope pos xs}(X:∃u f i z rows B F,vW c env A σ (.ListComp elt gens scope pos) scope (.l []) (.l xs) u f i z rows B F):my c env A σ (.ListComp elt gens scope pos) (.list xs):=by obtain⟨u,f,i,z,rows,B,F,Y⟩:=X;have e:gens=⟨u,f,i,0⟩::z:=Y.cl;subst e;exact λH₀=>sH.ev (wq Y.ctx Y.loc Y.fold Y.it Y.run)
theorem Aj{ke v gens scope pos l}(X:∃u f i z rows B F,vW c env A σ (.DictComp ke v gens scope pos) scope (.d []) (.d l) u f i z rows B F):my c env A σ (.DictComp ke v gens scope pos) (.dict l):=by obtain⟨u,f,i,z,rows,B,F,Y⟩:=X;have e:gens=⟨u,f,i,0⟩::z:=Y.cl;subst e;exact λH₀=>pR.ev (wt Y.ctx Y.loc Y.fold Y.it Y.run)
theorem B9(O:aM c)(tk:c8 c tb)(i:eU c tb cb k)(u:bq A k){x v y pos}(h1:my c env A σ x v)(h:Ca tb cb v=some y):my c env A σ (.UnaryOp .USub x pos) y:=λH₀=>by
 induction v using AV.casesOn
 case int a=>exact Option.some.inj h▸zX (h1 H₀) I3
 case obj D fl=>
  unfold Ca at h
  induction hf:tb.neg D with
  |none=>simp only[hf]at h;exact ad h
  |some f=>simp only[hf]at h;refine af (tk.neg _ _ hf) λz B=>?_;exact zX (h1 H₀) (B8 O z B (i.call _ _ _ _ h) u.r)
 all_goals exact ad h
theorem AK(O:aM c)(tk:c8 c tb)(F:eU c tb cb k)(i:bq A k){o nm v y pos}(z:bk o=true)(h1:my c env A σ o v)(h:sC tb cb nm v=some y):my c env A σ (.Attribute o nm pos) y:=λH₀=>by
 induction v using AV.casesOn
 case obj D fl=>
  refine bD h λB h=>?_;by_cases hf:az.contains nm=true
  . rw[Vi hf]at h;exact zZ O z (h1 H₀) (tk.cls _ B) hf h
  . rw[Vk hf]at h
    induction hp:tb.prop D nm with
    |none=>rw[hp]at h;exact ad h
    |some f=>rw[hp]at h;refine ax (tk.prop _ _ _ hp) λp P=>?_;exact vy z (h1 H₀) λT s v w r=>Bc O (tk.cls _ B) P (F.call _ _ _ _ h) i.r (by have:=i.u;lia) w r
 all_goals exact ad h
theorem Ap(O:aM c)(tk:c8 c tb)(i:eU c tb cb k)(u:bq A k)(h:HE c env A C){f args cB pos}{k':AV->Option R}(he:Aq tb cb env.scope.names C σ f args cB pos k'=some r):∃x,my c env A σ (.Call f args cB pos) x/\k' x=some r:=by
 unfold Aq at he
 induction hn:iI f with
 |some p=>rw[hn]at he;refine bD he λz he=>?_;rw[cj hn,Wa.mp z];exact Ao O tk i u h he
 |none=>rw[hn]at he;refine ar he λa B he=>?_;refine bD he λq he=>?_;refine bK q λq1 q2=>?_;rw[um B];exact yI O tk i u h q1 (V9 q2) he
theorem GX(O:aM c)(tk:c8 c tb)(F:eU c tb cb k)(B:bq A k)(G:env.scope.kind= .function)(h:xd c k Ef){e}{k':AV->Option R}(he:RF tb cb Ef env.scope.names σ e k'=some r):∃x,my c env A σ e x/\k' x=some r:=by
 have u:=h env A G B;induction e using Expr.casesOn
 case Constant q kk p=>refine ab (bL he) λx h1 he=>?_;exact ag x (wT h1) he
 case Name x p=>exact yD he
 case IfExp t b o p=>
  refine ab (u.tr he) λq h1 he=>?_
  induction q with
  |true=>refine ab (u.ev he) λx h2 he=>?_;exact ag x (λH₀=>r7 (h1 H₀) (λ_=>h2 H₀) (λq=>nomatch q)) he
  |false=>refine ab (u.ev he) λx h2 he=>?_;exact ag x (λH₀=>r7 (h1 H₀) (λq=>nomatch q) (λ_=>h2 H₀)) he
 case BinOp l op rr p=>refine ab (u.ev he) λx h1 he=>?_;refine ab (u.ev he) λy h2 he=>?_;refine ar he λz I he=>?_;exact ag z (λH₀=>r8 (h1 H₀) (h2 H₀) (FH O tk F B I)) he
 case UnaryOp op x p=>
  induction op
  case USub=>refine ab (u.ev he) λv h1 he=>?_;refine ar he λy h2 he=>?_;exact ag y (B9 O tk F B h1 h2) he
  all_goals exact ad he
 case Compare l ops rs p=>refine bV (vD (pos:=p) (k':=λb=>k' (.bool b)) O tk F B u he) λb h1 _ he=>?_;exact ag _ h1 he
 case Tuple es q p=>refine ab (dJ u he) λxs h1 he=>?_;refine bD he λH he=>?_;exact ag _ (λH₀=>ma (h1 H₀) H) he
 case List es p=>refine ab (dJ u he) λxs h1 he=>?_;refine bD he λH he=>?_;exact ag _ (λH₀=>sH.ev (gT (h1 H₀) H)) he
 case Attribute o nm p=>refine af (sT he) λJ he=>?_;refine ab (u.ev he) λv h1 he=>?_;refine ar he λy h2 he=>?_;exact ag y (AK O tk F B (RP J) h1 h2) he
 case Subscript o i p=>exact BC O u he
 case Call f args cB pos=>exact Ap O tk F B u he
 case ListComp elt gens scope p=>refine ab (uX (k':=λxs=>k' (.list xs)) O tk B G h he) λxs X he=>?_;exact ag _ (Ai X) he
 case DictComp ke v gens scope p=>refine ab (su (k':=λa=>(Du a).bind λxs=>k' (.dict xs)) O tk B G h he) λa X he=>?_;refine ar he λl h1 he=>?_;exact ag _ (Aj (Dt h1▸X)) he
 case Dict ks vs p=>exact Ac u he
 all_goals exact ad he
theorem vR(h:HE c env A C):∀{f}{k':Bool->Option R},HK (C.tr σ) f k'=some r->∃b,(∀H₀,iT c env A H₀ σ f b)/\k' b=some r
 |[],_,e=>⟨_,λ_=> .nil,e⟩
 |a::f,k',e=>by
  refine ab (h.tr e) λq h1 e=>?_
  induction q with
  |true=>refine ab (vR h e) λb h2 e=>?_;exact ag b (λH₀=> .yes (h1 H₀) (h2 H₀)) e
  |false=>exact ag _ (λH₀=> .no (h1 H₀)) e
theorem yi(h:HE c env A C):∀{f}{k':Bool->Option R},Nc (C.tr σ) f k'=some r->∃b,(∀H₀,ut c env A H₀ σ f b)/\k' b=some r
 |[],_,e=>⟨_,λ_=> .nil,e⟩
 |a::f,k',e=>by
  refine ab (h.tr e) λq h1 e=>?_
  induction q with
  |true=>exact ag _ (λH₀=> .yes (h1 H₀)) e
  |false=>refine ab (yi h e) λb h2 e=>?_;exact ag b (λH₀=> .no (h1 H₀) (h2 H₀)) e
theorem tC{e:Expr}(h:(vE e).plain=true):isTrue e env (eval e env)=(do let v<-eval e env;standAt e.pos;holding [v] (truthy v)):=by induction e using Expr.casesOn<;>first|rfl|exact nomatch h
theorem E6(h:HE c env A C){e}{k':Bool->Option R}(he:(if(vE e).plain then C.ev σ e λx=>(ib x).bind k' else none)=some r):∃b,Mo c env A σ e b/\k' b=some r:=by refine bD he λf he=>?_;refine ab (h.ev he) λx h1 he=>?_;refine ar he λb h2 he=>?_;exact ag b (λH₀=>xA (tC f) (h1 H₀) λT s v w r=>om h2 w r) he
theorem E5(O:aM c)(tk:c8 c tb)(u:eU c tb cb k)(i:bq A k)(z:env.scope.kind= .function)(h:xd c k Ef){e}{k':Bool->Option R}(he:Qv tb cb Ef env.scope.names σ e k'=some r):∃b,Mo c env A σ e b/\k' b=some r:=by
 have f:=h env A z i;induction e using Expr.casesOn
 case UnaryOp op x p=>
  induction op
  case Not=>refine ab (f.tr he) λq h1 he=>?_;exact ag _ (λH₀=>EX (h1 H₀)) he
  all_goals exact ad he
 case BoolOp op es p=>
  induction op with
  |And=>refine ab (vR f he) λq h1 he=>?_;exact ag _ (λH₀=>EZ (h1 H₀)) he
  |Or=>refine ab (yi f he) λq h1 he=>?_;exact ag _ (λH₀=>Ir (h1 H₀)) he
 case IfExp t b o p=>
  refine ab (f.tr he) λq h1 he=>?_
  induction q with
  |true=>refine ab (f.tr he) λx h2 he=>?_;exact ag x (λH₀=>qY (h1 H₀) (λ_=>h2 H₀) (λq=>nomatch q)) he
  |false=>refine ab (f.tr he) λx h2 he=>?_;exact ag x (λH₀=>qY (h1 H₀) (λq=>nomatch q) (λ_=>h2 H₀)) he
 case Compare l ops rs p=>refine bV (vD (pos:=p) O tk u i f he) λb _ h1 he=>?_;exact ag _ h1 he
 all_goals exact E6 f he
theorem jl(O:aM c)(tk:c8 c tb)(f:eU c tb cb k):∀n,xd c k (kA tb cb n)
 |0=>λ_ _ _ _=>⟨ad,ad⟩
 |n+1=>λenv A i u=>⟨GX O tk f u i (jl O tk f n),E5 O tk f u i (jl O tk f n)⟩
end
set_option tactic.hygienic false
noncomputable def cT:Nat->Expr->List Str
 |0,_=>[]
 |n+1,e=>match e with
  | .Name x _=>[x]
  | .Subscript o i _=>(if(iI o).isSome then[]else cT n o)++cT n i
  | .Call f args cB _=>(match iI f with
    |some p=>if p.1==("len":Str)&&(one args).any (λe=>(iI e).isSome)then[]else args.flatMap (cT n)
    |none=>(match(vE f).HJ with
     |some a=>(match iI a.1 with
      |some x=>if a.2.1==("items":Str)then[x.1]else[]
      |none=>cT n a.1)++args.flatMap (cT n)++cB.flatMap λkw=>cT n kw.value
     |none=>[]))
  | .Attribute o _ _=>cT n o
  | .BinOp a _ b _=>cT n a++cT n b
  | .UnaryOp _ a _=>cT n a
  | .BoolOp _ es _=>es.flatMap (cT n)
  | .Compare a _ bs _=>cT n a++bs.flatMap (cT n)
  | .IfExp a b d _=>cT n a++cT n b++cT n d
  | .List es _=>es.flatMap (cT n)
  | .Tuple es _ _=>es.flatMap (cT n)
  | .Dict ks vs _=>ks.flatMap (λk=>k.toList.flatMap (cT n))++vs.flatMap (cT n)
  | .ListComp elt gens scope _=>scope.names.map (·.1)++cT n elt++gens.flatMap λg=>cT n g.iter
  | .DictComp k v gens scope _=>scope.names.map (·.1)++cT n k++cT n v++gens.flatMap λg=>cT n g.iter
  |_=>[]
noncomputable def Mu:Expr->List Str
 | .Subscript _ i _=>cT 20 i
 |_=>[]
noncomputable def ia:Stmt->List Str
 | .If t _ _ _=>cT 20 t
 | .Return e _=>e.toList.flatMap (cT 20)
 | .Assert t _ _=>cT 20 t
 | .Expr e _=>(match(vE e).call with
   |some q=>if((vE q.1).HJ.bind λa=>iI a.1).isSome then q.2.1.flatMap (cT 20)else[]
   |none=>[])
 | .AugAssign _ _ e _=>cT 20 e
 | .Assign ts e _=>cT 20 e++ts.flatMap Mu
 | .For _ iter _ _ _=>cT 20 iter
 |_=>[]
noncomputable def Fl(ns:dM)(x:Str):Bool:=ns.lookup x==some .local||ns.lookup x==some .cell
noncomputable def oS(ns:dM)(t e:Expr):Bool:=match(vE t).tup,(vE e).tup with
 |some ts,some _=>ts.1.any λx=>(iI x).all λy=>ns.lookup y.1 !=some .local
 |_,_=>true
noncomputable def Lr{R:Type}(tb:Tb)(σ:ah)(s attr:Str)(y:AV)(k:ah->Option R):Option R:=if Af s then none else(σ.lookup s).bind λev=>match ev with
 | .self a C fl=>if tb.cls C&& !bS C fl&&(fl.lookup attr).isNone&&az.contains attr&&decide (fl.length<100)then k (aQ σ s (.self a C (fl++[(attr,y)])))else none
 |_=>none
noncomputable def MK{R:Type}(σ:ah)(x:Str)(iv y:AV)(k:ah->Option R):Option R:=(σ.lookup x).bind λev=>match ev with
 | .ol xs=>d8 iv λj=>if 0<=j/\j<xs.length/\xs.length<=1000 then k (aQ σ x (.ol (xs.set j.toNat y)))else none
 | .od l=>b8 iv λj=>if l.length<=1000 then k (aQ σ x (.od (bI l j y)))else none
 |_=>none
noncomputable def Bw{R:Type}(tb:Tb)(ns:dM)(C:eZ)(σ:ah)(t:Expr)(y:AV)(k:ah->Option R):Option R:=match t with
 | .Name x _=>if Fl ns x then k (aQ σ x (.fz y))else none
 | .Attribute o attr _=>(iI o).bind λp=>Lr tb σ p.1 attr y k
 | .Subscript o i _=>(iI o).bind λp=>if Af p.1 then none else C.ev σ i λiv=>MK σ p.1 iv y k
 |_=>none
noncomputable def Fa{R:Type}(tb:Tb)(ns:dM)(C:eZ):ah->List Expr->List AV->(ah->Option R)->Option R
 |σ,[],ys,k=>if ys.isEmpty then k σ else none
 |σ,t::ts,ys,k=>(match ys with
  |[]=>none
  |y::ys=>if isStarred t then none else Bw tb ns C σ t y λσ'=>Fa tb ns C σ' ts ys k)
noncomputable def Qw{R:Type}(tb:Tb)(ns:dM)(C:eZ)(σ:ah)(t:Expr)(y:AV)(k:ah->Option R):Option R:=match(vE t).tup with
 |some ts=>uR y λys=>Fa tb ns C σ ts.1 ys k
 |none=>Bw tb ns C σ t y k
noncomputable def IC(ns:dM)(x:Str)(p:Pos)(e:Expr)(scope:Scope):Bool:=ns.lookup x==some .local&&p.line==e.pos.line&& !(scope.names.any λ(n,k)=>n==x&&(k== .local||k== .cell))
noncomputable def oJ{R:Type}(tb:Tb)(ns:dM)(C:eZ)(σ:ah)(t e:Expr)(k:ah->Option R):Option R:=
 if isStarred t then none else if oS ns t e then C.ev σ e λy=>Qw tb ns C σ t y k else none
noncomputable def vQ{R:Type}(tb:Tb)(Ef:dM->eZ)(ns:dM)(σ:ah)(t e:Expr)(k:ah->Option R):Option R:=match e with
 | .List es _=>(iI t).bind λp=>if Fl ns p.1 then lZ ((Ef ns).ev σ) es λxs=>if xs.length<=1000 then k (aQ σ p.1 (.ol xs))else none else none
 | .Dict ks vs _=>(iI t).bind λp=>if Fl ns p.1&&ks.isEmpty&&vs.isEmpty then k (aQ σ p.1 (.od []))else none
 | .ListComp a g scope q=>(iI t).bind λp=>if IC ns p.1 p.2 (.ListComp a g scope q) scope then nM tb Ef ns σ (.ListComp a g scope q) scope (.l []) λa=>(gO a).bind λxs=>k (aQ σ p.1 (.ol xs))else none
 | .BinOp l op r q=>(match op with
   | .Mult=>(match l with
     | .List es lp=>(iI t).bind λp=>if Fl ns p.1 then(Ef ns).ev σ (.List es lp) λx=>(Ef ns).ev σ r λy=>d7 x λxs=>d8 y λj=>(one xs).bind λx=>if 0<=j/\j<=1000 then k (aQ σ p.1 (.ol (List.replicate j.toNat x)))else none else none
     |l=>oJ tb ns (Ef ns) σ t (.BinOp l .Mult r q) k)
   |op=>oJ tb ns (Ef ns) σ t (.BinOp l op r q) k)
 |e=>if gz e then none else oJ tb ns (Ef ns) σ t e k
noncomputable def bU(body:ah->Option fW)(names:List Str):List (List AV)->ah->Option fW
 |[],σ=>some (.next σ)
 |row::rows,σ=>(body (aX σ names row)).bind λo=>match o with
  | .next σ'=>bU body names rows σ'
  | .cont σ'=>bU body names rows σ'
  | .ret x σ'=>some (.ret x σ')
noncomputable def f6{R:Type}(kN:ah->Option R)(kC:ah->Option R)(kR:AV->ah->Option R)(o:fW):Option R:=match o with
 | .next σ=>kN σ
 | .cont σ=>kC σ
 | .ret x σ=>kR x σ
noncomputable abbrev UG:={R:Type}->ah->List Stmt->(ah->Option R)->(ah->Option R)->(AV->ah->Option R)->Option R
noncomputable def Lw{R:Type}(C:eZ)(σ:ah)(e:Expr)(k:ah->Option R):Option R:=
 (vE e).call.bind λq=>(vE q.1).HJ.bind λa=>(iI a.1).bind λx=>(one q.2.1).bind λe=>if a.2.1==("append":Str)&& !Af x.1&& !isStarred e&&a.2.2.endLine==q.2.2.2.line&&q.2.2.1.isEmpty then
  C.ev σ e λy=>(σ.lookup x.1).bind λev=>(match ev with
   | .ol xs=>if xs.length<=1000 then k (aQ σ x.1 (.ol (xs++[y])))else none
   |_=>none)else none
noncomputable def P4(op:Operator)(a b:Int):Option Int:=match op with
 | .Add=>some (a+b)
 | .Sub=>some (a-b)
 |_=>none
noncomputable def Lq{R:Type}(ns:dM)(C:eZ)(σ:ah)(t:Expr)(op:Operator)(e:Expr)(k:ah->Option R):Option R:=
 (iI t).bind λx=>if Fl ns x.1 then C.ev σ e λy=>(σ.lookup x.1).bind λev=>(match ev with
  | .fz v=>d8 v λa=>d8 y λb=>(P4 op a b).bind λz=>k (aQ σ x.1 (.fz (.int z)))
  |_=>none)else none
noncomputable def Sl{R:Type}(tb:Tb)(Ef:dM->eZ)(ns:dM)(go:UG)(σ:ah)(st:Stmt)(kN:ah->Option R)(kC:ah->Option R)(kR:AV->ah->Option R):Option R:=match st with
 | .If t b o _=>(Ef ns).tr σ t λq=>if q=true then go σ b kN kC kR else go σ o kN kC kR
 | .Return v _=>(match v with
   |some e=>(Ef ns).ev σ e λx=>kR x σ
   |none=>kR .none σ)
 | .Assert t _ _=>(Ef ns).tr σ t λq=>if q=true then kN σ else none
 | .Pass _=>kN σ
 | .Continue _=>kC σ
 | .Expr e _=>Lw (Ef ns) σ e kN
 | .AugAssign t op e _=>Lq ns (Ef ns) σ t op e kN
 | .Assign ts e _=>(one ts).bind λt=>vQ tb Ef ns σ t e kN
 | .For tg iter body RI _=>if RI.isEmpty&& !o7 iter&&(aJ tg).all (Fl ns)then rM tb ns (Ef ns) σ iter tg λrows=>(bU (λτ=>go τ body (λσ=>some (.next σ)) (λσ=>some (.cont σ)) λx σ=>some (.ret x σ)) (aJ tg) rows σ).bind (f6 kN kC kR)else none
 |_=>none
noncomputable def bB(tb:Tb)(cb:Cb)(ns:dM)(m:Nat):Nat->{R:Type}->ah->List Stmt->(ah->Option R)->(ah->Option R)->(AV->ah->Option R)->Option R
 |0,_,_,_,_,_,_=>none
 |n+1,_,σ,Sk,kN,kC,kR=>match Sk with
  |[]=>kN σ
  |st::rest=>match cb.stmt ns ((ia st).foldl lU σ) st with
   |some σ'=>bB tb cb ns m n σ' rest kN kC kR
   |none=>Sl tb (kA tb cb m) ns (bB tb cb ns m n) ((ia st).foldl lU σ) st (λσ'=>bB tb cb ns m n σ' rest kN kC kR) kC kR
set_option tactic.hygienic true
noncomputable def f8:List Addr:=[21,28,35,42,57,64,71,78,86,93,100,107,114,121,128,135,142,149,156,163,170,177,184,192,199,206,211,221,245,252,260,267,274,281,300,307,314,321,328,335,347,354,359,366,380,387,394,413,420,427,446,454,461,468,475,482,502,509,516,523,542,550,557,564,571,590,595,602,619,624,632,637,642,647,652,666,671,678,685,692,697,702]
noncomputable def mr(K:Frag)(env:Env):Prop:=(∃f d,f8.contains f=true/\(∃o,K.lookup f=some o/\o.data= .func d)/\env.scope=d.scope/\(env.code=d.code/\env.qual=d.qualname++".<locals>."))\/(env.scope.names.lookup ("script":Str)).isSome=true
structure mu(c:Cx)(tb:Tb)(cb:Cb)(k:Nat):Prop where
 set:∀C,tb.cls C=true->iw c.K C
 stmt:∀σ st σ' env A,cb.stmt env.scope.names σ st=some σ'->env.scope.kind= .function->mr c.K env->bq A k->ju c env A σ st (.next σ')
section
variable{c:Cx}{tb:Tb}{cb:Cb}{k:Nat}{env:Env}{A:Around}{σ:ah}{C:eZ}{Ef:dM->eZ}{R:Type}{r:R}
theorem jF{x}(h:Fl env.scope.names x=true):env.kindOf x=some .local\/env.kindOf x=some .cell:=(WF.mp h).imp beq_iff_eq.mp beq_iff_eq.mp
theorem uE(O:aM c)(u:mu c tb cb k)(h:HE c env A C){t y}{k':ah->Option R}(he:Bw tb env.scope.names C σ t y k'=some r):∃σ',AU c env A σ t y σ'/\k' σ'=some r:=by
 induction t using Expr.casesOn
 case Name x p=>refine af (rQ he) λf he=>?_;exact ag _ (kI (jF f)) he
 case Attribute o attr p=>
  refine ar he λs h1 he=>?_;refine af (sT he) λhd he=>?_;refine ar he λev f he=>?_;induction ev
  case self a D fl=>refine bD he λq he=>?_;refine bK q λq q5=>?_;refine bK q λq q4=>?_;refine bK q λq q3=>?_;refine bK q λq1 q2=>?_;exact ag _ (cj h1▸Bv O (u.set _ q1) f hd (Db q2) (Option.isNone_iff_eq_none.mp q3) q4 (V9 q5)) he
  all_goals exact ad he
 case Subscript o i p=>
  refine ar he λs h1 he=>?_;refine af (sT he) λhd he=>?_;refine ab (h.ev he) λz hi he=>?_;refine ar he λev f he=>?_;induction ev
  case ol xs=>refine ab (bX he) λj e he=>?_;refine bD he λq he=>?_;exact ag _ (cj h1▸Bt f hd (e▸hi) q.1 q.2.1 q.2.2) he
  case od l=>refine ab (dr he) λj e he=>?_;refine bD he λq he=>?_;exact ag _ (cj h1▸Bu f hd (e▸hi) q) he
  all_goals exact ad he
 all_goals exact ad he
theorem uD(O:aM c)(f:mu c tb cb k)(h:HE c env A C):∀{ts ys σ}{k':ah->Option R},Fa tb env.scope.names C σ ts ys k'=some r->∃σ',ik c env A σ ts ys σ'/\k' σ'=some r
 |[],ys,σ,_,he=>by refine bD he λq he=>?_;exact ag σ (Wa.mp q▸ .nil) he
 |t::ts,[],σ,_,he=>ad he
 |t::ts,y::ys,σ,_,he=>by refine af (sT he) λi he=>?_;refine ab (uE O f h he) λτ h1 he=>?_;refine ab (uD O f h he) λu h2 he=>?_;exact ag u (.cons i h1 h2) he
theorem IE{t e y}{k':ah->Option R}(he:Bw tb env.scope.names C σ t y k'=some r):swappedStores [t] e env=pure none:=by
 induction t using Expr.casesOn
 case Name=>rfl
 case Attribute=>rfl
 case Subscript=>rfl
 all_goals exact ad he
theorem ID{t e ts}(ht:(vE t).tup=some ts)(h:oS env.scope.names t e=true):swappedStores [t] e env=pure none:=by
 rw[lr ht];unfold oS at h;rw[ht]at h
 induction he:(vE e).tup with
 |none=>induction e using Expr.casesOn<;>first|rfl|exact nomatch he
 |some es=>
  rw[he]at h;rw[lr he];refine ab (VX.mp h) λx hx q=>?_;exact xF ⟨x,hx,λy hy z=>by
   rw[hy]at q;exact bne_iff_ne.mp q z⟩
theorem jJ(O:aM c)(f:mu c tb cb k)(z:bq A k)(h:HE c env A C){t e pos}{k':ah->Option R}(i:gz e=false)(he:oJ tb env.scope.names C σ t e k'=some r):∃σ',ju c env A σ (.Assign [t] e pos) (.next σ')/\k' σ'=some r:=by
 refine af (sT he) λu he=>?_;refine bD he λhw he=>?_;refine ab (h.ev he) λy h1 he=>?_;unfold Qw at he
 induction ht:(vE t).tup with
 |some ts=>rw[ht]at he;refine ab (yl he) λys B he=>?_;refine ab (uD O f h he) λτ h2 he=>?_;exact ag τ (nH i (ID ht hw) u (B▸h1) (lr ht▸qZ z.r.handled h2)) he
 |none=>rw[ht]at he;refine ab (uE O f h he) λτ h2 F=>?_;exact ag τ (nH i (IE he) u h1 h2) F
theorem uo(O:aM c)(tk:c8 c tb)(G:mu c tb cb k)(i:bq A k)(H:env.scope.kind= .function)(h:xd c k Ef){t e pos}{k':ah->Option R}(he:vQ tb Ef env.scope.names σ t e k'=some r):
 ∃σ',ju c env A σ (.Assign [t] e pos) (.next σ')/\k' σ'=some r:=by
 have f:=h env A H i;induction e using Expr.casesOn
 case List es p=>refine ar he λx h1 he=>?_;refine bD he λz he=>?_;refine ab (dJ f he) λxs h2 he=>?_;refine bD he λF he=>?_;exact ag _ (cj h1▸fV rfl (jF z) λH₀=>gT (h2 H₀) F) he
 case Dict ks vs p=>refine ar he λx h1 he=>?_;refine bD he λq P=>?_;refine bK q λq q3=>?_;refine bK q λz q2=>?_;clear he;obtain rfl:=Wa.mp q2;obtain rfl:=Wa.mp q3;exact ag _ (cj h1▸ua rfl (jF z) λH₀=>lG) P
 case ListComp elt gens scope Ul=>
  refine ar he λx h1 he=>?_;refine bD he λq he=>?_;refine ab (uX (k':=λxs=>k' (aQ σ x.1 (.ol xs))) O tk i H h he) λxs X he=>?_;refine ag _ ?_ he;obtain⟨Q,B,I,U,rows,sc,dO,Y⟩:=X;have e:gens=⟨Q,B,I,0⟩::U:=Y.cl;subst e;refine bK q λq q3=>?_;refine bK q λq1 q2=>?_;have J:env.kindOf x.1=some .local:=beq_iff_eq.mp q1;rw[cj h1];refine ub ?_ J Y.ctx Y.loc Y.fold Y.it Y.run;have hb:env.blockKind= .function:=by unfold Env.blockKind;rw[H];rfl
  unfold swapsWith;simp only[hb,J,q3,beq_self_eq_true,Bool.true_and,Bool.and_true];exact Vx pure q2
 case BinOp l op rr p=>
  induction op
  case Mult=>
   induction l using Expr.casesOn
   case List es lp=>refine ar he λx h1 he=>?_;refine bD he λz he=>?_;refine ab (f.ev he) λu h2 he=>?_;refine ab (f.ev he) λv W he=>?_;refine ab (cY he) λxs N he=>?_;refine ab (bX he) λj Z he=>?_;refine ar he λy e3 he=>?_;refine bD he λF he=>?_;rw[de e3]at N;exact ag _ (cj h1▸fV rfl (jF z) λH₀=>yz F.1 F.2 ((N▸h2) H₀) ((Z▸W) H₀)) he
   all_goals exact jJ O G i f rfl he
  all_goals exact jJ O G i f rfl he
 all_goals first|exact jJ O G i f rfl he|exact ad he
theorem pj{body:List Stmt}{go:ah->Option fW}{names:List Str}(h:∀σ o,go σ=some o->dG c env A σ body o):∀{rows σ o},bU go names rows σ=some o->LM c env A names body σ rows o
 |[],σ,o,he=>Option.some.inj he▸ .done
 |row::rows,σ,o,he=>by
  refine ar he λq hb he=>?_
  induction q with
  |next σ'=>exact .next (h _ _ hb) (pj h he)
  |cont σ'=>exact .cont (h _ _ hb) (pj h he)
  |ret x σ'=>exact Option.some.inj he▸ .ret (h _ _ hb)
theorem Do(f:env.scope.kind= .function)(h:HE c env A C){e pos}{k':ah->Option R}(he:Lw C σ e k'=some r):∃σ',ju c env A σ (.Expr e pos) (.next σ')/\k' σ'=some r:=by
 refine ar he λq h1 he=>?_;refine ar he λa h2 he=>?_;refine ar he λx i he=>?_;refine ar he λa1 u he=>?_;refine bD he λb he=>?_;refine bK b λb b5=>?_;refine bK b λb b4=>?_;refine bK b λb b3=>?_;refine bK b λb1 b2=>?_;refine ab (h.ev he) λy z he=>?_;refine ar he λev B he=>?_;induction ev
 case ol xs=>refine bD he λF he=>?_;have e0:=pG h1;rw[um h2,cj i,de u,beq_iff_eq.mp b1,Wa.mp b5]at e0;exact ag _ (e0▸wL f B (Db b2) (Db b3) z b4 F) he
 all_goals exact ad he
theorem Dn(h:HE c env A C){t op e pos}{k':ah->Option R}(he:Lq env.scope.names C σ t op e k'=some r):∃σ',ju c env A σ (.AugAssign t op e pos) (.next σ')/\k' σ'=some r:=by
 refine ar he λx h1 he=>?_;refine bD he λi he=>?_;refine ab (h.ev he) λy u he=>?_;refine ar he λev B he=>?_;induction ev
 case fz v=>
  refine ab (bX he) λa F he=>?_;refine ab (bX he) λb G he=>?_;refine ar he λz f he=>?_;refine ag _ (cj h1▸GV (jF i) (F▸B) (G▸u) ?_) he;induction op
  case Add=>exact .inl ⟨rfl,(Option.some.inj f).symm⟩
  case Sub=>exact .inr ⟨rfl,(Option.some.inj f).symm⟩
  all_goals exact ad f
 all_goals exact ad he
theorem kY(O:aM c)(tk:c8 c tb)(B:eU c tb cb k)(F:mu c tb cb k)(te:mr c.K env)(i:bq A k)(u:env.scope.kind= .function){m}:∀n{R:Type}{r:R}{σ b kN kC kR},bB tb cb env.scope.names m n σ b kN kC kR=some r->∃o,dG c env A σ b o/\f6 kN kC kR o=some r
 |0,_,_,_,_,_,_,_,he=>ad he
 |n+1,_,_,σ,[],kN,_,_,he=>⟨.next σ,vq,he⟩
 |n+1,R,r,σ,st::rest,kN,kC,kR,he=>by
  have f:=jl O tk B m env A u i;have z:= @kY O tk B F te i u m n;have next:∀{σ'},ju c env A ((ia st).foldl lU σ) st (.next σ')->bB tb cb env.scope.names m n σ' rest kN kC kR=some r->∃o,dG c env A σ (st::rest) o/\f6 kN kC kR o=some r:=λX he=>by refine ab (z he) λo h1 h2=>?_;exact ag o (gG (rZ X h1)) h2
  have same:∀{o},ju c env A ((ia st).foldl lU σ) st o->f6 (λσ'=>bB tb cb env.scope.names m n σ' rest kN kC kR) kC kR o=some r->∃o,dG c env A σ (st::rest) o/\f6 kN kC kR o=some r:=λ{o} X he=>by
   induction o with
   |next σ'=>exact next X he
   |cont σ'=>exact ag _ (gG (zO X)) he
   |ret x σ'=>exact ag _ (gG (vp X)) he
  unfold bB at he;dsimp only at he
  induction hs:cb.stmt env.scope.names ((ia st).foldl lU σ) st with
  |some σ'=>rw[hs]at he;exact next (F.stmt _ _ _ env A hs u te i) he
  |none=>
   rw[hs]at he;clear hs;generalize(ia st).foldl lU σ=τ at he next same
   dsimp only at he;induction st using Stmt.casesOn
   case If t b o p=>
    refine ab (f.tr he) λq h1 he=>?_
    induction q with
    |true=>refine ab (z he) λG h2 he=>?_;exact same (Ew h1 (λ_=>h2) (λq=>nomatch q)) he
    |false=>refine ab (z he) λG h2 he=>?_;exact same (Ew h1 (λq=>nomatch q) (λ_=>h2)) he
   case Return v p=>
    induction v with
    |none=>exact same CN he
    |some e=>refine ab (f.ev he) λx h1 he=>?_;exact same (zU h1) he
   case Assert t mm p=>refine ab (f.tr he) λq h1 he=>?_;refine af (JF he) λH he=>?_;subst H;exact same (nJ h1) he
   case Pass p=>exact same CO he
   case Continue p=>exact same CP he
   case Expr e p=>obtain⟨σ',h1,he⟩:=Do (k':=λσ'=>bB tb cb env.scope.names m n σ' rest kN kC kR) u f he;exact next h1 he
   case AugAssign t op e p=>obtain⟨σ',h1,he⟩:=Dn (k':=λσ'=>bB tb cb env.scope.names m n σ' rest kN kC kR) f he;exact next h1 he
   case Assign ts e p=>refine ar he λt h1 he=>?_;obtain⟨σ',h2,he⟩:=uo O tk F i u (jl O tk B m) he;exact next (de h1▸h2) he
   case For tg iter body RI p=>refine bD he λq he=>?_;refine bK q λq q3=>?_;refine bK q λq1 q2=>?_;refine ab (lK O tk i f he) λrows h1 he=>?_;refine ar he λo h2 he=>?_;refine same (Wa.mp q1▸GU (jW (Db q2)) (λx hx=>jF (VB.mp q3 x hx)) h1 (pj (λσ o hb=>?_) h2)) he;refine ab (z hb) λG I hb=>?_;induction G<;>exact Option.some.inj hb▸I
   all_goals exact ad he
end
set_option tactic.hygienic false
set_option tactic.hygienic true
inductive mv where
 |pos(i:Nat)
 |kw(i:Nat)
 |none
 |Iq
 |Ko
noncomputable def mv.val(vs:List Value)(kv:List (Str×Value)):mv->Value
 | .pos i=>vs[i]?.getD .none
 | .kw i=>(kv[i]?.map (·.2)).getD .none
 | .none=> .none
 | .Iq=> .bool true
 | .Ko=> .bool false
noncomputable def mv.av(xs:List AV)(kx:List (Str×AV)):mv->AV
 | .pos i=>xs[i]?.getD .none
 | .kw i=>(kx[i]?.map (·.2)).getD .none
 | .none=> .none
 | .Iq=> .bool true
 | .Ko=> .bool false
theorem mv.vr{T:TM}{vs kv xs kx}(h:dx T vs xs)(h2:jA T kv kx)(p:mv):VR T (p.val vs kv) (p.av xs kx):=by
 induction p with
 |pos i=>
  induction h generalizing i with
  |nil=>exact .none
  |cons h _ ih=>induction i using WP with
   |zero=>exact h
   |succ i=>exact ih i
 |kw i=>
  clear h
  induction h2 generalizing i with
  |nil=>exact .none
  |cons h _ ih=>induction i using WP with
   |zero=>exact h.2
   |succ i=>exact ih i
 |none=>exact .none
 |Iq=>exact .bool _
 |Ko=>exact .bool _
structure Sp where
 call:Cb->Addr->List AV->List (Str×AV)->Option AV
 stmt:dM->ah->Stmt->Option ah
noncomputable def A0(sp:Sp):Bool->dM->ah->Stmt->Option ah
 |true=>sp.stmt
 |false=>λ_ _ _=>none
structure jt where
 ns:Addr->Option dM
 body:Addr->Option (List Stmt)
 sig:Addr->Nat->List Str->Option (List (Str×mv))
 init:Addr->Option Addr
noncomputable def DM(C:Addr)(self:Str)(g:Addr->List (Str×AV)->Option (List (Str×AV)))(σ:ah):Option (List (Str×AV)):=(σ.lookup self).bind λev=>match ev with
 | .self a C' fl=>if C'=C then g a fl else none
 |_=>none
noncomputable def lP(tb:Tb)(cb:Cb)(ns:dM)(b:List Stmt)(C:Addr)(self:Str)(l:List (Str×mv))(xs:List AV)(a:Addr)(g:Addr->List (Str×AV)->Option (List (Str×AV))):Option (List (Str×AV)):=
 bB tb cb ns 40 200 ((self,.self a C [])::sY (l.map λp=>(p.1,p.2.av (.none::xs) []))) b (DM C self g) (λ_=>none) (λ_ _=>none)
noncomputable def sF(c:Cx)(d:FuncData)(n:Nat)(cB:List Str)(l:List (Str×mv)):Prop:=j7 d.scope (l.map (·.1))/\
 ∀s vs kv,c.K.In s.heap->vs.length=n->kv.map (·.1)=cB->BindsTo s d ⟨vs,kv⟩ (l.map λp=>(p.1,p.2.val vs kv))
structure k9(c:Cx)(tb:Tb)(sp:Sp)(ft:jt):Prop where
 fn:∀f ns b,ft.ns f=some ns->ft.body f=some b->∃d,(d.scope.names=ns/\f8.contains f=true)/\sO c.K f d b/\∀n cB l,ft.sig f n cB=some l->sF c d n cB l
 init:∀C f,ft.init C=some f->iS c.K C f
 par:∀C f ns b self l xs,ft.init C=some f->ft.ns f=some ns->ft.body f=some b->ft.sig f (xs.length+1) []=some ((self,.pos 0)::l)->∀call make q a g,
  lP tb ⟨call,make,A0 sp q⟩ ns b C self l xs a g=lP tb ⟨call,make,A0 sp q⟩ ns b C self l xs 0 λ_=>g a
noncomputable def AE(ft:jt)(f:Addr)(xs:List AV)(kx:List (Str×AV)):Option (List (Str×AV)):=(ft.sig f xs.length (kx.map (·.1))).map λl=>l.map λp=>(p.1,p.2.av xs kx)
noncomputable def uW:Cb:=⟨λ_ _ _=>none,λ_ _=>none,λ_ _ _=>none⟩
noncomputable def callC(tb:Tb)(ft:jt)(cb:Cb)(f:Addr)(xs:List AV)(kx:List (Str×AV)):Option AV:=
 (ft.ns f).bind λns=>(ft.body f).bind λb=>(AE ft f xs kx).bind λps=>bB tb cb ns 40 200 (sY ps) b (λ_=>some .none) (λ_=>none) (λx _=>some x)
noncomputable def zg:mv->Bool
 | .pos i=>i==0
 |_=>false
noncomputable def rF(tb:Tb)(ft:jt)(cb:Cb)(C:Addr)(xs:List AV):Option (List (Str×AV)):=
 (ft.init C).bind λf=>(ft.ns f).bind λns=>(ft.body f).bind λb=>(ft.sig f (xs.length+1) []).bind λl=>match l with
 |(self,.pos 0)::l=>if l.any (λp=>zg p.2)then none else lP tb cb ns b C self l xs 0 λ_ fl=>some fl
 |_=>none
noncomputable def Ny(tb:Tb)(ft:jt)(sp:Sp)(c1:Cb)(c0:Option Cb):Cb where
 call f xs kx:=match sp.call c1 f xs kx with
  |some r=>some r
  |none=>callC tb ft c1 f xs kx
 make C xs:=c0.bind λc0=>rF tb ft c0 C xs
 stmt:=A0 sp c0.isSome
noncomputable def lB(tb:Tb)(ft:jt)(sp:Sp):Nat->Cb×Option Cb
 |0=>(uW,none)
 |k+1=>(Ny tb ft sp (lB tb ft sp k).1 (lB tb ft sp k).2,some (lB tb ft sp k).1)
structure LB(c:Cx)(tb:Tb)(sp:Sp):Prop where
 call:∀k cb f xs kx r,eU c tb cb k->mu c tb cb k->sp.call cb f xs kx=some r->dz c f xs kx r (k+1)
 stmt:∀k σ st σ' env A,1<=k->sp.stmt env.scope.names σ st=some σ'->env.scope.kind= .function->mr c.K env->bq A (k+1)->ju c env A σ st (.next σ')
section
variable{c:Cx}{tb:Tb}{ft:jt}{sp:Sp}{cb:Cb}{k:Nat}
theorem u8(l:List (Str×mv))(xs kx):(l.map λp=>(p.1,p.2.av xs kx)).map (·.1)=l.map (·.1):=by simp
theorem u7{T:TM}{vs kv xs kx}(h:dx T vs xs)(h2:jA T kv kx):∀(l:List (Str×mv)),jA T (l.map λp=>(p.1,p.2.val vs kv)) (l.map λp=>(p.1,p.2.av xs kx))
 |[]=> .nil
 |p::l=> .cons (p.2.vr h h2) (u7 h h2 l)
theorem ml(O:aM c){f d xs kx ps}(z:∀n i l,ft.sig f n i=some l->sF c d n i l)(h:AE ft f xs kx=some ps):EJ c d xs kx ps/\j7 d.scope (ps.map (·.1)):=by refine yM h λl h1 h2=>?_;refine af (z _ _ _ h1) λB F=>?_;rw[<-h2];exact⟨λT s vs G w hv u=>⟨_,F s vs G (w.gh O) hv.length u.keys,u7 hv u l⟩,by rw[u8];exact B⟩
theorem As(O:aM c)(tk:c8 c tb)(u:eU c tb cb k)(z:mu c tb cb k)(B:k9 c tb sp ft){f xs kx r}(h:callC tb ft cb f xs kx=some r):dz c f xs kx r (k+1):=by
 refine ar h λd h1 h=>?_;refine ar h λb h2 h=>?_;refine ar h λps F h=>?_;refine bV (B.fn f d b h1 h2) λfd G X H=>?_;refine af G λe0 I=>?_;refine af (ml O H F) λJ N=>?_;refine mh O X J N λenv Q e P R=>?_;rw[<-e0,<-e]at h;refine ab (kY O tk u z (.inl ⟨f,fd,I,X.look,e,P⟩) R (e▸X.kind) 200 h) λo i h=>?_
 induction o with
 |next σ=>exact ag _ i (.inr ⟨(Option.some.inj h).symm,σ,rfl⟩)
 |cont σ=>exact ad h
 |ret x σ=>exact ag _ i (.inl ⟨σ,Option.some.inj h▸rfl⟩)
theorem rI{T:TM}{v:Value}{vs xs}(h:dx T vs xs):∀(l:List (Str×mv)),l.any (λp=>zg p.2)=false->jA T (l.map λp=>(p.1,p.2.val (v::vs) [])) (l.map λp=>(p.1,p.2.av (.none::xs) []))
 |[],_=> .nil
 |(n,p)::l,hz=>by
  refine af (Bool.or_eq_false_iff.mp hz) λh1 h2=>?_;refine .cons ?_ (rI h l h2)
  induction p with
  |pos i=>induction i using WP with
   |zero=>injection h1
   |succ i=>exact(mv.pos i).vr h (.nil:jA T [] [])
  |kw i=>exact .none
  |none=>exact .none
  |Iq=>exact .bool _
  |Ko=>exact .bool _
theorem xY{C self g σ fl}(h:DM C self g σ=some fl):∃a f,σ.lookup self=some (.self a C f)/\g a f=some fl:=by
 refine ar h λev h1 h=>?_;induction ev
 case self a D f=>refine bD h λe h=>?_;exact jn a f (e▸h1) h
 all_goals exact ad h
theorem yN(O:aM c)(tk:c8 c tb)(F:eU c tb cb k)(G:mu c tb cb k){q}(H:cb.stmt=A0 sp q)(u:k9 c tb sp ft){C xs fl}(h:rF tb ft cb C xs=some fl):∃f,iS c.K C f/\sL c C f xs fl (k+1):=by
 refine ar h λf hf h=>?_;refine ar h λd h1 h=>?_;refine ar h λb h2 h=>?_;refine ar h λl z h=>?_;rcases l with _|⟨⟨self,p⟩,l⟩
 . exact ad h
 induction p
 case pos i=>
  induction i using WP with
  |succ i=>exact ad h
  |zero=>
   refine af (sT h) λI h=>?_;refine bV (u.fn f d b h1 h2) λfd J X N=>?_;refine af J λe0 Q=>?_;refine af (N _ _ _ z) λU W=>?_;refine ag f (u.init C f hf) (zk O (self:=self) (ps:=l.map λp=>(p.1,p.2.av (.none::xs) [])) X (λT s v vs w hv=>?_) (by rw[u8];exact U) λa env A' e Y R=>?_)
   . exact ag (l.map λ(p:Str×mv)=>(p.1,p.2.val (v::vs) [])) (W s (v::vs) [] (w.gh O) (Vx (· +1) hv.length) rfl) (rI hv l I)
   . have P:=u.par C f d b self l xs hf h1 h2 z cb.call cb.make q a λB fl=>if B=a then some fl else none
     rw[<-H]at P;have h:=(P.trans (Vx _ (by simp))).trans h;unfold lP at h;rw[<-e0,<-e]at h;refine ab (kY O tk F G (.inl ⟨f,fd,Q,X.look,e,Y⟩) R (e▸X.kind) 200 h) λo Z h=>?_
     induction o with
     |next σ=>refine aP (xY h) λB eK h5 h=>?_;refine bD h λe1 h=>?_;exact ag σ (e1▸Option.some.inj h▸h5) Z
     |cont σ=>exact ad h
     |ret x σ=>exact ad h
 all_goals exact ad h
theorem yy(k):eU c tb uW k:=⟨λ_ _ _ _ h=>ad h,λ_ _ _ h=>ad h⟩
theorem FY(f:∀C,tb.cls C=true->iw c.K C)(k):mu c tb uW k:=⟨f,λ_ _ _ _ _ h=>ad h⟩
structure LD(c:Cx)(tb:Tb)(sp:Sp)(p:Cb×Option Cb)(k:Nat):Prop where
 c1:eU c tb p.1 k
 s1:mu c tb p.1 k
 b1:∃q,p.1.stmt=A0 sp q
 c0:∀cb,p.2=some cb->∃j,j+1=k/\eU c tb cb j/\mu c tb cb j/\∃q,cb.stmt=A0 sp q
theorem uK(O:aM c)(tk:c8 c tb)(u:∀C,tb.cls C=true->iw c.K C)(z:k9 c tb sp ft)(B:LB c tb sp):∀k,LD c tb sp (lB tb ft sp k) k
 |0=>⟨yy 0,FY u 0,⟨false,rfl⟩,λ_ h=>ad h⟩
 |k+1=>by
  have X:=uK O tk u z B k;refine⟨⟨λf xs kx r h=>?_,λC xs fl h=>?_⟩,⟨u,λσ st σ' env A h F te R=>?_⟩,⟨_,rfl⟩,λcb h=>Option.some.inj h▸⟨k,rfl,X.c1,X.s1,X.b1⟩⟩
  . have h:(match sp.call (lB tb ft sp k).1 f xs kx with|some r=>some r|none=>callC tb ft (lB tb ft sp k).1 f xs kx)=some r:=h
    induction hr:sp.call (lB tb ft sp k).1 f xs kx with
    |some r'=>rw[hr]at h;exact Option.some.inj h▸B.call k _ f xs kx _ X.c1 X.s1 hr
    |none=>rw[hr]at h;exact As O tk X.c1 X.s1 z h
  . refine ab (bL (o:=(lB tb ft sp k).2) (f:=λi=>rF tb ft i C xs) h) λi h1 h2=>?_;obtain⟨j,G,H,I,q,J⟩:=X.c0 i h1;refine ab (yN (k:=j) O tk H I J z h2) λf N P=>?_;exact uh f (j+1) N P (by lia)
  . have h:A0 sp (lB tb ft sp k).2.isSome env.scope.names σ st=some σ':=h
    induction h1:(lB tb ft sp k).2 with
    |none=>rw[h1]at h;exact ad h
    |some i=>rw[h1]at h;refine ab (X.c0 i h1) λj G _=>?_;exact B.stmt k σ st σ' env A (by lia) h F te R
end
set_option tactic.hygienic false
set_option tactic.hygienic true
noncomputable def rP:Stmt->Option (Expr×List Stmt×List Stmt)
 | .If t b o _=>some (t,b,o)
 |_=>none
theorem Cq{st p}(h:rP st=some p):∃q,st= .If p.1 p.2.1 p.2.2 q:=by
 induction st using Stmt.casesOn
 case If t b o q=>exact⟨q,by rw[<-Option.some.inj h]⟩
 all_goals exact nomatch h
section
variable{tb:Tb}{cb:Cb}{ns:dM}{R:Type}{σ σ':ah}{st:Stmt}{rest:List Stmt}{m n:Nat}{kN kC:ah->Option R}{kR:AV->ah->Option R}
theorem nB(h:cb.stmt ns ((ia st).foldl lU σ) st=some σ'):bB tb cb ns m (n+1) σ (st::rest) kN kC kR=bB tb cb ns m n σ' rest kN kC kR:=by
 conv=>lhs;unfold bB
 dsimp only;rw[h]
theorem dF:bB tb cb ns m (n+2) σ (st::rest) kN kC kR=bB tb cb ns m (n+2) σ [st] (λσ=>bB tb cb ns m (n+1) σ rest kN kC kR) kC kR:=rfl
noncomputable def RY(tb:Tb)(cb:Cb)(ns:dM)(m n:Nat)(σ:ah)(st:Stmt)(σ':ah):Prop:=∀{R:Type}{kN kC:ah->Option R}{kR:AV->ah->Option R},bB tb cb ns m n σ [st] kN kC kR=kN σ'
theorem eE(h:RY tb cb ns m (n+2) σ st σ'):bB tb cb ns m (n+2) σ (st::rest) kN kC kR=bB tb cb ns m (n+1) σ' rest kN kC kR:=dF.trans h
theorem vt{p q}(h:rP st=some p)(f:cb.stmt ns ((ia st).foldl lU σ) st=none)(ht:∀k:Bool->Option R,(kA tb cb m ns).tr ((ia st).foldl lU σ) p.1 k=k q):
 bB tb cb ns m (n+1) σ (st::rest) kN kC kR=bB tb cb ns m n ((ia st).foldl lU σ) (if q=true then p.2.1 else p.2.2) (λσ=>bB tb cb ns m n σ rest kN kC kR) kC kR:=by
 refine ax (Cq h) λps i=>?_;subst i
 conv=>lhs;unfold bB
 dsimp only;rw[f];refine(ht _).trans ?_;induction q<;>rfl
theorem jk{t b o}(h:rP st=some (t,b,o))(f:(ia st).foldl lU σ=σ)(i:cb.stmt ns σ st=none)(ht:∀k:Bool->Option R,(kA tb cb m ns).tr σ t k=k true):
 bB tb cb ns m (n+1) σ (st::rest) kN kC kR=bB tb cb ns m n σ b (λσ=>bB tb cb ns m n σ rest kN kC kR) kC kR:=by
 have:=vt (tb:=tb) (cb:=cb) (ns:=ns) (m:=m) (n:=n) (rest:=rest) (kN:=kN) (kC:=kC) (kR:=kR) h (by rw[f];exact i) (by rw[f];exact ht);rw[f]at this;exact this
theorem zS{t b o}(h:rP st=some (t,b,o))(f:(ia st).foldl lU σ=σ)(i:cb.stmt ns σ st=none)(ht:∀k:Bool->Option R,(kA tb cb m ns).tr σ t k=k true):
 bB tb cb ns m (n+2) σ [st] kN kC kR=bB tb cb ns m (n+1) σ b kN kC kR:=jk h f i ht
theorem zQ:bB tb cb ns m (n+1) σ [] kN kC kR=kN σ:=rfl
theorem zR{t b}(h:rP st=some (t,b,[]))(f:(ia st).foldl lU σ=σ)(i:cb.stmt ns σ st=none)(ht:∀k:Bool->Option R,(kA tb cb m ns).tr σ t k=k false):
 bB tb cb ns m (n+2) σ (st::rest) kN kC kR=bB tb cb ns m (n+1) σ rest kN kC kR:=by
 have:=vt (tb:=tb) (cb:=cb) (ns:=ns) (m:=m) (n:=n+1) (rest:=rest) (kN:=kN) (kC:=kC) (kR:=kR) h (by rw[f];exact i) (by rw[f];exact ht);rw[f]at this;exact this
theorem Au{ft:jt}{f xs kx b ps}(h1:ft.ns f=some ns)(h2:ft.body f=some b)(i:AE ft f xs kx=some ps):callC tb ft cb f xs kx=bB tb cb ns 40 200 (sY ps) b (λ_=>some .none) (λ_=>none) (λx _=>some x):=by unfold callC;rw[h1,h2,i];rfl
theorem nE{o:Option fW}(h:∀{kN kC:ah->Option R}{kR:AV->ah->Option R},bB tb cb ns m (n+2) σ [st] kN kC kR=o.bind (f6 kN kC kR)):
 bB tb cb ns m (n+2) σ (st::rest) kN kC kR=o.bind (f6 (λσ=>bB tb cb ns m (n+1) σ rest kN kC kR) kC kR):=dF.trans h
end
set_option tactic.hygienic false
set_option tactic.hygienic true
theorem Lx{α:Type}{o:Option α}{p:α->Bool}(h:o.any p=true):∃a,o=some a/\p a=true:=by
 cases o with
 |none=>exact nomatch h
 |some a=>exact⟨a,rfl,h⟩
noncomputable def Bi:Value->Option Addr
 | .ref a=>some a
 |_=>none
theorem oi{v:Value}{a}(h:Bi v=some a):v= .ref a:=by induction v using Value.casesOn<;>first|exact ad h|exact Vx Value.ref (Option.some.inj h)
noncomputable def Ik:Value->Option String
 | .type a=>some a
 |_=>none
theorem Bh{v:Value}{a}(h:Ik v=some a):v= .type a:=by induction v using Value.casesOn<;>first|exact ad h|exact Vx Value.type (Option.some.inj h)
noncomputable def RM:Data->Option FuncData
 | .func fd=>some fd
 |_=>none
theorem Hc{v:Data}{a}(h:RM v=some a):v= .func a:=by induction v using Data.casesOn<;>first|exact ad h|exact Vx Data.func (Option.some.inj h)
noncomputable def ow(K:Frag)(C:Addr)(nm:Str):Bool:=((findIn K (.ref C) nm).bind λo=>o.bind Bi).isSome
noncomputable def ui(K:Frag)(C:Addr):Bool:=
 findIn K (.ref C) "__getattribute__"==some (some (.builtin "object.__getattribute__"))&&findIn K (.ref C) "__getattr__"==some none&&hasDictIn K C&&az.all (λk=>findIn K (.ref C) k==some none)&&
 findIn K (.ref C) "__setattr__"==some (some (.builtin "object.__setattr__"))&&plainOver K C&&(clsIn K C).any (·.hasDict)&&(aB::az).all (λk=>takerIn K C k==some none)&&
 plainGet K C "__class__"&&findIn K (.ref C) "__class__"==some (some (.builtin "object.__class__"))&&mroIn K C (.type "object")==some true&&findIn K (.ref C) aB==some (some .none)
theorem jo{k:Str}(h:az.contains k=true):k∈az:=by simpa using h
theorem jq{K C}(h:ui K C=true):f0 K C/\iw K C/\kr K C/\sJ K C:=by
 unfold ui at h;simp only[V6,WU]at h;refine af h λu z=>?_;refine af u λB F=>?_;obtain⟨⟨⟨⟨⟨⟨⟨⟨⟨h1,h2⟩,i⟩,G⟩,H⟩,I⟩,J⟩,N⟩,O⟩,P⟩:=B;have a:f0 K C:=⟨h1,h2,i,λk f=>beq_iff_eq.mp (VB.mp G k (jo f))⟩;have b:iw K C:=⟨H,I,J,λk f=>by
  refine beq_iff_eq.mp (VB.mp N k ?_);refine Or.elim f (λf=>?_) λf=>?_
  . exact .tail _ (jo f)
  . rw[f];exact .head _⟩
 exact⟨a,b,⟨O,i,P,F⟩,⟨a,b,z⟩⟩
noncomputable def I9(K:Frag)(p:Addr×Str×Addr):Bool:=ui K p.1&&jN K p.1 p.2.1==some p.2.2&& !az.contains p.2.1&&p.2.1 !=aB&&keepIn K (.ref p.2.2)
noncomputable def yf(K:Frag)(C:Addr)(nm:Str)(p f:Addr):Bool:=findIn K (.ref C) nm==some (some (.ref p))&&specialIn K (.ref p) "__get__"==some (some (.builtin "property.__get__"))&&takesIn K (.ref p)==some true&&
 ((recIn K p "property").bind λl=>l.head?.bind Bi)==some f
theorem ye{K C nm p f}(h:yf K C nm p f=true):ur K C nm p f:=by
 unfold yf at h;simp only[V6,WU]at h;refine af h λu i=>?_;refine af u λz B=>?_;obtain⟨h1,h2⟩:=z;refine⟨h1,h2,B,?_⟩;refine ar i λl e i=>?_
 cases l with
 |nil=>exact ad i
 |cons g r=>exact⟨r,e.trans (Vx (λx=>some (x::r)) (oi i))⟩
noncomputable def intOp(nm:String):Bool:=["add","sub","mul","floordiv","mod"].contains nm
theorem zi{nm:String}(h:intOp nm=true):fillsNumberSlot (.type "int") nm=pure true:=by exact(V4.mpr ⟨PySem.F.fills_int_add,V4.mpr ⟨PySem.F.fills_int_sub,V4.mpr ⟨PySem.F.fills_int_mul,V4.mpr ⟨PySem.F.fills_int_floordiv,V4.mpr ⟨PySem.F.fills_int_mod,λ_ h=>nomatch h⟩⟩⟩⟩⟩:∀nm∈["add","sub","mul","floordiv","mod"],fillsNumberSlot (.type "int") nm=pure true) nm (List.contains_iff_mem.mp h)
noncomputable def Lm(K:Frag)(C:Addr)(nm:String)(v:Value):Bool:=(Bi v).any (λD=>D==C||(subIn K (.ref D) (.ref C)==some false&&selfFirst K D&&ow K D (PySem.dunder nm)&&ow K D (dunderR nm)))||
 (Ik v).any λn=>n=="int"&&intOp nm&&subIn K (.type "int") (.ref C)==some false&&(findIn K (.type "int") (dunderR nm)).isSome
theorem jG{K C nm}(h:ow K C nm=true):∃g:Addr,findIn K (.ref C) nm=some (some (.ref g)):=by refine ax (WG.mp h) λg h=>ar h λo e h=>ar h λv f h=>⟨g,?_⟩;rw[e,f,oi h]
theorem De{c:Cx}{C nm tv}(h:Lm c.K C nm tv=true):HS c C tv nm:=by
 refine Or.elim (WF.mp h) (λh=>?_) λh=>?_
 . refine ab (Lx h) λD e h=>?_;rw[oi e];rw[Xg]at h;refine Or.elim h (λh=>?_) λh=>?_
   . rw[beq_iff_eq.mp h];exact⟨.inl rfl⟩
   . simp only[V6,WU]at h;refine af h λf i=>?_;refine af f λu z=>?_;obtain⟨h1,h2⟩:=u;refine ax (jG z) λJ B=>?_;refine ax (jG i) λN F=>?_;refine aP (ksp_first h2) λO rest G H=>?_;exact⟨.inr ⟨true,true,_,λh X=>⟨fills_K X G H B,looks_subIn X h1,ksp_inPy X B F (.inr ⟨_,rfl⟩),looks_findIn X F⟩⟩⟩
 . refine ab (Lx h) λn e h=>?_;rw[Bh e];simp only[V6,WU]at h;refine af h λf i=>?_;clear h;refine af f λu z=>?_;clear f;refine af u λq h2=>?_;rw[q];refine ax (WG.mp i) λI e=>?_;exact⟨.inr ⟨true,false,I,λh X=>⟨Looks.of_pure (zi h2),looks_subIn X z,Looks.of_pure rfl,looks_findIn X e⟩⟩⟩
noncomputable def Nf(K:Frag)(C:Addr)(op:Operator)(tv:Value)(f:Addr):Bool:=selfFirst K C&&findIn K (.ref C) (PySem.dunder op.info.2)==some (some (.ref f))&&isFn K (.ref f)&&ow K C (dunderR op.info.2)&&Lm K C op.info.2 tv
theorem FJ{c:Cx}{C op tv f}(h:Nf c.K C op tv f=true):HN c C op tv f:=by unfold Nf at h;simp only[V6,WU]at h;refine af h λi u=>?_;refine af i λz B=>?_;obtain⟨⟨h1,h2⟩,F⟩:=z;exact⟨h1,h2,F,jG B,De u⟩
noncomputable def PO(K:Frag)(C:Addr)(tv:Value)(f:Addr):Bool:=notFirst K C tv&&findIn K (.ref C) "__eq__"==some (some (.ref f))&&isFn K (.ref f)
theorem z7{c:Cx}{C tv f}(h:PO c.K C tv f=true):Dy c C tv f:=by unfold PO at h;simp only[V6,WU]at h;exact⟨h.1.1,h.1.2,h.2⟩
noncomputable def yP(K:Frag)(C f:Addr):Bool:=makesIn K C&&findIn K (.ref C) "__init__"==some (some (.ref f))&&typeIn K (.ref f)==some (.type "function")
theorem yO{K C f}(h:yP K C f=true):iS K C f:=by unfold yP at h;simp only[V6,WU]at h;exact⟨h.1.1,h.1.2,h.2⟩
noncomputable def Ep(K:Frag)(f:Addr):Option FuncData:=(K.lookup f).bind λo=>RM o.data
noncomputable def pJ(fd:FuncData):Option (List Stmt):=match fd.body with
 | .stmts b=>some b
 |_=>none
noncomputable def Mf(K:Frag)(fd:FuncData):Bool:=fd.closure.isEmpty&&fd.globals==mainGlobals&&fd.builtins==builtinsNs&&codeIn K fd.code fd.qualname&& !fd.scope.isCoroutine&& !fd.scope.isGenerator&&fd.scope.kind== .function
theorem w7{fd b}(h:pJ fd=some b):fd.body= .stmts b:=by
 unfold pJ at h;generalize fd.body=x at*
 induction x using FuncBody.casesOn<;>first|exact ad h|exact Vx FuncBody.stmts (Option.some.inj h)
theorem GL{K f fd b}(h1:Ep K f=some fd)(h2:pJ fd=some b)(h:Mf K fd=true):sO K f fd b:=by unfold Mf at h;simp only[V6,WU,Bool.not_eq_true',Wa]at h;refine af h λi u=>?_;refine af i λz B=>?_;obtain⟨⟨⟨⟨F,G⟩,H⟩,I⟩,J⟩:=z;refine ar h1 λo e h1=>?_;exact⟨⟨_,e,Hc h1⟩,w7 h2,F,G,H,I,J,B,u⟩
set_option tactic.hygienic false
noncomputable abbrev pw:Program:=PySem.Challenge.pw_iy0027_01
noncomputable def D9:Stmt->Bool
 | .FunctionDef .. =>true
 |_=>false
noncomputable def defsOf:Stmt->List Stmt
 | .ClassDef _ _ _ b _ _ _ _ _ _ _=>b.filter D9
 |s=>if D9 s then[s]else[]
noncomputable def PW(f:Addr):Option Stmt:=(f8.zip (pw.main.body.flatMap defsOf)).lookup f
structure AY where
 params:Arguments
 body:List Stmt
 scope:Scope
noncomputable def PX:Stmt->Option AY
 | .FunctionDef _ p b _ _ _ sc _ _ _=>some ⟨p,b,sc⟩
 |_=>none
noncomputable def rY(f:Addr):Option AY:=(PW f).bind PX
noncomputable def dj:List Addr:=[284,338,430,485,526,574,656]
noncomputable def Qu:List Value:= .type "int"::dj.map .ref
noncomputable def mk(nm:Str)(l:List (Addr×Addr)):List (Addr×Str×Addr):=l.map λp=>(p.1,nm,p.2)
noncomputable def RA:List (Addr×Addr):=dj.zip [192,192,192,454,502,550,632]
noncomputable def D0:List (Addr×Str×Addr):=mk "render" (dj.map (·,57))++mk "text" (dj.zip [281,335,427,482,523,571,647])++mk "vars" (dj.zip [267,64,387,387,387,387,595])++mk "substitute" (dj.zip [274,328,420,475,516,564,642])++
 mk "get_bounds" ((dj.drop 2).zip [413,468,509,557,619])++mk "__floordiv__" RA
noncomputable def DP:List (Addr×Str×Addr):=(656,"flat_components",652)::mk "key" (dj.map (·,78))
noncomputable def Nh(o:Operator)(l:List (Addr×Addr)):List (Addr×Operator×Value×Addr):=l.map λp=>(p.1,o,.type "int",p.2)
noncomputable def QK:List (Addr×Operator×Value×Addr):=Nh .Mult (dj.zip [163,314,163,446,163,163,624])++Nh .FloorDiv RA++Nh .Mod (dj.zip [206,206,206,461,206,542,637])++
 dj.flatMap λC=>Qu.flatMap λv=>[(C,.Add,v,107),(C,.Sub,v,121)]
noncomputable def eqT:List (Addr×Value×Addr):=dj.flatMap λC=>Qu.map λv=>(C,v,if C==338 then 321 else 93)
noncomputable def nr:List (Addr×Addr):=dj.zip [245,300,380,380,380,380,590]
noncomputable def En:List (Str×Addr):=[("partition",28),("gcd",35),("merged_vars",42),("variable",347),("create_node",354),("create_lt_node",359),("create_ge_node",366),("sym_render",666),("sym_infer",671),("_law_names",678),("_law_at",685),("_law_cut",692),("_law_tree",697),("Variable",284),("NumNode",338),("LtNode",430),("MulNode",485),("DivNode",526),("ModNode",574),("SumNode",656),("Node",227)]
noncomputable def RQ:List (Str×Value):=[("isinstance",.builtin "isinstance"),("len",.builtin "len"),("abs",.builtin "abs"),("max",.builtin "max"),("min",.builtin "min"),("sum",.builtin "sum"),("sorted",.builtin "sorted"),("str",.type "str"),("int",.type "int"),("range",.type "range"),("zip",.type "zip")]
noncomputable def D8:List (Value×Value×Bool):=(dj.flatMap λC=>(.ref C,.type "int",false)::(.ref C,.ref 227,true)::[338,284,485,656].map λD=>(.ref C,.ref D,C==D))++
 (.type "int",.type "int",true)::[227,338,284,485,656].map λD=>(.type "int",.ref D,false)
noncomputable def zf:List (Value×List Value×Bool):=dj.flatMap λC=>[(.ref C,[.ref 284,.ref 338],C==284||C==338),(.ref C,[.ref 338,.ref 485],C==338||C==485)]
noncomputable def PY:Const->mv
 | .bool b=>if b then .Iq else .Ko
 |_=> .none
noncomputable def Ur(e:Expr):mv:=((vE e).cst.map λq=>PY q.1).getD .none
noncomputable def BW(ns:List Str):List (Str×mv):=ns.zipIdx.map λp=>(p.1,.pos p.2)
noncomputable def lz(d:AY):List (Nat×List Str×List (Str×mv)):=
 let ns:=d.params.args.map (·.arg);(ns.length,[],BW ns)::d.params.defaults.flatMap λe=>
  [(ns.length-1,[],BW ns.dropLast++ns.getLast?.toList.map (·,Ur e)),(ns.length-1,ns.getLast?.toList,BW ns.dropLast++ns.getLast?.toList.map (·,.kw 0))]
noncomputable def DH:List (Addr×Str×Addr):=[(227,"sum",211),(227,"__mod__",206),(227,"__floordiv__",192)]
noncomputable def C4:List (Addr×Addr×Value):=[(57,50,.none),(192,185,.bool true),(454,447,.bool false),(502,495,.bool false),(550,543,.bool true),(632,625,.bool true),(666,659,.none)]
noncomputable def ba:Tb where
 glob x:=(En.lookup x).map .ref
 bi x:=RQ.lookup x
 cls C:=dj.contains C
 cZ C n:=(D0.find? λp=>p.1==C&&p.2.1==n).map (·.2.2)
 prop C n:=(DP.find? λp=>p.1==C&&p.2.1==n).map (·.2.2)
 wf C n:=(DH.find? λp=>p.1==C&&p.2.1==n).map (·.2.2)
 op C o tv:=(QK.find? λp=>p.1==C&&p.2.1==o&&p.2.2.1==tv).map (·.2.2.2)
 eq C tv:=(eqT.find? λp=>p.1==C&&p.2.1==tv).map (·.2.2)
 neg C:=if dj.contains C then some 100 else none
 isin tv cv:=(D8.find? λp=>p.1==tv&&p.2.1==cv).map (·.2.2)
 eJ tv sZ:=(zf.find? λp=>p.1==tv&&p.2.1==sZ).map (·.2.2)
noncomputable def gE:jt where
 ns f:=if f8.contains f then(rY f).map (·.scope.names)else none
 body f:=if f8.contains f then(rY f).map (·.body)else none
 sig f n cB:=if f8.contains f then((rY f).bind λd=>(lz d).find? λp=>p.1==n&&p.2.1==cB).map (·.2.2)else none
 init C:=nr.lookup C
noncomputable def DQ(K:Frag)(p:Addr×Str×Addr):Bool:=match findIn K (.ref p.1) p.2.1 with
 |some (some (.ref q))=>yf K p.1 p.2.1 q p.2.2
 |_=>false
noncomputable def Ho(K:Frag)(tv:Value):Bool:=match tv with
 | .ref C=>ui K C
 |_=>true
noncomputable def DJ(K:Frag)(p:Addr×Str×Addr):Bool:=readsIn K p.1 (.type "type")&&specialIn K (.ref p.1) "__getattribute__"==some (some (.builtin "type.__getattribute__"))&&keepIn K (.ref p.2.2)&&
 (match findCls K (.ref p.1) (.type "type") p.2.1 with
 |some (.val v)=>v== .ref p.2.2
 |some (.get b (.ref q) n (.ref d))=>b== .builtin "staticmethod.__get__"&&n== .none&&d==p.1&&(match recIn K q "staticmethod" with|some (.ref g::_)=>g==p.2.2|_=>false)
 |_=>false)
noncomputable def Km(K:Frag)(f:Addr):Bool:=match Ep K f with
 |some fd=>Mf K fd
 |none=>false
noncomputable def Mi(p:Addr×Addr×Value):Obj:=⟨.type "tuple",none,.seq #[p.2.2] 0,#[]⟩
noncomputable def Lc(K:Frag):Bool:=QK.all λp=>Nf K p.1 p.2.1 p.2.2.1 p.2.2.2
noncomputable def Lb(K:Frag):Bool:=dj.all (ui K)&&D0.all (I9 K)&&DP.all (DQ K)&&
 eqT.all (λp=>PO K p.1 p.2.1 p.2.2)&&eqT.all (λp=>findIn K (.ref p.1) "__ne__"==some (some (.builtin "object.__ne__"))&&plainOver K p.1)
noncomputable def La(K:Frag):Bool:=nr.all (λp=>yP K p.1 p.2)&&En.all (λp=>nsIn K mainGlobals p.1==some (some (.ref p.2))&&keepIn K (.ref p.2)&& !Af p.1)&&
 RQ.all (λp=>nsIn K mainGlobals p.1==some none&&bootBuiltins p.1==some p.2&&p.1 !=("__name__":Str)&& !Af p.1)&&
 D8.all (λp=>kitOne K p.1 p.2.1==some p.2.2&&Ho K p.1)&&zf.all (λp=>kitAny K p.1 p.2.1==some p.2.2&&Ho K p.1)&&
 dj.all (λC=>findIn K (.ref C) "__neg__"==some (some (.ref 100))&&isFn K (.ref 100))&&DH.all (DJ K)
noncomputable def DR(f:Addr):List (Str×NameKind):=((rY f).map (·.scope.names)).getD []
noncomputable def mi(f:Addr):List Stmt:=((rY f).map (·.body)).getD []
noncomputable def QO(K:Frag)(f:Addr):Bool:=(Ep K f).all λd=>d.scope.names !=DR 359||(d.code== .ref 358&&d.qualname==("create_lt_node":Str))
noncomputable def K9(K:Frag):Bool:=specialIn K (.builtin "object.__class__") "__get__"==some (some (.builtin "getset_descriptor.__get__"))&&takesIn K (.builtin "object.__class__")==some true&&f8.all (Km K)&&nsIn K mainGlobals "all"==some none&&f8.all (QO K)
noncomputable def Pb(K:Frag)(f:Addr):Option (Arguments×FuncBody×Scope×Value×Value):=(Ep K f).map λd=>(d.params,d.body,d.scope,d.defaults,d.kwdefaults)
noncomputable def Mg(f:Addr):Option (Arguments×FuncBody×Scope×Value×Value):=(rY f).map λd=>(d.params,.stmts d.body,d.scope,(match C4.lookup f with|some p=> .ref p.1|none=> .none),.none)
noncomputable def kH(tb:String->Option Builtin)(p:Program)(w:World)(wp:Nat)(ann:Option Value):Nat->SharedT->Thread->Option SharedT
 |0,_,_=>none
 |n+1,s,t=>match through t with
  |true=>some s
  |false=>match stepOk wp ann t with
   |false=>none
   |true=>match stepT (denote tb) p w s t with
    |some (s',t')=>kH tb p w wp ann n s' t'
    |none=>none
theorem mZ{tb:String->Option Builtin}{p:Program}{w:World}{f:Nat}{ann:Option Value}:∀{n:Nat}{s s':SharedT}{t:Thread},kH tb p w f ann n s t=some s'->topRun tb p w f ann n s.abs t=some s'.abs
 |0,_,_,_,h=>by cases h
 |n+1,s,s',t,h=>by
  unfold kH at h;unfold topRun
  cases he:through t with
  |true=>rw[he]at h;cases h;rfl
  |false=>
   rw[he]at h
   cases hk:stepOk f ann t with
   |false=>rw[hk]at h;cases h
   |true=>
    rw[hk]at h
    cases hs:stepT (denote tb) p w s t with
    |none=>rw[hs]at h;cases h
    |some r=>obtain⟨i,u⟩:=r;rw[hs]at h;rw[stepT_spec hs];exact mZ h
theorem rH{p q:Program}{loose:List Str}{Xt:Shared->Bool}{α:Type}{Yf:Shared->α}{Ya:World->α}{N:Nat}{B:Bool}{H₀:Params->Heap}{gs₀:Array GenState}{d₀:Drawn}{k₀:Nat}{m₀:Nat}{ann:Option Value}{M:Nat}(i:World->OsState->Shared)
 (G:∀w:World,(fencedOpening treeTable p w N).map (λs=>(s.heap,s.gens,s.drawn,s.toks))=some (H₀ w.params,gs₀,d₀,k₀))
 (u:∀w:World,((H₀ w.params).isNs mainGlobals&&gs₀.size==0,(H₀ w.params).objs.size,(H₀ w.params).nsMap mainGlobals "__annotations__")=(true,m₀,ann))
 (run:∀(w:World)(f:OsState),topRun treeTable p w m₀ ann M ⟨H₀ w.params,gs₀,d₀,k₀,f⟩ (topStub p)=some (i w f))(le:Nat.ble M N=true)
 (H:∀w f,(staticsOk (importedModules p.main.body) (H₀ w.params) (i w f).heap&&namesBound p (i w f).heap&&gensDone (i w f)&&laidKept (H₀ w.params) (i w f).heap)=true)
 (z:∀w f,openSeen q loose (importedModules p.main.body) Xt B (i w f)=openGood q loose)(I:∀w f,Yf (i w f)=Ya w):LeftO p q loose Xt Yf Ya N B:=λw=>by
 obtain⟨⟨h,F,d,k,f⟩,e,J⟩:=V3.mp (G w);obtain⟨rfl,rfl,rfl,rfl⟩:h=H₀ w.params/\F=gs₀/\d=d₀/\k=k₀:=by simpa using J
 obtain⟨O,P,Q⟩:_/\_/\_:=by simpa only[Prod.mk.injEq]using u w
 have r:=topRun_mono (N-M) _ _ _ _ (run w f);rw[Nat.add_sub_cancel' (WA le)]at r;have t:topFrom treeTable p w N ⟨H₀ w.params,F,d,k,f⟩=some (i w f):=by unfold topFrom;dsimp only;rw[O,P,Q,r];show(match staticsOk (importedModules p.main.body) (H₀ w.params) (i w f).heap&&namesBound p (i w f).heap&&gensDone (i w f)&&laidKept (H₀ w.params) (i w f).heap with|true=>_|false=>_)=_;rw[H w f]
 unfold openEnds;rw[e];show(topFrom treeTable p w N _).map _=_;rw[t];exact Vx some (Prod.ext (z w f) (I w f))
noncomputable def nt(p:Addr×Obj):Bool:=noTabs [p]
noncomputable def iq(s:SharedT):Frag:=((List.range 703).filterMap λa=>if Nat.blt a s.n then(s.tree.get a).bind λo=>(alive o).map λo=>(a,o)else none).filter nt
theorem zD{s:SharedT}:(iq s).In s.abs.heap:=λa o e=>by obtain⟨b,_,h⟩:=List.mem_filterMap.mp (VY.mp (mem_of_lookupK e)).1;obtain⟨h1,h⟩:=rQ h;obtain⟨i,h2,h⟩:=bL h;obtain⟨u,f,h⟩:=V3.mp h;obtain⟨rfl,rfl⟩:=Prod.mk.inj h;exact(abs_get (WA h1) h2).trans f
theorem zC{s:SharedT}:noTabs (iq s)=true:=VB.mpr λp f=>(be (VY.mp f).2).1
noncomputable abbrev UE:=List (Option (Arguments×FuncBody×Scope×Value×Value))
structure mG(K:Frag):Prop where
 c0:Lc K=true
 c1:Lb K=true
 c2:La K=true
 c3:K9 K=true
 nt:noTabs K=true
 f:f8.map (Pb K)=f8.map Mg
 d:C4.map (λp=>K.lookup p.2.1)=C4.map λp=>some (Mi p)
 h:codeHdIn K 358 356=true
structure R4(h:Heap):Prop where
 k:∃K:Frag,K.In h/\mG K
 t:h.get? 356=some (tabObj #[])
noncomputable def hook:Hook where
 α:=Prop
 obs s:=R4 s.heap
 val _:=True
 says _ h:=R4 h
 of _ s e:=of_eq_true e
 keeps _ _ _ x k:=⟨let⟨K,a,b⟩:=x.k;⟨K,a.keeps k,b⟩,k _ _ x.t⟩
noncomputable def zj:List Obj->Nat->BT->BT
 |[],_,t=>t
 |o::l,n,t=>zj l (n+1) (t.ins n o)
noncomputable def S0(w:World)(os:OsState):SharedT:=⟨zj (boot_heap w.params).objs.toList 0 .nil,11,(boot_heap w.params).life,#[],boot_drawn,boot_toks,os⟩
noncomputable def endP(p:Program)(w:World)(os:OsState):Option SharedT:=kH treeTable p w 11 (some (.ref 6)) 6000 (S0 w os) (topStub p)
noncomputable def endT(p:Program)(w:World)(os:OsState):SharedT:=(endP p w os).getD (S0 w os)
noncomputable def vw:Program:=view pw [0,2,4,5,6,7,8,9,10,11,12,13,14,15,16,17,18,19,21,23,24,25,26,27]
noncomputable def Jh:List Str:=["Node","Variable","MulNode","DivNode","ModNode","SumNode","sym_render"]
noncomputable abbrev row:RowW:=PySem.Challenge.rw_iy0027_01.row.toRowW
noncomputable def xt(s:Shared):Bool:=xlAt vw [] s&&recOk (RowW.records row) s
noncomputable def SO(s:Shared)(w:World):Bool:=staticsOk (importedModules pw.main.body) (boot_heap w.params) s.heap&&namesBound pw s.heap&&gensDone s&&laidKept (boot_heap w.params) s.heap
theorem Fw(w:World)(f:OsState):(S0 w f).abs=⟨boot_heap w.params,#[],boot_drawn,boot_toks,f⟩:=by kernel_rfl
theorem SQ:(λ(_:Program->World->OsState->Option SharedT)(_:Program->World->OsState->SharedT)=>true) endP endT=true:=by k_qdec
theorem MA(w:World)(f:OsState):(endP pw w f).isSome=true:=by rw[PySem.W.Fast.te815423048398568206];kernel_rfl
theorem Iu(w:World)(f:OsState):SO (endT pw w f).abs w=true/\openSeen vw Jh (importedModules pw.main.body) xt true (endT pw w f).abs=openGood vw Jh:=by rw[PySem.W.Fast.te15790834103516488257];exact⟨by kernel_rfl,by kernel_rfl⟩
theorem E9(w:World)(f:OsState):f8.map (Pb (iq (endT pw w f)))=f8.map Mg/\(C4.map (λp=>(iq (endT pw w f)).lookup p.2.1)=C4.map λp=>some (Mi p))/\(endT pw w f).tree.get 356=some (tabObj #[]):=by rw[PySem.W.Fast.te15790834103516488257];exact⟨by kernel_rfl,by kernel_rfl,by kernel_rfl⟩
theorem Mz(w:World)(f:OsState):Lc (iq (endT pw w f))=true:=by rw[PySem.W.Fast.te15790834103516488257];kernel_rfl
theorem My(w:World)(f:OsState):Lb (iq (endT pw w f))=true:=by rw[PySem.W.Fast.te15790834103516488257];kernel_rfl
theorem Mx(w:World)(f:OsState):La (iq (endT pw w f))=true:=by rw[PySem.W.Fast.te15790834103516488257];kernel_rfl
theorem E8(w:World)(f:OsState):K9 (iq (endT pw w f))=true/\Nat.blt 356 (endT pw w f).n=true/\codeHdIn (iq (endT pw w f)) 358 356=true:=by rw[PySem.W.Fast.te15790834103516488257];exact⟨by kernel_rfl,by kernel_rfl,by kernel_rfl⟩
theorem Bq(w:World)(f:OsState):endP pw w f=some (endT pw w f):=by
 have h:=MA w f;unfold endT
 cases e:endP pw w f with
 |none=>rw[e]at h;exact nomatch h
 |some s=>rfl
theorem left:LeftO pw vw Jh xt hook.obs hook.val 10576 true:=by
 refine rH (H₀:=boot_heap) (gs₀:=Array.mk []) (d₀:=boot_drawn) (k₀:=boot_toks) (m₀:=11) (ann:=some (.ref 6)) (M:=6000) (λw f=>(endT pw w f).abs)
  (boot_open (by kernel_rfl) (by decide) λs=>by kernel_rfl) (λw=>by kernel_rfl) (λw f=>?_) (by decide) (λw f=>(Iu w f).1) (λw f=>(Iu w f).2) λw f=>eq_true ⟨⟨iq (endT pw w f),zD,⟨Mz w f,My w f,Mx w f,(E8 w f).1,zC,(E9 w f).1,(E9 w f).2.1,(E8 w f).2.2⟩⟩,?_⟩
 . rw[<-Fw];exact mZ (Bq w f)
 . exact(abs_get (WA (E8 w f).2.1) (E9 w f).2.2).trans rfl
theorem IK:PySem.Challenge.rw_iy0027_01.wellSaid=true:=by kernel_rfl
set_option maxHeartbeats 8000000 in
theorem TJ(d:DefRec)(kwd:List (Str×Expr))(hd:defOf vw "law"=some (d,kwd))(u:pw.theDef "law"=some (d.params,d.body,d.scope))(z:kwWritten? d.params.kwonlyargs d.params.kw_defaults=some kwd)
 (i:WalkO vw Jh (XL vw []) hook.says row d kwd λf vs=>PySem.call f vs):PySem.Challenge.rw_iy0027_01.Holds:=by
 refine holds_law IK λIK=>?_;refine holds_open (q:=vw) (loose:=Jh) (Xt:=xt) (XP:=XL vw []) (Yf:=hook.obs) (Ya:=hook.val) (YP:=hook.says) (d:=d) (kwd:=kwd) (N:=10576) left hook.of hook.keeps (λs e=>xl_of s (WY.mp e).1) XL.keeps hd u z
  (λs e=>recFacts_of (WY.mp e).2) (by rfl) (by assumption) (by decide+kernel) ⟨rfl,rfl,rfl,rfl,rfl,by decide+kernel⟩ ?hw i
 case hw=>w_witness2
set_option tactic.hygienic true
theorem eH{α β:Type}[BEq α][LawfulBEq α]:∀{l:List (α×β)}{a:α}{b:β},l.lookup a=some b->(a,b)∈l
 |(k,v)::r,a,b,h=>by
  rw[VK]at h
  induction hb:a==k with
  |true=>rw[hb]at h;exact beq_iff_eq.mp hb▸Option.some.inj h▸ .head _
  |false=>rw[hb]at h;exact .tail _ (eH h)
theorem ee{α β:Type}{p:α->Bool}{f:α->β}{l:List α}{b:β}{q:α->Bool}(h:(l.find? p).map f=some b)(i:l.all q=true):∃x,p x=true/\q x=true/\f x=b:=by refine ab (V3.mp h) λx h1 h2=>?_;exact dA x (List.find?_some h1) (VB.mp i x (List.mem_of_find?_eq_some h1)) h2
theorem eQ{α:Type}[BEq α][LawfulBEq α]{a b:α}(h:(a==b)=true):a=b:=beq_iff_eq.mp h
section
variable{c:Cx}{K:Frag}
theorem vG{tv}(h:Ho K tv=true):∀C,tv= .ref C->kr K C:=λC e=>by rw[e]at h;exact(jq h).2.2.1
theorem mG.cls(h:mG K){C}(f:dj.contains C=true):ui K C=true:=VB.mp (be (be (be (be h.c1).1).1).1).1 C (by simpa using f)
theorem xS(O:aM c){p}(h:DJ c.K p=true):specialIn c.K (.ref p.1) "__getattribute__"=some (some (.builtin "type.__getattribute__"))/\mA c p.1 p.2.2 p.2.1/\keepIn c.K (.ref p.2.2)=true:=by
 refine af (be h) λh f=>?_;refine af (be h) λh u=>?_;refine af (be h) λh1 h2=>?_;refine⟨eQ h2,?_,u⟩
 induction hf:findCls c.K (.ref p.1) (.type "type") p.2.1 with
 |none=>rw[hf]at f;exact nomatch f
 |some r=>
  rw[hf]at f
  induction r with
  |val v=>exact wZ O h1 (eQ f▸hf)
  |get b q n d=>
   induction q
   case ref q=>
    induction d
    case ref d=>
     refine af (be f) λf i=>?_;refine af (be f) λf z=>?_;refine af (be f) λB F=>?_;rw[eQ B,eQ F,eQ z]at hf
     induction hr:recIn c.K q "staticmethod" with
     |none=>rw[hr]at i;exact nomatch i
     |some l=>
      rw[hr]at i;rcases l with _|⟨g,l⟩
      . exact nomatch i
      . induction g
        case ref g=>exact mR O h1 hf (eQ i▸hr)
        all_goals exact nomatch i
    all_goals exact nomatch f
   all_goals exact nomatch f
theorem jC(O:aM c)(h:mG c.K):c8 c ba:=by
 refine af (be h.c1) λh1 P=>?_;refine af (be h1) λh1 N=>?_;refine af (be h1) λh1 Q=>?_;refine af (be h1) λQx U=>?_;refine af (be h.c2) λh2 W=>?_;refine af (be h2) λh2 X=>?_;refine af (be h2) λh2 Y=>?_;refine af (be h2) λh2 Z=>?_;refine af (be h2) λh2 MH=>?_;refine af (be h2) λMF Ff=>?_;refine af (be h.c3) λz _=>?_;refine af (be z) λz _=>?_;refine af (be z) λz _=>?_;have F:∀x v,ba.glob x=some v->(nsIn c.K mainGlobals x=some (some v)/\keepIn c.K v=true)/\Af x=false:=λx v h=>by refine ab (V3.mp h) λa h1 h2=>?_;refine af (be (VB.mp Ff _ (eH h1))) λg G=>?_;refine af (be g) λH I=>?_;exact h2▸⟨⟨eQ H,I⟩,Db G⟩
 have cl:∀C,ba.cls C=true->ui c.K C=true:=λC J=>h.cls J;exact
 {glob:=λx v h=>⟨(F x v h).1.1,(F x v h).2⟩
  keep:=λx a h=>(F x _ h).1.2
  bi:=λx v h=>by refine af (be (VB.mp MH _ (eH h))) λg g4=>?_;refine af (be g) λg G=>?_;refine af (be g) λH I=>?_;exact⟨eQ H,eQ I,bne_iff_ne.mp G,Db g4⟩
  cls:=λC h=>(jq (cl C h)).1
  cZ:=λC nm f h=>by refine bV (ee h U) λp m q e=>?_;refine af (be m) λi u=>?_;refine af (be q) λq q5=>?_;refine af (be q) λq q4=>?_;refine af (be q) λq q3=>?_;refine af (be q) λq1 q2=>?_;rw[eQ i]at q1;rw[eQ i,eQ u,e]at q2;rw[eQ u]at q3 q4;exact⟨(jq q1).1,eQ q2,Db q3,bne_iff_ne.mp q4,e▸q5⟩
  prop:=λC nm f h=>by
   refine bV (ee h Q) λp m q e=>?_;refine af (be m) λi u=>?_;unfold DQ at q;rw[eQ i,eQ u,e]at q
   induction hf:findIn c.K (.ref C) nm with
   |none=>rw[hf]at q;exact nomatch q
   |some v=>
    rw[hf]at q;rcases v with _|v
    . exact nomatch q
    . induction v
      case ref a=>exact⟨a,ye q⟩
      all_goals exact nomatch q
  wf:=λC nm f h=>by refine bV (ee h W) λp m q e=>?_;refine af (be m) λi u=>?_;exact eQ i▸eQ u▸e▸xS O q
  op:=λC o B f hf=>by refine bV (ee hf h.c0) λp m q e=>?_;refine af (be m) λm m3=>?_;refine af (be m) λi u=>?_;exact eQ i▸eQ u▸eQ m3▸e▸FJ q
  eq:=λC B f h=>by refine bV (ee h N) λp m q e=>?_;refine af (be m) λi u=>?_;exact eQ i▸eQ u▸e▸z7 q
  ne:=λC B f h=>by refine bV (ee h N) λp m q e=>?_;refine bV (ee h P) λp' m' q' _=>?_;refine af (be m) λi u=>?_;refine af (be q') λq1 q2=>?_;rw[eQ (be m').1]at q1 q2;exact⟨eQ i▸eQ u▸e▸z7 q,eQ q1,q2⟩
  neg:=λC f h=>by refine af (rQ h) λJ h=>?_;refine af (be (VB.mp X C (by simpa using J))) λq1 q2=>?_;exact Option.some.inj h▸⟨eQ q1,q2⟩
  isin:=λB cv b h=>by refine bV (ee h Z) λp m q e=>?_;refine af (be m) λi u=>?_;refine af (be q) λq1 q2=>?_;exact eQ i▸eQ u▸e▸⟨eQ q1,vG q2⟩
  eJ:=λB sZ b h=>by refine bV (ee h Y) λp m q e=>?_;refine af (be m) λi u=>?_;refine af (be q) λq1 q2=>?_;exact eQ i▸eQ u▸e▸⟨eQ q1,vG q2⟩
  Jx:=⟨eQ (be z).1,eQ (be z).2⟩}
theorem Bx(h:mG K):∀C,ba.cls C=true->iw K C:=λC f=>(jq (h.cls f)).2.1
end
set_option tactic.hygienic false
noncomputable def Fy{α:Type}(K:Frag):Sem α->Option α
 | .pure a=>some a
 | .load a _ k=>(K.lookup a).bind λo=>Fy K (k o)
 |_=>none
theorem BN{α:Type}{K:Frag}{s:Shared}(X:K.In s.heap){M A E}{Q:α->Shared->Prop}(t:Sem α):∀a,Fy K t=some a->Q a s->wpAny M A t Q E s:=by
 induction t with
 |pure a=>exact λ_ h q=>Vz (Option.some.inj h▸q)
 |load a part k ih=>intro b h q;refine ab (bL h) λo h1 h=>?_;exact Vh (wpAny_loadPart (part:=part) (X _ _ h1) (ih o b h q))
 |_=>exact λ_ h=>ad h
noncomputable abbrev P9:=Addr×AY×Nat×List Str×List (Str×mv)
noncomputable def uL:List P9:=f8.flatMap λf=>(rY f).toList.flatMap λd=>(lz d).map λr=>(f,d,r)
noncomputable def Mh(f:Addr):Value:=match C4.lookup f with
 |some p=> .ref p.1
 |none=> .none
noncomputable def DF:Frag:=C4.map λp=>(p.2.1,Mi p)
theorem BK(d:FuncData)(f a1 i u y:Value):(uL.map λr=>Fy DF (bindArgs {d with params:=r.2.1.params,defaults:=Mh r.1,kwdefaults:= .none} ⟨[f,a1,i,u].take r.2.2.1,r.2.2.2.1.map (·,y)⟩))=
 uL.map λr=>some (r.2.2.2.2.map λp=>(p.1,p.2.val ([f,a1,i,u].take r.2.2.1) (r.2.2.2.1.map (·,y)))):=by kernel_rfl
theorem BL:(uL.all λr=>Nat.ble r.2.2.1 4&&Nat.ble r.2.2.2.1.length 1&&decide ((r.2.2.2.2.map (·.1)).Nodup)&&(r.2.2.2.2.all λq=>r.2.1.scope.names.lookup q.1==some .local||r.2.1.scope.names.lookup q.1==some .cell))=true:=by kernel_rfl
theorem DE{α:Type}(z:α){vs:List α}{n:Nat}(h:vs.length=n)(hn:n<=4):∃a b c d,vs=[a,b,c,d].take n:=by
 rcases vs with _|⟨a,_|⟨b,_|⟨c,_|⟨d,_|⟨e,r⟩⟩⟩⟩⟩
 . exact⟨z,z,z,z,h▸rfl⟩
 . exact⟨a,z,z,z,h▸rfl⟩
 . exact⟨a,b,z,z,h▸rfl⟩
 . exact⟨a,b,c,z,h▸rfl⟩
 . exact⟨a,b,c,d,h▸rfl⟩
 . rw[<-h]at hn;exact Vu hn (by simp)
theorem Jy{f:List (Str×Value)}{i:List Str}(h:f.map (·.1)=i)(hn:i.length<=1):∃y,f=i.map (·,y):=by
 rcases f with _|⟨⟨k,v⟩,_|⟨q,r⟩⟩
 . exact⟨.none,h▸rfl⟩
 . exact⟨v,h▸rfl⟩
 . rw[<-h]at hn;exact Vu hn (by simp)
theorem LO{K:Frag}{h:Heap}(X:K.In h)(hd:C4.map (λp=>K.lookup p.2.1)=C4.map λp=>some (Mi p)):DF.In h:=λa o e=>by refine ab (Vy.mp (mem_of_lookupK e)) λp f q=>?_;refine af (Prod.mk.inj q) λi u=>?_;subst i;subst u;exact X _ _ (List.map_inj_left.mp hd p f)
theorem eO{l:List Addr}{f:Addr}(h:l.contains f=true):f∈l:=by simpa using h
section
variable{c:Cx}
theorem Kq(h:mG c.K){f d}(hf:f8.contains f=true)(hd:rY f=some d):∃fd,Ep c.K f=some fd/\fd.params=d.params/\fd.body= .stmts d.body/\fd.scope=d.scope/\fd.defaults=Mh f/\fd.kwdefaults= .none:=by have e:Pb c.K f=Mg f:=List.map_inj_left.mp h.f f (eO hf);unfold Mg at e;rw[hd]at e;refine ab (V3.mp e) λfd h1 h2=>?_;refine af (Prod.mk.inj h2) λi e=>?_;refine af (Prod.mk.inj e) λu e=>?_;refine af (Prod.mk.inj e) λz e=>?_;refine af (Prod.mk.inj e) λB F=>?_;exact G5 fd h1 i u z B F
theorem Fq(h:mG c.K){f d fd n cB l}(hf:f8.contains f=true)(hd:rY f=some d)(i:(n,cB,l)∈lz d)(u:fd.params=d.params)(z:fd.scope=d.scope)(B:fd.defaults=Mh f)(F:fd.kwdefaults= .none):sF c fd n cB l:=by
 have m:(f,d,n,cB,l)∈uL:=Wz.mpr ⟨f,eO hf,Wz.mpr ⟨d,by rw[hd];exact .head _,Vy.mpr ⟨_,i,rfl⟩⟩⟩;refine af (be (VB.mp BL _ m)) λq q4=>?_;refine af (be q) λq q3=>?_;refine af (be q) λq1 q2=>?_;refine⟨⟨V9 q3,λx hx=>?_⟩,λs vs W X hv G=>?_⟩
 . refine ab (Vy.mp hx) λp H e=>?_;rw[<-e,z];exact(WF.mp (VB.mp q4 p H)).imp eQ eQ
 . obtain⟨I,a1,J,N,ev⟩:=DE .none hv (WA q1);refine ax (Jy G (WA q2)) λy O=>?_;have P:{fd with params:=d.params,defaults:=Mh f,kwdefaults:= .none}=fd:=by rw[<-u,<-B,<-F]
   rw[ev,O];exact λM A E Q U=>BN (LO X h.d) _ _ (P▸(List.map_inj_left.mp (BK fd I a1 J N y) _ m)) U
theorem GM(h:mG c.K){f fd}(hf:f8.contains f=true)(hd:Ep c.K f=some fd):Mf c.K fd=true:=by have:=VB.mp (be (be (be h.c3).1).1).2 f (eO hf);unfold Km at this;rw[hd]at this;exact this
theorem vn(h:mG c.K){f d}(hf:f8.contains f=true)(hd:rY f=some d):∃fd,fd.scope=d.scope/\sO c.K f fd d.body/\∀n i l,gE.sig f n i=some l->sF c fd n i l:=by obtain⟨fd,k,B,F,z,G,H⟩:=Kq h hf hd;refine dA fd z (GL k (by unfold pJ;rw[F]) (GM h hf k)) λn i l hl=>?_;refine af (rQ hl) λ_ hl=>?_;refine ab (V3.mp hl) λr u I=>?_;rw[hd,Vl]at u;refine af (be (List.find?_some u:)) λq1 q2=>?_;have m:=List.mem_of_find?_eq_some u;exact Fq h hf hd ((by rw[<-eQ q1,<-eQ q2,<-I]:r=(n,i,l))▸m) B z G H
theorem CI(h:mG c.K):∀f ns b,gE.ns f=some ns->gE.body f=some b->∃d,(d.scope.names=ns/\f8.contains f=true)/\sO c.K f d b/\∀n i l,gE.sig f n i=some l->sF c d n i l:=λf ns b h1 h2=>by refine af (rQ h1) λhf h1=>?_;refine ab (V3.mp h1) λd hd h1=>?_;refine af (rQ h2) λ_ h2=>?_;rw[hd]at h2;refine bV (vn h hf hd) λfd e X u=>?_;exact dA fd ⟨e▸h1,hf⟩ (Option.some.inj h2▸X) u
theorem wI{K:Frag}(h:mG K):∀C f,gE.init C=some f->iS K C f:=λC f hi=>yO (VB.mp (be (be (be (be (be (be h.c2).1).1).1).1).1).1 _ (eH hi))
end
noncomputable def bb(i:Int):Str:=Str.ofString (toString i)
noncomputable abbrev fg(fl:List (Str×AV))(k:Str):Option AV:=fl.lookup k
noncomputable def mC:Nat->AV->Option Str
 |0,_=>none
 |n+1,.obj C fl=>
  if C=284 then(match fg fl "expr",fg fl "min",fg fl "max",fg fl "_val" with
   |some (.str e),some (.int lo),some (.int hi),some .none=>some (e++("[":Str)++bb lo++("-":Str)++bb hi++("":Str)++("]":Str))
   |_,_,_,_=>none)
  else if C=338 then(match fg fl "b" with
   |some (.int b)=>some (bb b)
   |_=>none)
  else if C=656 then(match fg fl "nodes" with
   |some (.list xs)=>((xs.mapM (mC n)).map λts=>("(":Str)++Txt.join ("+":Str) (dn ts)++(")":Str))
   |_=>none)
  else(match fg fl "a",fg fl "b" with
   |some a,some (.int b)=>(mC n a).map λt=>("(":Str)++t++(if C=430 then("<":Str)else if C=485 then("*":Str)else if C=526 then("//":Str)else("%":Str))++bb b++(")":Str)
   |_,_=>none)
 |_+1,_=>none
noncomputable def Bm(x:AV):Option Str:=mC 300 x
noncomputable def O0(xs:List AV):Option AV:=(two xs).bind λp=>d8 p.1 λa=>d8 p.2 λb=>some (.int (Int.gcd a b))
noncomputable def Oc(cb:Cb)(x:AV):Option AV:=match x with
 | .obj C fl=>if dj.contains C&&bS C fl then(cb.call 57 [.obj C fl] [("ctx",.str "DEBUG")]).bind λr=>b8 r λs=>if Bm (.obj C fl)=some s then some (.str s)else none else none
 |_=>none
noncomputable def Fn(cb:Cb)(f:Addr)(xs:List AV)(kx:List (Str×AV)):Option AV:=
 if kx.isEmpty then(if f=35 then O0 xs else if f=78 then(one xs).bind (Oc cb)else none)else none
theorem xE:dj.all (λC=>ba.cZ C "render"==some 57)=true:=by kernel_rfl
section
variable{c:Cx}{k:Nat}{cb:Cb}
theorem zx(O:aM c)(h:mG c.K){a b:Int}:dz c 35 [.int a,.int b] [] (.int (Int.gcd a b)) (k+1):=by refine bV (vn h (f:=35) rfl rfl) λd e0 X i=>?_;refine af (ml (xs:=[.int a,.int b]) (kx:=[]) O i rfl) λu z=>?_;refine mh O X u z λenv B he _ R=>⟨_,?_,.inl ⟨[],rfl⟩⟩;obtain⟨F,lo,G,H,q,f,I,J,N⟩:=env;cases he.trans e0;exact zy R.r.handled rfl rfl (by decide) rfl rfl rfl (λH₀ σ=>jZ O (jC O h) rfl rfl H₀ σ) ⟨rfl,rfl⟩
theorem yW(O:aM c)(h:mG c.K)(u:c.tx=Bm)(z:eU c ba cb k){C fl s}(i:dj.contains C=true)(B:bS C fl=true)(hr:cb.call 57 [.obj C fl] [("ctx",.str "DEBUG")]=some (.str s))(ht:Bm (.obj C fl)=some s):
 dz c 78 [.obj C fl] [] (.str s) (k+1):=by
 refine G4 ((jC O h).cZ _ _ _ (eQ (VB.mp xE C (by simpa using i)))) λF G H I J=>?_;refine bV (vn h (f:=78) rfl rfl) λd e0 X N=>?_;refine af (ml (xs:=[.obj C fl]) (kx:=[]) O N rfl) λP Q=>?_;refine mh O X P Q λenv U he _ R=>⟨_,?_,.inl ⟨sY [("self",.obj C fl)],rfl⟩⟩;exact yX O ((jq (h.cls i)).2.2.2) B (by rw[u];exact ht) rfl rfl (Vx (List.lookup _) (Vx Scope.names (he.trans e0))) rfl λH₀=>
  km O rfl (bY rfl rfl) F G H I J .nil jm (z.call _ _ _ _ hr) R.r rfl (by simp)
theorem Fm(O:aM c)(h:mG c.K)(i:c.tx=Bm)(u:eU c ba cb k){f xs kx r}(he:Fn cb f xs kx=some r):dz c f xs kx r (k+1):=by
 refine af (rQ he) λz he=>?_;rw[Wa.mp z];by_cases hf:f=35
 . rw[Vi hf]at he;refine ab (bL he) λp h1 he=>?_;refine ab (bX he) λa B he=>?_;refine ab (bX he) λb F he=>?_;rw[iz h1,B,F,hf];exact Option.some.inj he▸zx O h
 . rw[Vk hf]at he;refine af (JF he) λhf he=>?_;refine ab (bL he) λx h1 he=>?_;rw[de h1,hf];induction x using AV.casesOn
   case obj C fl=>refine af (rQ he) λq he=>?_;refine af (be q) λq1 q2=>?_;refine ab (bL he) λv h2 he=>?_;refine ab (dr he) λs e he=>?_;refine af (JF he) λht he=>?_;exact Option.some.inj he▸yW O h i u q1 q2 (e▸h2) ht
   all_goals exact ad he
end
noncomputable def xm(c:Cx)(env:Env)(H₀:Heap)(σ:ah)(e:Expr)(x:AV):Prop:=∀A T s,W c T s.heap->FR c env H₀ σ T s.heap->wpAny c.M A (eval e env) (λv s'=>VR T v x/\∃tk,s'={s with toks:=tk}) cg s
section
variable{c:Cx}{env:Env}{H₀:Heap}{σ:ah}
theorem rl{x pos y}(h:σ.lookup x=some (.fz y))(hd:(x==("__debug__":Str))=false):xm c env H₀ σ (.Name x pos) y:=λA T s w F=>
 wpAny_Name (n4 F h λv r=>⟨r,s.toks,rfl⟩) hd
theorem wj(O:aM c){o attr pos C fl x}(hb:bk o=true)(f:xm c env H₀ σ o (.obj C fl))(X:f0 c.K C)(i:az.contains attr=true)(e:fl.lookup attr=some x):xm c env H₀ σ (.Attribute o attr pos) x:=λA T s w F=>by
 rw[arm_eval_Attribute,dw hb];refine Vh (Vj (f A T s w F) (λv s1⟨r1,tk,B⟩=>?_) λ_ _ z=>z);subst B;refine Vh (VG (Vh (VI ?_)));obtain⟨a,d,m,G,n,rfl,I⟩:=il (T:=T) (h:=s.heap) w r1;refine ab (I.fld attr x e) λu h1 h2=>?_;refine get_value (s:={s with toks:=tk}) (w.gh O) I.inst X.get (findObj_own X.has (X.plain attr i) rfl ?_) (jS h2) ?_
 . rw[eB I.ns I.inst.dict,h1]
 . exact Vh (wpAny_letTemporaryGo (Vz ⟨h2,_,rfl⟩))
theorem lC(O:aM c)(Z:LJ c.K){id p e ce x cv b pos}(hn:∀A,kq c env A H₀ σ (.Name id p) (.builtin "isinstance"))(i:isStarred e=false)(u:isStarred ce=false)(he:xm c env H₀ σ e x)(B:∀A,kq c env A H₀ σ ce cv)
 (G:∀C fl,x= .obj C fl->kr c.K C)(q:kitOne c.K (iW x) cv=some b):xm c env H₀ σ (.Call (.Name id p) [e,ce] [] pos) (.bool b):=λA T s w F=>by
 rw[arm_eval_Call_Name'];refine Vh (Vj (hn A T s w F) (λv s'⟨f,I⟩=>?_) λ_ _ z=>z);subst f;subst I;refine callWith_builtin (by rw[aA i,aA u];rfl) ?_;rw[aA i,aA u];refine evalArgs_plain (spliced_cons (Vj (he A T _ w F) (λv s1⟨r1,tk,f⟩=>?_) λ_ _ z=>z.elim));subst f;show wpAny _ _ (spliced ((false,eval ce env)::[])) _ _ _;refine spliced_cons (Vj (B A T {s' with toks:=tk} w F) (λQ U⟨J,N⟩=>?_) λ_ _ z=>z.elim);subst J;subst N;refine spliced_nil ?_;refine ab (tR (s:={s' with toks:=tk}) w r1 Z G) λH X P=>?_;exact kia_one X (w.gh O) P q (iF r1) λtk=>⟨.bool _,_,rfl⟩
theorem BU{e pos b}(h:xm c env H₀ σ e (.bool b))(i:∀w,isTrue e env w=(do let v<-w;standAt e.pos;holding [v] (truthy v))):xm c env H₀ σ (.UnaryOp .Not e pos) (.bool (!b)):=λA T s w F=>by rw[arm_eval_UnaryOp];refine Vh (Vj (h A T s w F) (λv s1⟨r1,tk,f⟩=>?_) λ_ _ z=>z);subst f;obtain rfl:=r1.inv;exact Vh (VG (VI (not_of (wpAny_truthy_bool ⟨.bool _,_,rfl⟩))))
theorem FA{f e2 pos b1 b2}(h1:xm c env H₀ σ f (.bool b1))(h2:b1=false->xm c env H₀ σ e2 (.bool b2)):xm c env H₀ σ (.BoolOp .Or [f,e2] pos) (.bool (b1||b2)):=λA T s w F=>by
 refine BoolOp_or (Vj (h1 A T s w F) (λv s1⟨r1,tk,f⟩=>?_) λ_ _ z=>z);subst f;obtain rfl:=r1.inv;refine wpAny_truthy_bool ?_
 induction b1 with
 |true=>exact⟨.bool _,_,rfl⟩
 |false=>exact BoolOp_one (h2 rfl A T {s with toks:=tk} w F|>λq=>Vj q (λv u⟨r,i,e⟩=>by subst e;exact⟨r,i,rfl⟩) λ_ _ z=>z)
end
theorem W.but{c T h h'}(w:W c T h)(ht:c.h₀.get? c.tab=none)(k:∀b o,b≠c.tab->h.get? b=some o->h'.get? b=some o)(f:∃ps,h'.get? c.tab=some (tabObj ps)/\nV c T ps):W c T h':=by refine⟨λb o e=>k b o (λq=>by rw[q,ht]at e;exact ad e) (w.base b o e),w.lo,λa ty e=>(w.ok a ty e).keeps (.refl T) (λb o⟨ty,e⟩ i=>k b o (w.lo b ty e).2 i) e,f⟩
theorem bF.but{c:Cx}{T:TM}{s s':Shared}(k:∀b o,b≠c.tab->s.heap.get? b=some o->s'.heap.get? b=some o)(f:AllBare s.gens->AllBare s'.gens)(i:s'.os=s.os):bF c T s T s':=
 ⟨λ_ _ e=>e,λa o _ h e=>k a o h e,λ_ _ _ _ e=>e,f,i⟩
theorem kB{q pos:Pos}{i:Value}(f:(pos.line==q.line&&pos.col==q.col)=false):∀(l:List Value),TriplesOk l->codeAmong q (l++[rawInt pos.line,rawInt pos.col,i])=codeAmong q l:=λl h=>by
 fun_induction TriplesOk l with
 |case1=>
  have:((pos.line:Int)==(q.line:Int)&&(pos.col:Int)==(q.col:Int))=false:=by rw[Bool.eq_false_iff];intro e;rw[V6,WU,WU]at e;rw[(by exact_mod_cast e.1:pos.line=q.line),(by exact_mod_cast e.2:pos.col=q.col)]at f;simp at f
  simp[codeAmong,rawInt];intro z B;rw[z,B]at this;simp at this
 |case2 a t b u x rest ih=>dsimp only[List.cons_append,codeAmong];rw[ih h]
 |case3 l h1 h2=>exact h.elim
section
variable{M:Model}{A:Around}{E:Value->Shared->Prop}{s:Shared}
theorem ky{env:Env}{c P:Addr}{ps:Array Value}{pos:Pos}{f:Str}{scope:Scope}{Q:Value->Shared->Prop}{u:Value}(F:env.code= .ref c)(G:s.heap.IsCode c P ps)(hf:codeAmong pos ps.toList=some u)
 (H:Q u s):wpAny M A (genexprCode env pos f scope) Q E s:=by
 obtain⟨o,vs,z,U,i,W,X,B,Y,op,I,hd,J,h2,Z,h9,H8,N,O,UU,f7⟩:=id G;unfold genexprCode codeAt;rw[F,Vk (show¬((Value.ref c==Value.none)=true)from VU)];refine Vh (wpAny_fieldsOf I hd ?_);rw[J];refine Vh (wpAny_fieldsOf N O ?_);rw[hf];exact Vz H
end
structure Dz(c:Cx)(cc:Addr):Prop where
 wG:c.h₀.get? c.tab=none
 hd:CodeHd c.h₀ cc c.tab
 bmain:∃mg,c.h₀.Ns mainGlobals mg/\∃bm ob,mg "__builtins__"=some (.ref bm)/\bm≠builtinsNs/\c.h₀.get? bm=some ob/\ob.cls= .type "module"/\ob.dict=some builtinsNs/\ob.data= .plain
section
variable{c:Cx}{env:Env}{A:Around}{H₀:Heap}{σ:ah}
theorem Dz.code{cc T h ps}(G:Dz c cc)(w:W c T h)(f:h.get? c.tab=some (tabObj ps))(ht:nV c T ps):h.IsCode cc c.tab ps:=(G.hd.keeps w.base).code f ht.pW
theorem lk{T s cc pos qualname scope}{Q:Value->Shared->Prop}{E}(G:Dz c cc)(w:W c T s.heap)(u:env.code= .ref cc)(F:(pos.line==c.fS.line&&pos.col==c.fS.col)=false)
 (z:∀f h' tk,W c T h'->(∀b o,b≠c.tab->s.heap.get? b=some o->h'.get? b=some o)->s.heap.objs.size<=h'.objs.size->Q f {s with heap:=h',toks:=tk}):
 wpAny c.M A (genexprCode env pos qualname scope) Q E s:=by
 refine ab w.tab λps i ht=>?_
 induction Re:codeAmong pos ps.toList with
 |some f=>exact ky u (G.code w i ht) Re (z f s.heap s.toks w (λ_ _ _ e=>e) (Vt _))
 |none=>
  refine wpAny_genexprCodeX u (G.code w i ht) ((G.hd.keeps w.base).tab i) Re λB h' tk hx H I _ _ J _=>?_;have hl:(ps++ #[rawInt pos.line,rawInt pos.col,Value.ref B]).toList=ps.toList++[rawInt pos.line,rawInt pos.col,.ref B]:=by simp
  refine z _ h' tk (w.but G.wG hx ⟨_,J.2,⟨by rw[hl];exact TriplesOk_snoc _ _ _ _ ht.pW,λf e=>ht.lam f ?_⟩⟩) hx (Vg H (VT I));rw[hl,kB F _ ht.pW]at e;exact e
theorem wP(O:aM c){cc}(G:Dz c cc){k}(R:bq A k)(hc:env.code= .ref cc){p id elt x px it scope pg p2 xs}(Y:∀v,genFold it env v=pure v)(hn:kq c env A H₀ σ (.Name id p) (.builtin "all"))(hl:sI c env A H₀ σ it xs)
 (f7:(pg.line==c.fS.line&&pg.col==c.fS.col)=false)(CB:scope.isCoroutine=false)(Ka:closureFor scope env=pure [])(jf:∀y∈scope.names,y.2≠ .cell)(h0:scope.names.lookup (".0":Str)=some NameKind.local)
 (hx:scope.names.lookup x=some .local)(vh:scope.kind= .function)
 (OO:∀cA H,cA.scope=scope->∀y∈xs,xm c cA H [(x,.fz y)] elt (.bool true)):
 bQ c env A H₀ σ (.Call (.Name id p) [.GeneratorExp elt [⟨.Name x px,it,[],0⟩] scope pg] [] p2) (.bool true):=λT s w F=>by
 obtain⟨mg,Eh,bm,ob,b1,b2,b3,b4,b5,b6⟩:=G.bmain;rw[arm_eval_Call_Name'];refine Vh (Vj (hn T s w F) (λv s'⟨Z,e2⟩=>?_) λ_ _ z=>z);subst Z;subst e2;have hr:A.depth<recursionLimit:=by have:=R.r.depth;unfold recursionLimit;lia
 refine callWith_builtin rfl (evalArgs_plain (spliced_cons ?_));refine wpAny_GeneratorExp_walksQ R.r.handled CB Ka jf h0 hx vh hr (Vj (hl T _ w F) (λv s1⟨T1,a,vs,n,ev,Z,J,at_,items,_,wC,J0⟩=>?_) λ_ _ z=>z) Y;subst ev;refine wpAny_pyIter_list ⟨_,at_,rfl,n,rfl⟩ ?_;have w2:W c T1 (s1.heap.push {cls:= .type "list_iterator",data:= .fields #[.ref a,.int 0 0]}):=J.push _;refine⟨(O.lim.keeps w2.base),lk (s:={s1 with heap:=s1.heap.push {cls:= .type "list_iterator",data:= .fields #[.ref a,.int 0 0]}}) G w2 hc f7 λcv f UL u k4 z4=>?_⟩;rw[F.glob];refine wpAny_builtinsFor (Eh.keeps u.base) b1 b2 (u.base _ _ b3) b4 b5 b6 ?_;have hI:s1.heap.objs.size<f.objs.size:=by have:(s1.heap.push {cls:= .type "list_iterator",data:= .fields #[.ref a,.int 0 0]}).objs.size<=f.objs.size:=z4;rw[Heap.size_push]at this;assumption
 have Ek:s1.heap.objs.size≠c.tab:=(J.free (aG _)).2;have QV:∀b o,b≠c.tab->s1.heap.get? b=some o->f.get? b=some o:=λb o hb e=>k4 b o hb (VW _ e);refine⟨s1.heap.objs.size,[s1.heap.objs.size,a],[s1.heap.objs.size],vs.size,_,_,λ_=>true,λ_ y=>y= .bool true,rfl,λA' hA=>Walks.list hA _ _ (Ww (V7 at_)) vs,⟨?_,?_⟩,?_,(O.lim.keeps u.base),?_,?_,?_⟩
 . exact dA _ (k4 _ _ Ek (VZ _ rfl)) rfl rfl
 . exact⟨_,QV _ _ wC at_,rfl,n,rfl⟩
 . intro b hb;rcases VN.mp hb with rfl|hb
   . exact hI
   . rcases VN.mp hb with rfl|hb
     . exact Nat.lt_trans (V7 at_) hI
     . cases hb
 . intro B;have mF:cStatics<s1.heap.objs.size:=by
    refine ab (O.lim.keeps J.base) λ_ A6 _=>?_;exact A6.lt
   refine Or.elim (VN.mp B) (λe=>?_) λhb=>?_
   . exact Vu (e▸mF) (Nat.lt_irrefl _)
   . cases hb
 . intro Th hk;refine⟨λA' E' i v I N hA hP wF B vi=>Vz ⟨rfl,I.heap,I.toks,rfl,λ_ _ e=>e⟩,λA' E' i v I N hA hP _ wF B vi=>?_⟩;have Og:∀b o,b≠s1.heap.objs.size->f.get? b=some o->I.heap.get? b=some o:=λb o hb e=>vi b (Wv.mpr (V7 e)) (by simp[hb]) o (hk b o e);have w5:W c T1 I.heap:=by
    refine⟨λb o e=>Og b o (λq=>?_) (u.base b o e),u.lo,λb ty e=>(u.ok b ty e).keeps (.refl T1) (λb o⟨ty,e⟩ e'=>Og b o (λq=>?_) e') e,let⟨ps,e,r⟩:=u.tab;⟨ps,Og _ _ (Ne.symm Ek) e,r⟩⟩
    . rw[q,(J.free (aG _)).1]at e;exact ad e
    . rw[q,(J.none_of (aG _))]at e;exact ad e
   refine ab (items.ix (WT.trans hP)) λy hy rv=>?_;have F':FR c (genEnv scope [] f.objs.size cv builtinsNs env) f [(x,.fz y)] T1 I.heap:=by exact FR.fz vh F.glob rfl (λb hb=>u.free hb) (u.none_of (aG _)) (aG _) (λz b P=>nomatch P) (λz z' b P=>nomatch P) (λz P=>Vu rfl (jf _ (mem_of_lookup P))) wF (fm ⟨v,y,rfl,.inl ⟨hx,B⟩,rv⟩ Ia)
   have:=OO (genEnv scope [] f.objs.size cv builtinsNs env) f rfl y (List.mem_of_getElem? hy) A' T1 I w5 F';refine bT (Vj this (λv' s'⟨r,tk,e⟩=>?_) λ_ _ z=>z);subst e;obtain rfl:=r.inv;exact⟨rfl,I.heap,tk,rfl,λ_ _ e=>e⟩
 . intro g h5 tk gs TC hg US k5 U vj;refine spliced_nil ?_;have U:=U.in4_1;refine call_all_walkS (U.self 0 _ _ _ vj ⟨g,_,_,_,_,_,_,λ_=>true,rfl,U,vj,?_,λs' B=>?_⟩)
   . intro i v' s' Q E' ⟨j,_,hv⟩ hq;subst hv;exact wpAny_truthy_bool hq
   . have ht:(List.range (passing (λ_=>true) vs.size 0).length).all (λ_=>true)=true:=by simp
     rw[ht];have QT:∀b o,b∉(f.objs.size::[s1.heap.objs.size])->f.get? b=some o->s'.heap.get? b=some o:=λb o hb e=>B.heap b o hb (k5 b o e);have SF:∀b o,s1.heap.get? b=some o->b∉(f.objs.size::[s1.heap.objs.size]):=λb o e hb=>by
      have:=V7 e;refine Or.elim (VN.mp hb) (λq=>?_) λhb=>?_
      . have q:b=f.objs.size:=q;rw[q]at this;exact Vu (Nat.lt_trans hI this) (Nat.lt_irrefl _)
      . refine Or.elim (VN.mp hb) (λq=>?_) λhb=>?_
        . have q:b=s1.heap.objs.size:=q;rw[q]at this;exact Vu this (Nat.lt_irrefl _)
        . cases hb
     have QU:∀b o,b≠c.tab->s1.heap.get? b=some o->s'.heap.get? b=some o:=λb o hb e=>QT b o (SF b o e) (QV b o hb e);refine⟨T1,Z.trans (bF.but QU (λhg=>(hg.push TC).movedS B) B.os),J.but G.wG QU ?_,.bool _⟩;refine ab u.tab λps e r=>?_;have X:c.tab<s1.heap.objs.size:=by refine ab J.tab λps e _=>?_;exact V7 e
     exact ag ps (QT _ _ (by
      intro hb;refine Or.elim (VN.mp hb) (λq=>?_) λhb=>?_
      . have q:c.tab=f.objs.size:=q;rw[q]at X;exact Vu (Nat.lt_trans hI X) (Nat.lt_irrefl _)
      . refine Or.elim (VN.mp hb) (λq=>?_) λhb=>?_
        . have q:c.tab=s1.heap.objs.size:=q;rw[q]at X;exact Vu X (Nat.lt_irrefl _)
        . cases hb) e) r
end
inductive fN(c:Cx)(T:TM)(h:Heap)(f:Addr)(name q:Str)(params:Arguments)(body:Expr)(scope:Scope)(bn:Str)(bv:AV):Prop
 |mk (pm:Value) (c':Addr) (A8:Value) (a:Addr) (oc:Obj) (vs:Array Value) (t:Tok) (v:Value) (fn:h.get? f=some (kla_obj name q params body scope [(bn,a)] pm c' A8)) (tn:T f=none) (ft:f≠c.tab) (SC:h.get? c'=some oc) (od:oc.data= .fields vs) (ov:vs[1]? =some (.str q t)) (fx:Ba T c') (ct:c'≠c.tab)
  (cell:h.IsCell a (some v)) (vr:VR T v bv) (an:T a=none) (a0:c.h₀.get? a=none) (at_:a≠c.tab)
section
variable{c:Cx}{env:Env}{A:Around}{H₀:Heap}{σ:ah}
theorem fN.ext{T s T' s' f name q params body scope bn bv}(x:fN c T s.heap f name q params body scope bn bv)(e:bF c T s T' s'):fN c T' s'.heap f name q params body scope bn bv:=by
 obtain⟨I,J,N,a,O,vs,t,v,h1,h2,i,B,P,Q,F,u,U,W,G,X,z⟩:=x;refine ab U λY H Z=>?_;exact⟨I,J,N,a,O,vs,t,v,e.keep _ _ (.none h2) i h1,e.cN _ _ i h1 h2,i,e.keep _ _ F u B,P,Q,F.le e.le λq=>e.cN _ _ u B q,u,
  ⟨Y,e.keep _ _ (.none G) z H,Z⟩,W.mono e.le,e.cN _ _ z H G,X,z⟩
theorem fN.tn{T h f name q params body scope bn bv}(x:fN c T h f name q params body scope bn bv):T f=none:=x.casesOn λ_ _ _ _ _ _ _ _ _ h _ _ _ _ _ _ _ _ _ _ _=>h
theorem yU(O:aM c){T s f name q params body scope bn bv xn x v r k}(R:cD A (k+1))(L:fN c T s.heap f name q params body scope bn bv)(w:W c T s.heap)(Y:VR T v x)
 (Z:∀fd:FuncData,fd.params=params->fd.defaults= .none->fd.kwdefaults= .none->bindArgs fd ⟨[v],[]⟩=pure [(xn,v)])(hx:scope.names.lookup xn=some .local)(hb:scope.names.lookup bn=some .free)(wH:(bn==("__classdict__":Str))=false)
 (Q1:(bn==xn)=false)(CB:scope.isCoroutine=false)(t4:scope.isGenerator=false)(G:scope.kind= .function)(I:∀y∈scope.names,y.2≠ .cell)
 (fH:∀A J H,J.scope=scope->bq A k->bQ c J A H [(xn,.fz x),(bn,.fz bv)] body r):wpAny c.M A (call (.ref f) [v]) (Got c T s r) cg s:=by
 obtain⟨pm,c',A8,a,oc,vs,t,vb,h1,h2,h3,h4,h5,h6,h7,h8,h9,H8,Em,Ki,Kh⟩:=L;refine wpAny_call (kla_callFunE R.lim h1 rfl CB t4 rfl ⟨c',oc,vs,t,rfl,h4,h5,h6⟩ ?_);rw[Z _ rfl rfl rfl];refine Vz (wpAny_newFunctionEnv I (λy hy=>?_) (λB wF N=>⟨O.lim.keeps λb o e=>?_,?_⟩) G)
 . rcases VN.mp hy with rfl|hy
   . exact hx
   . cases hy
 . exact N.extBut b o (Ww (V7 (w.base b o e))) (VW _ (w.base b o e))
 . have F:∀b o,s.heap.get? b=some o->B.get? b=some o:=λb o e=>N.extBut b o (Ww (V7 e)) (VW _ e);have e1:bF c T s T {s with heap:=B,toks:=s.toks+[(xn,v)].length}:=bF.grown F _;refine ab h9 λQ U X=>?_;refine kla_codeExpr (Vj (fH _ _ s.heap rfl (R.frame _) T {s with heap:=B,toks:=s.toks+[(xn,v)].length} (w.grown F) ?_) (λu s' g=>g.trans e1) λ_ _ z=>z.elim);exact FR.fz G rfl rfl (λb Kd=>w.free Kd) (w.none_of (aG s.heap)) (aG _) (λz b i=>fm (P:=λp:Str×Addr=>(∃v,B.IsCell p.2 v)/\T p.2=none/\c.h₀.get? p.2=none/\p.2≠c.tab) ⟨⟨_,Q,F _ _ U,X⟩,Em,Ki,Kh⟩ Ia _ (mem_of_lookup i))
    (λz z' b i Q0=>(Prod.mk.inj (Vo.mp (mem_of_lookup i))).1.trans (Prod.mk.inj (Vo.mp (mem_of_lookup Q0))).1.symm) (λz i=>Vu rfl (I _ (mem_of_lookup i))) wF
    (fm ⟨v,x,rfl,.inl ⟨hx,by simp⟩,Y⟩ (fm ⟨vb,bv,rfl,.inr ⟨.inr ⟨hb,wH⟩,a,by simp[newEnv],Q,F _ _ U,X⟩,H8⟩ Ia))
end
section
variable{c:Cx}{env:Env}{A:Around}{H₀:Heap}{σ:ah}{aj:TM}{ae:Shared}
theorem zP:sP c env A aj ae σ [] (.next σ):=λT s S=>wpAny_execs_nil ⟨rfl,T,S,.refl ..⟩
theorem fK{st rest σ' o}(h:LN c env A aj ae σ st (.next σ'))(t:sP c env A aj ae σ' rest o):sP c env A aj ae σ (st::rest) o:=λT s S=>by refine wpAny_execs_cons (Vj (h T s S) (λf s'⟨e,T',i,l⟩=>?_) λ_ _ z=>z);subst e;exact Vj (t T' s' i) (λf u q=>q.from l) λ_ _ z=>z
theorem lj{T}{s:Shared}{x:Str}{v:Value}{M A E}{Q:Value->Shared->Prop}(F:FR c env H₀ σ T s.heap)(hx:σ.lookup x=some (.raw v))(h:Q v s):wpAny M A (loadName env x) Q E s:=by refine cq F.vals λm ρ V=>?_;refine ab (V.val x _ hx) λf h1 h2=>?_;obtain rfl:=h2.inv;exact h1.load F V.ns h
theorem zV{f nm q params c6 scope cn cv fx sn an bn p1 p2 p3 p4 p5 p6 ap p7 pos pos' y xs1 xs2}{r:Bool}(J:env.scope.kind= .function)(hL:fN c aj ae.heap f nm q params c6 scope cn cv)(h1:σ.lookup fx=some (.raw (.ref f)))(h2:σ.lookup sn=some (.fz y))
 (H:σ.lookup an=some (.ol xs1))(I:σ.lookup bn=some (.ol xs2))(N:(fx==("__debug__":Str))=false)(B:(sn==("__debug__":Str))=false)(O:(an==("__debug__":Str))=false)(P:(bn==("__debug__":Str))=false)
 (Q:∀T s v,fN c T s.heap f nm q params c6 scope cn cv->W c T s.heap->VR T v y->wpAny c.M A (call (.ref f) [v]) (Got c T s (.bool r)) cg s)(hl:(ap.endLine==pos.line)=true)(U:xs1.length<=1000)(X:xs2.length<=1000):
 LN c env A aj ae σ (.Expr (.Call (.Attribute (.IfExp (.Call (.Name fx p1) [.Name sn p2] [] p3) (.Name an p4) (.Name bn p5) p6) "append" ap) [.Name sn p7] [] pos) pos') (.next (if r then aQ σ an (.ol (xs1++[y]))else aQ σ bn (.ol (xs2++[y])))):=λT s S=>by
 refine wpAny_Expr_any ?_ (by unfold interactive;rw[J];rfl) (by rfl);rw[arm_eval_Call,dw rfl];refine Vh (IfExp_ ?_);show wpAny _ _ (do let v<-eval (.Call (.Name fx p1) [.Name sn p2] [] p3) env;standAt p3;holding [v] (truthy v)) _ _ _;rw[arm_eval_Call_Name'];refine Vh (Vh (wpAny_Name (lj S.f h1 ?_) N));obtain⟨pm,c',A8,a,SC,AZ,t',v',Y,_,Z,_⟩:=hL.ext S.e;refine callWith_function (o:=_) (fd:=_) (dk (.cons rfl (bY h2 B) .nil) S.w S.f λvs T1 s1 F w1 r1=>⟨⟨F.keep _ _ (.none ((hL.ext S.e).tn)) Z Y,rfl⟩,?_⟩);refine ab r1.one λv aK ra=>?_;subst aK;refine Vj (Q T1 s1 _ (hL.ext (S.e.trans F)) w1 ra) (λu s2⟨T2,e2,w2,rr⟩=>?_) λ_ _ z=>z;obtain rfl:=rr.inv;refine Vh (VG (VI (wpAny_truthy_bool ?_)));refine af (S.kp (F.trans e2) w2) λi l2=>?_;refine cq i.f.vals λm ρ V=>?_
 induction r with
 |true=>exact g9 i V H (λr v q=>(wo q).1) O (Vh (VG (iD i V H rfl (bY h2 B) hl U λT' s' G l=>⟨rfl,T',G,l2.trans l⟩)))
 |false=>exact g9 i V I (λr v q=>(wo q).1) P (Vh (VG (iD i V I rfl (bY h2 B) hl X λT' s' G l=>⟨rfl,T',G,l2.trans l⟩)))
end
noncomputable def oH(l:List AV)(v:Value)(xs1 xs2:List AV)(r:ah):ah:=("itr",.fz (.list l))::("fxn",.raw v)::("a",.ol xs1)::("b",.ol xs2)::r
section
variable{c:Cx}{env:Env}{A:Around}{H₀:Heap}{σ:ah}{aj:TM}{ae:Shared}
theorem rA{f nm q params c6 scope cn cv p1 p2 p3 p4 p5 p6 ap p7 pos pos'}{l:List AV}{g:AV->Bool}(G:env.scope.kind= .function)(hL:fN c aj ae.heap f nm q params c6 scope cn cv)(hl:(ap.endLine==pos.line)=true):
 ∀(ys xs1 xs2:List AV)(r:ah),(r=[]\/∃y,r=([("s",EV.fz y)]:ah))->(∀y∈ys,∀T s v,fN c T s.heap f nm q params c6 scope cn cv->W c T s.heap->VR T v y->wpAny c.M A (call (.ref f) [v]) (Got c T s (.bool (g y))) cg s)->xs1.length+xs2.length+ys.length<=1000->
  ∃i,(i=[]\/∃y,i=([("s",EV.fz y)]:ah))/\xc c env A aj ae ["s"] [.Expr (.Call (.Attribute (.IfExp (.Call (.Name "fxn" p1) [.Name "s" p2] [] p3) (.Name "a" p4) (.Name "b" p5) p6) "append" ap) [.Name "s" p7] [] pos) pos']
   (oH l (.ref f) xs1 xs2 r) (ys.map λy=>[y]) (.next (oH l (.ref f) (xs1++ys.filter g) (xs2++ys.filter λy=> !g y) i))
 |[],xs1,xs2,r,hr,_,_=>⟨r,hr,by simpa using .done⟩
 |y::ys,xs1,xs2,r,hr,hc,F=>by
  have P:xs1.length+xs2.length+ys.length+1<=1000:=by rw[VP]at F;assumption
  have hb:aX (oH l (.ref f) xs1 xs2 r) ["s"] [y]=oH l (.ref f) xs1 xs2 [("s",.fz y)]:=by rcases hr with rfl|⟨z,rfl⟩<;>rfl
  have st:=zV (σ:=oH l (.ref f) xs1 xs2 [("s",.fz y)]) (p1:=p1) (p2:=p2) (p3:=p3) (p4:=p4) (p5:=p5) (p6:=p6) (p7:=p7) (pos':=pos') (r:=g y) (y:=y) (xs1:=xs1) (xs2:=xs2) (fx:="fxn") (sn:="s") (an:="a") (bn:="b") G hL rfl rfl rfl rfl rfl rfl rfl rfl (hc y (.head _)) hl (by lia) (by lia);obtain⟨u,B,H,Q,I,J⟩:∃u B,(if g y=true then aQ (oH l (.ref f) xs1 xs2 [("s",.fz y)]) "a" (.ol (xs1++[y]))else aQ (oH l (.ref f) xs1 xs2 [("s",.fz y)]) "b" (.ol (xs2++[y])))=oH l (.ref f) u B [("s",.fz y)]/\
   u.length+B.length=xs1.length+xs2.length+1/\u++ys.filter g=xs1++(y::ys).filter g/\B++ys.filter (λy=> !g y)=xs2++(y::ys).filter λy=> !g y:=by
   induction hg:g y with
   |true=>exact z9 (xs1++[y]) xs2 rfl (by simp;lia) (by simp[hg]) (by simp[hg])
   |false=>exact z9 xs1 (xs2++[y]) rfl (by simp;lia) (by simp[hg]) (by simp[hg])
  rw[H]at st;obtain⟨i,N,O⟩:=rA G hL hl ys u B [("s",.fz y)] (.inr ⟨y,rfl⟩) (λz F=>hc z (.tail _ F)) (by lia);refine ag i N ?_;rw[<-I,<-J];exact .next (by rw[hb];exact fK st zP) O
theorem wm{f nm q params c6 scope cn cv q1 q2 q3 q4 q5 q6 q7 q8 q9 k10 q11 q12 q13 q14 p1 p2 p3 p4 p5 p6 ap p7 pos pos'}{l:List AV}{g:AV->Bool}(i:d5 env ae.heap)(B:A.handled=none)(F:env.scope.kind= .function)(hL:fN c aj ae.heap f nm q params c6 scope cn cv)(hl:(ap.endLine==pos.line)=true)
 (G:env.kindOf "a"=some .local)(hb:env.kindOf "b"=some .local)(H:env.kindOf "s"=some .local)(I:l.length<=1000)
 (J:∀y∈l,∀T s v,fN c T s.heap f nm q params c6 scope cn cv->W c T s.heap->VR T v y->wpAny c.M A (call (.ref f) [v]) (Got c T s (.bool (g y))) cg s):
 ∃σ',sP c env A aj ae [("itr",.fz (.list l)),("fxn",.raw (.ref f))] [.Assign [.Name "a" q1] (.List [] q2) q3,.Assign [.Name "b" q4] (.List [] q5) q6,.For (.Name "s" q7) (.Name "itr" q8) [.Expr (.Call (.Attribute (.IfExp (.Call (.Name "fxn" p1) [.Name "s" p2] [] p3) (.Name "a" p4) (.Name "b" p5) p6) "append" ap) [.Name "s" p7] [] pos) pos'] [] q9,
  .Return (some (.Tuple [.Name "a" q11,.Name "b" q12] k10 q13)) q14] (.ret (.tup [.list (l.filter g),.list (l.filter λy=> !g y)]) σ'):=by
 refine ab (rA (p1:=p1) (p2:=p2) (p3:=p3) (p4:=p4) (p5:=p5) (p6:=p6) (p7:=p7) (pos':=pos') (l:=l) F hL hl l [] [] [] (.inl rfl) J (by simpa using I)) λN u O=>?_;refine⟨(["a","b"]:List Str).foldl lU (oH l (.ref f) ([]++l.filter g) ([]++l.filter λy=> !g y) N),fK ((fV (xs:=[]) rfl (.inl G) λH₀=>gT .nil (by exact Vq _)).f i) (fK ((fV (xs:=[]) rfl (.inl hb) λH₀=>gT .nil (by exact Vq _)).f i) (fK (vu i (λx=>rfl) (λx hx=>?_) (λH₀=>va B (bY rfl rfl)) O) ?_))⟩
 . rcases VN.mp hx with rfl|hx
   . exact .inl H
   . cases hx
 . refine dG.f (gG (xs:=["a","b"]) (vp (zU λH₀=>ma (.cons rfl (bY (y:= .list (l.filter g)) ?_ rfl) (.cons rfl (bY (y:= .list (l.filter λy=> !g y)) ?_ rfl) .nil)) (by simp)))) i
   . rcases u with rfl|⟨z,rfl⟩<;>rfl
   . rcases u with rfl|⟨z,rfl⟩<;>rfl
end
section
variable{c:Cx}{env:Env}{A:Around}{H₀:Heap}{σ:ah}{aj:TM}{ae:Shared}
theorem r5{b x σ'}(h:sP c env A aj ae σ b (.ret x σ')):sP c env A aj ae σ b (.ret x []):=λT s S=>
 Vj (h T s S) (λf s'⟨v,T',e,i,l,r⟩=>⟨v,T',e,i.weak (λx e h=>by simp at h),l,r⟩) λ_ _ z=>z
noncomputable def Qf(c:Cx)(T:TM)(s:Shared)(q:Str)(params:Arguments)(c6:Expr)(scope:Scope)(bn:Str)(bv:AV)(v:Value)(s':Shared):Prop:=∃f T',v= .ref f/\bF c T s T' s'/\W c T' s'.heap/\fN c T' s'.heap f "<lambda>" q params c6 scope bn bv
theorem vZ{T s cc params c6 scope lp bn bv q}(G:Dz c cc)(w:W c T s.heap)(F:FR c env H₀ σ T s.heap)(Z:env.code= .ref cc)(hq:env.qual++"<lambda>"=q)(L1:c.i9=q)(L2:c.fS=lp)(Gy:defaultsOf params env=([],[]))
 (mF:∀a,env.cells.lookup bn=some a->closureFor scope env=pure [(bn,a)])(hk:env.kindOf bn=some .cell)(hb:σ.lookup bn=some (.fz bv)):
 wpAny c.M A (eval (.Lambda params c6 scope lp) env) (Qf c T s q params c6 scope bn bv) cg s:=by
 obtain⟨H,I,bm,ob,b1,b2,b3,b4,b5,b6⟩:=G.bmain;refine cq F.vals λm ρ V=>?_;refine ab (V.val bn _ hb) λvb g1 g2=>?_;have rb:VR T vb bv:=g2;obtain⟨a,Q,jf⟩:∃a,env.cells.lookup bn=some a/\s.heap.IsCell a (some vb):=by
  rcases g1 with⟨k,_⟩|⟨_,h⟩
  . injection hk.symm.trans k with z;injection z
  . exact h
 refine eM (F.cells bn a Q) λ_ a2 a3 U=>?_;refine ab w.tab λps hP ht=>?_;have TD:mainGlobals≠c.tab:=λe=>by refine f9 I λo es ep X _=>?_;exact ad (G.wG.symm.trans (e▸X))
 have TQ:bm≠mainGlobals:=λe=>by refine sg I λo es ep X Y _=>?_;rw[e,X]at b3;obtain rfl:=Option.some.inj b3;rw[Y]at b6;injection b6
 have BA:s.heap.BuiltinsAt H c.tab:=⟨bm,ob,b1,b2,TQ,(λe=>ad (G.wG.symm.trans (e▸b3))),w.base _ _ b3,b4,b5,b6⟩;refine ab jf λoa J c2=>?_;refine kla_eval Gy ?_;rw[hq]
 induction L8:codeAmong lp ps.toList with
 |some cv=>refine ab (ht.lam cv (by rw[L2];exact L8)) λf aK N=>?_;subst aK;rw[L1]at N;refine sg ((w.ok _ _ N).inv) λ_ _ _ at_ hd hv=>?_;refine kla_makeFunctionHit (mF a Q) F.glob (I.keeps w.base) Z (G.hd.keeps w.base) hP ht.pW L8 BA λO h' tk iP Ox=>?_;have i:W c T h':=w.grown iP;have u:∀b o,s.heap.get? b=some o->(h'.push {cls:= .type "function",data:= .func (kla_fn "<lambda>" q params c6 scope [(bn,a)] ((H "__name__").getD .none) (.ref f) O)}).get? b=some o:=λb o e=>VW _ (iP b o e);refine⟨_,T,rfl,bF.grown u tk,i.push _,_,_,_,_,_,_,_,_,VZ _ rfl,i.none_of (aG _),(i.free (aG _)).2,u _ _ at_,hd,hv,λd e=>?_,(w.lo _ _ N).2,⟨oa,u _ _ J,c2⟩,rb,a2,a3,U⟩;rw[N]at e;exact Ty.noConfusion (Option.some.inj e)
 |none=>
  refine kla_makeFunction (mF a Q) F.glob (I.keeps w.base) Z (G.hd.keeps w.base) hP ht.pW L8 TD BA λf O h' tk hx OM ie OB Te=>?_;obtain⟨Ve,oc,vs,t,ec,Ra,Rk,Q5⟩:=OB;obtain rfl:=Value.ref.inj ec;have P:s.heap.get? f=none:=by
   induction e:s.heap.get? f with
   |none=>rfl
   |some o=>exact Vu (V7 e) (Nat.not_lt.mpr OM)
  have hn:=w.none_of P;have rR:=w.free P;have le:=dH (ty:= .code q) hn;have hl:(ps++ #[rawInt lp.line,rawInt lp.col,Value.ref f]).toList=ps.toList++[rawInt lp.line,rawInt lp.col,.ref f]:=by simp
  have i:W c (fv T f (.code q)) h':=by
   refine⟨λb o e=>hx b o (λq=>by rw[q,G.wG]at e;exact ad e) (w.base b o e),λb ty e=>?_,λb ty e=>?_,_,Te,?_,λcv e=>?_⟩
   . by_cases qb:b=f
     . rw[qb];exact rR
     . rw[dq qb]at e;exact w.lo b ty e
   . by_cases qb:b=f
     . subst qb;rw[bP]at e;obtain rfl:=Option.some.inj e;exact .code Ra Rk Q5
     . have B:=e;rw[dq qb]at B;exact(w.ok b ty B).keeps le (λb o⟨ty,e⟩ B=>hx b o (w.lo b ty e).2 B) B
   . rw[hl];exact TriplesOk_snoc _ _ _ _ ht.pW
   . rw[hl,L2,codeAmong_snoc _ ht.pW L8]at e;obtain rfl:=Option.some.inj e;exact ag f rfl (by rw[L1];exact bP)
  have u:∀b o,b≠c.tab->s.heap.get? b=some o->(h'.push (kla_obj "<lambda>" q params c6 scope [(bn,a)] ((H "__name__").getD .none) f O)).get? b=some o:=λb o hb e=>VW _ (hx b o hb e);have ac:a≠f:=λe=>by rw[e,P]at J;exact ad J
  have Y:bF c T s T {s with heap:=h'.push (kla_obj "<lambda>" q params c6 scope [(bn,a)] ((H "__name__").getD .none) f O),toks:=tk}:=bF.but u (λh=>h) rfl;refine⟨_,fv T f (.code q),rfl,Y.type hn P,i.push _,_,_,_,_,_,_,_,_,VZ _ rfl,i.none_of (aG _),(i.free (aG _)).2,VW _ Ra,Rk,Q5,λd e=>?_,rR.2,⟨oa,u _ _ U J,c2⟩,rb.mono le,(dq ac).trans a2,a3,U⟩;rw[bP]at e;exact Ty.noConfusion (Option.some.inj e)
end
section
variable{c:Cx}{env:Env}{A:Around}{H₀:Heap}{σ:ah}{aj:TM}{ae:Shared}
theorem t9(O:aM c){cc}(G:Dz c cc){k}(R:bq A (k+2))(hc:env.code= .ref cc){pf fd}{q1 q2 q3 q4 q5 q6 q7 q8 q9 q11 q12 q13 q14 p1 p2 p3 p4 p5 p6 Y p7 pos pos':Pos}{k10:Nat}
 (X:sO c.K pf fd [.Assign [.Name "a" q1] (.List [] q2) q3,.Assign [.Name "b" q4] (.List [] q5) q6,.For (.Name "s" q7) (.Name "itr" q8) [.Expr (.Call (.Attribute (.IfExp (.Call (.Name "fxn" p1) [.Name "s" p2] [] p3) (.Name "a" p4) (.Name "b" p5) p6) "append" Y) [.Name "s" p7] [] pos) pos'] [] q9,
  .Return (some (.Tuple [.Name "a" q11,.Name "b" q12] k10 q13)) q14])
 (TR:(Y.endLine==pos.line)=true)(ha:fd.scope.names.lookup ("a":Str)=some .local)(hb:fd.scope.names.lookup ("b":Str)=some .local)(hs:fd.scope.names.lookup ("s":Str)=some .local)
 (hi:fd.scope.names.lookup ("itr":Str)=some .local)(hf:fd.scope.names.lookup ("fxn":Str)=some .local)
 (rT:∀s v1 W,c.K.In s.heap->BindsTo s fd ⟨[v1,W],[]⟩ ([("itr",v1),("fxn",W)]:List (Str×Value)))(vi:keepIn c.K (.ref pf)=true)
 {pp nn x1 x2 pn QH QF QE kt pt params c6 scope lp pc pa bn bv q l xn}{g:AV->Bool}(JU:∀A H₀ σ,kq c env A H₀ σ (.Name nn pp) (.ref pf))(hn:σ.lookup pn=some (.fz (.list l)))(Ts:(pn==("__debug__":Str))=false)(hz:l.length<=1000)
 (hq:env.qual++"<lambda>"=q)(L1:c.i9=q)(L2:c.fS=lp)(Gy:defaultsOf params env=([],[]))(mF:∀a,env.cells.lookup bn=some a->closureFor scope env=pure [(bn,a)])(hk:env.kindOf bn=some .cell)(TL:σ.lookup bn=some (.fz bv))
 (TO:∀v(fd:FuncData),fd.params=params->fd.defaults= .none->fd.kwdefaults= .none->bindArgs fd ⟨[v],[]⟩=pure [(xn,v)])(hx:scope.names.lookup xn=some .local)(TP:scope.names.lookup bn=some .free)(wH:(bn==("__classdict__":Str))=false)
 (Q1:(bn==xn)=false)(CB:scope.isCoroutine=false)(t4:scope.isGenerator=false)(Tg:scope.kind= .function)(jf:∀y∈scope.names,y.2≠ .cell)
 (fH:∀y∈l,∀A B H,B.scope=scope->bq A k->bQ c B A H [(xn,.fz y),(bn,.fz bv)] c6 (.bool (g y)))
 (Gq:env.kindOf x1=some .local\/env.kindOf x1=some .cell)(zp:env.kindOf x2=some .local\/env.kindOf x2=some .cell):
 ju c env A σ (.Assign [.Tuple [.Name x1 QF,.Name x2 QE] kt pt] (.Call (.Name nn pp) [.Name pn QH,.Lambda params c6 scope lp] [] pc) pa) (.next (aQ (aQ σ x1 (.fz (.list (l.filter g)))) x2 (.fz (.list (l.filter λy=> !g y))))):=λaj ae T s S oc=>by
 have tg:AU c env A σ (.Tuple [.Name x1 QF,.Name x2 QE] kt pt) (.tup [.list (l.filter g),.list (l.filter λy=> !g y)]) (aQ (aQ σ x1 (.fz (.list (l.filter g)))) x2 (.fz (.list (l.filter λy=> !g y)))):=
  qZ R.r.handled (.cons rfl (kI Gq) (.cons rfl (kI zp) .nil))
 have ev:bQ c env A ae.heap σ (.Call (.Name nn pp) [.Name pn QH,.Lambda params c6 scope lp] [] pc) (.tup [.list (l.filter g),.list (l.filter λy=> !g y)]):=λT s w F=>by
  rw[arm_eval_Call_Name'];refine Vh (Vj (JU A ae.heap σ T s w F) (λv s'⟨I,J⟩=>?_) λ_ _ z=>z);subst I;subst J;refine callWith_of (P:=λh=>c.K.In h) rfl (keeps_K vi) ?_;refine evalArgs_plain (spliced_cons (Vj (bY hn Ts T _ w F) (λv1 s1⟨T1,I,w1,r1⟩=>?_) λ_ _ z=>z.elim));show wpAny _ _ (spliced ((false,eval (.Lambda params c6 scope lp) env)::[])) _ _ _;refine spliced_cons (Vj (vZ G w1 (F.ext I) hc hq L1 L2 Gy mF hk TL) (λW Z⟨f,T2,Uh,J,N,L⟩=>?_) λ_ _ z=>z.elim);subst Uh;refine spliced_nil ⟨N.gh O,?_⟩;refine Vj (Q:=Got c T2 Z (.tup [.list (l.filter g),.list (l.filter λy=> !g y)])) (wpAny_call ?_) (λu s3 gg=>(gg.trans J).trans I) λ_ _ z=>z;refine iR O X (k:=k+1) R.r N (.refl ..) N (rT Z v1 (.ref f) (N.gh O))
   (.cons (r:=0) (.fz (r1.mono J.le)) (.cons (r:=0) .raw .nil)) ⟨by simp only[Vn,List.map_nil];decide,λn A6=>?_⟩ ?_ (λB A' he xk R' s3 S3 LS=>?_)
  . simp only[Vn,List.map_nil]at A6;rcases VN.mp A6 with rfl|A6
    . exact .inl hi
    . rcases VN.mp A6 with rfl|A6
      . exact .inl hf
      . cases A6
  . intro x y e f' i _ oe;rw[VK]at i;split at i
    . obtain rfl:=Option.some.inj i;exact Vu oe VU
    . rw[VK]at i;split at i
      . obtain rfl:=Option.some.inj i;exact Vu oe VU
      . simp at i
  . have kk:∀x,B.kindOf x=fd.scope.names.lookup x:=λx=>by unfold Env.kindOf;rw[he]
    obtain⟨σ',Kd⟩:=wm (k10:=k10) (q1:=q1) (q2:=q2) (q3:=q3) (q4:=q4) (q5:=q5) (q6:=q6) (q7:=q7) (q8:=q8) (q9:=q9) (q11:=q11) (q12:=q12) (q13:=q13) (q14:=q14) (p1:=p1) (p2:=p2) (p3:=p3) (p4:=p4) (p5:=p5) (p6:=p6) (p7:=p7) (pos':=pos') (g:=g) (l:=l) LS R'.r.handled (by rw[he];exact X.kind) L TR ((kk _).trans ha) ((kk _).trans hb) ((kk _).trans hs) hz
     λy hy T s v LL ww rr=>yU O (k:=k) R'.r LL ww rr (TO v) hx TP wH Q1 CB t4 Tg jf (fH y hy)
    refine Vj (r5 Kd T2 s3 S3) (λfl s' q=>?_) λ_ _ z=>z.elim;obtain⟨v,T',e,U,_,r⟩:=q;subst e;exact⟨T',U.e,U.w,r⟩
 refine wpAny_Assign_stores (Vj (ev T s S.w S.f) (λv s'⟨T',ex,w',r⟩=>?_) λ_ _ z=>z) (gQ rfl) rfl;refine af (S.kp ex w') λU l'=>?_;exact Vj (tg aj ae T' s' v U oc r) (λ_ fo⟨uq,pQ,Oa⟩=>⟨rfl,uq,pQ,l'.trans Oa⟩) λ_ _ z=>z
end
noncomputable def vS:Stmt->Nat×List Stmt
 | .If _ b _ _=>(0,b)
 | .Assert _ _ p=>(p.line,[])
 | .Assign _ _ p=>(p.line,[])
 |_=>(0,[])
noncomputable def m7(l:List Stmt):List Stmt:=l.head?.elim [] λs=>(vS s).2
noncomputable def Gc:List Stmt:=m7 (m7 (mi 359))
noncomputable abbrev mM:dM:=DR 359
noncomputable def rD:List (Str×NameKind):=[(".0",.local),("node",.local),("isinstance",.globalImplicit),("MulNode",.globalImplicit),("int",.globalImplicit)]
noncomputable def ng:List (Str×NameKind):=[("x",.local),("b",.free),("isinstance",.globalImplicit),("MulNode",.globalImplicit)]
noncomputable def yV:Expr->List Expr
 | .BoolOp _ es _=>es
 | .Lambda _ b _ _=>[b]
 | .Call _ as _ _=>as
 |_=>[]
noncomputable def P6:Stmt->List Expr
 | .Assign _ e _=>[e]
 |_=>[]
noncomputable def Gh:List Expr:=((((Gc[5]?.toList.flatMap P6).flatMap yV).drop 1).flatMap yV).flatMap yV
theorem Iz:dj.all (λC=>ba.isin (.ref C) (.ref 485)==some (C==485))=true:=by kernel_rfl
inductive UD:Prop
 |mk (a0 a1 a2 a3 a4 a5 a6 a7 a8 a9 Ie Id x1 x2:Pos) (s:Scope) (pg p q:Pos) (e:Gc[4]? =some (.Assert (.Call (.Name "all" a0) [.GeneratorExp (.BoolOp .Or [.UnaryOp .Not (.Call (.Name "isinstance" a1) [.Name "node" a2,.Name "MulNode" a3] [] a4) a5,.Call (.Name "isinstance" a6) [.Attribute (.Name "node" a7) "b" a8,.Name "int" a9] [] Ie] Id) [⟨.Name "node" x1,.Name "nodes" x2,[],0⟩] s pg] [] p) none q)) (s1:s.names=rD) (s2:s.kind= .function) (s3:s.isCoroutine=false) (s4:(pg.line==229&&pg.col==44)=false)
theorem Gd:UD:=⟨_,_,_,_,_,_,_,_,_,_,_,_,_,_,_,_,_,_,rfl,rfl,rfl,rfl,rfl⟩
inductive UC:Prop
 |mk (p1 p2:Pos) (kt:Nat) (p3 p4 p5 p6:Pos) (s:Scope) (p7 p8 p9:Pos) (e:Gc[5]? =some (.Assign [.Tuple [.Name "muls" p1,.Name "others" p2] kt p3] (.Call (.Name "partition" p4) [.Name "nodes" p5,.Lambda ⟨[],[⟨"x",none,p6⟩],none,[],[],none,[]⟩ (.BoolOp .And Gh p7) s ⟨229,44,229,105⟩] [] p8) p9)) (s1:s.names=ng) (s2:s.kind= .function) (s3:s.isCoroutine=false) (s4:s.isGenerator=false)
theorem Gb:UC:=⟨_,_,_,_,_,_,_,_,_,_,_,rfl,rfl,rfl,rfl,rfl⟩
noncomputable def jT:AV->Bool
 | .obj C fl=>dj.contains C&&(C !=485||((fg fl "b").bind λv=>(vA v).i).isSome)
 |_=>false
noncomputable def Ml(f:Expr->Option AV):List Expr->Option Bool
 |[]=>none
 |e::es=>((f e).bind EG).bind λb=>if es.isEmpty then some b else if b then Ml f es else some false
noncomputable def mN(bv:Int)(y:AV):Option Bool:=Ml (λe=>Ug ba uW ng 9 [("x",.fz y),("b",.fz (.int bv))] e some) Gh
noncomputable def lI(bv:Int)(x:AV):Bool:=(mN bv x).getD false
noncomputable def xT(σ:ah)(x:Str):Option (List AV):=(σ.lookup x).bind λe=>match e with
 | .fz v=>(vA v).l
 |_=>none
noncomputable def DK(σ:ah)(x:Str):Option Int:=(σ.lookup x).bind λe=>match e with
 | .fz v=>(vA v).i
 |_=>none
open Classical in
noncomputable def ly(ns:dM)(σ:ah)(st:Stmt):Option ah:=
 if ns==mM then
  if(vS st).1==228 then(if Gc[4]? =some st then(xT σ "nodes").bind λxs=>if xs.all jT then some σ else none else none)
  else if(vS st).1==229 then(if Gc[5]? =some st then(xT σ "nodes").bind λxs=>(DK σ "b").bind λbv=>if xs.length<=1000&&xs.all (λx=>(mN bv x).isSome)then
   some (aQ (aQ σ "muls" (.fz (.list (xs.filter (lI bv))))) "others" (.fz (.list (xs.filter λy=> !lI bv y))))else none else none)
  else none
 else none
noncomputable def HX:Sp:=⟨Fn,ly⟩
set_option tactic.hygienic true
section
variable{c:Cx}{env:Env}{A:Around}{H₀:Heap}{σ:ah}
theorem ja{ns x k}(h:env.scope.names=ns)(e:ns.lookup x=k):env.kindOf x=k:=(Vx (List.lookup x) h).trans e
theorem Al{scope:Scope}{a:Addr}(h:scope.names=ng)(f:env.cells.lookup ("b":Str)=some a):closureFor scope env=pure [(("b":Str),a)]:=by
 unfold closureFor;rw[h];have:cellOf env ("b":Str)=pure a:=by unfold cellOf;rw[f]
 simp only[ng,List.forIn_cons,List.forIn_nil];rw[show(NameKind.local==NameKind.free)=false from rfl,show(NameKind.free==NameKind.free)=true from rfl,show(NameKind.globalImplicit==NameKind.free)=false from rfl];simp[this]
theorem vI{v i}(h:(vA v).i=some i):v= .int i:=by
 have:(match(vA v).i with|some i=> .int i|none=>v)=v:=by induction v using AV.casesOn<;>rfl
 rw[h]at this;exact this.symm
theorem vL{v i}(h:(vA v).l=some i):v= .list i:=by
 have:(match(vA v).l with|some i=> .list i|none=>v)=v:=by induction v using AV.casesOn<;>rfl
 rw[h]at this;exact this.symm
theorem rh{x xs}(h:xT σ x=some xs):σ.lookup x=some (.fz (.list xs)):=by
 refine ab (bL h) λe h1 h=>?_;induction e
 case fz v=>exact vL h▸h1
 all_goals exact ad h
theorem xU{x i}(h:DK σ x=some i):σ.lookup x=some (.fz (.int i)):=by
 refine ab (bL h) λe h1 h=>?_;induction e
 case fz v=>exact vI h▸h1
 all_goals exact ad h
theorem BV(O:aM c)(h:mG c.K){y a1 a2 a3 a4 a5 a6 a7 a8 a9 Ie Id}(B:env.scope.names=rD)(hy:jT y=true):
 xm c env H₀ [("node",.fz y)] (.BoolOp .Or [.UnaryOp .Not (.Call (.Name "isinstance" a1) [.Name "node" a2,.Name "MulNode" a3] [] a4) a5,.Call (.Name "isinstance" a6) [.Attribute (.Name "node" a7) "b" a8,.Name "int" a9] [] Ie] Id) (.bool true):=by
 have tk:=jC O h;induction y using AV.casesOn
 case obj C fl=>
  refine af (be hy) λu h2=>?_;refine af (tk.isin _ _ _ (eQ (VB.mp Iz C (eO u)))) λF G=>?_;have f:∀{x},rD.lookup x=some .globalImplicit->(env.scope.names.lookup x==some .globalImplicit)=true:=λe=>by rw[B,e];rfl
  have hi:∀{p} A,kq c env A H₀ [("node",.fz (.obj C fl))] (.Name "isinstance" p) (.builtin "isinstance"):=λA=>jZ O tk (f rfl) rfl _ _;exact(Bool.or_true _)▸FA (BU (lC O tk.Jx hi rfl rfl (rl rfl rfl) (λA=>gH O tk (v:= .ref 485) (f rfl) rfl _ _) (λH I e=>by injection e with e;exact e▸G _ rfl) F) λw=>rfl) λq=>by have q:(C !=485)=false:=q;rw[q,Bool.false_or]at h2;refine ax (WG.mp h2) λi J4=>?_;refine ab (bL J4) λv J z=>?_;exact lC (x:=v) O tk.Jx hi rfl rfl (wj O rfl (rl rfl rfl) (tk.cls C u) rfl J) (λA=>jZ O tk (f rfl) rfl _ _) (λH I e=>nomatch (vI z).symm.trans e) (vI z▸(tk.isin (.type "int") (.type "int") true rfl).1)
 all_goals exact nomatch hy
theorem vz{f e2 rest pos b1 b2}(h1:bQ c env A H₀ σ f (.bool b1))(h2:b1=true->bQ c env A H₀ σ (.BoolOp .And (e2::rest) pos) (.bool b2)):bQ c env A H₀ σ (.BoolOp .And (f::e2::rest) pos) (.bool (if b1 then b2 else false)):=λT s w F=>by
 refine BoolOp_and (Vj (h1 T s w F) (λv s1⟨T1,f,i,r1⟩=>?_) λ_ _ z=>z);obtain rfl:=r1;refine wpAny_truthy_bool ?_
 induction b1 with
 |true=>exact Vj (h2 rfl T1 s1 i (F.ext f)) (λv u g=>g.trans f) λ_ _ z=>z
 |false=>exact⟨T1,f,i,.bool _⟩
theorem AD{f:Expr->Option AV}(hf:∀e v,f e=some v->bQ c env A H₀ σ e v){p}:∀i b,Ml f i=some b->bQ c env A H₀ σ (.BoolOp .And i p) (.bool b)
 |[],_,h=>ad h
 |e::i,b,h=>by
  refine ab (bL h) λb1 h1 h=>?_;refine ab (bL h1) λv h1 h2=>?_;have r1:=hf e _ (ul h2▸h1)
  induction i using List.casesOn with
  |nil=>exact Option.some.inj h▸r1
  |cons e2 i=>
   have h:(if b1 then Ml f (e2::i)else some false)=some b:=h
   induction b1 with
   |true=>exact vz (b2:=b) r1 λ_=>AD hf (e2::i) b h
   |false=>exact Option.some.inj h▸vz (b2:=b) r1 λq=>nomatch q
theorem Gg(O:aM c)(h:mG c.K){k y bv p}(R:bq A k)(f:env.scope.names=ng)(i:env.scope.kind= .function)(hy:(mN bv y).isSome=true):bQ c env A H₀ [("x",.fz y),("b",.fz (.int bv))] (.BoolOp .And Gh p) (.bool (lI bv y)):=by
 refine ax (WG.mp hy) λb e=>?_;have:lI bv y=b:=by unfold lI;rw[e];rfl
 rw[this];refine AD (λe v h1=>?_) _ _ e;refine ab ((jl O (jC O h) (yy k) 9 env A i R).ev (f▸h1)) λx h2 u=>?_;exact Option.some.inj u▸h2 H₀
theorem Ch(h:mG c.K)(te:mr c.K env)(hn:env.scope.names=mM):env.code= .ref 358/\env.qual++"<lambda>"=("create_lt_node.<locals>.<lambda>":Str):=by
 rcases te with⟨f,d,h0,⟨o,h1,h2⟩,h3,h4,h5⟩|te
 . have q:=VB.mp (be h.c3).2 _ (eO h0);have e:Ep c.K f=some d:=by
    unfold Ep;rw[h1];obtain⟨a1,i,u,z⟩:=o;subst h2;rfl
   unfold QO at q;rw[e]at q;refine Or.elim (WF.mp q) (λq=>?_) λq=>?_
   . exact Vu (h3▸hn) (bne_iff_ne.mp q)
   . refine af (be q) λq1 q2=>?_;exact⟨h4.trans (eQ q1),by rw[h5,eQ q2];rfl⟩
 . rw[hn]at te;exact nomatch (by kernel_rfl:(mM.lookup ("script":Str)).isSome=false).symm.trans te
theorem FW:(mM.lookup ("all":Str)=some .globalImplicit/\mM.lookup ("partition":Str)=some .globalImplicit)/\mM.lookup ("b":Str)=some .cell/\mM.lookup ("muls":Str)=some .local/\mM.lookup ("others":Str)=some .local:=⟨⟨by kernel_rfl,by kernel_rfl⟩,by kernel_rfl,by kernel_rfl,by kernel_rfl⟩
theorem II:gE.sig 28 2 []=some ([("itr",.pos 0),("fxn",.pos 1)]:List (Str×mv)):=by kernel_rfl
theorem QX{α:Type}{c:Prop}{f:Decidable c}{a:Option α}{b:α}(h:(if c then a else none)=some b):c/\a=some b:=JF h
theorem xP(O:aM c)(h:mG c.K)(G:Dz c 358)(J:c.fS=⟨229,44,229,105⟩)(P:c.i9=("create_lt_node.<locals>.<lambda>":Str)){k ns st σ'}(he:ly ns σ st=some σ')(hn:env.scope.names=ns)(Ei:env.scope.kind= .function)
 (te:mr c.K env)(R:bq A (k+2)):ju c env A σ st (.next σ'):=by
 have tk:=jC O h;refine af (rQ he) λq he=>?_;have hn:=hn.trans (eQ q);refine af (Ch h te hn) λN Q=>?_;refine eM FW λU W Y Z=>?_;refine af U λl1 l2=>?_;by_cases q4:((vS st).1==228)=true
 . rw[Vi q4]at he;refine af (QX he) λe he=>?_;refine ab (bL he) λxs h1 he=>?_;refine af (rQ he) λu he=>?_;obtain⟨a0,a1,a2,a3,a4,a5,a6,a7,a8,a9,Ie,Id,x1,x2,s,pg,p,q,z,s1,B,F,I⟩:=Gd;rw[<-Option.some.inj (z.symm.trans e),<-Option.some.inj he];refine nJ λH₀=>xA (x:= .bool true) rfl (wP O G R N (xs:=xs) (λv=>rfl) (vx O (ja hn l1) (eQ (be (be h.c3).1).2) rfl (by decide) rfl) (tO (bY (rh h1) rfl)) (by rw[J];exact I) F (closureFor_none λx hx=>?_) (λx hx=>?_) (by rw[s1];rfl) (by rw[s1];rfl) B λcA H he y hy=>?_) λT s v w r=>om (x:= .bool true) rfl w r
   . exact bne_iff_ne.mp (VB.mp (by rfl:rD.all (λx=>x.2 != .free)=true) x (s1▸hx))
   . exact bne_iff_ne.mp (VB.mp (by rfl:rD.all (λx=>x.2 != .cell)=true) x (s1▸hx))
   . exact BV O h (by rw[he];exact s1) (VB.mp u y hy)
 . rw[Vk q4]at he;refine af (rQ he) λ_ he=>?_;refine af (QX he) λe he=>?_;refine ab (bL he) λxs h1 he=>?_;refine ab (bL he) λbv h2 he=>?_;refine af (rQ he) λu he=>?_;refine af (be u) λhz u=>?_;obtain⟨p1,p2,kt,p3,p4,p5,p6,s,p7,p8,p9,z,s1,B,F,I⟩:=Gb;rw[<-Option.some.inj (z.symm.trans e),<-Option.some.inj he];refine bV (vn h (f:=28) rfl rfl) λfd e0 X fs=>?_;refine t9 O G (k:=k) (cc:=358) R N X rfl (by rw[e0];rfl) (by rw[e0];rfl) (by rw[e0];rfl) (by rw[e0];rfl) (by rw[e0];rfl) (λs v1 v2 X=>(fs _ _ _ (II)).2 s [v1,v2] [] X rfl rfl) (tk.keep "partition" 28 rfl) (λA H₀ σ=>gH O tk (v:= .ref 28) (by rw[hn,l2];rfl) rfl H₀ σ) (rh h1) rfl (V9 hz) Q P J rfl (λa ha=>Al s1 ha) (ja hn W) (xU h2)
    (xn:="x") (λv fd e1 z e3=>?_) (by rw[s1];rfl) (by rw[s1];rfl) rfl rfl F I B (λx hx=>?_) (λy hy A sa H he R=>?_) (.inl (ja hn Y)) (.inl (ja hn Z))
   . obtain⟨a,b,c1,d,e',f,g,h',i,j,k',l,m,n⟩:=fd;subst e1;subst z;subst e3;rfl
   . exact bne_iff_ne.mp (VB.mp (by rfl:ng.all (λx=>x.2 != .cell)=true) x (s1▸hx))
   . exact Gg O h R (by rw[he];exact s1) (by rw[he];exact B) (VB.mp u y hy)
noncomputable def B0(f:Addr):Nat:=(rY f).elim 0 λd=>d.params.args.length-1
noncomputable def IQ(f:Addr):List (Str×mv):=(rY f).elim [] λd=>(BW (d.params.args.map (·.arg))).tail
theorem BX:nr.map (λp=>(rY p.2).map lz)=nr.map λp=>some [(B0 p.2+1,[],(("self",.pos 0):Str×mv)::IQ p.2)]:=by kernel_rfl
theorem BZ:nr.all (λp=>Nat.ble (B0 p.2) 4)=true:=by kernel_rfl
noncomputable def mJ{R:Type}(y:AV)(k:AV->AV->Option R):Option R:=uR y λys=>(match ys with
 |[]=>none
 |m::ys=>(match ys with
  |[]=>none
  |M::ys=>if ys.isEmpty then k m M else none))
noncomputable abbrev qy(a b:AV):List (Str×AV):=[("a",a),("b",b)]
noncomputable abbrev Dv(a b m M:AV):List (Str×AV):=[("a",a),("b",b),("min",m),("max",M)]
noncomputable abbrev iG(xs:AV):List (Str×AV):=[("nodes",xs)]
noncomputable abbrev jL(xs m M:AV):List (Str×AV):=[("nodes",xs),("min",m),("max",M)]
section
variable(call:Addr->List AV->List (Str×AV)->Option AV)(make:Addr->List AV->Option (List (Str×AV)))(q:Bool)(a:Addr)(g:Addr->List (Str×AV)->Option (List (Str×AV)))
noncomputable abbrev pd(f C:Addr)(xs:List AV):=lP ba ⟨call,make,A0 HX q⟩ (DR f) (mi f) C "self" (IQ f) xs a g
theorem JM(x y z:AV):pd call make q a g 245 284 [x,y,z]=g a [("expr",x),("min",y),("max",z),("_val",.none)]:=by induction q<;>kernel_rfl
theorem JL(x:AV):pd call make q a g 300 338 [x]=(ba.isin (iW x) (.type "int")).bind λb=>if b=true then g a [("b",x),("min",x),("max",x)]else none:=by induction q<;>kernel_rfl
theorem JK(x y:AV):pd call make q a g 380 430 [x,y]=(call 413 [.obj 430 (qy x y)] []).bind λr=>mJ r λm M=>g a (Dv x y m M):=by induction q<;>kernel_rfl
theorem JJ(x y:AV):pd call make q a g 380 485 [x,y]=(call 468 [.obj 485 (qy x y)] []).bind λr=>mJ r λm M=>g a (Dv x y m M):=by induction q<;>kernel_rfl
theorem JI(x y:AV):pd call make q a g 380 526 [x,y]=(call 509 [.obj 526 (qy x y)] []).bind λr=>mJ r λm M=>g a (Dv x y m M):=by induction q<;>kernel_rfl
theorem JH(x y:AV):pd call make q a g 380 574 [x,y]=(call 557 [.obj 574 (qy x y)] []).bind λr=>mJ r λm M=>g a (Dv x y m M):=by induction q<;>kernel_rfl
theorem JG(x:AV):pd call make q a g 590 656 [x]=(call 619 [.obj 656 (iG x)] []).bind λr=>mJ r λm M=>g a (jL x m M):=by induction q<;>kernel_rfl
theorem BY(x y z w:AV):∀p∈nr,pd call make q a g p.2 p.1 ([x,y,z,w].take (B0 p.2))=pd call make q 0 (λ_=>g a) p.2 p.1 ([x,y,z,w].take (B0 p.2)):=
 V4.mpr ⟨(JM call make q a g x y z).trans (JM call make q 0 (λ_=>g a) x y z).symm,V4.mpr ⟨(JL call make q a g x).trans (JL call make q 0 (λ_=>g a) x).symm,V4.mpr ⟨(JK call make q a g x y).trans (JK call make q 0 (λ_=>g a) x y).symm,V4.mpr ⟨(JJ call make q a g x y).trans (JJ call make q 0 (λ_=>g a) x y).symm,
  V4.mpr ⟨(JI call make q a g x y).trans (JI call make q 0 (λ_=>g a) x y).symm,V4.mpr ⟨(JH call make q a g x y).trans (JH call make q 0 (λ_=>g a) x y).symm,V4.mpr ⟨(JG call make q a g x).trans (JG call make q 0 (λ_=>g a) x).symm,λ_ h=>nomatch h⟩⟩⟩⟩⟩⟩⟩
end
theorem FC:∀C f ns b self l xs,gE.init C=some f->gE.ns f=some ns->gE.body f=some b->gE.sig f (xs.length+1) []=some ((self,.pos 0)::l)->∀call make q a g,
 lP ba ⟨call,make,A0 HX q⟩ ns b C self l xs a g=lP ba ⟨call,make,A0 HX q⟩ ns b C self l xs 0 λ_=>g a:=λC f ns b self l xs h0 h1 h2 i call make q a g=>by
 have m:=eH h0;refine af (rQ h1) λ_ h1=>?_;refine af (rQ h2) λ_ h2=>?_;refine af (rQ i) λ_ i=>?_;refine ab (V3.mp h1) λd hd z=>?_;rw[hd]at h2;refine ab (V3.mp i) λr i u=>?_;rw[hd,Vl,Option.some.inj ((Vx (Option.map lz) hd).symm.trans (List.map_inj_left.mp BX _ m))]at i;have B:=Vo.mp (List.mem_of_find?_eq_some i);have hl:=eQ (be (List.find?_some i:)).1;rw[B]at u hl;refine af (List.cons.inj u) λF G=>?_;have H:DR f=ns:=by unfold DR;rw[hd];exact z
 have I:mi f=b:=by unfold mi;rw[hd];exact Option.some.inj h2
 refine K0 (DE .none (Nat.succ.inj hl).symm (WA (VB.mp BZ _ m))) λJ N O P ex=>?_;have:=BY call make q a g J N O P _ m;rw[<-H,<-I,ex,<-(Prod.mk.inj F).1,<-G];exact this
theorem Fo(O:aM c)(h:mG c.K)(i:c.tx=Bm)(G:Dz c 358)(u:c.fS=⟨229,44,229,105⟩)(z:c.i9=("create_lt_node.<locals>.<lambda>":Str)):LB c ba HX where
 call k cb f xs kx r ck sk he:=Fm O h i ck he
 stmt k st σ A3 env A hk he Ei te R:=by obtain⟨j,rfl⟩:=dW (n:=k) (by lia);exact xP O h G u z he rfl Ei te R
theorem CH(h:mG c.K):k9 c ba HX gE:=⟨CI h,wI h,FC⟩
end
set_option tactic.hygienic false
theorem IN{M:Model}{A:Around}{H:Code}{s u:Shared}{B:ClaimW}{cl:Str->Option Addr}{J:ExcName->Option Value}{i:List WData}{f:List (Addr×Addr)}(F:TabsAt f u.heap)
 (hr:∀a x,B.raises a x=false)(N:B.post i (.bool true) i=true)
 (h:codeAny M A H (λr s'=>r= .ok (.ret (.bool true))/\(∀b o,(ghostOf u.heap f).get? b=some o->s'.heap.get? b=some o)/\s'.os=u.os/\AllBare s'.gens/\GrownAll f s'.heap) s):codeAny M A H (GoodWG B cl J i u) s:=
 codeAny_mono h λr s'⟨O,P,Q,U,W⟩=>by
  have keep:∀b o,b∉f.map (·.2)->u.heap.get? b=some o->s'.heap.get? b=some o:=λb o hb e=>P b o (ghost_ne e hb);have grown:∀b o,b∈f.map (·.2)->u.heap.get? b=some o->isCodeTable u.heap b/\o=tabObj #[]/\∃ps,s'.heap.get? b=some (tabObj ps):=λb o hb e=>by obtain⟨q,z,rfl⟩:=Vy.mp hb;have I:=(F q z).2;rw[e]at I;exact⟨((F q z).1.tab (F q z).2).isCodeTable,Option.some.inj I,W.get q z⟩
  refine⟨.inl ⟨_,_,[],O,λ_=>hr _ _,.bool _,N,λ_=>⟨List.nodup_nil,λa X=>by cases X⟩⟩,⟨λb o e=>?_,λb o e=>?_⟩,Q,U⟩
  . by_cases hb:b∈f.map (·.2)
    . obtain⟨ht,rfl,ps,G⟩:=grown b o hb e;exact .inr (.inl ⟨ht,rfl,#[],ps,rfl,by rw[Array.empty_append];exact G⟩)
    . exact .inl (keep b o hb e)
  . by_cases hb:b∈f.map (·.2)
    . obtain⟨_,_,ps,G⟩:=grown b o hb e;exact⟨_,G⟩
    . exact⟨o,keep b o hb e⟩
noncomputable abbrev rC:dM:=DR 702
noncomputable abbrev wA:List Stmt:=mi 702
noncomputable def An(k:Nat):Cb:=(lB ba gE HX k).1
noncomputable def pS:Prop:=∀xs:List Int,xs.length<=18->bB ba (An 690) rC 40 200 [("script",.fz (.list (xs.map .int)))] wA.tail (λ_=>none) (λ_=>none) (λx _=>some x)=some (.bool true)
section
variable{c:Cx}{env:Env}{A:Around}{H₀:Heap}{σ:ah}{aj:TM}{ae:Shared}
theorem qU{T:TM}{vs xs}(h:IntsAre vs xs):dx T vs (xs.map .int):=by
 induction h with
 |nil=>exact .nil
 |cons _ _ _ ih=>exact .cons (.int _ _) ih
theorem uc{p1 p2 p3 p4 p5 p6 kk l vs xs}(hl:ae.heap.IsList l vs)(nt:aj l=none)(ht:l≠c.tab)(X:vs.size<=1000)(u:env.kindOf "script"=some .local)(hv:∀T,dx T vs.toList xs)(B:d5 env ae.heap):
 LN c env A aj ae [("script",.raw (.ref l))] (.Assign [.Name "script" p1] (.Subscript (.Name "script" p2) (.Slice none (some (.Constant (.int 18) kk p3)) none p4) p5) p6) (.next [("script",.fz (.list (xs.take 18)))]):=λT s S=>by
 have ev:wpAny c.M A (eval (.Subscript (.Name "script" p2) (.Slice none (some (.Constant (.int 18) kk p3)) none p4) p5) env) (Got c T s (.list (xs.take 18))) cg s:=by
  rw[arm_eval_Subscript];refine Vh (wpAny_Name (lj S.f rfl ?_) rfl);refine Vh (VI (wpAny_Slice ?_));rw[evalPart_none,evalPart_some];refine Vz (wpAny_Constant_int (Vz (Vh (VG ?_))));refine bV hl λo F G H=>?_;have i:(s.heap.push {cls:= .type "slice",data:= .fields #[.none,.int 18 s.toks,.none]}).IsList l vs:=⟨o,VW _ (S.e.keep _ _ (.none nt) ht F),G,H⟩;refine ax (@c9 (.Slice none (some (.Constant (.int 18) kk p3)) none p4) (.ref l) (.ref s.heap.objs.size)) λI J=>?_;refine tail_any (T:="list") i.typeIs slot_list_getitem.lookup (wpAny_getItem_list_slice i (.new ..) .none (.int _ _) .none (by simp) ?_ (by rw[sizeLine_eq];lia)) J;rw[(slicePick_upto' vs 18)];have ex:bF c T s T {s with heap:=s.heap.push {cls:= .type "slice",data:= .fields #[.none,.int 18 s.toks,.none]},toks:=s.toks+1}:=(bF.push _).toks _;refine(lT (s:={s with heap:=s.heap.push {cls:= .type "slice",data:= .fields #[.none,.int 18 s.toks,.none]},toks:=s.toks+1}) ((S.w.push {cls:= .type "slice",data:= .fields #[.none,.int 18 s.toks,.none]})) ?_).trans ex;have tk:∀{vs xs},dx T vs xs->∀m,dx T (vs.take m) (xs.take m):=by
   intro vs xs h
   induction h with
   |nil=>intro m;simp;exact .nil
   |cons h _ ih=>intro m;induction m using WP with
    |zero=>exact .nil
    |succ m=>exact .cons h (ih m)
  exact tk (hv T) _
 refine wpAny_Assign_stores (Vj ev (λv s'⟨T',ex,N,r⟩=>?_) λ_ _ z=>z) (gQ rfl) rfl;refine af (S.kp ex N) λO P=>?_;exact Vj (kI (.inl u) aj ae T' s' v O B r) (λ_ Y⟨Q,U,W⟩=>⟨rfl,Q,U,P.trans W⟩) λ_ _ z=>z
end
theorem Ck:∃p1 p2 p3 p4 p5 p6 kk,wA= .Assign [.Name "script" p1] (.Subscript (.Name "script" p2) (.Slice none (some (.Constant (.int 18) kk p3)) none p4) p5) p6::wA.tail:=⟨_,_,_,_,_,_,_,rfl⟩
theorem By{K:Frag}{h:Heap}(f:K.In h)(X:mG K)(t:h.get? 356=some (tabObj #[])):TabsAt [(358,356)] h:=V4.mpr ⟨⟨codeHd_of_K f X.h,t⟩,λ_ h=>nomatch h⟩
theorem wz{w:World}{prog:Program}{i:Shared}{mg mb p loose F8}{K:Frag}(T:Top p loose F8 mg mb i.heap)(JS:importsNone p=true)(KX:K.In i.heap)(X:mG K)(u:TabsAt [(358,356)] i.heap){Q:Addr}{o:Obj}{fd:FuncData}(ho:i.heap.get? Q=some o)(hd:o.data= .func fd)
 (fH:fd.body= .stmts wA)(Gz:fd.closure=[])(zs:fd.globals=mainGlobals)(GB:fd.builtins=builtinsNs)(U:fd.scope.names=rC)(Y:fd.scope.kind= .function)(CB:fd.scope.isCoroutine=false)(t4:fd.scope.isGenerator=false)
 (wH:i.heap.CodeRec fd.code fd.qualname)(rT:∀v,bindArgs fd ⟨[v],[]⟩=pure [(("script":Str),v)]){l:Addr}{vs:List Value}{xs:List Int}(hL:i.heap.IsList l vs.toArray)(hI:IntsAre vs xs)(Z:xs.length<=63)(hg:i.gens= #[])(pure:pS):
 codeAny (model prog w) callerA (.call (.ref Q) ⟨[.ref l],[]⟩) (λr s'=>r= .ok (.ret (.bool true))/\(∀b o,(ghostOf i.heap [(358,356)]).get? b=some o->s'.heap.get? b=some o)/\s'.os=i.os/\AllBare s'.gens/\GrownAll [(358,356)] s'.heap) i:=by
 have T':=ghost_top u T;refine af (u (358,356) (.head _)) λc0 wC=>?_;let c:Cx:=⟨prog,w,K,ghostOf i.heap [(358,356)],356,Bm,⟨229,44,229,105⟩,"create_lt_node.<locals>.<lambda>"⟩;have O:aM c:=⟨(ghost_K u KX X.nt),⟨mg,T'.g⟩,⟨mb,T'.b,T'.builtins⟩,T'.nolimit,by
  refine ab ((T.seer JS).mods) λmm hm _=>?_;refine f9 (ghost_ns u hm) λo es ep e _=>?_;exact⟨o,e⟩⟩
 have wG:c.h₀.get? c.tab=none:=hideAll_none _ (.head _);have G:Dz c 358:=⟨wG,(ghost_code u).1,mg,T'.g,T'.bmain⟩;have w0:W c (λ_=>none) i.heap:=⟨λb o e=>of_hideAll _ e,λa ty e=>(nomatch e),λa ty e=>(nomatch e),#[],wC,⟨trivial,λcv e=>(nomatch e)⟩⟩;have tk:=jC (c:=c) O X;have RO:=uK (c:=c) O tk (Bx X) (CH X) (Fo O X rfl G rfl rfl) 690;have R1:cD callerA (690+1):=⟨by decide,by decide,rfl,rfl⟩;have ie:l≠356:=λq=>by refine bV hL λo e hc _=>?_;rw[q,wC]at e;(injection e with z;subst z);cases hc
 have UT:vs.length=xs.length:=by have:=(qU (T:=λ_=>none) hI).length;simpa using this
 have I:=pure (xs.take 18) (by simp;lia);have io:rC.lookup ("script":Str)=some .local:=by kernel_rfl
 refine codeAny_mono (ko (c:=c) O (k:=690) (bs:=[("script",.raw (.ref l))]) (R:=λB s'=>∃v,B= .ok (.ret v)/\Got c (λ_=>none) i (.bool true) v s') ho hd fH Gz zs GB wH CB t4 Y R1 w0 (.refl ..) w0
  (BindsTo.of_eq (rT _)) (.cons (r:=0) .raw .nil) ⟨by simp,λn hn=>?_⟩ ?_ (λenv A' he xk R' s3 S3 LS=>?_)) λB s'⟨v,e,gg⟩=>?_
 . rw[Vo.mp hn,U];exact .inl io
 . intro x y e f' H _ oe;rw[VK]at H;split at H
   . (injection H with z;subst z);exact Vu oe VU
   . exact nomatch H
 . obtain⟨p1,p2,p3,p4,p5,p6,kk,eb⟩:=Ck;rw[List.map_take]at I;have J:env.scope.names=rC:=(Vx Scope.names he).trans U;rw[<-J]at I;refine ab (kY O tk RO.c1 RO.s1 (.inr (by rw[J,io];rfl)) R' (he▸Y) 200 I) λN h4 F=>?_
   induction N with
   |next σ=>exact ad F
   |cont σ=>exact ad F
   |ret x σ=>have F:x= .bool true:=Option.some.inj F;rw[eb];refine Vj (r5 (fK (uc (xs:=xs.map .int) hL rfl ie (by simp;lia) (ja J io) (λT=>qU hI) LS) (dG.f h4 LS)) _ s3 S3) (λfl s' q=>?_) λ_ _ z=>z.elim;obtain⟨v,T',e,S',_,r⟩:=q;subst e F;exact⟨v,rfl,T',S'.e,S'.w,r⟩
 . subst e;obtain⟨T1,P,w1,r1⟩:=gg;obtain rfl:=r1;refine⟨rfl,λb o e=>P.keep b o (.none rfl) (λq=>ad (wG.symm.trans (q▸e))) (of_hideAll _ e),P.os,P.gens (.of_eq hg),?_,trivial⟩;refine ab w1.tab λps e _=>?_;exact⟨ps,e⟩
set_option tactic.hygienic true
theorem N1:(defOf vw "law").map (λp=>(AY.mk p.1.params p.1.body p.1.scope,p.2))=(rY 702).map (·,[]):=by kernel_rfl
theorem NZ:pw.theDef "law"=(defOf vw "law").map λp=>(p.1.params,p.1.body,p.1.scope):=by kernel_rfl
theorem N0:(defOf vw "law").isSome=true:=by kernel_rfl
theorem N2:∃a p b s,rY 702=some ⟨⟨[],[⟨"script",a,p⟩],none,[],[],none,[]⟩,b,s⟩/\s.kind= .function/\s.isCoroutine=false/\s.isGenerator=false:=⟨_,_,_,_,rfl,rfl,rfl,rfl⟩
set_option maxHeartbeats 8000000 in
theorem joined(pure:pS):PySem.Challenge.rw_iy0027_01.Holds:=by
 refine ax (WG.mp N0) λJ e=>?_;obtain⟨d,kwd⟩:=J;obtain⟨a,p,b,s,f,N,O,P⟩:=N2;have F:=N1;rw[e,f]at F;have T:=NZ;rw[e]at T;refine af (Prod.mk.inj (Option.some.inj F)) λQ F2=>?_;injection Q with f1 f2 f3;have U:wA=b:=by show((rY 702).map (·.body)).getD []=b;rw[f];rfl
 have W:rC=s.names:=by show((rY 702).map (·.scope.names)).getD []=_;rw[f];rfl
 clear F;obtain⟨d1,dp,db,ds,d2⟩:=d;dsimp only at f1 f2 f3 F2;subst f1 f2 f3 F2;refine TJ _ [] e T rfl ?_;intro w ae aS mg mb G Y fa o pm cd Z dV kV ho hd wH i Eh hg u z as Gr OI Tj Ta J0;obtain⟨⟨K,H,X⟩,t⟩:=Y;have I:=By H X t;refine Ground.open G ?_;intro T B D TE TW
 try(refine guard_noD D (by decide+kernel) ?_;clear D)
 clear Eh
 wrow_args Gr OI Tj Ta J0
 all_goals(
  first|refine callC_kw (enter_call ?_)|refine enter_call ?_
  w_top on
  refine IN I (λ_ _=>rfl) ?_ ?_
  rotate_left
  rename_i hL ra w1 r0 hI hr Rq OP;refine wz T rfl H X I ho hd (Vx _ U.symm) rfl rfl rfl W.symm N O P wH ?_ hL hI ?_ hg pure
  rotate_left 2)
 . wrow_post
 . intro v;rcases i.pos with⟨_,e1⟩|⟨h,_⟩
   . rcases i.kw with⟨_,e2⟩|⟨h,_⟩
     . subst e1 e2;rfl
     . exact Vu rfl h
   . exact Vu rfl h
 . lia
set_option tactic.hygienic false
noncomputable abbrev aI:=Addr->List AV->List (Str×AV)->Option AV
noncomputable abbrev aH:=Addr->List AV->Option (List (Str×AV))
noncomputable def hZ(call:aI)(make:aH):Cb:=⟨call,make,ly⟩
noncomputable abbrev fC(call:aI)(make:aH):=callC ba (gE) (hZ call make)
noncomputable abbrev gC(call:aI)(make:aH):=rF ba (gE) (hZ call make)
noncomputable abbrev bH{R:Type}(v:AV)(nm:Str)(k:Addr->AV->Option R):Option R:=yn ba nm v k
noncomputable abbrev lE(c:Int):List (Str×AV):=[("b",.int c),("min",.int c),("max",.int c)]
noncomputable abbrev xv(e:Str)(lo hi:Int):List (Str×AV):=[("expr",.str e),("min",.int lo),("max",.int hi),("_val",.none)]
noncomputable abbrev IU(a:AV)(b:Int)(mn mx:Int):List (Str×AV):=Dv a (.int b) (.int mn) (.int mx)
noncomputable abbrev IF(ts:List AV)(mn mx:Int):List (Str×AV):=jL (.list ts) (.int mn) (.int mx)
noncomputable abbrev aO(c:Int):AV:= .obj 338 (lE c)
noncomputable abbrev qV(e:Str)(lo hi:Int):AV:= .obj 284 (xv e lo hi)
noncomputable abbrev bG(C:Addr)(a:AV)(b:Int)(mn mx:Int):AV:= .obj C (IU a b mn mx)
noncomputable abbrev bZ(ts:List AV)(mn mx:Int):AV:= .obj 656 (IF ts mn mx)
section
variable(call:aI)(make:aH)
theorem O8(c:Int):gC call make 338 [.int c]=some (lE c):=by kernel_rfl
theorem O9(e:Str)(lo hi:Int):gC call make 284 [.str e,.int lo,.int hi]=some (xv e lo hi):=by kernel_rfl
theorem O7(a b:AV):gC call make 430 [a,b]=(call 413 [.obj 430 (qy a b)] []).bind λy=>mJ y λm M=>some (Dv a b m M):=by kernel_rfl
theorem O6(a b:AV):gC call make 485 [a,b]=(call 468 [.obj 485 (qy a b)] []).bind λy=>mJ y λm M=>some (Dv a b m M):=by kernel_rfl
theorem O5(a b:AV):gC call make 526 [a,b]=(call 509 [.obj 526 (qy a b)] []).bind λy=>mJ y λm M=>some (Dv a b m M):=by kernel_rfl
theorem O4(a b:AV):gC call make 574 [a,b]=(call 557 [.obj 574 (qy a b)] []).bind λy=>mJ y λm M=>some (Dv a b m M):=by kernel_rfl
theorem O3(xs:AV):gC call make 656 [xs]=(call 619 [.obj 656 (iG xs)] []).bind λy=>mJ y λm M=>some (jL xs m M):=by kernel_rfl
theorem pk(C:Addr)(f:C=430\/C=485\/C=526\/C=574)(a:AV)(b mn mx:Int):fC call make 354 [bG C a b mn mx] []=
 if decide (mn<=mx)=true then(if(mn==mx)=true then(make 338 [.int mn]).bind λfl=>some (.obj 338 fl)else some (bG C a b mn mx))else none:=by
 rcases f with rfl|rfl|rfl|rfl<;>kernel_rfl
theorem zL(ts:List AV)(mn mx:Int):fC call make 354 [bZ ts mn mx] []=
 if decide (mn<=mx)=true then(if(mn==mx)=true then(make 338 [.int mn]).bind λfl=>some (.obj 338 fl)else some (bZ ts mn mx))else none:=by kernel_rfl
noncomputable abbrev gA(x:AV)(nm:Str):Option AV:=sC ba (hZ call make) nm x
noncomputable abbrev oP(o:Operator)(x y:AV):Option AV:=IT ba (hZ call make) o x y
noncomputable abbrev cM(o:CmpOp)(x y:AV):Option Bool:=Hh ba (hZ call make) o x y
noncomputable abbrev nG(x:AV):Option AV:=Ca ba (hZ call make) x
theorem Pv(C:Addr)(fl:List (Str×AV))(b:Int):fC call make 468 [.obj 485 (qy (.obj C fl) (.int b))] []=
 (gA call make (.obj C fl) "min").bind λf=>(cM call make .GtE f (.int 0)).bind λq=>if q=true then
  (if decide (0<=b)=true then((gA call make (.obj C fl) "min").bind λm=>(oP call make .Mult m (.int b)).bind λx=>(gA call make (.obj C fl) "max").bind λM=>(oP call make .Mult M (.int b)).bind λy=>some (.tup [x,y]))
   else((gA call make (.obj C fl) "max").bind λm=>(oP call make .Mult m (.int b)).bind λx=>(gA call make (.obj C fl) "min").bind λM=>(oP call make .Mult M (.int b)).bind λy=>some (.tup [x,y])))else none:=by kernel_rfl
theorem Pr(C:Addr)(fl:List (Str×AV))(b:Int):fC call make 509 [.obj 526 (qy (.obj C fl) (.int b))] []=
 (gA call make (.obj C fl) "min").bind λf=>(cM call make .GtE f (.int 0)).bind λq=>if q=true then
  ((gA call make (.obj C fl) "min").bind λm=>(oP call make .FloorDiv m (.int b)).bind λx=>(gA call make (.obj C fl) "max").bind λM=>(oP call make .FloorDiv M (.int b)).bind λy=>some (.tup [x,y]))else none:=by kernel_rfl
theorem PA(C:Addr)(fl:List (Str×AV))(b:Int):fC call make 413 [.obj 430 (qy (.obj C fl) (.int b))] []=
 (cM call make .Eq (.obj C fl) (.int b)).bind λq=>if q=true then some (.tup [.int 0,.int 0])else
  (gA call make (.obj C fl) "max").bind λM=>(cM call make .Lt M (.int b)).bind λq=>if q=true then some (.tup [.int 1,.int 1])else
   (gA call make (.obj C fl) "min").bind λm=>(cM call make .GtE m (.int b)).bind λq=>if q=true then some (.tup [.int 0,.int 0])else some (.tup [.int 0,.int 1]):=by kernel_rfl
theorem Uc(C:Addr)(fl:List (Str×AV))(i:AV):fC call make 57 [.obj C fl,i] []=
 (ba.eJ (.ref C) [.ref 284,.ref 338]).bind λb=>if b=true then(bH (.obj C fl) "text" λf s=>(call f [s,i] []).bind some)else
  (gA call make (.obj C fl) "min").bind λm=>(gA call make (.obj C fl) "max").bind λM=>(cM call make .NotEq m M).bind λq=>if q=true then(bH (.obj C fl) "text" λf s=>(call f [s,i] []).bind some)else none:=by kernel_rfl
theorem Pn(C:Addr)(fl:List (Str×AV))(i:AV):fC call make 57 [.obj C fl] [("ctx",i)]=
 (ba.eJ (.ref C) [.ref 284,.ref 338]).bind λb=>if b=true then(bH (.obj C fl) "text" λf s=>(call f [s,i] []).bind some)else
  (gA call make (.obj C fl) "min").bind λm=>(gA call make (.obj C fl) "max").bind λM=>(cM call make .NotEq m M).bind λq=>if q=true then(bH (.obj C fl) "text" λf s=>(call f [s,i] []).bind some)else none:=by kernel_rfl
theorem PH(e:Str)(lo hi:Int):fC call make 281 [qV e lo hi,.str "DEBUG"] []=
 (oP call make .Add (.str e) (.str "[")).bind λf=>if Sm lo=true then(oP call make .Add f (.str (bb lo))).bind λi=>(oP call make .Add i (.str "-")).bind λu=>(if Sm hi=true then(oP call make .Add u (.str (bb hi))).bind λz=>(oP call make .Add z (.str "")).bind λB=>(oP call make .Add B (.str "]")).bind some else none)else none:=by kernel_rfl
theorem PE(c:Int)(f:AV):fC call make 335 [aO c,f] []=if Sm c=true then some (.str (bb c))else none:=by kernel_rfl
theorem Pz(C:Addr)(fl:List (Str×AV))(b mn mx:Int)(i:AV):fC call make 427 [bG 430 (.obj C fl) b mn mx,i] []=
 bH (.obj C fl) "render" λf a=>(call f [a,i] []).bind λt=>(oP call make .Add (.str "(") t).bind λu=>(oP call make .Add u (.str "<")).bind λz=>(call 666 [.int b,i] []).bind λB=>(oP call make .Add z B).bind λF=>(oP call make .Add F (.str ")")).bind some:=by kernel_rfl
theorem Pu(C:Addr)(fl:List (Str×AV))(b mn mx:Int)(i:AV):fC call make 482 [bG 485 (.obj C fl) b mn mx,i] []=
 (ba.isin (.ref C) (.ref 284)).bind λq=>if q=true then
  (bH (.obj C fl) "render" λf a=>(call f [a,i] []).bind λt=>(oP call make .Add (.str "(") t).bind λu=>(oP call make .Add u (.str "*")).bind λz=>(call 666 [.int b,i] []).bind λB=>(oP call make .Add z B).bind λF=>(oP call make .Add F (.str ")")).bind some)
 else(bH (.obj C fl) "render" λf a=>(call f [a,i] []).bind λt=>(oP call make .Add (.str "(") t).bind λu=>(oP call make .Add u (.str "*")).bind λz=>(call 666 [.int b,i] []).bind λB=>(oP call make .Add z B).bind λF=>(oP call make .Add F (.str ")")).bind some):=by kernel_rfl
theorem Pq(C:Addr)(fl:List (Str×AV))(b mn mx:Int)(i:AV):fC call make 523 [bG 526 (.obj C fl) b mn mx,i] []=
 bH (.obj C fl) "render" λf a=>(call f [a,i] []).bind λt=>(oP call make .Add (.str "(") t).bind λu=>(oP call make .Add u (.str "//")).bind λz=>if Sm b=true then(oP call make .Add z (.str (bb b))).bind λB=>(oP call make .Add B (.str ")")).bind some else none:=by kernel_rfl
theorem Po(C:Addr)(fl:List (Str×AV))(b mn mx:Int)(i:AV):fC call make 571 [bG 574 (.obj C fl) b mn mx,i] []=
 bH (.obj C fl) "render" λf a=>(call f [a,i] []).bind λt=>(oP call make .Add (.str "(") t).bind λu=>(oP call make .Add u (.str "%")).bind λz=>if Sm b=true then(oP call make .Add z (.str (bb b))).bind λB=>(oP call make .Add B (.str ")")).bind some else none:=by kernel_rfl
theorem Ph(b:Int)(f:AV):fC call make 666 [.int b,f] []=if Sm b=true then some (.str (bb b))else none:=by kernel_rfl
theorem Ub(C:Addr)(fl:List (Str×AV)):fC call make 64 [.obj C fl] []=some (.dict []):=by kernel_rfl
theorem PI(C:Addr)(fl:List (Str×AV)):fC call make 267 [.obj C fl] []=(gA call make (.obj C fl) "key").bind λkx=>b8 kx λkx=>some (.dict [(kx,.obj C fl)]):=by kernel_rfl
theorem PB(C D:Addr)(i:C=430\/C=485\/C=526\/C=574)(fl:List (Str×AV))(b mn mx:Int):fC call make 387 [bG C (.obj D fl) b mn mx] []=
 bH (.obj D fl) "vars" λf a=>(call f [a] []).bind λd=>(call 42 [.list [d,.dict []]] []).bind some:=by
 rcases i with rfl|rfl|rfl|rfl<;>kernel_rfl
theorem Pc(C:Addr)(fl:List (Str×AV))(i:Int):fC call make 93 [.obj C fl,.int i] []=some (.bool false):=by kernel_rfl
theorem Ua(C D:Addr)(fl f:List (Str×AV)):fC call make 93 [.obj C fl,.obj D f] []=(ba.isin (.ref D) (.ref 227)).bind λq=>if(!q)=true then some (.bool false)else
 (gA call make (.obj C fl) "key").bind λa=>(gA call make (.obj D f) "key").bind λb=>(cM call make .Eq a b).bind λq=>some (.bool q):=by kernel_rfl
theorem PF(c i:Int):fC call make 321 [aO c,.int i] []=some (.bool (c==i)):=by kernel_rfl
theorem PM(C:Addr)(fl:List (Str×AV)):fC call make 100 [.obj C fl] []=(oP call make .Mult (.obj C fl) (.int (-1))).bind some:=by kernel_rfl
theorem KM(C:Addr)(fl:List (Str×AV))(b:Int):fC call make 107 [.obj C fl,.int b] []=(make 338 [.int b]).bind λf=>(call 211 [.list [.obj C fl,.obj 338 f]] []).bind some:=by kernel_rfl
theorem PL(C D:Addr)(fl f:List (Str×AV)):fC call make 107 [.obj C fl,.obj D f] []=(ba.isin (.ref D) (.type "int")).bind λq=>if q=true then(make 338 [.obj D f]).bind λhl=>(call 211 [.list [.obj C fl,.obj 338 hl]] []).bind some else(call 211 [.list [.obj C fl,.obj D f]] []).bind some:=by kernel_rfl
theorem KL(C:Addr)(fl:List (Str×AV))(b:Int):fC call make 121 [.obj C fl,.int b] []=(oP call make .Add (.obj C fl) (.int (-b))).bind some:=by kernel_rfl
theorem PK(C D:Addr)(fl f:List (Str×AV)):fC call make 121 [.obj C fl,.obj D f] []=(nG call make (.obj D f)).bind λy=>(oP call make .Add (.obj C fl) y).bind some:=by kernel_rfl
theorem KK(C:Addr)(fl:List (Str×AV))(b:Int):fC call make 163 [.obj C fl,.int b] []=if(b==0)=true then(make 338 [.int 0]).bind λf=>some (.obj 338 f)else if(b==1)=true then some (.obj C fl)else(make 485 [.obj C fl,.int b]).bind λf=>(call 354 [.obj 485 f] []).bind some:=by kernel_rfl
theorem PG(c b:Int):fC call make 314 [aO c,.int b] []=(oP call make .Mult (.int c) (.int b)).bind λx=>(make 338 [x]).bind λf=>some (.obj 338 f):=by kernel_rfl
theorem Px(C:Addr)(fl:List (Str×AV))(k mn mx b:Int):fC call make 446 [bG 485 (.obj C fl) k mn mx,.int b] []=(oP call make .Mult (.int k) (.int b)).bind λy=>(oP call make .Mult (.obj C fl) y).bind some:=by kernel_rfl
end
section
variable(call:aI)(make:aH)
noncomputable def ir(C:Addr)(fl:List (Str×AV))(b:Int)(fa:AV):Option AV:=
 if(b !=0)=true then
  (if decide (b<0)=true then
   (oP call make .Mult (.obj C fl) (.int (-1))).bind λv=>bH v "__floordiv__" λf v=>(call f [v,.int (-b),fa] []).bind some
  else if(b==1)=true then some (.obj C fl)
  else(gA call make (.obj C fl) "min").bind λm=>(cM call make .Lt m (.int 0)).bind λq=>if q=true then
   ((gA call make (.obj C fl) "min").bind λm=>(oP call make .FloorDiv m (.int b)).bind λoff=>(nG call make off).bind λno=>(oP call make .Mult no (.int b)).bind λy=>(oP call make .Add (.obj C fl) y).bind λv=>
     bH v "__floordiv__" λf v=>(call f [v,.int b] [("factoring_allowed",.bool false)]).bind λr=>(oP call make .Add r off).bind some)
   else(make 526 [.obj C fl,.int b]).bind λgl=>(call 354 [.obj 526 gl] []).bind some)
 else none
theorem zN(C:Addr)(fl:List (Str×AV))(b:Int):fC call make 192 [.obj C fl,.int b] []=ir call make C fl b (.bool true):=by kernel_rfl
theorem KJ(C:Addr)(fl:List (Str×AV))(b:Int)(f:AV):fC call make 192 [.obj C fl,.int b] [("factoring_allowed",f)]=ir call make C fl b f:=by kernel_rfl
theorem zM(C:Addr)(fl:List (Str×AV))(b:Int)(f:AV):fC call make 192 [.obj C fl,.int b,f] []=ir call make C fl b f:=by kernel_rfl
noncomputable def o9(x:AV):Option Bool:=ba.isin (iW x) (.type "int")
theorem GT(C:Addr)(fl:List (Str×AV))(b:Int):fC call make 206 [.obj C fl,.int b] []=
 if decide (0<b)=true then(if(b==1)=true then(make 338 [.int 0]).bind λf=>some (.obj 338 f)else
  (gA call make (.obj C fl) "max").bind λi=>(o9 i).bind λq1=>
   if q1=true then(gA call make (.obj C fl) "min").bind λu=>(o9 u).bind λq2=>if q2=true then
    ((gA call make (.obj C fl) "min").bind λm=>(oP call make .FloorDiv m (.int b)).bind λz=>(gA call make (.obj C fl) "max").bind λM=>(oP call make .FloorDiv M (.int b)).bind λB=>(cM call make .Eq z B).bind λq=>if q=true then
     ((gA call make (.obj C fl) "min").bind λm=>(oP call make .FloorDiv m (.int b)).bind λd=>(oP call make .Mult (.int b) d).bind λy=>(oP call make .Sub (.obj C fl) y).bind some)
      else(gA call make (.obj C fl) "min").bind λm=>(cM call make .Lt m (.int 0)).bind λq=>if q=true then
       ((gA call make (.obj C fl) "min").bind λm=>(oP call make .FloorDiv m (.int b)).bind λd=>(oP call make .Mult d (.int b)).bind λy=>(oP call make .Sub (.obj C fl) y).bind λv=>(oP call make .Mod v (.int b)).bind some)
       else(make 574 [.obj C fl,.int b]).bind λf=>(call 354 [.obj 574 f] []).bind some)
    else(make 574 [.obj C fl,.int b]).bind λf=>(call 354 [.obj 574 f] []).bind some
   else(make 574 [.obj C fl,.int b]).bind λf=>(call 354 [.obj 574 f] []).bind some)else none:=by kernel_rfl
theorem KD(C:Addr)(fl:List (Str×AV))(k mn mx b:Int):fC call make 454 [bG 485 (.obj C fl) k mn mx,.int b] []=
 (oP call make .Mod (.int k) (.int b)).bind λr=>(cM call make .Eq r (.int 0)).bind λq=>if q=true then
  ((oP call make .FloorDiv (.int k) (.int b)).bind λd=>(oP call make .Mult (.obj C fl) d).bind some)
 else(oP call make .Mod (.int b) (.int k)).bind λr=>(cM call make .Eq r (.int 0)).bind λq=>if q=true then
  (if decide (0<k)=true then((oP call make .FloorDiv (.int b) (.int k)).bind λd=>(oP call make .FloorDiv (.obj C fl) d).bind some)
   else(call 192 [bG 485 (.obj C fl) k mn mx,.int b,.bool false] []).bind some)
  else(call 192 [bG 485 (.obj C fl) k mn mx,.int b,.bool false] []).bind some:=by kernel_rfl
theorem Pw(C:Addr)(fl:List (Str×AV))(k mn mx b:Int):fC call make 461 [bG 485 (.obj C fl) k mn mx,.int b] []=
 (oP call make .Mod (.int k) (.int b)).bind λr=>(oP call make .Mult (.obj C fl) r).bind λv=>(call 206 [v,.int b] []).bind some:=by kernel_rfl
theorem Ps(C:Addr)(fl:List (Str×AV))(k mn mx b:Int):fC call make 502 [bG 526 (.obj C fl) k mn mx,.int b] []=
 (oP call make .Mult (.int k) (.int b)).bind λy=>(oP call make .FloorDiv (.obj C fl) y).bind some:=by kernel_rfl
theorem KA(C:Addr)(fl:List (Str×AV))(k mn mx b:Int):fC call make 542 [bG 574 (.obj C fl) k mn mx,.int b] []=
 (oP call make .Mod (.int k) (.int b)).bind λr=>(cM call make .Eq r (.int 0)).bind λq=>if q=true then(oP call make .Mod (.obj C fl) (.int b)).bind some else(call 206 [bG 574 (.obj C fl) k mn mx,.int b] []).bind some:=by kernel_rfl
noncomputable def yK(C:Addr)(fl:List (Str×AV))(k mn mx b:Int)(fa:AV):Option AV:=
 (oP call make .Mod (.int k) (.int b)).bind λr=>(cM call make .Eq r (.int 0)).bind λq=>if q=true then((oP call make .FloorDiv (.obj C fl) (.int b)).bind λv=>(oP call make .FloorDiv (.int k) (.int b)).bind λe=>(oP call make .Mod v e).bind some)
 else(call 192 [bG 574 (.obj C fl) k mn mx,.int b,fa] []).bind some
theorem Kz(C:Addr)(fl:List (Str×AV))(k mn mx b:Int):fC call make 550 [bG 574 (.obj C fl) k mn mx,.int b] []=yK call make C fl k mn mx b (.bool true):=by kernel_rfl
theorem Pp(C:Addr)(fl:List (Str×AV))(b:Int):fC call make 557 [.obj 574 (qy (.obj C fl) (.int b))] []=
 (gA call make (.obj C fl) "min").bind λf=>(cM call make .GtE f (.int 0)).bind λq=>if q=true then
  ((gA call make (.obj C fl) "max").bind λM=>(gA call make (.obj C fl) "min").bind λm=>(oP call make .Sub M m).bind λw=>(cM call make .GtE w (.int b)).bind λq=>if q=true then(oP call make .Sub (.int b) (.int 1)).bind λt=>some (.tup [.int 0,t])else
    (gA call make (.obj C fl) "min").bind λm=>(gA call make (.obj C fl) "max").bind λM=>(cM call make .NotEq m M).bind λq=>if q=true then
     ((gA call make (.obj C fl) "min").bind λm=>(oP call make .Mod m (.int b)).bind λx=>(gA call make (.obj C fl) "max").bind λM=>(oP call make .Mod M (.int b)).bind λy=>(cM call make .GtE x y).bind λq=>if q=true then(oP call make .Sub (.int b) (.int 1)).bind λt=>some (.tup [.int 0,t])else
       (gA call make (.obj C fl) "min").bind λm=>(oP call make .Mod m (.int b)).bind λx=>(gA call make (.obj C fl) "max").bind λM=>(oP call make .Mod M (.int b)).bind λy=>some (.tup [x,y]))
     else(gA call make (.obj C fl) "min").bind λm=>(oP call make .Mod m (.int b)).bind λx=>(gA call make (.obj C fl) "max").bind λM=>(oP call make .Mod M (.int b)).bind λy=>some (.tup [x,y]))else none:=by kernel_rfl
theorem KH(C:Addr)(fl:List (Str×AV))(l:List (Str×AV)):fC call make 274 [.obj C fl,.dict l] []=(gA call make (.obj C fl) "key").bind λkx=>b8 kx λx=>some ((fe l x).getD (.obj C fl)):=by kernel_rfl
theorem CK(C:Addr)(fl:List (Str×AV))(x:AV):fC call make 328 [.obj C fl,x] []=some (.obj C fl):=by kernel_rfl
theorem KF(C:Addr)(fl:List (Str×AV))(b mn mx:Int)(x:AV):fC call make 420 [bG 430 (.obj C fl) b mn mx,x] []=bH (.obj C fl) "substitute" λf a=>(call f [a,x] []).bind λy=>(call 359 [y,.int b] []).bind some:=by kernel_rfl
theorem KC(C:Addr)(fl:List (Str×AV))(b mn mx:Int)(x:AV):fC call make 475 [bG 485 (.obj C fl) b mn mx,x] []=bH (.obj C fl) "substitute" λf a=>(call f [a,x] []).bind λy=>(oP call make .Mult y (.int b)).bind some:=by kernel_rfl
theorem KB(C:Addr)(fl:List (Str×AV))(b mn mx:Int)(x:AV):fC call make 516 [bG 526 (.obj C fl) b mn mx,x] []=bH (.obj C fl) "substitute" λf a=>(call f [a,x] []).bind λy=>(oP call make .FloorDiv y (.int b)).bind some:=by kernel_rfl
theorem Ky(C:Addr)(fl:List (Str×AV))(b mn mx:Int)(x:AV):fC call make 564 [bG 574 (.obj C fl) b mn mx,x] []=bH (.obj C fl) "substitute" λf a=>(call f [a,x] []).bind λy=>(oP call make .Mod y (.int b)).bind some:=by kernel_rfl
theorem PD(e:Str)(lo hi:Int):fC call make 347 [.str e,.int lo,.int hi] []=if decide (0<=lo)=true then(if decide (lo<=hi)=true then(if(lo==hi)=true then(make 338 [.int lo]).bind λf=>some (.obj 338 f)else(make 284 [.str e,.int lo,.int hi]).bind λf=>some (.obj 284 f))else none)else none:=by kernel_rfl
theorem PC(C:Addr)(fl:List (Str×AV))(b:Int):fC call make 366 [.obj C fl,.int b] []=(nG call make (.obj C fl)).bind λn=>(call 359 [n,.int (-b+1)] []).bind some:=by kernel_rfl
theorem Pf:fC call make 678 [] []=some (.list [.str "a",.str "b",.str "c"]):=by kernel_rfl
theorem Pe(n:Int):fC call make 692 [.int n] []=if decide ((if n<0 then-n else n)<1000000000000000000)=true then some (.int n)else some (.int (n.fmod 1000000000000000003)):=by kernel_rfl
end
noncomputable def bj:Nat->Expr->List Expr
 |0,_=>[]
 |n+1,e=>match e with
  | .ListComp elt gens scope p=> .ListComp elt gens scope p::(bj n elt++gens.flatMap λg=>bj n g.iter++g.ifs.flatMap (bj n))
  | .DictComp k v gens scope p=> .DictComp k v gens scope p::(bj n k++bj n v++gens.flatMap λg=>bj n g.iter++g.ifs.flatMap (bj n))
  | .IfExp a b d _=>bj n a++bj n b++bj n d
  | .BinOp a _ b _=>bj n a++bj n b
  | .UnaryOp _ a _=>bj n a
  | .BoolOp _ es _=>es.flatMap (bj n)
  | .Compare a _ bs _=>bj n a++bs.flatMap (bj n)
  | .List es _=>es.flatMap (bj n)
  | .Tuple es _ _=>es.flatMap (bj n)
  | .Attribute o _ _=>bj n o
  | .Subscript o i _=>bj n o++bj n i
  | .Call (.Name _ _) args cB _=>args.flatMap (bj n)++cB.flatMap λkw=>bj n kw.value
  | .Call (.Attribute o _ _) args cB _=>bj n o++args.flatMap (bj n)++cB.flatMap λkw=>bj n kw.value
  |_=>[]
noncomputable def pC:Nat->Stmt->List Expr
 |0,_=>[]
 |n+1,st=>match st with
  | .If t b o _=>bj 20 t++b.flatMap (pC n)++o.flatMap (pC n)
  | .Return (some e) _=>bj 20 e
  | .Assign _ e _=>bj 20 e
  | .Expr e _=>bj 20 e
  | .For _ it b _ _=>bj 20 it++b.flatMap (pC n)
  |_=>[]
noncomputable def oZ:Nat->Stmt->List (List Stmt)
 |0,_=>[]
 |n+1,st=>match st with
  | .If t b o _=>b.flatMap (oZ n)++o.flatMap (oZ n)
  | .For _ it b _ _=>b::b.flatMap (oZ n)
  |_=>[]
section
variable(call:aI)(make:aH)
noncomputable abbrev AG(f:Addr):List Stmt:=mi f
noncomputable abbrev jK(f:Addr):List (Str×NameKind):=DR f
noncomputable def PZ(f i:Nat):Expr:=(((AG f).flatMap (pC 20))[i]?).getD (.Constant .none 0 default)
noncomputable def gx(f i:Nat):List Stmt:=(((AG f).flatMap (oZ 20))[i]?).getD []
noncomputable def Ft:Expr->List (Str×NameKind)
 | .ListComp _ _ scope _=>scope.names
 | .DictComp _ _ _ scope _=>scope.names
 |_=>[]
noncomputable def Mj(f i:Nat):List (Str×NameKind):=j4 (jK f) (Ft (PZ f i))
noncomputable def aU(f i m:Nat):ah->List AV->Acc->Option (ah×Acc):=m8 ba (Mj f i) (kA ba (hZ call make) m (Mj f i)) (PZ f i) 4 0
noncomputable def ay(f i n:Nat)(τ:ah):Option fW:=bB ba (hZ call make) (jK f) 40 n τ (gx f i) (λσ=>some (.next σ)) (λσ=>some (.cont σ)) (λx σ=>some (.ret x σ))
noncomputable abbrev bf(ts:List AV):List (List AV):=ts.map λy=>[y]
theorem Pk(ts:List AV)(mn mx b:Int):fC call make 624 [bZ ts mn mx,.int b] []=(aE (aU call make 624 0 38) (bf ts) [("b",.fz (.int b))] (.l [])).bind λp=>(gO p.2).bind λxs=>(call 211 [.list xs] []).bind some:=by kernel_rfl
theorem Pm(ts:List AV)(mn mx:Int):fC call make 595 [bZ ts mn mx] []=(aE (aU call make 595 0 38) (bf ts) [] (.l [])).bind λp=>(gO p.2).bind λxs=>(call 42 [.list xs] []).bind some:=by kernel_rfl
theorem Pl(ts:List AV):fC call make 619 [.obj 656 (iG (.list ts))] []=(aE (aU call make 619 0 37) (bf ts) [] (.l [])).bind λp=>(gO p.2).bind λxs=>(sB (.builtin "sum") [.list xs]).bind λs1=>(aE (aU call make 619 1 37) (bf ts) [] (.l [])).bind λp=>(gO p.2).bind λys=>(sB (.builtin "sum") [.list ys]).bind λf=>some (.tup [s1,f]):=by kernel_rfl
theorem Kv(ts:List AV)(mn mx:Int)(x:AV):fC call make 642 [bZ ts mn mx,x] []=(aE (aU call make 642 0 38) (bf ts) [("var_vals",.fz x)] (.l [])).bind λp=>(gO p.2).bind λxs=>(call 211 [.list xs] []).bind some:=by kernel_rfl
theorem Pj(ts:List AV)(mn mx b:Int):fC call make 637 [bZ ts mn mx,.int b] []=(cM call make .Eq (bZ ts mn mx) (.int b)).bind λq=>if q=true then(make 338 [.int 0]).bind λf=>some (.obj 338 f)else
 (aE (aU call make 637 0 38) (bf ts) [("b",.fz (.int b))] (.l [])).bind λp=>(gO p.2).bind λxs=>(call 211 [.list xs] []).bind λy=>(call 206 [y,.int b] []).bind some:=by kernel_rfl
theorem Pi(ts:List AV)(mn mx:Int)(f:AV):fC call make 647 [bZ ts mn mx,f] []=(aE (aU call make 647 0 35) (bf ts) [("ctx",.fz f)] (.l [])).bind λp=>(gO p.2).bind λxs=>(sB (.builtin "sorted") [.list xs]).bind λy=>tE [y] λys=>(fq ys).bind λns=>
 if(("+":Str).length<=64/\(ns.map (·.length)).sum+ns.length*64<=16777216)then(oP call make .Add (.str "(") (.str (Txt.join "+" ns))).bind λx=>(oP call make .Add x (.str ")")).bind some else none:=by kernel_rfl
theorem Ku(ts:List AV)(fl:List (Str×AV))(h:fl=iG (.list ts)\/∃m M,fl=jL (.list ts) m M):fC call make 652 [.obj 656 fl] []=(aE (aU call make 652 0 39) (bf ts) [] (.l [])).bind λp=>(gO p.2).bind λxs=>some (.list xs):=by rcases h with rfl|⟨m,M,rfl⟩<;>kernel_rfl
theorem Pg(C:Addr)(fl:List (Str×AV))(l:List (Str×AV)):fC call make 671 [.obj C fl,.dict l] []=(ba.isin (.ref C) (.type "int")).bind λq=>if q=true then some (.obj C fl)else
 bH (.obj C fl) "substitute" λf v=>(aE (aU call make 671 0 37) (l.map λz=>[.str z.1,z.2]) [] (.d [])).bind λp=>(Du p.2).bind λxs=>(call f [v,.dict xs] []).bind λr=>(ba.isin (iW r) (.ref 338)).bind λq=>if q=true then(gA call make r "b").bind some else none:=by kernel_rfl
end
section
variable(call:aI)(make:aH)
noncomputable def cS(f i n:Nat)(σ:ah):Option AV:=bB ba (hZ call make) (jK f) 40 n σ ((AG f).drop i) (λ_=>some .none) (λ_=>none) (λx _=>some x)
noncomputable abbrev wJ(f i n:Nat)(o:fW):Option AV:=f6 (cS call make f i n) (λ_=>none) (λx _=>some x) o
theorem Ud(f:List AV):fC call make 42 [.list f] []=(bU (ay call make 42 0 198) ["row"] (bf f) [("rows",.fz (.list f)),("ret",.od [])]).bind (wJ call make 42 2 198):=by kernel_rfl
theorem Py(f:List AV)(l:List (Str×AV))(r:ah):cS call make 42 2 198 (("rows",.fz (.list f))::("ret",.od l)::r)=some (.dict l):=by kernel_rfl
theorem SV(f:List AV)(l d:List (Str×AV))(r:ah):ay call make 42 0 198 (("rows",.fz (.list f))::("ret",.od l)::("row",.fz (.dict d))::r)=
 (bU (ay call make 42 1 197) ["k","v"] (d.map λz=>[.str z.1,z.2]) (("rows",.fz (.list f))::("ret",.od l)::("row",.fz (.dict d))::r)).bind λo=>f6 (λσ=>some (.next σ)) (λσ=>some (.cont σ)) (λx σ=>some (.ret x σ)) o:=by kernel_rfl
theorem N8(f:List AV)(l d:List (Str×AV))(k:Str)(v:AV)(r:ah):ay call make 42 1 197 (("rows",.fz (.list f))::("ret",.od l)::("row",.fz (.dict d))::("k",.fz (.str k))::("v",.fz v)::r)=
 if l.length<=1000 then some (.next (("rows",.fz (.list f))::("ret",.od (bI l k v))::("row",.fz (.dict d))::("k",.fz (.str k))::("v",.fz v)::r))else none:=by kernel_rfl
theorem PJ(ts:List AV):fC call make 211 [.list ts] []=(aE (aU call make 211 0 40) (bf ts) [] (.l [])).bind λp=>(gO p.2).bind λxs=>(ib (.list xs)).bind λq=>if(!q)=true then(make 338 [.int 0]).bind λfl=>some (.obj 338 fl)else
 (fF xs).bind λx=>(cM call make .Eq x (.int 1)).bind λq=>if q=true then(bc xs 0).bind some else
 (make 656 [.list xs]).bind λfl=>(gA call make (.obj 656 fl) "flat_components").bind λv=>u9 v λrows=>(bU (ay call make 211 0 193) ["node"] rows [("nodes",.fz (.list xs)),("mul_groups",.od []),("mul_nodes",.od []),("num_node_sum",.fz (.int 0))]).bind (wJ call make 211 7 193):=by kernel_rfl
noncomputable abbrev d6(xs:List AV)(g m:List (Str×AV))(s:Int)(r:ah):ah:=("nodes",.fz (.list xs))::("mul_groups",.od g)::("mul_nodes",.od m)::("num_node_sum",.fz (.int s))::r
noncomputable def ou(ys:List AV):Option AV:=
 (fF ys).bind λx=>(cM call make .Gt x (.int 1)).bind λq=>if q=true then(make 656 [.list ys]).bind λfl=>(call 354 [.obj 656 fl] []).bind some else
  (fF ys).bind λx=>(cM call make .Eq x (.int 1)).bind λq=>if q=true then(bc ys 0).bind some else(make 338 [.int 0]).bind λfl=>some (.obj 338 fl)
theorem KI(xs:List AV)(g m:List (Str×AV))(s:Int)(r:ah)(hr:r=[]\/∃x,r=[(("node":Str),EV.fz x)]):cS call make 211 7 193 (d6 xs g m s r)=
 (aE (aU call make 211 1 40) (g.map λz=>[.str z.1,z.2]) [("mul_nodes",.fz (.dict m))] (.l [])).bind λp=>(gO p.2).bind λys=>if(s !=0)=true then
  (make 338 [.int s]).bind λfl=>if ys.length<=1000 then ou call make (ys++[.obj 338 fl])else none
 else ou call make ys:=by
 rcases hr with rfl|⟨x,rfl⟩<;>kernel_rfl
theorem Ju(xs:List AV)(g m:List (Str×AV))(s c:Int):ay call make 211 0 193 (d6 xs g m s (("node",.fz (aO c))::[]))=some (.next (d6 xs g m (s+c) (("node",.fz (aO c))::[]))):=by kernel_rfl
theorem Jv(xs:List AV)(g m:List (Str×AV))(s b mn mx:Int)(C:Addr)(fl:List (Str×AV)):ay call make 211 0 193 (d6 xs g m s (("node",.fz (bG 485 (.obj C fl) b mn mx))::[]))=
 (gA call make (.obj C fl) "key").bind λf=>b8 f λf=>(gA call make (.obj C fl) "key").bind λi=>b8 i λi=>if m.length<=1000 then
  (gA call make (.obj C fl) "key").bind λu=>b8 u λu=>(oP call make .Add ((fe g u).getD (.int 0)) (.int b)).bind λz=>(gA call make (.obj C fl) "key").bind λB=>b8 B λB=>if g.length<=1000 then
   some (.next (d6 xs (bI g B z) (bI m i ((fe m f).getD (.obj C fl))) s (("node",.fz (bG 485 (.obj C fl) b mn mx))::[])))else none else none:=by kernel_rfl
theorem Jw(xs:List AV)(g m:List (Str×AV))(s:Int)(C:Addr)(F:C=284\/C=430\/C=526\/C=574)(fl:List (Str×AV)):ay call make 211 0 193 (d6 xs g m s (("node",.fz (.obj C fl))::[]))=
 (gA call make (.obj C fl) "key").bind λf=>b8 f λf=>(gA call make (.obj C fl) "key").bind λi=>b8 i λi=>if m.length<=1000 then
  (gA call make (.obj C fl) "key").bind λu=>b8 u λu=>(oP call make .Add ((fe g u).getD (.int 0)) (.int 1)).bind λz=>(gA call make (.obj C fl) "key").bind λB=>b8 B λB=>if g.length<=1000 then
   some (.next (d6 xs (bI g B z) (bI m i ((fe m f).getD (.obj C fl))) s (("node",.fz (.obj C fl))::[])))else none else none:=by
 rcases F with rfl|rfl|rfl|rfl<;>kernel_rfl
end
section
variable(call:aI)(make:aH)
noncomputable def Ic:List Stmt:=m7 (AG 359)
noncomputable def xl:List Stmt:=m7 (Ic)
noncomputable def Dj:List Stmt:=m7 ((xl).drop 6)
noncomputable def D6(σ:ah):Option AV:=bB ba (hZ call make) (jK 359) 40 198 σ ((Ic).drop 1) (λσ=>cS call make 359 1 199 σ) (λ_=>none) (λx _=>some x)
noncomputable def oX(i n:Nat)(σ:ah):Option AV:=bB ba (hZ call make) (jK 359) 40 n σ ((xl).drop i) (λσ=>D6 call make σ) (λ_=>none) (λx _=>some x)
noncomputable def NA(i n:Nat)(σ:ah):Option AV:=bB ba (hZ call make) (jK 359) 40 n σ ((Dj).drop i) (λσ=>D6 call make σ) (λ_=>none) (λx _=>some x)
noncomputable def HW(i:Nat):Stmt:=((AG 359)[i]?).getD (.Pass default)
noncomputable def HV(i:Nat):Stmt:=(Ic[i]?).getD (.Pass default)
noncomputable def wg(i:Nat):Stmt:=(xl[i]?).getD (.Pass default)
noncomputable def A5(st:Stmt):Expr×List Stmt×List Stmt:=(rP st).getD (.Constant .none 0 default,[],[])
theorem vK:(AG 359).drop 0=HW 0::(AG 359).drop 1:=by kernel_rfl
theorem Dh:(AG 359).drop 1=HW 1::(AG 359).drop 2:=by kernel_rfl
theorem Dm:Ic=HV 0::Ic.drop 1:=by kernel_rfl
theorem Dl:xl=wg 0::wg 1::xl.drop 2:=by kernel_rfl
theorem zK(x y:AV):fC call make 359 [x,y] []=cS call make 359 0 200 [("lhs",.fz x),("b",.fz y)]:=
 Au (ns:=DR 359) (b:=(mi 359).drop 0) (ps:=[("lhs",x),("b",y)]) (by kernel_rfl) (by kernel_rfl) (by kernel_rfl)
theorem KG(ts:List AV)(mn mx b:Int):fC call make 359 [bZ ts mn mx,.int b] []=
 (bU (ay call make 359 0 196) ["x"] (bf ts) [("lhs",.fz (bZ ts mn mx)),("b",.fz (.int b)),("new_sum",.ol [])]).bind λo=>f6 (λσ=>oX call make 2 196 σ) (λ_=>none) (λx _=>some x) o:=by
 rw[zK];unfold cS;rw[vK,jk (t:=(A5 (HW 0)).1) (b:=Ic) (o:=(A5 (HW 0)).2.2) (by kernel_rfl) (by kernel_rfl) (by kernel_rfl) (λk=>by kernel_rfl)];rw[Dm,jk (t:=(A5 (HV 0)).1) (b:=xl) (o:=(A5 (HV 0)).2.2) (by kernel_rfl) (by kernel_rfl) (by kernel_rfl) (λk=>by kernel_rfl)];rw[Dl,eE (σ':=[("lhs",.fz (bZ ts mn mx)),("b",.fz (.int b)),("new_sum",.ol [])]) (by intro R kN kC kR;kernel_rfl)];exact nE (by intro kN kC kR;kernel_rfl)
theorem Eu(C:Addr)(f:C=284\/C=338\/C=430\/C=526\/C=574)(fl:List (Str×AV))(b:Int):fC call make 359 [.obj C fl,.int b] []=(make 430 [.obj C fl,.int b]).bind λi=>(call 354 [.obj 430 i] []).bind some:=by rcases f with rfl|rfl|rfl|rfl|rfl<;>kernel_rfl
noncomputable abbrev dD(l:AV)(b:Int)(ns:EV)(r:ah):ah:=("lhs",.fz l)::("b",.fz (.int b))::("new_sum",ns)::r
theorem Js(l:AV)(b:Int)(xs:List AV)(c:Int):ay call make 359 0 196 (dD l b (.ol xs) [("x",.fz (aO c))])=some (.next (dD l (b-c) (.ol xs) [("x",.fz (aO c))])):=by kernel_rfl
theorem Jr(l:AV)(b:Int)(xs:List AV)(C:Addr)(f:C=284\/C=430\/C=485\/C=526\/C=574)(fl:List (Str×AV)):ay call make 359 0 196 (dD l b (.ol xs) [("x",.fz (.obj C fl))])=if xs.length<=1000 then some (.next (dD l b (.ol (xs++[.obj C fl])) [("x",.fz (.obj C fl))]))else none:=by rcases f with rfl|rfl|rfl|rfl|rfl<;>kernel_rfl
theorem LV(C:Addr)(fl:List (Str×AV))(b:Int)(xs:List AV)(x:AV):oX call make 3 195 (dD (.obj C fl) b (.fz (.list xs)) [("x",.fz x)])=
 (ba.isin (.ref C) (.ref 656)).bind λq=>if q=true then(gA call make (.obj C fl) "nodes").bind λv=>oX call make 4 194 (dD (.obj C fl) b (.fz (.list xs)) [("x",.fz x),("nodes",.fz v)])
  else oX call make 4 194 (dD (.obj C fl) b (.fz (.list xs)) [("x",.fz x),("nodes",.fz (.list [.obj C fl]))]):=by kernel_rfl
noncomputable def jE(i:Nat):Stmt:=((xl)[i]?).getD (.Pass default)
theorem So(l:AV)(b:Int)(xs:List AV)(x:AV)(ns:List AV):ly (jK 359) ((ia (jE 4)).foldl lU (dD l b (.fz (.list xs)) [("x",.fz x),("nodes",.fz (.list ns))])) (jE 4)=
 if ns.all jT=true then some (dD l b (.fz (.list xs)) [("x",.fz x),("nodes",.fz (.list ns))])else none:=by
 unfold ly;rw[Vi (by kernel_rfl:(jK 359==mM)=true),Vi (by kernel_rfl:((vS (jE 4)).1==228)=true),Vi (by kernel_rfl:Gc[4]? =some (jE 4))];kernel_rfl
theorem MN(l:AV)(b:Int)(xs:List AV)(x:AV)(ns:List AV):ly (jK 359) ((ia (jE 5)).foldl lU (dD l b (.fz (.list xs)) [("x",.fz x),("nodes",.fz (.list ns))])) (jE 5)=
 if(decide (ns.length<=1000)&&ns.all (λx=>(mN b x).isSome))=true then some (dD l b (.fz (.list xs)) [("x",.fz x),("nodes",.fz (.list ns)),("muls",.fz (.list (ns.filter (lI b)))),("others",.fz (.list (ns.filter λy=> !lI b y)))])else none:=by
 unfold ly;rw[Vi (by kernel_rfl:(jK 359==mM)=true),Vk (Bool.eq_false_iff.mp (by kernel_rfl:((vS (jE 5)).1==228)=false)),Vi (by kernel_rfl:((vS (jE 5)).1==229)=true),Vi (by kernel_rfl:Gc[5]? =some (jE 5))];kernel_rfl
theorem NN{R:Type}{kN kC:ah->Option R}{kR:AV->ah->Option R}(l:AV)(b:Int)(xs:List AV)(x:AV):bB ba (hZ call make) (jK 359) 40 196 (dD l b (.ol xs) [("x",.fz x)]) [jE 2] kN kC kR=(call 211 [.list xs] []).bind λy=>kN ((dD y b (.fz (.list xs)) [("x",.fz x)])):=by kernel_rfl
theorem Dk:(xl).drop 2=jE 2::(xl).drop 3:=by kernel_rfl
theorem LW(l:AV)(b:Int)(xs:List AV)(x:AV):oX call make 2 196 (dD l b (.ol xs) [("x",.fz x)])=(call 211 [.list xs] []).bind λy=>oX call make 3 195 (dD y b (.fz (.list xs)) [("x",.fz x)]):=by unfold oX;rw[Dk];exact dF.trans (NN ..)
theorem HG:(xl).drop 4=jE 4::jE 5::(xl).drop 6:=by kernel_rfl
theorem NK(l:AV)(b:Int)(xs:List AV)(x:AV)(ns:List AV)(f:ns.all jT=true)(i:(decide (ns.length<=1000)&&ns.all (λx=>(mN b x).isSome))=true):oX call make 4 194 (dD l b (.fz (.list xs)) [("x",.fz x),("nodes",.fz (.list ns))])=
 oX call make 6 192 (dD l b (.fz (.list xs)) [("x",.fz x),("nodes",.fz (.list ns)),("muls",.fz (.list (ns.filter (lI b)))),("others",.fz (.list (ns.filter λy=> !lI b y)))]):=by
 unfold oX;rw[HG];rw[nB (σ':=dD l b (.fz (.list xs)) [("x",.fz x),("nodes",.fz (.list ns))]) ((So l b xs x ns).trans (Vi f))];rw[nB ((MN l b xs x ns).trans (Vi i))]
noncomputable abbrev kb(l:AV)(bv:AV)(xs:List AV)(x:AV)(ns ms os:List AV)(r:ah):ah:=("lhs",.fz l)::("b",.fz bv)::("new_sum",.fz (.list xs))::("x",.fz x)::("nodes",.fz (.list ns))::("muls",.fz (.list ms))::("others",.fz (.list os))::r
theorem vO:xl.drop 6=[wg 6]:=by kernel_rfl
theorem Di:Dj=(Dj.head?.getD (.Pass default))::(Dj.drop 1).head?.getD (.Pass default)::Dj.drop 2:=by kernel_rfl
theorem Jc{R:Type}(f:Bool->Option R)(l:AV)(b:Int)(xs:List AV)(x:AV)(ns ms i:List AV):(kA ba (hZ call make) 40 (jK 359)).tr (kb l (.int b) xs x ns ms i []) (A5 (wg 6)).1 f=(ib (.list ms)).bind f:=by kernel_rfl
theorem Jd(l:AV)(b:Int)(xs:List AV)(x:AV)(ns ms f:List AV):(hZ call make).stmt (jK 359) (kb l (.int b) xs x ns ms f []) (wg 6)=none/\(ia (wg 6)).foldl lU (kb l (.int b) xs x ns ms f [])=kb l (.int b) xs x ns ms f []:=⟨by kernel_rfl,by kernel_rfl⟩
theorem ND:rP (wg 6)=some ((A5 (wg 6)).1,Dj,(A5 (wg 6)).2.2):=by kernel_rfl
theorem NC:rP (wg 6)=some ((A5 (wg 6)).1,Dj,[]):=by kernel_rfl
theorem NF{R:Type}{kN kC:ah->Option R}{kR:AV->ah->Option R}(l:AV)(b:Int)(xs:List AV)(x:AV)(ns ms f:List AV):bB ba (hZ call make) (jK 359) 40 191 (kb l (.int b) xs x ns ms f []) [Dj.head?.getD (.Pass default)] kN kC kR=kN ((kb l (.int b) xs x ns ms f [("mul_gcd",.fz (.int b))])):=by kernel_rfl
theorem NE{R:Type}{kN kC:ah->Option R}{kR:AV->ah->Option R}(l:AV)(b:Int)(xs:List AV)(x:AV)(ns ms f:List AV):bB ba (hZ call make) (jK 359) 40 190 (kb l (.int b) xs x ns ms f [("mul_gcd",.fz (.int b))]) [(Dj.drop 1).head?.getD (.Pass default)] kN kC kR=(bU (λτ=>bB ba (hZ call make) (jK 359) 40 189 τ (gx 359 1) (λσ=>some (fW.next σ)) (λσ=>some (.cont σ)) (λx σ=>some (.ret x σ))) ["x"] (bf ms) (kb l (.int b) xs x ns ms f [("mul_gcd",.fz (.int b))])).bind (f6 kN kC kR):=by kernel_rfl
theorem NG(l:AV)(b:Int)(xs:List AV)(x:AV)(ns ms i:List AV)(h:ib (.list ms)=some true):oX call make 6 192 (kb l (.int b) xs x ns ms i [])=
 (bU (ay call make 359 1 189) ["x"] (bf ms) (kb l (.int b) xs x ns ms i [("mul_gcd",.fz (.int b))])).bind λo=>f6 (λσ=>NA call make 2 189 σ) (λ_=>none) (λx _=>some x) o:=by
 refine af (Jd call make l b xs x ns ms i) λu z=>?_;unfold oX;rw[vO,zS ND z u λf=>(Jc call make f l b xs x ns ms i).trans (bE h rfl),Di,eE (NF call make l b xs x ns ms i)];exact nE (NE call make l b xs x ns ms i)
theorem NJ(l:AV)(b:Int)(xs:List AV)(x:AV)(ns ms i:List AV)(h:ib (.list ms)=some false):oX call make 6 192 (kb l (.int b) xs x ns ms i [])=D6 call make (kb l (.int b) xs x ns ms i []):=by refine af (Jd call make l b xs x ns ms i) λu z=>?_;unfold oX;rw[vO,zR NC z u λf=>(Jc call make f l b xs x ns ms i).trans (bE h rfl),zQ]
theorem Jt(l:AV)(b:Int)(xs:List AV)(ns ms f:List AV)(g:Int)(C:Addr)(i:C=485)(fl:List (Str×AV)):ay call make 359 1 189 (kb l (.int b) xs (.obj C fl) ns ms f [("mul_gcd",.fz (.int g))])=
 (gA call make (.obj C fl) "b").bind λk=>(call 35 [.int g,k] []).bind λz=>some (.next (kb l (.int b) xs (.obj C fl) ns ms f [("mul_gcd",.fz z)])):=by subst i;kernel_rfl
theorem QQ(l:AV)(b:Int)(xs:List AV)(x:AV)(ns ms f:List AV)(g:Int):NA call make 2 189 (kb l (.int b) xs x ns ms f [("mul_gcd",.fz (.int g))])=
 (call 211 [.list f] []).bind λz=>(gA call make z "min").bind λm=>(cM call make .GtE m (.int 0)).bind λq=>if q=true then
  ((gA call make z "max").bind λM=>(cM call make .Lt M (.int g)).bind λq=>if q=true then
    ((aE (aU call make 359 0 37) (bf ms) [("mul_gcd",.fz (.int g))] (.l [])).bind λp=>(gO p.2).bind λys=>(call 211 [.list ys] []).bind λy=>(oP call make .FloorDiv (.int b) (.int g)).bind λb2=>D6 call make (kb y b2 xs x ns ms f [("mul_gcd",.fz (.int g)),("all_others",.fz z)]))
  else D6 call make (kb l (.int b) xs x ns ms f [("mul_gcd",.fz (.int g)),("all_others",.fz z)]))
 else D6 call make (kb l (.int b) xs x ns ms f [("mul_gcd",.fz (.int g)),("all_others",.fz z)]):=by kernel_rfl
noncomputable def rG(l bv:AV):Option AV:=(ba.isin (iW l) (.ref 656)).bind λq=>if q=true then(make 430 [l,bv]).bind λgl=>(call 354 [.obj 430 gl] []).bind some else(call 359 [l,bv] []).bind some
theorem Of(l:AV)(f:AV)(xs:List AV)(x:AV)(ns ms i:List AV):D6 call make (kb l f xs x ns ms i [])=rG call make l f:=by kernel_rfl
theorem Gk(l:AV)(f:AV)(xs:List AV)(x:AV)(ns ms i:List AV)(g z:AV):D6 call make (kb l f xs x ns ms i [("mul_gcd",.fz g),("all_others",.fz z)])=rG call make l f:=by kernel_rfl
noncomputable abbrev lA(l:AV)(b:Int):ah:=[("lhs",.fz l),("b",.fz (.int b))]
noncomputable def Ib:List Stmt:=m7 ((AG 359).drop 1)
noncomputable def BE(i:Nat):Stmt:=((Ib)[i]?).getD (.Pass default)
theorem GS(C:Addr)(fl:List (Str×AV))(k mn mx b:Int):fC call make 359 [bG 485 (.obj C fl) k mn mx,.int b] []=cS call make 359 1 199 (lA (bG 485 (.obj C fl) k mn mx) b):=by rw[zK];unfold cS;rw[vK];exact eE (by intro R kN kC kR;kernel_rfl)
theorem GR(C:Addr)(fl:List (Str×AV))(k mn mx b:Int):cS call make 359 1 199 (lA (bG 485 (.obj C fl) k mn mx) b)=bB ba (hZ call make) (jK 359) 40 198 (lA (bG 485 (.obj C fl) k mn mx) b) (Ib) (λσ=>cS call make 359 2 198 σ) (λ_=>none) (λx _=>some x):=by unfold cS;rw[Dh];exact jk (t:=(A5 (HW 1)).1) (b:=Ib) (o:=(A5 (HW 1)).2.2) (by kernel_rfl) (by kernel_rfl) (by kernel_rfl) (λk=>by kernel_rfl)
theorem GQ{R:Type}{kN kC:ah->Option R}{kR:AV->ah->Option R}(C:Addr)(fl:List (Str×AV))(k mn mx b:Int):bB ba (hZ call make) (jK 359) 40 198 (lA (bG 485 (.obj C fl) k mn mx) b) [BE 0] kN kC kR=if(k== -1)=true then(make 430 [bG 485 (.obj C fl) k mn mx,.int b]).bind λf=>(call 354 [.obj 430 f] []).bind λx=>kR x ((lA (bG 485 (.obj C fl) k mn mx) b))else kN ((lA (bG 485 (.obj C fl) k mn mx) b)):=by kernel_rfl
theorem zJ{R:Type}{kN kC:ah->Option R}{kR:AV->ah->Option R}(C:Addr)(fl:List (Str×AV))(k mn mx b:Int):bB ba (hZ call make) (jK 359) 40 197 (lA (bG 485 (.obj C fl) k mn mx) b) [BE 1] kN kC kR=if decide (0<k)=true then kN ([("lhs",.fz (bG 485 (.obj C fl) k mn mx)),("b",.fz (.int b)),("sgn",.fz (.int 1))])else kN ([("lhs",.fz (bG 485 (.obj C fl) k mn mx)),("b",.fz (.int b)),("sgn",.fz (.int (-1)))]):=by kernel_rfl
theorem HF:Ib=BE 0::BE 1::(Ib).drop 2:=by kernel_rfl
theorem Et(C:Addr)(fl:List (Str×AV))(k mn mx b:Int)(s:Int)(kN:ah->Option AV)(kC:ah->Option AV):bB ba (hZ call make) (jK 359) 40 196 [("lhs",.fz (bG 485 (.obj C fl) k mn mx)),("b",.fz (.int b)),("sgn",.fz (.int s))] ((Ib).drop 2) kN kC (λx _=>some x)=(oP call make .Mult (.obj C fl) (.int s)).bind λv=>(oP call make .FloorDiv (.int (b+(if k<0 then-k else k)-1)) (.int (if k<0 then-k else k))).bind λw=>(make 430 [v,w]).bind λf=>(call 354 [.obj 430 f] []).bind some:=by kernel_rfl
theorem Es(C:Addr)(fl:List (Str×AV))(k mn mx b:Int):fC call make 359 [bG 485 (.obj C fl) k mn mx,.int b] []=
 if(k== -1)=true then(make 430 [bG 485 (.obj C fl) k mn mx,.int b]).bind λf=>(call 354 [.obj 430 f] []).bind some else
  (oP call make .Mult (.obj C fl) (.int (if 0<k then 1 else-1))).bind λv=>(oP call make .FloorDiv (.int (b+(if k<0 then-k else k)-1)) (.int (if k<0 then-k else k))).bind λw=>(make 430 [v,w]).bind λf=>(call 354 [.obj 430 f] []).bind some:=by
 rw[GS,GR,HF];refine dF.trans ((GQ ..).trans ?_);by_cases c:(k== -1)=true
 . rw[Vi c,Vi c]
 . rw[Vk c,Vk c];by_cases h:0<k
   . rw[eE ((zJ call make C fl k mn mx b).trans (Vi (VJ h))),Vi h];exact Et call make C fl k mn mx b 1 (λσ=>cS call make 359 2 198 σ) (λ_=>none)
   . rw[eE ((zJ call make C fl k mn mx b).trans (Vk (by simpa using h))),Vk h];exact Et call make C fl k mn mx b (-1) (λσ=>cS call make 359 2 198 σ) (λ_=>none)
end
section
variable(call:aI)(make:aH)
theorem Ax(b:Int)(x:AV)(xs:List AV)(r:ah)(hr:r=[]\/∃f,r=[(("x":Str),EV.fz f)]):aU call make 624 0 38 (("b",.fz (.int b))::r) [x] (.l xs)=(if xs.length<=1000 then(oP call make .Mult x (.int b)).bind λv=>some ([("b",.fz (.int b)),("x",.fz x)],.l (xs++[v]))else none:Option (ah×Acc)):=by rcases hr with rfl|⟨f,rfl⟩<;>kernel_rfl
theorem AA(C:Addr)(fl:List (Str×AV))(xs:List AV)(r:ah)(hr:r=[]\/∃i,r=[(("x":Str),EV.fz i)]):aU call make 595 0 38 (r) [(.obj C fl)] (.l xs)=(if xs.length<=1000 then bH (.obj C fl) "vars" λf a=>(call f [a] []).bind λv=>some ([("x",.fz (.obj C fl))],.l (xs++[v]))else none:Option (ah×Acc)):=by rcases hr with rfl|⟨i,rfl⟩<;>kernel_rfl
theorem Az(x:AV)(xs:List AV)(r:ah)(hr:r=[]\/∃f,r=[(("x":Str),EV.fz f)]):aU call make 619 0 37 (r) [x] (.l xs)=(if xs.length<=1000 then(gA call make x "min").bind λv=>some ([("x",.fz x)],.l (xs++[v]))else none:Option (ah×Acc)):=by rcases hr with rfl|⟨f,rfl⟩<;>kernel_rfl
theorem Ay(x:AV)(xs:List AV)(r:ah)(hr:r=[]\/∃f,r=[(("x":Str),EV.fz f)]):aU call make 619 1 37 (r) [x] (.l xs)=(if xs.length<=1000 then(gA call make x "max").bind λv=>some ([("x",.fz x)],.l (xs++[v]))else none:Option (ah×Acc)):=by rcases hr with rfl|⟨f,rfl⟩<;>kernel_rfl
theorem pH(d:AV)(C:Addr)(fl:List (Str×AV))(xs:List AV)(r:ah)(hr:r=[]\/∃i,r=[(("node":Str),EV.fz i)]):aU call make 642 0 38 (("var_vals",.fz d)::r) [(.obj C fl)] (.l xs)=(if xs.length<=1000 then bH (.obj C fl) "substitute" λf a=>(call f [a,d] []).bind λv=>some ([("var_vals",.fz d),("node",.fz (.obj C fl))],.l (xs++[v]))else none:Option (ah×Acc)):=by rcases hr with rfl|⟨i,rfl⟩<;>kernel_rfl
theorem Hu(b:Int)(x:AV)(xs:List AV)(r:ah)(hr:r=[]\/∃f,r=[(("node":Str),EV.fz f)]):aU call make 637 0 38 (("b",.fz (.int b))::r) [x] (.l xs)=(if xs.length<=1000 then(ba.eJ (iW x) [.ref 338,.ref 485]).bind λq=>if q=true then(oP call make .Mod x (.int b)).bind λv=>some ([("b",.fz (.int b)),("node",.fz x)],.l (xs++[v]))else some ([("b",.fz (.int b)),("node",.fz x)],.l (xs++[x]))else none:Option (ah×Acc)):=by rcases hr with rfl|⟨f,rfl⟩<;>kernel_rfl
theorem Ht(d:AV)(C:Addr)(fl:List (Str×AV))(xs:List AV)(r:ah)(hr:r=[]\/∃i,r=[(("x":Str),EV.fz i)]):aU call make 647 0 35 (("ctx",.fz d)::r) [(.obj C fl)] (.l xs)=(if xs.length<=1000 then bH (.obj C fl) "render" λf a=>(call f [a,d] []).bind λv=>some ([("ctx",.fz d),("x",.fz (.obj C fl))],.l (xs++[v]))else none:Option (ah×Acc)):=by rcases hr with rfl|⟨i,rfl⟩<;>kernel_rfl
theorem Hs(k:Str)(x:AV)(xs:List (Str×AV))(r:ah)(hr:r=[]\/∃f i,r=[(("k":Str),EV.fz f),(("v":Str),EV.fz i)]):aU call make 671 0 37 (r) [(.str k),x] (.d xs)=(if xs.length<=1000 then(make 338 [x]).bind λfl=>some ([("k",.fz (.str k)),("v",.fz x)],.d (bI xs k (.obj 338 fl)))else none:Option (ah×Acc)):=by rcases hr with rfl|⟨f,i,rfl⟩<;>kernel_rfl
theorem AB(g:Int)(x:AV)(xs:List AV)(r:ah)(hr:r=[]\/∃f,r=[(("mul":Str),EV.fz f)]):aU call make 359 0 37 (("mul_gcd",.fz (.int g))::r) [x] (.l xs)=(if xs.length<=1000 then(oP call make .FloorDiv x (.int g)).bind λv=>some ([("mul_gcd",.fz (.int g)),("mul",.fz x)],.l (xs++[v]))else none:Option (ah×Acc)):=by rcases hr with rfl|⟨f,rfl⟩<;>kernel_rfl
theorem Hw(x:AV)(xs:List AV)(r:ah)(hr:r=[]\/∃f,r=[(("x":Str),EV.fz f)]):aU call make 211 0 40 r [x] (.l xs)=
 ((gA call make x "max").bind λM=>(ib M).bind λq=>if q=true then(if xs.length<=1000 then some ([("x",.fz x)],.l (xs++[x]))else none)else(gA call make x "min").bind λm=>(ib m).bind λq=>if q=true then(if xs.length<=1000 then some ([("x",.fz x)],.l (xs++[x]))else none)else some ([("x",.fz x)],.l xs):Option (ah×Acc)):=by
 rcases hr with rfl|⟨f,rfl⟩<;>kernel_rfl
theorem Hv(m:List (Str×AV))(a:Str)(k:Int)(xs:List AV)(r:ah)(hr:r=[]\/∃f i,r=[(("a":Str),EV.fz f),(("b_sum":Str),EV.fz i)]):aU call make 211 1 40 (("mul_nodes",.fz (.dict m))::r) [.str a,.int k] (.l xs)=
 (if(k !=0)=true then(if xs.length<=1000 then(if(k !=1)=true then(fe m a).bind λx=>(make 485 [x,.int k]).bind λfl=>some ([("mul_nodes",.fz (.dict m)),("a",.fz (.str a)),("b_sum",.fz (.int k))],.l (xs++[.obj 485 fl]))else(fe m a).bind λx=>some ([("mul_nodes",.fz (.dict m)),("a",.fz (.str a)),("b_sum",.fz (.int k))],.l (xs++[x])))else none)else some ([("mul_nodes",.fz (.dict m)),("a",.fz (.str a)),("b_sum",.fz (.int k))],.l xs):Option (ah×Acc)):=by
 rcases hr with rfl|⟨f,i,rfl⟩<;>kernel_rfl
end
section
variable(call:aI)(make:aH)
noncomputable def lR:ah->List AV->Acc->Option (ah×Acc):=m8 ba (Mj 652 0) (kA ba (hZ call make) 39 (Mj 652 0)) (PZ 652 0) 3 1
theorem Aw(x y:AV)(xs:List AV)(r:ah)(hr:r=[]\/∃f,r=[(("y":Str),EV.fz f)]):lR call make (("x",.fz x)::r) [y] (.l xs)=(if xs.length<=1000 then some ([("x",.fz x),("y",.fz y)],.l (xs++[y]))else none:Option (ah×Acc)):=by rcases hr with rfl|⟨f,rfl⟩<;>kernel_rfl
theorem EE(C:Addr)(u:C=284\/C=338\/C=430\/C=485\/C=526\/C=574)(fl:List (Str×AV))(xs:List AV)(r:ah)(hr:r=[]\/∃f i,r=[(("x":Str),EV.fz f),(("y":Str),EV.fz i)]):aU call make 652 0 39 r [.obj C fl] (.l xs)=aE (lR call make) [[.obj C fl]] (aQ r "x" (.fz (.obj C fl))) (.l xs):=by rcases u with rfl|rfl|rfl|rfl|rfl|rfl<;>rcases hr with rfl|⟨f,i,rfl⟩<;>kernel_rfl
theorem Lh(fl:List (Str×AV))(xs:List AV)(r:ah)(hr:r=[]\/∃f i,r=[(("x":Str),EV.fz f),(("y":Str),EV.fz i)]):aU call make 652 0 39 r [.obj 656 fl] (.l xs)=(sC ba (hZ call make) "flat_components" (.obj 656 fl)).bind λv=>u9 v λrows=>aE (lR call make) rows (aQ r "x" (.fz (.obj 656 fl))) (.l xs):=by rcases hr with rfl|⟨f,i,rfl⟩<;>kernel_rfl
end
section
variable(call:aI)(make:aH)
noncomputable abbrev kc(s:AV)(b:Int)(fd rs:List AV)(g d:AV)(r:ah):ah:=("self",.fz s)::("b",.fz (.int b))::("factoring_allowed",.fz (.bool true))::("fully_divided",.ol fd)::("rest",.ol rs)::("_gcd",.fz g)::("divisor",.fz d)::r
theorem Kw(ts:List AV)(mn mx b:Int):fC call make 632 [bZ ts mn mx,.int b] [("factoring_allowed",.bool false)]=(cM call make .Eq (bZ ts mn mx) (.int b)).bind λq=>if q=true then(make 338 [.int 1]).bind λfl=>some (.obj 338 fl)else if(b==1)=true then some (bZ ts mn mx)else(call 192 [bZ ts mn mx,.int b,.bool false] []).bind some:=by kernel_rfl
theorem Kx(ts:List AV)(mn mx b:Int):fC call make 632 [bZ ts mn mx,.int b] []=(cM call make .Eq (bZ ts mn mx) (.int b)).bind λq=>if q=true then(make 338 [.int 1]).bind λfl=>some (.obj 338 fl)else if(b==1)=true then some (bZ ts mn mx)else
 (gA call make (bZ ts mn mx) "flat_components").bind λv=>u9 v λrows=>(bU (ay call make 632 1 191) ["x"] rows (kc (bZ ts mn mx) b [] [] (.int b) (.int 1) [])).bind (wJ call make 632 9 191):=by kernel_rfl
theorem Jq(s:AV)(b:Int)(fd rs:List AV)(g:AV)(d:AV)(C:Addr)(f:C=284\/C=430\/C=526\/C=574)(fl:List (Str×AV))(r:ah)(hr:r=[]\/∃y,r=[(("div":Str),EV.fz y)]):ay call make 632 1 191 (kc s b fd rs g d (("x",.fz (.obj C fl))::r))=
 (if rs.length<=1000 then some (.next (kc s b fd (rs++[.obj C fl]) (.int 1) d (("x",.fz (.obj C fl))::r)))else none:Option fW):=by
 rcases f with rfl|rfl|rfl|rfl<;>rcases hr with rfl|⟨y,rfl⟩<;>kernel_rfl
theorem Jp(s:AV)(b:Int)(fd rs:List AV)(g d:Int)(C:Addr)(fl:List (Str×AV))(k mn mx:Int)(r:ah)(hr:r=[]\/∃y,r=[(("div":Str),EV.fz y)]):ay call make 632 1 191 (kc s b fd rs (.int g) (.int d) (("x",.fz (bG 485 (.obj C fl) k mn mx))::r))=
 ((oP call make .Mod (.int k) (.int b)).bind λm=>(cM call make .Eq m (.int 0)).bind λq=>if q=true then
  (oP call make .FloorDiv (bG 485 (.obj C fl) k mn mx) (.int b)).bind λv=>(if fd.length<=1000 then some (.next (kc s b (fd++[v]) rs (.int g) (.int d) (("x",.fz (bG 485 (.obj C fl) k mn mx))::r)))else none)
   else if rs.length<=1000 then(call 35 [.int g,.int k] []).bind λz=>
    (if(d==1)=true then(oP call make .Mod (.int b) (.int k)).bind λm=>(cM call make .Eq m (.int 0)).bind λq=>if q=true then some (.next (kc s b fd (rs++[bG 485 (.obj C fl) k mn mx]) z (.int k) (("x",.fz (bG 485 (.obj C fl) k mn mx))::r)))
     else some (.next (kc s b fd (rs++[bG 485 (.obj C fl) k mn mx]) z (.int d) (("x",.fz (bG 485 (.obj C fl) k mn mx))::r)))
     else some (.next (kc s b fd (rs++[bG 485 (.obj C fl) k mn mx]) z (.int d) (("x",.fz (bG 485 (.obj C fl) k mn mx))::r))))else none:Option fW):=by
 rcases hr with rfl|⟨y,rfl⟩<;>kernel_rfl
theorem Jo(s:AV)(b:Int)(fd rs:List AV)(g d:Int)(k:Int):ay call make 632 1 191 (kc s b fd rs (.int g) (.int d) [("x",.fz (aO k))])=
 ((oP call make .Mod (.int k) (.int b)).bind λm=>(cM call make .Eq m (.int 0)).bind λq=>if q=true then
  (oP call make .FloorDiv (aO k) (.int b)).bind λv=>(if fd.length<=1000 then some (.next (kc s b (fd++[v]) rs (.int g) (.int d) [("x",.fz (aO k))]))else none)
   else(oP call make .FloorDiv (.int k) (.int b)).bind λe=>(ib e).bind λq=>if q=true then
    (oP call make .FloorDiv (.int k) (.int b)).bind λf=>(make 338 [f]).bind λhl=>if fd.length<=1000 then(oP call make .Mult (.int b) f).bind λw=>(oP call make .Sub (.int k) w).bind λz=>(make 338 [z]).bind λfl=>if rs.length<=1000 then
     (gA call make (.obj 338 fl) "b").bind λu=>(o9 u).bind λq=>if q=true then(gA call make (.obj 338 fl) "b").bind λu=>(call 35 [.int g,u] []).bind λz=>some (.next (kc s b (fd++[.obj 338 hl]) (rs++[.obj 338 fl]) z (.int d) [("x",.fz (.obj 338 fl)),("div",.fz f)]))
      else some (.next (kc s b (fd++[.obj 338 hl]) (rs++[.obj 338 fl]) (.int 1) (.int d) [("x",.fz (.obj 338 fl)),("div",.fz f)]))
     else none else none
   else if rs.length<=1000 then(call 35 [.int g,.int k] []).bind λz=>some (.next (kc s b fd (rs++[aO k]) z (.int d) [("x",.fz (aO k))]))else none:Option fW):=by kernel_rfl
theorem MY(s:AV)(b:Int)(fd rs:List AV)(g d:Int)(r:ah)(hr:r=[]\/(∃x,r=[(("x":Str),EV.fz x)])\/∃x y,r=[(("x":Str),EV.fz x),(("div":Str),EV.fz y)]):cS call make 632 9 191 (kc s b fd rs (.int g) (.int d) r)=
 if decide (g>1)=true then(call 211 [.list fd] []).bind λu=>(call 211 [.list rs] []).bind λw=>bH w "__floordiv__" λf w=>(call f [w,.int g] []).bind λw=>(oP call make .FloorDiv (.int b) (.int g)).bind λe=>(oP call make .FloorDiv w e).bind λw=>(oP call make .Add u w).bind some
 else if decide (d>1)=true then(call 211 [.list fd] []).bind λu=>(call 211 [.list rs] []).bind λw=>bH w "__floordiv__" λf w=>(call f [w,.int d] []).bind λw=>(oP call make .FloorDiv (.int b) (.int d)).bind λe=>(oP call make .FloorDiv w e).bind λw=>(oP call make .Add u w).bind some
 else(call 211 [.list fd] []).bind λu=>(call 211 [.list rs] []).bind λw=>(call 192 [w,.int b] []).bind λw=>(oP call make .Add u w).bind some:=by
 rcases hr with rfl|⟨x,rfl⟩|⟨x,y,rfl⟩<;>kernel_rfl
end
section
variable(call:aI)(make:aH)
noncomputable abbrev xX(xs:List AV)(n:AV)(ns rs us:List AV)(r:ah):ah:=("script",.fz (.list xs))::("count",.fz n)::("nodes",.ol ns)::("rows",.ol rs)::("used",.ol us)::r
noncomputable def lx{R:Type}(iv:AV)(xs:List AV)(K:AV->Option R):Option R:=match(vA iv).i with
 |some j=>(bc xs j).bind K
 |none=>b8 iv λ_=>none
theorem GP(xs:List AV)(k:Int):fC call make 685 [.list xs,.int k] []=(fF xs).bind λn=>(cM call make .Lt (.int k) n).bind λq=>if q=true then(bc xs k).bind some else cS call make 685 1 199 [("script",.fz (.list xs)),("k",.fz (.int k))]:=by kernel_rfl
theorem Er(xs:List AV)(k:Int):cS call make 685 1 199 [("script",.fz (.list xs)),("k",.fz (.int k))]=(ib (.list xs)).bind λq=>if(!q)=true then(oP call make .Mult (.int 7) (.int k)).bind λa=>(oP call make .Add a (.int 3)).bind some else cS call make 685 2 198 [("script",.fz (.list xs)),("k",.fz (.int k))]:=by kernel_rfl
theorem Kt(xs:List AV)(k:Int):cS call make 685 2 198 [("script",.fz (.list xs)),("k",.fz (.int k))]=(fF xs).bind λy=>(oP call make .Mod (.int k) y).bind λf=>lx f xs λa=>(oP call make .Mult (.int 7) (.int k)).bind λb=>(oP call make .Add a b).bind some:=by kernel_rfl
theorem Pd(xs:List AV)(n:Int):fC call make 697 [.list xs,.int n] []=(bU (ay call make 697 0 196) ["k"] [[.int 0],[.int 1],[.int 2]] (xX xs (.int n) [] [] [] [])).bind (wJ call make 697 4 196):=by kernel_rfl
end
section
variable(call:aI)(make:aH)
noncomputable abbrev pr(n:Nat)(σ:ah)(l:List Stmt){R:Type}(kN kC:ah->Option R)(kR:AV->ah->Option R):Option R:=bB ba (hZ call make) (jK 697) 40 n σ l kN kC kR
noncomputable def r0(o:Nat->AV):Nat->ah
 |0=>[]
 |_=>[("span",.fz (o 0)),("low",.fz (o 1)),("first",.fz (o 2)),("second",.fz (o 3)),("row",.fz (o 4))]
noncomputable def r1(o:Nat->AV):Nat->ah
 |0=>[]
 |_=>[("row",.fz (o 4))]
noncomputable def r2(o:Nat->AV):Nat->ah
 |0=>[]
 |_=>[("second",.fz (o 3)),("row",.fz (o 4))]
variable{R:Type}{kN kC:ah->Option R}{kR:AV->ah->Option R}(xs ns rs us:List AV)(n k sp lo fi se:Int)(o:Nat->AV)
noncomputable abbrev mz{A:Type}(f g:Nat->A)(i:Nat):Prop:=f i=g i
theorem n2{A:Type}{f g:Nat->A}(a:mz f g 0)(b:∀n,mz f g (n+1)):∀i,f i=g i
 |0=>a
 |n+1=>b n
noncomputable abbrev s0(ns rs us:List AV)(r:ah):ah:=xX xs (.int n) ns rs us (("k",.fz (.int k))::r)
noncomputable abbrev s1(sp lo fi se:AV)(r:ah):ah:=("span",.fz sp)::("low",.fz lo)::("first",.fz fi)::("second",.fz se)::r
theorem Sj:∀i,pr call make 196 (s0 xs n k ns rs us (r0 o i)) (gx 697 0) kN kC kR=((call 685 [.list xs,.int k] []).bind λa=>(call 692 [a] []).bind λc=>(sB (.builtin "abs") [c]).bind λsp=>(oP call make .Add (.int 3) (.int k)).bind λq=>(call 685 [.list xs,q] []).bind λa=>(call 692 [a] []).bind λc=>(sB (.builtin "abs") [c]).bind λlo=>(oP call make .Add (.int 6) (.int k)).bind λq=>(call 685 [.list xs,q] []).bind λa=>(oP call make .Add sp (.int 1)).bind λb=>(oP call make .Mod a b).bind λfi=>pr call make 193 (s0 xs n k ns rs us (("span",.fz sp)::("low",.fz lo)::("first",.fz fi)::r2 o i)) ((gx 697 0).drop 3) kN kC kR:Option R):=by refine n2 ?_ (λn=>?_)<;>kernel_rfl
theorem Sg(sp lo fi:AV):∀i,pr call make 193 (s0 xs n k ns rs us (("span",.fz sp)::("low",.fz lo)::("first",.fz fi)::r2 o i)) ((gx 697 0).drop 3) kN kC kR=((oP call make .Add (.int 9) (.int k)).bind λq=>(call 685 [.list xs,q] []).bind λa=>(oP call make .Add sp (.int 1)).bind λb=>(oP call make .Mod a b).bind λse=>(call 678 [] []).bind λv=>d7 v λl=>(bc l k).bind λnm=>(oP call make .Add lo sp).bind λh=>(call 347 [nm,lo,h] []).bind λy=>if ns.length<=1000 then pr call make 191 (s0 xs n k (ns++[y]) rs us (s1 sp lo fi se (r1 o i))) ((gx 697 0).drop 5) kN kC kR else none:Option R):=by refine n2 ?_ (λn=>?_)<;>kernel_rfl
noncomputable abbrev BP:List AV:=(List.replicate 4 (.int (lo+fi))).set (1+k).toNat (.int (lo+se))
noncomputable abbrev GO(u:List AV)(kN:ah->Option R):Option R:=if us.length<=1000 then kN (s0 xs n k ns (rs++[.list (BP k lo fi se)]) (us++[.list u]) (s1 (.int sp) (.int lo) (.int fi) (.int se) [("row",.fz (.list (BP k lo fi se)))]))else none
theorem Sh:∀i,pr call make 191 (s0 xs n k ns rs us (s1 (.int sp) (.int lo) (.int fi) (.int se) (r1 o i))) ((gx 697 0).drop 5) kN kC kR=(if 0<=1+k/\1+k<(List.replicate 4 (AV.int (lo+fi))).length/\(List.replicate 4 (AV.int (lo+fi))).length<=1000 then if rs.length<=1000 then if decide (sp>0)=true then GO xs ns rs us n k sp lo fi se [.int k] kN else GO xs ns rs us n k sp lo fi se [] kN else none else none:Option R):=by refine n2 ?_ (λn=>?_)<;>kernel_rfl
end
section
variable(call:aI)(make:aH)
structure Fx where
 (xs ns rs us:List AV)(n k:Int)(o0 o1 o2 o3:AV)
noncomputable abbrev SS(x:Fx)(row:AV)(r:ah):ah:=xX x.xs (.int x.n) x.ns x.rs x.us (("k",.fz (.int x.k))::("span",.fz x.o0)::("low",.fz x.o1)::("first",.fz x.o2)::("second",.fz x.o3)::("row",.fz row)::r)
noncomputable def Sq(z:Nat->AV):Nat->ah
 |0=>[]
 |1=>[("there",.fz (z 0)),("made",.fz (z 2)),("line",.fz (z 3))]
 |2=>[("by",.fz (z 1)),("made",.fz (z 2)),("line",.fz (z 3))]
 |3=>[("there",.fz (z 0)),("made",.fz (z 2)),("line",.fz (z 3)),("by",.fz (z 1))]
 |_=>[("by",.fz (z 1)),("made",.fz (z 2)),("line",.fz (z 3)),("there",.fz (z 0))]
noncomputable def tn(z:Nat->AV):Nat->ah
 |0=>[]
 |i+1=>("number",.fz (z 4))::("kind",.fz (z 5))::("here",.fz (z 6))::("node",.fz (z 7))::("parts",.fz (z 8))::Sq z i
noncomputable abbrev ST(x:Fx)(z:Nat->AV)(i:Nat):ah:=SS x (z 9) (tn z i)
noncomputable def tN(p nu kd he no pa a b c d:AV):Nat->AV
 |0=>a
 |1=>b
 |2=>c
 |3=>d
 |4=>nu
 |5=>kd
 |6=>he
 |7=>no
 |8=>pa
 |_=>p
noncomputable def Md:Nat->Nat
 |0=>1
 |1=>1
 |3=>3
 |_=>4
noncomputable def vk:Nat->Nat
 |0=>2
 |1=>3
 |2=>2
 |3=>3
 |_=>4
theorem n3{A:Type}{f g:Nat->A}(a:mz f g 0)(b:mz f g 1)(c:∀n,mz f g (n+2)):∀i,f i=g i:=n2 a (n2 (f:=λi=>f (i+1)) (g:=λi=>g (i+1)) b c)
theorem n5{A:Type}{f g:Nat->A}(a:mz f g 0)(b:mz f g 1)(c:mz f g 2)(d:mz f g 3)(e:∀n,mz f g (n+4)):∀i,f i=g i:=n3 a b (n3 (f:=λi=>f (i+2)) (g:=λi=>g (i+2)) c d e)
theorem n6{A:Type}{f g:Nat->A}(a:mz f g 0)(b:mz f g 1)(c:mz f g 2)(d:mz f g 3)(e:mz f g 4)(h:∀n,mz f g (n+5)):∀i,f i=g i:=n2 a (n5 (f:=λi=>f (i+1)) (g:=λi=>g (i+1)) b c d e h)
noncomputable def xe:List Stmt:=(gx 697 1).drop 8
variable{R:Type}{kN kC:ah->Option R}{kR:AV->ah->Option R}
variable(x:Fx)(nu kd he no pa a b c d p:AV)(C:Addr)(fl:List (Str×AV))(rw:List AV)
noncomputable def g8(i:Nat)(ln:List AV)(kN:ah->Option R):Option R:=if x.ns.length<=1000 then if x.rs.length<=1000 then if x.us.length<=1000 then kN (ST ⟨x.xs,x.ns++[c],x.rs++[.list ln],x.us++[pa],x.n,x.k,x.o0,x.o1,x.o2,x.o3⟩ (tN p nu kd he no pa a b c (.list ln)) (i+1))else none else none else none
noncomputable abbrev cp(j:Nat)(rows:List (List AV))(r:ah)(K:List AV->Option R):Option R:=(aE (aU call make 697 j 40) rows r (.l [])).bind λp=>(gO p.2).bind K
theorem hd(u:Nat->AV):∀i,pr call make 195 (ST x u i) (gx 697 1) kN kC kR=((oP call make .Add (.int 12) (.int x.k)).bind λq=>(call 685 [.list x.xs,q] []).bind λz=>(oP call make .Mod z (.int 8)).bind λkd=>(oP call make .FloorDiv z (.int 8)).bind λz=>(fF x.ns).bind λl=>(oP call make .Sub l (.int 1)).bind λe=>(fF x.ns).bind λl=>(oP call make .Mod z l).bind λf=>(oP call make .Sub e f).bind λhe=>(fF x.ns).bind λl=>(oP call make .FloorDiv z l).bind λnu=>lx he x.ns λno=>lx he x.rs λp=>lx he x.us λpa=>pr call make 187 (ST x (tN p nu kd he no pa (u 0) (u 1) (u 2) (u 3)) (i-1+1)) xe kN kC kR:Option R):=by refine n6 ?_ ?_ ?_ ?_ ?_ (λn=>?_)<;>kernel_rfl
theorem b0:∀i,pr call make 187 (ST x (tN (.list rw) nu (.int 0) he (.obj C fl) pa a b c d) (i+1)) xe kN kC kR=((fF x.ns).bind λl=>(oP call make .Sub l (.int 1)).bind λq=>(oP call make .Add nu (.int 1)).bind λz=>(fF x.ns).bind λl=>(oP call make .Mod z l).bind λf=>(oP call make .Sub q f).bind λa=>lx a x.ns λy=>(oP call make .Add (.obj C fl) y).bind λc=>lx a x.rs λy=>d7 y λys=>cp call make 0 (qR rw ys) [("kind",.fz (.int 0))] λu=>lx a x.us λy=>(oP call make .Add pa y).bind λpa=>g8 x nu (.int 0) he (.obj C fl) pa a b c (.list rw) (Md i) u kN:Option R):=by refine n5 ?_ ?_ ?_ ?_ (λn=>?_)<;>kernel_rfl
theorem b1:∀i,pr call make 187 (ST x (tN (.list rw) nu (.int 1) he (.obj C fl) pa a b c d) (i+1)) xe kN kC kR=((fF x.ns).bind λl=>(oP call make .Sub l (.int 1)).bind λq=>(oP call make .Add nu (.int 1)).bind λz=>(fF x.ns).bind λl=>(oP call make .Mod z l).bind λf=>(oP call make .Sub q f).bind λa=>lx a x.ns λy=>(oP call make .Sub (.obj C fl) y).bind λc=>lx a x.rs λy=>d7 y λys=>cp call make 0 (qR rw ys) [("kind",.fz (.int 1))] λu=>lx a x.us λy=>(oP call make .Add pa y).bind λpa=>g8 x nu (.int 1) he (.obj C fl) pa a b c (.list rw) (Md i) u kN:Option R):=by refine n5 ?_ ?_ ?_ ?_ (λn=>?_)<;>kernel_rfl
theorem b2:∀i,pr call make 187 (ST x (tN (.list rw) nu (.int 2) he (.obj C fl) pa a b c d) (i+1)) xe kN kC kR=((call 692 [nu] []).bind λz=>(oP call make .Add z (.int 2)).bind λb=>(oP call make .Mult (.obj C fl) b).bind λc=>cp call make 1 (bf rw) [("by",.fz b)] λf=>g8 x nu (.int 2) he (.obj C fl) pa a b c (.list rw) (vk i) f kN:Option R):=by refine n5 ?_ ?_ ?_ ?_ (λn=>?_)<;>kernel_rfl
theorem b3:∀i,pr call make 187 (ST x (tN (.list rw) nu (.int 3) he (.obj C fl) pa a b c d) (i+1)) xe kN kC kR=((call 692 [nu] []).bind λz=>(oP call make .Add z (.int 1)).bind λz=>(sB (.builtin "abs") [z]).bind λz=>(oP call make .Add (.int 1) z).bind λb=>(oP call make .FloorDiv (.obj C fl) b).bind λc=>cp call make 2 (bf rw) [("by",.fz b)] λf=>g8 x nu (.int 3) he (.obj C fl) pa a b c (.list rw) (vk i) f kN:Option R):=by refine n5 ?_ ?_ ?_ ?_ (λn=>?_)<;>kernel_rfl
theorem b4:∀i,pr call make 187 (ST x (tN (.list rw) nu (.int 4) he (.obj C fl) pa a b c d) (i+1)) xe kN kC kR=((call 692 [nu] []).bind λz=>(oP call make .Add z (.int 1)).bind λz=>(sB (.builtin "abs") [z]).bind λz=>(oP call make .Add (.int 1) z).bind λb=>(oP call make .Mod (.obj C fl) b).bind λc=>cp call make 3 (bf rw) [("by",.fz b)] λf=>g8 x nu (.int 4) he (.obj C fl) pa a b c (.list rw) (vk i) f kN:Option R):=by refine n5 ?_ ?_ ?_ ?_ (λn=>?_)<;>kernel_rfl
theorem b5:∀i,pr call make 187 (ST x (tN (.list rw) nu (.int 5) he (.obj C fl) pa a b c d) (i+1)) xe kN kC kR=((call 692 [nu] []).bind λz=>(oP call make .Add z (.int 2)).bind λb=>(oP call make .Add (.obj C fl) b).bind λc=>cp call make 4 (bf rw) [("by",.fz b)] λf=>g8 x nu (.int 5) he (.obj C fl) pa a b c (.list rw) (vk i) f kN:Option R):=by refine n5 ?_ ?_ ?_ ?_ (λn=>?_)<;>kernel_rfl
theorem b6:∀i,pr call make 187 (ST x (tN (.list rw) nu (.int 6) he (.obj C fl) pa a b c d) (i+1)) xe kN kC kR=((call 692 [nu] []).bind λz=>(oP call make .Add z (.int 2)).bind λb=>(nG call make (.obj C fl)).bind λz=>(oP call make .Add z b).bind λc=>cp call make 5 (bf rw) [("by",.fz b)] λf=>g8 x nu (.int 6) he (.obj C fl) pa a b c (.list rw) (vk i) f kN:Option R):=by refine n5 ?_ ?_ ?_ ?_ (λn=>?_)<;>kernel_rfl
theorem b7:∀i,pr call make 187 (ST x (tN (.list rw) nu (.int 7) he (.obj C fl) pa a b c d) (i+1)) xe kN kC kR=((bc rw 2).bind λq=>(oP call make .FloorDiv nu (.int 2)).bind λz=>(call 692 [z] []).bind λz=>(oP call make .Add q z).bind λb=>(oP call make .Mod nu (.int 2)).bind λz=>(cM call make .Eq z (.int 0)).bind λq=>if q=true then(call 359 [(.obj C fl),b] []).bind λc=>cp call make 6 (bf rw) [("by",.fz b)] λf=>g8 x nu (.int 7) he (.obj C fl) pa a b c (.list rw) (vk i) f kN else(call 366 [(.obj C fl),b] []).bind λc=>cp call make 7 (bf rw) [("by",.fz b)] λf=>g8 x nu (.int 7) he (.obj C fl) pa a b c (.list rw) (vk i) f kN:Option R):=by refine n5 ?_ ?_ ?_ ?_ (λn=>?_)<;>kernel_rfl
end
section
variable(call:aI)(make:aH)
noncomputable def cJ:Nat->AV->AV->Option AV
 |0=>oP call make .Mult
 |1=>oP call make .FloorDiv
 |2=>oP call make .Mod
 |_=>oP call make .Add
theorem P0{j:Nat}(f:j<4)(b:Int)(x:AV)(xs:List AV){σ:ah}(i:σ=[(("by":Str),EV.fz (.int b))]\/∃y,σ=[(("by":Str),EV.fz (.int b)),(("x":Str),EV.fz y)]):aU call make 697 (j+1) 40 σ [x] (.l xs)=(if xs.length<=1000 then(cJ call make j x (.int b)).bind λv=>some ([("by",.fz (.int b)),("x",.fz x)],.l (xs++[v]))else none:Option (ah×Acc)):=by rcases i with rfl|⟨y,rfl⟩<;>apply NM f<;>kernel_rfl
theorem Lf(b:Int)(x:AV)(xs:List AV){σ:ah}(f:σ=[(("by":Str),EV.fz (.int b))]\/∃y,σ=[(("by":Str),EV.fz (.int b)),(("x":Str),EV.fz y)]):aU call make 697 5 40 σ [x] (.l xs)=(if xs.length<=1000 then(oP call make .Sub (.int b) x).bind λv=>some ([("by",.fz (.int b)),("x",.fz x)],.l (xs++[v]))else none:Option (ah×Acc)):=by rcases f with rfl|⟨y,rfl⟩<;>kernel_rfl
noncomputable def cQ:Bool->CmpOp
 |false=> .Lt
 |true=> .GtE
theorem Lg(z:Bool)(b:Int)(x:AV)(xs:List AV){σ:ah}(f:σ=[(("by":Str),EV.fz (.int b))]\/∃y,σ=[(("by":Str),EV.fz (.int b)),(("x":Str),EV.fz y)]):aU call make 697 (6+z.toNat) 40 σ [x] (.l xs)=(if xs.length<=1000 then(cM call make (cQ z) x (.int b)).bind λq=>if q=true then some ([("by",.fz (.int b)),("x",.fz x)],.l (xs++[.int 1]))else some ([("by",.fz (.int b)),("x",.fz x)],.l (xs++[.int 0]))else none:Option (ah×Acc)):=by rcases f with rfl|⟨y,rfl⟩<;>cases z<;>kernel_rfl
theorem Hr(b:Int)(x y:AV)(xs:List AV)(r:ah)(hr:r=[]\/∃f i,r=[(("x":Str),EV.fz f),(("y":Str),EV.fz i)]):aU call make 697 0 40 (("kind",.fz (.int b))::r) [x,y] (.l xs)=(if xs.length<=1000 then(cM call make .Eq (.int b) (.int 0)).bind λq=>if q=true then(oP call make .Add x y).bind λv=>some ([("kind",.fz (.int b)),("x",.fz x),("y",.fz y)],.l (xs++[v]))else(oP call make .Sub x y).bind λv=>some ([("kind",.fz (.int b)),("x",.fz x),("y",.fz y)],.l (xs++[v]))else none:Option (ah×Acc)):=by rcases hr with rfl|⟨f,i,rfl⟩<;>kernel_rfl
theorem Kr(x:Fx)(rw:AV):∀m,m<4->cS call make 697 4 196 (SS ⟨x.xs,x.ns,x.rs,x.us,((m+3:Nat):Int),x.k,x.o0,x.o1,x.o2,x.o3⟩ rw [])=(bU (ay call make 697 1 195) ["k"] ((List.range (m+3)).map λ(i:Nat)=>[.int i]) (SS ⟨x.xs,x.ns,x.rs,x.us,((m+3:Nat):Int),x.k,x.o0,x.o1,x.o2,x.o3⟩ rw [])).bind (wJ call make 697 5 195):=by intro m f;apply NM f<;>kernel_rfl
theorem Ks(x:Fx)(z:Nat->AV):∀i,cS call make 697 5 195 (ST x z (i+1))=some (.tup [.list x.ns,.list x.rs,.list x.us]):=by refine n5 ?_ ?_ ?_ ?_ (λn=>?_)<;>kernel_rfl
end
theorem lc{α:Type}{motive:List α->Prop}(l:List α)(h0:motive [])(h1:∀x,motive [x])(h2:∀x y z,motive (x::y::z)):motive l:=match l with
 |[]=>h0
 |[x]=>h1 x
 |x::y::z=>h2 x y z
structure Sem where
 val:(Nat->Int)->Int
 mn:Int
 mx:Int
 ph:Nat
 am:Nat
 vs:Nat->Bool
structure Tm where
 x:AV
 s:Sem
 t:Str
 k:Int
structure Gv where
 lo:Nat->Int
 hi:Nat->Int
noncomputable def XX:Nat:=2^62
noncomputable def Gv.In(g:Gv)(ρ:Nat->Int):Prop:=∀i,g.lo i<=ρ i/\ρ i<=g.hi i
structure Gv.Ok(g:Gv):Prop where
 pos:∀i,0<=g.lo i
 le:∀i,g.lo i<=g.hi i
 sm:∀i,g.hi i<=XX
noncomputable def B7:Nat->Str
 |0=>"a"
 |1=>"b"
 |_=>"c"
noncomputable def wk(k:Int):Nat:=if k=1 then 1 else 2
noncomputable def bC(k:Int):Nat:=if 0<=k then k.natAbs else XX*k.natAbs
noncomputable def dU(t:Tm):Int:=if 0<=t.k then t.s.mn*t.k else t.s.mx*t.k
noncomputable def d9(t:Tm):Int:=if 0<=t.k then t.s.mx*t.k else t.s.mn*t.k
noncomputable def ao(l:List Int):Int:=l.foldr (· + ·) 0
noncomputable def aq(l:List Nat):Nat:=l.foldr (· + ·) 0
noncomputable def nS(ts:List Tm)(r:Int):Sem where
 val ρ:=ao (ts.map λt=>t.s.val ρ*t.k)+r
 mn:=ao (ts.map dU)+r
 mx:=ao (ts.map d9)+r
 ph:=aq (ts.map λt=>wk t.k*t.s.ph)
 am:=aq (ts.map λt=>bC t.k*t.s.am)
 vs j:=ts.any λt=>t.s.vs j
noncomputable def nP(ts:List Tm):Nat:=aq (ts.map λt=>t.s.ph)
noncomputable def md:List Tm->Nat
 |[]=>0
 |[t]=>if t.k=1 then 1 else 0
 |_=>1
noncomputable def mm(ts:List Tm)(r:Int):Nat:=match ts with
 |[]=>0
 |[t]=>if t.k=1\/r≠0 then 1 else 0
 |_=>1
noncomputable def gr(g:Gv)(i:Nat):Sem:=⟨λρ=>ρ i,g.lo i,g.hi i,2,1,λj=>j==i⟩
noncomputable def cL(ts:List Tm)(r c:Int):Sem:=⟨λρ=>(nS ts r).val ρ/c,(nS ts r).mn/c,(nS ts r).mx/c,(nS ts r).ph+md ts,c.natAbs*(nS ts r).am,(nS ts r).vs⟩
noncomputable def eW(ts:List Tm)(r c:Int):Sem:=⟨λρ=>(nS ts r).val ρ%c,0,c-1,(nS ts r).ph+mm ts r,(nS ts r).am,(nS ts r).vs⟩
noncomputable def oB(ts:List Tm)(c:Int):Sem:=⟨λρ=>if(nS ts 0).val ρ<c then 1 else 0,0,1,nP ts+2,(nS ts 0).am,(nS ts 0).vs⟩
noncomputable def bz(t:Tm):AV:=if t.k=1 then t.x else bG 485 t.x t.k (dU t) (d9 t)
noncomputable def m6(t:Tm):Str:=if t.k=1 then t.t else("(":Str)++t.t++("*":Str)++bb t.k++(")":Str)
noncomputable def dQ(ts:List Tm)(r:Int):List AV:=ts.map bz++(if r=0 then[]else[aO r])
noncomputable def rN(ts:List Tm)(r:Int):List Str:=ts.map m6++(if r=0 then[]else[bb r])
noncomputable def nX(ts:List Tm)(r:Int):AV:=match dQ ts r with
 |[]=>aO 0
 |[x]=>x
 |xs=>bZ xs (nS ts r).mn (nS ts r).mx
noncomputable def nT(ts:List Tm)(r:Int):Str:=match rN ts r with
 |[]=>bb 0
 |[x]=>x
 |xs=>("(":Str)++Txt.join ("+":Str) (dn xs)++(")":Str)
noncomputable def dm(g:Gv)(i:Nat):AV:=qV (B7 i) (g.lo i) (g.hi i)
noncomputable def aN(g:Gv)(i:Nat):Str:=B7 i++("[":Str)++bb (g.lo i)++("-":Str)++bb (g.hi i)++("":Str)++("]":Str)
structure Mn(g:Gv)(ts:List Tm)(r:Int):Prop where
 nz:∀t∈ts,t.k≠0
 nd:(ts.map (·.t)).Nodup
 am:(nS ts r).am<=2^800
 vb:r.natAbs<=2^880
class inductive At(g:Gv):AV->Sem->Str->Prop
 |var (i:Nat):i<3->g.lo i<g.hi i->At g (dm g i) (gr g i) (aN g i)
 |div (ts:List Tm) (r c:Int):ts≠[]->Mn g ts r->(∀t∈ts,At g t.x t.s t.t)->2<=c->(cL ts r c).am<=2^800/\r.natAbs<=2^870->0<=(nS ts r).mn->(cL ts r c).mn<(cL ts r c).mx->(cL ts r c).mx<=XX*(cL ts r c).am->
  At g (bG 526 (nX ts r) c (cL ts r c).mn (cL ts r c).mx) (cL ts r c) (("(":Str)++nT ts r++("//":Str)++bb c++(")":Str))
 |mod (ts:List Tm) (r c:Int):ts≠[]->Mn g ts r->(∀t∈ts,At g t.x t.s t.t)->2<=c->c<=XX/\r.natAbs<=2^870->0<=(nS ts r).mn->
  At g (bG 574 (nX ts r) c 0 (c-1)) (eW ts r c) (("(":Str)++nT ts r++("%":Str)++bb c++(")":Str))
 |lt (ts:List Tm) (c:Int):ts≠[]->Mn g ts 0->(∀t∈ts,At g t.x t.s t.t)->(nS ts 0).mn<c->c<=(nS ts 0).mx->
  At g (bG 430 (nX ts 0) c 0 1) (oB ts c) (("(":Str)++nT ts 0++("<":Str)++bb c++(")":Str))
structure Nd(g:Gv)(ts:List Tm)(r:Int):Prop where
 p:Mn g ts r
 a:∀t∈ts,At g t.x t.s t.t
theorem ak(a:Int)(l:List Int):ao (a::l)=a+ao l:=rfl
theorem au(a:Nat)(l:List Nat):aq (a::l)=a+aq l:=rfl
theorem ci(a b:List Int):ao (a++b)=ao a+ao b:=by
 induction a with
 |nil=>simp[ao]
 |cons x a ih=>rw[List.cons_append,ak,ak,ih,W0]
theorem bN(a b:List Nat):aq (a++b)=aq a+aq b:=by
 induction a with
 |nil=>simp[aq]
 |cons x a ih=>rw[List.cons_append,au,au,ih,Nat.add_assoc]
theorem aR{α}{f:α->Nat}{l:List α}{t:α}(h:t∈l):f t<=aq (l.map f):=by
 induction l with
 |nil=>cases h
 |cons a l ih=>
  rw[Vn,au];rcases VN.mp h with rfl|h
  . lia
  . have:=ih h;(clear h;lia)
theorem bM{α}{f g:α->Nat}{l:List α}(h:∀t∈l,f t<=g t):aq (l.map f)<=aq (l.map g):=by
 induction l with
 |nil=>exact Vt _
 |cons a l ih=>rw[Vn,Vn,au,au];have:=h a Vm;have:=ih λt ht=>h t (Vw _ ht);lia
theorem je{α}{f g:α->Int}{l:List α}(h:∀t∈l,f t<=g t):ao (l.map f)<=ao (l.map g):=by
 induction l with
 |nil=>exact WH _
 |cons a l ih=>rw[Vn,Vn,ak,ak];have:=h a Vm;have:=ih λt ht=>h t (Vw _ ht);lia
theorem Cp{α}{f g:α->Int}{l:List α}(hl:l≠[])(h:∀t∈l,f t<g t):ao (l.map f)<ao (l.map g):=by
 induction l using List.casesOn with
 |nil=>exact Vu rfl hl
 |cons a l=>rw[Vn,Vn,ak,ak];have:=h a Vm;have:=je (f:=f) (g:=g) (l:=l) λt ht=>Vs (h t (Vw _ ht));lia
noncomputable abbrev aF(k:Nat):aI:=(An k).call
noncomputable abbrev aV(k:Nat):aH:=(An k).make
noncomputable def Ev(d:Nat)(f:Addr)(xs:List AV)(kx:List (Str×AV))(r:AV):Prop:=∀k,d<=k->aF k f xs kx=some r
noncomputable def Mk(d:Nat)(C:Addr)(xs:List AV)(fl:List (Str×AV)):Prop:=∀k,d<=k->aV k C xs=some fl
noncomputable def Op(d:Nat)(o:Operator)(x y z:AV):Prop:=∀k,d<=k->oP (aF k) (aV k) o x y=some z
noncomputable def Ga(d:Nat)(x:AV)(nm:Str)(z:AV):Prop:=∀k,d<=k->gA (aF k) (aV k) x nm=some z
theorem Ev.mono{d d' f xs kx r}(h:Ev d f xs kx r)(hd:d<=d'):Ev d' f xs kx r:=λk i=>h k (Vg hd i)
theorem Op.mono{d d' o x y z}(h:Op d o x y z)(hd:d<=d'):Op d' o x y z:=λk f=>h k (Vg hd f)
theorem Am{k:Nat}(h:2<=k):An k=hZ (aF k) (aV k):=by obtain⟨k,rfl⟩:=FB (n:=k) (by omega);rfl
theorem Av{f xs kx r}{k:Nat}(u:2<=k)(i:f≠35/\f≠78)(h:fC (aF k) (aV k) f xs kx=some r):aF (k+1) f xs kx=some r:=by
 have e:aF (k+1) f xs kx=match Fn (An k) f xs kx with
  |some r=>some r
  |none=>callC ba (gE) (An k) f xs kx:=rfl
 have z:Fn (An k) f xs kx=none:=by unfold Fn;rw[Vk i.1,Vk i.2,ite_self]
 rw[e,z];exact Am u▸h
theorem aw{d f xs kx r}(hd:2<=d)(i:f≠35/\f≠78)(h:∀k,d<=k->fC (aF k) (aV k) f xs kx=some r):Ev (d+1) f xs kx r:=λk u=>by obtain⟨k,rfl⟩:=dW (n:=k) (by(clear hd;lia));exact Av (by lia) i (h k (by lia))
theorem mw{d C xs fl}(hd:2<=d)(h:∀k,d<=k->gC (aF k) (aV k) C xs=some fl):Mk (d+2) C xs fl:=λk f=>by obtain⟨k,rfl⟩:=FB (n:=k) (by(clear hd;lia));have e:aV (k+2) C xs=rF ba (gE) (An k) C xs:=rfl;rw[e];exact Am (k:=k) (by lia)▸h k (by lia)
section
variable{g:Gv}{x:AV}{s:Sem}{t:Str}{ts:List Tm}{r:Int}
structure SB(s:Sem):Prop where
 mn:0<=s.mn
 lt:s.mn<s.mx
 mx:s.mx<=(XX*s.am:Nat)
 am:1<=s.am
 ph:2<=s.ph
theorem gm(k:Int):1<=wk k:=by unfold wk;split<;>decide
theorem mX(k:Int):wk k<=2:=by unfold wk;split<;>decide
theorem fb{k:Int}(h:k≠0):1<=bC k:=by
 have p:=Int.natAbs_pos.mpr h;unfold bC;split
 . exact p
 . exact Vg p (Wi _ (by decide))
theorem cz(hn:ts≠[])(nz:∀t∈ts,t.k≠0)(h:∀t∈ts,SB t.s):1<=(nS ts r).am:=by
 induction ts using List.casesOn with
 |nil=>exact Vu rfl hn
 |cons a l=>have i:bC a.k*a.s.am<=(nS (a::l) r).am:=aR (f:=λt:Tm=>bC t.k*t.s.am) Vm;have:=Wq (fb (nz a Vm)) (h a Vm).am;lia
theorem ca(hn:ts≠[])(h:∀t∈ts,SB t.s):2<=(nS ts r).ph:=by
 induction ts using List.casesOn with
 |nil=>exact Vu rfl hn
 |cons a l=>have i:wk a.k*a.s.ph<=(nS (a::l) r).ph:=aR (f:=λt:Tm=>wk t.k*t.s.ph) Vm;have:=Wq (gm a.k) (h a Vm).ph;lia
theorem At.sb(f:g.Ok)(h:At g x s t):SB s:=by
 induction h with
 |var i hi hl=>refine⟨f.pos i,hl,?_,Vt _,Vt _⟩;have:=f.sm i;simpa[gr]using this
 |div ts r c hn hp ha hc jx iO ie sW ih=>
  have a1:=cz (r:=r) hn hp.nz ih;have p1:=ca (r:=r) hn ih;refine⟨Int.ediv_nonneg iO (by lia),ie,by exact_mod_cast sW,?_,?_⟩
  . show 1<=c.natAbs*(nS ts r).am;exact Wq (Int.natAbs_pos.mpr (Wd (WC (by decide) hc))) a1
  . show 2<=(nS ts r).ph+md ts;lia
 |mod ts r c hn hp ha hc nv iO ih=>have a1:=cz (r:=r) hn hp.nz ih;have p1:=ca (r:=r) hn ih;refine⟨WH _,Int.sub_pos_of_lt (WC (by decide) hc),?_,a1,show 2<=(nS ts r).ph+mm ts r by lia⟩;show c-1<=((XX*(nS ts r).am:Nat):Int);exact VQ (Int.sub_le_self c (by decide)) (VQ nv.1 (Wr.mpr (Wu _ a1)))
 |lt ts c hn hp ha h1 h2 ih=>have a1:=cz (r:=0) hn hp.nz ih;refine⟨WH _,Int.zero_lt_one,?_,a1,show 2<=nP ts+2 by lia⟩;show 1<=((XX*(nS ts 0).am:Nat):Int);exact Wr.mpr (Wq (by decide:1<=XX) a1)
end
set_option tactic.hygienic true
section
variable{g:Gv}{x:AV}{s:Sem}{t:Str}{ts:List Tm}{r:Int}{ρ:Nat->Int}
noncomputable def Bn(s:Sem)(ρ:Nat->Int):Prop:=s.mn<=s.val ρ/\s.val ρ<=s.mx
theorem xD{t:Tm}(h:Bn t.s ρ):dU t<=t.s.val ρ*t.k/\t.s.val ρ*t.k<=d9 t:=by
 unfold dU d9;split
 . rename_i q;exact⟨Wy h.1 q,Wy h.2 q⟩
 . rename_i q;have q:t.k<=0:=by lia
   exact⟨Int.mul_le_mul_of_nonpos_right h.2 q,Int.mul_le_mul_of_nonpos_right h.1 q⟩
theorem I5(h:∀t∈ts,Bn t.s ρ):Bn (nS ts r) ρ:=by have h1:=je (f:=dU) (g:=λt:Tm=>t.s.val ρ*t.k) (l:=ts) λt ht=>(xD (h t ht)).1;have h2:=je (f:=λt:Tm=>t.s.val ρ*t.k) (g:=d9) (l:=ts) λt ht=>(xD (h t ht)).2;exact⟨show ao (ts.map dU)+r<=ao (ts.map λt=>t.s.val ρ*t.k)+r by lia,show ao (ts.map λt=>t.s.val ρ*t.k)+r<=ao (ts.map d9)+r by lia⟩
theorem rE(hn:ts≠[])(nz:∀t∈ts,t.k≠0)(h:∀t∈ts,SB t.s):(nS ts r).mn<(nS ts r).mx:=by
 have h1:=Cp (f:=dU) (g:=d9) (l:=ts) hn λt ht=>by
  have hl:=(h t ht).lt;have i:=nz t ht;unfold dU d9;split
  . exact Int.mul_lt_mul_of_pos_right hl (by lia)
  . exact Int.mul_lt_mul_of_neg_right hl (by(clear i;lia))
 show ao (ts.map dU)+r<ao (ts.map d9)+r;lia
theorem At.bn(f:g.Ok)(h:At g x s t)(hr:g.In ρ):Bn s ρ:=by
 induction h with
 |var i hi hl=>exact hr i
 |div ts r c hn hp ha hc jx iO ie sW ih=>have b:=I5 (r:=r) ih;exact⟨Xc (by exact Vs hc) b.1,Xc (by lia) b.2⟩
 |mod ts r c hn hp ha hc nv iO ih=>exact⟨Wc _ (by lia),show(nS ts r).val ρ%c<=c-1 by have:=V5 ((nS ts r).val ρ) (show 0<c by lia);(clear nv hc;lia)⟩
 |lt ts c hn hp ha h1 h2 ih=>show(0:Int)<=(if(nS ts 0).val ρ<c then 1 else 0)/\(if(nS ts 0).val ρ<c then 1 else 0)<=(1:Int);split<;>decide
theorem Nd.bn(f:g.Ok)(h:Nd g ts r)(hr:g.In ρ):Bn (nS ts r) ρ:=I5 λt ht=>(h.a t ht).bn f hr
theorem Nd.lt(f:g.Ok)(h:Nd g ts r)(hn:ts≠[]):(nS ts r).mn<(nS ts r).mx:=rE hn h.p.nz λt ht=>(h.a t ht).sb f
noncomputable def Qk(s:Sem):Prop:=∀ρ mH:Nat->Int,(∀i,s.vs i=true->ρ i=mH i)->s.val ρ=s.val mH
theorem oU(h:∀t∈ts,Qk t.s):Qk (nS ts r):=λρ f e=>by
 have:∀l:List Tm,(∀t∈l,t∈ts)->ao (l.map λt=>t.s.val ρ*t.k)=ao (l.map λt=>t.s.val f*t.k):=by
  intro l hl
  induction l with
  |nil=>rfl
  |cons a l ih=>rw[Vn,Vn,ak,ak,ih λt ht=>hl t (Vw _ ht)];have u:=hl a Vm;rw[h a u ρ f λi hi=>e i (VX.mpr ⟨a,u,hi⟩)]
 show ao _+r=ao _+r;rw[this ts λt ht=>ht]
theorem At.dep(h:At g x s t):Qk s:=by
 induction h with
 |var i hi hl=>exact λρ f e=>e i (by simp[gr])
 |div ts r c hn hp ha hc jx iO ie sW ih=>exact λρ f e=>by show _/c=_/c;rw[oU ih ρ f e]
 |mod ts r c hn hp ha hc nv iO ih=>exact λρ f e=>by show _%c=_%c;rw[oU ih ρ f e]
 |lt ts c hn hp ha h1 h2 ih=>exact λρ f e=>by show(if _<c then(1:Int)else 0)=if _<c then 1 else 0;rw[oU ih ρ f e]
noncomputable def Vr(g:Gv)(s:Sem):Prop:=(∀i,s.vs i=true->i<3/\g.lo i<g.hi i)/\∃i,s.vs i=true
theorem yF(hn:ts≠[])(h:∀t∈ts,Vr g t.s):Vr g (nS ts r):=by
 refine⟨λi hi=>?_,?_⟩
 . refine ab (VX.mp hi) λt ht e=>?_;exact(h t ht).1 i e
 . induction ts using List.casesOn with
   |nil=>exact Vu rfl hn
   |cons a l=>refine ax ((h a Vm).2) λi hi=>?_;exact⟨i,VX.mpr ⟨a,Vm,hi⟩⟩
theorem At.vr(h:At g x s t):Vr g s:=by
 induction h with
 |var i hi hl=>exact⟨λj f=>by(have:j=i:=by simpa[gr]using f);subst this;exact⟨hi,hl⟩,i,by simp[gr]⟩
 |div ts r c hn hp ha hc jx iO ie sW ih=>exact yF (r:=r) hn ih
 |mod ts r c hn hp ha hc nv iO ih=>exact yF (r:=r) hn ih
 |lt ts c hn hp ha h1 h2 ih=>exact yF (r:=0) hn ih
end
set_option tactic.hygienic false
set_option tactic.hygienic true
section
section
variable(call:aI)(make:aH)
theorem GE(e:Str)(lo hi:Int):gA call make (qV e lo hi) "min"=some (.int lo)/\gA call make (qV e lo hi) "max"=some (.int hi):=⟨by kernel_rfl,by kernel_rfl⟩
theorem t7(c:Int):gA call make (aO c) "min"=some (.int c)/\gA call make (aO c) "max"=some (.int c):=⟨by kernel_rfl,by kernel_rfl⟩
theorem GF(xs:List AV)(mn mx:Int):gA call make (bZ xs mn mx) "min"=some (.int mn)/\gA call make (bZ xs mn mx) "max"=some (.int mx):=⟨by kernel_rfl,by kernel_rfl⟩
theorem GK(a:AV)(b mn mx:Int):gA call make (bG 430 a b mn mx) "min"=some (.int mn)/\gA call make (bG 430 a b mn mx) "max"=some (.int mx):=⟨by kernel_rfl,by kernel_rfl⟩
theorem GJ(a:AV)(b mn mx:Int):gA call make (bG 485 a b mn mx) "min"=some (.int mn)/\gA call make (bG 485 a b mn mx) "max"=some (.int mx):=⟨by kernel_rfl,by kernel_rfl⟩
theorem GI(a:AV)(b mn mx:Int):gA call make (bG 526 a b mn mx) "min"=some (.int mn)/\gA call make (bG 526 a b mn mx) "max"=some (.int mx):=⟨by kernel_rfl,by kernel_rfl⟩
theorem GH(a:AV)(b mn mx:Int):gA call make (bG 574 a b mn mx) "min"=some (.int mn)/\gA call make (bG 574 a b mn mx) "max"=some (.int mx):=⟨by kernel_rfl,by kernel_rfl⟩
end
variable{g:Gv}{x:AV}{s:Sem}{t:Str}{ts:List Tm}{r:Int}
noncomputable def Bd(x:AV)(mn mx:Int):Prop:=∀call make,gA call make x "min"=some (.int mn)/\gA call make x "max"=some (.int mx)
noncomputable def Ig(C:Addr):Prop:=C=284\/C=430\/C=526\/C=574
theorem At.obj(h:At g x s t):∃C fl,x= .obj C fl/\Ig C:=by
 induction h with
 |var i hi hl=>exact jn _ _ rfl (.inl rfl)
 |div=>exact jn _ _ rfl (.inr (.inr (.inl rfl)))
 |mod=>exact jn _ _ rfl (.inr (.inr (.inr rfl)))
 |lt=>exact jn _ _ rfl (.inr (.inl rfl))
theorem At.bd(h:At g x s t):Bd x s.mn s.mx:=λcall make=>by
 induction h with
 |var i hi hl=>exact GE ..
 |div=>exact GI ..
 |mod=>exact GH ..
 |lt=>exact GK ..
theorem xC{t:Tm}(h:At g t.x t.s t.t):Bd (bz t) (dU t) (d9 t):=by
 unfold bz;split
 . rename_i q;have:=h.bd;unfold dU d9;rw[q];simpa using this
 . exact λcall make=>GJ ..
theorem lH(h:∀t∈ts,At g t.x t.s t.t):Bd (nX ts r) (nS ts r).mn (nS ts r).mx:=by
 unfold nX
 induction q:dQ ts r using lc with
 |h0=>
  unfold dQ at q;refine af (List.append_eq_nil_iff.mp q) λq1 q2=>?_;have q1:=WL.mp q1;subst q1;have:r=0:=Wp λz=>by rw[Vk z]at q2;injection q2
  subst this;exact λcall make=>t7 ..
 |h1 x=>
  unfold dQ at q;by_cases hr:r=0
  . rw[Vi hr,WB]at q;refine ab (List.map_eq_singleton_iff.mp q) λt f i=>?_;subst f;subst i;subst hr;have:=xC (h t Vm);simpa[nS,ao]using this
  . rw[Vk hr]at q;have:ts=[]:=by
     induction ts using List.casesOn with
     |nil=>rfl
     |cons a l=>simp at q
    subst this;simp at q;subst q;intro call make;have:=t7 call make r;simpa[nS,ao]using this
 |h2 x y l=>exact λcall make=>GF ..
end
set_option tactic.hygienic false
section
variable{g:Gv}{x:AV}{s:Sem}{t:Str}{ts:List Tm}{r:Int}
theorem EP(n:Nat)(e:Str)(lo hi:Int):mC (n+1) (qV e lo hi)=some (e++("[":Str)++bb lo++("-":Str)++bb hi++("":Str)++("]":Str)):=by kernel_rfl
theorem xy(n:Nat)(c:Int):mC (n+1) (aO c)=some (bb c):=by kernel_rfl
theorem EW(n:Nat)(a:AV)(b mn mx:Int):mC (n+1) (bG 430 a b mn mx)=(mC n a).map λt=>("(":Str)++t++("<":Str)++bb b++(")":Str):=by kernel_rfl
theorem EU(n:Nat)(a:AV)(b mn mx:Int):mC (n+1) (bG 485 a b mn mx)=(mC n a).map λt=>("(":Str)++t++("*":Str)++bb b++(")":Str):=by kernel_rfl
theorem ET(n:Nat)(a:AV)(b mn mx:Int):mC (n+1) (bG 526 a b mn mx)=(mC n a).map λt=>("(":Str)++t++("//":Str)++bb b++(")":Str):=by kernel_rfl
theorem ES(n:Nat)(a:AV)(b mn mx:Int):mC (n+1) (bG 574 a b mn mx)=(mC n a).map λt=>("(":Str)++t++("%":Str)++bb b++(")":Str):=by kernel_rfl
theorem EQ(n:Nat)(xs:List AV)(mn mx:Int):mC (n+1) (bZ xs mn mx)=(xs.mapM (mC n)).map λts=>("(":Str)++Txt.join ("+":Str) (dn ts)++(")":Str):=by kernel_rfl
noncomputable def Mm(x:AV)(s:Sem)(t:Str):Prop:=∀n,2*s.ph<=n+3->mC n x=some t
theorem Bk{t:Tm}(f:2<=t.s.ph)(h:Mm t.x t.s t.t){n:Nat}(hn:2*(wk t.k*t.s.ph)<=n+3\/2*t.s.ph<=n+2):mC n (bz t)=some (m6 t):=by
 unfold bz m6;by_cases q:t.k=1
 . rw[Vi q,Vi q];refine h n ?_;rw[q]at hn;exact hn.elim (λh=>Nat.one_mul t.s.ph▸h) λh=>Nat.le_succ_of_le h
 . rw[Vk q,Vk q];have:wk t.k=2:=Vk q;rw[this]at hn;obtain⟨m,rfl⟩:=dW (n:=n) (by lia);rw[EU,h m (by(clear f;lia))];rfl
theorem jO{α β}{f:α->Option β}{k:α->β}:∀{l:List α},(∀a∈l,f a=some (k a))->l.mapM f=some (l.map k)
 |[],_=>rfl
 |a::l,h=>by rw[List.mapM_cons,h a Vm,jO λb hb=>h b (Vw _ hb)];rfl
theorem yL{α β}{f:α->Option β}{l1 l2:List α}{r1 r2:List β}(h1:l1.mapM f=some r1)(h2:l2.mapM f=some r2):(l1++l2).mapM f=some (r1++r2):=by rw[List.mapM_append,h1,h2];rfl
theorem qX(i:∀t∈ts,2<=t.s.ph)(h:∀t∈ts,Mm t.x t.s t.t){n:Nat}(hn:∀t∈ts,2*(wk t.k*t.s.ph)<=n+3\/2*t.s.ph<=n+2)(h1:1<=n):(dQ ts r).mapM (mC n)=some (rN ts r):=by
 unfold dQ rN;refine yL ?_ ?_
 . rw[List.mapM_map];exact jO λt ht=>Bk (i t ht) (h t ht) (hn t ht)
 . obtain⟨m,rfl⟩:=dW (n:=n) (by lia);split
   . rfl
   . exact jO (f:=mC (m+1)) (k:=λ_=>bb r) (l:=[aO r]) λa u=>by rw[Vo.mp u,xy]
theorem oj(u:∀t∈ts,2<=t.s.ph)(h:∀t∈ts,Mm t.x t.s t.t){n:Nat}(hn:2*(nS ts r).ph<=n+2\/2*nP ts<=n+1)(h1:2<=n):mC n (nX ts r)=some (nT ts r):=by
 obtain⟨m,rfl⟩:=dW (n:=n) (by lia);have B:∀t∈ts,2*(wk t.k*t.s.ph)<=m+3\/2*t.s.ph<=m+2:=λt ht=>by have F:wk t.k*t.s.ph<=(nS ts r).ph:=aR (f:=λt:Tm=>wk t.k*t.s.ph) ht;have G:t.s.ph<=nP ts:=aR (f:=λt:Tm=>t.s.ph) ht;lia
 have I:=qX (r:=r) u h B (by lia);have i:=qX (n:=m+1) (r:=r) u h (λt ht=>by have:=B t ht;lia) (by exact VT h1);unfold nX nT;have hl:(dQ ts r).length=(rN ts r).length:=by unfold dQ rN;split<;>simp
 generalize dQ ts r=xs at*
 generalize rN ts r=ys at*
 rcases xs with _|⟨x,_|⟨x',xs⟩⟩<;>rcases ys with _|⟨y,_|⟨y',ys⟩⟩<;>try (injection hl;done)
 . exact xy ..
 . simp only[List.mapM_cons,List.mapM_nil]at i
   induction e:mC (m+1) x with
   |none=>rw[e]at i;injection i
   |some z=>rw[e]at i;cases i;first|exact e|rfl
 . exact Vu (Nat.succ.inj hl) (by simp)
 . exact Vu (Nat.succ.inj hl) (by simp)
 . show mC (m+1) (bZ (x::x'::xs) _ _)=some _;rw[EQ,I];rfl
end
section
variable{g:Gv}{x:AV}{s:Sem}{t:Str}{ts:List Tm}{r:Int}
theorem dC:nP ts<=(nS ts r).ph:=bM λt _=>by exact Wi _ (gm t.k)
theorem i0(hn:ts≠[])(f:∀t∈ts,2<=t.s.ph):nP ts+1<=(nS ts r).ph+md ts:=by
 induction ts using List.casesOn with
 |nil=>exact Vu rfl hn
 |cons a l=>
  induction l using List.casesOn with
  |nil=>have:=f a Vm;show(a.s.ph+0)+1<=(wk a.k*a.s.ph+0)+(if a.k=1 then 1 else 0);unfold wk;split<;>lia
  |cons b l=>have:nP (a::b::l)<=(nS (a::b::l) r).ph:=dC;lia
theorem u6(hn:ts≠[])(u:∀t∈ts,2<=t.s.ph){m:Nat}(h:md ts<=m){n:Nat}(i:2*((nS ts r).ph+m)<=n+1+3):(2*(nS ts r).ph<=n+2\/2*nP ts<=n+1)/\2<=n:=by
 have h1:=i0 (r:=r) hn u;have h2:nP ts<=(nS ts r).ph:=dC;have f:2<=nP ts:=by
  induction ts using List.casesOn with
  |nil=>exact Vu rfl hn
  |cons a l=>have:=u a Vm;show 2<=a.s.ph+_;lia
 induction m using WP with
 |zero=>
  have z:md ts=0:=by lia
  induction ts using List.casesOn with
  |nil=>exact Vu rfl hn
  |cons a l=>
   induction l using List.casesOn with
   |nil=>
    have io:a.k≠1:=λq=>by simp[md,q]at z
    have F:(nS [a] r).ph=2*a.s.ph:=by simp[nS,aq,wk,io]
    have G:nP [a]=a.s.ph:=by simp[nP,aq]
    rw[G]at f⊢;rw[F]at i;have B:2*a.s.ph<=n:=Nat.le_of_add_le_add_right (b:=4) (Vg (Wt (VF 2 f) _) (by rw[<-Nat.two_mul];exact i));exact⟨.inr (Nat.le_succ_of_le B),Vg (by decide) (Vg (VF 2 f) B)⟩
   |cons b l=>simp[md]at z
 |succ m=>have k:2*(nS ts r).ph+2<=n+4:=Vg (VF 2 (Wt (WX 1 m) _)) i;exact⟨.inl (Nat.le_of_add_le_add_right k),Nat.le_of_add_le_add_right (b:=4) (Vg (Wh (VF 2 (Vg f h2)) 2) k)⟩
theorem ki(ts r):md ts<=mm ts r:=by
 refine lc (motive:=λts=>md ts<=mm ts r) ts (Vt _) (λt=>?_) λ_ _ _=>Vt _;show(if t.k=1 then 1 else 0)<=if t.k=1\/r≠0 then 1 else 0
 by_cases q:t.k=1
 . rw[Vi q,Vi (.inl q)];exact Vt _
 . rw[Vk q];exact Vq _
theorem At.tx(z:g.Ok)(h:At g x s t):Mm x s t:=by
 have u:∀{ts:List Tm},(∀t∈ts,At g t.x t.s t.t)->∀t∈ts,2<=t.s.ph:=λf t ht=>((f t ht).sb z).ph
 induction h with
 |var i hi hl=>intro n hn;obtain⟨m,rfl⟩:=dW (n:=n) (by have e:(gr g i).ph=2:=rfl;lia);exact EP ..
 |div ts r c hn hp f hc jx iO ie sW ih=>intro n B;have e:(cL ts r c).ph=(nS ts r).ph+md ts:=rfl;have:=ca (r:=r) hn λt ht=>(f t ht).sb z;obtain⟨m,rfl⟩:=dW (n:=n) (by lia);refine af (u6 (r:=r) hn (u f) (Vt _) (n:=m) (by assumption)) λl1 l2=>?_;rw[ET,oj (u f) ih l1 l2];rfl
 |mod ts r c hn hp f hc nv iO ih=>intro n B;have e:(eW ts r c).ph=(nS ts r).ph+mm ts r:=rfl;have:=ca (r:=r) hn λt ht=>(f t ht).sb z;obtain⟨m,rfl⟩:=dW (n:=n) (by lia);refine af (u6 (r:=r) hn (u f) (ki ts r) (n:=m) (by assumption)) λl1 l2=>?_;rw[ES,oj (u f) ih l1 l2];rfl
 |lt ts c hn hp f h1 h2 ih=>
  intro n B;have e:(oB ts c).ph=nP ts+2:=rfl;obtain⟨m,rfl⟩:=dW (n:=n) (by lia);have F:2<=nP ts:=by
   induction ts using List.casesOn with
   |nil=>exact Vu rfl hn
   |cons a l=>have:=u f a Vm;show 2<=a.s.ph+_;lia
  rw[EW,oj (u f) ih (.inr (by lia)) (by lia)];rfl
end
theorem xN{i:Int}(h:i.natAbs<10^280):(bb i).length<=281:=by unfold bb;rw[PyProof.Rows.ofString_len];exact int_text_length_le10 (by decide) h
theorem kS(f:Str)(l:List Str):Txt.join f l=Str.join f l:=by have:=join_plain_closes f l;simpa using this
theorem lJ(f:Str)(i:f.length=1):∀l:List Str,(Str.join f l).length<=aq (l.map λt=>t.length+1)
 |[]=>Vq _
 |[x]=>by show x.length<=x.length+1+0;lia
 |x::y::l=>by rw[strLen_append,strLen_append,i,Vn,au];have:=lJ f i (y::l);lia
theorem fw{l1 l2:List Nat}(h:l1.Perm l2):aq l1=aq l2:=by
 induction h with
 |nil=>rfl
 |cons a _ ih=>rw[au,au,ih]
 |swap a b l=>rw[au,au,au,au];lia
 |trans _ _ h1 h2=>rw[h1,h2]
section
variable{g:Gv}{x:AV}{s:Sem}{t:Str}{ts:List Tm}{r:Int}{ρ:Nat->Int}
theorem jb(k:Int):k.natAbs<=bC k:=by unfold bC XX;split<;>lia
theorem pW{x y:Int}{A B C:Nat}(h:(x-y).natAbs<=A)(h':y.natAbs<=B)(f:A+B<=C):x.natAbs<=C:=by have:=WI (x-y) y;rw[Int.sub_add_cancel]at this;exact Vg this (Vg (Wf h h') f)
theorem xz{x y:Int}{A B C:Nat}(h:(x-y).natAbs<=A)(h':x.natAbs<=B)(f:A+B<=C):y.natAbs<=C:=
 pW (x:=y) (y:=x) (by rw[<-Int.natAbs_neg,Int.neg_sub];exact h) h' f
theorem P2{x y z:Int}{K:Nat}(h1:x<=z)(h2:z<=y)(hx:x.natAbs<=K)(hy:y.natAbs<=K):z.natAbs<=K:=FZ.mpr ⟨VQ (FZ.mp hx).1 h1,VQ h2 (FZ.mp hy).2⟩
theorem tP{b:Int}{K:Nat}(h:b.natAbs<=K):b<=(K:Int):=VQ Int.le_natAbs (Wr.mpr h)
theorem i5{x b:Int}{K:Nat}(h0:0<=x)(h1:x<=b)(hb:b<=K):x.natAbs<=K:=FZ.mpr ⟨VQ (Int.neg_nonpos_of_nonneg (WS K)) h0,VQ h1 hb⟩
theorem CD{x y:Int}{B C:Nat}(h0:0<=x)(h:2*x<=y)(hy:y.natAbs<=C)(f:C<=2*B):x.natAbs<=B:=i5 h0 (Int.le_of_mul_le_mul_left (VQ h (VQ (FZ.mp hy).2 (Wr.mpr f))) (by decide:(0:Int)<2)) (WH _)
theorem Ab{x b:Int}(hb:2<=b):2*(x/b).natAbs<=x.natAbs+2:=by
 refine ax (Xe (VQ (by decide) hb)) λm h=>?_;rw[h]at hb⊢;have k:∀n:Nat,2*(n/m)<=n:=λn=>Vg (VC _ (Wr.mp hb)) (Nat.mul_div_le n m)
 induction m using Nat.casesOn with
 |zero=>exact Vu hb (by decide)
 |succ m=>
  induction x using Int.casesOn with
  |ofNat n=>exact Vg (k n) (Wg n 2)
  |negSucc n=>exact Wh (Vg (k n) (Nat.le_succ n)) 2
theorem rO{α}{f:α->Int}{w:α->Nat}{l:List α}(h:∀t∈l,(f t).natAbs<=w t):(ao (l.map f)).natAbs<=aq (l.map w):=by
 induction l with
 |nil=>exact Vt _
 |cons a l ih=>rw[Vn,Vn,ak,au];exact Vg (WI ..) (Wf (h a Vm) (ih λt ht=>h t (Vw _ ht)))
theorem cF{α}(c:Nat){f:α->Nat}{l:List α}:aq (l.map λt=>c*f t)=c*aq (l.map f):=by
 induction l with
 |nil=>rfl
 |cons a l ih=>rw[Vn,Vn,au,au,ih,Nat.mul_add]
theorem eF{t:Tm}(b:SB t.s){v:Int}(h0:0<=v)(h1:v<=t.s.mx):(v*t.k).natAbs<=XX*(bC t.k*t.s.am):=by rw[WQ];have f:=Wq (i5 h0 h1 b.mx) (jb t.k);rw[WE,WM t.s.am]at f;exact f
theorem iK(h:∀t∈ts,SB t.s):((nS ts r).mn-r).natAbs<=XX*(nS ts r).am/\((nS ts r).mx-r).natAbs<=XX*(nS ts r).am/\((∀t∈ts,Bn t.s ρ)->((nS ts r).val ρ-r).natAbs<=XX*(nS ts r).am):=by
 have key:∀f:Tm->Int,(∀t∈ts,(f t).natAbs<=XX*(bC t.k*t.s.am))->(ao (ts.map f)+r-r).natAbs<=XX*(nS ts r).am:=λf hf=>by rw[((cF XX).symm)];have:=rO hf;rw[(by lia:ao (ts.map f)+r-r=ao (ts.map f))];exact this
 refine⟨key dU λt ht=>?_,key d9 λt ht=>?_,λhb=>key (λt=>t.s.val ρ*t.k) λt ht=>?_⟩
 . have b:=h t ht;unfold dU;split
   . exact eF b b.mn (Vs b.lt)
   . exact eF b (VQ b.mn (Vs b.lt)) (WH _)
 . have b:=h t ht;unfold d9;split
   . exact eF b (VQ b.mn (Vs b.lt)) (WH _)
   . exact eF b b.mn (Vs b.lt)
 . have b:=h t ht;exact eF b (VQ b.mn (hb t ht).1) (hb t ht).2
end
section
variable{g:Gv}{x:AV}{s:Sem}{t:Str}{ts:List Tm}{r:Int}{ρ:Nat->Int}
theorem Gv.Ok.cX(f:g.Ok):g.In g.lo:=λi=>⟨WH _,f.le i⟩
theorem gP{n:Nat}(h:n<=2^800):XX*n<=2^862:=by
 have e:(2:Nat)^862=XX*2^800:=by unfold XX;rw[<-Nat.pow_add]
 rw[e];exact VF _ h
theorem Nd.fu(i:g.Ok)(h:Nd g ts r):r.natAbs<=2^881/\(nS ts r).mn.natAbs<=2^882/\(nS ts r).mx.natAbs<=2^882/\∀t∈ts,t.k.natAbs<=2^800:=by
 have hx:=gP h.p.am;refine dh (iK (r:=r) (ρ:=g.lo) λt ht=>(h.a t ht).sb i) λa1 z _=>?_;have v:=h.p.vb;have c:(2:Nat)^862+2^880<=2^882:=by decide
 refine⟨Vg v (by decide),pW (Vg a1 hx) v c,pW (Vg z hx) v c,λt ht=>?_⟩;have u:=Wq (jb t.k) ((h.a t ht).sb i).am;rw[Nat.mul_one]at u;exact Vg u (Vg (aR (f:=λt:Tm=>bC t.k*t.s.am) ht) h.p.am)
theorem fR(f:g.Ok)(i:∀t∈ts,At g t.x t.s t.t)(am:(nS ts r).am<=2^800)(hr:g.In ρ):((nS ts r).val ρ-r).natAbs<=2^862:=by refine dh (iK (r:=r) (ρ:=ρ) λt ht=>(i t ht).sb f) λ_ _ u=>?_;exact Vg (u λt ht=>(i t ht).bn f hr) (gP am)
theorem oQ(f:g.Ok)(i:∀t∈ts,At g t.x t.s t.t)(am:(nS ts r).am<=2^800)(hv:((nS ts r).val g.lo).natAbs<=2^879+2^863):r.natAbs<=2^880:=by exact xz (fR f i am f.cX) hv (by decide)
end
set_option tactic.hygienic true
section
variable{g:Gv}{x:AV}{s:Sem}{t:Str}{ts:List Tm}{r:Int}{ρ:Nat->Int}
theorem M9:(2:Nat)^882<10^280:=by decide
theorem dc{i:Int}{n:Nat}(h:i.natAbs<=2^n)(hn:n<=882):(bb i).length<=281:=by refine xN ?_;have:=M9;have:(2:Nat)^n<=2^882:=VH (by decide) hn;lia
theorem l1(s:String):(s:Str).length=s.length:=PyProof.Rows.ofString_len s
theorem jM(B:g.Ok)(h:Nd g ts r)(hn:ts≠[])(hl:∀t∈ts,t.t.length+1000<=1000*t.s.ph):(nT ts r).length+430<=1000*nP ts:=by
 refine eM (h.fu B) λF J N G=>?_;have i:∀t∈ts,(m6 t).length+1+714<=1000*t.s.ph:=λt ht=>by
  have e:=hl t ht;have u:=dc (G t ht) (by decide);unfold m6;split
  . lia
  . simp only[strLen_append,l1];have a1:"(".length=1:=rfl;have O:"*".length=1:=rfl;have H:")".length=1:=rfl;lia
 have hi:aq ((rN ts r).map λt=>t.length+1)+714<=1000*nP ts+282:=by
  unfold rN nP;rw[VM,bN,Vv];have I:aq (ts.map ((λt=>t.length+1)∘m6))+714<=1000*aq (ts.map λt=>t.s.ph):=by
   rw[<-cF]
   induction ts using List.casesOn with
   |nil=>exact Vu rfl hn
   |cons a l=>
    rw[Vn,Vn,au,au];have:=i a Vm;have:=bM (f:=(λt:Str=>t.length+1)∘m6) (g:=λt:Tm=>1000*t.s.ph) (l:=l) λt ht=>by have:=i t (Vw _ ht);show(m6 t).length+1<=_;lia
    show(m6 a).length+1+_+714<=_;lia
  have u:aq ((if r=0 then[]else[bb r]).map λt:Str=>t.length+1)<=282:=by
   have:=dc F (by decide);split
   . exact Vq _
   . show(bb r).length+1+0<=282;lia
  lia
 unfold nT
 induction q:rN ts r using lc with
 |h0=>unfold rN at q;refine af (List.append_eq_nil_iff.mp q) λq1 _=>?_;exact Vu (WL.mp q1) hn
 |h1 z=>rw[q]at hi;have:aq ([z].map λt:Str=>t.length+1)=z.length+1:=rfl;lia
 |h2 x y l=>show(("(":Str)++Txt.join ("+":Str) (dn (x::y::l))++(")":Str)).length+430<=_;rw[<-q];have I:=lJ ("+":Str) (l1 "+") (dn (rN ts r));have u:aq ((dn (rN ts r)).map λt=>t.length+1)=aq ((rN ts r).map λt=>t.length+1):=fw ((fP _).map _);simp only[strLen_append,l1,kS];have a1:"(".length=1:=rfl;have H:")".length=1:=rfl;lia
end
set_option tactic.hygienic false
section
variable{g:Gv}{x:AV}{s:Sem}{t:Str}{ts:List Tm}{r:Int}{ρ:Nat->Int}
theorem yv(i:Nat):(B7 i).length=1:=by
 match i with
 |0=>exact l1 "a"
 |1=>exact l1 "b"
 |_+2=>exact l1 "c"
theorem At.len(f:g.Ok)(h:At g x s t):t.length+1000<=1000*s.ph:=by
 have hx:XX=2^62:=rfl;have a1:"(".length=1:=rfl;have J:"//".length=2:=rfl;have N:")".length=1:=rfl;have O:"%".length=1:=rfl;have P:"<".length=1:=rfl;have Q:"[".length=1:=rfl;have U:"-".length=1:=rfl;have W:"]".length=1:=rfl;have X:"".length=0:=rfl;have z:∀{ts:List Tm},(∀t∈ts,At g t.x t.s t.t)->∀t∈ts,2<=t.s.ph:=λu t ht=>((u t ht).sb f).ph
 induction h with
 |var i hi hl=>have Y:=dc (i:=g.lo i) (n:=62) (by have:=f.pos i;have:=f.le i;have:=f.sm i;(clear hl;lia)) (by decide);have B:=dc (i:=g.hi i) (n:=62) (by have:=f.pos i;have:=f.le i;have:=f.sm i;(clear hl;lia)) (by lia);show(aN g i).length+1000<=1000*2;unfold aN;simp only[strLen_append,l1,yv];lia
 |div ts r c hn hp u hc jx iO ie sW ih=>
  have e:=jM f ⟨hp,u⟩ hn ih;have B:=i0 (r:=r) hn (z u);have F:(cL ts r c).ph=(nS ts r).ph+md ts:=rfl;have G:=dc (i:=c) (n:=800) (by
   have:(cL ts r c).am=c.natAbs*(nS ts r).am:=rfl;have:=VF c.natAbs (cz (r:=r) hn hp.nz λt ht=>(u t ht).sb f);lia) (by decide)
  simp only[strLen_append,l1];lia
 |mod ts r c hn hp u hc nv iO ih=>have e:=jM f ⟨hp,u⟩ hn ih;have B:=i0 (r:=r) hn (z u);have Z:=ki ts r;have F:(eW ts r c).ph=(nS ts r).ph+mm ts r:=rfl;have G:=dc (i:=c) (n:=62) (by lia) (by lia);simp only[strLen_append,l1];lia
 |lt ts c hn hp u h1 h2 ih=>have e:=jM f ⟨hp,u⟩ hn ih;refine eM ((Nd.mk hp u).fu f) λz1 H I z4=>?_;have F:(oB ts c).ph=nP ts+2:=rfl;have G:=dc (i:=c) (n:=882) (P2 (Vs h1) h2 H I) (by decide);simp only[strLen_append,l1];lia
end
section
variable(call:aI)(make:aH)
theorem M7(e:Str)(lo hi:Int)(f:AV):fC call make 57 [qV e lo hi,f] []=(call 281 [qV e lo hi,f] []).bind some:=by kernel_rfl
theorem M5(c:Int)(f:AV):fC call make 57 [aO c,f] []=(call 335 [aO c,f] []).bind some:=by kernel_rfl
theorem MX(xs:List AV)(mn mx:Int)(f:AV):fC call make 57 [bZ xs mn mx,f] []=if(mn !=mx)=true then(call 647 [bZ xs mn mx,f] []).bind some else none:=by kernel_rfl
theorem M3(a:AV)(b mn mx:Int)(f:AV):fC call make 57 [bG 430 a b mn mx,f] []=if(mn !=mx)=true then(call 427 [bG 430 a b mn mx,f] []).bind some else none:=by kernel_rfl
theorem M2(a:AV)(b mn mx:Int)(f:AV):fC call make 57 [bG 485 a b mn mx,f] []=if(mn !=mx)=true then(call 482 [bG 485 a b mn mx,f] []).bind some else none:=by kernel_rfl
theorem M1(a:AV)(b mn mx:Int)(f:AV):fC call make 57 [bG 526 a b mn mx,f] []=if(mn !=mx)=true then(call 523 [bG 526 a b mn mx,f] []).bind some else none:=by kernel_rfl
theorem MZ(a:AV)(b mn mx:Int)(f:AV):fC call make 57 [bG 574 a b mn mx,f] []=if(mn !=mx)=true then(call 571 [bG 574 a b mn mx,f] []).bind some else none:=by kernel_rfl
end
section
variable{g:Gv}{x:AV}{s:Sem}{t:Str}{ts:List Tm}{r:Int}{ρ:Nat->Int}{call:aI}{make:aH}
theorem fY{a b:Str}(h:a.length+b.length<=1000000):oP call make .Add (.str a) (.str b)=some (.str (a++b)):=by show(if Operator.Add=Operator.Add/\a.length+b.length<=1000000 then some (AV.str (a++b))else none)=_;rw[Vi ⟨rfl,h⟩]
theorem rj{i:Int}{n:Nat}(h:i.natAbs<=2^n)(hn:n<1900):Sm i=true:=by refine VJ ?_;have:=Nat.pow_lt_pow_right (a:=2) (by decide) hn;lia
noncomputable abbrev j3:AV:= .str "DEBUG"
theorem Ez{b:Int}(h:Sm b=true)(f:AV):Ev 3 666 [.int b,f] [] (.str (bb b)):=aw (by decide) (by decide) λk _=>by rw[Ph,Vi h]
theorem KW{b:Int}(h:Sm b=true)(f:AV):Ev 3 335 [aO b,f] [] (.str (bb b)):=aw (by decide) (by decide) λk _=>by rw[PE,Vi h]
theorem KY{e:Str}{lo hi:Int}(he:e.length<=100)(hl:lo.natAbs<=2^800)(f:hi.natAbs<=2^800):Ev 3 281 [qV e lo hi,j3] [] (.str (e++("[":Str)++bb lo++("-":Str)++bb hi++("":Str)++("]":Str))):=aw (by decide) (by decide) λk _=>by
 have i:=dc hl (by decide);have u:=dc f (by lia);have z:"[".length=1:=rfl;have B:"-".length=1:=rfl;have F:"]".length=1:=rfl;have G:"".length=0:=rfl;rw[PH,fY (by rw[l1];lia),Vl,Vi (rj hl (by decide)),fY (by simp only[strLen_append,l1];lia),Vl,fY (by simp only[strLen_append,l1];lia),Vl,
  Vi (rj f (by lia)),fY (by simp only[strLen_append,l1];lia),Vl,fY (by simp only[strLen_append,l1];lia),Vl,fY (by simp only[strLen_append,l1];lia),Vl]
end
set_option tactic.hygienic true
section
variable{g:Gv}{x:AV}{s:Sem}{t:Str}{ts:List Tm}{r:Int}{ρ:Nat->Int}{call:aI}{make:aH}
noncomputable def uu(C:Addr):Prop:=C=284\/C=338\/C=430\/C=485\/C=526\/C=574\/C=656
theorem bl{R:Type}{C:Addr}{fl:List (Str×AV)}{nm:Str}{f:Addr}{k:Addr->AV->Option R}(h:ba.cZ C nm=some f):bH (.obj C fl) nm k=k f (.obj C fl):=by show((ba.cZ C nm).bind λf=>k f (.obj C fl))=_;rw[h,Vl]
theorem fy{C:Addr}(h:uu C):ba.cZ C "render"=some 57:=by rcases h with rfl|rfl|rfl|rfl|rfl|rfl|rfl<;>kernel_rfl
theorem Ig.nd{C:Addr}(h:Ig C):uu C:=by
 rcases h with rfl|rfl|rfl|rfl
 . exact .inl rfl
 . exact .inr (.inr (.inl rfl))
 . exact .inr (.inr (.inr (.inr (.inl rfl))))
 . exact .inr (.inr (.inr (.inr (.inr (.inl rfl)))))
theorem oo{t:Tm}(h:At g t.x t.s t.t):∃C fl,bz t= .obj C fl/\uu C/\C≠338/\C≠656:=by
 unfold bz;split
 . refine aP h.obj λC fl e f=>?_;refine z9 C fl e f.nd ?_ ?_<;>rcases f with rfl|rfl|rfl|rfl<;>decide
 . exact z9 _ _ rfl (.inr (.inr (.inr (.inl rfl)))) (by decide) (by decide)
theorem bx(h:∀t∈ts,At g t.x t.s t.t):∃C fl,nX ts r= .obj C fl/\uu C:=by
 unfold nX
 induction q:dQ ts r using lc with
 |h0=>exact jn _ _ rfl (.inr (.inl rfl))
 |h1 x=>
  have hx:x∈dQ ts r:=by rw[q];exact Vo.mpr rfl
  unfold dQ at hx;refine Or.elim (Wl.mp hx) (λhx=>?_) λhx=>?_
  . refine ab (Vy.mp hx) λt ht f=>?_;subst f;refine cP (oo (h t ht)) λC fl e i _=>?_;exact jn C fl e i
  . split at hx
    . cases hx
    . rw[Vo.mp hx];exact jn _ _ rfl (.inr (.inl rfl))
 |h2=>exact jn _ _ rfl (.inr (.inr (.inr (.inr (.inr (.inr rfl))))))
end
set_option tactic.hygienic false
section
variable{g:Gv}{x:AV}{s:Sem}{t:Str}{ts:List Tm}{r:Int}{ρ:Nat->Int}{call:aI}{make:aH}
theorem fL{α}{step:ah->List AV->Acc->Option (ah×Acc)}{I:ah->Prop}{x:α->AV}{f:α->List AV}:∀(l:List α)(acc:List AV)(σ:ah),I σ->(∀a∈l,∀σ,I σ->∀acc:List AV,acc.length+(f a).length<=1000->∃σ',I σ'/\step σ [x a] (.l acc)=some (σ',.l (acc++f a)))->acc.length+(l.map λa=>(f a).length).sum<=1000->
 ∃σ',I σ'/\aE step (bf (l.map x)) σ (.l acc)=some (σ',.l (acc++l.flatMap f))
 |[],acc,σ,bJ,_,_=>⟨σ,bJ,by simp[aE]⟩
 |a::l,acc,σ,bJ,H,hl=>by simp only[Vn,List.sum_cons]at hl;refine ab (H a Vm σ bJ acc (by lia)) λi h1 e=>?_;refine ab (fL l (acc++f a) i h1 (λb hb=>H b (Vw _ hb)) (by simp only[VO];lia)) λσ' h2 u=>?_;refine ag σ' h2 ?_;simp only[bf,Vn,aE,e,Vl];rw[VS,<-WJ];exact u
theorem c7{α}{step:ah->List AV->Acc->Option (ah×Acc)}{σ0:ah}{sh:AV->ah}{x f:α->AV}(l:List α)(H:∀a∈l,∀σ,(σ=σ0\/∃y,σ=sh y)->∀acc:List AV,acc.length<=1000->step σ [x a] (.l acc)=some (sh (x a),.l (acc++[f a])))(hl:l.length<=1000):
 ∃σ',aE step (bf (l.map x)) σ0 (.l [])=some (σ',.l (l.map f)):=by
 have i:∀l:List α,(l.map λa=>[f a].length).sum=l.length/\l.flatMap (λa=>[f a])=l.map f:=λl=>by
  induction l with
  |nil=>exact⟨rfl,rfl⟩
  |cons a l ih=>rw[Vn,List.sum_cons,ih.1,VS,ih.2];exact⟨by simp only[VP,Wb];lia,rfl⟩
 refine ab (fL (I:=λσ=>σ=σ0\/∃y,σ=sh y) (f:=λa=>[f a]) l [] σ0 (.inl rfl) (λa u σ z acc h=>⟨_,.inr ⟨_,rfl⟩,H a u σ z acc (by exact VT h)⟩) (by rw[(i l).1];simpa using hl)) λσ' _ e=>?_;refine⟨σ',?_⟩;rw[e,Wm,(i l).2]
theorem fJ{α β}{body:ah->Option fW}{nm:List Str}{R:β->ah->Prop}{x:α->AV}{f:β->α->β}{b0:β}(l:List α)(H:∀i a u,l=i++a::u->∀σ,R (i.foldl f b0) σ->∃σ',body (aX σ nm [x a])=some (.next σ')/\R (f (i.foldl f b0) a) σ'){σ0:ah}(h0:R b0 σ0):∃σ',bU body nm (bf (l.map x)) σ0=some (.next σ')/\R (l.foldl f b0) σ':=by
 have:∀u i,l=i++u->∀σ,R (i.foldl f b0) σ->∃σ',bU body nm (bf (u.map x)) σ=some (.next σ')/\R (l.foldl f b0) σ':=λu=>by
  induction u with
  |nil=>intro i e σ h;rw[WB]at e;subst e;exact ag σ rfl h
  |cons a u ih=>intro i e σ h;refine ab (H i a u e σ h) λz B h1=>?_;refine ab (ih (i++[a]) (by simp[e]) z (by simpa using h1)) λF G h2=>?_;refine ag F ?_ h2;simp only[bf,Vn,bU,B];exact G
 exact this l [] rfl σ0 h0
end
section
variable{g:Gv}{x:AV}{s:Sem}{t:Str}{ts:List Tm}{r:Int}{ρ:Nat->Int}{call:aI}{make:aH}{n:Nat}
theorem jD(l:List Str):fq (l.map .str)=some l:=sD (f:=Fk) (g:= .str) (λ_=>rfl) l
theorem jQ(l:List Int):gD (l.map .int)=some l:=sD (f:=Go) (g:= .int) (λ_=>rfl) l
noncomputable def Rn(n:Nat)(x:AV)(t:Str):Prop:=∀k,2*n+1<=k->fC (aF k) (aV k) 57 [x,j3] []=some (.str t)
theorem Rn.ev(h:Rn n x t)(hn:1<=n):Ev (2*n+2) 57 [x,j3] [] (.str t):=aw (by lia) (by decide) h
theorem oK{t o b:Str}(h:t.length+o.length+b.length+2<=1000000):((oP call make .Add (.str "(") (.str t)).bind λf=>(oP call make .Add f (.str o)).bind λi=>(oP call make .Add i (.str b)).bind λu=>(oP call make .Add u (.str ")")).bind some)=some (.str (("(":Str)++t++o++b++(")":Str))):=by have a1:"(".length=1:=rfl;have z:")".length=1:=rfl;refine bE (fY (by rw[l1];lia)) ?_;refine bE (fY (by simp only[strLen_append,l1];lia)) ?_;refine bE (fY (by simp only[strLen_append,l1];lia)) ?_;exact bE (fY (by simp only[strLen_append,l1];lia)) rfl
theorem uO{a:AV}{C:Addr}{fl}(F:a= .obj C fl)(f:uu C)(i:Rn n a t)(hn:1<=n){b mn mx:Int}(hb:b.natAbs<=2^882)(hl:t.length<=900000)(G:mn≠mx):
 Rn (n+1) (bG 430 a b mn mx) (("(":Str)++t++("<":Str)++bb b++(")":Str))/\Rn (n+1) (bG 526 a b mn mx) (("(":Str)++t++("//":Str)++bb b++(")":Str))/\Rn (n+1) (bG 574 a b mn mx) (("(":Str)++t++("%":Str)++bb b++(")":Str))/\(Ig C->Rn (n+1) (bG 485 a b mn mx) (("(":Str)++t++("*":Str)++bb b++(")":Str))):=by
 have sb:=rj hb (by decide);have I:=dc hb (by decide);have h:∀o:Str,o.length<=2->t.length+o.length+(bb b).length+2<=1000000:=λo J=>by lia
 have u:(mn !=mx)=true:=by simpa using G
 subst F;refine⟨λk z=>?_,λk z=>?_,λk z=>?_,λH k z=>?_⟩
 . rw[M3,Vi u,aw (d:=2*n+2) (r:= .str (("(":Str)++t++("<":Str)++bb b++(")":Str))) (by lia) (by decide) (λj B=>by
    rw[Pz,bl (fy f),i.ev hn j (by assumption),Vl,<-oK (h _ (by rw[l1];decide)),Ez sb j3 j (by lia)];rfl) k (by assumption)];rfl
 . rw[M1,Vi u,aw (d:=2*n+2) (r:= .str (("(":Str)++t++("//":Str)++bb b++(")":Str))) (by lia) (by decide) (λj B=>by
    rw[Pq,bl (fy f),i.ev hn j (by lia),Vl,<-oK (call:=aF j) (make:=aV j) (h _ (by rw[l1];decide))];simp only[Vi sb]) k (by lia)];rfl
 . rw[MZ,Vi u,aw (d:=2*n+2) (r:= .str (("(":Str)++t++("%":Str)++bb b++(")":Str))) (by lia) (by decide) (λj B=>by
    rw[Po,bl (fy f),i.ev hn j (by lia),Vl,<-oK (call:=aF j) (make:=aV j) (h _ (by rw[l1];decide))];simp only[Vi sb]) k (by lia)];rfl
 . have hi:∃q,ba.isin (.ref C) (.ref 284)=some q:=by
    rcases H with rfl|rfl|rfl|rfl
    . exact⟨true,by kernel_rfl⟩
    all_goals exact ⟨false,by kernel_rfl⟩
   refine ax hi λq hi=>?_;rw[M2,Vi u,aw (d:=2*n+2) (r:= .str (("(":Str)++t++("*":Str)++bb b++(")":Str))) (by lia) (by decide) (λj B=>by
    rw[Pu,hi,Vl,ite_self,bl (fy f),i.ev hn j (by lia),Vl,<-oK (h _ (by rw[l1];decide)),Ez sb j3 j (by lia)];rfl) k (by lia)];rfl
noncomputable def wB(ts:List Tm)(r:Int):List (AV×Str):=ts.map (λt=>(bz t,m6 t))++(if r=0 then[]else[(aO r,bb r)])
theorem JA:(wB ts r).map (·.1)=dQ ts r:=by unfold wB dQ;split<;>simp
theorem JB:(wB ts r).map (·.2)=rN ts r:=by unfold wB rN;split<;>simp
theorem Fz{l:List (AV×Str)}(hl:l.length<64)(h:∀p∈l,(∃C fl,p.1= .obj C fl/\uu C)/\Rn n p.1 p.2)(hn:1<=n)(F:aq (l.map λp=>p.2.length+1)<=900000){mn mx:Int}(G:mn≠mx):
 Rn (n+1) (bZ (l.map (·.1)) mn mx) (("(":Str)++Txt.join ("+":Str) (dn (l.map (·.2)))++(")":Str)):=λk Q=>by
 have H:(mn !=mx)=true:=by simpa using G
 have i:=fP (l.map (·.2));have U:aq ((dn (l.map (·.2))).map λt=>t.length+1)<=900000:=by rw[fw (i.map _),Vv];exact F
 have W:=lJ ("+":Str) (l1 "+") (dn (l.map (·.2)));have I:(dn (l.map (·.2))).length=l.length:=by rw[i.length_eq,Vp]
 have u:∀l:List Str,(l.map (·.length)).sum<=aq (l.map λt=>t.length+1):=λl=>by
  induction l with
  |nil=>exact Vt _
  |cons a l ih=>rw[Vn,Vn,List.sum_cons,au];lia
 have u:=u (dn (l.map (·.2)));have a1:"(".length=1:=rfl;have X:")".length=1:=rfl;have Y:"+".length=1:=rfl;rw[MX,Vi H,aw (d:=2*n+2) (r:= .str (("(":Str)++Txt.join ("+":Str) (dn (l.map (·.2)))++(")":Str))) (by lia) (by decide) (λj Z=>by
  obtain⟨σ',e⟩:=c7 (step:=aU (aF j) (aV j) 647 0 35) (σ0:=[("ctx",.fz j3)]) (sh:=λy=>[("ctx",.fz j3),("x",.fz y)]) (x:=λp:AV×Str=>p.1) (f:=λp=> .str p.2) l (λp J σ N acc z=>by
   refine af (h p J) λO hr=>?_;refine aP O λC fl e B=>?_;have hr:=hr.ev hn j (by assumption);rw[e]at hr⊢;have c:=Ht (aF j) (aV j) j3 C fl acc;rcases N with rfl|⟨y,rfl⟩
   . rw[c [] (.inl rfl),Vi z,bl (fy B),hr];rfl
   . rw[c [("x",.fz y)] (.inr ⟨y,rfl⟩),Vi z,bl (fy B),hr];rfl) (by lia)
  rw[Pi,e];show((if(l.map λp=>AV.str p.2).length<64 then _ else none:Option AV)).bind _=_;rw[Vi (by rw[Vp];exact hl)];have P:l.map (λp=>AV.str p.2)=(l.map (·.2)).map .str:=by rw[Vv];rfl
  rw[P,jD];show(fq ((dn (l.map (·.2))).map .str)).bind _=_;rw[jD,Vl,Vi (by rw[I,l1];lia),fY (by rw[kS];simp only[l1];lia),Vl,fY (by rw[kS];simp only[strLen_append,l1];lia),Vl]) k (by assumption)]
 rfl
end
section
variable{g:Gv}{x:AV}{s:Sem}{t:Str}{ts:List Tm}{r:Int}{ρ:Nat->Int}{call:aI}{make:aH}{n:Nat}
theorem x6{c:Int}(h:c.natAbs<=2^882)(hn:1<=n):Rn n (aO c) (bb c):=λk f=>by rw[M5,KW (rj h (by decide)) j3 k (by lia)];rfl
theorem i8(f:∀t∈ts,2<=t.s.ph):2*ts.length<=nP ts:=by
 induction ts with
 |nil=>exact Vq _
 |cons a l ih=>have:=f a Vm;have:=ih λt ht=>f t (Vw _ ht);show 2*(l.length+1)<=a.s.ph+nP l;lia
theorem Bs{t:Tm}(f:t.k.natAbs<=2^800):(m6 t).length<=t.t.length+284:=by
 have i:=dc f (by decide);unfold m6;split
 . lia
 . simp only[strLen_append,l1];have a1:"(".length=1:=rfl;have u:"*".length=1:=rfl;have z:")".length=1:=rfl;lia
theorem oE(u:g.Ok)(h:Nd g ts r)(P:nP ts<=120)(H:∀t∈ts,∀n,2*t.s.ph<=n+3->Rn n t.x t.t)(hn:2*(nS ts r).ph<=n+2\/2*nP ts<=n+1)(h1:2<=n):Rn n (nX ts r) (nT ts r):=by
 obtain⟨m,rfl⟩:=dW (n:=n) (by lia);refine eM (h.fu u) λQ z2 z3 J=>?_;have i:∀t∈ts,2<=t.s.ph:=λt ht=>((h.a t ht).sb u).ph;have hl:=λt ht=>(h.a t ht).len u;have N:∀t∈ts,t.s.ph<=nP ts:=λt ht=>aR (f:=λt:Tm=>t.s.ph) ht;have B:∀t∈ts,2*(wk t.k*t.s.ph)<=m+3\/2*t.s.ph<=m+2:=λt ht=>by have O:wk t.k*t.s.ph<=(nS ts r).ph:=aR (f:=λt:Tm=>wk t.k*t.s.ph) ht;have U:=N t ht;lia
 have T:∀t∈ts,∀m,(2*(wk t.k*t.s.ph)<=m+3\/2*t.s.ph<=m+2)->Rn m (bz t) (m6 t):=λt ht m B=>by
  unfold bz m6;by_cases q:t.k=1
  . rw[Vi q,Vi q];refine H t ht m ?_;have:wk t.k=1:=by rw[q];rfl
    rw[this]at B;lia
  . rw[Vk q,Vk q];have:wk t.k=2:=Vk q;rw[this]at B;have:=i t ht;have:=N t ht;have:=hl t ht;obtain⟨j,rfl⟩:=dW (n:=m) (by lia);refine aP ((h.a t ht).obj) λC fl e F=>?_;have b:=(h.a t ht).sb u;refine(uO e F.nd (H t ht j (by lia)) (by lia) ?_ (by lia) ?_).2.2.2 F
    . have:=J t ht;lia
    . have:=rE (ts:=[t]) (r:=0) (by simp) (λs G=>by rw[Vo.mp G];exact h.p.nz t ht) (λs G=>by rw[Vo.mp G];exact b);simp[nS,ao]at this;lia
 unfold nX nT;rw[<-JA,<-JB];have I:∀p∈wB ts r,∀n,m<=n->(∃C fl,p.1= .obj C fl/\uu C)/\Rn n p.1 p.2:=λp i n hn=>by
  unfold wB at i;refine Or.elim (Wl.mp i) (λi=>?_) λi=>?_
  . refine ab (Vy.mp i) λt ht W=>?_;subst W;refine cP (oo (h.a t ht)) λC fl e F _=>?_;exact⟨⟨C,fl,e,F⟩,T t ht n (by have:=B t ht;lia)⟩
  . split at i
    . cases i
    . rw[Vo.mp i];refine⟨⟨_,_,rfl,.inr (.inl rfl)⟩,x6 ?_ (by lia)⟩;lia
 have X:aq ((wB ts r).map λp=>p.2.length+1)<=900000:=by
  unfold wB;rw[VM,bN,Vv];have O:aq (ts.map ((λp:AV×Str=>p.2.length+1)∘λt=>(bz t,m6 t)))<=aq (ts.map λt=>1000*t.s.ph):=bM λt ht=>by have:=hl t ht;have:=Bs (J t ht);show(m6 t).length+1<=_;lia
  rw[cF]at O;have U:aq (ts.map λt=>t.s.ph)<=120:=P;have e3:aq ((if r=0 then[]else[(aO r,bb r)]).map λp:AV×Str=>p.2.length+1)<=282:=by
   have:=dc Q (by decide);split
   . exact Vq _
   . show(bb r).length+1+0<=282;lia
  lia
 have z:(wB ts r).length<64:=by
  have:=i8 i;unfold wB;rw[VO,Vp];split
  . simp only[Wb];lia
  . simp only[VP,Wb];lia
 have Y:∀a b l,wB ts r=a::b::l->ts≠[]:=λa b l e q=>by subst q;unfold wB at e;split at e<;>simp at e
 generalize wB ts r=l at*
 match l with
 |[]=>exact x6 (Vq _) (by exact VT h1)
 |[p]=>exact(I p Vm _ (by lia)).2
 |p::p'::l=>exact Fz z (λq Z=>I q Z m (Vt _)) (by lia) X (by have:=(λq=>h.lt u q) (Y _ _ _ rfl);lia)
end
section
variable{g:Gv}{x:AV}{s:Sem}{t:Str}{ts:List Tm}{r:Int}{ρ:Nat->Int}{call:aI}{make:aH}{n:Nat}
theorem At.rn(z:g.Ok)(h:At g x s t):s.ph<=120->∀n,2*s.ph<=n+3->Rn n x t:=by
 have H:∀{ts:List Tm},(∀t∈ts,At g t.x t.s t.t)->∀t∈ts,2<=t.s.ph:=λu t ht=>((u t ht).sb z).ph;have I:∀{ts:List Tm}(r:Int),(nS ts r).ph<=120->∀t∈ts,t.s.ph<=120:=λ{ts} r h t ht=>by have:=dC (ts:=ts) (r:=r);have:t.s.ph<=nP ts:=aR (f:=λt:Tm=>t.s.ph) ht;lia
 induction h with
 |var i hi hl=>intro _ n hn k G;have:=z.pos i;have:=z.le i;have:=z.sm i;have hx:XX=2^62:=rfl;have e:(gr g i).ph=2:=rfl;rw[M7,KY (by rw[yv];decide) (by(clear hl;lia)) (by(clear hl;lia)) k (by lia)];rfl
 |div ts r c hn hp u hc jx iO ie sW ih=>intro B n G;have e:(cL ts r c).ph=(nS ts r).ph+md ts:=rfl;have p1:=ca (r:=r) hn λt ht=>(u t ht).sb z;have p2:=dC (ts:=ts) (r:=r);obtain⟨m,rfl⟩:=dW (n:=n) (by lia);refine af (u6 (r:=r) hn (H u) (Vt _) (n:=m) (by assumption)) λl1 l2=>?_;refine aP (bx (r:=r) u) λC fl eq F=>?_;have hl:=jM z ⟨hp,u⟩ hn λt ht=>(u t ht).len z;refine(uO eq F (oE z ⟨hp,u⟩ (by lia) (λt ht=>ih t ht (I r (by lia) t ht)) l1 l2) (by exact VT l2) ?_ (by lia) (by lia)).2.1;have:(cL ts r c).am=c.natAbs*(nS ts r).am:=rfl;have:=VF c.natAbs (cz (r:=r) hn hp.nz λt ht=>(u t ht).sb z);lia
 |mod ts r c hn hp u hc nv iO ih=>intro B n G;have e:(eW ts r c).ph=(nS ts r).ph+mm ts r:=rfl;have p1:=ca (r:=r) hn λt ht=>(u t ht).sb z;have p2:=dC (ts:=ts) (r:=r);obtain⟨m,rfl⟩:=dW (n:=n) (by lia);refine af (u6 (r:=r) hn (H u) (ki ts r) (n:=m) (by assumption)) λl1 l2=>?_;refine aP (bx (r:=r) u) λC fl eq F=>?_;have hl:=jM z ⟨hp,u⟩ hn λt ht=>(u t ht).len z;refine(uO eq F (oE z ⟨hp,u⟩ (by lia) (λt ht=>ih t ht (I r (by lia) t ht)) l1 l2) (by lia) ?_ (by lia) (by lia)).2.2.1;have hx:XX=2^62:=rfl;lia
 |lt ts c hn hp u h1 h2 ih=>
  intro B n G;have e:(oB ts c).ph=nP ts+2:=rfl;have J:2<=nP ts:=by have:=i8 (H u);have:=List.length_pos_iff.mpr hn;(clear G B;lia)
  obtain⟨m,rfl⟩:=dW (n:=n) (by(clear J;lia));refine aP (bx (r:=0) u) λC fl eq F=>?_;have hl:=jM z ⟨hp,u⟩ hn λt ht=>(u t ht).len z;refine eM ((Nd.mk hp u).fu z) λP N O Q=>?_;refine(uO eq F (oE z ⟨hp,u⟩ (by lia) (λt ht=>ih t ht ?_) (.inr (by lia)) (by(clear B;lia))) (by(clear B;lia)) (P2 (Vs h1) h2 N O) (by lia) (by decide)).1;have:t.s.ph<=nP ts:=aR (f:=λt:Tm=>t.s.ph) ht;lia
theorem Gj{C:Addr}{fl:List (Str×AV)}(f:uu C)(i:bS C fl=true)(h:Rn n (.obj C fl) t)(hn:1<=n)(ht:Bm (.obj C fl)=some t):Ev (2*n+3) 78 [.obj C fl] [] (.str t):=λk G=>by
 obtain⟨k,rfl⟩:=dW (n:=k) (by(clear hn;lia));have u:dj.contains C=true:=by rcases f with rfl|rfl|rfl|rfl|rfl|rfl|rfl<;>rfl
 have z:aF k 57 [.obj C fl] [("ctx",j3)]=some (.str t):=aw (d:=2*n+1) (by lia) (by decide) (λj B=>((Pn _ _ C fl j3).trans (Uc _ _ C fl j3).symm).trans (h j B)) k (by lia);have e:aF (k+1) 78 [.obj C fl] []=match Fn (An k) 78 [.obj C fl] []with
  |some r=>some r
  |none=>callC ba (gE) (An k) 78 [.obj C fl] []:=rfl
 have F:Fn (An k) 78 [.obj C fl] []=some (.str t):=by show(if dj.contains C&&bS C fl then(aF k 57 [.obj C fl] [("ctx",j3)]).bind λr=>b8 r λs=>if Bm (.obj C fl)=some s then some (AV.str s)else none else none)=_;rw[u,i,z,ht];exact(Vi rfl:(if some t=some t then some (AV.str t)else none)=_)
 rw[e,F]
theorem D1{C:Addr}(h:uu C):ba.prop C "key"=some 78/\ba.cls C=true:=by rcases h with rfl|rfl|rfl|rfl|rfl|rfl|rfl<;>exact ⟨by kernel_rfl,rfl⟩
theorem Mc{C:Addr}{fl:List (Str×AV)}{nm:Str}(i:ba.cls C=true)(hf:az.contains nm=false){f:Addr}(u:ba.prop C nm=some f):gA call make (.obj C fl) nm=call f [.obj C fl] []:=by show(if ba.cls C then(if az.contains nm then fl.lookup nm else(match ba.prop C nm with|some f=>call f [.obj C fl] []|none=>none))else none)=_;rw[i,hf,u];rfl
theorem At.K7(h:At g x s t){C:Addr}{fl:List (Str×AV)}(e:x= .obj C fl):bS C fl=true:=by induction h<;>(injection e with y z;subst y;subst z;rfl)
end
section
variable{g:Gv}{x:AV}{s:Sem}{t:Str}{ts us:List Tm}{r:Int}{n:Nat}
theorem gX{l1 l2:List Int}(h:l1.Perm l2):ao l1=ao l2:=by
 induction h with
 |nil=>rfl
 |cons a _ ih=>rw[ak,ak,ih]
 |swap a b l=>rw[ak,ak,ak,ak];lia
 |trans _ _ h1 h2=>rw[h1,h2]
theorem uY(h:ts.Perm us):nS ts r=nS us r:=by
 unfold nS;congr 1
 . funext ρ;rw[gX (h.map _)]
 . rw[gX (h.map _)]
 . rw[gX (h.map _)]
 . exact fw (h.map _)
 . exact fw (h.map _)
 . funext j;exact h.any_eq
theorem Cd(h:ts.Perm us):nP ts=nP us:=fw (h.map _)
theorem u5(h:ts.Perm us):mm ts r=mm us r/\md ts=md us:=by
 rcases ts with _|⟨a,_|⟨b,l⟩⟩
 . rw[h.nil_eq];exact⟨rfl,rfl⟩
 . rw[List.singleton_perm.mp h];exact⟨rfl,rfl⟩
 . rcases us with _|⟨c,_|⟨d,m⟩⟩
   . injection h.length_eq
   . exact Vu (Nat.succ.inj h.length_eq) (by simp)
   . exact⟨rfl,rfl⟩
noncomputable def sp(t:Tm):Tm:=⟨.none,t.s,"",t.k⟩
theorem DU:nS (ts.map sp) r=nS ts r:=by unfold nS;simp only[Vv,List.any_map];rfl
theorem I6:nP (ts.map sp)=nP ts:=by unfold nP;rw[Vv];rfl
theorem DX:mm (ts.map sp) r=mm ts r/\md (ts.map sp)=md ts:=by rcases ts with _|⟨a,_|⟨b,l⟩⟩<;>exact ⟨rfl,rfl⟩
theorem tA(h:us.Perm (ts.map sp))(c:Int):cL us r c=cL ts r c/\eW us r c=eW ts r c/\oB us c=oB ts c:=by unfold cL eW oB;rw[uY (r:=r) h,uY (r:=0) h,DU,DU,(u5 (r:=r) h).2,(DX (r:=r)).2,(u5 (r:=r) h).1,DX.1,Cd h,I6];exact⟨rfl,rfl,rfl⟩
noncomputable abbrev cl(s:Str):List Nat:=s.cps.toList
theorem j5(a b:Str):cl (a++b)=cl a++cl b:=by show(a.cps++b.cps).toList=_;simp
theorem Hp{a b:Str}(h:cl a=cl b):a=b:=by induction a;induction b;simp_all
theorem dY(s:String):cl (s:Str)=s.toList.map Char.toNat:=by rw[Str.ofString_eq_toList]
theorem xO{a b:Int}(h:bb a=bb b):a=b:=by have e:cl (Str.ofString (toString a))=cl (Str.ofString (toString b)):=Vx cl h;rw[dY,dY]at e;have f:=(List.map_inj_right (λx y h=>Char.toNat_inj.mp h)).mp e;exact Int.repr_inj.mp (String.toList_inj.mp f)
noncomputable def dg(c:Nat):Bool:=c==45||(decide (48<=c)&&decide (c<=57))
theorem uH{i:Int}{c:Nat}(h:c∈cl (bb i)):dg c=true:=by
 by_cases q:c≠45/\(c<48\/57<c)
 . exact Vu h (int_text_free' c q i)
 . unfold dg;simp;lia
theorem BD(i:Int):cl (bb i)≠[]:=λh=>by
 have e:cl (Str.ofString (toString i))=[]:=h;rw[dY]at e;have f:toString i="":=String.toList_inj.mp (by rw[(WL.mp e)];rfl);have u:bb i=bb i:=rfl
 induction i with
 |ofNat n=>have:(toString (Int.ofNat n))=n.repr:=rfl;rw[this]at f;have h1:=Nat.length_repr_pos (n:=n);rw[f]at h1;exact Vu h1 (by decide)
 |negSucc n=>have:(toString (Int.negSucc n))="-"++(n+1).repr:=rfl;rw[this]at f;have:=Vx String.length f;rw[String.length_append]at this;simp at this
noncomputable def HZ(l:List Nat):Prop:=∀c m,l=c::m->dg c=false
noncomputable def BS(cs:List Nat):Option (Int×List Nat):=by
 classical exact if h:∃i,cl (bb i)=cs.takeWhile dg then some (h.choose,cs.dropWhile dg)else none
theorem x9(i:Int){rest:List Nat}(h:HZ rest):BS (cl (bb i)++rest)=some (i,rest):=by
 have a:(cl (bb i)++rest).takeWhile dg=cl (bb i)/\(cl (bb i)++rest).dropWhile dg=rest:=by
  have:∀l:List Nat,(∀c∈l,dg c=true)->(l++rest).takeWhile dg=l/\(l++rest).dropWhile dg=rest:=λl hl=>by
   induction l with
   |nil=>
    induction rest using List.casesOn with
    |nil=>exact⟨rfl,rfl⟩
    |cons c m=>simp[h c m rfl]
   |cons c l ih=>have:=ih λc f=>hl c (Vw _ f);simp[hl c Vm,this.1,this.2]
  exact this _ λc f=>uH f
 unfold BS;rw[a.1,a.2];have e:∃j,cl (bb j)=cl (bb i):=⟨i,rfl⟩;rw[dif_pos e];exact Vx (λz=>some (z,rest)) (xO (Hp e.choose_spec))
noncomputable abbrev Su:=List Tm×Int
noncomputable def rd(g:Gv):Nat->Option Su->List Nat->Option (Su×List Nat)
 |0,_,_=>none
 |n+1,none,cs=>match cs with
  |[]=>none
  |c::Us=>if c=40 then(rd g n none Us).bind λp=>rd g n (some p.1) p.2
   else if 97<=c/\c<=99 then some (([⟨.none,gr g (c-97),"",1⟩],0),cs.drop (cl (aN g (c-97))).length)
   else(BS cs).map λp=>(([],p.1),p.2)
 |n+1,some q,cs=>match cs with
  |[]=>none
  |c::cs=>if c=41 then some (q,cs)
   else if c=43 then(rd g n none cs).bind λp=>rd g n (some (q.1++p.1.1,q.2+p.1.2)) p.2
   else if c=42 then(BS cs).map λp=>((q.1.map λt=>{t with k:=p.1},0),p.2.tail)
   else if c=47 then(BS cs.tail).map λp=>(([⟨.none,cL q.1 q.2 p.1,"",1⟩],0),p.2.tail)
   else if c=37 then(BS cs).map λp=>(([⟨.none,eW q.1 q.2 p.1,"",1⟩],0),p.2.tail)
   else(BS cs).map λp=>(([⟨.none,oB q.1 p.1,"",1⟩],0),p.2.tail)
noncomputable def Rd(g:Gv)(t:Str)(q:Su):Prop:=∃N,∀n,N<=n->∀rest,HZ rest->rd g n none (cl t++rest)=some (q,rest)
theorem nj{c:Nat}{l:List Nat}(h:dg c=false):HZ (c::l):=λ_ _ e=>by(injection e with z;subst z);exact h
theorem Rd.num(i:Int):Rd g (bb i) ([],i):=⟨1,λn hn rest hr=>by
 obtain⟨m,rfl⟩:=dW (n:=n) (by lia);have e:=x9 i hr
 induction h:cl (bb i)using List.casesOn with
 |nil=>exact Vu h (BD i)
 |cons c l=>
  have f:=(λc l e=>uH (i:=i) (by rw[e];exact Vm)) c l h;rw[h]at e;have u:c≠40:=λq=>by rw[q]at f;exact Vu f (by decide)
  have z:¬(97<=c/\c<=99):=λq=>by unfold dg at f;simp at f;lia
  show(if c=40 then _ else if 97<=c/\c<=99 then _ else(BS (c::(l++rest))).map _)=_;rw[Vk u,Vk z];rw[e];rfl⟩
theorem Rd.var(i:Nat)(h:i<3):Rd g (aN g i) ([⟨.none,gr g i,"",1⟩],0):=⟨1,λn hn rest hr=>by
 obtain⟨m,rfl⟩:=dW (n:=n) (by lia);have e:∃l,cl (aN g i)=(97+i)::l:=by unfold aN;simp only[j5];apply Ge h<;>exact ⟨_,rfl⟩
 refine ax e λl e=>?_;have f:rd g (m+1) none ((97+i)::(l++rest))=some (([⟨.none,gr g (97+i-97),"",1⟩],0),((97+i)::(l++rest)).drop (cl (aN g (97+i-97))).length):=by simp only[rd];rw[Vk (by(clear e;lia)),Vi (by(clear e;lia))]
 rw[Nat.add_sub_cancel_left]at f;rw[e]at f⊢;refine f.trans ?_;have:(((97+i)::(l++rest):List Nat)).drop ((97+i)::l).length=rest:=by rw[<-List.cons_append];simp
 rw[this]⟩
theorem x8{t:Str}{q f:Su}{rest tail:List Nat}{n N:Nat}(h:∀n,N<=n->∀rest,HZ rest->rd g n none (cl t++rest)=some (q,rest))(hn:N+1<=n)(hr:HZ tail)(e:rd g (n-1) (some q) tail=some (f,rest)):rd g n none (40::(cl t++tail))=some (f,rest):=by
 obtain⟨m,rfl⟩:=dW (n:=n) (by lia);have i:rd g (m+1) none (40::(cl t++tail))=(rd g m none (cl t++tail)).bind λp=>rd g m (some p.1) p.2:=by simp only[rd];rfl
 rw[i,h m (by lia) _ hr];exact e
theorem Rd.op{q:Su}(h:Rd g t q)(i:Int):Rd g (("(":Str)++t++("*":Str)++bb i++(")":Str)) (q.1.map λt=>{t with k:=i},0)/\Rd g (("(":Str)++t++("//":Str)++bb i++(")":Str)) ([⟨.none,cL q.1 q.2 i,"",1⟩],0)
 /\Rd g (("(":Str)++t++("%":Str)++bb i++(")":Str)) ([⟨.none,eW q.1 q.2 i,"",1⟩],0)/\Rd g (("(":Str)++t++("<":Str)++bb i++(")":Str)) ([⟨.none,oB q.1 i,"",1⟩],0):=by
 refine ax h λN h=>?_;have a1:cl ("(":Str)=[40]:=dY _;have f:cl (")":Str)=[41]:=dY _;have u:cl ("*":Str)=[42]:=dY _;have z:cl ("//":Str)=[47,47]:=dY _;have B:cl ("%":Str)=[37]:=dY _;have F:cl ("<":Str)=[60]:=dY _;refine⟨⟨N+2,λn hn rest _=>?_⟩,⟨N+2,λn hn rest _=>?_⟩,⟨N+2,λn hn rest _=>?_⟩,⟨N+2,λn hn rest _=>?_⟩⟩<;>obtain ⟨m,rfl⟩:=FB (n:=n) (by lia)<;>
  simp only[j5,a1,f,u,z,B,F,WJ,List.cons_append,Wm]<;>refine x8 h (by lia) (nj (by decide)) ?_<;>simp [rd,(λrest=>x9 i (nj (by decide)):∀rest,BS (cl (bb i)++41::rest)=some (i,41::rest))]
theorem na{α β:Type}{f:α->β}:∀{m:List β}{l:List α},m.Perm (l.map f)->∃u:List α,u.Perm l/\u.map f=m
 |[],l,h=>by have:=WL.mp h.nil_eq.symm;subst this;exact ag [] (.refl _) rfl
 |b::m,l,h=>by refine ab (Vy.mp (h.subset Vm)) λa z i=>?_;subst i;refine cq (List.append_of_mem z) λl1 l2 i=>?_;subst i;refine ab (na (List.perm_cons _|>.mp (h.trans (by simpa using List.perm_middle):(f a::m).Perm (f a::(l1++l2).map f)))) λu B i=>?_;subst i;exact ag (a::u) ((B.cons a).trans List.perm_middle.symm) rfl
theorem Rd.tail:∀(l:List (Str×Su)),(∀p∈l,Rd g p.1 p.2)->∃N,∀n,N<=n->∀(q:Su) rest,rd g n (some q) (l.flatMap (λp=>43::cl p.1)++41::rest)=some ((q.1++l.flatMap (·.2.1),q.2+ao (l.map (·.2.2))),rest)
 |[],_=>⟨1,λn hn q rest=>by
  obtain⟨m,rfl⟩:=dW (n:=n) (by lia);simp[rd,ao]⟩
 |p::l,h=>by
  refine ax (Rd.tail l λp i=>h p (Vw _ i)) λN e=>?_;refine ax (h p Vm) λM u=>?_;refine⟨N+M+1,λn hn q rest=>?_⟩;obtain⟨m,rfl⟩:=dW (n:=n) (by lia);have hd:HZ (l.flatMap (λp=>43::cl p.1)++41::rest):=by
   induction l using List.casesOn with
   |nil=>exact nj (by decide)
   |cons p' l=>exact nj (c:=43) (by decide)
  simp only[VS,List.cons_append,WJ,Vn,ak];have z:∀f,rd g (m+1) (some q) (43::f)=(rd g m none f).bind λp=>rd g m (some (q.1++p.1.1,q.2+p.1.2)) p.2:=λf=>by simp only[rd];rfl
  rw[z,u m (by lia) _ hd,Vl,e m (by lia)];simp only[WJ,W0]
theorem vH:∀(t:Str)(l:List Str),cl (Str.join ("+":Str) (t::l))=cl t++l.flatMap λt=>43::cl t
 |t,[]=>by simp[Str.join]
 |t,u::l=>by rw[j5,j5,vH u l,dY];simp
theorem Rd.sum{l:List (Str×Su)}(hn:l≠[])(h:∀p∈l,Rd g p.1 p.2):∃us:List Tm,us.Perm (l.flatMap (·.2.1))/\Rd g (("(":Str)++Txt.join ("+":Str) (dn (l.map (·.1)))++(")":Str)) (us,ao (l.map (·.2.2))):=by
 refine ab (na (fP (l.map (·.1)))) λi f e=>?_;rw[<-e,kS]
 induction i using List.casesOn with
 |nil=>exact Vu f.nil_eq hn.symm
 |cons p i=>
  refine ax (Rd.tail i λq u=>h q (f.subset (Vw _ u))) λN z=>?_;refine ax (h p (f.subset Vm)) λM B=>?_;refine⟨_,f.flatMap_right _,N+M+2,λn hn rest hr=>?_⟩;have a1:cl ("(":Str)=[40]:=dY _;have F:cl (")":Str)=[41]:=dY _;rw[Vn,<-gX (f.map _)];simp only[j5,a1,F,vH,WJ,List.cons_append,Wm];refine x8 B (by lia) ?_ ?_
  . induction i using List.casesOn with
    |nil=>exact nj (by decide)
    |cons p' l=>exact nj (c:=43) (by decide)
  . rw[List.flatMap_map,z (n-1) (by lia)];rfl
end
set_option tactic.hygienic true
section
variable{g:Gv}{x:AV}{s:Sem}{t:Str}{ts us:List Tm}{r:Int}{n:Nat}
theorem Rd.tm{t:Tm}(h:Rd g t.t ([⟨.none,t.s,"",1⟩],0)):Rd g (m6 t) ([sp t],0):=by
 unfold m6;split
 . rename_i q;have:sp t=⟨.none,t.s,"",1⟩:=by unfold sp;rw[q]
   rw[this];exact h
 . exact(h.op t.k).1
theorem Rd.node(h:∀t∈ts,Rd g t.t ([⟨.none,t.s,"",1⟩],0)):∃us:List Tm,us.Perm (ts.map sp)/\Rd g (nT ts r) (us,r):=by
 let l:List (Str×Su):=ts.map (λt=>(m6 t,([sp t],0)))++(if r=0 then[]else[(bb r,([],r))]);have z:l.map (·.1)=rN ts r:=by show List.map _ (_++_)=_;unfold rN;split<;>simp
 have u:l.flatMap (·.2.1)=ts.map sp:=by
  rw[List.flatMap_append,List.flatMap_map];have:(List.flatMap (λx:Str×Su=>x.2.1) (if r=0 then[]else[(bb r,([],r))]))=[]:=by split<;>rfl
  rw[this,WB];have:∀l:List Tm,l.flatMap (λa=>[sp a])=l.map sp:=λl=>by
   induction l with
   |nil=>rfl
   |cons a l ih=>rw[VS,ih];rfl
  exact this ts
 have i:ao (l.map (·.2.2))=r:=by
  rw[VM,ci,Vv];have:∀l:List Tm,ao (l.map ((λx:Str×Su=>x.2.2)∘λt=>(m6 t,([sp t],0))))=0:=λl=>by
   induction l with
   |nil=>rfl
   |cons a l ih=>rw[Vn,ak,ih];rfl
  rw[this];split
  . rename_i q;rw[q];rfl
  . show 0+(r+0)=r;lia
 have hl:∀p∈l,Rd g p.1 p.2:=λp f=>by
  refine Or.elim (Wl.mp f) (λf=>?_) λf=>?_
  . refine ab (Vy.mp f) λt ht B=>?_;subst B;exact(h t ht).tm
  . split at f
    . cases f
    . rw[Vo.mp f];exact .num r
 generalize U3:l=l at*
 unfold nT;rw[<-z]
 match l with
 |[]=>have i:r=0:=i.symm;subst i;rw[<-u];exact ag [] (.refl _) (.num 0)
 |[p]=>
  refine ag p.2.1 (by rw[<-u];simp) ?_;have:(p.2.1,r)=p.2:=by rw[<-i];show(p.2.1,p.2.2+0)=p.2;rw[WN]
  rw[this];exact hl p Vm
 |p::p'::l=>refine ab (Rd.sum (by simp) hl) λus h1 h2=>?_;rw[u]at h1;rw[i]at h2;exact ag us h1 h2
theorem At.QD(h:At g x s t):Rd g t ([⟨.none,s,"",1⟩],0):=by
 induction h with
 |var i hi hl=>exact .var i hi
 |div ts r c hn hp ha hc jx iO ie sW ih=>refine ab (Rd.node (r:=r) ih) λus h1 h2=>?_;have:=(h2.op c).2.1;rw[(tA (r:=r) h1 c).1]at this;exact this
 |mod ts r c hn hp ha hc nv iO ih=>refine ab (Rd.node (r:=r) ih) λus h1 h2=>?_;have:=(h2.op c).2.2.1;rw[(tA (r:=r) h1 c).2.1]at this;exact this
 |lt ts c hn hp ha h1 h2 ih=>refine ab (Rd.node (r:=0) ih) λus h1 h2=>?_;have:=(h2.op c).2.2.2;rw[(tA (r:=0) h1 c).2.2]at this;exact this
theorem At.same{x' s'}(h:At g x s t)(h':At g x' s' t):s=s':=by refine ax h.QD λN e=>?_;refine ax h'.QD λM f=>?_;have b:=f (N+M) (by lia) [] (λ_ _ e=>nomatch e);rw[(e (N+M) (by lia) [] (λ_ _ e=>nomatch e))]at b;have:=Vx (λz=>z.map λz=>z.1.1.map (·.s)) b;simpa using this
end
set_option tactic.hygienic false
set_option tactic.hygienic true
section
variable{g:Gv}{x:AV}{s:Sem}{t:Str}{ts us:List Tm}{r:Int}{n:Nat}
noncomputable def pO(t:Tm)(u:Tm):Tm:=if u.t=t.t then{u with k:=u.k+t.k}else u
noncomputable def cx(l:List Tm)(t:Tm):List Tm:=if l.any (λu=>decide (u.t=t.t))then l.map (pO t)else l++[t]
noncomputable def tM(ts:List Tm):List Tm:=(ts.foldl cx []).filter λt=>t.k !=0
noncomputable abbrev Nn(l:List Tm):Prop:=(l.map (·.t)).Nodup
theorem vV(t u:Tm):(pO t u).t=u.t/\(pO t u).x=u.x/\(pO t u).s=u.s:=by unfold pO;split<;>exact ⟨rfl,rfl,rfl⟩
theorem Dq(t:Tm)(l:List Tm):(l.map (pO t)).map (·.t)=l.map (·.t):=by rw[Vv];exact V0 λu _=>(vV t u).1
theorem kZ{l:List Tm}{t:Tm}(h:Nn l):Nn (cx l t):=by
 unfold cx Nn;split
 . rw[Dq];exact h
 . rename_i q;rw[VM];refine List.nodup_append.mpr ⟨h,by simp,λa f b hb=>?_⟩;refine ab (Vy.mp f) λu i z=>?_;subst z;simp at hb;subst hb;intro e;exact q (VX.mpr ⟨u,i,VJ e⟩)
theorem lW:∀(ts l:List Tm),Nn l->Nn (ts.foldl cx l)
 |[],_,h=>h
 |_::ts,_,h=>lW ts _ (kZ h)
theorem nA{l:List Tm}{p:Tm->Bool}(h:Nn l):Nn (l.filter p):=List.Nodup.sublist (List.filter_sublist.map _) h
theorem F5(ts:List Tm):Nn (tM ts):=nA (lW ts [] (by simp[Nn]))
theorem mo{l:List Tm}{t u:Tm}(h:u∈cx l t):(u=t)\/∃v∈l,v.t=u.t/\v.x=u.x/\v.s=u.s:=by
 unfold cx at h;split at h
 . refine ab (Vy.mp h) λv hv f=>?_;subst f;refine dh (vV t v) λa b c=>?_;exact .inr ⟨v,hv,a.symm,b.symm,c.symm⟩
 . refine Or.elim (Wl.mp h) (λh=>?_) λh=>?_
   . exact .inr ⟨u,h,rfl,rfl,rfl⟩
   . exact .inl (Vo.mp h)
theorem jV:∀(ts l:List Tm){u:Tm},u∈ts.foldl cx l->∃v,(v∈l\/v∈ts)/\v.t=u.t/\v.x=u.x/\v.s=u.s
 |[],l,u,h=>⟨u,.inl h,rfl,rfl,rfl⟩
 |t::ts,l,u,h=>by
  refine ab (jV ts _ h) λv hv e=>?_;refine Or.elim hv (λhv=>?_) λhv=>?_
  . rcases mo hv with rfl|⟨w,hw,a,b,c⟩
    . exact ag v (.inr Vm) e
    . exact wR w (.inl hw) (a.trans e.1) (b.trans e.2.1) (c.trans e.2.2)
  . exact ag v (.inr (Vw _ hv)) e
theorem Cf{u:Tm}(h:u∈tM ts):u.k≠0/\∃v∈ts,v.t=u.t/\v.x=u.x/\v.s=u.s:=by
 refine af (VY.mp h) λh1 h2=>?_;refine ab (jV ts [] h1) λv hv e=>?_;refine⟨by simpa using h2,v,?_,e⟩;refine Or.elim hv (λhv=>?_) λhv=>?_
 . cases hv
 . exact hv
noncomputable def Un(l:List Tm):Prop:=∀u∈l,∀v∈l,u.t=v.t->u.s=v.s
theorem AR{l:List Tm}{t:Tm}(w:Sem->Int->Int)(hw:∀s j k,w s (j+k)=w s j+w s k)(hn:Nn l)(f:∀u∈l,u.t=t.t->u.s=t.s):ao ((cx l t).map λu=>w u.s u.k)=ao (l.map λu=>w u.s u.k)+w t.s t.k:=by
 unfold cx;split
 . rename_i q
   induction l with
   |nil=>simp at q
   |cons a l ih=>
    refine af (Xh.mp hn) λn1 n2=>?_;rw[Vn,Vn,Vn,ak,ak];by_cases e:a.t=t.t
    . have h0:∀l:List Tm,(∀u∈l,u.t≠t.t)->l.map (pO t)=l:=λl h=>by
       conv=>rhs;rw[<-List.map_id l]
       exact V0 λu f=>Vk (h u f)
      rw[h0 l λu f i=>n1 (Vy.mpr ⟨u,f,i.trans e.symm⟩)];have:pO t a={a with k:=a.k+t.k}:=Vi e;rw[this];show w a.s (a.k+t.k)+_=_;rw[hw,f a Vm e];lia
    . have:pO t a=a:=Vk e;rw[this,ih n2 (λu z=>f u (Vw _ z)) (by simpa[e]using q)];lia
 . rw[VM,ci];simp[ao]
theorem AP{l:List Tm}{t:Tm}(w:Sem->Int->Nat)(hw:∀s j k,w s (j+k)<=w s j+w s k)(hn:Nn l)(f:∀u∈l,u.t=t.t->u.s=t.s):aq ((cx l t).map λu=>w u.s u.k)<=aq (l.map λu=>w u.s u.k)+w t.s t.k:=by
 unfold cx;split
 . rename_i q
   induction l with
   |nil=>simp at q
   |cons a l ih=>
    refine af (Xh.mp hn) λn1 n2=>?_;rw[Vn,Vn,Vn,au,au];by_cases e:a.t=t.t
    . have h0:∀l:List Tm,(∀u∈l,u.t≠t.t)->l.map (pO t)=l:=λl h=>by
       conv=>rhs;rw[<-List.map_id l]
       exact V0 λu f=>Vk (h u f)
      rw[h0 l λu f i=>n1 (Vy.mpr ⟨u,f,i.trans e.symm⟩)];have:pO t a={a with k:=a.k+t.k}:=Vi e;rw[this];show w a.s (a.k+t.k)+_<=_;have:=hw a.s a.k t.k;rw[f a Vm e]at this⊢;lia
    . have:pO t a=a:=Vk e;have:=ih n2 (λu z=>f u (Vw _ z)) (by simpa[e]using q);have h1:pO t a=a:=Vk e;rw[h1];lia
 . rw[VM,bN];simp[aq]
theorem ny(w:Sem->Int->Int)(hw:∀s j k,w s (j+k)=w s j+w s k):∀(ts l:List Tm),Nn l->Un (l++ts)->ao ((ts.foldl cx l).map λu=>w u.s u.k)=ao (l.map λu=>w u.s u.k)+ao (ts.map λu=>w u.s u.k)
 |[],l,_,_=>by simp[ao]
 |t::ts,l,hn,hu=>by
  have ht:∀u∈l,u.t=t.t->u.s=t.s:=λu h e=>hu u (WZ _ h) t (by simp) e;have f:∀u∈cx l t++ts,∃v∈l++t::ts,v.t=u.t/\v.s=u.s:=λu h=>by
   refine Or.elim (Wl.mp h) (λh=>?_) λh=>?_
   . rcases mo h with rfl|⟨v,hv,a,b,c⟩
     . exact dA u (by simp) rfl rfl
     . exact dA v (by simp[hv]) a c
   . exact dA u (by simp[h]) rfl rfl
  rw[We,ny w hw ts _ (kZ hn) (λu h v h' e=>by
   refine bV (f u h) λa i z B=>?_;refine bV (f v h') λb hb F G=>?_;rw[<-B,<-G];exact hu a i b hb (by rw[z,F,e])),AR w hw hn ht,Vn,ak]
  lia
theorem jU(w:Sem->Int->Nat)(hw:∀s j k,w s (j+k)<=w s j+w s k):∀(ts l:List Tm),Nn l->Un (l++ts)->aq ((ts.foldl cx l).map λu=>w u.s u.k)<=aq (l.map λu=>w u.s u.k)+aq (ts.map λu=>w u.s u.k)
 |[],l,_,_=>by simp[aq]
 |t::ts,l,hn,hu=>by
  have ht:∀u∈l,u.t=t.t->u.s=t.s:=λu h e=>hu u (WZ _ h) t (by simp) e;have f:∀u∈cx l t++ts,∃v∈l++t::ts,v.t=u.t/\v.s=u.s:=λu h=>by
   refine Or.elim (Wl.mp h) (λh=>?_) λh=>?_
   . rcases mo h with rfl|⟨v,hv,a,b,c⟩
     . exact dA u (by simp) rfl rfl
     . exact dA v (by simp[hv]) a c
   . exact dA u (by simp[h]) rfl rfl
  have i:=jU w hw ts _ (kZ (t:=t) hn) (λu h v h' e=>by
   refine bV (f u h) λa B i z=>?_;refine bV (f v h') λb hb F G=>?_;rw[<-z,<-G];exact hu a B b hb (by rw[i,F,e]))
  have z:=AP w hw hn ht;rw[We,Vn,au];lia
theorem uZ(w:Sem->Int->Int)(hw:∀s j k,w s (j+k)=w s j+w s k)(h0:∀s,w s 0=0)(f:Un ts):ao ((tM ts).map λu=>w u.s u.k)=ao (ts.map λu=>w u.s u.k):=by
 have:∀l:List Tm,ao ((l.filter λt=>t.k !=0).map λu=>w u.s u.k)=ao (l.map λu=>w u.s u.k):=λl=>by
  induction l with
  |nil=>rfl
  |cons a l ih=>
   rw[Ws];split
   . rw[Vn,Vn,ak,ak,ih]
   . rename_i q;rw[Vn,ak,ih,(by simpa using q:a.k=0),h0];lia
 unfold tM;rw[this,(ny w hw ts [] (by simp[Nn]) f)];simp[ao]
theorem oV(w:Sem->Int->Nat)(hw:∀s j k,w s (j+k)<=w s j+w s k)(f:Un ts):aq ((tM ts).map λu=>w u.s u.k)<=aq (ts.map λu=>w u.s u.k):=by
 have e:=jU w hw ts [] (by simp[Nn]) f;have:∀l:List Tm,aq ((l.filter λt=>t.k !=0).map λu=>w u.s u.k)<=aq (l.map λu=>w u.s u.k):=λl=>by
  induction l with
  |nil=>exact Vt _
  |cons a l ih=>
   rw[Ws];split
   . rw[Vn,Vn,au,au];exact Wt ih _
   . rw[Vn,au];exact Vg ih (WX _ _)
 have h2:=this (ts.foldl cx []);exact Vg h2 (Vg e (Wj (Nat.zero_add _)))
theorem lV:∀(ts l:List Tm),Nn (l++ts)->ts.foldl cx l=l++ts
 |[],l,_=>by simp
 |t::ts,l,h=>by
  have:cx l t=l++[t]:=by unfold cx;rw[Vk];intro q;refine ab (VX.mp q) λu f e=>?_;unfold Nn at h;rw[VM,List.nodup_append]at h;exact h.2.2 u.t (Vy.mpr ⟨u,f,rfl⟩) t.t (by simp) (V9 e)
  rw[We,this,lV ts _ (by simpa using h:Nn (l++[t]++ts))];simp
theorem i6(hn:Nn ts)(nz:∀t∈ts,t.k≠0):tM ts=ts:=by unfold tM;rw[lV ts [] hn,Wm];exact List.filter_eq_self.mpr λt ht=>by simpa using nz t ht
theorem EM(s:Sem)(j k:Int):wk (j+k)*s.ph<=wk j*s.ph+wk k*s.ph:=by rw[<-Nat.add_mul];have:=mX (j+k);have:=gm j;have:=gm k;exact VC _ (by lia)
theorem yC{j k:Int}(q:¬0<=j+k)(h:0<=j):(j+k).natAbs<=k.natAbs:=by have hn:j+k<=0:=Vs (Int.not_le.mp q);have f:k<=j+k:=Int.le_add_of_nonneg_left h;exact FZ.mpr ⟨by rw[W6 (VQ f hn),Int.neg_neg];exact f,VQ hn (WS _)⟩
theorem Cn(j k:Int):bC (j+k)<=bC j+bC k:=by
 have h:=WI j k;have f:∀i:Int,i.natAbs<=bC i:=λi=>by unfold bC;split;exact Vt _;exact(λn=>Wi n (by decide)) _
 by_cases q:0<=j+k
 . exact Vg (Wj (Vi q)) (Vg h (Wf (f j) (f k)))
 . rw[show bC (j+k)=XX*(j+k).natAbs from Vk q];by_cases q1:0<=j
   . rw[show bC k=XX*k.natAbs from Vk (by lia)];exact Vg (VF XX (yC q q1)) (WX ..)
   . rw[show bC j=XX*j.natAbs from Vk q1];by_cases q2:0<=k
     . exact Vg (VF XX (WW j k▸yC (WW j k▸q) q2)) (Wg ..)
     . rw[show bC k=XX*k.natAbs from Vk q2,<-Nat.mul_add];exact VF _ h
theorem rJ(s:Sem)(j k:Int):bC (j+k)*s.am<=bC j*s.am+bC k*s.am:=by rw[<-Nat.add_mul];exact VC _ (Cn j k)
structure Qb(ts us:List Tm):Prop where
 val:∀ρ,ao (us.map λt=>t.s.val ρ*t.k)=ao (ts.map λt=>t.s.val ρ*t.k)
 ph:aq (us.map λt=>wk t.k*t.s.ph)<=aq (ts.map λt=>wk t.k*t.s.ph)
 p:nP us<=nP ts
 am:aq (us.map λt=>bC t.k*t.s.am)<=aq (ts.map λt=>bC t.k*t.s.am)
 mem:∀u∈us,u.k≠0/\∃v∈ts,v.t=u.t/\v.x=u.x/\v.s=u.s
 nn:Nn us
theorem DW(f:Un ts):Qb ts (tM ts) where
 val ρ:=uZ (λs k=>s.val ρ*k) (λs j k=>Int.mul_add ..) (λs=>W4 _) f
 ph:=oV (λs k=>wk k*s.ph) EM f
 p:=oV (λs _=>s.ph) (λs _ _=>by lia) f
 am:=oV (λs k=>bC k*s.am) rJ f
 mem _ h:=Cf h
 nn:=F5 ts
theorem uA(h:∀t∈ts,At g t.x t.s t.t):Un ts:=λu f v hv e=>(h u f).same (e▸h v hv)
end
set_option tactic.hygienic false
section
variable{g:Gv}{x:AV}{s:Sem}{t:Str}{ts us:List Tm}{r:Int}{n:Nat}{call:aI}{make:aH}
theorem oI{op:Operator}(a b:Int):oP call make op (.int a) (.int b)=binI op a b:=by induction op<;>rfl
theorem im{a b:Int}(f:Sm a=true)(hb:Sm b=true):oP call make .Mult (.int a) (.int b)=some (.int (a*b)):=by rw[oI];show(if Sm a&&Sm b then _ else none)=_;rw[f,hb];rfl
theorem dl{a b:Int}(hb:Sm b=true)(h0:0<b):oP call make .FloorDiv (.int a) (.int b)=some (.int (a/b)):=by
 rw[oI];show(if Sm b&&b !=0 then some (AV.int (a.fdiv b))else none)=_;have:(b !=0)=true:=by simpa using(show b≠0 by exact Wd h0)
 rw[hb,this,Int.fdiv_eq_ediv_of_nonneg a (by exact Vs h0)];rfl
theorem dt{a b:Int}(h0:0<b):oP call make .Mod (.int a) (.int b)=some (.int (a%b)):=by
 rw[oI];show(if b !=0 then some (AV.int (a.fmod b))else none)=_;have:(b !=0)=true:=by simpa using(show b≠0 by exact Wd h0)
 rw[this,Int.fmod_eq_emod_of_nonneg a (by exact Vs h0)];rfl
theorem bR{i:Int}(h:i.natAbs<=2^1800):Sm i=true:=rj h (by decide)
theorem e9(c:Int):Mk 4 338 [.int c] (lE c):=mw (by decide) λk _=>O8 ..
theorem KT{C:Addr}{fl:List (Str×AV)}{mn mx b:Int}(h:Bd (.obj C fl) mn mx)(h0:0<=mn)(s1:Sm mn=true)(i:Sm mx=true)(f:Sm b=true):Ev 3 468 [.obj 485 (qy (.obj C fl) (.int b))] [] (.tup [.int (if 0<=b then mn*b else mx*b),.int (if 0<=b then mx*b else mn*b)]):=
 aw (by decide) (by decide) λk _=>by
  refine af (h (aF k) (aV k)) λu z=>?_;rw[Pv,u,Vl];show(if decide (0<=mn)=true then _ else none)=_;rw[Vi (by simpa using h0),z];simp only[Vl,im s1 f,im i f];by_cases q:0<=b
  . rw[Vi (by simpa using q),Vi q,Vi q]
  . rw[Vk (by simpa using q),Vk q,Vk q]
structure LC(g:Gv)(t:Tm):Prop where
 at':At g t.x t.s t.t
 k:t.k.natAbs<=2^900
 am:t.s.am<=2^800
theorem LC.mx(i:g.Ok){t:Tm}(h:LC g t):t.s.mn.natAbs<=2^862/\t.s.mx.natAbs<=2^862:=by have b:=h.at'.sb i;have:=gP h.am;have h1:=b.mn;have h2:=b.lt;have f:=b.mx;exact⟨i5 h1 (VQ (Vs h2) f) (Wr.mpr this),i5 (VQ h1 (Vs h2)) f (Wr.mpr this)⟩
theorem DZ(f:g.Ok){t:Tm}(h:LC g t):Mk 5 485 [t.x,.int t.k] (IU t.x t.k (dU t) (d9 t)):=mw (d:=3) (by decide) λk i=>by refine aP h.at'.obj λC fl e u=>?_;have z:=h.mx f;have b:=h.at'.bd;have p1:(2:Nat)^862<=2^1800:=VH (by decide) (by decide);rw[e]at b⊢;rw[O6,KT b (h.at'.sb f).mn (bR (Vg z.1 p1)) (bR (Vg z.2 p1)) (bR (Vg h.k (VH (by lia) (by decide)))) k i];rfl
theorem xG(l:List Int):l.sum=ao l:=by
 induction l with
 |nil=>rfl
 |cons a l ih=>rw[List.sum_cons,ak,ih]
theorem KQ{α:Type}(l:List α)(x:α->AV)(mn mx:α->Int)(h:∀a∈l,Bd (x a) (mn a) (mx a))(hl:l.length<=1000):Ev 3 619 [.obj 656 (iG (.list (l.map x)))] [] (.tup [.int (ao (l.map mn)),.int (ao (l.map mx))]):=aw (by decide) (by decide) λk _=>by
 refine ax (c7 (step:=aU (aF k) (aV k) 619 0 37) (σ0:=[]) (sh:=λy=>[("x",.fz y)]) (x:=x) (f:=λa=> .int (mn a)) l (λa u σ z acc i=>by
  have b:=(h a u (aF k) (aV k)).1;rcases z with rfl|⟨y,rfl⟩
  . rw[Az _ _ _ _ [] (.inl rfl),Vi i,b];rfl
  . rw[Az _ _ _ _ _ (.inr ⟨y,rfl⟩),Vi i,b];rfl) hl) λH B=>?_
 refine ax (c7 (step:=aU (aF k) (aV k) 619 1 37) (σ0:=[]) (sh:=λy=>[("x",.fz y)]) (x:=x) (f:=λa=> .int (mx a)) l (λa u σ z acc i=>by
  have b:=(h a u (aF k) (aV k)).2;rcases z with rfl|⟨y,rfl⟩
  . rw[Ay _ _ _ _ [] (.inl rfl),Vi i,b];rfl
  . rw[Ay _ _ _ _ _ (.inr ⟨y,rfl⟩),Vi i,b];rfl) hl) λI F=>?_
 have G:∀m:α->Int,gD (l.map λa=> .int (m a))=some (l.map m):=λm=>by rw[<-jQ (l.map m),Vv];rfl
 have b1:∀m:α->Int,sB (.builtin "sum") [.list (l.map λa=> .int (m a))]=some (.int (ao (l.map m))):=λm=>by show(gD (l.map λa=>AV.int (m a))).map _=_;rw[G,Option.map_some,xG]
 rw[Pl,B];show(sB (.builtin "sum") [.list (l.map λa=> .int (mn a))]).bind _=_;rw[b1,Vl,F];show(sB (.builtin "sum") [.list (l.map λa=> .int (mx a))]).bind _=_;rw[b1,Vl]
theorem DY{α:Type}(l:List α)(x:α->AV)(mn mx:α->Int)(h:∀a∈l,Bd (x a) (mn a) (mx a))(hl:l.length<=1000):Mk 5 656 [.list (l.map x)] (IF (l.map x) (ao (l.map mn)) (ao (l.map mx))):=mw (d:=3) (by decide) λk f=>by rw[O3,KQ l x mn mx h hl k f];rfl
noncomputable def R5(x:AV):Prop:=∃C fl,x= .obj C fl/\(C=284\/C=338\/C=430\/C=485\/C=526\/C=574)
theorem jd(h:∀t∈ts,At g t.x t.s t.t){x:AV}(hx:x∈dQ ts r):R5 x:=by
 unfold dQ at hx;refine Or.elim (Wl.mp hx) (λhx=>?_) λhx=>?_
 . refine ab (Vy.mp hx) λt ht f=>?_;subst f;unfold bz;split
   . refine aP ((h t ht).obj) λC fl e i=>?_;refine jn C fl e ?_;rcases i with rfl|rfl|rfl|rfl<;>decide
   . exact jn _ _ rfl (by decide)
 . split at hx
   . cases hx
   . rw[Vo.mp hx];exact jn _ _ rfl (by decide)
noncomputable abbrev MJ(x:AV):ah:=[("x",.fz x)]
noncomputable abbrev Fg(x y:AV):ah:=[("x",.fz x),("y",.fz y)]
theorem vo{α:Type}(l:List α)(f:α->AV):l.flatMap (λa=>[f a])=l.map f/\(l.map λa=>[f a].length).sum=l.length:=by
 induction l with
 |nil=>exact⟨rfl,rfl⟩
 |cons a l ih=>rw[VS,ih.1,Vn,Vn,List.sum_cons,ih.2];exact⟨rfl,by simp only[VP,Wb];lia⟩
noncomputable def Dw(σ:ah):Prop:=σ=[]\/∃y0 y1,σ=Fg y0 y1
theorem zm{l:List AV}(hl:l≠[])(x:AV)(σ:ah)(i:σ=MJ x\/∃y,σ=Fg x y)(acc:List AV)(z:acc.length+l.length<=1000):∃σ',Dw σ'/\aE (lR call make) (bf l) σ (.l acc)=some (σ',.l (acc++l)):=by
 induction l using List.casesOn with
 |nil=>exact Vu rfl hl
 |cons a l=>
  rw[VP]at z;have B:lR call make σ [a] (.l acc)=some (Fg x a,.l (acc++[a])):=by
   rcases i with rfl|⟨y,rfl⟩
   . exact(Aw call make x a acc [] (.inl rfl)).trans (Vi (by lia))
   . exact(Aw call make x a acc [("y",.fz y)] (.inr ⟨y,rfl⟩)).trans (Vi (by lia))
  obtain⟨σ',⟨y,rfl⟩,e⟩:=fL (step:=lR call make) (I:=λσ=>∃y,σ=Fg x y) (x:=λa=>a) (f:=λa=>[a]) l (acc++[a]) (Fg x a) ⟨a,rfl⟩ (λb hb σ i acc u=>by
   refine ax i λy F=>?_;clear i;subst F;simp only[VP,Wb]at u;exact ag _ ⟨b,rfl⟩ ((Aw call make x b acc [("y",.fz y)] (.inr ⟨y,rfl⟩)).trans (Vi (by exact VT u)))) (by
    rw[(vo l λa=>a).2,VO];simp only[VP,Wb];lia)
  rw[(vo l λa=>a).1,List.map_id']at e;refine ag _ (.inr ⟨x,y,rfl⟩) ?_;show(lR call make σ [a] (.l acc)).bind _=_;rw[B,Vl,WJ]at*
  exact e
theorem zI{xs:List AV}(h:∀x∈xs,R5 x)(hl:xs.length<=1000){fl:List (Str×AV)}(hf:fl=iG (.list xs)\/∃m M,fl=jL (.list xs) m M):Ev 3 652 [.obj 656 fl] [] (.list xs):=aw (by decide) (by decide) λk _=>by
 obtain⟨σ',_,e⟩:=fL (step:=aU (aF k) (aV k) 652 0 39) (I:=Dw) (x:=λa=>a) (f:=λa=>[a]) xs [] [] (.inl rfl) (λa u σ i acc z=>by
  refine aP (h a u) λC B e F=>?_;simp only[VP,Wb]at z;have G:aQ σ "x" (.fz a)=MJ a\/∃y,aQ σ "x" (.fz a)=Fg a y:=by
   rcases i with rfl|⟨y0,y1,rfl⟩
   . exact .inl rfl
   . exact .inr ⟨y1,rfl⟩
  refine ab (zm (call:=aF k) (make:=aV k) (l:=[a]) (by simp) a _ G acc (by simp only[VP,Wb];assumption)) λσ' h1 H=>?_;refine ag σ' h1 ?_;rw[<-H,e];exact EE _ _ C F B acc σ i) (by rw[(vo xs λa=>a).2];simpa using hl)
 rw[(vo xs λa=>a).1,List.map_id',Wm]at e;rw[Ku _ _ xs fl hf,e];rfl
theorem nb{R:Type}{s:Str}{k:Str->Option R}:b8 (.str s) k=k s:=rfl
end
set_option tactic.hygienic true
section
variable{g:Gv}{x:AV}{s:Sem}{t:Str}{ts us:List Tm}{r:Int}{n:Nat}{call:aI}{make:aH}
noncomputable abbrev aY:=List Tm×Int
noncomputable abbrev nO(n:aY):AV:=nX n.1 n.2
noncomputable def nz(n:aY):Bool:= !(n.1.isEmpty&&n.2==0)
theorem jP(ts:List Tm)(r:Int):(dQ ts r=[]/\ts=[]/\r=0/\nX ts r=aO 0)\/(∃x,dQ ts r=[x]/\nX ts r=x)\/((dQ ts r).length>=2/\nX ts r=bZ (dQ ts r) (nS ts r).mn (nS ts r).mx):=by
 have h0:dQ ts r=[]->ts=[]/\r=0:=λq=>by
  unfold dQ at q;refine af (List.append_eq_nil_iff.mp q) λq1 q2=>?_;refine⟨WL.mp q1,?_⟩;split at q2
  . assumption
  . injection q2
 unfold nX;generalize dQ ts r=l at*
 match l with
 |[]=>exact .inl ⟨rfl,(h0 rfl).1,(h0 rfl).2,rfl⟩
 |[x]=>exact .inr (.inl ⟨x,rfl,rfl⟩)
 |x::y::l=>exact .inr (.inr ⟨by simp,rfl⟩)
theorem zH{ns:List aY}(h:∀n∈ns,∀t∈n.1,At g t.x t.s t.t)(H:∀n∈ns,nz n=true)(hl:(ns.flatMap λn=>dQ n.1 n.2).length<=1000){fl:List (Str×AV)}(hf:fl=iG (.list (ns.map nO))\/∃m M,fl=jL (.list (ns.map nO)) m M):Ev 4 652 [.obj 656 fl] [] (.list (ns.flatMap λn=>dQ n.1 n.2)):=aw (d:=3) (by decide) (by decide) λk J=>by
 have G:∀(x:AV) σ,Dw σ->aQ σ "x" (.fz x)=MJ x\/∃y,aQ σ "x" (.fz x)=Fg x y:=λx σ i=>by
  rcases i with rfl|⟨y0,y1,rfl⟩
  . exact .inl rfl
  . exact .inr ⟨y1,rfl⟩
 have u:∀ns:List aY,(ns.map λn=>(dQ n.1 n.2).length).sum=(ns.flatMap λn=>dQ n.1 n.2).length:=λns=>by rw[List.length_flatMap]
 have h1:∀n∈ns,(dQ n.1 n.2).length<=1000:=λn hn=>by refine cq (List.append_of_mem hn) λa b N=>?_;subst N;simp only[List.flatMap_append,VS,VO]at hl;lia
 obtain⟨σ',_,e⟩:=fL (step:=aU (aF k) (aV k) 652 0 39) (I:=Dw) (x:=nO) (f:=λn=>dQ n.1 n.2) ns [] [] (.inl rfl) (λn hn σ i acc z=>by
  have B:=λx(hx:x∈dQ n.1 n.2)=>jd (h n hn) hx;rcases jP n.1 n.2 with⟨_,q1,q2,_⟩|⟨x,q1,q2⟩|⟨q1,q2⟩
  . have:=H n hn;unfold nz at this;rw[q1,q2]at this;exact Vu this (by decide)
  . rw[q1]at z B⊢;refine aP (B x Vm) λC O e P=>?_;refine ab (zm (call:=aF k) (make:=aV k) (l:=[x]) (by simp) x _ (G x σ i) acc z) λσ' h1 F=>?_;refine ag σ' h1 ?_;show aU _ _ 652 0 39 σ [nX n.1 n.2] _=_;rw[q2,<-F,e];exact EE _ _ C P O acc σ i
  . refine ab (zm (call:=aF k) (make:=aV k) (l:=dQ n.1 n.2) (λq=>by rw[q]at q1;exact Vu q1 (by decide)) (nO n) _ (G _ σ i) acc z) λσ' Q F=>?_;refine ag σ' Q ?_;show aU _ _ 652 0 39 σ [nX n.1 n.2] _=_;rw[q2,Lh _ _ _ acc σ i];have U:sC ba (hZ (aF k) (aV k)) "flat_components" (bZ (dQ n.1 n.2) (nS n.1 n.2).mn (nS n.1 n.2).mx)=some (.list (dQ n.1 n.2)):=(Mc (call:=aF k) (make:=aV k) (C:=656) rfl (by decide) (show ba.prop 656 "flat_components"=some 652 by kernel_rfl)).trans (zI B (h1 n hn) (.inr ⟨_,_,rfl⟩) k J);rw[U,Vl];show aE _ (bf _) _ _=_;have W:nO n=bZ (dQ n.1 n.2) (nS n.1 n.2).mn (nS n.1 n.2).mx:=q2;rw[<-F,W]) (by rw[u];simpa using hl)
 rw[Wm]at e;rw[Ku _ _ _ fl hf,e];rfl
theorem At.key(i:g.Ok)(h:At g x s t){p:Nat}(u:s.ph<=p)(z:p<=120):Ga (4*p+10) x "key" (.str t):=λk B=>by refine aP h.obj λC fl e f=>?_;have a:=h.rn i (by lia) (2*p+2) (by lia);have b:Bm x=some t:=h.tx i 300 (by lia);rw[e]at a b⊢;rw[Mc (D1 f.nd).2 (by decide) (D1 f.nd).1];exact Gj f.nd (h.K7 e) a (by lia) b k (by lia)
noncomputable abbrev It:=Tm⊕Int
noncomputable def aW(n:aY):List It:=n.1.map .inl++if n.2=0 then[]else[.inr n.2]
noncomputable def iX:It->AV
 | .inl t=>bz t
 | .inr c=>aO c
theorem jc(n:aY):(aW n).map iX=dQ n.1 n.2:=by unfold aW dQ;rw[VM,Vv];congr 1;split<;>rfl
noncomputable def sS(b:aY):It->aY
 | .inl t=>(cx b.1 t,b.2)
 | .inr c=>(b.1,b.2+c)
theorem rK(ns:List aY):∀b:aY,(ns.flatMap aW).foldl sS b=((ns.flatMap (·.1)).foldl cx b.1,b.2+ao (ns.map (·.2))):=by
 have h1:∀(ts:List Tm)(b:aY),(ts.map Sum.inl:List It).foldl sS b=(ts.foldl cx b.1,b.2):=λts=>by
  induction ts with
  |nil=>intro b;rfl
  |cons a l ih=>intro b;rw[Vn,We,ih];rfl
 induction ns with
 |nil=>intro b;simp[ao]
 |cons n ns ih=>
  intro b;rewrite[VS,W8,ih,VS,W8,Vn,ak];unfold aW;rw[W8,h1];split
  . rename_i q;rw[q,List.foldl_nil];simp
  . show(_,b.2+n.2+_)=_;rw[W0];rfl
noncomputable abbrev gF(f:Tm->AV)(l:List Tm):List (Str×AV):=l.map λu=>(u.t,f u)
theorem rV(f:Tm->AV)(a:Str):∀l:List Tm,(∃u∈l,u.t=a/\fe (gF f l) a=some (f u))\/((∀u∈l,u.t≠a)/\fe (gF f l) a=none)
 |[]=> .inr ⟨λ_ h=>(nomatch h),rfl⟩
 |u::l=>by
  have e:fe (gF f (u::l)) a=if a==u.t then some (f u)else fe (gF f l) a:=by show List.lookup a ((u.t,f u)::_)=_;rw[VK];induction(a==u.t)<;>rfl
  rw[e];by_cases q:u.t=a
  . exact .inl ⟨u,Vm,q,by rw[q];simp⟩
  . have:(a==u.t)=false:=by simpa using λh=>q h.symm
    rw[this];rcases rV f a l with⟨v,hv,h⟩|⟨h1,h2⟩
    . exact .inl ⟨v,Vw _ hv,h⟩
    . refine .inr ⟨λv hv=>?_,h2⟩;rcases VN.mp hv with rfl|hv
      . exact q
      . exact h1 v hv
theorem tJ{l:List Tm}(h:Nn l){u v:Tm}(f:u∈l)(hv:v∈l)(e:u.t=v.t):u=v:=by
 induction l with
 |nil=>cases f
 |cons a l ih=>
  refine af (Xh.mp h) λn1 n2=>?_;refine Or.elim (VN.mp f) (λh1=>?_) λh1=>?_<;>refine Or.elim (VN.mp hv) (λh2=>?_) λh2=>?_
  . rw[h1,h2]
  . exact Vu (Vy.mpr ⟨v,h2,by rw[<-e,h1]⟩) n1
  . exact Vu (Vy.mpr ⟨u,h1,by rw[e,h2]⟩) n1
  . exact ih n2 h1 h2
theorem zA(f:Tm->AV){l:List Tm}(hn:Nn l)(t:Tm)(x:AV)(h:∀u∈l,u.t=t.t->f (pO t u)=x)(h0:(∀u∈l,u.t≠t.t)->x=f t):gF f (cx l t)=bI (gF f l) t.t x:=by
 unfold cx bI;have e:(gF f l).any (λz=>decide (z.1=t.t))=l.any λu=>decide (u.t=t.t):=by rw[List.any_map];rfl
 rw[e];split
 . show List.map _ (List.map _ _)=List.map _ (List.map _ _);rw[Vv,Vv];refine V0 λu i=>?_;show((pO t u).t,f (pO t u))=if u.t=t.t then(u.t,x)else(u.t,f u)
   rw[(vV t u).1];split
   . rename_i q;rw[h u i q]
   . rename_i q;have:pO t u=u:=Vk q;rw[this]
 . rename_i q;rw[h0 λu i e=>q (VX.mpr ⟨u,i,VJ e⟩)];simp[gF]
theorem AQ(l:List Tm)(t:Tm):(cx l t).length<=l.length+1:=by unfold cx;split<;>simp
theorem jX:∀(l:List It)(b:aY),(l.foldl sS b).1.length<=b.1.length+l.length
 |[],b=>Vt _
 |i::l,b=>by
  have:=jX l (sS b i);have h:(sS b i).1.length<=b.1.length+1:=by
   induction i with
   |inl t=>exact AQ ..
   |inr c=>show b.1.length<=_;lia
  rw[We,VP];exact Vg this (Vg (Wh h _) (Wj (Nat.add_right_comm ..)))
theorem lX:∀(l:List It)(b:aY),Nn b.1->Nn (l.foldl sS b).1
 |[],_,h=>h
 | .inl _::l,_,h=>lX l _ (kZ h)
 | .inr _::l,_,h=>lX l _ h
theorem N9{k:Nat}{xs:List AV}{i:It}(G:∀t,i= .inl t->At g t.x t.s t.t/\gA (aF k) (aV k) t.x "key"=some (.str t.t)){b:aY}(hn:Nn b.1)(hl:b.1.length<=1000)(y:AV)(hy:y=iX i):
 ay (aF k) (aV k) 211 0 193 (d6 xs (gF (λu=> .int u.k) b.1) (gF (·.x) b.1) b.2 [("node",.fz y)])=some (.next (d6 xs (gF (λu=> .int u.k) (sS b i).1) (gF (·.x) (sS b i).1) (sS b i).2 [("node",.fz y)])):=by
 subst hy
 induction i with
 |inr c=>exact Ju ..
 |inl t=>
  refine af (G t rfl) λH B=>?_;refine aP H.obj λC fl e I=>?_;have s1:gF (·.x) (cx b.1 t)=bI (gF (·.x) b.1) t.t ((fe (gF (·.x) b.1) t.t).getD t.x):=zA (·.x) hn t _ (λu f q=>by
   rcases rV (·.x) t.t b.1 with⟨v,hv,e1,e2⟩|⟨h1,_⟩
   . rw[e2,tJ hn f hv (q.trans e1.symm),(vV t v).2.1];rfl
   . exact Vu q (h1 u f)) λh=>by
   rcases rV (·.x) t.t b.1 with⟨v,hv,e1,e2⟩|⟨_,h2⟩
   . exact Vu e1 (h v hv)
   . rw[h2];rfl
  have J:∃z,oP (aF k) (aV k) .Add ((fe (gF (λu=> .int u.k) b.1) t.t).getD (.int 0)) (.int t.k)=some z/\gF (λu=> .int u.k) (cx b.1 t)=bI (gF (λu=> .int u.k) b.1) t.t z:=by
   rcases rV (λu=> .int u.k) t.t b.1 with⟨v,hv,e1,e2⟩|⟨h1,h2⟩
   . refine ag (.int (v.k+t.k)) (by rw[e2];exact oI ..) (zA _ hn t _ (λu f q=>?_) λh=>Vu e1 (h v hv));rw[tJ hn f hv (q.trans e1.symm)];have:pO t v={v with k:=v.k+t.k}:=Vi e1;rw[this]
   . refine ag (.int (0+t.k)) (by rw[h2];exact oI ..) (zA _ hn t _ (λu f q=>Vu q (h1 u f)) λ_=>by rw[Xb])
  refine ab J λz F N=>?_;have l1:(gF (·.x) b.1).length<=1000:=by rw[Vp];exact hl
  have l2:(gF (λu=>AV.int u.k) b.1).length<=1000:=by rw[Vp];exact hl
  show ay _ _ 211 0 193 (d6 xs _ _ _ [("node",.fz (bz t))])=some (.next (d6 xs (gF (λu=> .int u.k) (cx b.1 t)) (gF (·.x) (cx b.1 t)) b.2 [("node",.fz (bz t))]));rw[s1,N];unfold bz;by_cases q:t.k=1
  . rw[Vi q];rw[q]at F;rw[e]at B⊢;rw[Jw _ _ xs _ _ b.2 C I fl,B];simp only[Vl,nb,l1,l2,if_true,F]
  . rw[Vk q];rw[e]at B⊢;rw[Jv _ _ xs _ _ b.2 t.k _ _ C fl,B];simp only[Vl,nb,l1,l2,if_true,F]
end
set_option tactic.hygienic false
set_option tactic.hygienic true
section
variable{g:Gv}{x:AV}{s:Sem}{t:Str}{ts us:List Tm}{r:Int}{n:Nat}{call:aI}{make:aH}
theorem eP{α}{step:ah->List AV->Acc->Option (ah×Acc)}{I:ah->Prop}{x:α->List AV}{f:α->List AV}:∀(l:List α)(acc:List AV)(σ:ah),I σ->(∀a∈l,∀σ,I σ->∀acc:List AV,acc.length+(f a).length<=1000->∃σ',I σ'/\step σ (x a) (.l acc)=some (σ',.l (acc++f a)))->acc.length+(l.flatMap f).length<=1000->
 ∃σ',I σ'/\aE step (l.map x) σ (.l acc)=some (σ',.l (acc++l.flatMap f))
 |[],acc,σ,bJ,_,_=>⟨σ,bJ,by simp[aE]⟩
 |a::l,acc,σ,bJ,H,hl=>by rw[VS,VO]at hl;refine ab (H a Vm σ bJ acc (by lia)) λi h1 e=>?_;refine ab (eP l (acc++f a) i h1 (λb hb=>H b (Vw _ hb)) (by simp only[VO];lia)) λσ' h2 u=>?_;refine ag σ' h2 ?_;simp only[Vn,aE,e,Vl];rw[VS,<-WJ];exact u
theorem kW{α:Type}(p:α->Bool)(f:α->AV)(l:List α):(l.flatMap λn=>if p n then[f n]else[])=(l.filter p).map f:=by
 induction l with
 |nil=>rfl
 |cons a l ih=>rw[VS,Ws,ih];split<;>rfl
noncomputable def Ol:It->Int
 | .inl t=>dU t
 | .inr c=>c
noncomputable def Oj:It->Int
 | .inl t=>d9 t
 | .inr c=>c
theorem y4(ts:List Tm)(r:Int):ao ((aW (ts,r)).map Ol)=(nS ts r).mn/\ao ((aW (ts,r)).map Oj)=(nS ts r).mx:=by
 unfold aW;rw[VM,VM,Vv,Vv,ci,ci];have h:∀f:It->Int,(∀c,f (.inr c)=c)->ao ((if r=0 then[]else[(.inr r:It)]).map f)=r:=λf hf=>by
  split
  . rename_i q;rw[q];rfl
  . show f (.inr r)+0=r;rw[hf];lia
 exact⟨Vx _ (h _ λ_=>rfl),Vx _ (h _ λ_=>rfl)⟩
theorem Gm(f:∀t∈ts,At g t.x t.s t.t){i:It}(hi:i∈aW (ts,r)):Bd (iX i) (Ol i) (Oj i):=by
 unfold aW at hi;refine Or.elim (Wl.mp hi) (λh=>?_) λh=>?_
 . refine ab (Vy.mp h) λt ht u=>?_;rw[<-u];exact xC (f t ht)
 . split at h
   . cases h
   . rw[Vo.mp h];exact λ_ _=>t7 ..
theorem gU{xs:List AV}(h:xs.length<=1000):fF xs=some (.int xs.length):=Vi h
theorem GZ(F:g.Ok)(B:∀t∈ts,At g t.x t.s t.t)(G:∀t∈ts,t.k≠0)(hl:ts.length<=900){k:Nat}(z:5<=k):ou (aF k) (aV k) (dQ ts r)=some (nX ts r):=by
 have u:(dQ ts r).length<=1000:=by unfold dQ;rw[VO,Vp];split<;>simp<;>lia
 unfold ou;refine bE (gU u) ?_;show(if decide ((1:Int)<(dQ ts r).length)=true then _ else _)=_;rcases jP ts r with⟨q1,rfl,rfl,q2⟩|⟨x,q1,q2⟩|⟨q1,q2⟩
 . rw[Vk (by rw[q1];decide),q1];show(aV k 338 [.int 0]).bind _=_;rw[e9 0 k (by exact VT z)];rfl
 . rw[Vk (by rw[q1];simp),q1,q2];rfl
 . rw[Vi (VJ (by lia)),q2];have hn:ts≠[]:=λq=>by
    rw[q]at q1;unfold dQ at q1;split at q1<;>simp at q1
   have e:=DY (aW (ts,r)) iX Ol Oj (λi hi=>Gm B hi) (by rw[<-Vp (f:=iX),jc];exact u) k z;rw[jc,(y4 ts r).1,(y4 ts r).2]at e;rw[e];have H:=rE (r:=r) hn G λt ht=>(B t ht).sb F;show(aF k 354 [bZ (dQ ts r) (nS ts r).mn (nS ts r).mx] []).bind some=_;rw[aw (d:=2) (r:=bZ (dQ ts r) (nS ts r).mn (nS ts r).mx) (by decide) (by decide) (λj _=>by rw[zL,Vi (VJ (Vs H)),Vk (by simp;lia)]) k (by exact up z rfl)];rfl
theorem IW{n:aY}(h:nz n=false):n.1=[]/\n.2=0:=by unfold nz at h;simpa using h
theorem uS:∀ns:List aY,(ns.filter nz).flatMap (·.1)=ns.flatMap (·.1)/\ao ((ns.filter nz).map (·.2))=ao (ns.map (·.2))/\(ns.filter nz).flatMap (λn=>dQ n.1 n.2)=ns.flatMap λn=>dQ n.1 n.2
 |[]=>⟨rfl,rfl,rfl⟩
 |n::ns=>by
  refine dh (uS ns) λa b c=>?_;rw[Ws,VS,Vn,ak,VS];split
  . rw[VS,Vn,ak,VS,a,b,c];exact⟨rfl,rfl,rfl⟩
  . rename_i q;refine af (IW (by simpa using q)) λh1 h2=>?_;rw[a,b,c,h1,h2];exact⟨rfl,by lia,rfl⟩
structure Nw(g:Gv)(n:aY):Prop where
 nz:∀t∈n.1,t.k≠0
 nd:Nn n.1
 am:(nS n.1 n.2).am<=2^800
 a:∀t∈n.1,At g t.x t.s t.t
theorem Nd.w{n:aY}(h:Nd g n.1 n.2):Nw g n:=⟨h.p.nz,h.p.nd,h.p.am,h.a⟩
theorem IX(f:g.Ok){n:aY}(h:Nw g n):(nz n=true<->((nS n.1 n.2).mx≠0\/(nS n.1 n.2).mn≠0)):=by
 by_cases q:n.1=[]
 . obtain⟨a,b⟩:=n;simp only at q;rw[q];simp[nz,nS,ao]
 . have:=rE (r:=n.2) q h.nz λt ht=>(h.a t ht).sb f;have e:nz n=true:=by unfold nz;simp[q]
   rw[e];simp;lia
theorem KZ(N:g.Ok)(ns:List aY)(h:∀n∈ns,Nw g n){p:Nat}(hp:∀n∈ns,nP n.1<=p)(cH:p<=120)(hl:(ns.flatMap λn=>dQ n.1 n.2).length<=900)(H5:ns.length<=900)(am:(nS (ns.flatMap (·.1)) 0).am<=2^850):
 Ev (4*p+11) 211 [.list (ns.map nO)] [] (nX (tM (ns.flatMap (·.1))) (ao (ns.map (·.2)))):=aw (by lia) (by decide) λk Z=>by
 obtain⟨gf,_,P⟩:=eP (step:=aU (aF k) (aV k) 211 0 40) (I:=λσ=>σ=[]\/∃y,σ=[(("x":Str),EV.fz y)]) (x:=λn=>[nO n]) (f:=λn=>if nz n then[nO n]else[]) ns [] [] (.inl rfl) (λn hn σ J acc H=>by
  refine af (lH (r:=n.2) (h n hn).a (aF k) (aV k)) λb1 b2=>?_;have e:=Hw (aF k) (aV k) (nO n) acc σ J;refine ag ([(("x":Str),EV.fz (nO n))]:ah) (.inr ⟨_,rfl⟩) (e.trans ?_);rw[b2,b1];have O:=IX N (h n hn);show(if((nS n.1 n.2).mx !=0)=true then _ else if((nS n.1 n.2).mn !=0)=true then _ else _)=_;by_cases q1:((nS n.1 n.2).mx !=0)=true
  . have:=O.mpr (.inl (by simpa using q1));rw[this]at H⊢;simp only[if_true,VP,Wb]at H;rw[Vi q1,Vi (by exact VT H)];rfl
  . rw[Vk q1];by_cases q2:((nS n.1 n.2).mn !=0)=true
    . have:=O.mpr (.inr (by simpa using q2));rw[this]at H⊢;simp only[if_true,VP,Wb]at H;rw[Vi q2,Vi (by lia)];rfl
    . have:nz n=false:=by
       induction e:nz n with
       |false=>rfl
       |true=>exact Vu (O.mp e) (by simp at q1 q2;simp[q1,q2])
      rw[Vk q2,this];simp) (by
    rw[kW nz nO,Vp];have:=V8 nz ns;simp only[Wb];lia)
 rw[kW nz nO,Wm]at P;have Up:aE (aU (aF k) (aV k) 211 0 40) (bf (ns.map nO)) [] (.l [])=some (gf,.l ((ns.filter nz).map nO)):=by rw[<-P];show aE _ (List.map _ (List.map _ _)) _ _=_;rw[Vv];rfl
 refine dh (uS ns) λd1 d2 d3=>?_;rw[<-d1,<-d2,PJ,Up];have Q:∀n∈ns.filter nz,Nw g n:=λn hn=>h n (VY.mp hn).1;have O:∀n∈ns.filter nz,nz n=true:=λn hn=>(VY.mp hn).2;have L0:∀n∈ns.filter nz,nP n.1<=p:=λn hn=>hp n (VY.mp hn).1;have U0:(ns.filter nz).length<=900:=Vg (V8 ..) H5;rw[<-d3]at hl;rw[<-d1]at am;generalize ns.filter nz=ms at*
 have q0:ib (.list (ms.map nO))=some (!(ms.map nO).isEmpty):=Vi (by rw[Vp];lia);show(ib (.list (ms.map nO))).bind _=_;refine bE q0 ?_
 match ms with
 |[]=>show(aV k 338 [.int 0]).bind _=_;rw[e9 0 k (by exact up Z rfl)];rfl
 |[n]=>
  have hn:=Q n Vm;have:tM ([n].flatMap (·.1))=n.1:=by simp[i6 hn.nd hn.nz]
  rw[this];have:ao ([n].map (·.2))=n.2:=by show n.2+0=_;lia
  rw[this];rfl
 |n1::n2::ms=>
  generalize hM:n1::n2::ms=ls at*
  have l2:2<=ls.length:=by rw[<-hM];simp
  refine(Vk (by rw[<-hM];simp)).trans ?_;refine bE (gU (by rw[Vp];lia)) ?_;show(if(((ls.map nO).length:Int)==1)=true then _ else _)=_;rw[Vk (by rw[Vp];simp;lia)];refine bE (DY ls nO (λn=>(nS n.1 n.2).mn) (λn=>(nS n.1 n.2).mx) (λn hn=>lH (Q n hn).a) (by lia) k (by exact up Z rfl)) ?_;have ef:gA (aF k) (aV k) (bZ (ls.map nO) (ao (ls.map λn=>(nS n.1 n.2).mn)) (ao (ls.map λn=>(nS n.1 n.2).mx))) "flat_components"=some (.list (ls.flatMap λn=>dQ n.1 n.2)):=
   (Mc (C:=656) rfl (by decide) (show ba.prop 656 "flat_components"=some 652 by kernel_rfl)).trans (zH (λn hn=>(Q n hn).a) O (by lia) (.inr ⟨_,_,rfl⟩) k (by lia))
  refine bE ef ?_;have ei:(ls.flatMap λn=>dQ n.1 n.2)=(ls.flatMap aW).map iX:=by rw[List.map_flatMap];refine Vx (λf=>List.flatMap f ls) (funext λn=>(jc n).symm)
  rw[ei]at hl⊢;rw[Vp]at hl;have X:∀t,.inl t∈ls.flatMap aW->t∈ls.flatMap (·.1):=λt ht=>by
   refine ab (Wz.mp ht) λn hn h=>?_;refine Wz.mpr ⟨n,hn,?_⟩;unfold aW at h;refine Or.elim (Wl.mp h) (λh=>?_) λh=>?_
   . refine ab (Vy.mp h) λu G e=>?_;(injection e with z;rw[<-z]);exact G
   . split at h
     . cases h
     . injection Vo.mp h
  have Y:∀t∈ls.flatMap (·.1),At g t.x t.s t.t/\t.s.ph<=p/\t.s.am<=2^800:=λt ht=>by refine ab (Wz.mp ht) λn hn h=>?_;have hd:=Q n hn;refine⟨hd.a t h,Vg (aR (f:=λt:Tm=>t.s.ph) h) (L0 n hn),?_⟩;have P:bC t.k*t.s.am<=(nS n.1 n.2).am:=aR (f:=λt:Tm=>bC t.k*t.s.am) h;have e2:=VC t.s.am (fb (hd.nz t h));have e3:=hd.am;lia
  obtain⟨xo,e3,r2,OC,rfl⟩:=fJ (body:=ay (aF k) (aV k) 211 0 193) (nm:=["node"]) (x:=iX) (f:=sS) (b0:=(([],0):aY)) (R:=λb σ=>∃r:ah,(r=[]\/∃x,r=[(("node":Str),EV.fz x)])/\σ=d6 (ls.map nO) (gF (λu=> .int u.k) b.1) (gF (·.x) b.1) b.2 r) (ls.flatMap aW) (λB i ka e σ J=>by
   refine ab J λr hr bg=>?_;clear J;subst bg;have e5:aX (d6 (ls.map nO) (gF (λu=> .int u.k) (B.foldl sS ([],0)).1) (gF (·.x) (B.foldl sS ([],0)).1) (B.foldl sS ([],0)).2 r) ["node"] [iX i]=d6 (ls.map nO) (gF (λu=> .int u.k) (B.foldl sS ([],0)).1) (gF (·.x) (B.foldl sS ([],0)).1) (B.foldl sS ([],0)).2 [("node",.fz (iX i))]:=by rcases hr with rfl|⟨x,rfl⟩<;>rfl
   rw[e5,N9 (i:=i) (λt q=>by
    have ht:=Y t (X t (by rw[e,q];simp));exact⟨ht.1,ht.1.key N ht.2.1 cH k (by assumption)⟩) (lX B _ (by simp[Nn])) (by
     have:=jX B ([],0);have U:=Vx List.length e;rw[VO]at U;simp only[Wb,VP,Nat.zero_add]at this U;lia) _ rfl]
   exact⟨_,rfl,_,.inr ⟨_,rfl⟩,rfl⟩) ⟨[],.inl rfl,rfl⟩
  show(bU (ay (aF k) (aV k) 211 0 193) ["node"] (bf _) (d6 (ls.map nO) [] [] 0 [])).bind (wJ (aF k) (aV k) 211 7 193)=_;refine bE (show bU (ay (aF k) (aV k) 211 0 193) ["node"] (bf ((ls.flatMap aW).map iX)) (d6 (ls.map nO) [] [] 0 [])=_ from e3) ?_;show cS (aF k) (aV k) 211 7 193 _=_;rw[KI _ _ _ _ _ _ r2 OC,rK];have G:Un (ls.flatMap (·.1)):=uA λt ht=>(Y t ht).1;have hL:=jU (λs k=>bC k*s.am) rJ (ls.flatMap λn:aY=>n.1) [] (by simp[Nn]) G;have lS:=λu(h:u∈(ls.flatMap (·.1)).foldl cx [])=>jV (ls.flatMap (·.1)) [] h;have J1:((ls.flatMap (·.1)).foldl cx []).length<=900:=by have:=jX (ls.flatMap aW) ([],0);rw[rK]at this;simp only[Wb]at this;lia
  have Tt:=lW (ls.flatMap (·.1)) [] (by simp[Nn]);have OH:tM (ls.flatMap (·.1))=((ls.flatMap (·.1)).foldl cx []).filter λt=>t.k !=0:=rfl;rw[OH];rw[Xb];have hL:aq (((ls.flatMap (·.1)).foldl cx []).map λu=>bC u.k*u.s.am)<=2^850:=by have:(nS (ls.flatMap (·.1)) 0).am=aq ((ls.flatMap (·.1)).map λu=>bC u.k*u.s.am):=rfl;simp only[List.map_nil]at hL;have:aq []=0:=rfl;lia
  generalize(ls.flatMap (·.1)).foldl cx []=L at*
  have W:∀u∈L,At g u.x u.s u.t/\u.s.am<=2^800:=λu G=>by
   refine CZ (lS u G) λv hv a b c=>?_;refine Or.elim hv (λhv=>?_) λhv=>?_
   . cases hv
   . have:=Y v hv;rw[<-a,<-b,<-c];exact⟨this.1,this.2.2⟩
  obtain⟨Mq,_,e4⟩:=eP (step:=aU (aF k) (aV k) 211 1 40) (I:=λσ=>∃r:ah,σ=(("mul_nodes":Str),EV.fz (.dict (gF (·.x) L)))::r/\(r=[]\/∃y0 y1,r=[(("a":Str),EV.fz y0),(("b_sum":Str),EV.fz y1)])) (x:=λu:Tm=>[.str u.t,.int u.k]) (f:=λu=>if u.k !=0 then[bz u]else[]) L [] [("mul_nodes",.fz (.dict (gF (·.x) L)))] ⟨[],rfl,.inl rfl⟩ (λu G σ J acc H=>by
   refine ab J λr aK hr=>?_;clear J;rw[aK];refine ag (("mul_nodes",.fz (.dict (gF (·.x) L)))::[(("a":Str),EV.fz (.str u.t)),(("b_sum":Str),EV.fz (.int u.k))]:ah) ⟨_,rfl,.inr ⟨_,_,rfl⟩⟩ ((Hv (aF k) (aV k) (gF (·.x) L) u.t u.k acc r hr).trans ?_);by_cases q:(u.k !=0)=true
   . rw[Vi q]at H⊢;simp only[VP,Wb]at H;rw[Vi (by lia),Vi q];have ea:fe (gF (·.x) L) u.t=some u.x:=by
      rcases rV (·.x) u.t L with⟨v,hv,a1,a2⟩|⟨a1,_⟩
      . rw[a2,tJ Tt hv G a1]
      . exact Vu rfl (a1 u G)
     rw[ea];unfold bz;by_cases q1:u.k=1
     . rw[Vk (by simpa using q1),Vi q1];rfl
     . rw[Vi (by simpa using q1),Vk q1,Vl];have H6:u.k.natAbs<=2^900:=by
        have P:bC u.k*u.s.am<=aq (L.map λu=>bC u.k*u.s.am):=aR (f:=λt:Tm=>bC t.k*t.s.am) G;have e2:=Wq (jb u.k) ((W u G).1.sb N).am;lia
       rw[DZ N ⟨(W u G).1,H6,(W u G).2⟩ k (by lia)];rfl
   . rw[Vk q,Vk q];simp) (by
     rw[kW (λu:Tm=>u.k !=0) bz,Vp];have:=V8 (λu:Tm=>u.k !=0) L;simp only[Wb];lia)
  rw[kW (λu:Tm=>u.k !=0) bz,Wm]at e4;have U:(gF (λu=>AV.int u.k) L).map (λz=>[AV.str z.1,z.2])=L.map λu=>[.str u.t,.int u.k]:=by rw[Vv];rfl
  rw[U,e4];have hF:∀t∈L.filter λu=>u.k !=0,At g t.x t.s t.t/\t.k≠0:=λt ht=>⟨(W t (VY.mp ht).1).1,by simpa using(VY.mp ht).2⟩;have TU:(L.filter λu=>u.k !=0).length<=900:=Vg (V8 ..) J1;generalize(L.filter λu=>u.k !=0)=F at*
  show(if(ao (ls.map (·.2))!=0)=true then _ else _)=_;have E:=GZ (r:=ao (ls.map (·.2))) N (λt ht=>(hF t ht).1) (λt ht=>(hF t ht).2) TU (k:=k) (by lia);unfold dQ at E;by_cases q:ao (ls.map (·.2))=0
  . rw[Vi q,WB]at E;rw[Vk (by simpa using q)];exact E
  . rw[Vk q]at E;rw[Vi (by simpa using q),e9 _ k (by lia),Vl,Vi (by rw[Vp];lia)];exact E
end
set_option tactic.hygienic false
set_option tactic.hygienic true
section
variable{g:Gv}{x:AV}{s:Sem}{t:Str}{ts us:List Tm}{r:Int}{call:aI}{make:aH}{n m:aY}
noncomputable abbrev sm(n:aY):Sem:=nS n.1 n.2
noncomputable abbrev Ng(g:Gv)(n:aY):Prop:=Nd g n.1 n.2
structure RS(g:Gv)(m:aY)(val:(Nat->Int)->Int)(ph p am:Nat)(vs:Nat->Prop):Prop where
 nd:Ng g m
 val:∀ρ,g.In ρ->(sm m).val ρ=val ρ
 ph:(sm m).ph<=ph
 p:nP m.1<=p
 am:(sm m).am<=am
 vs:∀i,(sm m).vs i=true->vs i
noncomputable def cu(ns:List aY):aY:=(tM (ns.flatMap (·.1)),ao (ns.map (·.2)))
theorem t8(f:Tm->Int)(ns:List aY):ao ((ns.flatMap (·.1)).map f)+ao (ns.map (·.2))=ao (ns.map λn=>ao (n.1.map f)+n.2):=by
 induction ns with
 |nil=>rfl
 |cons n ns ih=>rw[VS,VM,ci,Vn,Vn,ak,ak,<-ih];lia
theorem jY(f:Tm->Nat)(ns:List aY):aq ((ns.flatMap (·.1)).map f)=aq (ns.map λn=>aq (n.1.map f)):=by
 induction ns with
 |nil=>rfl
 |cons n ns ih=>rw[VS,VM,bN,Vn,au,<-ih]
theorem cO{i:Nat}(h:(nS ts r).vs i=true):∃t∈ts,t.s.vs i=true:=VX.mp h
theorem xI{ns:List aY}(h:∀n∈ns,Nw g n)(u:aq (ns.map λn=>(sm n).am)<=2^800)(hr:(ao (ns.map (·.2))).natAbs<=2^880):
 RS g (cu ns) (λρ=>ao (ns.map λn=>(sm n).val ρ)) (aq (ns.map λn=>(sm n).ph)) (aq (ns.map λn=>nP n.1)) (aq (ns.map λn=>(sm n).am)) (λi=>∃n∈ns,(sm n).vs i=true):=by
 have f:∀t∈ns.flatMap (·.1),At g t.x t.s t.t:=λt ht=>by refine ab (Wz.mp ht) λn hn h1=>?_;exact(h n hn).a t h1
 have M:=DW (uA f);have val:∀ρ,(sm (cu ns)).val ρ=ao (ns.map λn=>(sm n).val ρ):=λρ=>by show ao ((tM (ns.flatMap (·.1))).map λt=>t.s.val ρ*t.k)+ao (ns.map (·.2))=_;rw[M.val ρ,t8 (λt=>t.s.val ρ*t.k)];rfl
 have am:(sm (cu ns)).am<=aq (ns.map λn=>(sm n).am):=by have:=M.am;rw[jY (λt=>bC t.k*t.s.am)]at this;exact this
 have z:∀t∈(cu ns).1,At g t.x t.s t.t:=λt ht=>by obtain⟨_,v,hv,a,b,c⟩:=M.mem t ht;rw[<-a,<-b,<-c];exact f v hv
 refine⟨⟨⟨λt ht=>(M.mem t ht).1,M.nn,Vg am u,hr⟩,z⟩,λρ _=>val ρ,?_,?_,am,λi hi=>?_⟩
 . have:=M.ph;rw[jY (λt=>wk t.k*t.s.ph)]at this;exact this
 . have:=M.p;unfold nP at this;rw[jY (λt=>t.s.ph)]at this;exact this
 . refine ab (cO hi) λt ht h1=>?_;obtain⟨_,v,hv,a,b,c⟩:=M.mem t ht;refine ab (Wz.mp hv) λn hn h2=>?_;refine ag n hn (VX.mpr ⟨v,h2,?_⟩);rw[c];exact h1
theorem xH{ns:List aY}(h:∀n∈ns,Nw g n)(f:aq (ns.map λn=>(sm n).am)<=2^800)(u:g.Ok)(hv:(ao (ns.map λn=>(sm n).val g.lo)).natAbs<=2^879+2^863):
 RS g (cu ns) (λρ=>ao (ns.map λn=>(sm n).val ρ)) (aq (ns.map λn=>(sm n).ph)) (aq (ns.map λn=>nP n.1)) (aq (ns.map λn=>(sm n).am)) (λi=>∃n∈ns,(sm n).vs i=true):=
 xI h f (oQ u (ts:=ns.flatMap (·.1)) (λt ht=>by
  refine ab (Wz.mp ht) λn hn h1=>?_;exact(h n hn).a t h1) (by
   have:=jY (λt=>bC t.k*t.s.am) ns;show aq _<=_;rw[this];exact f) (by
   have:=t8 (λt=>t.s.val g.lo*t.k) ns;show(ao _+ao _).natAbs<=_;rw[this];exact hv))
noncomputable def eV(j:Int)(n:aY):aY:=if j=0 then([],0)else(n.1.map λt=>{t with k:=t.k*j},n.2*j)
theorem o5(a b:Int):bC (a*b)<=bC a*bC b:=by
 have hx:1<=XX:=by unfold XX;decide
 have e:(a*b).natAbs=a.natAbs*b.natAbs:=WQ a b;unfold bC;by_cases h1:0<=a<;>by_cases h2:0<=b
 . rw[Vi h1,Vi h2,Vi (Xa h1 h2),e];exact Vt _
 . rw[Vi h1,Vk h2];split
   . rw[e];exact VF _ (Wi _ hx)
   . rw[e];exact Wj (by rw[<-WE,WM XX,WE])
 . rw[Vk h1,Vi h2];split
   . rw[e];exact VC _ (Wi _ hx)
   . rewrite[e,WE];exact Vt _
 . rw[Vk h1,Vk h2,Vi (Vs (Int.mul_pos_of_neg_of_neg (by exact Int.not_le.mp h1) (by lia))),e];exact Wq (Wi _ hx) (Wi _ hx)
theorem lM(c:Int){α}{f:α->Int}{l:List α}:ao (l.map λt=>f t*c)=ao (l.map f)*c:=by
 induction l with
 |nil=>simp[ao]
 |cons a l ih=>rw[Vn,Vn,ak,ak,ih,Int.add_mul]
theorem aD(c:Int):sm ([],c)=⟨λ_=>c,c,c,0,0,λ_=>false⟩:=by simp[nS,ao,aq]
theorem cV{c:Int}(h:c.natAbs<=2^880):Ng g ([],c):=⟨⟨λt ht=>(nomatch ht),by simp,by show(sm ([],c)).am<=_;rw[aD];exact Vq _,h⟩,λt ht=>(nomatch ht)⟩
theorem kf{j:Int}(h:Ng g n)(B:bC j*(sm n).am<=2^800)(G:g.Ok)(hv:((sm n).val g.lo*j).natAbs<=2^870):
 RS g (eV j n) (λρ=>(sm n).val ρ*j) (2*nP n.1) (nP n.1) (bC j*(sm n).am) (λi=>(sm n).vs i=true):=by
 unfold eV;by_cases q:j=0
 . rw[Vi q];refine⟨cV (by decide),λρ _=>?_,?_,?_,?_,λi hi=>?_⟩
   . rw[aD,q,W4]
   . rw[aD];exact Vq _
   . exact Vq _
   . rw[aD];exact Vq _
   . rw[aD]at hi;injection hi
 . rw[Vk q];have val:∀ρ,(sm (n.1.map λt=>{t with k:=t.k*j},n.2*j)).val ρ=(sm n).val ρ*j:=λρ=>by
    show ao (List.map _ (List.map _ n.1))+n.2*j=(ao _+n.2)*j;rw[Vv,Int.add_mul,<-lM];congr 2;refine V0 λt _=>(Xf ..).symm
   have am:(sm (n.1.map λt=>{t with k:=t.k*j},n.2*j)).am<=bC j*(sm n).am:=by show aq (List.map _ (List.map _ n.1))<=bC j*aq _;rw[Vv,<-cF];refine bM λt _=>?_;rw[<-WE,WM (bC j)];exact VC _ (o5 ..)
   have F:∀t∈n.1.map λt=>{t with k:=t.k*j},At g t.x t.s t.t:=λt ht=>by refine ab (Vy.mp ht) λu f z=>?_;subst z;exact h.a u f
   refine⟨⟨⟨λt ht=>?_,?_,Vg am B,oQ G F (Vg am B) (by show((sm (n.1.map λt=>{t with k:=t.k*j},n.2*j)).val g.lo).natAbs<=_;rw[val];exact Vg hv (by decide))⟩,F⟩,λρ _=>val ρ,?_,?_,am,λi hi=>?_⟩
   . refine ab (Vy.mp ht) λu f z=>?_;subst z;exact Int.mul_ne_zero (h.p.nz u f) q
   . rw[Vv];exact h.p.nd
   . show aq (List.map _ (List.map _ n.1))<=2*aq _;rw[Vv,<-cF];exact bM λt _=>VC _ (mX _)
   . show aq (List.map _ (List.map _ n.1))<=aq _;rw[Vv];exact Vt _
   . have hi:(List.map (λt=>{t with k:=t.k*j}) n.1).any (λt=>t.s.vs i)=true:=hi;rw[List.any_map]at hi;exact hi
noncomputable def eY:It->aY
 | .inl t=>([t],0)
 | .inr c=>([],c)
theorem fX(i:It):nO (eY i)=iX i:=by
 induction i with
 |inl t=>rfl
 |inr c=>
  show nX [] c=aO c;unfold nX dQ;by_cases q:c=0
  . rw[Vi q,q];rfl
  . rw[Vk q];rfl
theorem fc{i:It}(h:i∈aW n):(∃t∈n.1,i= .inl t)\/(n.2≠0/\i= .inr n.2):=by
 unfold aW at h;refine Or.elim (Wl.mp h) (λh=>?_) λh=>?_
 . refine ab (Vy.mp h) λt ht f=>?_;subst f;exact .inl ⟨t,ht,rfl⟩
 . split at h
   . cases h
   . rename_i q;exact .inr ⟨q,Vo.mp h⟩
theorem Nd.term(h:Nd g ts r){t:Tm}(ht:t∈ts):Ng g ([t],0):=by have z:bC t.k*t.s.am<=(nS ts r).am:=aR (f:=λt:Tm=>bC t.k*t.s.am) ht;have a:=h.p.am;exact⟨⟨λu i=>by rw[Vo.mp i];exact h.p.nz t ht,by simp,by rw[(by simp[nS,aq]:(sm ([t],0)).am=bC t.k*t.s.am)];lia,Vq _⟩,λu i=>by rw[Vo.mp i];exact h.a t ht⟩
inductive UA(n:aY):Prop
 |num (h:n.1=[]) (e:nO n=aO n.2)
 |one (t:Tm) (h:n=([t],0)) (k:t.k=1) (e:nO n=t.x)
 |mul (t:Tm) (h:n=([t],0)) (k:t.k≠1) (e:nO n=bG 485 t.x t.k (dU t) (d9 t))
 |sum (h:n.1≠[]) (l:(aW n).length>=2) (e:nO n=bZ ((aW n).map iX) (sm n).mn (sm n).mx)
theorem aL(n:aY):UA n:=by
 obtain⟨ts,r⟩:=n
 match ts with
 |[]=>exact .num rfl (fX (.inr r))
 |a::l=>
  by_cases q:l=[]/\r=0
  . refine af q λf i=>?_;clear q;subst f;subst i;by_cases q:a.k=1
    . exact .one a rfl q (Vi q)
    . exact .mul a rfl q (Vk q)
  . have h2:(aW (a::l,r)).length>=2:=by
     unfold aW;rw[VO,Vp,VP];by_cases h:l=[]
     . rw[Vk λe=>q ⟨h,e⟩];simp
     . exact Vg (Nat.succ_le_succ (List.length_pos_iff.mpr h)) (Wg _ _)
    refine .sum (by simp) h2 ?_;rcases jP (a::l) r with⟨q1,q2,_⟩|⟨x,q1,q2⟩|⟨q1,q2⟩
    . injection q2
    . have:=Vx List.length q1;rw[<-jc (a::l,r),Vp]at this;rw[this]at h2;exact Vu h2 (Nat.not_succ_le_self 1)
    . rw[jc];exact q2
end
set_option tactic.hygienic false
set_option tactic.hygienic true
section
variable{g:Gv}{x:AV}{s:Sem}{t:Str}{ts us:List Tm}{r:Int}{call:aI}{make:aH}{n m:aY}
theorem cU{C:Addr}{fl:List (Str×AV)}{op:Operator}{y:AV}{f:Addr}(h:ba.op C op (iW y)=some f):oP call make op (.obj C fl) y=call f [.obj C fl,y] []:=by show(match ba.op C op (iW y)with|some f=>call f [.obj C fl,y] []|none=>none)=_;rw[h]
theorem vC{C:Addr}(f:C=430\/C=485\/C=526\/C=574)(a:AV)(b:Int){mn mx:Int}(h:mn<mx):Ev 3 354 [bG C a b mn mx] [] (bG C a b mn mx):=aw (by decide) (by decide) λk _=>by rw[pk _ _ C f,Vi (VJ (Vs h)),Vk (by simp;lia)]
theorem EH{C:Addr}(h:Ig C):ba.op C .Mult (.type "int")=some 163:=by rcases h with rfl|rfl|rfl|rfl<;>kernel_rfl
theorem Oe(i:g.Ok){t:Tm}(h:At g t.x t.s t.t)(u:t.k≠0):dU t<d9 t:=by have:=rE (ts:=[t]) (r:=0) (by simp) (λs f=>by rw[Vo.mp f];exact u) (λs f=>by rw[Vo.mp f];exact h.sb i);simp[nS,ao]at this;exact this
theorem Ce(i:g.Ok){t:Tm}(h:t.k≠0->LC g t)(u:At g t.x t.s t.t):Op 6 .Mult t.x (.int t.k) (nO (if t.k=0 then([],0)else([t],0))):=λk f=>by
 refine aP u.obj λC fl e z=>?_;obtain⟨k,rfl⟩:=dW (n:=k) (by lia);by_cases q:t.k=0
 . rw[Vi q];have:Ev 6 163 [t.x,.int t.k] [] (aO 0):=aw (d:=5) (by decide) (by decide) λk f=>by
    rw[e,KK,Vi (by simpa using q),e9 0 k (by exact VT f)];rfl
   have:=this (k+1) (by assumption);rw[e]at this⊢;rw[cU (EH z),this];exact Vx some (fX (.inr 0)).symm
 . rw[Vk q];have:Ev 6 163 [t.x,.int t.k] [] (bz t):=aw (d:=5) (by lia) (by decide) λk f=>by
    have mk:=DZ i (h q) k (by assumption);have B:=vC (C:=485) (.inr (.inl rfl)) t.x t.k (Oe i u q) k (by exact up f rfl);unfold bz;rw[e]at mk B⊢;rw[KK,Vk (by simpa using q)];by_cases q1:t.k=1
    . rw[Vi (by simpa using q1),Vi q1]
    . rw[Vk (by simpa using q1),Vk q1,mk,Vl,B];rfl
   have:=this (k+1) (by lia);have F:nO ([t],0)=bz t:=rfl;rw[F];rw[e]at this⊢;rw[cU (EH z),this]
noncomputable def LK(g:Gv)(j:Int):It->Prop
 | .inl t=>t.k≠0/\At g t.x t.s t.t/\(j≠0->LC g {t with k:=t.k*j})/\Sm t.k=true
 | .inr c=>Sm c=true
theorem F4(B:g.Ok){i:It}{j:Int}(h:LK g j i)(u:Sm j=true):Op 7 .Mult (iX i) (.int j) (nO (eV j (eY i))):=λk f=>by
 obtain⟨k,rfl⟩:=dW (n:=k) (by lia)
 induction i with
 |inr c=>
  have:Ev 6 314 [aO c,.int j] [] (aO (c*j)):=aw (d:=5) (by decide) (by decide) λk f=>by rw[PG,im h u,Vl,e9 _ k (by exact VT f)];rfl
  rw[show iX (.inr c)=aO c from rfl,cU (show ba.op 338 .Mult (.type "int")=some 314 by kernel_rfl),this _ (by exact VT f)];unfold eV;split
  . rename_i q;rw[q,W4];rfl
  . exact Vx some (fX (.inr (c*j))).symm
 |inl t=>
  refine eM h λF z G H=>?_;have e0:eV j (eY (.inl t))=if t.k*j=0 then([],0)else([{t with k:=t.k*j}],0):=by
   unfold eV eY;by_cases q:j=0
   . rw[Vi q,Vi (by rw[q,W4])]
   . rw[Vk q,Vk (Int.mul_ne_zero F q),Int.zero_mul];rfl
  have M:=Ce (t:={t with k:=t.k*j}) B (λq=>G λe=>q (by rw[e,W4])) z;rw[e0];refine aP z.obj λC fl e I=>?_;by_cases q:t.k=1
  . have:=M (k+1) (by lia);rw[show iX (.inl t)=t.x from Vi q];simp only at this;rw[show(AV.int j)= .int (t.k*j) by rw[q,Int.one_mul]];exact this
  . rw[show iX (.inl t)=bG 485 t.x t.k (dU t) (d9 t)from Vk q,cU (show ba.op 485 .Mult (.type "int")=some 446 by kernel_rfl)];refine aw (d:=6) (by decide) (by decide) (λk f=>?_) (k+1) (by assumption);have M:=M k f;simp only at M;rw[e]at M⊢;rw[Px,im H u,Vl,M];rfl
theorem fT(n:aY):(aW n).length<=n.1.length+1:=by unfold aW;rw[VO,Vp];split<;>simp
theorem y5(u:g.Ok)(h:Ng g n){j:Int}(F:bC j*(sm n).am<=2^800){i:It}(hi:i∈aW n):LK g j i:=by
 rcases fc hi with⟨t,ht,rfl⟩|⟨_,rfl⟩
 . have z:=(h.fu u).2.2.2 t ht;have B:bC t.k*t.s.am<=(sm n).am:=aR (f:=λt:Tm=>bC t.k*t.s.am) ht;have G:(sm n).am<=2^800:=h.p.am;have H:=VC t.s.am (fb (h.p.nz t ht));refine⟨h.p.nz t ht,h.a t ht,λq=>⟨h.a t ht,?_,?_⟩,bR (by lia)⟩
   . have I:=o5 t.k j;have:=jb (t.k*j);have:=Wq B (Vt (bC j));rw[WM (sm n).am,Nat.mul_right_comm]at this;have:=VF (bC t.k*bC j) ((h.a t ht).sb u).am;lia
   . show t.s.am<=_;lia
 . exact bR (by have:=h.p.vb;lia)
theorem Pa{α β:Type}(l:List α)(f:α->β):l.flatMap (λa=>[f a])=l.map f:=by
 induction l with
 |nil=>rfl
 |cons a l ih=>rw[VS,ih];rfl
theorem Gl(f:It->aY)(n:aY):((aW n).map f).flatMap (·.1)=(n.1.flatMap λt=>(f (.inl t)).1)++(if n.2=0 then[]else(f (.inr n.2)).1)/\ao (((aW n).map f).map (·.2))=ao (n.1.map λt=>(f (.inl t)).2)+(if n.2=0 then 0 else(f (.inr n.2)).2):=by
 unfold aW;rw[VM,List.flatMap_append,VM,ci,Vv,Vv,List.flatMap_map];constructor
 . congr 1;split<;>simp
 . congr 1;split<;>simp [ao]
theorem BM{j:Int}(h:Ng g n):cu ((aW n).map λi=>eV j (eY i))=eV j n:=by
 refine af (Gl (λi=>eV j (eY i)) n) λz B=>?_;have f:(n.1.flatMap λt=>(eV j (eY (.inl t))).1)++(if n.2=0 then[]else(eV j (eY (.inr n.2))).1)=(eV j n).1/\ao (n.1.map λt=>(eV j (eY (.inl t))).2)+(if n.2=0 then 0 else(eV j (eY (.inr n.2))).2)=(eV j n).2:=by
  unfold eV eY;by_cases q:j=0
  . simp only[Vi q];have:∀l:List Tm,ao (l.map λ_=>(0:Int))=0:=λl=>by induction l with
     |nil=>rfl
     |cons a l ih=>rw[Vn,ak,ih];rfl
    refine⟨by simp,?_⟩;rw[this];simp
  . simp only[Vk q];have:∀l:List Tm,ao (l.map λ_=>(0:Int)*j)=0:=λl=>by induction l with
     |nil=>rfl
     |cons a l ih=>rw[Vn,ak,ih];simp
    refine⟨?_,?_⟩
    . show(n.1.flatMap λt=>[({t with k:=t.k*j}:Tm)])++(if n.2=0 then[]else[])=_;rw[Pa,ite_self,WB]
    . rw[this];split
      . rename_i q2;rw[q2];simp
      . simp
 unfold cu;rw[z,B,f.1,f.2,i6]
 . unfold eV Nn;split
   . simp
   . simp only[Vv];exact h.p.nd
 . intro t ht;unfold eV at ht;split at ht
   . cases ht
   . rename_i q;refine ab (Vy.mp ht) λu F G=>?_;subst G;exact Int.mul_ne_zero (h.p.nz u F) q
theorem eA(B:g.Ok){α:Type}(l:List α)(f:α->aY)(h:∀a∈l,Nw g (f a)){p:Nat}(F:∀a∈l,nP (f a).1<=p)(G:p<=120)(hl:l.length+(l.flatMap λa=>(f a).1).length<=400)(am:aq (l.map λa=>(sm (f a)).am)<=2^800):Ev (4*p+11) 211 [.list (l.map λa=>nO (f a))] [] (nO (cu (l.map f))):=by
 have e:=KZ B (l.map f) (λn hn=>by refine ab (Vy.mp hn) λa i u=>?_;subst u;exact h a i) (λn hn=>by refine ab (Vy.mp hn) λa i u=>?_;subst u;exact F a i) G (by
  have:∀l:List aY,(l.flatMap λn=>dQ n.1 n.2).length<=l.length+(l.flatMap (·.1)).length:=λl=>by
   induction l with
   |nil=>exact Vt _
   |cons a l ih=>
    rewrite[VS,VS,VO,VO,VP];have:(dQ a.1 a.2).length<=a.1.length+1:=by unfold dQ;rw[VO,Vp];split<;>simp
    lia
  have:=this (l.map f);rw[Vp,List.flatMap_map (g:=λn:aY=>n.1)]at this;lia) (by rw[Vp];lia) (by
  have z:=jY (λt:Tm=>bC t.k*t.s.am) (l.map f);rw[Vv]at z;have:(2:Nat)^800<=2^850:=VH (by decide) (by decide);show aq (((l.map f).flatMap (·.1)).map λt=>bC t.k*t.s.am)<=_;rw[z];exact Vg am this)
 rw[Vv]at e;exact e
theorem tD(u:g.Ok)(h:Ng g n){j:Int}(F:Sm j=true)(B:bC j*(sm n).am<=2^800)(hv:((sm n).val g.lo*j).natAbs<=2^870){p:Nat}(W:nP n.1<=p)(J:p<=120):Op (4*p+12) .Mult (nO n) (.int j) (nO (eV j n)):=λk z=>by
 have I:=λi hi=>F4 u (y5 u h B (i:=i) hi) F;have G:n.1.length<=60:=by have:=i8 λt ht=>((h.a t ht).sb u).ph;lia
 rcases aL n with⟨q1,q2⟩|⟨t,rfl,q1,q2⟩|⟨t,rfl,q1,q2⟩|⟨q0,q1,q2⟩
 . rw[q2];have:=F4 u (i:= .inr n.2) (j:=j) (bR (by have:=h.p.vb;lia)) F k (by exact up z rfl);have e:eY (.inr n.2)=n:=by show([],n.2)=n;rw[<-q1]
   rw[e]at this;exact this
 . have:=I (.inl t) (by simp[aW]) k (by lia);rw[q2];rw[show iX (.inl t)=t.x from Vi q1]at this;exact this
 . have:=I (.inl t) (by simp[aW]) k (by lia);rw[q2];rw[show iX (.inl t)=bG 485 t.x t.k (dU t) (d9 t)from Vk q1]at this;exact this
 . rw[q2,cU (show ba.op 656 .Mult (.type "int")=some 624 by kernel_rfl)];refine aw (d:=4*p+11) (by lia) (by decide) (λk z=>?_) k z;obtain⟨σ',e⟩:=c7 (step:=aU (aF k) (aV k) 624 0 38) (σ0:=[("b",.fz (.int j))]) (sh:=λy=>[("b",.fz (.int j)),("x",.fz y)]) (x:=iX) (f:=λi=>nO (eV j (eY i))) (aW n) (λi hi σ N acc H=>by
    have e:=I i hi k (by exact up z rfl);rcases N with rfl|⟨y,rfl⟩
    . rw[Ax _ _ j _ acc [] (.inl rfl),Vi H,e];rfl
    . rw[Ax _ _ j _ acc _ (.inr ⟨y,rfl⟩),Vi H,e];rfl) (by have:=fT n;lia)
   have R:=kf h B u hv;have O:∀i∈aW n,Ng g (eV j (eY i)):=λi hi=>by
    by_cases q:j=0
    . rw[show eV j (eY i)=([],0)from Vi q];exact cV (by decide)
    . have P:∀m,eV j m=(m.1.map λt=>{t with k:=t.k*j},m.2*j):=λm=>Vk q;have R:=R.nd;rw[P]at R⊢;rcases fc hi with⟨t,ht,rfl⟩|⟨_,rfl⟩
      . have:=R.term (Vy.mpr ⟨t,ht,rfl⟩);rw[Int.zero_mul];exact this
      . exact cV R.p.vb
   have Q:∀i,(eV j (eY i)).1.length<=1:=λi=>by
    unfold eV;split
    . exact Vq _
    . induction i<;>simp [eY]
   have S:=eA u (aW n) (λi=>eV j (eY i)) (λi hi=>(O i hi).w) (p:=p) (λi hi=>?_) J ?_ ?_
   . rw[BM h]at S;rw[Pk,e];show(aF k 211 [.list ((aW n).map λi=>nO (eV j (eY i)))] []).bind some=_;rw[S k z];rfl
   . unfold eV;split
     . exact Vq _
     . rcases fc hi with⟨t,ht,rfl⟩|⟨_,rfl⟩
       . have:t.s.ph<=nP n.1:=aR (f:=λt:Tm=>t.s.ph) ht;show t.s.ph+0<=p;lia
       . exact Vq _
   . have:∀l:List It,(l.flatMap λi=>(eV j (eY i)).1).length<=l.length:=λl=>by
      induction l with
      |nil=>exact Vt _
      |cons a l ih=>rw[VS,VO,VP];have:=Q a;lia
     have:=this (aW n);have:=fT n;lia
   . refine Vg ?_ B;have e0:∀m:aY,(sm (eV j m)).am<=bC j*(sm m).am:=λm=>by
      unfold eV;split
      . rw[aD];exact Vq _
      . show aq (List.map _ (List.map _ m.1))<=bC j*aq _;rw[Vv,<-cF];refine bM λt _=>?_;rw[<-WE,WM (bC j)];exact VC _ (o5 ..)
     refine Vg (bM λi _=>e0 (eY i)) ?_;rw[cF];refine VF _ (Wj ?_);unfold aW;rw[VM,bN,Vv];have U:aq ((if n.2=0 then[]else[(Sum.inr n.2:It)]).map λi=>(sm (eY i)).am)=0:=by
      split
      . rfl
      . show(sm ([],n.2)).am+0=0;rw[aD]
     rw[U];rfl
end
set_option tactic.hygienic false
section
variable{g:Gv}{call:aI}{make:aH}{n m a b:aY}{p:Nat}
theorem oT{C:Addr}(h:uu C):C∈dj:=by rcases h with rfl|rfl|rfl|rfl|rfl|rfl|rfl<;>decide
theorem IB:(dj.all λC=>ba.neg C==some 100&&ba.isin (.ref C) (.type "int")==some false&&ba.isin (.ref C) (.ref 227)==some true&&ba.op C .Add (.type "int")==some 107&&ba.op C .Sub (.type "int")==some 121&&dj.all λD=>ba.op C .Add (.ref D)==some 107&&ba.op C .Sub (.ref D)==some 121)=true:=by kernel_rfl
theorem iB{C:Addr}(h:uu C):ba.neg C=some 100/\ba.isin (.ref C) (.type "int")=some false/\ba.isin (.ref C) (.ref 227)=some true/\ba.op C .Add (.type "int")=some 107/\ba.op C .Sub (.type "int")=some 121/\∀D,uu D->ba.op C .Add (.ref D)=some 107/\ba.op C .Sub (.ref D)=some 121:=by have e:=VB.mp IB C (oT h);simp only[V6,WU]at e;refine af e λf i=>?_;refine af f λu z=>?_;obtain⟨⟨⟨B,F⟩,G⟩,H⟩:=u;refine⟨B,F,G,H,z,λD I=>?_⟩;have:=VB.mp i D (oT I);simpa using this
theorem Nw.len(f:g.Ok)(h:Nw g n)(i:nP n.1<=120):n.1.length<=60:=by have:=i8 λt ht=>((h.a t ht).sb f).ph;lia
theorem AN(z:g.Ok)(B:Ng g a)(hb:Ng g b)(am:(sm a).am+(sm b).am<=2^800)(hv:((sm a).val g.lo+(sm b).val g.lo).natAbs<=2^879+2^863):RS g (cu [a,b]) (λρ=>(sm a).val ρ+(sm b).val ρ) ((sm a).ph+(sm b).ph) (nP a.1+nP b.1) ((sm a).am+(sm b).am) (λi=>(sm a).vs i=true\/(sm b).vs i=true):=by
 have e:∀f:aY->Nat,aq ([a,b].map f)=f a+f b:=λf=>by show f a+(f b+0)=_;lia
 have u:∀f:aY->Int,ao ([a,b].map f)=f a+f b:=λf=>by show f a+(f b+0)=_;lia
 have R:=xH (g:=g) (ns:=[a,b]) (λn hn=>by
  rcases VN.mp hn with rfl|hn
  . exact B.w
  . rw[Vo.mp hn];exact hb.w) (by rw[e];exact am) z (by rw[u];exact hv)
 refine⟨R.nd,λρ F=>(R.val ρ F).trans (u _),?_,?_,?_,λi hi=>?_⟩
 . have:=R.ph;rwa [e]at this
 . have:=R.p;rwa [e]at this
 . have:=R.am;rwa [e]at this
 . refine ab (R.vs i hi) λn hn h=>?_;rcases VN.mp hn with rfl|hn
   . exact .inl h
   . rw[Vo.mp hn]at h;exact .inr h
theorem yx(c:Int):Nw g ([],c):=⟨λt ht=>(nomatch ht),by simp[Nn],by show(sm ([],c)).am<=_;rw[aD];exact Vq _,λt ht=>(nomatch ht)⟩
theorem uT(f:Ng g a)(c:Int):cu [a,([],c)]=(a.1,a.2+c):=by
 unfold cu;have:[a,(([],c):aY)].flatMap (·.1)=a.1:=by simp
 rw[this,i6 f.p.nd f.p.nz];show(a.1,a.2+(c+0))=_;rw[WN]
theorem z5(f:g.Ok)(i:Nw g a)(hb:Nw g b)(u:nP a.1<=p)(z:nP b.1<=p)(B:p<=120)(am:(sm a).am+(sm b).am<=2^800):Ev (4*p+11) 211 [.list [nO a,nO b]] [] (nO (cu [a,b])):=by
 have S:=eA f [a,b] (λn=>n) (λn hn=>by
  rcases VN.mp hn with rfl|hn
  . exact i
  . rw[Vo.mp hn];exact hb) (p:=p) (λn hn=>by
  rcases VN.mp hn with rfl|hn
  . exact u
  . rw[Vo.mp hn];exact z) B (by
    have:=i.len f (by lia);have:=hb.len f (by lia);simp;lia) (by show(sm a).am+((sm b).am+0)<=_;assumption)
 rw[List.map_id']at S;exact S
theorem oN(B:g.Ok)(u:Ng g a)(hb:Ng g b)(F:nP a.1<=p)(G:nP b.1<=p)(H:p<=120)(am:(sm a).am+(sm b).am<=2^800):Op (4*p+12) .Add (nO a) (nO b) (nO (cu [a,b])):=λk f=>by have S:=z5 B u.w hb.w F G H am;refine aP (bx (r:=a.2) u.a) λC fl e I=>?_;refine aP (bx (r:=b.2) hb.a) λD O i z=>?_;have e:nO a=_:=e;have i:nO b=_:=i;rw[e,i]at S⊢;have J:=iB I;have N:=iB z;rw[cU (J.2.2.2.2.2 D z).1];refine aw (d:=4*p+11) (by lia) (by decide) (λk f=>?_) k f;rw[PL,N.2.1,Vl,Vk (by decide),S k f];rfl
theorem i4(u:g.Ok)(f:Ng g a)(z:nP a.1<=p)(B:p<=120){c:Int}:Op (4*p+12) .Add (nO a) (.int c) (nO (a.1,a.2+c)):=λk i=>by have S:=z5 u f.w (yx c) z (Vq p) B (by have:(sm a).am<=2^800:=f.p.am;rw[aD];exact this);rw[uT f,show nO ([],c)=aO c from fX (.inr c)]at S;refine aP (bx (r:=a.2) f.a) λC fl e F=>?_;have e:nO a=_:=e;rw[e]at S⊢;rw[cU (iB F).2.2.2.1];refine aw (d:=4*p+11) (by lia) (by decide) (λk i=>?_) k i;rw[KM,e9 _ k (by exact up i rfl),Vl,S k i];rfl
theorem tK(z:g.Ok)(u:Ng g a)(B:nP a.1<=p)(F:p<=120)(am:XX*(sm a).am<=2^800)(hv:((sm a).val g.lo* -1).natAbs<=2^870):∀k,4*p+13<=k->nG (aF k) (aV k) (nO a)=some (nO (eV (-1) a)):=λk i=>by
 have io:bC (-1)=XX:=by unfold bC XX;decide
 have M:=tD z u (j:= -1) (by decide) (by rw[io];exact am) hv B F;refine aP (bx (r:=a.2) u.a) λC fl e G=>?_;have e:nO a=_:=e;rw[e]at M⊢;show(match ba.neg C with|some f=>aF k f [.obj C fl] []|none=>none)=_;rw[(iB G).1];refine aw (d:=4*p+12) (by lia) (by decide) (λk i=>?_) k i;rw[PM,M k i];rfl
theorem FD(i:g.Ok)(z:Ng g a)(hb:Ng g b)(G:nP a.1<=p)(B:nP b.1<=p)(F:p<=120)(am:(sm a).am+XX*(sm b).am<=2^800)(hv:((sm b).val g.lo* -1).natAbs<=2^870):Op (4*p+14) .Sub (nO a) (nO b) (nO (cu [a,eV (-1) b])):=λk f=>by
 have io:bC (-1)=XX:=by unfold bC XX;decide
 have R:=kf (j:= -1) hb (by rw[io];lia) i hv;have N:=tK i hb B F (by lia) hv;have A:=oN i z R.nd G (Vg R.p B) F (by have:=R.am;rw[io]at this;lia);refine aP (bx (r:=a.2) z.a) λC fl e H=>?_;refine aP (bx (r:=b.2) hb.a) λD J u I=>?_;have e:nO a=_:=e;have u:nO b=_:=u;rw[e]at A⊢;rw[u]at N⊢;rw[cU ((iB H).2.2.2.2.2 D I).2];refine aw (d:=4*p+13) (by lia) (by decide) (λk f=>?_) k f;rw[PK,N k f,Vl,A k (by exact VT f)];rfl
theorem B4(u:g.Ok)(f:Ng g a)(z:nP a.1<=p)(B:p<=120){c:Int}:Op (4*p+13) .Sub (nO a) (.int c) (nO (a.1,a.2-c)):=λk i=>by have A:=i4 u f z B (c:= -c);refine aP (bx (r:=a.2) f.a) λC fl e F=>?_;have e:nO a=_:=e;rw[e]at A⊢;rw[cU (iB F).2.2.2.2.1];refine aw (d:=4*p+12) (by lia) (by decide) (λk i=>?_) k i;rw[KL,A k (by assumption)];rfl
theorem gR(z:g.Ok)(f:Ng g a){c:Int}(u:(a.2+c).natAbs<=2^880):RS g (a.1,a.2+c) (λρ=>(sm a).val ρ+c) (sm a).ph (nP a.1) (sm a).am (λi=>(sm a).vs i=true):=
 ⟨⟨⟨f.p.nz,f.p.nd,f.p.am,u⟩,f.a⟩,λρ _=>(W0 ..).symm,Vt _,Vt _,Vt _,λ_ h=>h⟩
end
section
variable{g:Gv}{call:aI}{make:aH}{n m a b:aY}{p:Nat}
theorem G7{mn mx b:Int}(hb:0<b)(hl:mn<=mx)(h:mn/b≠mx/b):b<=mx-mn\/mx%b<=mn%b:=by
 have f:=Wn mn b;have i:=Wn mx b;have h1:mn/b<=mx/b:=Xc hb hl;by_cases q:b<=mx-mn
 . exact .inl q
 . right;have:=Wo (by lia:mn/b+1<=mx/b) (Vs hb);rw[Int.mul_add,Int.mul_one]at this;lia
theorem KS{C:Addr}{fl:List (Str×AV)}{mn mx b:Int}(h:Bd (.obj C fl) mn mx)(h0:0<=mn)(hl:mn<mx)(hb:2<=b)(hd:mn/b≠mx/b):Ev 3 557 [.obj 574 (qy (.obj C fl) (.int b))] [] (.tup [.int 0,.int (b-1)]):=aw (by decide) (by decide) λk _=>by
 refine af (h (aF k) (aV k)) λf i=>?_;rw[Pp,f,i];simp only[Vl];show(if decide (0<=mn)=true then _ else none)=_;rw[Vi (by simpa using h0)];show(if decide (b<=mx-mn)=true then _ else _)=_;by_cases q:b<=mx-mn
 . rw[Vi (by simpa using q)];rfl
 . rw[Vk (by simpa using q)];show(if(mn !=mx)=true then _ else _)=_;rw[Vi (by simp;(clear h0;lia)),dt (by exact Vs hb),dt (by exact Vs hb)];show(if decide (mx%b<=mn%b)=true then _ else _)=_;rw[Vi (VJ ((G7 (by exact Vs hb) (Vs hl) hd).resolve_left q))];rfl
theorem I7{C:Addr}{fl:List (Str×AV)}{mn mx b:Int}(h:Bd (.obj C fl) mn mx)(h0:0<=mn)(hl:mn<mx)(hb:2<=b)(hd:mn/b≠mx/b):Mk 5 574 [.obj C fl,.int b] (IU (.obj C fl) b 0 (b-1)):=mw (d:=3) (by decide) λk f=>by rw[O4,KS h h0 hl hb hd k f];rfl
noncomputable def pM(x:AV)(s:Sem)(t:Str):aY:=([⟨x,s,t,1⟩],0)
theorem vP(x:AV)(s:Sem)(t:Str):nO (pM x s t)=x:=rfl
structure UH(x:AV)(s:Sem)(t:Str):Prop where
 val:(sm (pM x s t)).val=s.val
 ph:(sm (pM x s t)).ph=s.ph
 p:nP (pM x s t).1=s.ph
 am:(sm (pM x s t)).am=s.am
 vs:(sm (pM x s t)).vs=s.vs
 mn:(sm (pM x s t)).mn=s.mn
 mx:(sm (pM x s t)).mx=s.mx
theorem gM(x:AV)(s:Sem)(t:Str):UH x s t:=by refine⟨funext λρ=>?_,?_,?_,?_,funext λi=>?_,?_,?_⟩<;>simp [pM,nS,nP,ao,aq,wk,bC,dU,d9]
theorem j6{x:AV}{s:Sem}{t:Str}(h:At g x s t)(i:s.am<=2^800):Ng g (pM x s t):=
 ⟨⟨λu f=>by rw[Vo.mp f];exact Int.one_ne_zero,by simp[pM],by show(sm (pM x s t)).am<=_;rw[(gM x s t).am];exact i,Vq _⟩,λu f=>by rw[Vo.mp f];exact h⟩
noncomputable abbrev Pos(n:aY):Prop:=∀t∈n.1,0<t.k
theorem iN(i:Int):o9 (.int i)=some true:=by kernel_rfl
inductive MR(g:Gv)(p:Nat)(n:aY)(b:Int):Prop
 |mk (m:aY) (e:Ev (4*p+14) 206 [nO n,.int b] [] (nO m)) (r:RS g m (λρ=>(sm n).val ρ%b) ((sm n).ph+mm n.1 n.2) ((sm n).ph+mm n.1 n.2) (sm n).am (λi=>(sm n).vs i=true)) (mn:0<=(sm m).mn) (pos:Pos n->Pos m) (len:m.1.length<=n.1.length) (num:m.2.natAbs<=2^864)
theorem nK(u:g.Ok)(h:Ng g n){b:Int}(hb:0<b)(hx:b<=XX)(h0:n.1=[]\/0<=(sm n).mn)(Z:n.1=[]\/n.2.natAbs<=2^870)(G:nP n.1<=p)(cH:p<=120):
 MR g p n b:=by
 refine aP (bx (r:=n.2) h.a) λC fl e hC=>?_;have e:nO n= .obj C fl:=e;have z:Bd (nO n) (sm n).mn (sm n).mx:=lH h.a;have hP:nP n.1<=(sm n).ph:=dC;refine eM (h.fu u) λz1 z2 z3 z4=>?_;have hX:XX<=2^1800:=by unfold XX;exact VH (by omega) (by decide)
 have sb:Sm b=true:=bR (by lia);by_cases q1:b=1
 . refine⟨([],0),λk f=>?_,⟨cV (by decide),λρ _=>?_,?_,Vq _,?_,λi hi=>?_⟩,?_,λ_ t ht=>(nomatch ht),Vq _,Vq _⟩
   . rw[show nO ([],0)=aO 0 from fX (.inr 0),e];refine aw (d:=4*p+13) (by lia) (by decide) (λk f=>?_) k f;rw[GT,Vi (by simpa using hb),Vi (by simpa using q1),e9 0 k (by exact up f rfl)];rfl
   . rw[aD,q1,Int.emod_one]
   . rw[aD];exact Vq _
   . rw[aD];exact Vq _
   . rw[aD]at hi;injection hi
   . rw[aD];exact WH _
 have iO:=Wn (sm n).mn b;have J:=Wc (sm n).mn (b:=b) (by exact Wd hb);have N:=V5 (sm n).mn hb;by_cases q2:(sm n).mn/b=(sm n).mx/b
 . have sW:=Wn (sm n).mx b;have UV:=V5 (sm n).mx hb;rw[<-q2]at sW;generalize hd:(sm n).mn/b=d at*
   have F:(n.2+ -(b*d)).natAbs<=2^863:=by have a1:((sm n).mn-n.2).natAbs<=XX*(sm n).am:=(iK (r:=n.2) (ρ:=g.lo) λt ht=>(h.a t ht).sb u).1;rw[show n.2+ -(b*d)=(sm n).mn%b-((sm n).mn-n.2) by(clear a1;lia)];exact Vg (Int.natAbs_sub_le ..) (Vg (Wf (i5 J (Vs N) hx) (Vg a1 (gP h.p.am))) (by unfold XX;decide))
   have S:=gR u h (Vg F (VH (by omega) (by decide)));have Rl:d.natAbs<=2^882:=by
    have:d.natAbs<=(sm n).mn.natAbs:=by rw[<-hd];exact VV ..
    exact Vg this z2
   refine⟨(n.1,n.2+ -(b*d)),λk f=>?_,⟨S.nd,λρ O=>?_,Vg S.ph (Wg ..),Vg S.p (by lia),S.am,S.vs⟩,?_,λG=>G,Vt _,Vg F (VH (by omega) (by decide))⟩
   . have SB:=B4 u h G cH (c:=b*d);rw[show n.2+ -(b*d)=n.2-b*d by(clear SB S F;lia)];rw[e]at z SB⊢;refine aw (d:=4*p+13) (by lia) (by decide) (λk f=>?_) k f;refine af (z (aF k) (aV k)) λH I=>?_;rw[GT,Vi (by simpa using hb),Vk (by simpa using q1),H,I];simp only[Vl,iN,if_true,dl sb hb,hd,<-q2];show(if(d==d)=true then _ else _)=_;rw[Vi (by simp),im sb (bR (by lia)),Vl,SB k f];rfl
   . rw[S.val ρ O];refine af (h.bn u O) λb1 b2=>?_;have b1:(sm n).mn<=(sm n).val ρ:=b1;have b2:(sm n).val ρ<=(sm n).mx:=b2;rw[<-(WK (a:=(sm n).val ρ+ -(b*d)) (b:=b) (by lia) (by(clear N J hx hb;lia))),show(sm n).val ρ+ -(b*d)=(sm n).val ρ+b* -d by rw[Int.mul_neg],Int.add_mul_emod_self_left]
   . show 0<=ao (n.1.map dU)+(n.2+ -(b*d));have:(sm n).mn=ao (n.1.map dU)+n.2:=rfl;(clear S F;lia)
 . have B:n.1≠[]:=λq=>by
    apply q2;have:n=([],n.2):=by rw[<-q]
    rw[this,aD]
   have h0:=h0.resolve_left B;have P:2<=b:=by lia
   have A:At g _ _ _:= .mod n.1 n.2 b B h.p h.a P ⟨by omega,Z.resolve_left B⟩ h0;obtain⟨s1,Q,U,W,X,Y,s7⟩:=gM (bG 574 (nX n.1 n.2) b 0 (b-1)) (eW n.1 n.2 b) (("(":Str)++nT n.1 n.2++("%":Str)++bb b++(")":Str));refine⟨pM _ _ _,λk f=>?_,⟨j6 A h.p.am,λρ _=>by rw[s1];rfl,Wj Q,Wj U,Wj W,λi hi=>by rw[X]at hi;exact hi⟩,by rw[Y];exact WH _,λ_ t ht=>by rw[Vo.mp ht];exact Int.one_pos,List.length_pos_iff.mpr B,Vq _⟩;rw[vP];have M:=I7 (b:=b) (mn:=(sm n).mn) (mx:=(sm n).mx) (e▸z) h0 (h.lt u B) P q2;have e':nX n.1 n.2= .obj C fl:=e;rw[e'];rw[e]at z⊢;refine aw (d:=4*p+13) (by omega) (by decide) (λk f=>?_) k f;refine af (z (aF k) (aV k)) λH I=>?_;rw[GT,Vi (by simpa using hb),Vk (by simpa using q1),H,I];simp only[Vl,iN,if_true,dl sb hb];show(if((sm n).mn/b==(sm n).mx/b)=true then _ else(if decide ((sm n).mn<0)=true then _ else _))=_;rw[Vk (by simpa using q2),Vk (by simp;omega),M k (by exact up f rfl),Vl,(vC (C:=574) (.inr (.inr (.inr rfl))) (.obj C fl) b (mn:=0) (mx:=b-1) (by(clear M s7 Y X W U Q s1 A;lia))) k (by exact up f rfl)];rfl
end
set_option tactic.hygienic true
section
variable{g:Gv}{call:aI}{make:aH}{n m a b:aY}{p:Nat}
theorem y6(G:It->Int)(f:∀c,G (.inr c)=c)(n:aY):ao ((aW n).map G)=ao (n.1.map λt=>G (.inl t))+n.2:=by
 unfold aW;rw[VM,ci,Vv];congr 1;split
 . rename_i q;rw[q];rfl
 . show G (.inr n.2)+0=_;rw[f,WN]
theorem gy(G:It->Nat)(f:∀c,G (.inr c)=0)(n:aY):aq ((aW n).map G)=aq (n.1.map λt=>G (.inl t)):=by
 unfold aW;rw[VM,bN,Vv];have:aq ((if n.2=0 then[]else[(.inr n.2:It)]).map G)=0:=by
  split
  . rfl
  . show G (.inr n.2)+0=_;rw[f]
 rw[this];rfl
theorem kT(ρ:Nat->Int)(n:aY):ao ((aW n).map λi=>(sm (eY i)).val ρ)=(sm n).val ρ:=by rw[y6 _ λc=>by show(sm ([],c)).val ρ=c;rw[aD]];congr 2;exact V0 λt _=>by simp[eY,nS,ao]
theorem y3(n:aY):aq ((aW n).map λi=>(sm (eY i)).ph)=(sm n).ph:=by rw[gy _ λc=>by show(sm ([],c)).ph=0;rw[aD]];rfl
theorem y7(n:aY):aq ((aW n).map λi=>(sm (eY i)).am)=(sm n).am:=by rw[gy _ λc=>by show(sm ([],c)).am=0;rw[aD]];rfl
theorem tS{i:It}(h:i∈aW n){j:Nat}(f:(sm (eY i)).vs j=true):(sm n).vs j=true:=by
 rcases fc h with⟨t,ht,rfl⟩|⟨_,rfl⟩
 . refine ab (cO f) λu z e=>?_;rw[Vo.mp z]at e;exact VX.mpr ⟨t,ht,e⟩
 . have:(sm ([],n.2)).vs j=true:=f;rw[aD]at this;injection this
theorem ze{α:Type}{F G:α->Int}{b:Int}{l:List α}(h:∀i∈l,F i%b=G i%b):ao (l.map F)%b=ao (l.map G)%b:=by
 induction l with
 |nil=>rfl
 |cons a l ih=>rw[Vn,Vn,ak,ak,Int.add_emod,h a Vm,ih λi hi=>h i (Vw _ hi),<-Int.add_emod]
theorem IO{α:Type}{Q:α->aY->Prop}{l:List α}(h:∀i∈l,∃m,Q i m):∃f:α->aY,∀i∈l,Q i (f i):=by
 classical
 exact⟨λi=>if h:∃m,Q i m then h.choose else([],0),λi hi=>by
  have:=h i hi;simp only[dif_pos this];exact this.choose_spec⟩
theorem AO{l:List Tm}{t:Tm}(h:∀u∈l,0<u.k)(ht:0<t.k):∀u∈cx l t,0<u.k:=λu f=>by
 unfold cx at f;split at f
 . refine ab (Vy.mp f) λv hv i=>?_;subst i;have:=h v hv;unfold pO;split
   . show 0<v.k+t.k;lia
   . exact this
 . refine Or.elim (Wl.mp f) (λf=>?_) λf=>?_
   . exact h u f
   . rw[Vo.mp f];exact ht
theorem nx:∀(ts l:List Tm),(∀u∈l,0<u.k)->(∀t∈ts,0<t.k)->∀u∈ts.foldl cx l,0<u.k
 |[],_,h,_=>h
 |t::ts,l,h,ht=>nx ts _ (AO h (ht t Vm)) λu f=>ht u (Vw _ f)
theorem xJ{ns:List aY}(h:∀n∈ns,Ng g n)(f:∀n∈ns,Pos n):Pos (cu ns)/\(sm (cu ns)).mn=ao (ns.map λn=>(sm n).mn):=by
 have i:∀t∈ns.flatMap (·.1),At g t.x t.s t.t/\0<t.k:=λt ht=>by refine ab (Wz.mp ht) λn hn h1=>?_;exact⟨(h n hn).a t h1,f n hn t h1⟩
 have u:Pos (cu ns):=λt ht=>nx _ [] (λ_ h=>nomatch h) (λt ht=>(i t ht).2) t (VY.mp ht).1;refine⟨u,?_⟩;have z:∀l:List Tm,(∀t∈l,0<t.k)->ao (l.map dU)=ao (l.map λt=>t.s.mn*t.k):=λl hl=>Vx ao (V0 λt ht=>Vi (Vs (hl t ht)));show ao ((tM (ns.flatMap (·.1))).map dU)+ao (ns.map (·.2))=_;rw[z (tM (ns.flatMap λn:aY=>n.1)) u,(uZ (λs k=>s.mn*k) (λs j k=>Int.mul_add ..) (λs=>W4 _) (uA λt ht=>(i t ht).1)),t8 (λt=>t.s.mn*t.k)];refine Vx ao (V0 λn hn=>?_);show _=ao (n.1.map dU)+n.2;rw[z n.1 (f n hn)]
theorem Cm{k b:Int}(f:k≠0)(hb:0<b)(hx:b<=XX):bC (k%b)<=bC k:=by
 have h0:=Wc k (b:=b) (by exact Wd hb);have h1:=V5 k hb;unfold bC;rw[Vi h0];split
 . rename_i q;have:=Int.emod_add_mul_ediv k b;have:=Xa (Vs hb) (Int.ediv_nonneg q (by exact Vs hb));lia
 . have:XX*1<=XX*k.natAbs:=VF _ (by(clear h1 h0 hx hb;omega));(clear hb;lia)
structure MI(g:Gv)(b:Int)(i m:aY):Prop where
 nd:Ng g m
 val:∀ρ,g.In ρ->(sm m).val ρ%b=(sm i).val ρ%b
 pos:Pos m
 mn:0<=(sm m).mn
 ph:(sm m).ph<=(sm i).ph
 am:(sm m).am<=(sm i).am
 vs:∀j,(sm m).vs j=true->(sm i).vs j=true
 len:m.1.length<=1
 num:m.2.natAbs<=2^864
theorem Ls{C:Addr}(h:Ig C):ba.eJ (.ref C) [.ref 338,.ref 485]=some false:=by rcases h with rfl|rfl|rfl|rfl<;>kernel_rfl
inductive M4(g:Gv)(p:Nat)(t:Tm)(b:Int):Prop
 |mk (m:aY) (i:MI g b ([t],0) m) (e:Ev (4*p+15) 461 [bz t,.int b] [] (nO m)) (r:RS g m (λρ=>(sm ([t],0)).val ρ%b) (2*t.s.ph) (2*t.s.ph) (sm ([t],0)).am (λj=>(sm ([t],0)).vs j=true))
theorem z6(B:g.Ok){t:Tm}(h:Ng g ([t],0)){b:Int}(hb:0<b)(hx:b<=XX)(io:t.k≠1)(Z:t.s.ph<=p)(cH:p<=120):M4 g p t b:=by
 have i:=h.a t Vm;have J:=h.p.nz t Vm;have bs:=i.sb B;have h0:=Wc t.k (b:=b) (by exact Wd hb);have h1:=V5 t.k hb;have F:(sm ([t],0)).am=bC t.k*t.s.am:=by simp[nS,aq]
 have hw:wk t.k=2:=Vk io;have am:(sm ([t],0)).am<=2^800:=h.p.am;have kp:=VC t.s.am (fb J);let v:aY:=if t.k%b=0 then([],0)else([{t with k:=t.k%b}],0)
 have hv:Ng g v/\(∀ρ,(sm v).val ρ=t.s.val ρ*(t.k%b))/\(sm v).ph+mm v.1 v.2<=2*t.s.ph/\(sm v).am<=bC t.k*t.s.am/\(∀j,(sm v).vs j=true->t.s.vs j=true)/\Pos v/\(v.1=[]\/0<=(sm v).mn)/\v.1.length<=1/\nP v.1<=t.s.ph:=by
  show Ng g (if _ then _ else _)/\_;by_cases q:t.k%b=0
  . have:v=([],0):=Vi q;rw[this,Vi q,aD];exact⟨cV (by decide),λρ=>by rw[q,W4],Vq _,Vq _,λ_ h=>(nomatch h),λt ht=>(nomatch ht),.inl rfl,Vq _,Vq _⟩
  . have:v=([{t with k:=t.k%b}],0):=Vk q;rw[this,Vk q];have G:(sm ([{t with k:=t.k%b}],0)).am=bC (t.k%b)*t.s.am:=by simp[nS,aq]
    have O:(sm ([{t with k:=t.k%b}],0)).ph=wk (t.k%b)*t.s.ph:=by simp[nS,aq]
    have P:=VC t.s.am (Cm J hb hx);refine⟨⟨⟨λu f=>by rw[Vo.mp f];exact q,by simp,by show(sm _).am<=_;rw[G];(clear G;lia),Vq _⟩,λu f=>by rw[Vo.mp f];exact i⟩,λρ=>by simp[nS,ao],?_,by rw[G];exact P,λj H=>?_,λu f=>by rw[Vo.mp f];show 0<t.k%b;lia,.inr ?_,Vt _,by show t.s.ph+0<=_;lia⟩
    . rw[O];show wk (t.k%b)*t.s.ph+(if t.k%b=1\/(0:Int)≠0 then 1 else 0)<=_;have:=bs.ph;by_cases q1:t.k%b=1
      . rw[Vi (.inl q1),q1,show wk 1=1 from rfl];lia
      . rw[Vk (by simpa using q1),show wk (t.k%b)=2 from Vk q1];lia
    . refine ab (cO H) λu f e=>?_;rw[Vo.mp f]at e;exact e
    . have:(sm ([{t with k:=t.k%b}],0)).mn=t.s.mn*(t.k%b):=by simp[nS,ao,dU,h0]
      rw[this];exact Xa bs.mn h0
 obtain⟨v1,Q,N,v4,U,W,X,v8,v9⟩:=hv;obtain⟨m,E,R,r1,r2,r3,Y⟩:=nK B v1 hb hx X (.inr (by show Int.natAbs (Prod.snd (if _ then _ else _))<=_;split<;>exact Vq _)) (p:=p) (by lia) (by assumption);have val:∀ρ,(sm v).val ρ%b=(sm ([t],0)).val ρ%b:=λρ=>by rw[Q,(λρ=>by simp[nS,ao]:∀ρ,(sm ([t],0)).val ρ=t.s.val ρ*t.k),Int.mul_emod,Int.emod_emod_of_dvd _ (Int.dvd_refl b),<-Int.mul_emod]
 have vs:∀j,(sm m).vs j=true->(sm ([t],0)).vs j=true:=λj H=>VX.mpr ⟨t,Vm,U j (R.vs j H)⟩;refine⟨m,⟨R.nd,λρ I=>by rw[R.val ρ I,Int.emod_emod_of_dvd _ (Int.dvd_refl b),val],r2 W,r1,by have:=R.ph;rw[(by simp[nS,aq]:(sm ([t],0)).ph=wk t.k*t.s.ph),hw];lia,by have:=R.am;rw[F];(clear kp F;lia),vs,by lia,Y⟩,λk z=>?_,⟨R.nd,λρ I=>by rw[R.val ρ I,val],Vg R.ph N,Vg R.p N,by have:=R.am;rw[F];lia,vs⟩⟩;have hX:XX<=2^900:=by unfold XX;exact VH (by decide) (by decide)
 have M:=Ce (t:={t with k:=t.k%b}) B (λ_=>⟨i,by show(t.k%b).natAbs<=_;(clear hb;lia),by show t.s.am<=_;lia⟩) i;refine aP i.obj λC fl e hC=>?_;rw[show bz t=bG 485 t.x t.k (dU t) (d9 t)from Vk io];refine aw (d:=4*p+14) (by lia) (by decide) (λk z=>?_) k z;have M:oP (aF k) (aV k) .Mult (.obj C fl) (.int (t.k%b))=some (nO v):=by rw[<-e];exact M k (by exact up z rfl)
 rw[e,Pw,dt hb,Vl,M,Vl,E k z];rfl
theorem Nv(B:g.Ok)(h:Ng g n){i:It}(hi:i∈aW n){b:Int}(hb:0<b)(hx:b<=XX)(X:nP n.1<=p)(N:p<=120):
 ∃m,MI g b (eY i) m/\∀k,4*p+15<=k->((ba.eJ (iW (iX i)) [.ref 338,.ref 485]).bind λq=>if q=true then oP (aF k) (aV k) .Mod (iX i) (.int b)else some (iX i))=some (nO m):=by
 rcases fc hi with⟨t,ht,rfl⟩|⟨f7,rfl⟩
 . have F:Ng g ([t],0):=h.term ht;have G:=h.a t ht;have Y:t.s.ph<=nP n.1:=aR (f:=λt:Tm=>t.s.ph) ht;by_cases q:t.k=1
   . refine ag ([t],0) ⟨F,λ_ _=>rfl,λu O=>by rw[Vo.mp O,q];exact Int.one_pos,?_,Vt _,Vt _,λ_ h=>h,Vt _,Vq _⟩ λk z=>?_
     . have:=(G.sb B).mn;simp[nS,ao,dU,q];exact this
     . refine aP G.obj λC fl e P=>?_;rw[show iX (.inl t)=t.x from Vi q,show nO ([t],0)=t.x from Vi q,e];rw[Ls P];rfl
   . obtain⟨m,M,E,_⟩:=z6 B F hb hx q (p:=p) (by lia) N;refine ag m M λk z=>?_;have E:=E k z;rw[show iX (.inl t)=bG 485 t.x t.k (dU t) (d9 t)from Vk q];rw[show bz t=bG 485 t.x t.k (dU t) (d9 t)from Vk q]at E;rw[show ba.eJ (iW (bG 485 t.x t.k (dU t) (d9 t))) [.ref 338,.ref 485]=some true by kernel_rfl,Vl,Vi rfl,cU (show ba.op 485 .Mod (.type "int")=some 461 by kernel_rfl)];exact E
 . obtain⟨m,E,R,r1,r2,r3,Q⟩:=nK B (n:=([],n.2)) (cV h.p.vb) hb hx (.inl rfl) (.inl rfl) (p:=p) (Vq _) (by assumption);have H:=R.ph;have I:=R.am;have J:=R.vs;rw[aD]at H I J;refine ag m ⟨R.nd,λρ U=>by rw[R.val ρ U,Int.emod_emod_of_dvd _ (Int.dvd_refl b)];rfl,r2 λt ht=>(nomatch ht),r1,?_,?_,λj W=>Vu (J j W) (by simp),Vg r3 (Vq _),Q⟩ λk z=>?_
   . exact Vg H (Vq _)
   . exact Vg I (Vq _)
   . rw[show iX (.inr n.2)=aO n.2 from rfl,show ba.eJ (iW (aO n.2)) [.ref 338,.ref 485]=some true by kernel_rfl,Vl,Vi rfl,cU (show ba.op 338 .Mod (.type "int")=some 206 by kernel_rfl)];have:=E k (by exact VT z);rw[show nO ([],n.2)=aO n.2 from fX (.inr n.2)]at this;exact this
end
set_option tactic.hygienic false
section
variable{g:Gv}{call:aI}{make:aH}{n m a b:aY}{p:Nat}
theorem kh(ts:List Tm)(r:Int):mm ts r<=1:=by
 refine lc (motive:=λts=>mm ts r<=1) ts (Vq _) (λt=>?_) λ_ _ _=>Vt _;show(if t.k=1\/r≠0 then 1 else 0)<=1;by_cases q:t.k=1\/r≠0
 . rw[Vi q];exact Vt _
 . rw[Vk q];exact Vq _
theorem F6(h:(aW n).length>=2)(h0:n.1≠[]):mm n.1 n.2=1:=by
 obtain⟨ts,r⟩:=n;rcases ts with _|⟨t,_|⟨u,l⟩⟩
 . exact Vu rfl h0
 . unfold mm;refine Vi (.inr λq=>?_);subst q;simp[aW]at h
 . rfl
theorem yH{ts:List Tm}{r:Int}(hn:ts≠[])(qm:mm ts r≠1):∃t,ts=[t]/\r=0/\t.k≠1:=by
 rcases ts with _|⟨t,_|⟨u,l⟩⟩
 . exact Vu rfl hn
 . by_cases q:t.k=1\/r≠0
   . exact Vu (Vi q) qm
   . exact dA t rfl (by lia) (by lia)
 . exact Vu rfl qm
theorem r9{C:Addr}{fl:List (Str×AV)}(h:uu C)(h1:C≠338){b:Int}{k:Nat}(i:3<=k):cM (aF k) (aV k) .Eq (.obj C fl) (.int b)=some false:=by
 have e:ba.eq C (.type "int")=some 93:=by
  rcases h with rfl|rfl|rfl|rfl|rfl|rfl|rfl
  . kernel_rfl
  . exact Vu rfl h1
  all_goals kernel_rfl
 show(match ba.eq C (.type "int")with|some f=>(aF k f [.obj C fl,.int b] []).bind EG|none=>none)=_;rw[e];have:aF k 93 [.obj C fl,.int b] []=some (.bool false):=aw (d:=2) (by decide) (by decide) (λk _=>Pc ..) k i;dsimp only;rw[this];rfl
inductive M6(g:Gv)(p:Nat)(n:aY)(b:Int):Prop
 |mk (m:aY) (e:Ev (4*p+17) 637 [bZ ((aW n).map iX) (sm n).mn (sm n).mx,.int b] [] (nO m)) (r:RS g m (λρ=>(sm n).val ρ%b) ((sm n).ph+1) ((sm n).ph+1) (sm n).am (λi=>(sm n).vs i=true))
set_option maxHeartbeats 1000000 in
theorem KP(B:g.Ok)(h:Ng g n)(h0:n.1≠[])(h2:(aW n).length>=2){b:Int}(hb:0<b)(hx:b<=XX)(hp:(sm n).ph<=p)(cH:p<=118):
 M6 g p n b:=by
 have hP:nP n.1<=(sm n).ph:=dC;refine ax (IO (l:=aW n) (Q:=λi m=>MI g b (eY i) m/\∀k,4*p+15<=k->((ba.eJ (iW (iX i)) [.ref 338,.ref 485]).bind λq=>if q=true then oP (aF k) (aV k) .Mod (iX i) (.int b)else some (iX i))=some (nO m)) λi hi=>Nv B h hi hb hx (by lia) (by lia)) λf hf=>?_;have M:=λi hi=>(hf i hi).1;have H:n.1.length<=60:=h.w.len B (by lia);have hl:=fT n;have I:∀u∈(aW n).map f,Ng g u:=λu hn=>by refine ab (Vy.mp hn) λi hi z=>?_;rw[<-z];exact(M i hi).nd
 have W:∀u∈(aW n).map f,Pos u:=λu hn=>by refine ab (Vy.mp hn) λi hi z=>?_;subst z;exact(M i hi).pos
 have am:aq ((aW n).map λi=>(sm (f i)).am)<=(sm n).am:=by rw[<-y7 n];exact bM λi hi=>(M i hi).am
 have ph:aq ((aW n).map λi=>(sm (f i)).ph)<=(sm n).ph:=by rw[<-y3 n];exact bM λi hi=>(M i hi).ph
 have J:(sm n).am<=2^800:=h.p.am;have N:(ao (((aW n).map f).map (·.2))).natAbs<=2^870:=by
  rw[Vv];have X:=rO (l:=aW n) (f:=(λn:aY=>n.2)∘f) (w:=λ_=>2^864) λi hi=>(M i hi).num;have Y:∀l:List It,aq (l.map λ_=>2^864)=l.length*2^864:=λl=>by
   induction l with
   |nil=>rfl
   |cons a l ih=>rw[Vn,au,ih,VP,Nat.add_mul];lia
  rw[Y]at X;have e3:(aW n).length*2^864<=64*2^864:=VC _ (by lia);(clear hl h2;lia)
 have R:=xI (g:=g) (ns:=(aW n).map f) (λn hn=>(I n hn).w) (by rw[Vv];exact Vg am J) (Vg N (VH (by decide) (by decide)));refine af (xJ I W) λpo mn=>?_;have Z:0<=(sm (cu ((aW n).map f))).mn:=by
  rw[mn,Vv];have:∀l:List It,(∀i∈l,i∈aW n)->0<=ao (l.map ((λn:aY=>(sm n).mn)∘f)):=λl hl=>by
   induction l with
   |nil=>exact WH _
   |cons a l ih=>rw[Vn,ak];have:=(M a (hl a Vm)).mn;have:=ih λi hi=>hl i (Vw _ hi);show 0<=(sm (f a)).mn+_;lia
  exact this _ λi hi=>hi
 have F:=R.ph;have O:=R.p;have P:=R.am;rw[Vv]at F O P;have F:(sm (cu ((aW n).map f))).ph<=(sm n).ph:=Vg F ph;have O:nP (cu ((aW n).map f)).1<=(sm n).ph:=Vg dC F;obtain⟨m,E,Q,_⟩:=nK B R.nd hb hx (.inr Z) (.inr N) (p:=p) (by lia) (by lia);have S:=eA B (aW n) f (λi hi=>(M i hi).nd.w) (p:=p) (λi hi=>by
  have:=aR (f:=λi=>(sm (f i)).ph) hi;have:nP (f i).1<=(sm (f i)).ph:=dC;lia) (by lia) (by
  have:∀l:List It,(∀i∈l,i∈aW n)->(l.flatMap λi=>(f i).1).length<=l.length:=λl=>by
   induction l with
   |nil=>intro _;exact Vt _
   |cons a l ih=>intro hl;rw[VS,VO,VP];have:=(M a (hl a Vm)).len;have:=ih λi hi=>hl i (Vw _ hi);lia
  have:=this _ λi hi=>hi;lia) (Vg am J)
 have m1:=kh (cu ((aW n).map f)).1 (cu ((aW n).map f)).2;refine⟨m,?_,⟨Q.nd,λρ G=>?_,by have:=Q.ph;lia-abstractProof,by have:=Q.p;lia-abstractProof,Vg Q.am (Vg P am),λj hj=>?_⟩⟩
 . refine aw (by lia) (by decide) λk U=>?_;obtain⟨σ',e⟩:=c7 (step:=aU (aF k) (aV k) 637 0 38) (σ0:=[("b",.fz (.int b))]) (sh:=λy=>[("b",.fz (.int b)),("node",.fz y)]) (x:=iX) (f:=λi=>nO (f i)) (aW n) (λi hi σ bJ acc hc=>by
    have e:=(hf i hi).2 k (by exact VT U);have st:∀r:ah,(r=[]\/∃y0,r=[(("node":Str),EV.fz y0)])->aU (aF k) (aV k) 637 0 38 (("b",.fz (.int b))::r) [iX i] (.l acc)=(some (([(("b":Str),EV.fz (.int b)),(("node":Str),EV.fz (iX i))]:ah),Acc.l (acc++[nO (f i)])):Option (ah×Acc)):=λr hr=>by
     rw[Hu _ _ b (iX i) acc r hr,Vi hc]
     induction q:ba.eJ (iW (iX i)) [.ref 338,.ref 485]with
     |none=>rw[q]at e;injection e
     |some q'=>
      rw[q,Vl]at e;rw[Vl]
      induction q' with
      |true=>rw[Vi rfl]at e⊢;rw[e];rfl
      |false=>rw[Vk (by decide)]at e⊢;rw[<-Option.some.inj e]
    rcases bJ with rfl|⟨y,rfl⟩
    . exact st [] (.inl rfl)
    . exact st _ (.inr ⟨y,rfl⟩)) (by lia)
   rw[Pj];refine bE ((r9 (C:=656) (.inr (.inr (.inr (.inr (.inr (.inr rfl)))))) (by decide) (by exact up U rfl))) ?_;refine(Vk (by decide)).trans ?_;rw[e];show(aF k 211 [.list ((aW n).map λi=>nO (f i))] []).bind _=_;refine bE (S k (by lia)) ?_;rw[E k (by lia)];rfl
 . rw[Q.val ρ G,R.val ρ G,Vv,<-kT ρ n];exact ze λi hi=>(M i hi).val ρ G
 . refine ab (R.vs j (Q.vs j hj)) λu hn hv=>?_;refine ab (Vy.mp hn) λi hi z=>?_;subst z;exact tS hi ((M i hi).vs j hv)
inductive UI(g:Gv)(x:AV)(s:Sem)(t:Str):Prop
 |var (i:Nat) (hi:i<3) (hl:g.lo i<g.hi i) (ex:x=dm g i) (es:s=gr g i) (et:t=aN g i)
 |div (ts:List Tm) (r c:Int) (hn:ts≠[]) (nd:Nd g ts r) (hc:2<=c) (am:(cL ts r c).am<=2^800/\r.natAbs<=2^870) (mn:0<=(nS ts r).mn) (ex:x=bG 526 (nX ts r) c (cL ts r c).mn (cL ts r c).mx) (es:s=cL ts r c)
 |mod (ts:List Tm) (r c:Int) (hn:ts≠[]) (nd:Nd g ts r) (hc:2<=c) (am:c<=XX/\r.natAbs<=2^870) (mn:0<=(nS ts r).mn) (ex:x=bG 574 (nX ts r) c 0 (c-1)) (es:s=eW ts r c)
 |lt (ts:List Tm) (c:Int) (hn:ts≠[]) (nd:Nd g ts 0) (ex:x=bG 430 (nX ts 0) c 0 1) (es:s=oB ts c)
theorem At.inv{x:AV}{s:Sem}{t:Str}(h:At g x s t):UI g x s t:=by
 induction h with
 |var i hi hl=>exact .var i hi hl rfl rfl rfl
 |div ts r c hn hq ha hc jx iO ie sW _=>exact .div ts r c hn ⟨hq,ha⟩ hc jx iO rfl rfl
 |mod ts r c hn hq ha hc nv iO _=>exact .mod ts r c hn ⟨hq,ha⟩ hc nv iO rfl rfl
 |lt ts c hn hq ha h1 h2 _=>exact .lt ts c hn ⟨hq,ha⟩ rfl rfl
inductive MS(g:Gv)(D:Nat)(n:aY)(b:Int):Prop
 |mk (m:aY) (o:Op D .Mod (nO n) (.int b) (nO m)) (r:RS g m (λρ=>(sm n).val ρ%b) ((sm n).ph+mm n.1 n.2) ((sm n).ph+mm n.1 n.2) (sm n).am (λi=>(sm n).vs i=true))
theorem oM(u:g.Ok):∀(p:Nat)(n:aY),Ng g n->(sm n).ph<=p->p<=118->∀b:Int,0<b->b<=XX->MS g (4*p+20) n b:=by
 intro p
 induction p with
 |zero=>
  intro n h z _ b hb hx;have h0:n.1=[]:=Wp λq=>by have:2<=(sm n).ph:=ca (r:=n.2) q λt ht=>(h.a t ht).sb u;lia
  obtain⟨m,E,R,_⟩:=nK u h hb hx (.inl h0) (.inl h0) (p:=0) (by rw[h0];exact Vt _) (by decide);refine⟨m,λk f=>?_,R⟩;have e:nO n=aO n.2:=by
   have:n=([],n.2):=by rw[<-h0]
   rw[this];exact fX (.inr n.2)
  have E:=E k (by exact up f rfl);rw[e]at E⊢;rw[cU (show ba.op 338 .Mod (.type "int")=some 206 by kernel_rfl)];exact E
 |succ p IH=>
  intro n h z I b hb hx;have J:nP n.1<=(sm n).ph:=dC;have F:∀C fl,nO n= .obj C fl->ba.op C .Mod (.type "int")=some 206->(n.1=[]\/0<=(sm n).mn)->(n.1=[]\/n.2.natAbs<=2^870)->MS g (4*(p+1)+20) n b:=λC fl e P h0 Q=>by obtain⟨m,E,R,_⟩:=nK u h hb hx h0 Q (p:=p+1) (by lia) (by lia);refine⟨m,λk f=>?_,R⟩;have E:=E k (by lia);rw[e]at E⊢;rw[cU P];exact E
  rcases aL n with⟨q1,q2⟩|⟨t,rfl,q1,q2⟩|⟨t,rfl,q1,q2⟩|⟨q0,q1,q2⟩
  . exact F _ _ q2 (by kernel_rfl) (.inl q1) (.inl q1)
  . have B:=h.a t Vm;have H:0<=(sm ([t],0)).mn:=by
     have:=(B.sb u).mn;simp[nS,ao,dU,q1];exact this
    have G:(sm ([t],0)).val=t.s.val/\(sm ([t],0)).ph=t.s.ph/\(sm ([t],0)).am=t.s.am/\(sm ([t],0)).vs=t.s.vs:=by refine⟨funext λρ=>?_,?_,?_,funext λi=>?_⟩<;>simp [nS,ao,aq,wk,bC,q1]
    rcases B.inv with⟨i,_,_,hx,_⟩|⟨ts,r,c,_,_,_,_,_,hx,_⟩|⟨ts,r,c,hn,hu,hc,nv,iO,ex,hs⟩|⟨ts,c,_,_,hx,_⟩
    . exact F _ _ (q2.trans hx) (by kernel_rfl) (.inr H) (.inr (Vq _))
    . exact F _ _ (q2.trans hx) (by kernel_rfl) (.inr H) (.inr (Vq _))
    . have q2:=q2.trans ex;have B:=hu.a;by_cases qd:c%b=0
      . refine aP (bx (r:=r) B) λC fl e U=>?_;have step:∀m d,d<=4*(p+1)+18->3<=d->Op d .Mod (nO (ts,r)) (.int b) (nO m)->Op (4*(p+1)+20) .Mod (bG 574 (nX ts r) c 0 (c-1)) (.int b) (nO m):=λm d hd h3 O k f=>by
         rw[cU (show ba.op 574 .Mod (.type "int")=some 542 by kernel_rfl)];refine aw (d:=4*(p+1)+19) (by lia) (by decide) (λk f=>?_) k f;have O:=O k (by lia);rw[show nO (ts,r)= .obj C fl from e]at O;rw[e,KA];refine bE (dt hb) ?_;show(if(c%b==0)=true then _ else _)=_;rw[Vi (by simpa using qd),O];rfl
        have N:(eW ts r c).ph=(nS ts r).ph+mm ts r:=rfl;have g8:∀m,RS g m (λρ=>(nS ts r).val ρ%b) ((nS ts r).ph+mm ts r) ((nS ts r).ph+mm ts r) (nS ts r).am (λi=>(nS ts r).vs i=true)->RS g m (λρ=>(sm ([t],0)).val ρ%b) ((sm ([t],0)).ph+mm [t] 0) ((sm ([t],0)).ph+mm [t] 0) (sm ([t],0)).am (λi=>(sm ([t],0)).vs i=true):=λm R=>by rw[G.1,G.2.1,G.2.2.1,G.2.2.2,hs];exact⟨R.nd,λρ W=>(R.val ρ W).trans (Int.emod_emod_of_dvd _ (W2 qd)).symm,Vg R.ph (by rw[N];lia),Vg R.p (by rw[N];lia),R.am,R.vs⟩
        have wE:(eW ts r c).ph<=p+1:=by rw[G.2.1,hs]at z;exact z
        by_cases qm:mm ts r=1
        . obtain⟨m,O,R⟩:=IH (ts,r) hu (by show(nS ts r).ph<=p;(clear hs;lia)) (by exact VT I) b hb hx;exact⟨m,by rw[q2];exact step m _ (by lia) (by lia) O,g8 m R⟩
        . have:=yH hn qm;refine bV this λt X Y ht=>?_;clear this;subst X;subst Y;have Z:(nS [t] 0).ph=2*t.s.ph:=by simp[nS,aq,wk,ht]
          obtain⟨m,_,E,R⟩:=z6 u hu hb hx ht (p:=p+1) (by(clear hs;lia)) (by lia);have O:Op (4*(p+1)+15) .Mod (nO ([t],0)) (.int b) (nO m):=λk f=>by have E:=E k f;rw[show bz t=bG 485 t.x t.k (dU t) (d9 t)from Vk ht]at E;rw[show nO ([t],0)=bG 485 t.x t.k (dU t) (d9 t)from Vk ht,cU (show ba.op 485 .Mod (.type "int")=some 461 by kernel_rfl)];exact E
          exact⟨m,by rw[q2];exact step m _ (by(clear O E;lia)) (by(clear O E;lia)) O,g8 m ⟨R.nd,R.val,Vg R.ph (by(clear J z;lia)),Vg R.p (by lia),R.am,R.vs⟩⟩
      . obtain⟨m,E,R,_⟩:=nK u h hb hx (.inr H) (.inr (Vq _)) (p:=p+1) (by lia) (by lia);refine⟨m,λk f=>?_,R⟩;refine aP (bx (r:=r) B) λC fl e U=>?_;rw[q2]at E⊢;rw[cU (show ba.op 574 .Mod (.type "int")=some 542 by kernel_rfl)];refine aw (d:=4*(p+1)+19) (by lia) (by decide) (λk f=>?_) k f;have E:=E k (by lia);rw[e]at E⊢;rw[KA];refine bE (dt hb) ?_;show(if(c%b==0)=true then _ else _)=_;rw[Vk (by simpa using qd),E];rfl
    . exact F _ _ (q2.trans hx) (by kernel_rfl) (.inr H) (.inr (Vq _))
  . obtain⟨m,_,E,R⟩:=z6 u h hb hx q1 (p:=p+1) (by
     have:nP [t]<=p+1:=Vg J z;assumption) (by lia)
    have Z:(sm ([t],0)).ph=2*t.s.ph:=by simp[nS,aq,wk,q1]
    refine⟨m,λk f=>?_,⟨R.nd,R.val,Vg R.ph (by lia),Vg R.p (by lia),R.am,R.vs⟩⟩;have E:=E k (by lia);rw[show bz t=bG 485 t.x t.k (dU t) (d9 t)from Vk q1]at E;rw[q2,cU (show ba.op 485 .Mod (.type "int")=some 461 by kernel_rfl)];exact E
  . obtain⟨m,E,R⟩:=KP u h q0 q1 hb hx (p:=p+1) z I;rw[<-F6 q1 q0]at R;refine⟨m,λk f=>?_,R⟩;rw[q2,cU (show ba.op 656 .Mod (.type "int")=some 637 by kernel_rfl)];exact E k (by lia)
end
section
variable{g:Gv}{call:aI}{make:aH}{n m a b:aY}{p:Nat}
theorem rz{ts:List Tm}{r:Int}(h:∀t∈ts,SB t.s):(nS ts r).mx-(nS ts r).mn<=(XX*(nS ts r).am:Nat)/\ao (ts.map d9)<=(XX*(nS ts r).am:Nat):=by
 have e:((XX*(nS ts r).am:Nat):Int)=ao (ts.map λt=>((XX*(bC t.k*t.s.am):Nat):Int)):=by
  have:XX*(nS ts r).am=aq (ts.map λt=>XX*(bC t.k*t.s.am)):=(cF XX).symm;rw[this];generalize ts=l
  induction l with
  |nil=>rfl
  |cons a l ih=>rw[Vn,Vn,au,ak,<-ih];rfl
 have d:∀l:List Tm,ao (l.map d9)-ao (l.map dU)=ao (l.map λt=>d9 t-dU t):=λl=>by
  induction l with
  |nil=>rfl
  |cons a l ih=>rw[Vn,Vn,Vn,ak,ak,ak,<-ih];lia
 have key:∀t∈ts,d9 t-dU t<=((XX*(bC t.k*t.s.am):Nat):Int)/\d9 t<=((XX*(bC t.k*t.s.am):Nat):Int):=λt ht=>by
  have b:=h t ht;have b1:=b.mn;have b2:=b.lt;have b3:=b.mx;have z:XX*t.s.am*t.k.natAbs<=XX*(bC t.k*t.s.am):=by rw[WE,WM t.s.am];exact VF _ (VC _ (jb t.k))
  unfold d9 dU;by_cases q:0<=t.k
  . rw[Vi q,Vi q];have f:t.s.mx*t.k<=(XX*t.s.am:Nat)*t.k:=Wy b3 q;have i:0<=t.s.mn*t.k:=Xa b1 q;have u:=VQ f (by rw[<-Int.natAbs_of_nonneg q,<-Int.natCast_mul];exact Wr.mpr z);exact⟨VQ (Int.sub_le_self _ i) u,u⟩
  . rw[Vk q,Vk q];have f:t.s.mx* -t.k<=(XX*t.s.am:Nat)* -t.k:=Wy b3 (by lia);have i:0<=t.s.mn* -t.k:=Xa b1 (by lia);rw[Int.mul_neg]at f i;have u:=VQ f (by rw[<-W6 (Vs (Int.not_le.mp q)),<-Int.natCast_mul];exact Wr.mpr z);have B:=Int.nonpos_of_neg_nonneg i;exact⟨VQ (Int.add_le_add B u) (Int.le_of_eq (Xb _)),VQ B (WS _)⟩
 rw[e];refine⟨?_,je λt ht=>(key t ht).2⟩;have:(nS ts r).mx-(nS ts r).mn=ao (ts.map d9)-ao (ts.map dU):=by exact Int.add_sub_add_right ..
 rw[this,d];exact je λt ht=>(key t ht).1
theorem I8{C:Addr}{fl:List (Str×AV)}{mn mx b:Int}(h:Bd (.obj C fl) mn mx)(h0:0<=mn)(hb:0<b)(sb:Sm b=true):Mk 5 526 [.obj C fl,.int b] (IU (.obj C fl) b (mn/b) (mx/b)):=mw (d:=3) (by lia) λk f=>by
 have:Ev 3 509 [.obj 526 (qy (.obj C fl) (.int b))] [] (.tup [.int (mn/b),.int (mx/b)]):=aw (by lia) (by decide) λk _=>by refine af (h (aF k) (aV k)) λi u=>?_;rw[Pr,i,u];simp only[Vl];show(if decide (0<=mn)=true then _ else none)=_;rw[Vi (by simpa using h0),dl sb hb,dl sb hb];rfl
 rw[O5,this k f];rfl
theorem G8{A:Nat}{b mx:Int}(hb:2<=b)(f:1<=A)(h:mx<(XX*A:Nat)+b):mx/b<=(XX*(b.natAbs*A):Nat):=by
 have i:((XX*(b.natAbs*A):Nat):Int)=(XX*A:Nat)*b:=by rw[WM b.natAbs,<-WE,Int.natCast_mul,Int.natAbs_of_nonneg (VQ (by decide) hb)]
 rw[i];have u:1<=XX*A:=Vg f (Wi _ (by unfold XX;lia));refine Int.ediv_le_of_le_mul (by lia) ?_;generalize XX*A=Z at*
 have h2:(Z:Int)*4<=Z*(b*b):=Wo (by have:=Int.mul_le_mul hb hb (by lia) (by lia);lia) (by lia);have z:(1:Int)*(b*b)<=Z*(b*b):=Wy (by lia) (Xa (by lia) (by lia));have B:b*2<=b*b:=Wo hb (by lia);rw[Xf];lia
inductive FP(g:Gv)(n:aY)(b:Int):Prop
 |mk (m:aY) (e:∀C fl,nO n= .obj C fl->∀k,5<=k->∀fa,ir (aF k) (aV k) C fl b fa=some (nO m)) (r:RS g m (λρ=>(sm n).val ρ/b) ((sm n).ph+md n.1) ((sm n).ph+md n.1) (b.natAbs*(sm n).am) (λi=>(sm n).vs i=true)) (num:m.2.natAbs<=2^882)
theorem zE(f:g.Ok)(h:Ng g n){b:Int}(hb:2<=b)(sb:Sm b=true)(G:b.natAbs*(sm n).am<=2^800)(h0:0<=(sm n).mn)(hr:n.1=[]\/n.2<b\/(sm n).mn<b):
 FP g n b:=by
 have H:Bd (nO n) (sm n).mn (sm n).mx:=lH h.a;refine eM (h.fu f) λz1 I z3 z4=>?_;have I:(sm n).mn.natAbs<=2^882:=I;have J:∀i:Int,(i/b).natAbs<=i.natAbs:=λi=>VV ..;have st:∀C fl,nO n= .obj C fl->∀k,5<=k->∀B,ir (aF k) (aV k) C fl b B=(aF k 354 [bG 526 (nO n) b ((sm n).mn/b) ((sm n).mx/b)] []).bind some:=λC fl e k u B=>by have M:=I8 (e▸H) h0 (show 0<b by lia) sb k (by lia);rw[e]at H⊢;refine af (H (aF k) (aV k)) λN W=>?_;unfold ir;rw[Vi (by simp;lia),Vk (by simp;lia),Vk (by simp;lia),N];show(if decide ((sm n).mn<0)=true then _ else _)=_;rw[Vk (by simp;lia),M];rfl
 have z:(sm n).mn/b<=(sm n).mx/b:=Xc (by lia) (by
  by_cases q:n.1=[]
  . have:n=([],n.2):=by rw[<-q]
    rw[this,aD];exact WH _
  . exact Vs (h.lt f q))
 by_cases q:(sm n).mn/b=(sm n).mx/b
 . have X:((sm n).mn/b).natAbs<=2^880:=by
    by_cases q2:n.1=[]
    . have e0:n=([],n.2):=by rw[<-q2]
      have:=J (sm n).mn;rw[e0,aD]at this⊢;exact Vg this h.p.vb
    . have a1:((sm n).mn-n.2).natAbs<=2^862:=Vg (iK (r:=n.2) (ρ:=g.lo) λt ht=>(h.a t ht).sb f).1 (gP h.p.am);have O:0<=(sm n).mn/b:=Int.ediv_nonneg h0 (by lia);exact CD O (VQ (Wy hb O) (Int.mul_ediv_self_le (by lia))) (pW a1 h.p.vb (Vt _)) (by decide)
   refine⟨([],(sm n).mn/b),λC fl e k u B=>?_,⟨cV X,λρ Y=>?_,?_,Vq _,?_,λi hi=>?_⟩,by have:=J (sm n).mn;show((sm n).mn/b).natAbs<=_;lia⟩
   . have M:=e9 ((sm n).mn/b);have E:Ev 5 354 [bG 526 (nO n) b ((sm n).mn/b) ((sm n).mx/b)] [] (aO ((sm n).mn/b)):=aw (d:=4) (by lia) (by decide) λk u=>by
      rw[pk _ _ 526 (.inr (.inr (.inl rfl))),Vi (VJ z),Vi (by simpa using q),M k u];rfl
     rw[st C fl e k u,E k u,show nO ([],(sm n).mn/b)=aO ((sm n).mn/b)from fX (.inr _)];rfl
   . refine af (h.bn f Y) λb1 b2=>?_;rw[aD];have N:(sm n).mn/b<=(sm n).val ρ/b:=Xc (by lia) b1;have W:(sm n).val ρ/b<=(sm n).mx/b:=Xc (by lia) b2;lia
   . rw[aD];exact Vq _
   . rw[aD];exact Vq _
   . rw[aD]at hi;injection hi
 . have F:n.1≠[]:=λe=>by
    apply q;have:n=([],n.2):=by rw[<-e]
    rw[this,aD]
   have P:1<=(sm n).am:=cz (r:=n.2) F h.p.nz λt ht=>(h.a t ht).sb f;refine af (rz (r:=n.2) λt ht=>(h.a t ht).sb f) λr1 r2=>?_;have Q:(sm n).mn/b<(sm n).mx/b:=Int.lt_iff_le_and_ne.mpr ⟨z,q⟩;have r1:(sm n).mx-(sm n).mn<=(XX*(sm n).am:Nat):=r1;have r2:ao (n.1.map d9)<=(XX*(sm n).am:Nat):=r2;have r3:(sm n).mx=ao (n.1.map d9)+n.2:=rfl;have Z:=G8 (A:=(sm n).am) (mx:=(sm n).mx) hb P (by
    rcases hr with hr|hr|hr
    . exact Vu hr F
    . rw[r3];exact Int.add_lt_add_of_le_of_lt r2 hr
    . exact Int.lt_of_le_of_lt (Int.le_add_of_sub_right_le r1) (Int.add_lt_add_left hr _))
   have Eg:n.2.natAbs<=2^870:=by
    have a1:((sm n).mn-n.2).natAbs<=2^862:=Vg (iK (r:=n.2) (ρ:=g.lo) λt ht=>(h.a t ht).sb f).1 (gP h.p.am);have U:b.natAbs<=2^800:=Vg (Wu _ P) G;rcases hr with hr|hr|hr
    . exact Vu hr F
    . exact P2 (x:=n.2-(sm n).mn) (y:=b) (Int.sub_le_self _ h0) (Vs hr) (by rw[<-Int.natAbs_neg,Int.neg_sub];exact Vg a1 (by decide)) (Vg U (by decide))
    . exact xz a1 (i5 h0 (Vs hr) (tP U)) (by decide)
   obtain⟨s1,s2,s3,s4,s5,s6,s7⟩:=gM (bG 526 (nX n.1 n.2) b (cL n.1 n.2 b).mn (cL n.1 n.2 b).mx) (cL n.1 n.2 b) (("(":Str)++nT n.1 n.2++("//":Str)++bb b++(")":Str));refine⟨pM _ _ _,λC fl e k u B=>?_,⟨j6 (.div n.1 n.2 b F h.p h.a hb ⟨G,Eg⟩ h0 Q (by exact_mod_cast Z)) G,λρ _=>by rw[s1];rfl,Wj s2,Wj s3,Wj s4,λi hi=>by rw[s5]at hi;exact hi⟩,Vq _⟩;rw[st C fl e k u,vC (.inr (.inr (.inl rfl))) (nO n) b Q k (by lia),vP];rfl
end
section
variable{g:Gv}{call:aI}{make:aH}{n m a b:aY}{p:Nat}
theorem F0(i:Int):nG call make (.int i)=some (.int (-i)):=by kernel_rfl
theorem Nr{x y:Int}(h:x<0)(h':0<=y):x.natAbs<=(x-y).natAbs:=FZ.mpr ⟨by rw[W6 (VQ (Int.sub_le_self x h') (Vs h)),Int.neg_neg];exact Int.sub_le_self x h',VQ (Vs h) (WS _)⟩
inductive FS(g:Gv)(p:Nat)(n:aY)(b:Int):Prop
 |mk (m:aY) (e:∀C fl,nO n= .obj C fl->∀k,4*p+16<=k->∀fa,ir (aF k) (aV k) C fl b fa=some (nO m)) (r:RS g m (λρ=>(sm n).val ρ/b) ((sm n).ph+md n.1) ((sm n).ph+md n.1) (b.natAbs*(sm n).am) (λi=>(sm n).vs i=true))
set_option maxHeartbeats 2000000 in
theorem CJ(u:g.Ok)(h:Ng g n){b:Int}(hb:2<=b)(hB:b.natAbs<=2^870)(H:b.natAbs*(sm n).am<=2^800)(hr:n.1=[]\/0<=n.2/\n.2<b)(hp:(sm n).ph<=p)(cH:p<=118):
 FS g p n b:=by
 have sb:Sm b=true:=bR (by lia);by_cases q:0<=(sm n).mn
 . obtain⟨m,E,R,_⟩:=zE u h hb sb H q (hr.imp id λz=> .inl z.2);exact⟨m,λC fl e k B Y=>E C fl e k (by exact up B rfl) Y,R⟩
 have hP:nP n.1<=(sm n).ph:=dC;refine eM (h.fu u) λz1 U z3 z4=>?_;have U:(sm n).mn.natAbs<=2^882:=U;have Z:=Wn (sm n).mn b;have I:=Wc (sm n).mn (b:=b) (by lia);have J:=V5 (sm n).mn (b:=b) (by exact Vs hb);have N:((sm n).mn/b).natAbs<=(sm n).mn.natAbs:=VV ..;have e5:(sm n).mn/b<0:=Int.ediv_neg_of_neg_of_pos (by exact Int.not_le.mp q) (by lia);have a1:((sm n).mn-n.2).natAbs<=2^862:=Vg (iK (r:=n.2) (ρ:=g.lo) λt ht=>(h.a t ht).sb u).1 (gP h.p.am);have O:((sm n).mn/b).natAbs<=2^879\/n.1=[]:=hr.elim .inr λhr=> .inl (Vg N (Vg (Nr (Int.not_le.mp q) hr.1) (Vg a1 (by decide))));generalize hd:(sm n).mn/b=d at*
 have Rl:b*d= -(-d*b):=by rw[Int.neg_mul,Int.neg_neg,WV]
 have P:(sm n).mn%b=(sm n).mn+ -d*b:=Int.sub_eq_iff_eq_add.mp (by rw[Rl,WW]at Z;exact Z);have hv:(n.2+ -d*b).natAbs<=2^880:=by rw[show n.2+ -d*b=(sm n).mn%b-((sm n).mn-n.2) by rw[P,WW (sm n).mn,Int.add_sub_assoc,Int.sub_sub_self,WW]];exact Vg (Int.natAbs_sub_le ..) (Vg (Wf (i5 I (Vs J) (tP hB)) a1) (by decide))
 have S:=gR u h hv;have W:(sm (n.1,n.2+ -d*b)).mn=(sm n).mn%b:=by rw[P];exact(W0 ..).symm
 obtain⟨m,E,R,hm⟩:=zE (n:=(n.1,n.2+ -d*b)) u S.nd hb sb H (by rw[W];exact I) (.inr (.inr (by rw[W];exact J)));have Rp:nP m.1<=p+1:=Vg R.p (Wf hp (Vg (ki _ 0) (kh _ _)));have t5:(m.2+d).natAbs<=2^880:=by
  by_cases q1:n.1=[]
  . have e0:n=([],n.2):=by rw[<-q1]
    have e6:m.1=[]:=by
     have:=R.ph;have ez:(sm (n.1,n.2+ -d*b)).ph+md (n.1,n.2+ -d*b).1=0:=by show aq (n.1.map _)+md n.1=0;rw[q1];rfl
     rw[ez]at this;exact Wp λz=>Vu (Vg (ca (r:=m.2) z λt ht=>(R.nd.a t ht).sb u) this) (by decide)
    have G:=R.val g.lo u.cX;rw[(by rw[<-e6]:m=([],m.2)),aD]at G;rw[(by rw[q1,aD]:(sm (n.1,n.2+ -d*b)).val g.lo=n.2+ -d*b)]at G;have:(sm n).mn=n.2:=by rw[e0,aD]
    have:(n.2+ -d*b)/b=0:=Int.ediv_eq_zero_of_lt (by rw[<-this,<-P];exact I) (by rw[<-this,<-P];exact J);have G:m.2=(n.2+ -d*b)/b:=G;rw[G,‹(n.2+ -d*b)/b=0›,Xb];exact Vg N (by rw[‹(sm n).mn=n.2›];exact Vg h.p.vb (by decide))
  . have O:=O.resolve_right q1;have hA:1<=(sm n).am:=cz (r:=n.2) q1 h.p.nz λt ht=>(h.a t ht).sb u;have Uw:(sm m).am<=2^800:=Vg R.am H;have a2:=gP Uw;have a1:=(iK (r:=m.2) (ρ:=g.lo) λt ht=>(R.nd.a t ht).sb u).2.2 λt ht=>(R.nd.a t ht).bn u u.cX;have a1:((sm m).val g.lo-m.2).natAbs<=XX*(sm m).am:=a1;rw[R.val g.lo u.cX]at a1;have b1:=(S.nd.bn u u.cX).1;have b1:(sm (n.1,n.2+ -d*b)).mn<=(sm (n.1,n.2+ -d*b)).val g.lo:=b1;have b2:=(S.nd.bn u u.cX).2;have b3:=(rz (r:=n.2+ -d*b) λt ht=>(h.a t ht).sb u).1;have b3:(sm (n.1,n.2+ -d*b)).mx-(sm (n.1,n.2+ -d*b)).mn<=(XX*(sm n).am:Nat):=b3;rw[W]at b1 b3;have Cs:((sm (n.1,n.2+ -d*b)).val g.lo).natAbs<=2^862+2^800:=i5 (VQ I b1) b2 (by
     rw[Int.natCast_add];exact VQ (Int.le_add_of_sub_right_le b3) (Int.add_le_add (Wr.mpr (gP h.p.am)) (Vs (WC J (tP (Vg (Wu _ hA) H))))))
    exact Vg (WI ..) (Vg (Wf (xz (Vg a1 a2) (Vg (VV ..) Cs) (Vt _)) O) (by decide))
 have F:=gR u R.nd t5;have X0:0< -d*b:=Int.mul_pos (Int.neg_pos_of_neg e5) (WC (by decide) hb);refine⟨(m.1,m.2+d),λC fl e k B Y=>?_,⟨F.nd,λρ X=>?_,Vg F.ph R.ph,Vg F.p R.p,Vg F.am R.am,λi hi=>R.vs i (F.vs i hi)⟩⟩
 . have rU:Bd (nO n) (sm n).mn (sm n).mx:=lH h.a;have A1:=i4 u h (p:=p) (by lia) (by lia) (c:= -d*b) k (by lia);have A2:=i4 u R.nd (p:=p+1) Rp (by lia) (c:=d) k (by assumption);have sd:Sm (-d)=true:=bR (Int.natAbs_neg d▸Vg N (Vg U (VH (by lia) (by decide))));have E2:∀j,6<=j->∀C fl,nO (n.1,n.2+ -d*b)= .obj C fl->aF j 192 [.obj C fl,.int b] [("factoring_allowed",.bool false)]=some (nO m)/\aF j 192 [.obj C fl,.int b,.bool false] []=some (nO m):=λj hj C fl e=>
    ⟨aw (d:=5) (by decide) (by decide) (λk B=>(KJ ..).trans (E C fl e k B _)) j hj,aw (d:=5) (by lia) (by decide) (λk B=>(zM ..).trans (E C fl e k B _)) j hj⟩
   have E3:(bH (nO (n.1,n.2+ -d*b)) "__floordiv__" λf v=>(aF k f [v,.int b] [("factoring_allowed",.bool false)]).bind λr=>(oP (aF k) (aV k) .Add r (.int d)).bind some)=some (nO (m.1,m.2+d)):=by
    rcases aL (n.1,n.2+ -d*b)with⟨q1,q2⟩|⟨t,q0,_⟩|⟨t,q0,_⟩|⟨q0,q1,q2⟩
    . rw[q2,bl (show ba.cZ 338 "__floordiv__"=some 192 by kernel_rfl),(E2 k (by exact up B rfl) _ _ q2).1,Vl,A2];rfl
    . have:=Vx (·.2) q0;have h1:=Vx (·.1) q0;simp only at this h1;refine Or.elim hr (λhr=>?_) λhr=>?_
      . rw[hr]at h1;injection h1
      . exact Vu this (Wd (Int.add_pos_of_nonneg_of_pos hr.1 X0))
    . have:=Vx (·.2) q0;have h1:=Vx (·.1) q0;simp only at this h1;refine Or.elim hr (λhr=>?_) λhr=>?_
      . rw[hr]at h1;injection h1
      . exact Vu this (Wd (Int.add_pos_of_nonneg_of_pos hr.1 X0))
    . have Q:Ev 8 632 [nO (n.1,n.2+ -d*b),.int b] [("factoring_allowed",.bool false)] (nO m):=aw (d:=7) (by decide) (by decide) λk B=>by
       rw[q2,Kw,r9 (C:=656) (.inr (.inr (.inr (.inr (.inr (.inr rfl)))))) (by decide) (by exact up B rfl),Vl,Vk (by decide),Vk (by simp;exact Wd hb),(E2 k (by exact VT B) _ _ q2).2];rfl
      have Q:=Q k (by exact up B rfl);rw[q2]at Q⊢;rw[bl (show ba.cZ 656 "__floordiv__"=some 632 by kernel_rfl),Q,Vl,A2];rfl
   rw[e]at rU A1;refine af (rU (aF k) (aV k)) λg1 g2=>?_;unfold ir;rw[Vi (by simp;lia),Vk (by simp;lia),Vk (by simp;lia),g1];show(if decide ((sm n).mn<0)=true then _ else _)=_;rw[Vi (by simpa using q)];simp only[Vl,dl sb (show 0<b by lia),hd,F0,im sd sb,A1];exact E3
 . rw[F.val ρ X,R.val ρ X,S.val ρ X];rw[Int.add_mul_ediv_right _ _ (by lia:b≠0)];(clear O N;lia)
end
section
variable{g:Gv}{call:aI}{make:aH}{n m a:aY}{p:Nat}{b:Int}
noncomputable def fB(b:Int)(t:Tm):Bool:=decide (t.k%b=0)
noncomputable def gB(b:Int)(t:Tm):Bool:= !fB b t
noncomputable def tq(b:Int)(t:Tm):Tm:={t with k:=t.k/b}
noncomputable def GG(b:Int)(ts:List Tm):Int:=ts.foldl (λg t=>if fB b t then g else if t.k=1 then 1 else Int.gcd g t.k) b
noncomputable def DD(b:Int)(ts:List Tm):Int:=ts.foldl (λd t=>if fB b t||t.k=1 then d else if d=1/\b.fmod t.k=0 then t.k else d) 1
noncomputable def uN(b:Int)(n:aY):aY:=((n.1.filter (fB b)).map (tq b),n.2/b)
noncomputable def wN(b:Int)(n:aY):aY:=(n.1.filter (gB b),n.2%b)
theorem HQ(hb:0<b)(ts:List Tm):0<GG b ts/\GG b ts∣b/\(∀t∈ts,gB b t=true->GG b ts∣t.k)/\∀e:Int,e∣b->(∀t∈ts,gB b t=true->e∣t.k)->e∣GG b ts:=by
 have:∀(ts:List Tm)(f:Int),0<f->let G:=ts.foldl (λg t=>if fB b t then g else if t.k=1 then 1 else(Int.gcd g t.k:Int)) f;0<G/\G∣f/\(∀t∈ts,gB b t=true->G∣t.k)/\∀e:Int,e∣f->(∀t∈ts,gB b t=true->e∣t.k)->e∣G:=λts=>by
  induction ts with
  |nil=>intro f h;exact⟨h,Int.dvd_refl _,λt ht=>(nomatch ht),λe h _=>h⟩
  |cons a l ih=>
   intro f h;rw[We];by_cases q:fB b a=true
   . rw[Vi q];refine eM (ih f h) λh1 h2 B F=>?_;refine⟨h1,h2,λt ht u=>?_,λe he z=>F e he λt ht=>z t (Vw _ ht)⟩;rcases VN.mp ht with rfl|ht
     . unfold gB at u;rw[q]at u;injection u
     . exact B t ht u
   . rw[Vk q];have H:gB b a=true:=by unfold gB;simpa using q
     have key:∀i:Int,0<i->i∣f->i∣a.k->(∀e:Int,e∣f->e∣a.k->e∣i)->_:=λi p1 p2 p3 p4=>by
      refine eM (ih i p1) λh1 h2 B F=>?_;exact(⟨h1,Int.dvd_trans h2 p2,λt ht u=>by
       rcases VN.mp ht with rfl|ht
       . exact Int.dvd_trans h2 p3
       . exact B t ht u,λe he z=>F e (p4 e he (z a Vm H)) λt ht=>z t (Vw _ ht)⟩:
       let G:=l.foldl (λg t=>if fB b t then g else if t.k=1 then 1 else(Int.gcd g t.k:Int)) i;0<G/\G∣f/\(∀t∈a::l,gB b t=true->G∣t.k)/\∀e:Int,e∣f->(∀t∈a::l,gB b t=true->e∣t.k)->e∣G)
     by_cases q1:a.k=1
     . rw[Vi q1];exact key 1 (by decide) (Int.one_dvd _) (Int.one_dvd _) λe _ h=>by rw[q1]at h;exact h
     . rw[Vk q1];exact key _ (by have:=Int.gcd_pos_of_ne_zero_left (a:=f) a.k (by exact Wd h);lia) (Int.gcd_dvd_left ..) (Int.gcd_dvd_right ..) λe h1 h2=>Int.dvd_coe_gcd h1 h2
 exact this ts b hb
theorem Qn(ts:List Tm):DD b ts=1\/∃t∈ts,gB b t=true/\t.k=DD b ts/\DD b ts∣b:=by
 have:∀(ts:List Tm)(d0:Int),let D:=ts.foldl (λd t=>if fB b t||t.k=1 then d else if d=1/\b.fmod t.k=0 then t.k else d) d0;D=d0\/∃t∈ts,gB b t=true/\t.k=D/\D∣b:=λts=>by
  induction ts with
  |nil=>exact λd0=> .inl rfl
  |cons a l ih=>
   intro d0;rw[We];have up:∀f,(let D:=l.foldl (λd t=>if fB b t||t.k=1 then d else if d=1/\b.fmod t.k=0 then t.k else d) f;D=f\/∃t∈l,gB b t=true/\t.k=D/\D∣b):=ih;by_cases q:(fB b a||decide (a.k=1))=true
   . rw[Vi q];rcases up d0 with h|⟨t,ht,h⟩
     . exact .inl h
     . exact .inr ⟨t,Vw _ ht,h⟩
   . rw[Vk q];by_cases q2:d0=1/\b.fmod a.k=0
     . rw[Vi q2];rcases up a.k with h|⟨t,ht,h⟩
       . right;refine wR a Vm ?_ h.symm ?_
         . unfold gB;simp at q;simp[q.1]
         . rw[h];exact Int.dvd_of_fmod_eq_zero q2.2
       . exact .inr ⟨t,Vw _ ht,h⟩
     . rw[Vk q2];rcases up d0 with h|⟨t,ht,h⟩
       . exact .inl h
       . exact .inr ⟨t,Vw _ ht,h⟩
 exact this ts 1
theorem CV(a b:Int){k:Nat}(f:1<=k):aF k 35 [.int a,.int b] []=some (.int (Int.gcd a b)):=by obtain⟨k,rfl⟩:=dW (n:=k) (by lia);rfl
theorem rW{body:ah->Option fW}{nm:List Str}{row:List AV}{σ σ':ah}(h:body (aX σ nm row)=some (.next σ')):bU body nm [row] σ=some (.next σ'):=(Vx (Option.bind · _) h).trans rfl
theorem jh{body:ah->Option fW}{nm:List Str}:∀{a:List (List AV)}{b:List (List AV)}{σ σ':ah},bU body nm a σ=some (.next σ')->bU body nm (a++b) σ=bU body nm b σ'
 |[],b,σ,σ',h=>by cases h;rfl
 |row::a,b,σ,σ',h=>by
  simp only[List.cons_append,bU]at h⊢
  induction e:body (aX σ nm row)with
  |none=>rw[e]at h;injection h
  |some o=>
   rw[e]at h
   induction o with
   |next τ=>exact jh (a:=a) h
   |cont τ=>exact jh (a:=a) h
   |ret x τ=>cases h
theorem dZ{op:CmpOp}(a b:Int)(h:op= .Eq\/op= .Lt\/op= .Gt\/op= .GtE\/op= .NotEq):cM call make op (.int a) (.int b)=Hj op a b:=by rcases h with rfl|rfl|rfl|rfl|rfl<;>rfl
theorem zF(i:g.Ok){c:Int}(F:c.natAbs<=2^880)(hb:2<=b)(G:b.natAbs<=2^870){k:Nat}(I:16<=k)(u:AV):ir (aF k) (aV k) 338 (lE c) b u=some (aO (c/b)):=by
 obtain⟨m,E,R⟩:=CJ (n:=([],c)) i (cV F) hb G (by rw[aD];exact Vq _) (.inl rfl) (p:=0) (by rw[aD];exact Vq _) (by decide);have H:m.1=[]:=Wp λz=>by have h1:2<=(sm m).ph:=ca (r:=m.2) z λt ht=>(R.nd.a t ht).sb i;have h2:=R.ph;rw[aD]at h2;have:md []=0:=rfl;lia
 have B:m=([],m.2):=by rw[<-H]
 have f:=R.val g.lo i.cX;rw[B,aD,aD]at f;have f:m.2=c/b:=f;rw[E 338 (lE c) (fX (.inr c)) k (by assumption) u,B,f];exact Vx some (fX (.inr (c/b)))
theorem gW{k b:Int}(f:k≠0)(h:k%b=0):k/b≠0:=λq=>by have:=Wn k b;rw[q,h]at this;lia
theorem uC(u:g.Ok)(h:Ng g n){t:Tm}(ht:t∈n.1)(io:t.k≠1)(hb:1<=b)(sb:Sm b=true)(hd:t.k%b=0):Ev 7 454 [bG 485 t.x t.k (dU t) (d9 t),.int b] [] (nO ([tq b t],0)):=by
 have i:=h.a t ht;refine aP i.obj λC fl e H=>?_;have z:=(h.fu u).2.2.2 t ht;have B:t.s.am<=2^800:=by have I:bC t.k*t.s.am<=(sm n).am:=aR (f:=λt:Tm=>bC t.k*t.s.am) ht;have J:=VC t.s.am (fb (h.p.nz t ht));have:(sm n).am<=2^800:=h.p.am;lia
 have F:=gW (h.p.nz t ht) hd;have N:(t.k/b).natAbs<=t.k.natAbs:=VV ..;have M:=Ce (t:=tq b t) u (λ_=>⟨i,by show(t.k/b).natAbs<=_;lia,B⟩) i;rw[Vk (show¬(tq b t).k=0 from F)]at M;refine aw (d:=6) (by decide) (by decide) λk G=>?_;have M:oP (aF k) (aV k) .Mult (.obj C fl) (.int (t.k/b))=some (nO ([tq b t],0)):=by rw[<-e];exact M k G
 rw[e,KD,dt (by assumption),Vl,dZ _ _ (.inl rfl)];show(if(t.k%b==0)=true then _ else _)=_;rw[Vi (by simpa using hd),dl sb (by lia),Vl,M];rfl
end
section
variable{g:Gv}{call:aI}{make:aH}{n m a:aY}{p:Nat}{b:Int}
noncomputable abbrev FF(b:Int)(ts:List Tm):List aY:=(ts.filter (fB b)).map λt=>([tq b t],0)
noncomputable abbrev RR(b:Int)(ts:List Tm):List aY:=(ts.filter (gB b)).map λt=>([t],0)
theorem yp{a b:Int}(h0:b≠0):oP call make .Mod (.int a) (.int b)=some (.int (a.fmod b)):=by rw[oI];show(if b !=0 then some (AV.int (a.fmod b))else none)=_;rw[Vi (by simpa using h0)]
theorem Kk(c:Int):gA call make (.obj 338 (lE c)) "b"=some (.int c):=by kernel_rfl
theorem Bo(H:g.Ok)(h:Ng g n){t:Tm}(ht:t∈n.1)(hb:2<=b)(sb:Sm b=true)(f:List Tm)(hl:f.length<=900)(S:AV){k:Nat}(F:8<=k):
 ay (aF k) (aV k) 632 1 191 (kc S b ((FF b f).map nO) ((RR b f).map nO) (.int (GG b f)) (.int (DD b f)) [("x",.fz (bz t))])=
  some (.next (kc S b ((FF b (f++[t])).map nO) ((RR b (f++[t])).map nO) (.int (GG b (f++[t]))) (.int (DD b (f++[t]))) [("x",.fz (bz t))])):=by
 refine aP ((h.a t ht).obj) λC fl e I=>?_;have l1:((FF b f).map nO).length<=1000:=by rw[Vp,Vp];exact Vg (V8 ..) (by lia)
 have l2:((RR b f).map nO).length<=1000:=by rw[Vp,Vp];exact Vg (V8 ..) (by lia)
 have G:fB b t=false->FF b (f++[t])=FF b f:=λq=>by simp[FF,List.filter_append,q]
 have i:fB b t=false->(RR b (f++[t])).map nO=(RR b f).map nO++[bz t]:=λq=>by
  have:gB b t=true:=by unfold gB;rw[q];rfl
  simp[RR,List.filter_append,this];rfl
 have J:fB b t=true->RR b (f++[t])=RR b f:=λq=>by
  have:gB b t=false:=by unfold gB;rw[q];rfl
  simp[RR,List.filter_append,this]
 have u:GG b (f++[t])=if fB b t then GG b f else if t.k=1 then 1 else(Int.gcd (GG b f) t.k:Int):=by unfold GG;rw[W8];rfl
 have B:DD b (f++[t])=if fB b t||t.k=1 then DD b f else if DD b f=1/\b.fmod t.k=0 then t.k else DD b f:=by unfold DD;rw[W8];rfl
 by_cases q:t.k=1
 . have hf:fB b t=false:=by
    unfold fB;rw[q,WK (by decide) (by assumption)];rfl
   rw[G hf,i hf,u,B,hf,q];rw[show bz t=t.x from Vi q,e,Jq _ _ S b _ _ _ _ C I fl [] (.inl rfl),Vi l2];rfl
 . rw[show bz t=bG 485 t.x t.k (dU t) (d9 t)from Vk q]at i⊢;have T:=λhd=>uC H h ht q (by exact Vs hb) sb hd k (by exact VT F);rw[e]at T i⊢;rw[Jp _ _ S b _ _ _ _ C fl t.k _ _ [] (.inl rfl)];refine bE (dt (by exact Vs hb)) ?_;rw[dZ _ _ (.inl rfl)];show(if(t.k%b==0)=true then _ else _)=_;by_cases q1:t.k%b=0
   . have hf:fB b t=true:=VJ q1;rw[Vi (by simpa using q1),cU (show ba.op 485 .FloorDiv (.type "int")=some 454 by kernel_rfl),T q1,Vl,Vi l1,(λq=>by simp[FF,List.filter_append,q]:fB b t=true->(FF b (f++[t])).map nO=(FF b f).map nO++[nO ([tq b t],0)]) hf,J hf,u,B,hf];rfl
   . have hf:fB b t=false:=W5 q1;rw[Vk (by simpa using q1),Vi l2,CV _ _ (by exact up F rfl),Vl,G hf,i hf,u,B,hf];simp only[Bool.false_or,decide_eq_true_eq,Vk q,WD,if_false];by_cases q2:DD b f=1
     . rw[Vi (by simpa using q2),yp (h.p.nz t ht),Vl,dZ _ _ (.inl rfl)];show(if(b.fmod t.k==0)=true then _ else _)=_;by_cases q3:b.fmod t.k=0
       . rw[Vi (by simpa using q3),Vi ⟨q2,q3⟩]
       . rw[Vk (by simpa using q3),Vk λz=>q3 z.2]
     . rw[Vk (by simpa using q2),Vk λz=>q2 z.1]
theorem dE{α:Type}(l:List α):∀a:List α,l.foldl (λf t=>f++[t]) a=a++l:=by
 induction l with
 |nil=>intro a;simp
 |cons b l ih=>intro a;rw[We,ih];simp
noncomputable def nF(q:Int):List aY:=if q=0 then[]else[([],q)]
theorem Ci(G:g.Ok)(h:Ng g n)(hl:n.1.length<=60)(hb:2<=b)(O:b.natAbs<=2^870)(S:AV){k:Nat}(z:18<=k):
 ∃r:ah,(r=[]\/(∃x,r=[(("x":Str),EV.fz x)])\/∃x y,r=[(("x":Str),EV.fz x),(("div":Str),EV.fz y)])/\
  bU (ay (aF k) (aV k) 632 1 191) ["x"] (bf ((aW n).map iX)) (kc S b [] [] (.int b) (.int 1) [])=
   some (.next (kc S b ((FF b n.1++nF (n.2/b)).map nO) ((RR b n.1++nF (n.2%b)).map nO) (.int (Int.gcd (GG b n.1) (n.2%b))) (.int (DD b n.1)) r)):=by
 have sb:Sm b=true:=bR (Vg (by assumption) (VH (by decide) (by decide):(2:Nat)^870<=2^1800));refine eM (HQ (b:=b) (by exact Vs hb) n.1) λG0 G1 _ _=>?_;obtain⟨gf,H,r1,I,rfl⟩:=fJ (body:=ay (aF k) (aV k) 632 1 191) (nm:=["x"]) (x:=bz) (f:=λi t=>i++[t]) (b0:=([]:List Tm)) (R:=λi σ=>∃r:ah,(r=[]\/∃x,r=[(("x":Str),EV.fz x)])/\σ=kc S b ((FF b i).map nO) ((RR b i).map nO) (.int (GG b i)) (.int (DD b i)) r) n.1 (λi t ka e σ J=>by
  refine ab J λr hr P=>?_;clear J;subst P;rw[dE,Wm];have B:aX (kc S b ((FF b i).map nO) ((RR b i).map nO) (.int (GG b i)) (.int (DD b i)) r) ["x"] [bz t]=kc S b ((FF b i).map nO) ((RR b i).map nO) (.int (GG b i)) (.int (DD b i)) [("x",.fz (bz t))]:=by rcases hr with rfl|⟨x,rfl⟩<;>rfl
  rw[B,Bo G h (by rw[e];simp) hb sb i (by
   have:=Vx List.length e;rw[VO,VP]at this;lia) S (by exact up z rfl)]
  exact⟨_,rfl,_,.inr ⟨_,rfl⟩,rfl⟩) (σ0:=kc S b [] [] (.int b) (.int 1) []) ⟨[],.inl rfl,rfl⟩
 rw[dE,Wm]at H;have Q:(aW n).map iX=n.1.map bz++((if n.2=0 then[]else[.inr n.2]):List It).map iX:=by unfold aW;rw[VM,Vv];rfl
 have U:bf ((aW n).map iX)=bf (n.1.map bz)++bf (((if n.2=0 then[]else[.inr n.2]):List It).map iX):=by rw[Q];exact VM ..
 rw[U,jh H];have l1:((FF b n.1).map nO).length<=1000:=by rw[Vp,Vp];exact Vg (V8 ..) (by lia)
 have l2:((RR b n.1).map nO).length<=1000:=by rw[Vp,Vp];exact Vg (V8 ..) (by lia)
 have F:∀c,nO ([],c)=aO c:=λc=>fX (.inr c);by_cases q:n.2=0
 . rw[Vi q,q];refine ag r1 (I.imp id .inl) ?_;have:((Int.gcd (GG b n.1) (0%b):Nat):Int)=GG b n.1:=by rw[Int.zero_emod,Int.gcd_zero_right];lia
   rw[this,Int.zero_ediv,Int.zero_emod];simp[nF];rfl
 . rw[Vk q];have B:aX (kc S b ((FF b n.1).map nO) ((RR b n.1).map nO) (.int (GG b n.1)) (.int (DD b n.1)) r1) ["x"] [aO n.2]=kc S b ((FF b n.1).map nO) ((RR b n.1).map nO) (.int (GG b n.1)) (.int (DD b n.1)) [("x",.fz (aO n.2))]:=by
    rcases I with rfl|⟨x,rfl⟩<;>rfl
   have st:∀o,ay (aF k) (aV k) 632 1 191 (kc S b ((FF b n.1).map nO) ((RR b n.1).map nO) (.int (GG b n.1)) (.int (DD b n.1)) [("x",.fz (aO n.2))])=some (.next o)->bU (ay (aF k) (aV k) 632 1 191) ["x"] (bf ([.inr n.2].map iX)) (kc S b ((FF b n.1).map nO) ((RR b n.1).map nO) (.int (GG b n.1)) (.int (DD b n.1)) r1)=some (.next o):=λo W=>by exact rW ((Vx _ B).trans W)
   have u:=Wn n.2 b;have E:=Jo (aF k) (aV k) S b ((FF b n.1).map nO) ((RR b n.1).map nO) (GG b n.1) (DD b n.1) n.2;rw[dt (by lia),Vl,dZ _ _ (.inl rfl)]at E;by_cases q1:n.2%b=0
   . have X:n.2/b≠0:=gW q q1;have Y:aF k 192 [aO n.2,.int b] []=some (aO (n.2/b)):=aw (d:=16) (by decide) (by decide) (λk z=>(zN ..).trans (zF G h.p.vb hb O z _)) k (by exact VT z);have hc:(if(n.2%b==0)=true then(1:Nat)else 0)=1:=Vi (by simpa using q1);refine ag [("x",.fz (aO n.2))] (.inr (.inl ⟨_,rfl⟩)) (st _ (E.trans ?_));show(if(n.2%b==0)=true then _ else _)=_;rw[Vi (by simpa using q1),cU (show ba.op 338 .FloorDiv (.type "int")=some 192 by kernel_rfl),Y,Vl,Vi l1,q1];have:((Int.gcd (GG b n.1) 0:Nat):Int)=GG b n.1:=by rw[Int.gcd_zero_right];lia
     rw[this];have:nF 0=[]:=rfl;rw[this,WB];have:nF (n.2/b)=[([],n.2/b)]:=Vk X;rw[this,VM];rw[Vn,List.map_nil,F]
   . have N:nF (n.2%b)=[([],n.2%b)]:=Vk q1;by_cases q2:n.2/b=0
     . have hr:n.2%b=n.2:=by rw[q2,W4]at u;exact(Xb _).symm.trans u
       refine ag [("x",.fz (aO n.2))] (.inr (.inl ⟨_,rfl⟩)) (st _ (E.trans ?_));show(if(n.2%b==0)=true then _ else _)=_;rw[Vk (by simpa using q1),dl sb (by lia),Vl];show(if(n.2/b !=0)=true then _ else _)=_;rw[Vk (by simpa using q2),Vi l2,CV _ _ (by exact up z rfl),Vl,N,hr,q2];have:nF 0=[]:=rfl;rw[this,WB,VM];rw[Vn,List.map_nil,F]
     . have Z:n.2-b*(n.2/b)=n.2%b:=(Int.emod_def _ _).symm;have hs:Sm (n.2/b)=true:=by
        have h1:(n.2/b).natAbs<=n.2.natAbs:=VV ..;have h2:=h.p.vb;exact bR (by(have:(2:Nat)^880<=2^1800:=VH (by lia) (by decide));lia)
       refine ag [("x",.fz (aO (n.2%b))),("div",.fz (.int (n.2/b)))] (.inr (.inr ⟨_,_,rfl⟩)) (st _ (E.trans ?_));show(if(n.2%b==0)=true then _ else _)=_;rw[Vk (by simpa using q1),dl sb (by lia),Vl];show(if(n.2/b !=0)=true then _ else _)=_;rw[Vi (by simpa using q2),Vl,e9 _ k (by exact up z rfl),Vl,Vi l1,im sb hs,Vl];show(aV k 338 [.int (n.2-b*(n.2/b))]).bind _=_;rw[Z,e9 _ k (by lia),Vl,Vi l2];simp only[Kk,Vl,iN,if_true];refine bE (CV _ _ (by lia)) ?_;rw[N];have:nF (n.2/b)=[([],n.2/b)]:=Vk q2;rw[this,VM,VM];simp only[Vn,List.map_nil,F]
end
section
variable{g:Gv}{call:aI}{make:aH}{n m a:aY}{p:Nat}{b:Int}
theorem BH(f:Tm->Int)(l:List Tm):ao (l.map f)=ao ((l.filter (fB b)).map f)+ao ((l.filter (gB b)).map f):=by
 induction l with
 |nil=>rfl
 |cons a l ih=>
  rw[Ws,Ws,Vn,ak,ih];unfold gB;induction fB b a
  . simp[ak];lia
  . simp[ak];lia
theorem iY(f:Tm->Nat)(l:List Tm):aq (l.map f)=aq ((l.filter (fB b)).map f)+aq ((l.filter (gB b)).map f):=by
 induction l with
 |nil=>rfl
 |cons a l ih=>
  rw[Ws,Ws,Vn,au,ih];unfold gB;induction fB b a
  . simp[au];lia
  . simp[au];lia
theorem kQ{k b:Int}(hb:0<b)(hd:k%b=0):bC (k/b)<=bC k:=by
 have h1:(k/b).natAbs<=k.natAbs:=VV ..;unfold bC;by_cases q:0<=k
 . rw[Vi q,Vi (Int.ediv_nonneg q (by exact Vs hb))];exact h1
 . rw[Vk q];split
   . exact Vg h1 (Wi _ (by unfold XX;decide))
   . exact VF _ h1
theorem kX(h:Ng g n)(f:Tm->Bool){r:Int}(hr:r.natAbs<=2^880):Ng g (n.1.filter f,r):=
 ⟨⟨λt ht=>h.p.nz t (VY.mp ht).1,nA h.p.nd,Vg (by
   have:∀l:List Tm,aq ((l.filter f).map λt=>bC t.k*t.s.am)<=aq (l.map λt=>bC t.k*t.s.am):=λl=>by
    induction l with
    |nil=>exact Vt _
    |cons a l ih=>
     rw[Ws,Vn,au];split
     . rw[Vn,au];lia
     . lia
   exact this n.1) h.p.am,hr⟩,λt ht=>h.a t (VY.mp ht).1⟩
theorem uz(h:Ng g n)(hb:2<=b)(f:b.natAbs<=2^870):Ng g (wN b n):=kX h _ (by
 have h0:=Wc n.2 (b:=b) (by lia);have h1:=V5 n.2 (b:=b) (by exact Vs hb);lia)
theorem lm(h:Ng g n)(hb:1<=b):Ng g (uN b n):=by
 have F:=kX (r:=0) h (fB b) (by decide);have hd:∀t∈n.1.filter (fB b),t.k%b=0:=λt ht=>V9 (VY.mp ht).2;refine⟨⟨λt ht=>?_,?_,?_,?_⟩,λt ht=>?_⟩
 . refine ab (Vy.mp ht) λu f i=>?_;subst i;exact gW (F.p.nz u f) (hd u f)
 . show List.Nodup (List.map _ (List.map _ _));rw[Vv];exact F.p.nd
 . refine Vg ?_ F.p.am;show aq (List.map _ (List.map _ _))<=aq _;rw[Vv];exact bM λt ht=>VC _ (kQ (by assumption) (hd t ht))
 . have:(n.2/b).natAbs<=n.2.natAbs:=VV ..;exact Vg this h.p.vb
 . refine ab (Vy.mp ht) λu f i=>?_;subst i;exact F.a u f
theorem wc(h:Ng g n)(hb:2<=b):(∀ρ,(sm n).val ρ=b*(sm (uN b n)).val ρ+(sm (wN b n)).val ρ)/\(sm (uN b n)).am+(sm (wN b n)).am<=(sm n).am/\(sm (uN b n)).ph+(sm (wN b n)).ph<=(sm n).ph/\
 (∀i,(sm (uN b n)).vs i=true\/(sm (wN b n)).vs i=true->(sm n).vs i=true):=by
 have hd:∀t∈n.1.filter (fB b),t.k%b=0/\t.k≠0:=λt ht=>⟨V9 (VY.mp ht).2,h.p.nz t (VY.mp ht).1⟩;refine⟨λρ=>?_,?_,?_,λi hi=>?_⟩
 . show ao (n.1.map λt=>t.s.val ρ*t.k)+n.2=b*(ao (List.map _ (List.map _ _))+n.2/b)+(ao ((n.1.filter (gB b)).map λt=>t.s.val ρ*t.k)+n.2%b);rw[BH (b:=b),Vv,Int.mul_add];have:ao ((n.1.filter (fB b)).map λt=>t.s.val ρ*t.k)=b*ao ((n.1.filter (fB b)).map ((λt=>t.s.val ρ*t.k)∘tq b)):=by
    rw[WV,<-lM];refine Vx ao (V0 λt ht=>?_);show t.s.val ρ*t.k=t.s.val ρ*(t.k/b)*b;rw[Xf,Int.ediv_mul_cancel (W2 (hd t ht).1)]
   have e:=Wn n.2 b;rw[this];lia
 . show aq (List.map _ (List.map _ _))+aq _<=aq _;rw[iY (b:=b) _ n.1,Vv];have:aq ((n.1.filter (fB b)).map ((λt=>bC t.k*t.s.am)∘tq b))<=aq ((n.1.filter (fB b)).map λt=>bC t.k*t.s.am):=bM λt ht=>VC _ (kQ (by exact Vs hb) (hd t ht).1);exact Wh this _
 . show aq (List.map _ (List.map _ _))+aq _<=aq _;rw[iY (b:=b) _ n.1,Vv];have:aq ((n.1.filter (fB b)).map ((λt=>wk t.k*t.s.ph)∘tq b))<=aq ((n.1.filter (fB b)).map λt=>wk t.k*t.s.ph):=bM λt ht=>by
    have h1:wk t.k=2:=Vk λq=>by have:=(hd t ht).1;rw[q,WK (by decide) (by assumption)]at this;lia
    rw[h1];exact VC _ (mX _)
   exact Wh this _
 . refine Or.elim hi (λhi=>?_) λhi=>?_
   . refine ab (cO hi) λt ht e=>?_;refine ab (Vy.mp ht) λu f z=>?_;subst z;exact VX.mpr ⟨u,(VY.mp f).1,e⟩
   . refine ab (cO hi) λt ht e=>?_;exact VX.mpr ⟨t,(VY.mp ht).1,e⟩
theorem yr{α:Type}{f h:α->Nat}{l:List α}(hl:∀t∈l,f t<=h t){t:α}(ht:t∈l)(e:f t+2<=h t):aq (l.map f)+2<=aq (l.map h):=by refine cq (List.append_of_mem ht) λa b i=>?_;subst i;have h1:=bM (f:=f) (g:=h) (l:=a) λt ht=>hl t (WZ _ ht);have h2:=bM (f:=f) (g:=h) (l:=b) λt ht=>hl t (List.mem_append_right _ (Vw _ ht));rw[VM,VM,bN,bN,Vn,Vn,au,au];lia
theorem Mt(i:g.Ok)(h:Ng g n)(hb:2<=b){t:Tm}(ht:t∈n.1)(f:t.k=b):(sm (uN b n)).ph+(sm (wN b n)).ph+2<=(sm n).ph:=by
 show aq (List.map _ (List.map _ _))+aq _+2<=aq _;rw[iY (b:=b) _ n.1,Vv];have:aq ((n.1.filter (fB b)).map ((λt=>wk t.k*t.s.ph)∘tq b))+2<=aq ((n.1.filter (fB b)).map λt=>wk t.k*t.s.ph):=by
  refine yr (λt ht=>?_) (t:=t) (VY.mpr ⟨ht,by unfold fB;rw[f,Int.emod_self];rfl⟩) ?_
  . have h1:wk t.k=2:=Vk λq=>by
     have:=(λt ht=>V9 (VY.mp ht).2:∀t∈n.1.filter (fB b),t.k%b=0) t ht;rw[q,WK (by decide) (by assumption)]at this;lia
    rw[h1];exact VC _ (mX _)
  . have h1:wk t.k=2:=Vk (by lia);have h2:wk (t.k/b)=1:=by rw[f,Int.ediv_self (by lia)];rfl
    have:=((h.a t ht).sb i).ph;show wk (t.k/b)*t.s.ph+2<=wk t.k*t.s.ph;rw[h1,h2];lia
 have e:∀w,aq ((wN b n).1.map w)=aq ((n.1.filter (gB b)).map w):=λw=>rfl;rw[e];lia
theorem Nu(q:Int):(nF q).flatMap (·.1)=[]/\ao ((nF q).map (·.2))=q/\(∀n∈nF q,n=([],q))/\(nF q).length<=1:=by
 unfold nF;by_cases h:q=0
 . rw[Vi h,h];exact⟨rfl,rfl,λ_ h=>(nomatch h),Vq _⟩
 . rw[Vk h];exact⟨rfl,WN q,λn hn=>Vo.mp hn,Vt _⟩
theorem lu(B:g.Ok){ts:List Tm}{q:Int}{p:Nat}(h:Nw g (ts,q))(hl:ts.length<=60)(P:nP ts<=p)(F:p<=120):Ev (4*p+11) 211 [.list ((ts.map (λt=>(([t],0):aY))++nF q).map nO)] [] (nO (ts,q)):=by
 refine eM (Nu q) λG H I Q=>?_;have i:(ts.map (λt=>(([t],0):aY))++nF q).flatMap (·.1)=ts:=by rw[List.flatMap_append,G,WB,List.flatMap_map,Pa];simp
 have J:ao ((ts.map (λt=>(([t],0):aY))++nF q).map (·.2))=q:=by
  rw[VM,ci,H,Vv];have:∀l:List Tm,ao (l.map ((λn:aY=>n.2)∘λt=>([t],0)))=0:=λl=>by
   induction l with
   |nil=>rfl
   |cons a l ih=>rw[Vn,ak,ih];rfl
  rw[this,Xb]
 have N:cu (ts.map (λt=>(([t],0):aY))++nF q)=(ts,q):=by unfold cu;rw[i,J,i6 h.nd h.nz]
 have key:∀n∈ts.map (λt=>(([t],0):aY))++nF q,(∃t∈ts,n=([t],0))\/n=([],q):=λn hn=>by
  refine Or.elim (Wl.mp hn) (λhn=>?_) λhn=>?_
  . refine ab (Vy.mp hn) λt ht O=>?_;subst O;exact .inl ⟨t,ht,rfl⟩
  . exact .inr (I n hn)
 have S:=eA B (ts.map (λt=>(([t],0):aY))++nF q) (λn=>n) (λn hn=>by
  rcases key n hn with⟨t,ht,rfl⟩|rfl
  . refine⟨λu z=>by rw[Vo.mp z];exact h.nz t ht,by simp[Nn],Vg (show bC t.k*t.s.am+0<=_ from ?_) h.am,λu z=>by rw[Vo.mp z];exact h.a t ht⟩;exact aR (f:=λt:Tm=>bC t.k*t.s.am) ht
  . exact yx q) (p:=p) (λn hn=>by
  rcases key n hn with⟨t,ht,rfl⟩|rfl
  . have:t.s.ph<=nP ts:=aR (f:=λt:Tm=>t.s.ph) ht;show t.s.ph+0<=p;lia
  . exact Vq _) F (by rw[i,VO,Vp];lia) (by
    have:=jY (λt=>bC t.k*t.s.am) (ts.map (λt=>(([t],0):aY))++nF q);rw[<-this,i];exact h.am)
 rw[List.map_id',N]at S;exact S
noncomputable def xb(call:aI)(make:aH)(u w:AV)(b g d:Int):Option AV:=
 if decide (g>1)=true then bH w "__floordiv__" λf w=>(call f [w,.int g] []).bind λw=>(oP call make .FloorDiv (.int b) (.int g)).bind λe=>(oP call make .FloorDiv w e).bind λw=>(oP call make .Add u w).bind some
 else if decide (d>1)=true then bH w "__floordiv__" λf w=>(call f [w,.int d] []).bind λw=>(oP call make .FloorDiv (.int b) (.int d)).bind λe=>(oP call make .FloorDiv w e).bind λw=>(oP call make .Add u w).bind some
 else(call 192 [w,.int b] []).bind λw=>(oP call make .Add u w).bind some
theorem x7(f:g.Ok)(h:Ng g n)(h0:n.1≠[])(h2:(aW n).length>=2)(hb:2<=b)(i:b.natAbs<=2^870)(B:nP n.1<=p)(F:p<=118){k:Nat}(u:4*p+19<=k):
 fC (aF k) (aV k) 632 [nO n,.int b] []=xb (aF k) (aV k) (nO (uN b n)) (nO (wN b n)) b (Int.gcd (GG b n.1) (n.2%b)) (DD b n.1):=by
 have hl:n.1.length<=60:=h.w.len f (by lia);have hi:=fT n;refine ab (Ci f h hl hb i (nO n) (k:=k) (by exact up u rfl)) λr hr E=>?_;have q2:nO n=bZ ((aW n).map iX) (sm n).mn (sm n).mx:=by
  rcases aL n with⟨q1,_⟩|⟨t,rfl,_⟩|⟨t,rfl,_⟩|⟨_,_,q2⟩
  . exact Vu q1 h0
  . simp[aW]at h2
  . simp[aW]at h2
  . exact q2
 have z:gA (aF k) (aV k) (bZ ((aW n).map iX) (sm n).mn (sm n).mx) "flat_components"=some (.list ((aW n).map iX)):=
  (Mc (C:=656) rfl (by decide) (show ba.prop 656 "flat_components"=some 652 by kernel_rfl)).trans (zI (λx hx=>by rw[jc]at hx;exact jd h.a hx) (by rw[Vp];lia) (.inr ⟨_,_,rfl⟩) k (by exact up u rfl))
 have U:=lu (p:=p) f (lm (b:=b) h (by exact Vs hb)).w (by
  rw[Vp];exact Vg (V8 ..) hl) (by
  have:aq (n.1.map λt=>t.s.ph)=_:=iY (b:=b) (λt=>t.s.ph) n.1;have e:nP (uN b n).1=aq ((n.1.filter (fB b)).map λt=>t.s.ph):=by unfold nP uN;rw[Vv];rfl
  have:nP n.1=aq (n.1.map λt=>t.s.ph):=rfl;rw[e];lia) (by lia) k (by lia)
 have W:=lu (p:=p) f (uz h hb i).w (Vg (V8 ..) hl) (by
  have:aq (n.1.map λt=>t.s.ph)=_:=iY (b:=b) (λt=>t.s.ph) n.1;have e:nP (wN b n).1=aq ((n.1.filter (gB b)).map λt=>t.s.ph):=rfl;have:nP n.1=aq (n.1.map λt=>t.s.ph):=rfl;rw[e];lia) (by lia) k (by lia)
 rw[Vv (g:=λt=>(([t],0):aY))]at U;have U:aF k 211 [.list ((FF b n.1++nF (n.2/b)).map nO)] []=some (nO (uN b n)):=U;rw[q2,Kx,r9 (C:=656) (.inr (.inr (.inr (.inr (.inr (.inr rfl)))))) (by decide) (by lia),Vl,Vk (by decide),Vk (by simp;exact Wd hb),z,Vl];show(bU _ _ (bf _) _).bind _=_;rw[q2]at E;rw[E,Vl];show cS _ _ 632 9 191 _=_;rw[MY _ _ _ b _ _ _ _ r hr,U,W];rw[Vl];rfl
end
section
variable{g:Gv}{call:aI}{make:aH}{n m a:aY}{p:Nat}{b:Int}{D:Nat}
theorem RS.w{m:aY}{v f:(Nat->Int)->Int}{ph u p z am B:Nat}{vs F:Nat->Prop}(R:RS g m v ph p am vs)(hv:∀ρ,g.In ρ->v ρ=f ρ)(h1:ph<=u)(h2:p<=z)(H:am<=B)(I:∀i,vs i->F i):RS g m f u z B F:=
 ⟨R.nd,λρ G=>(R.val ρ G).trans (hv ρ G),Vg R.ph h1,Vg R.p h2,Vg R.am H,λi hi=>I i (R.vs i hi)⟩
noncomputable abbrev RD(g:Gv)(n:aY)(b:Int)(m:aY):Prop:=RS g m (λρ=>(sm n).val ρ/b) ((sm n).ph+md n.1) ((sm n).ph+md n.1) (b.natAbs*(sm n).am) (λi=>(sm n).vs i=true)
inductive DS(g:Gv)(D:Nat)(n:aY)(b:Int):Prop
 |mk (m:aY) (o:Op D .FloorDiv (nO n) (.int b) (nO m)) (r:RD g n b m) (x:2<=(aW n).length->2<=b->(∃t∈n.1,t.k=b)->(sm m).ph+1<=(sm n).ph)
theorem DS.mono{D'}(h:DS g D n b)(hd:D<=D'):DS g D' n b:=by obtain⟨m,O,R,X⟩:=h;exact⟨m,O.mono hd,R,X⟩
theorem MG:(dj.all λC=>(ba.op C .FloorDiv (.type "int")).isSome&&ba.op C .FloorDiv (.type "int")==ba.cZ C "__floordiv__")=true:=by kernel_rfl
theorem F9(h:∀t∈n.1,At g t.x t.s t.t){R:Type}{i:Int}{K:AV->Option R}:(bH (nO n) "__floordiv__" λf w=>(call f [w,.int i] []).bind K)=(oP call make .FloorDiv (nO n) (.int i)).bind K:=by refine aP (bx (r:=n.2) h) λC fl e u=>?_;have e:nO n= .obj C fl:=e;have:=VB.mp MG C (oT u);simp only[V6,WU,WG]at this;refine af this λz h2=>?_;refine ax z λf hf=>?_;rw[e,bl (h2▸hf),cU hf]
inductive WR(g:Gv)(D:Nat)(w:aY)(b G d:Int):Prop
 |mk (m:aY) (o:∀k,D<=k->∀u,xb (aF k) (aV k) u (nO w) b G d=(oP (aF k) (aV k) .Add u (nO m)).bind some) (r:RD g w b m)
theorem gw(ts:List Tm):md ts<=1:=Vg (ki _ 0) (kh _ _)
theorem Hf(u:g.Ok)(h:Ng g n)(h0:n.1≠[])(h2:(aW n).length>=2)(hb:2<=b)(F:b.natAbs<=2^860)(G:b.natAbs*(sm n).am<=2^800)(H:(sm n).ph<=p)(cH:p<=115)(hD:4*p+20<=D)
 (W:WR g D (wN b n) b (Int.gcd (GG b n.1) (n.2%b)) (DD b n.1)):DS g (D+1) n b:=by
 have I:(2:Nat)^860<=2^870:=VH (by decide) (by decide);have hP:nP n.1<=(sm n).ph:=dC;obtain⟨m,E,R⟩:=W;refine eM (wc h hb) λu1 u2 z U=>?_;have J:=lm (b:=b) h (by exact Vs hb);have hW:=uz h hb (Vg F I);have X:md (wN b n).1<=md n.1:=by
  by_cases q:(wN b n).1=[]
  . rw[q];exact Vq _
  . by_cases q2:n.1.filter (fB b)=[]
    . have:(wN b n).1=n.1:=List.filter_eq_self.mpr λt ht=>by
       unfold gB
       induction hf:fB b t with
       |false=>rfl
       |true=>have:=VY.mpr ⟨ht,hf⟩;rw[q2]at this;cases this
      rw[this];exact Vt _
    . have:md n.1=1:=by
       match hn:n.1,h0 with
       |[t],_=>
        rw[hn]at q2;have q:([t].filter (gB b))≠[]:=by rw[<-hn];exact q
        unfold gB at q;simp at q q2;rw[q2]at q;injection q
       |_::_::_,_=>rfl
      rw[this];exact gw _
 have HL:(sm (uN b n)).am+(sm m).am<=b.natAbs*(sm n).am:=by have N:b.natAbs*((sm (uN b n)).am+(sm (wN b n)).am)<=b.natAbs*(sm n).am:=VF _ u2;rw[Nat.mul_add,WM b.natAbs (sm (uN b n)).am]at N;exact Vg (Wf (Wu _ (Int.natAbs_pos.mpr (Wd (WC (by decide) hb)))) R.am) N
 have O:∀ρ,g.In ρ->(sm (uN b n)).val ρ+(sm m).val ρ=(sm n).val ρ/b:=λρ Y=>by rw[R.val ρ Y,u1 ρ,WW (b*_),Int.add_mul_ediv_left _ _ (by lia:b≠0),WW]
 have hv:((sm (uN b n)).val g.lo+(sm m).val g.lo).natAbs<=2^879+2^863:=by rw[O g.lo u.cX];exact Nat.le_of_mul_le_mul_left (Vg (Ab hb) (Vg (Wh (pW (fR u h.a h.p.am u.cX) h.p.vb (Vt _)) 2) (by decide))) (show 0<2 by decide)
 have P:=AN u J R.nd (Vg HL G) hv;have Z:nP m.1<=p+1:=Vg R.p (Wf (Vg (Vg (WX _ _) z) H) (gw _));have up:nP (uN b n).1<=p+1:=Vg dC (Vg (Vg (Wg _ _) z) (Nat.le_succ_of_le H));have Q:(sm (uN b n)).ph+((sm (wN b n)).ph+md (wN b n).1)<=(sm n).ph+md n.1:=Vg (Wj (Nat.add_assoc ..).symm) (Wf z X);have wE:(sm (uN b n)).ph+(sm m).ph<=(sm n).ph+md n.1:=Vg (Wt R.ph _) Q;refine⟨cu [uN b n,m],λk B=>?_,P.w O wE (Vg (Wf dC R.p) Q) HL (λi hi=>U i (hi.imp id (R.vs i))),λ_ _⟨t,ht,e⟩=>?_⟩
 . have q2:nO n=bZ ((aW n).map iX) (sm n).mn (sm n).mx:=by
    rcases aL n with⟨q1,_⟩|⟨t,rfl,_⟩|⟨t,rfl,_⟩|⟨_,_,q2⟩
    . exact Vu q1 h0
    . simp[aW]at h2
    . simp[aW]at h2
    . exact q2
   have:=aw (d:=D) (f:=632) (xs:=[nO n,.int b]) (kx:=[]) (r:=nO (cu [uN b n,m])) (by lia) (by decide) (λk B=>by
    rw[x7 u h h0 h2 hb (Vg F I) (p:=p) (by lia) (by lia) (by lia),E k B,(oN (p:=p+1) u J R.nd up Z (by lia) (Vg HL G)) k (by lia)];rfl) k B
   rw[q2]at this⊢;rw[cU (show ba.op 656 .FloorDiv (.type "int")=some 632 by kernel_rfl)];exact this
 . have:=Mt u h hb ht e;have:=P.ph;have:=R.ph;have:=gw (wN b n).1;lia
end
section
variable{g:Gv}{call:aI}{make:aH}{n m a:aY}{p:Nat}{b:Int}{D:Nat}
theorem cm(c:Int):nO ([],c)=aO c:=fX (.inr c)
theorem kM(i:g.Ok){c:Int}(u:c.natAbs<=2^880)(hb:1<=b)(z:b.natAbs<=2^870):Op 17 .FloorDiv (aO c) (.int b) (aO (c/b)):=λk f=>by
 rw[cU (show ba.op 338 .FloorDiv (.type "int")=some 192 by kernel_rfl)];refine aw (d:=16) (by decide) (by decide) (λk f=>?_) k f;by_cases q:b=1
 . rw[q,Int.ediv_one,zN];rfl
 . exact(zN ..).trans (zF i u (by lia) z f _)
theorem lq(h:∀t∈n.1,t.k%b=0)(h2:n.2%b=0):uN b n=(n.1.map (tq b),n.2/b)/\wN b n=([],0):=by
 have f:n.1.filter (fB b)=n.1:=List.filter_eq_self.mpr λt ht=>VJ (h t ht);have i:n.1.filter (gB b)=[]:=List.filter_eq_nil_iff.mpr λt ht=>by unfold gB fB;simp[h t ht]
 unfold uN wN;rw[f,i,h2];exact⟨rfl,rfl⟩
theorem zG(f:g.Ok)(h:Ng g n)(hb:2<=b)(u:b.natAbs<=2^870)(hd:∀t∈n.1,t.k%b=0)(h2:n.2%b=0)(N:nP n.1<=p)(O:p<=118):Op (4*p+22) .FloorDiv (nO n) (.int b) (nO (uN b n)):=λk i=>by
 refine af (lq hd h2) λz P=>?_;have sb:Sm b=true:=bR (by lia);rcases aL n with⟨q1,q2⟩|⟨t,rfl,q1,q2⟩|⟨t,rfl,q1,q2⟩|⟨q0,q1,q2⟩
 . rw[q2,z,q1,kM f h.p.vb (by exact Vs hb) u k (by exact up i rfl)];exact Vx some (cm _).symm
 . have:=hd t Vm;rw[q1,WK (by decide) (by assumption)]at this;lia
 . have T:=uC f h (t:=t) Vm q1 (by lia) sb (hd t Vm) k (by exact up i rfl);rw[q2,cU (show ba.op 485 .FloorDiv (.type "int")=some 454 by kernel_rfl),T,z];show _=some (nO ([tq b t],0/b));rw[Int.zero_ediv]
 . have R:Ev (4*p+20) 632 [nO n,.int b] [] (nO (uN b n)):=aw (d:=4*p+19) (by lia) (by decide) λk i=>by
    have G:GG b n.1=b:=by
     refine eM (HQ (b:=b) (by exact Vs hb) n.1) λQ U _ B=>?_;have B:=B b (Int.dvd_refl _) λt ht H=>by unfold gB fB at H;simp[hd t ht]at H
     exact Int.dvd_antisymm (by exact Vs Q) (by lia) U B
    have F:=lm (b:=b) h (by lia);have W:nP (uN b n).1<=p:=by
     rw[z];have:nP (n.1.map (tq b))=nP n.1:=by unfold nP;rw[Vv];rfl
     lia
    have A:=oN (p:=p) f F (cV (c:=0) (by decide)) W (Vq _) (by lia) (by rw[aD];exact F.p.am) k (by lia);rw[uT F 0,WN,cm]at A;have I:∀b:Int,1<=b->b.natAbs<=2^870->oP (aF k) (aV k) .FloorDiv (nO ([],0)) (.int b)=some (aO 0):=λb h1 h2=>by rw[cm,kM f (c:=0) (by decide) h1 h2 k (by exact up i rfl),Int.zero_ediv]
    have J:=I 1 (by decide) (by decide);rw[cm]at J;have X:((Int.gcd b 0:Nat):Int)=b:=by rw[Int.gcd_zero_right];lia
    rw[x7 f h q0 q1 hb u (p:=p) N O i,G,h2,P,X];unfold xb;rw[Vi (by simp;lia),F9 (g:=g) (n:=([],0)) (λt ht=>(nomatch ht)),I b (by exact Vs hb) u,Vl,dl sb (by exact Vs hb),Int.ediv_self (by lia),Vl,J,Vl,A];rfl
   have R:=R k (by lia);rw[q2]at R⊢;rw[cU (show ba.op 656 .FloorDiv (.type "int")=some 632 by kernel_rfl)];exact R
theorem xw(u:g.Ok)(h:Ng g n)(hb:2<=b)(hd:∀t∈n.1,t.k%b=0)(h2:n.2%b=0):(sm (uN b n)).ph+md (uN b n).1<=(sm n).ph+md n.1/\(∀t,n.1=[t]->(tq b t).k=1->(sm (uN b n)).ph+1<=(sm n).ph):=by
 refine af (lq hd h2) λf G=>?_;have U:=(wc h hb).2.2.1;have i:∀t∈n.1,t.k≠1:=λt ht q=>by have:=hd t ht;rw[q,WK (by decide) (by assumption)]at this;lia
 have X:∀t,n.1=[t]->(tq b t).k=1->(sm (uN b n)).ph+1<=(sm n).ph:=λt e q=>by
  have ht:t∈n.1:=by rw[e];exact Vm
  have:=((h.a t ht).sb u).ph;have z:(sm (uN b n)).ph=t.s.ph:=by rw[f];show aq (List.map _ (List.map _ n.1))=_;rw[e];show wk (tq b t).k*t.s.ph+0=_;rw[q];show 1*t.s.ph+0=_;lia
  have B:(sm n).ph=2*t.s.ph:=by show aq (List.map _ n.1)=_;rw[e];show wk t.k*t.s.ph+0=_;rw[show wk t.k=2 from Vk (i t ht)];lia
  (clear U;lia)
 refine⟨?_,X⟩;rw[f]at U X⊢
 match hn:n.1 with
 |[]=>rw[hn]at U;show _+0<=_+0;exact up U rfl
 |[t]=>
  have F:md [t]=0:=Vk (i t (by rw[hn];exact Vm));rw[F];by_cases q:(tq b t).k=1
  . have:=X t hn q;rw[show md [tq b t]=1 from Vi q,<-hn];assumption
  . rw[show md [tq b t]=0 from Vk q,<-hn];lia
 |t::t'::l=>
  rw[<-hn];have z:md n.1=1:=by rw[hn];rfl
  have B:=gw (n.1.map (tq b));lia
theorem wr{w:aY}(J:g.Ok)(hw:Ng g w)(hb:2<=b)(hB:b.natAbs<=2^860)(N:b.natAbs*(sm w).am<=2^800)(U:0<=w.2/\w.2<b)(hp:(sm w).ph<=p)(cH:p<=115){G d:Int}(hG:0<G/\G∣b/\(∀t∈w.1,G∣t.k)/\G∣w.2)
 (W:∀e:Int,e∣b->(∀t∈w.1,e∣t.k)->e∣w.2->e∣G)(hd:d=1\/∃t∈w.1,t.k=d/\d∣b)(hD:4*p+22<=D)(X:1<G->DS g D (uN G w) (b/G))(Dd:G=1->1<d->d∣b->(∃t∈w.1,t.k=d)->2<=(aW w).length->DS g D w d)
 (IH:∀n,Ng g n->(sm n).ph+1<=(sm w).ph->∀P:Int,1<=P->P.natAbs<=2^860->P.natAbs*(sm n).am<=2^800->DS g D n P):WR g D w b G d:=by
 have pB:(2:Nat)^860<=2^870:=VH (by decide) (by decide);have hP:nP w.1<=(sm w).ph:=dC;refine eM hG λg0 Y g2 g3=>?_;have T6:G<=b:=W1 (by exact Vs hb) Y;have TT:G.natAbs<=2^870:=Vg (show G.natAbs<=b.natAbs by clear Y g2 g3 W hd X Dd IH;(clear U N hB;lia)) (Vg hB pB);by_cases q:1<G
 . obtain⟨m,O,R,_⟩:=X q;have Q:∀t∈w.1,t.k%G=0:=λt ht=>W3 (g2 t ht);have h2:w.2%G=0:=W3 g3;refine eM (wc (b:=G) hw (by lia)) λu1 u2 _ u4=>?_;refine⟨m,λk f u=>?_,R.w (λρ bh=>?_) (xw J hw (by lia) Q h2).1 (xw J hw (by lia) Q h2).1 ?_ λi hi=>u4 i (.inl hi)⟩
   . unfold xb;refine(Vi (by simpa using q)).trans ?_;rw[F9 (n:=w) hw.a];refine bE ((zG J hw (b:=G) (by assumption) TT Q h2 (p:=p) (by lia) (by lia)) k (by lia)) ?_;refine bE (dl (bR (by lia)) (by assumption)) ?_;rw[O k f];rfl
   . have B:=u1 ρ;rw[(lq Q h2).2,aD]at B;rw[B,WN]
     conv=>rhs;rw[<-(Wx Y)]
     exact(Int.mul_ediv_mul_of_pos _ _ (by lia)).symm
   . have:(b/G).natAbs<=b.natAbs:=VV ..;exact Wq this (by lia)
 . have Ru:G=1:=by lia
   by_cases q2:1<d
   . refine bV (hd.resolve_left (by exact Wd q2)) λt ht B H=>?_;clear hd;have hl:2<=(aW w).length:=Wp λz=>by
      have hn:w.1≠[]:=λe=>by rw[e]at ht;cases ht
      rcases aL w with⟨q1,_⟩|⟨t',e,_⟩|⟨t',e,_⟩|⟨_,q1,_⟩
      . exact hn q1
      all_goals first
       |exact z q1
       |(rw[e]at ht W
         have h3:=W d H (λu hu=>by rw[Vo.mp hu,<-Vo.mp ht,B];exact Int.dvd_refl _) (Int.dvd_zero _);rw[Ru]at h3;have:=W1 (by decide) h3;lia)
     obtain⟨Z,O1,I,X1⟩:=Dd Ru q2 H ⟨t,ht,B⟩ hl;have X1:=X1 hl (by assumption) ⟨t,ht,B⟩;have C0:d<=b:=W1 (by lia) H;have pZ:d*(b/d)=b:=Wx H;have Ee:0<b/d:=WO (by lia) (by lia) H;have Q8:(b/d).natAbs<=b.natAbs:=VV ..;have H7:(b/d).natAbs*d.natAbs=b.natAbs:=by rw[<-WQ,WV,pZ]
     have jx:(b/d).natAbs*(sm Z).am<=b.natAbs*(sm w).am:=by rw[<-H7,WE];exact VF _ I.am
     obtain⟨m,O,R,_⟩:=IH Z I.nd X1 (b/d) (by assumption) (by lia) (Vg jx N);have hm:=gw Z.1;refine⟨m,λk f u=>?_,R.w (λρ bh=>?_) (by lia) (by lia) jx λi hi=>I.vs i hi⟩
     . unfold xb;rw[Vk (by simpa using q),Vi (by simpa using q2),F9 (n:=w) hw.a,O1 k f,Vl,dl (bR (by(clear R jx H7 Ee I T6 X U N;lia))) (by lia),Vl,O k f];rfl
     . rw[I.val ρ bh,Int.ediv_ediv_of_nonneg (by lia),pZ]
   . obtain⟨m,E,R⟩:=CJ J hw hb (by lia) N (.inr U) (p:=p) hp (by lia);refine⟨m,λk f u=>?_,R⟩;refine aP (bx (r:=w.2) hw.a) λC fl e hC=>?_;have e:nO w= .obj C fl:=e;have F:aF k 192 [nO w,.int b] []=some (nO m):=by
      rw[e];exact aw (d:=4*p+16) (by lia) (by decide) (λk f=>(zN ..).trans (E C fl e k f _)) k (by lia)
     unfold xb;rw[Vk (by simpa using q),Vk (by simpa using q2),F];rfl
end
section
variable{g:Gv}{call:aI}{make:aH}{n m a:aY}{p:Nat}{b:Int}{D:Nat}
noncomputable def HP(g:Gv)(p D:Nat):Prop:=∀n,Ng g n->(sm n).ph+1<=p->∀b:Int,1<=b->b.natAbs<=2^860->b.natAbs*(sm n).am<=2^800->DS g D n b
theorem t6(hb:2<=b)(n:aY):(0<(Int.gcd (GG b n.1) (n.2%b):Int)/\(Int.gcd (GG b n.1) (n.2%b):Int)∣b/\(∀t∈(wN b n).1,(Int.gcd (GG b n.1) (n.2%b):Int)∣t.k)/\(Int.gcd (GG b n.1) (n.2%b):Int)∣(wN b n).2)/\
 (∀e:Int,e∣b->(∀t∈(wN b n).1,e∣t.k)->e∣(wN b n).2->e∣(Int.gcd (GG b n.1) (n.2%b):Int))/\(DD b n.1=1\/∃t∈(wN b n).1,t.k=DD b n.1/\DD b n.1∣b):=by
 refine eM (HQ (b:=b) (by exact Vs hb) n.1) λh0 h1 h2 u=>?_;have f:∀t,t∈(wN b n).1<->t∈n.1/\gB b t=true:=λt=>VY;have hl:(Int.gcd (GG b n.1) (n.2%b):Int)∣GG b n.1:=Int.gcd_dvd_left ..;refine⟨⟨by have:=Int.gcd_pos_of_ne_zero_left (a:=GG b n.1) (n.2%b) (by exact Wd h0);lia,Int.dvd_trans hl h1,λt ht=>Int.dvd_trans hl (h2 t ((f t).mp ht).1 ((f t).mp ht).2),Int.gcd_dvd_right ..⟩,λe z B F=>Int.dvd_coe_gcd (u e z λt ht i=>B t ((f t).mpr ⟨ht,i⟩)) F,?_⟩;rcases Qn (b:=b) n.1 with h|⟨t,ht,i,h⟩
 . exact .inl h
 . exact .inr ⟨t,(f t).mpr ⟨ht,i⟩,h⟩
theorem DB(hb:2<=b)(n:aY):0<=(wN b n).2/\(wN b n).2<b:=⟨Wc _ (by lia),V5 _ (by exact Vs hb)⟩
theorem AM{b G:Int}{x y:Nat}(hb:0<b)(h:x<=y)(f:b.natAbs*y<=2^800):(b/G).natAbs*x<=2^800:=
 Vg (Wq (VV ..) h) f
theorem AL{b d:Int}{x y:Nat}(hb:0<b)(hd:0<d)(hl:d<=b)(h:x<=y)(f:b.natAbs*y<=2^800):d.natAbs*x<=2^800:=
 Vg (Wq (show d.natAbs<=b.natAbs by lia) h) f
theorem yE{b d:Int}{x:Nat}(hb:0<b)(hd:0<d)(hl:d<=b)(h:b.natAbs<=x):d.natAbs<=x:=by lia
theorem G9(u:g.Ok)(h:Ng g n)(h0:n.1≠[])(h2:2<=(aW n).length)(hb:2<=b)(f:b.natAbs<=2^860)(G:b.natAbs*(sm n).am<=2^800)(O:(sm n).ph<=p)(H:p<=115)(P:∃t∈n.1,fB b t=true)(Q:4*p+22<=D)(z:HP g p D):DS g (D+1) n b:=by
 refine dh (t6 hb n) λB U W=>?_;refine eM (wc h hb) λ_ u2 u3 _=>?_;have i:=uz h hb (Vg f (VH (by decide) (by decide)));have I:2<=(sm (uN b n)).ph:=ca (r:=(uN b n).2) (λe=>by
  refine ab P λt ht hf=>?_;have:t∈n.1.filter (fB b):=VY.mpr ⟨ht,hf⟩;rw[WL.mp e]at this;cases this) λt ht=>((lm (b:=b) h (by exact Vs hb)).a t ht).sb u
 have F:b.natAbs*(sm (wN b n)).am<=2^800:=Vg (VF _ (by lia)) G;have X:=B.1;refine Hf u h h0 h2 hb f G O H (by lia) (wr u i hb f F (DB hb n) (p:=p) (by(clear I;lia)) H B U W Q (λhg=>?_) (λ_ J Y _ _=>?_) λZ h' OF b'=>z Z h' (by(clear I;lia)) b')
 . refine eM (wc i (b:=(Int.gcd (GG b n.1) (n.2%b):Int)) (by assumption)) λ_ v2 v3 _=>?_;refine z _ (lm (b:=(Int.gcd (GG b n.1) (n.2%b):Int)) i (by assumption)) (by lia) _ (WO (by lia) (by exact Vs X) B.2.1) (Vg (VV ..) f) (AM (by lia) (by lia) F)
 . have N:=W1 (by lia) Y;exact z _ i (by lia) _ (by exact Vs J) (yE (by lia) (by exact Vs J) N f) (AL (by lia) (by lia) N (Vt _) F)
theorem uy(f:∀t∈n.1,fB b t=false):wN b n=(n.1,n.2%b):=by unfold wN;rw[List.filter_eq_self.mpr λt ht=>by unfold gB;rw[f t ht];rfl]
theorem PV(i:g.Ok)(h:Ng g n)(h0:n.1≠[])(h2:2<=(aW n).length)(hb:2<=b)(u:b.natAbs<=2^860)(z:b.natAbs*(sm n).am<=2^800)(B:(sm n).ph<=p)(F:p<=115)(P:∀t∈n.1,fB b t=false)(hr:0<=n.2/\n.2<b)
 (Q:∀e:Int,0<e->e∣b->(∀t∈n.1,e∣t.k)->e∣n.2->e=1)(G:4*p+22<=D)(H:HP g p D):DS g (D+2) n b:=by
 have I:wN b n=n:=by rw[uy P,WK hr.1 hr.2]
 refine dh (t6 hb n) λf J N=>?_;rw[I]at f J N;have Z:=Q _ f.1 f.2.1 f.2.2.1 f.2.2.2;refine Hf i h h0 h2 hb u z B F (by lia) ?_;rw[I];refine wr i h hb u z hr (p:=p) B F f J N (by exact Nat.le_succ_of_le G) (λhg=>by lia) (λ_ U W ht _=>?_) λX h' OF Y b1 b2 b3=>(H X h' (by lia) Y b1 b2 b3).mono (by lia);have O:=W1 (by exact Vs hb) W;refine ab ht λt ht e=>?_;exact G9 i h h0 h2 (by assumption) (yE (by lia) (by exact Vs U) O u) (AL (by lia) (by lia) O (Vt _) z) B F ⟨t,ht,by unfold fB;rw[e,Int.emod_self];rfl⟩ G H
theorem K5(f:g.Ok)(h:Ng g n)(h0:n.1=[])(hb:1<=b)(u:b.natAbs<=2^860):DS g 17 n b:=by
 have e:n=([],n.2):=by rw[<-h0]
 refine⟨([],n.2/b),λk z=>?_,⟨cV (Vg (VV ..) h.p.vb),λρ _=>?_,?_,Vq _,?_,λi hi=>?_⟩,λ_ _⟨t,ht,_⟩=>?_⟩
 . rw[show nO n=aO n.2 by rw[e];exact cm _,cm];exact kM f h.p.vb hb (Vg u (VH (by decide) (by decide))) k z
 . rw[aD];have:(sm n).val ρ=n.2:=by rw[e,aD]
   rw[this]
 . rw[aD];exact Vq _
 . rw[aD];exact Vq _
 . rw[aD]at hi;injection hi
 . rw[h0]at ht;cases ht
theorem C1(Y:g.Ok){t:Tm}(h:Ng g ([t],0))(io:t.k≠1)(hb:1<=b)(Z:b.natAbs<=2^860)(I:b.natAbs*(sm ([t],0)).am<=2^800)(hp:(sm ([t],0)).ph<=p)(cH:p<=115)(hD:4*p+22<=D)(IH:HP g p D):DS g (D+1) ([t],0) b:=by
 have sb:Sm b=true:=bR (by lia);have ht:t∈(([t],0):aY).1:=Vm;have U:=h.a t ht;have J:=h.p.nz t ht;have bs:=U.sb Y;have N:¬2<=(aW (([t],0):aY)).length:=by simp[aW]
 have q2:nO ([t],0)=bG 485 t.x t.k (dU t) (d9 t):=Vk io;have P:(sm ([t],0)).ph=2*t.s.ph:=by simp[nS,aq,wk,io]
 have W:md [t]=0:=Vk io;have ev:∀ρ,(sm ([t],0)).val ρ=t.s.val ρ*t.k:=λρ=>by simp[nS,ao]
 have G:(sm ([t],0)).am=bC t.k*t.s.am:=by simp[nS,aq]
 have Qq:∀i,t.s.vs i=true->(sm ([t],0)).vs i=true:=λi hi=>VX.mpr ⟨t,ht,hi⟩;refine aP U.obj λC fl e hC=>?_;by_cases q:t.k%b=0
 . have T:=uC Y h ht io hb sb q;have kd:=kQ (by assumption) q;have HL:bC (t.k/b)*t.s.am<=(sm ([t],0)).am:=by rw[G];exact VC _ kd
   have a0:(sm ([t],0)).am<=2^800:=h.p.am;have w2:=mX (t.k/b);have PS:(sm ([tq b t],0)).am=bC (t.k/b)*t.s.am:=by simp[nS,aq,tq]
   have RH:(sm ([tq b t],0)).ph=wk (t.k/b)*t.s.ph:=by simp[nS,aq,tq]
   refine⟨([tq b t],0),λk f=>?_,⟨⟨⟨λu Q=>by rw[Vo.mp Q];exact gW J q,by simp,by show(sm ([tq b t],0)).am<=_;rw[PS];(clear G;lia),Vq _⟩,λu Q=>by rw[Vo.mp Q];exact U⟩,λρ _=>?_,?_,?_,?_,λi hi=>?_⟩,λz=>Vu z N⟩
   . rw[q2,cU (show ba.op 485 .FloorDiv (.type "int")=some 454 by kernel_rfl),T k (by lia)]
   . have:(sm ([tq b t],0)).val ρ=t.s.val ρ*(t.k/b):=by simp[nS,ao,tq]
     rw[this,ev,Int.mul_ediv_assoc _ (W2 q)]
   . rw[RH,P,W];have:=VC t.s.ph w2;assumption
   . show t.s.ph+0<=_;rw[P];lia
   . rw[PS];have:1*(sm ([t],0)).am<=b.natAbs*(sm ([t],0)).am:=VC _ (by(clear RH PS w2 a0 HL kd q G W P N hD cH hp I Z;omega));lia
   . refine ab (cO hi) λu Q e=>?_;rw[Vo.mp Q]at e;exact Qq i e
 . have pZ:2<=b:=by
    by_cases q1:b=1
    . rw[q1,Int.emod_one]at q;exact Vu rfl q
    . lia
   have st:∀r,(∀k,D<=k->(if(b.fmod t.k==0)=true then(if decide (0<t.k)=true then((oP (aF k) (aV k) .FloorDiv (.int b) (.int t.k)).bind λd=>(oP (aF k) (aV k) .FloorDiv t.x d).bind some)else(aF k 192 [bG 485 t.x t.k (dU t) (d9 t),.int b,.bool false] []).bind some)else(aF k 192 [bG 485 t.x t.k (dU t) (d9 t),.int b,.bool false] []).bind some)=some r)->Op (D+1) .FloorDiv (nO ([t],0)) (.int b) r:=λr H k f=>by rw[q2,cU (show ba.op 485 .FloorDiv (.type "int")=some 454 by kernel_rfl)];refine aw (d:=D) (by exact up hD rfl) (by decide) (λk f=>?_) k f;have H:=H k f;rw[e]at H⊢;rw[KD,dt (by assumption),Vl,dZ _ _ (.inl rfl)];show(if(t.k%b==0)=true then _ else _)=_;rw[Vk (by simpa using q),yp J,Vl,dZ _ _ (.inl rfl)];exact H
   by_cases q3:b.fmod t.k=0/\0<t.k
   . refine af q3 λq3 q4=>?_;have X:=Int.dvd_of_fmod_eq_zero q3;have B:=gM t.x t.s t.t;have kle:=W1 (by lia) X;have kk:bC t.k=t.k.natAbs:=Vi (by exact Vs q4);have OQ:t.k*(b/t.k)=b:=Wx X;have H7:(b/t.k).natAbs*t.k.natAbs=b.natAbs:=by rw[<-WQ,WV,OQ]
     have jx:(b/t.k).natAbs*t.s.am<=b.natAbs*(sm ([t],0)).am:=by rw[G,<-H7];have:(b/t.k).natAbs*(1*t.s.am)<=(b/t.k).natAbs*(t.k.natAbs*(bC t.k*t.s.am)):=VF _ (Vg (VC _ (fb J)) (Wi _ (by(clear H7 OQ kk kle B X q3 pZ G W P N hD cH hp I Z hb;omega))));rw[Nat.one_mul]at this;rw[WE];exact this
     have a1:t.s.am<=2^800:=by have:=VC t.s.am (fb J);have:(sm ([t],0)).am<=2^800:=h.p.am;lia
     obtain⟨m,O,R,_⟩:=IH (pM t.x t.s t.t) (j6 U a1) (by rw[B.ph];have:=bs.ph;lia) (b/t.k) (WO (by lia) (by lia) X) (Vg (VV ..) Z) (by rw[B.am];exact Vg jx I);refine⟨m,st _ λk f=>?_,R.w (λρ bh=>?_) ?_ ?_ (by rw[B.am];exact jx) (λi hi=>Qq i (by rw[B.vs]at hi;exact hi)),λz=>Vu z N⟩
     . have O:=O k f;rw[vP]at O;rw[Vi (by simpa using q3),Vi (by simpa using q4),dl (bR (by(clear jx H7 pZ q G I;lia))) q4,Vl,O];rfl
     . rw[B.val,ev]
       conv=>rhs;rw[<-OQ,WV (t.s.val ρ)]
       exact(Int.mul_ediv_mul_of_pos _ _ q4).symm
     all_goals
      rw[B.ph,P,W];have:=bs.ph;have:=gw (pM t.x t.s t.t).1;lia
   . obtain⟨m,E,R⟩:=CJ Y h pZ (by have:(2:Nat)^860<=2^870:=VH (by lia) (by decide);lia) I (.inr ⟨WH _,show(0:Int)<b by lia⟩) (p:=p) hp (by lia);refine⟨m,st _ λk f=>?_,R,λz=>Vu z N⟩;have F:aF k 192 [bG 485 t.x t.k (dU t) (d9 t),.int b,.bool false] []=some (nO m):=
      aw (d:=4*p+16) (by lia) (by decide) (λk f=>(zM ..).trans (E _ _ q2 k f _)) k (by lia)
     rw[F];by_cases q4:b.fmod t.k=0
     . rw[Vi (by simpa using q4),Vk (by simp;have:=λz=>q3 ⟨q4,z⟩;(clear q4 J io;lia))];rfl
     . rw[Vk (by simpa using q4)];rfl
end
section
variable{g:Gv}{call:aI}{make:aH}{n m a:aY}{p:Nat}{b:Int}{D:Nat}
theorem uJ(h:Ng g n)(hb:b=1):RD g n b n:=by rw[hb];exact⟨h,λρ _=>(Int.ediv_one _).symm,Wg ..,Vg dC (Wg ..),by show _<=1*_;lia,λ_ h=>h⟩
theorem wK{C:Addr}{fl:List (Str×AV)}{f:AV}:ir call make C fl 1 f=some (.obj C fl):=rfl
theorem PT{w:aY}(I:g.Ok)(hw:Ng g w)(W:w.1≠[])(hb:2<=b)(hB:b.natAbs<=2^860)(ha:b.natAbs*(sm w).am<=2^800)(hp:(sm w).ph<=p)(X:p<=115)(Y:∀t∈w.1,t.k%b≠0)(Z:0<=w.2/\w.2<b){G:Int}(hg:1<G)(gd:G∣b)(J:∀t∈w.1,G∣t.k)(g3:G∣w.2)
 (G2:∀e:Int,e∣b->(∀t∈w.1,e∣t.k)->e∣w.2->e∣G)(hD:4*p+22<=D)(N:HP g p D):DS g (D+2) (uN G w) (b/G):=by
 have O:∀t∈w.1,t.k%G=0:=λt ht=>W3 (J t ht);have h2:w.2%G=0:=W3 g3;have f:G*(b/G)=b:=Wx gd;have i:=lm hw (b:=G) (by exact Vs hg);refine eM (wc hw (b:=G) (by assumption)) λ_ v2 v3 _=>?_;refine af (lq O h2) λev _=>?_;have Ee:0<b/G:=WO (by exact Vs hb) (by lia) gd;have P:(b/G).natAbs<=2^860:=Vg (VV ..) hB;have B:(b/G).natAbs*(sm (uN G w)).am<=2^800:=AM (by lia) (by lia) ha;have OE:2<=b/G:=Wp λz=>by
  have e:b/G=1:=by lia
  rw[e,Int.mul_one]at f;refine ax (List.exists_mem_of_ne_nil _ W) λt ht=>?_;exact Y t ht (by rw[<-f];exact O t ht)
 have F:(uN G w).1=w.1.map (tq G):=by rw[ev]
 have Cs:(uN G w).2=w.2/G:=by rw[ev]
 have f7:(uN G w).1≠[]:=by rw[F];exact λe=>W (WL.mp e)
 rcases aL (uN G w)with⟨q1,_⟩|⟨t,q0,q1,_⟩|⟨t,q0,q1,_⟩|⟨_,q1,_⟩
 . exact Vu q1 f7
 . have Q:w.1.map (tq G)=[t]:=by rw[<-F,q0]
   refine ab (List.map_eq_singleton_iff.mp Q) λt0 U H=>?_;have:=((xw I hw (b:=G) (by lia) O h2).2) t0 U (by rw[H];exact q1);exact(N _ i (by lia) _ (by assumption) P B).mono (by lia)
 . rw[q0]at i B v3⊢;exact(C1 I i q1 (by lia) P B (by lia) X hD N).mono (by lia)
 . refine PV I i f7 q1 OE P B (by lia) X (λt ht=>?_) ?_ (λe he Q U H=>?_) hD N
   . rw[F]at ht;refine ab (Vy.mp ht) λu hu bg=>?_;rw[<-bg];refine W5 λz=>Y u hu ?_;rw[<-(Wx (J u hu)),<-f,Int.mul_emod_mul_of_pos _ _ (by exact Vs hg),z,W4]
   . rw[Cs];refine⟨Int.ediv_nonneg Z.1 (by lia),Int.ediv_lt_of_lt_mul (by lia) ?_⟩;rw[WV,f];exact Z.2
   . have:=G2 (G*e) (by rw[<-f];exact Int.mul_dvd_mul_left G Q) (λt ht=>by
      have:=U (tq G t) (by rw[F];exact Vy.mpr ⟨t,ht,rfl⟩);rw[<-Wx (J t ht)];exact Int.mul_dvd_mul_left G this) (by
      rw[Cs]at H;rw[<-Wx g3];exact Int.mul_dvd_mul_left G H)
     have h1:=W1 (by lia) this;have h2:G*1<=G*e:=Wo (by assumption) (by lia);have h3:G*e=G*1:=by lia
     exact Int.eq_of_mul_eq_mul_left (by lia) h3
theorem K6(i:g.Ok)(h:Ng g n)(h0:n.1≠[])(h2:2<=(aW n).length)(hb:1<=b)(f:b.natAbs<=2^860)(H:b.natAbs*(sm n).am<=2^800)(P:(sm n).ph<=p)(u:p<=115)(B:4*p+22<=D)(F:HP g p D):DS g (D+3) n b:=by
 have q2:nO n=bZ ((aW n).map iX) (sm n).mn (sm n).mx:=by
  rcases aL n with⟨q1,_⟩|⟨t,rfl,_⟩|⟨t,rfl,_⟩|⟨_,_,q2⟩
  . exact Vu q1 h0
  . simp[aW]at h2
  . simp[aW]at h2
  . exact q2
 by_cases q1:b=1
 . refine⟨n,λk X=>?_,uJ h q1,λ_ h=>by lia⟩;rw[q2,cU (show ba.op 656 .FloorDiv (.type "int")=some 632 by kernel_rfl)];refine aw (d:=D) (by exact up B rfl) (by decide) (λk X=>?_) k (by lia);rw[Kx,r9 (C:=656) (.inr (.inr (.inr (.inr (.inr (.inr rfl)))))) (by decide) (by lia),Vl,Vk (by decide),Vi (by simpa using q1)]
 have hb:2<=b:=by lia
 by_cases z:∃t∈n.1,fB b t=true
 . exact(G9 i h h0 h2 hb f H P u z B F).mono (by lia)
 have z:∀t∈n.1,fB b t=false:=λt ht=>by
  induction e:fB b t with
  |false=>rfl
  |true=>exact Vu ⟨t,ht,e⟩ z
 have Y:(2:Nat)^860<=2^870:=VH (by decide) (by decide);refine dh (t6 hb n) λG Q Z=>?_;have I:=uz h hb (Vg f Y);have J:=uy z;have pv:(sm (wN b n)).ph=(sm n).ph:=by rw[J];rfl
 have G6:(sm (wN b n)).am=(sm n).am:=by rw[J];rfl
 have U:=DB hb n;have N:(wN b n).1=n.1:=by rw[J]
 have O:b.natAbs*(sm (wN b n)).am<=2^800:=by rw[G6];exact H
 refine Hf i h h0 h2 hb f H P u (by lia) (wr i I hb f O U (p:=p) (by lia) u G Q Z (by lia) (λhg=>?_) (λ_ CA jR ht hl=>?_) λn' h' OF b' b1 b2 b3=>(F n' h' (by lia) b' b1 b2 b3).mono (by lia))
 . refine PT i I (by rw[N];exact h0) hb f O (by lia) u (λt ht=>?_) U hg G.2.1 G.2.2.1 G.2.2.2 Q B F;rw[N]at ht;exact of_decide_eq_false (z t ht)
 . have W:=W1 (by assumption) jR;refine ab ht λt ht e=>?_;exact(G9 i I (by rw[N];exact h0) hl (by assumption) (yE (by lia) (by exact Vs CA) W f) (AL (by lia) (by lia) W (Vt _) O) (by lia) u ⟨t,ht,by unfold fB;rw[e,Int.emod_self];rfl⟩ B F).mono (by lia)
theorem PU(J:g.Ok){t:Tm}(h:Ng g ([t],0))(io:t.k=1)(hb:1<=b)(hB:b.natAbs<=2^860)(B:b.natAbs*(sm ([t],0)).am<=2^800)(N:(sm ([t],0)).ph<=p)(W:p<=115)(hD:4*p+30<=D)(P:HP g p D):DS g (D+4) ([t],0) b:=by
 have Q:¬2<=(aW (([t],0):aY)).length:=by simp[aW]
 have q2:nO ([t],0)=t.x:=Vi io;have hA:=h.a t Vm;have f:(sm ([t],0)).val=t.s.val/\(sm ([t],0)).ph=t.s.ph/\(sm ([t],0)).am=t.s.am/\(sm ([t],0)).vs=t.s.vs/\md [t]=1:=by refine⟨funext λρ=>?_,?_,?_,funext λi=>?_,Vi io⟩<;>simp [nS,ao,aq,wk,bC,io]
 have E:FS g p ([t],0) b:=by
  by_cases q:b=1
  . refine⟨_,λC fl e k _ fa=>?_,uJ h q⟩;rw[q,wK,<-e]
  . exact CJ J h (by lia) (by lia) B (.inr ⟨WH _,show(0:Int)<b by assumption⟩) (p:=p) N (by lia)
 obtain⟨m,E,R⟩:=E;have F:∀C fl,t.x= .obj C fl->ba.op C .FloorDiv (.type "int")=some 192->DS g (D+4) ([t],0) b:=λC fl e ho=>by refine⟨m,λk u=>?_,R,λz=>Vu z Q⟩;rw[q2,e,cU ho];exact aw (d:=4*p+16) (by lia) (by decide) (λk u=>(zN ..).trans (E C fl (q2.trans e) k u _)) k (by lia)
 rcases hA.inv with⟨i,_,_,hx,_⟩|⟨ts,r,c,hn,hu,hc,jx,iO,hx,hs⟩|⟨ts,r,c,hn,hu,hc,nv,iO,hx,hs⟩|⟨ts,c,_,_,hx,_⟩
 . exact F _ _ hx (by kernel_rfl)
 . have Z:t.s.ph=(nS ts r).ph+md ts:=by rw[hs];rfl
   have U:t.s.am=c.natAbs*(nS ts r).am:=by rw[hs];rfl
   have Rx:1<=(nS ts r).am:=cz (r:=r) hn hu.p.nz λt ht=>(hu.a t ht).sb J;have G:(c*b).natAbs*(nS ts r).am=b.natAbs*t.s.am:=by rw[WQ,U,WM c.natAbs,WE]
   have GA:(c*b).natAbs<=2^800:=by rw[f.2.2.1,<-G]at B;exact Vg (Wu _ Rx) B
   have X:1<=c*b:=by have:=Int.mul_pos (show 0<c by exact Vs hc) (show 0<b by assumption);assumption
   have Rr:c.natAbs<=2^800:=by rw[WQ]at GA;exact Vg (Wu _ (by(clear X GA G Rx U Z iO jx hc f Q hD W N B io;omega))) GA
   have H:(sm (ts,r)).ph<=p:=by have:(sm (ts,r)).ph=(nS ts r).ph:=rfl;rw[f.2.1]at N;lia
   have I:DS g (D+3) (ts,r) (c*b):=by
    rw[f.2.2.1,<-G]at B;by_cases qm:md ts=1
    . exact(P (ts,r) hu (by have:(sm (ts,r)).ph=(nS ts r).ph:=rfl;rw[f.2.1]at N;(clear H f;lia)) _ X (by lia) B).mono (by lia)
    . rcases aL (ts,r)with⟨q1,_⟩|⟨t',q0,q1,_⟩|⟨t',q0,q1,_⟩|⟨_,q1,_⟩
      . exact Vu q1 hn
      . have:ts=[t']:=Vx (·.1) q0;rw[this]at qm;exact Vu (Vi q1) qm
      . have Ct:Ng g (ts,r):=hu;have Ke:(c*b).natAbs*(sm (ts,r)).am<=2^800:=B;rw[q0]at Ct Ke H⊢;exact(C1 J Ct q1 X (by lia) Ke H W (by lia) P).mono (by lia)
      . exact K6 J hu hn q1 X (by lia) B H W (by lia) P
   obtain⟨m,O,R,_⟩:=I;refine⟨m,λk u=>?_,R.w (λρ bh=>?_) ?_ ?_ ?_ (λi hi=>?_),λz=>Vu z Q⟩
   . rw[q2,hx,cU (show ba.op 526 .FloorDiv (.type "int")=some 502 by kernel_rfl)];refine aw (d:=D+3) (by lia) (by decide) (λk u=>?_) k u;have O:=O k u;refine aP (bx (r:=r) hu.a) λC fl e hC=>?_;rw[show nO (ts,r)= .obj C fl from e]at O;rw[e,Ps];refine bE (im (bR (by lia)) (bR (by lia))) ?_;rw[O];rfl
   . rw[f.1,hs];exact(Int.ediv_ediv_of_nonneg (by lia)).symm
   . rw[f.2.1];show(nS ts r).ph+md ts<=_;(clear f;lia)
   . rw[f.2.1];show(nS ts r).ph+md ts<=_;lia
   . rw[f.2.2.1];exact Wj G
   . rw[f.2.2.2.1,hs];exact hi
 . have Z:t.s.ph=(nS ts r).ph+mm ts r:=by rw[hs];rfl
   have U:t.s.am=(nS ts r).am:=by rw[hs];rfl
   refine aP (bx (r:=r) hu.a) λC fl e hC=>?_;by_cases qd:c%b=0
   . have jR:=W2 qd;have G:b*(c/b)=c:=Wx jR;have Ee:0<c/b:=WO (by lia) (by exact Vs hb) jR;have Q8:c/b<=c:=Int.ediv_le_self _ (by lia);have H:(sm (ts,r)).ph<=p:=by have:(sm (ts,r)).ph=(nS ts r).ph:=rfl;rw[f.2.1]at N;lia
     have I:DS g (D+3) (ts,r) b/\(mm ts r=1\/md ts=0):=by
      rw[f.2.2.1,U]at B;by_cases qm:mm ts r=1
      . exact⟨(P (ts,r) hu (by have:(sm (ts,r)).ph=(nS ts r).ph:=rfl;rw[f.2.1]at N;(clear H f;lia)) _ hb hB B).mono (by lia),.inl qm⟩
      . have:=yH hn qm;refine bV this λt' aK bg ht=>?_;clear this;subst aK;rw[bg]at*
        exact⟨(C1 J hu ht hb hB B H W (by lia) P).mono (by lia),.inr (Vk ht)⟩
     refine af I λcr hm=>?_;obtain⟨v,O,R,_⟩:=cr;have UZ:=gw ts;have UY:=kh ts r;have UX:=kh v.1 v.2;have pX:=R.ph;obtain⟨m,O2,R2⟩:=oM J (p+1) v R.nd (by(clear Z;lia)) (by lia) (c/b) Ee (by lia);have t5:(sm v).ph+mm v.1 v.2<=t.s.ph+1:=by(clear f;lia)
     refine⟨m,λk u=>?_,R2.w (λρ bh=>?_) (by rw[f.2.1,f.2.2.2.2];exact t5) (by rw[f.2.1,f.2.2.2.2];exact t5) (by rw[f.2.2.1,U];exact R.am) (λi hi=>?_),λz=>Vu z Q⟩
     . rw[q2,hx,cU (show ba.op 574 .FloorDiv (.type "int")=some 550 by kernel_rfl)];refine aw (d:=D+3) (by lia) (by decide) (λk u=>?_) k u;have O:=O k u;rw[show nO (ts,r)= .obj C fl from e]at O;rw[e,Kz];unfold yK;refine bE (dt (by lia)) ?_;rw[dZ _ _ (.inl rfl)];show(if(c%b==0)=true then _ else _)=_;rw[Vi (by simpa using qd),O,Vl,dl (bR (by lia)) (by lia),Vl,(O2 k (by lia))];rfl
     . rw[R.val ρ bh,f.1,hs];show(nS ts r).val ρ/b%(c/b)=(nS ts r).val ρ%c/b;generalize(nS ts r).val ρ=x;have h1:=Wn x b;have h2:=Wn (x/b) (c/b);have h3:x%c=b*(x/b%(c/b))+x%b:=by
        have h4:x=c*(x/b/(c/b))+(b*(x/b%(c/b))+x%b):=by
         conv=>lhs;rw[<-h1,<-h2]
         rw[Int.mul_add,<-Xf,G];rw[W0]
        have a0:=Wc x (b:=b) (by exact Wd hb);have a1:=V5 x (b:=b) (by lia);have b1:=V5 (x/b) (b:=c/b) (by assumption);have c0:=Xa (show 0<=b by lia) (Wc (x/b) (b:=c/b) (by exact Wd Ee));have c1:b*(x/b%(c/b)+1)<=b*(c/b):=Wo (by assumption) (by lia);rw[G,Int.mul_add,Int.mul_one]at c1
        conv=>lhs;rw[h4]
        rw[WW,Int.add_mul_emod_self_left];exact WK (by(clear h4;lia)) (by(clear h2 h1 O2 Q8 Ee G qd hb;lia))
       rw[h3,WW,Int.add_mul_ediv_left _ _ (by lia),Int.ediv_eq_zero_of_lt (Wc x (by lia)) (V5 x (by lia)),Xb]
     . rw[f.2.2.2.1,hs];exact R.vs i hi
   . refine⟨m,λk u=>?_,R,λz=>Vu z Q⟩;have Y:Ev (D+4) 550 [nO ([t],0),.int b] [] (nO m):=aw (d:=D+3) (by lia) (by decide) λk u=>by
      have F2:aF k 192 [nO ([t],0),.int b,.bool true] []=some (nO m):=by rw[q2,hx];exact aw (d:=4*p+16) (by lia) (by decide) (λk u=>(zM ..).trans (E _ _ (q2.trans hx) k u _)) k (by lia)
      rw[q2,hx]at F2⊢;rw[e]at F2⊢;rw[Kz];unfold yK;refine bE (dt (by lia)) ?_;rw[dZ _ _ (.inl rfl)];show(if(c%b==0)=true then _ else _)=_;rw[Vk (by simpa using qd),F2];rfl
     have Y:=Y k u;rw[q2,hx]at Y⊢;rw[cU (show ba.op 574 .FloorDiv (.type "int")=some 550 by kernel_rfl)];exact Y
 . exact F _ _ hx (by kernel_rfl)
theorem yk(f:g.Ok):∀p:Nat,p<=115->∀n,Ng g n->(sm n).ph<=p->∀b:Int,1<=b->b.natAbs<=2^860->b.natAbs*(sm n).am<=2^800->DS g (4*p+40) n b:=by
 intro p
 induction p with
 |zero=>intro _ n h u b hb i z;refine(K5 f h (Wp λq=>?_) hb i).mono (by decide);have:2<=(sm n).ph:=ca (r:=n.2) q λt ht=>(h.a t ht).sb f;lia
 |succ p ih=>
  intro B n h u b hb i z;have F:HP g (p+1) (4*p+40):=λG h' I H b1 b2 b3=>ih (by exact VT B) G h' (by lia) H b1 b2 b3;rcases aL n with⟨q1,_⟩|⟨t,rfl,q1,_⟩|⟨t,rfl,q1,_⟩|⟨q0,q1,_⟩
  . exact(K5 f h q1 hb i).mono (by lia)
  . exact(PU f h q1 hb i z u B (by lia) F).mono (by lia)
  . exact(C1 f h q1 hb i z u B (by lia) F).mono (by lia)
  . exact(K6 f h q0 q1 hb i z u B (by lia) F).mono (by lia)
end
section
variable{g:Gv}{call:aI}{make:aH}{n m v:aY}{p:Nat}{b:Int}{D:Nat}
noncomputable abbrev Ja(n:aY)(b:Int):(Nat->Int)->Int:=λρ=>if(sm n).val ρ<b then 1 else 0
noncomputable abbrev RL(g:Gv)(n:aY)(b:Int)(m:aY):Prop:=RS g m (Ja n b) (nP n.1+2) (nP n.1+2) (sm n).am (λi=>(sm n).vs i=true)
theorem FV{c:Int}(f:c=0\/c=1)(h:∀ρ,g.In ρ->c=Ja n b ρ):RL g n b ([],c):=
 ⟨cV (by rcases f with rfl|rfl<;>decide),λρ u=>by rw[aD];exact h ρ u,by rw[aD];exact Vq _,Vq _,by rw[aD];exact Vq _,λi hi=>by rw[aD]at hi;injection hi⟩
inductive LA(g:Gv)(v:aY)(b:Int):Prop
 |mk (m:aY) (e:∀k,6<=k->((aV k 430 [nO v,.int b]).bind λgl=>(aF k 354 [.obj 430 gl] []).bind some)=some (nO m)) (r:RL g v b m)
theorem Jb(U:g.Ok)(h:Ng g v)(h0:v.1=[]\/v.2=0)(b:Int):LA g v b:=by
 refine aP (bx (r:=v.2) h.a) λC fl e W=>?_;have e:nO v= .obj C fl:=e;have P:Bd (nO v) (sm v).mn (sm v).mx:=lH h.a;have st:∀x y:Int,Ev 4 413 [.obj 430 (qy (nO v) (.int b))] [] (.tup [.int x,.int y])->∀k,6<=k->((aV k 430 [nO v,.int b]).bind λX=>(aF k 354 [.obj 430 X] []).bind some)=(aF k 354 [bG 430 (nO v) b x y] []).bind some:=λx y E k u=>by
  have M:Mk 6 430 [nO v,.int b] (IU (nO v) b x y):=mw (d:=4) (by decide) λk u=>by rw[O7,E k u];rfl
  rw[M k u];rfl
 have Y:∃q,(∀k,3<=k->cM (aF k) (aV k) .Eq (nO v) (.int b)=some q)/\(q=true->v.1=[]/\v.2=b):=by
  by_cases q1:v.1=[]
  . have G:v=([],v.2):=by rw[<-q1]
    refine ag (v.2==b) (λk u=>?_) (λq=>⟨q1,by simpa using q⟩);rw[show nO v=aO v.2 by rw[G];exact cm _];show(match ba.eq 338 (.type "int")with|some f=>(aF k f [aO v.2,.int b] []).bind EG|none=>none)=_;rw[show ba.eq 338 (.type "int")=some 321 by kernel_rfl];dsimp only;rw[(aw (by decide) (by decide) λk _=>PF ..) k u];rfl
  . refine ag false (λk u=>?_) (λq=>by cases q);rw[e];refine r9 W (λq=>?_) u;rcases aL v with⟨q2,_⟩|⟨t,rfl,_,q3⟩|⟨t,rfl,_,q3⟩|⟨_,_,q3⟩
    . exact q1 q2
    . refine aP ((h.a t Vm).obj) λC' eK Z TY=>?_;rw[q3,Z]at e;(injection e with z;subst z);rcases TY with rfl|rfl|rfl|rfl<;>cases q
    . rw[q3]at e;(injection e with z;subst z);cases q
    . rw[q3]at e;(injection e with z;subst z);cases q
 refine ab Y λq J OE=>?_;have body:∀r,(∀k,3<=k->(if q=true then some (.tup [.int 0,.int 0])else if decide ((sm v).mx<b)=true then some (.tup [.int 1,.int 1])else if decide (b<=(sm v).mn)=true then some (.tup [.int 0,.int 0])else some (.tup [.int 0,.int 1]))=some r)->Ev 4 413 [.obj 430 (qy (nO v) (.int b))] [] r:=λr H=>aw (d:=3) (by decide) (by decide) λk u=>by have J:=J k u;rw[e]at J P⊢;refine af (P (aF k) (aV k)) λG N=>?_;rw[PA,J,Vl,G,N];exact(H k u)
 have bn:=λρ B=>h.bn U (ρ:=ρ) B;have g8:∀c:Int,(c=0\/c=1)->(∀ρ,g.In ρ->c=Ja v b ρ)->Ev 4 413 [.obj 430 (qy (nO v) (.int b))] [] (.tup [.int c,.int c])->LA g v b:=λc hc hv E=>by
  refine⟨([],c),λk u=>?_,FV hc hv⟩;have:Ev 5 354 [bG 430 (nO v) b c c] [] (aO c):=aw (d:=4) (by omega) (by decide) λk u=>by rw[pk _ _ 430 (.inl rfl),Vi (by simp),Vi (by simp),e9 _ k u];rfl
  rw[st c c E k u,this k (by exact VT u),cm];rfl
 by_cases I:q=true
 . refine af (OE I) λh1 h2=>?_;refine g8 0 (.inl rfl) (λρ _=>?_) (body _ λk _=>by rw[Vi I]);have:(sm v).val ρ=b:=by rw[(by rw[<-h1]:v=([],v.2)),aD];exact h2
   show 0=if(sm v).val ρ<b then(1:Int)else 0
   rw[Vk (by lia)]
 . by_cases F:(sm v).mx<b
   . refine g8 1 (.inr rfl) (λρ B=>?_) (body _ λk _=>by rw[Vk I,Vi (VJ F)]);have:=(λρ B=>(bn ρ B).2) ρ B;show 1=if(sm v).val ρ<b then(1:Int)else 0
     rw[Vi (by lia)]
   . by_cases O:b<=(sm v).mn
     . refine g8 0 (.inl rfl) (λρ B=>?_) (body _ λk _=>by rw[Vk I,Vk (by simpa using F),Vi (VJ O)]);have:=(λρ B=>(bn ρ B).1) ρ B;show 0=if(sm v).val ρ<b then(1:Int)else 0
       rw[Vk (by(clear F;lia))]
     . have E:=body (.tup [.int 0,.int 1]) λk _=>by rw[Vk I,Vk (by simpa using F),Vk (by simpa using O)]
       have Q:v.1≠[]:=λq1=>by
        have G:v=([],v.2):=by rw[<-q1]
        rw[G,aD]at F O;lia
       have N:v.2=0:=h0.resolve_left Q;obtain⟨ts,r⟩:=v;simp only at N;subst N;obtain⟨s1,s2,s3,s4,s5,s6,s7⟩:=gM (bG 430 (nX ts 0) b 0 1) (oB ts b) (("(":Str)++nT ts 0++("<":Str)++bb b++(")":Str));refine⟨pM _ _ _,λk u=>?_,⟨j6 (.lt ts b Q h.p h.a (show(sm (ts,0)).mn<b by exact Int.not_le.mp O) (show b<=(sm (ts,0)).mx by exact Int.not_lt.mp F)) h.p.am,λρ _=>by rw[s1];rfl,Wj s2,Wj s3,Wj s4,λi hi=>by rw[s5]at hi;exact hi⟩⟩;rw[st 0 1 E k u,vC (.inl rfl) (nO (ts,0)) b (by decide) k (by exact up u rfl),vP];rfl
theorem C9{K y b:Int}(f:0<K):K*y<b<->y<(b+K-1)/K:=by have:=Int.le_ediv_iff_mul_le (a:=y+1) (b:=b+K-1) f;rw[Int.add_mul,WV y K,Int.one_mul]at this;omega
inductive Qg(g:Gv)(d:Nat)(n:aY)(b:Int):Prop
 |mk (m:aY) (e:Ev d 359 [nO n,.int b] [] (nO m)) (r:RL g n b m)
theorem LU(B:g.Ok)(h:Ng g n)(G:n.1=[]\/∃t,n=([t],0))(b:Int):Qg g 8 n b:=by
 rcases aL n with⟨q1,q2⟩|⟨t,rfl,q1,q2⟩|⟨t,rfl,q1,q2⟩|⟨q0,q1,_⟩
 . obtain⟨m,E,R⟩:=Jb B h (.inl q1) b;refine⟨m,aw (d:=7) (by decide) (by decide) λk f=>?_,R⟩;have E:=E k (by exact VT f);rw[q2]at E⊢;rw[Eu _ _ 338 (by decide)];exact E
 . obtain⟨m,E,R⟩:=Jb B h (.inr rfl) b;refine⟨m,aw (d:=7) (by decide) (by decide) λk f=>?_,R⟩;have E:=E k (by exact VT f);refine aP ((h.a t Vm).obj) λC fl e P=>?_;rw[q2,e]at E⊢;rw[Eu _ _ C (by rcases P with rfl|rfl|rfl|rfl<;>decide)];exact E
 . have ht:t∈(([t],0):aY).1:=Vm;have N:=h.a t ht;have X:=h.p.nz t ht;have ev:∀ρ,(sm ([t],0)).val ρ=t.s.val ρ*t.k:=λρ=>by simp[nS,ao]
   have Y:(sm ([t],0)).am=bC t.k*t.s.am:=by simp[nS,aq]
   have a0:(sm ([t],0)).am<=2^800:=h.p.am;have kp:=VC t.s.am (fb X);refine aP N.obj λC fl e P=>?_;by_cases q3:t.k= -1
   . obtain⟨m,E,R⟩:=Jb B h (.inr rfl) b;refine⟨m,aw (d:=7) (by omega) (by decide) λk f=>?_,R⟩;have E:=E k (by exact VT f);rw[q2,e]at E⊢;rw[Es,Vi (by simpa using q3)];exact E
   . let s:Int:=if 0<t.k then 1 else-1
     let K:Int:=if t.k<0 then-t.k else t.k
     have Q:s≠0:=by show(if 0<t.k then(1:Int)else-1)≠0;split<;>decide
     have H:0<K:=by show 0<if t.k<0 then-t.k else t.k;split<;>omega
     have I:t.k=K*s:=by
      show t.k=(if t.k<0 then-t.k else t.k)*(if 0<t.k then 1 else-1);by_cases z:0<t.k
      . rw[Vi z,Vk (by(clear H q3 q1;lia))];lia
      . rw[Vk z,Vi (by(clear q3;lia))];(clear H;lia)
     have O:bC s<=bC t.k:=by
      show bC (if 0<t.k then 1 else-1)<=_;unfold bC;by_cases z:0<t.k
      . rw[Vi z,Vi (by decide),Vi (by exact Vs z)];(clear I G;lia)
      . rw[Vk z,Vk (by decide),Vk (by(clear I q3;lia))];exact VF _ (by(clear I q3 G;lia))
     have U:s.natAbs<=2^900:=by show(if 0<t.k then(1:Int)else-1).natAbs<=_;split<;>decide
     have W:=(h.fu B).2.2.2 t ht;have Z:Ng g ([{t with k:=s}],0):=by
      have F:(sm ([{t with k:=s}],0)).am=bC s*t.s.am:=by simp[nS,aq]
      have:=VC t.s.am O;exact⟨⟨λu J=>by rw[Vo.mp J];exact Q,by simp,by show(sm ([{t with k:=s}],0)).am<=_;rw[F];(clear F W U O I H kp;omega),Vq _⟩,λu J=>by rw[Vo.mp J];exact N⟩
     have M:=Ce (t:={t with k:=s}) B (λ_=>⟨N,U,by show t.s.am<=_;lia⟩) N;rw[Vk (show¬({t with k:=s}:Tm).k=0 from Q)]at M;obtain⟨m,E,R⟩:=Jb B Z (.inr rfl) ((b+K-1)/K);have sK:Sm K=true:=by refine bR ?_;show(if t.k<0 then-t.k else t.k).natAbs<=_;have:(t.k).natAbs<=2^800:=W;split<;>omega
     refine⟨m,aw (d:=7) (by omega) (by decide) λk f=>?_,R.w (λρ bh=>?_) ?_ ?_ ?_ λi hi=>?_⟩
     . have E:=E k (by exact VT f);have M:=M k (by exact VT f);have M:oP (aF k) (aV k) .Mult (.obj C fl) (.int s)=some (nO ([{t with k:=s}],0)):=by rw[<-e];exact M
       rw[q2,e,Es,Vk (by simpa using q3)];show((oP _ _ .Mult (.obj C fl) (.int s)).bind λv=>(oP _ _ .FloorDiv (.int (b+K-1)) (.int K)).bind λw=>(aV k 430 [v,w]).bind λgl=>(aF k 354 [.obj 430 gl] []).bind some)=_;rw[M,Vl,dl sK H,Vl];exact E
     . show(if(sm ([{t with k:=s}],0)).val ρ<(b+K-1)/K then(1:Int)else 0)=if(sm ([t],0)).val ρ<b then 1 else 0
       have F:(sm ([{t with k:=s}],0)).val ρ=t.s.val ρ*s:=by simp[nS,ao]
       have e2:t.s.val ρ*t.k=K*(t.s.val ρ*s):=by rw[I,<-Xf,<-Xf,WV K]
       have:=C9 (y:=t.s.val ρ*s) (b:=b) H;rw[F,ev,e2];simp only[this]
     . exact Vt _
     . exact Vt _
     . have F:(sm ([{t with k:=s}],0)).am=bC s*t.s.am:=by simp[nS,aq]
       rw[F,Y];exact VC _ O
     . refine ab (cO hi) λu J e=>?_;rw[Vo.mp J]at e;exact VX.mpr ⟨t,ht,e⟩
 . rcases G with G|⟨t,rfl⟩
   . exact Vu G q0
   . simp[aW]at q1
end
section
variable{g:Gv}{call:aI}{make:aH}{n m v:aY}{p:Nat}{b:Int}{D:Nat}
theorem lN{C:Addr}(h:uu C):ba.isin (.ref C) (.ref 656)=some (decide (C=656)):=by rcases h with rfl|rfl|rfl|rfl|rfl|rfl|rfl<;>kernel_rfl
theorem yG(h:∀t∈n.1,At g t.x t.s t.t):∃C fl,nO n= .obj C fl/\uu C/\(C=656<->(n.1≠[]/\2<=(aW n).length)):=by
 rcases aL n with⟨q1,q2⟩|⟨t,rfl,q1,q2⟩|⟨t,rfl,q1,q2⟩|⟨q0,q1,q2⟩
 . exact⟨_,_,q2,.inr (.inl rfl),λh=>(by cases h),λh=>Vu q1 h.1⟩
 . refine aP ((h t Vm).obj) λC fl e f=>?_;refine⟨C,fl,q2.trans e,f.nd,λh=>?_,λh=>?_⟩
   . rw[h]at f;rcases f with h|h|h|h<;>cases h
   . have:=h.2;simp[aW]at this
 . refine⟨_,_,q2,.inr (.inr (.inr (.inl rfl))),λh=>(by cases h),λh=>?_⟩;have:=h.2;simp[aW]at this
 . exact⟨_,_,q2,.inr (.inr (.inr (.inr (.inr (.inr rfl))))),λ_=>⟨q0,q1⟩,λ_=>rfl⟩
theorem QP(i:g.Ok)(h:Ng g v)(h0:v.2=0)(b:Int):∃m,(∀k,8<=k->rG (aF k) (aV k) (nO v) (.int b)=some (nO m))/\RL g v b m:=by
 refine cP (yG h.a) λC fl e u z=>?_;by_cases q:C=656
 . obtain⟨m,E,R⟩:=Jb i h (.inr h0) b;refine ag m (λk f=>?_) R;have E:=E k (by exact up f rfl);unfold rG;rw[e]at E⊢;show(ba.isin (.ref C) (.ref 656)).bind _=_;rw[lN u,Vl,Vi (VJ q)];exact E
 . obtain⟨m,E,R⟩:=LU i h (by
    rcases aL v with⟨q1,_⟩|⟨t,q0,_⟩|⟨t,q0,_⟩|⟨q0,q1,_⟩
    . exact .inl q1
    . exact .inr ⟨t,q0⟩
    . exact .inr ⟨t,q0⟩
    . exact Vu (z.mpr ⟨q0,q1⟩) q) b
   refine ag m (λk f=>?_) R;have E:=E k f;unfold rG;rw[e]at E⊢;show(ba.isin (.ref C) (.ref 656)).bind _=_;rw[lN u,Vl,Vk (by simpa using q),E];rfl
noncomputable def mB(b:Int)(t:Tm):Bool:=decide (t.k≠1)&&(decide (0<t.k)&&decide (b<=d9 t))
theorem o4{t:Tm}(h:At g t.x t.s t.t):jT (bz t)=true/\mN b (bz t)=some (mB b t):=by
 unfold bz mB;by_cases q:t.k=1
 . rw[Vi q];refine aP h.obj λC fl e f=>?_;rw[e,W5 (show¬t.k≠1 by simpa using q)];rcases f with rfl|rfl|rfl|rfl<;>exact ⟨rfl,rfl⟩
 . rw[Vk q,VJ q];refine⟨rfl,(by kernel_rfl:mN b (bG 485 t.x t.k (dU t) (d9 t))=if decide (0<t.k)=true then some (decide (b<=d9 t))else some false).trans ?_⟩;induction decide (0<t.k)<;>rfl
theorem Cg(W:g.Ok)(h:Ng g n)(h0:n.1≠[])(hl:n.1.length<=60)(l:AV)(b:Int){k:Nat}:∃x,bU (ay (aF k) (aV k) 359 0 196) ["x"] (bf ((aW n).map iX)) [("lhs",.fz l),("b",.fz (.int b)),("new_sum",.ol [])]=some (.next (dD l (b-n.2) (.ol (n.1.map bz)) [("x",.fz x)])):=by
 obtain⟨X,z,r1,H,B,rfl⟩:=fJ (body:=ay (aF k) (aV k) 359 0 196) (nm:=["x"]) (x:=bz) (f:=λi t=>i++[t]) (b0:=([]:List Tm)) (R:=λi σ=>∃r:ah,(r=[]\/∃x,r=[(("x":Str),EV.fz x)])/\(i≠[]->r≠[])/\σ=dD l b (.ol (i.map bz)) r) n.1 (λi t Y e σ F=>by
  refine bV F λr hr _ I=>?_;clear F;subst I;rw[dE,Wm];have J:aX (dD l b (.ol (i.map bz)) r) ["x"] [bz t]=dD l b (.ol (i.map bz)) [("x",.fz (bz t))]:=by rcases hr with rfl|⟨x,rfl⟩<;>rfl
  refine wQ (oo (h.a t (by rw[e];simp))) λC fl G N O P=>?_;have u:(i.map bz).length<=1000:=by have:=Vx List.length e;rw[VO,VP]at this;rw[Vp];lia
  rw[J];refine⟨_,?_,[("x",.fz (bz t))],.inr ⟨_,rfl⟩,(λ_ h=>nomatch h),rfl⟩;rw[G,Jr _ _ l b _ C (by
   rcases N with rfl|rfl|rfl|rfl|rfl|rfl|rfl
   . decide
   . exact Vu rfl O
   . decide
   . decide
   . decide
   . decide
   . exact Vu rfl P) fl,Vi u,VM,<-G];rfl) (σ0:=dD l b (.ol []) []) ⟨[],.inl rfl,λh=>Vu rfl h,rfl⟩
 rw[dE,Wm]at z B;refine ax (H.resolve_left (B h0)) λx Q=>?_;subst Q;have U:bf ((aW n).map iX)=bf (n.1.map bz)++bf (((if n.2=0 then[]else[.inr n.2]):List It).map iX):=by unfold aW;rw[VM,Vv];exact VM ..
 rw[U,jh z];by_cases q:n.2=0
 . rw[Vi q,q,Int.sub_zero];exact⟨x,rfl⟩
 . rw[Vk q];refine⟨aO n.2,?_⟩;refine rW (row:=[aO n.2]) ?_;rw[(rfl:aX (dD l b (.ol (n.1.map bz)) [("x",.fz x)]) ["x"] [aO n.2]=dD l b (.ol (n.1.map bz)) [("x",.fz (aO n.2))]),Js]
end
section
variable{g:Gv}{call:aI}{make:aH}{n m v:aY}{p:Nat}{b:Int}{D:Nat}
noncomputable def HH(b:Int)(ts:List Tm):Int:=ts.foldl (λg t=>(Int.gcd g t.k:Int)) b
theorem Qj(ts:List Tm):HH b ts∣b/\(∀t∈ts,HH b ts∣t.k)/\(ts≠[]->0<=HH b ts):=by
 have:∀(ts:List Tm)(f:Int),let G:=ts.foldl (λg t=>(Int.gcd g t.k:Int)) f;G∣f/\(∀t∈ts,G∣t.k)/\(ts≠[]\/0<=f->0<=G):=λts=>by
  induction ts with
  |nil=>exact λf=>⟨Int.dvd_refl _,λt ht=>(nomatch ht),λh=>h.resolve_left λz=>z rfl⟩
  |cons a l ih=>
   intro f;refine dh (ih (Int.gcd f a.k)) λh1 h2 i=>?_;refine⟨Int.dvd_trans h1 (Int.gcd_dvd_left ..),λt ht=>?_,λ_=>i (.inr (by lia))⟩;rcases VN.mp ht with rfl|ht
   . exact Int.dvd_trans h1 (Int.gcd_dvd_right ..)
   . exact h2 t ht
 refine dh (this ts b) λh1 h2 i=>?_;exact⟨h1,h2,λh=>i (.inl h)⟩
theorem BG(f:Tm->Int)(q:Tm->Bool)(l:List Tm):ao (l.map f)=ao ((l.filter q).map f)+ao ((l.filter λt=> !q t).map f):=by
 induction l with
 |nil=>rfl
 |cons a l ih=>
  rw[Ws,Ws,Vn,ak,ih];induction q a
  . simp[ak];lia
  . simp[ak];lia
theorem lY(q:Tm->Bool)(w:Tm->Nat)(l:List Tm):aq ((l.filter q).map w)<=aq (l.map w):=by
 induction l with
 |nil=>exact Vt _
 |cons a l ih=>
  rw[Ws,Vn,au];split
  . rw[Vn,au];lia
  . lia
theorem tu(f:g.Ok){ts:List Tm}(h:Ng g (ts,0))(hl:ts.length<=60)(i:nP ts<=p)(u:p<=120):Ev (4*p+11) 211 [.list (ts.map bz)] [] (nO (ts,0)):=by
 have S:=lu f h.w hl i u;have:(ts.map (λt=>(([t],0):aY))++nF 0).map nO=ts.map bz:=by rw[show nF 0=[]from rfl,WB,Vv];rfl
 rw[this]at S;exact S
set_option maxHeartbeats 1000000 in
theorem SJ(J:g.Ok)(h:Ng g n)(h0:n.1≠[])(h2:2<=(aW n).length)(b:Int)(Y:nP n.1<=p)(cH:p<=118):Qg g (4*p+13) n b:=by
 have hl:n.1.length<=60:=h.w.len J (by lia);have q2:nO n=bZ ((aW n).map iX) (sm n).mn (sm n).mx:=by
  rcases aL n with⟨q1,_⟩|⟨t,rfl,_⟩|⟨t,rfl,_⟩|⟨_,_,q2⟩
  . exact Vu q1 h0
  . simp[aW]at h2
  . simp[aW]at h2
  . exact q2
 have hv:Ng g (n.1,0):=⟨⟨h.p.nz,h.p.nd,h.p.am,Vq _⟩,h.a⟩;generalize Kd:b-n.2=b';let T1:=n.1.filter (mB b');let B:=n.1.filter λt=> !mB b' t;have OV:Ng g (B,0):=kX h _ (Vq _);have f1:(n.1.map bz).filter (lI b')=T1.map bz:=by rw[List.filter_map];refine Vx (List.map bz) (List.filter_congr λt ht=>?_);show(mN b' (bz t)).getD false=_;rw[(o4 (h.a t ht)).2];rfl
 have f2:(n.1.map bz).filter (λy=> !lI b' y)=B.map bz:=by rw[List.filter_map];refine Vx (List.map bz) (List.filter_congr λt ht=>?_);show(!(mN b' (bz t)).getD false)=_;rw[(o4 (h.a t ht)).2];rfl
 refine cP (yG hv.a) λC fl ev hC hs=>?_;have key:∃m,(∀k,4*p+12<=k->∀x,oX (aF k) (aV k) 6 192 (kb (nO (n.1,0)) (.int b') (n.1.map bz) x (n.1.map bz) (T1.map bz) (B.map bz) [])=some (nO m))/\RL g (n.1,0) b' m:=by
  refine ab (QP J hv rfl b') λm0 E0 R0=>?_;by_cases qe:T1=[]
  . refine ag m0 (λk F x=>?_) R0;rw[NJ _ _ _ _ _ _ _ _ _ (by rw[qe];rfl),Of];exact E0 k (by exact up F rfl)
  . refine dh (Qj (b:=b') T1) λH1 H2 H3=>?_;have H3:=H3 qe;have O:∀t∈T1,t.k≠1/\0<t.k:=λt ht=>by
     have:=(VY.mp ht).2;unfold mB at this;simp at this;exact⟨this.1,this.2.1⟩
    refine ax (List.exists_mem_of_ne_nil _ qe) λN P=>?_;have Z:0<HH b' T1:=by
     have:=H2 N P;refine Or.elim (Int.lt_or_eq_of_le H3) (λz=>?_) λz=>?_
     . exact z
     . rw[<-z]at this;have:=(O N P).2;lia
    have U9:HH b' T1<=N.k:=W1 (O N P).2 (H2 N P);have sG:Sm (HH b' T1)=true:=by have:=(h.fu J).2.2.2 N (VY.mp P).1;exact bR (by(clear qe hs;lia))
    have Q:∀k,1<=k->∀x,∃y,bU (ay (aF k) (aV k) 359 1 189) ["x"] (bf (T1.map bz)) (kb (nO (n.1,0)) (.int b') (n.1.map bz) x (n.1.map bz) (T1.map bz) (B.map bz) [("mul_gcd",.fz (.int b'))])=
     some (.next (kb (nO (n.1,0)) (.int b') (n.1.map bz) y (n.1.map bz) (T1.map bz) (B.map bz) [("mul_gcd",.fz (.int (HH b' T1)))])):=λk F x=>by
     obtain⟨σ,e,y,rfl⟩:=fJ (body:=ay (aF k) (aV k) 359 1 189) (nm:=["x"]) (x:=bz) (f:=λH t=>H++[t]) (b0:=([]:List Tm)) (R:=λH σ=>∃y,σ=kb (nO (n.1,0)) (.int b') (n.1.map bz) y (n.1.map bz) (T1.map bz) (B.map bz) [("mul_gcd",.fz (.int (HH b' H)))]) T1 (λH t ka e σ bJ=>by
      refine ax bJ λy aK=>?_;clear bJ;rw[aK];rw[dE,Wm];have ht:t∈T1:=by rw[e];simp
      have et:bz t=bG 485 t.x t.k (dU t) (d9 t):=Vk (O t ht).1;refine⟨_,?_,bz t,rfl⟩;rw[et,Jt _ _ _ _ _ _ _ _ _ 485 rfl];refine bE (show gA (aF k) (aV k) (bG 485 t.x t.k (dU t) (d9 t)) "b"=some (.int t.k) by kernel_rfl) ?_;refine bE (CV _ _ F) ?_;have:HH b' (H++[t])=(Int.gcd (HH b' H) t.k:Int):=by unfold HH;rw[W8];rfl
      rw[this]) ⟨x,rfl⟩
     rw[dE,Wm]at e;exact⟨y,e⟩
    have S2:=tu (p:=p) J OV (Vg (V8 ..) hl) (Vg (lY _ _ _) Y) (by lia);have bO:Bd (nO (B,0)) (sm (B,0)).mn (sm (B,0)).mx:=lH OV.a;have I:∀k,4*p+12<=k->∀x,∃y,oX (aF k) (aV k) 6 192 (kb (nO (n.1,0)) (.int b') (n.1.map bz) x (n.1.map bz) (T1.map bz) (B.map bz) [])=NA (aF k) (aV k) 2 189 (kb (nO (n.1,0)) (.int b') (n.1.map bz) y (n.1.map bz) (T1.map bz) (B.map bz) [("mul_gcd",.fz (.int (HH b' T1)))]):=λk F x=>by
     refine ax (Q k (by exact up F rfl) x) λy e=>?_;refine⟨y,?_⟩;have ht:ib (.list (T1.map bz))=some true:=by
      have U:(T1.map bz).length<=1000:=by rw[Vp];exact Vg (V8 ..) (by lia)
      show(if _ then some (!(T1.map bz).isEmpty)else none)=_;rw[Vi U]
      induction hq:T1 using List.casesOn with
      |nil=>exact Vu hq qe
      |cons=>rfl
     rw[NG _ _ _ _ _ _ _ _ _ ht,e];rfl
    by_cases c1:0<=(sm (B,0)).mn/\(sm (B,0)).mx<HH b' T1
    .
     have jR:∀t∈T1,t.k%HH b' T1=0:=λt ht=>W3 (H2 t ht);generalize HH b' T1=G at*
     have hU:Ng g (T1.map (tq G),0):=by have:=lm (b:=G) (kX h _ (Vq _):Ng g (T1,0)) (by assumption);rw[((lq (n:=(T1,0)) jR (Int.zero_emod _)).1),Int.zero_ediv]at this;exact this
     have S1:=tu (p:=p) J hU (by rw[Vp];exact Vg (V8 ..) hl) (by
      have e:nP (T1.map (tq G))=nP T1:=by unfold nP;rw[Vv];rfl
      rw[e];exact Vg (lY _ _ _) Y) (by lia)
     refine ab (QP J hU rfl (b'/G)) λm E R=>?_;have val:∀ρ,(sm (n.1,0)).val ρ=G*(sm (T1.map (tq G),0)).val ρ+(sm (B,0)).val ρ:=λρ=>by show ao (n.1.map λt=>t.s.val ρ*t.k)+0=G*(ao (List.map _ (List.map _ _))+0)+(ao (B.map λt=>t.s.val ρ*t.k)+0);rw[BG _ (mB b'),Vv,WN,WN,WN];congr 1;rw[WV,<-lM];refine Vx ao (V0 λt ht=>?_);show t.s.val ρ*t.k=t.s.val ρ*(t.k/G)*G;rw[Xf,Int.ediv_mul_cancel (W2 (jR t ht))]
     refine ag m (λk F x=>?_) (R.w (λρ bh=>?_) ?_ ?_ ?_ λi hi=>?_)
     . refine ax (I k F x) λy e=>?_;refine af (bO (aF k) (aV k)) λb1 b2=>?_;obtain⟨σ',ec⟩:=c7 (step:=aU (aF k) (aV k) 359 0 37) (σ0:=[("mul_gcd",.fz (.int G))]) (sh:=λy=>[("mul_gcd",.fz (.int G)),("mul",.fz y)]) (x:=bz) (f:=λt=>bz (tq G t)) T1 (λt ht σ bJ acc hc=>by
        have T:=uC J h (VY.mp ht).1 (O t ht).1 (by assumption) sG (jR t ht) k (by exact up F rfl);have et:bz t=bG 485 t.x t.k (dU t) (d9 t):=Vk (O t ht).1;have T:oP (aF k) (aV k) .FloorDiv (bz t) (.int G)=some (bz (tq G t)):=by rw[et,cU (show ba.op 485 .FloorDiv (.type "int")=some 454 by kernel_rfl)];exact T
        rcases bJ with rfl|⟨z,rfl⟩
        . rw[AB _ _ G _ acc [] (.inl rfl),Vi hc,T];rfl
        . rw[AB _ _ G _ acc _ (.inr ⟨z,rfl⟩),Vi hc,T];rfl) (Vg (V8 ..) (by lia))
       rw[e,QQ];refine bE (S2 k (by exact VT F)) ?_;refine bE b1 ?_;show(if decide (0<=(sm (B,0)).mn)=true then _ else _)=_;rw[Vi (VJ c1.1),b2,Vl];show(if decide ((sm (B,0)).mx<G)=true then _ else _)=_;rw[Vi (VJ c1.2),ec];show(aF k 211 [.list (T1.map λt=>bz (tq G t))] []).bind _=_;have ex:T1.map (λt=>bz (tq G t))=(T1.map (tq G)).map bz:=by rw[Vv];rfl
       rw[ex];refine bE (S1 k (by lia)) ?_;refine bE (dl sG Z) ?_;rw[Gk];exact E k (by lia)
     . show(if(sm (T1.map (tq G),0)).val ρ<b'/G then(1:Int)else 0)=if(sm (n.1,0)).val ρ<b' then 1 else 0
       refine af (OV.bn J bh) λo1 o2=>?_;have o1:(sm (B,0)).mn<=(sm (B,0)).val ρ:=o1;have o2:(sm (B,0)).val ρ<=(sm (B,0)).mx:=o2;rw[val ρ];have pZ:G*(b'/G)=b':=Wx H1;generalize(sm (T1.map (tq G),0)).val ρ=S at*
       generalize(sm (B,0)).val ρ=o at*
       have:S<b'/G<->G*S+o<b':=by
        constructor
        . intro z;have:=Wo (show S+1<=b'/G by assumption) (Vs Z);rw[pZ,Int.mul_add]at this;lia
        . intro z;refine Int.not_le.mp λy=>?_;have:=Wo y (Vs Z);rw[pZ]at this;lia
       simp only[this]
     . have e:nP (T1.map (tq G))=nP T1:=by unfold nP;rw[Vv];rfl
       have:nP T1<=nP n.1:=lY _ _ _;show nP (T1.map (tq G))+2<=nP n.1+2;lia
     . have e:nP (T1.map (tq G))=nP T1:=by unfold nP;rw[Vv];rfl
       have:nP T1<=nP n.1:=lY _ _ _;show nP (T1.map (tq G))+2<=nP n.1+2;lia
     . refine Vg ?_ (lY (mB b') (λt=>bC t.k*t.s.am) n.1);show aq (List.map _ (List.map _ _))<=_;rw[Vv];exact bM λt ht=>VC _ (kQ Z (jR t ht))
     . refine ab (cO hi) λt ht e=>?_;refine ab (Vy.mp ht) λu hu W=>?_;subst W;exact VX.mpr ⟨u,(VY.mp hu).1,e⟩
    . refine ag m0 (λk F x=>?_) R0;refine ax (I k F x) λy e=>?_;refine af (bO (aF k) (aV k)) λb1 b2=>?_;rw[e,QQ];refine bE (S2 k (by lia)) ?_;refine bE b1 ?_;show(if decide (0<=(sm (B,0)).mn)=true then _ else _)=_;by_cases c2:0<=(sm (B,0)).mn
      . rw[Vi (VJ c2),b2,Vl];show(if decide ((sm (B,0)).mx<HH b' T1)=true then _ else _)=_;rw[Vk (by simp;have:=λz=>c1 ⟨c2,z⟩;lia),Gk];exact E0 k (by lia)
      . rw[Vk (by simpa using c2),Gk];exact E0 k (by lia)
 refine ab key λm E R=>?_;refine⟨m,aw (d:=4*p+12) (by lia) (by decide) λk F=>?_,R.w (λρ bh=>?_) (Vt _) (Vt _) (Vt _) λi hi=>hi⟩
 . refine ax (Cg J h h0 hl (nO n) b (k:=k)) λx e=>?_;rw[Kd]at e;have g1:(n.1.map bz).all jT=true:=VB.mpr λy hy=>by
    refine ab (Vy.mp hy) λt ht W=>?_;subst W;exact(o4 (b:=0) (h.a t ht)).1
   have g2:(decide ((n.1.map bz).length<=1000)&&(n.1.map bz).all (λx=>(mN b' x).isSome))=true:=by rw[V6];refine⟨VJ (by rw[Vp];lia),VB.mpr λy hy=>?_⟩;refine ab (Vy.mp hy) λt ht W=>?_;rw[<-W];rw[(o4 (h.a t ht)).2];rfl
   have X:(aW (n.1,0)).map iX=n.1.map bz:=by unfold aW;rw[Vi rfl,WB,Vv];rfl
   have BF:oX (aF k) (aV k) 3 195 (dD (nO (n.1,0)) b' (.fz (.list (n.1.map bz))) [("x",.fz x)])=oX (aF k) (aV k) 4 194 (dD (nO (n.1,0)) b' (.fz (.list (n.1.map bz))) [("x",.fz x),("nodes",.fz (.list (n.1.map bz)))]):=by
    rw[ev,LV];refine bE (lN hC) ?_;by_cases q:C=656
    . rw[Vi (VJ q),<-ev];refine af (hs.mp q) λh1 h3=>?_;have q3:nO (n.1,0)=bZ ((aW (n.1,0)).map iX) (sm (n.1,0)).mn (sm (n.1,0)).mx:=by
       rcases aL (n.1,0)with⟨q1,_⟩|⟨t,e0,_⟩|⟨t,e0,_⟩|⟨_,_,q2⟩
       . exact Vu q1 h1
       . rw[e0]at h3;simp[aW]at h3
       . rw[e0]at h3;simp[aW]at h3
       . exact q2
      rw[q3,X,show gA (aF k) (aV k) (bZ (n.1.map bz) (sm (n.1,0)).mn (sm (n.1,0)).mx) "nodes"=some (.list (n.1.map bz)) by kernel_rfl];rfl
    . rw[Vk (by simpa using q),<-ev];have:n.1.map bz=[nO (n.1,0)]:=by
       rcases aL (n.1,0)with⟨q1,_⟩|⟨t,e0,_⟩|⟨t,e0,_⟩|⟨q0,q1,_⟩
       . exact Vu q1 h0
       . have:=Vx (·.1) e0;simp only at this;rw[this];rfl
       . have:=Vx (·.1) e0;simp only at this;rw[this];rfl
       . exact Vu (hs.mpr ⟨q0,q1⟩) q
      rw[<-this]
   rw[q2,KG,<-q2];refine bE e ?_;show oX _ _ 2 196 _=_;rw[Mine.Internal.LW];refine bE ((tu (p:=p) J hv hl Y (by lia) k (by lia))) ?_;rw[BF,NK _ _ _ _ _ _ _ g1 g2,f1,f2];exact E k F x
 . show(if(sm (n.1,0)).val ρ<b' then(1:Int)else 0)=if(sm n).val ρ<b then 1 else 0
   have:(sm n).val ρ=(sm (n.1,0)).val ρ+n.2:=by show _+n.2=_+0+n.2;rw[WN]
   have:(sm (n.1,0)).val ρ<b'<->(sm n).val ρ<b:=by(clear hl cH Y h2;omega)
   simp only[this]
theorem vB(f:g.Ok)(h:Ng g n)(b:Int)(i:nP n.1<=p)(u:p<=118):Qg g (4*p+13) n b:=by
 rcases aL n with⟨q1,_⟩|⟨t,e,_⟩|⟨t,e,_⟩|⟨q0,q1,_⟩
 . obtain⟨m,E,R⟩:=LU f h (.inl q1) b;exact⟨m,E.mono (by lia),R⟩
 . obtain⟨m,E,R⟩:=LU f h (.inr ⟨t,e⟩) b;exact⟨m,E.mono (by lia),R⟩
 . obtain⟨m,E,R⟩:=LU f h (.inr ⟨t,e⟩) b;exact⟨m,E.mono (by lia),R⟩
 . exact SJ f h q0 q1 b i u
end
section
variable{g:Gv}{call:aI}{make:aH}{n m v:aY}{p:Nat}{b:Int}{D:Nat}{x y:AV}{s:Sem}{t:Str}{l:List (Str×AV)}{S:Nat->Bool}{sv:Nat->Int}{q:Nat}
structure mt(g:Gv)(l:List (Str×AV))(S:Nat->Bool)(sv:Nat->Int):Prop where
 dict:∀i,i<3->g.lo i<g.hi i->fe l (aN g i)=if S i then some (aO (sv i))else none
 ok:∀i,S i=true->g.lo i<=sv i/\sv i<=g.hi i
noncomputable def upd(S:Nat->Bool)(sv ρ:Nat->Int):Nat->Int:=λi=>if S i then sv i else ρ i
theorem mt.In(h:mt g l S sv){ρ:Nat->Int}(f:g.In ρ):g.In (upd S sv ρ):=λi=>by
 unfold upd;split
 . exact h.ok i (by assumption)
 . exact f i
inductive ga(l:List (Str×AV))(D:Nat)(x y:AV):Prop
 |mk (C:Addr) (fl:List (Str×AV)) (f:Addr) (e:x= .obj C fl) (m:ba.cZ C "substitute"=some f) (v:Ev D f [x,.dict l] [] y)
theorem ga.mono{D'}(h:ga l D x y)(hd:D<=D'):ga l D' x y:=by obtain⟨C,fl,f,i,u,z⟩:=h;exact⟨C,fl,f,i,u,z.mono hd⟩
theorem ga.cZ(h:ga l D x y){R:Type}{k:Nat}(i:D<=k){K:AV->Option R}:(bH x "substitute" λf a=>(aF k f [a,.dict l] []).bind K)=K y:=by obtain⟨C,fl,f,u,z,B⟩:=h;have:=B k i;rw[u]at this⊢;rw[bl z,this];rfl
structure SR(g:Gv)(S:Nat->Bool)(sv:Nat->Int)(s:Sem)(q:Nat)(m:aY):Prop where
 nd:Ng g m
 val:∀ρ,g.In ρ->(sm m).val ρ=s.val (upd S sv ρ)
 ph:2*(sm m).ph+2<=3*s.ph
 p:2*nP m.1+2<=3*q
 am:(sm m).am<=s.am
 vs:∀i,(sm m).vs i=true->s.vs i=true/\S i=false
noncomputable def cI:It->Nat
 | .inl _=>2
 | .inr _=>0
noncomputable def cW:It->Nat
 | .inl t=>2*wk t.k
 | .inr _=>0
structure SI(g:Gv)(S:Nat->Bool)(sv:Nat->Int)(i:It)(m:aY):Prop where
 nd:Ng g m
 val:∀ρ,g.In ρ->(sm m).val ρ=(sm (eY i)).val (upd S sv ρ)
 ph:2*(sm m).ph+cW i<=3*(sm (eY i)).ph
 p:2*nP m.1+cI i<=3*nP (eY i).1
 am:(sm m).am<=(sm (eY i)).am
 vs:∀j,(sm m).vs j=true->(sm (eY i)).vs j=true/\S j=false
theorem xM(z:g.Ok)(P:mt g l S sv)(h:Ng g n)(Q:∀t∈n.1,∃m,ga l D t.x (nO m)/\SR g S sv t.s t.s.ph m)(U:6*nP n.1+20<=D)(Y:nP n.1<=70){i:It}(hi:i∈aW n):∃m,ga l (D+1) (iX i) (nO m)/\SI g S sv i m:=by
 rcases fc hi with⟨t,ht,rfl⟩|⟨_,rfl⟩
 . refine ab (Q t ht) λm E R=>?_;have G:=h.a t ht;have Z:t.s.ph<=nP n.1:=aR (f:=λt:Tm=>t.s.ph) ht;have ev:∀ρ,(sm ([t],0)).val ρ=t.s.val ρ*t.k:=λρ=>by simp[nS,ao]
   have I:(sm ([t],0)).am=bC t.k*t.s.am:=by simp[nS,aq]
   have J:(sm ([t],0)).ph=wk t.k*t.s.ph:=by simp[nS,aq]
   have eq:nP (([t],0):aY).1=t.s.ph:=by simp[nP,aq]
   have N:∀j,t.s.vs j=true->(sm ([t],0)).vs j=true:=λj u=>VX.mpr ⟨t,Vm,u⟩;have a0:(sm ([t],0)).am<=2^800:=(h.term ht).p.am;have rp:=R.p;have pX:=R.ph;by_cases q:t.k=1
   . have H:wk t.k=1:=by rw[q];rfl
     have W:bC t.k=1:=by rw[q];rfl
     refine ag m (by rw[show iX (.inl t)=t.x from Vi q];exact E.mono (by lia)) ⟨R.nd,λρ F=>?_,?_,?_,?_,λj u=>⟨N j (R.vs j u).1,(R.vs j u).2⟩⟩
     . show _=(sm ([t],0)).val _;rw[ev,q,Int.mul_one];exact R.val ρ F
     . show _+2*wk t.k<=3*(sm ([t],0)).ph;rw[J,H];lia
     . show _+2<=3*nP (([t],0):aY).1;rw[eq];assumption
     . show _<=(sm ([t],0)).am;rw[I,W,Nat.one_mul];exact R.am
   . have H:wk t.k=2:=Vk q;have k8:=(h.fu z).2.2.2 t ht;have am:bC t.k*(sm m).am<=bC t.k*t.s.am:=VF _ R.am;have hv:((sm m).val g.lo*t.k).natAbs<=2^870:=by
      rw[R.val g.lo z.cX];have bn:=G.bn z (P.In z.cX);have sb:=G.sb z;have:=eF sb (VQ sb.mn bn.1) bn.2;have:=gP (n:=bC t.k*t.s.am) (by assumption);omega
     have B:=kf R.nd (j:=t.k) (by lia) z hv;have O:=tD z R.nd (j:=t.k) (bR (by lia)) (by lia) hv (p:=nP m.1) (Vt _) (by lia);refine ag (eV t.k m) ?_ ⟨B.nd,λρ F=>?_,?_,?_,?_,λj u=>⟨N j (R.vs j (B.vs j u)).1,(R.vs j (B.vs j u)).2⟩⟩
     . rw[show iX (.inl t)=bG 485 t.x t.k (dU t) (d9 t)from Vk q];refine⟨485,_,475,rfl,by kernel_rfl,aw (d:=D) (by exact up U rfl) (by decide) λk X=>?_⟩;refine aP G.obj λC fl e hC=>?_;have E:=E.cZ (K:=λy=>(oP (aF k) (aV k) .Mult y (.int t.k)).bind some) X;rw[e]at E⊢;rw[KC,E,O k (by lia)];rfl
     . show _=(sm ([t],0)).val _;rw[ev,B.val ρ F,R.val ρ F]
     . show _+2*wk t.k<=3*(sm ([t],0)).ph;have:=B.ph;rw[J,H];lia
     . show _+2<=3*nP (([t],0):aY).1;have:=B.p;rw[eq];lia
     . show _<=(sm ([t],0)).am;rw[I];exact Vg B.am am
 . have e0:eY (.inr n.2)=([],n.2):=rfl;refine ag ([],n.2) ⟨338,lE n.2,328,rfl,by kernel_rfl,aw (d:=D) (by lia) (by decide) λk _=>?_⟩ ⟨cV h.p.vb,λρ _=>?_,?_,?_,Vt _,λj u=>?_⟩
   . exact(CK ..).trans (Vx some (cm n.2).symm)
   . rw[e0,aD]
   . show 2*(sm ([],n.2)).ph+0<=_;rw[aD];exact Vq _
   . exact Vq _
   . rw[aD]at u;injection u
inductive SN(g:Gv)(l:List (Str×AV))(S:Nat->Bool)(sv:Nat->Int)(D:Nat)(n:aY):Prop
 |mk (m:aY) (e:ga l (D+2) (nO n) (nO m)) (r:SR g S sv (sm n) (nP n.1) m) (x:md n.1=0->2*(sm m).ph+4<=3*(sm n).ph)
set_option maxHeartbeats 1000000 in
theorem rf(z:g.Ok)(N:mt g l S sv)(h:Ng g n)(h0:n.1≠[])(hr:n.2.natAbs<=2^870)(F:∀t∈n.1,∃m,ga l D t.x (nO m)/\SR g S sv t.s t.s.ph m)(hD:6*nP n.1+20<=D)(hp:nP n.1<=70):SN g l S sv D n:=by
 refine ax (IO (l:=aW n) (Q:=λi m=>ga l (D+1) (iX i) (nO m)/\SI g S sv i m) λi hi=>xM z N h F hD hp hi) λf hf=>?_;rcases aL n with⟨q1,_⟩|⟨t,rfl,q1,q2⟩|⟨t,rfl,q1,q2⟩|⟨_,q1,q2⟩
 . exact Vu q1 h0
 . refine af (hf (.inl t) (by simp[aW])) λE R=>?_;have u:_+2*wk t.k<=_:=R.ph;have:=gm t.k;exact⟨f (.inl t),E.mono (by lia),⟨R.nd,R.val,Vg (by lia) u,R.p,R.am,R.vs⟩,λh=>by rw[show md [t]=1 from Vi q1]at h;injection h⟩
 . refine af (hf (.inl t) (by simp[aW])) λE R=>?_;have u:_+2*wk t.k<=_:=R.ph;have e2:wk t.k=2:=Vk q1;rw[e2]at u;exact⟨f (.inl t),E.mono (by lia),⟨R.nd,R.val,Vg (by lia) u,R.p,R.am,R.vs⟩,λ_=>u⟩
 . have M:=λi hi=>(hf i hi).2;have O:n.1.length<=60:=h.w.len z (by lia);have hl:=fT n;have P:(sm n).am<=2^800:=h.p.am;have am:aq ((aW n).map λi=>(sm (f i)).am)<=(sm n).am:=by
    rw[<-y7 n];exact bM λi hi=>(M i hi).am
   have U:2<=aq ((aW n).map λi=>cI i):=by
    rw[gy (λi=>cI i) λ_=>rfl]
    match hn:n.1,h0 with
    |t::l,_=>show 2<=2+_;lia
   have ew:2<=aq ((aW n).map λi=>cW i)/\(md n.1=0->4<=aq ((aW n).map λi=>cW i)):=by
    rw[gy (λi=>cW i) λ_=>rfl]
    match hn:n.1,h0 with
    |[t],_=>
     have:=gm t.k;refine⟨show 2<=2*wk t.k+0 by lia,λB=>show 4<=2*wk t.k+0 from ?_⟩;have:t.k≠1:=λq=>by rw[show md [t]=1 from Vi q]at B;injection B
     rw[show wk t.k=2 from Vk this];decide
    |t::t'::l,_=>have:=gm t.k;have:=gm t'.k;exact⟨show 2<=2*wk t.k+(2*wk t'.k+_) by lia,λB=>by injection B⟩
   have G:∀w c:It->Nat,aq ((aW n).map λi=>2*w i+c i)=2*aq ((aW n).map w)+aq ((aW n).map λi=>c i):=λw c=>by
    generalize aW n=L
    induction L with
    |nil=>rfl
    |cons a L F=>simp only[Vn,au,F];lia
   have ph:2*aq ((aW n).map λi=>(sm (f i)).ph)+aq ((aW n).map λi=>cW i)<=3*(sm n).ph:=by have:=bM (l:=aW n) λi hi=>(M i hi).ph;rw[G,cF,y3]at this;assumption
   have pp:2*aq ((aW n).map λi=>nP (f i).1)+2<=3*nP n.1:=by have:=bM (l:=aW n) λi hi=>(M i hi).p;rw[G,cF,gy (λi=>nP (eY i).1) λ_=>rfl]at this;have e:aq (n.1.map λt=>nP (eY (.inl t)).1)=nP n.1:=rfl;rw[e]at this;lia
   have hv:(ao (((aW n).map f).map λn=>(sm n).val g.lo)).natAbs<=2^879+2^863:=by
    rw[Vv];have e:ao ((aW n).map ((λn=>(sm n).val g.lo)∘f))=(sm n).val (upd S sv g.lo):=by rw[<-kT];exact Vx ao (V0 λi hi=>(M i hi).val g.lo z.cX)
    rw[e];have a1:=fR z h.a h.p.am (N.In z.cX);exact pW a1 hr (by decide)
   have R:=xH (g:=g) (ns:=(aW n).map f) (λn hn=>by refine ab (Vy.mp hn) λi hi H=>?_;subst H;exact(M i hi).nd.w) (by rw[Vv];exact Vg am P) z hv;have u:=R.ph;have I:=R.p;have W:=R.am;rw[Vv]at u I W;have u:(sm (cu ((aW n).map f))).ph<=aq ((aW n).map λi=>(sm (f i)).ph):=u;have I:nP (cu ((aW n).map f)).1<=aq ((aW n).map λi=>nP (f i).1):=I;have T:=eA z (aW n) f (λi hi=>(M i hi).nd.w) (p:=aq ((aW n).map λi=>nP (f i).1)) (λi hi=>aR (f:=λi=>nP (f i).1) hi) (by lia) (by
    have:∀L:List It,(∀i∈L,i∈aW n)->(L.flatMap λi=>(f i).1).length<=aq (L.map λi=>nP (f i).1):=λL=>by
     induction L with
     |nil=>intro _;exact Vt _
     |cons a L F=>intro hL;rw[VS,VO,Vn,au];have:=i8 λt ht=>((((M a (hL a Vm)).nd).a t ht).sb z).ph;have:=F λi hi=>hL i (Vw _ hi);lia
    have:=this _ λi hi=>hi;lia) (Vg am P)
   refine⟨cu ((aW n).map f),⟨656,_,642,q2,by kernel_rfl,?_⟩,⟨R.nd,λρ X=>?_,by lia-abstractProof,by lia-abstractProof,Vg W am,λj J=>?_⟩,λB=>by have:=ew.2 B;(clear B;lia)⟩
   . rw[q2];refine aw (d:=D+1) (by lia) (by decide) λk Y=>?_;obtain⟨σ',e⟩:=c7 (step:=aU (aF k) (aV k) 642 0 38) (σ0:=[("var_vals",.fz (.dict l))]) (sh:=λy=>[("var_vals",.fz (.dict l)),("node",.fz y)]) (x:=iX) (f:=λi=>nO (f i)) (aW n) (λi hi σ bJ acc Z=>by
      refine aP (jd h.a (r:=n.2) (x:=iX i) (by rw[<-jc];exact Vy.mpr ⟨i,hi,rfl⟩)) λC fl U hC=>?_;have E:=(hf i hi).1;rw[U]at E⊢;rcases bJ with rfl|⟨y,rfl⟩
      . rw[pH _ _ _ C fl acc [] (.inl rfl),Vi Z,E.cZ Y]
      . rw[pH _ _ _ C fl acc _ (.inr ⟨y,rfl⟩),Vi Z,E.cZ Y]) (by lia)
     rw[Kv,e];show(aF k 211 [.list ((aW n).map λi=>nO (f i))] []).bind some=_;rw[T k (by lia)];rfl
   . rw[R.val ρ X,Vv,<-kT];exact Vx ao (V0 λi hi=>(M i hi).val ρ X)
   . refine ab (R.vs j J) λn' hn J=>?_;refine ab (Vy.mp hn) λi hi H=>?_;subst H;have:=(M i hi).vs j J;exact⟨tS hi this.1,this.2⟩
end
section
variable{g:Gv}{call:aI}{make:aH}{n m v:aY}{p:Nat}{b:Int}{D:Nat}{x y:AV}{s:Sem}{t:Str}{l:List (Str×AV)}{S:Nat->Bool}{sv:Nat->Int}{q:Nat}
inductive SE(g:Gv)(l:List (Str×AV))(S:Nat->Bool)(sv:Nat->Int)(D:Nat)(x:AV)(s:Sem):Prop
 |mk (m:aY) (e:ga l D x (nO m)) (r:SR g S sv s s.ph m)
theorem Fi(B:g.Ok)(U:mt g l S sv)(h:At g x s t):s.ph<=70->SE g l S sv (6*s.ph+50) x s:=by
 have W:∀{ts:List Tm}{r:Int}{D:Nat},ts≠[]->Nd g ts r->nP ts<=70->(∀t∈ts,t.s.ph<=70->SE g l S sv (6*t.s.ph+50) t.x t.s)->6*nP ts+50<=D->r.natAbs<=2^870->SN g l S sv D (ts,r):=λ{ts r D} hn hd F H hD hr=>by refine rf (n:=(ts,r)) B U hd hn hr (λt ht=>?_) (by show 6*nP ts+20<=D;lia) F;have tp:t.s.ph<=nP ts:=aR (f:=λt:Tm=>t.s.ph) ht;obtain⟨m,E,R⟩:=H t ht (by lia);exact ag m (E.mono (by lia)) R
 induction h with
 |var i hi hl=>
  intro _;have A:At g _ _ _:= .var i hi hl;have st:∀z,(if S i then some (aO (sv i))else none).getD (dm g i)=z->ga l 62 (dm g i) z:=λz hz=>⟨284,_,274,rfl,by kernel_rfl,aw (d:=61) (by decide) (by decide) λk N=>by
   rw[<-hz,<-U.dict i hi hl];have:=(A.key B (p:=2) (Vt _) (by decide)) k (by exact up N rfl);unfold dm at this⊢;rw[KH,this];rfl⟩
  by_cases q:S i=true
  . refine⟨([],sv i),st _ (by rw[Vi q];exact(cm _).symm),⟨cV ?_,λρ _=>?_,?_,?_,?_,λj u=>?_⟩⟩
    . have:=U.ok i q;have:=B.pos i;have:=B.sm i;have hx:XX=2^62:=rfl;lia
    . rw[aD];show sv i=upd S sv ρ i;unfold upd;rw[Vi q]
    . rw[aD];show 0+2<=3*2;decide
    . show 0+2<=3*2;lia
    . rw[aD];exact Vq _
    . rw[aD]at u;injection u
  . have e:=gM (dm g i) (gr g i) (aN g i);refine⟨pM (dm g i) (gr g i) (aN g i),st _ (by rw[Vk q];rfl),⟨j6 A (show 1<=2^800 by decide),λρ _=>?_,?_,?_,?_,λj u=>?_⟩⟩
    . rw[e.val];show ρ i=upd S sv ρ i;unfold upd;rw[Vk q]
    . rw[e.ph];exact Vt 6
    . rw[e.p];exact Vt 6
    . rw[e.am];exact Vt _
    . rw[e.vs]at u;have:j=i:=by simpa[gr]using u
      subst this;exact⟨u,by simpa using q⟩
 |div ts r c hn F ha hc jx iO ie sW H=>
  intro P;have I:(cL ts r c).ph=(nS ts r).ph+md ts:=rfl;have h1:=i0 (r:=r) hn (λt ht=>((ha t ht).sb B).ph);have h2:nP ts<=(nS ts r).ph:=dC;obtain⟨m,E,R,X⟩:=W (D:=6*(cL ts r c).ph+44) hn ⟨F,ha⟩ (by(clear h1;lia)) H (by lia) jx.2;have Y:c.natAbs*(nS ts r).am<=2^800:=jx.1;have Rr:c.natAbs<=2^800:=Vg (Wu _ (cz (r:=r) hn F.nz λt ht=>(ha t ht).sb B)) Y;have pX:=R.ph;have Z:c.natAbs*(sm m).am<=c.natAbs*(nS ts r).am:=VF _ R.am;obtain⟨J,O,Q,_⟩:=yk B (sm m).ph (by lia) m R.nd (Vt _) c (by exact Vs hc) (by lia) (Vg Z Y);have Tv:=gw m.1;have h0:md ts=0\/md ts=1:=by have:=gw ts;(clear P;lia)
  have f1:2*((sm m).ph+md m.1)+2<=3*(cL ts r c).ph:=by
   refine Or.elim h0 (λz=>?_) λz=>?_
   . have:=X z;(clear z;lia)
   . lia
  have q1:=Q.ph;have q2:=Q.p;refine⟨J,⟨526,_,516,rfl,by kernel_rfl,aw (d:=6*(cL ts r c).ph+49) (by lia) (by decide) λk N=>?_⟩,⟨Q.nd,λρ G=>?_,by lia,by lia,Vg Q.am Z,λj u=>R.vs j (Q.vs j u)⟩⟩
  . refine aP (bx (r:=r) ha) λC fl e hC=>?_;have E:=E.cZ (K:=λy=>(oP (aF k) (aV k) .FloorDiv y (.int c)).bind some) (k:=k) (by(clear E I;lia));rw[show nO (ts,r)= .obj C fl from e]at E;rw[e,KB,E,O k (by lia)];rfl
  . rw[Q.val ρ G,R.val ρ G];rfl
 |mod ts r c hn F ha hc nv iO H=>
  intro P;have I:(eW ts r c).ph=(nS ts r).ph+mm ts r:=rfl;have zp:∀t∈ts,2<=t.s.ph:=λt ht=>((ha t ht).sb B).ph;have h1:=i0 (r:=r) hn zp;have h2:nP ts<=(nS ts r).ph:=dC;have h3:=ki ts r;obtain⟨m,E,R,X⟩:=W (D:=6*(eW ts r c).ph+44) hn ⟨F,ha⟩ (by lia) H (by(clear h2;lia)) nv.2;have pX:=R.ph;have e0:(sm (ts,r)).ph=(nS ts r).ph:=rfl;obtain⟨J,O,Q⟩:=oM B (sm m).ph m R.nd (Vt _) (by lia) c (by exact Vs hc) nv.1;have Tv:=kh m.1 m.2;have h0:md ts=0\/mm ts r=1:=by have:=gw ts;have:=kh ts r;(clear P;lia)
  have f1:2*((sm m).ph+mm m.1 m.2)+2<=3*(eW ts r c).ph:=by
   refine Or.elim h0 (λz=>?_) λz=>?_
   . have:=X z;lia
   . lia
  have q1:=Q.ph;have q2:=Q.p;refine⟨J,⟨574,_,564,rfl,by kernel_rfl,aw (d:=6*(eW ts r c).ph+49) (by lia) (by decide) λk N=>?_⟩,⟨Q.nd,λρ G=>?_,by lia,by lia,Vg Q.am R.am,λj u=>R.vs j (Q.vs j u)⟩⟩
  . refine aP (bx (r:=r) ha) λC fl e hC=>?_;have E:=E.cZ (K:=λy=>(oP (aF k) (aV k) .Mod y (.int c)).bind some) (k:=k) (by(clear E I;lia));rw[show nO (ts,r)= .obj C fl from e]at E;rw[e,Ky,E,O k (by lia)];rfl
  . rw[Q.val ρ G,R.val ρ G];rfl
 |lt ts c hn F ha h1 h2 H=>
  intro P;have I:(oB ts c).ph=nP ts+2:=rfl;obtain⟨m,E,R,_⟩:=W (r:=0) (D:=6*(oB ts c).ph+44) hn ⟨F,ha⟩ (by lia) H (by lia) (Vq _);have rp:=R.p;obtain⟨J,O,Q⟩:=vB B R.nd c (p:=nP m.1) (Vt _) (by lia);have q1:=Q.ph;have q2:=Q.p;refine⟨J,⟨430,_,420,rfl,by kernel_rfl,aw (d:=6*(oB ts c).ph+49) (by lia) (by decide) λk N=>?_⟩,⟨Q.nd,λρ G=>?_,by lia,by lia,Vg Q.am R.am,λj u=>R.vs j (Q.vs j u)⟩⟩
  . refine aP (bx (r:=0) ha) λC fl e hC=>?_;have E:=E.cZ (K:=λy=>(aF k 359 [y,.int c] []).bind some) (k:=k) (by(clear E I;lia));rw[show nO (ts,0)= .obj C fl from e]at E;rw[e,KF,E,O k (by lia)];rfl
  . rw[Q.val ρ G];show(if(sm m).val ρ<c then(1:Int)else 0)=if(nS ts 0).val (upd S sv ρ)<c then 1 else 0
    rw[R.val ρ G]
theorem Fh(u:g.Ok)(B:mt g l S sv)(h:Ng g n)(hr:n.2.natAbs<=2^870)(F:nP n.1<=70):∃m,ga l 480 (nO n) (nO m)/\Ng g m/\(∀ρ,g.In ρ->(sm m).val ρ=(sm n).val (upd S sv ρ))/\nP m.1<=105/\(∀i,(sm m).vs i=true->(sm n).vs i=true/\S i=false)/\m.2.natAbs<=2^872:=by
 by_cases q:n.1=[]
 . have e:n=([],n.2):=by rw[<-q]
   refine G5 n ⟨338,lE n.2,328,by rw[e];exact cm _,by kernel_rfl,aw (d:=479) (by decide) (by decide) λk _=>?_⟩ h (λρ _=>?_) (by lia) (λi hi=>?_) (Vg hr (VH (by decide) (by decide)))
   . rw[e,cm];exact CK ..
   . rw[e,aD]
   . rw[e,aD]at hi;injection hi
 . obtain⟨m,E,R,_⟩:=rf (D:=470) u B h q hr (λt ht=>by
    have G:t.s.ph<=nP n.1:=aR (f:=λt:Tm=>t.s.ph) ht;obtain⟨m,E,R⟩:=Fi u B (h.a t ht) (by lia);exact ag m (E.mono (by lia)) R) (by lia) F
   have H:=R.p;refine G5 m (E.mono (by decide)) R.nd R.val (by lia) R.vs ?_;have a1:=fR u h.a h.p.am (B.In u.cX);have z:=fR u R.nd.a R.nd.p.am u.cX;have z:((sm m).val g.lo-m.2).natAbs<=2^862:=z;rw[R.val g.lo u.cX]at z;exact xz z (pW a1 hr (Vt _)) (by decide)
end
set_option tactic.hygienic true
section
variable{g:Gv}{call:aI}{make:aH}{n m v:aY}{p:Nat}{b:Int}{D:Nat}{x y:AV}{s:Sem}{t:Str}
theorem fU{α β}{body:ah->Option fW}{nm:List Str}{R:β->ah->Prop}{x:α->List AV}{f:β->α->β}{b0:β}(l:List α)(H:∀i a u,l=i++a::u->∀σ,R (i.foldl f b0) σ->∃σ',body (aX σ nm (x a))=some (.next σ')/\R (f (i.foldl f b0) a) σ'){σ0:ah}(h0:R b0 σ0):∃σ',bU body nm (l.map x) σ0=some (.next σ')/\R (l.foldl f b0) σ':=by
 have:∀u i,l=i++u->∀σ,R (i.foldl f b0) σ->∃σ',bU body nm (u.map x) σ=some (.next σ')/\R (l.foldl f b0) σ':=λu=>by
  induction u with
  |nil=>intro i e σ h;rw[WB]at e;subst e;exact ag σ rfl h
  |cons a u ih=>intro i e σ h;refine ab (H i a u e σ h) λz B h1=>?_;refine ab (ih (i++[a]) (by simp[e]) z (by simpa using h1)) λF G h2=>?_;refine ag F ?_ h2;rw[Vn,bU,B];exact G
 exact this l [] rfl σ0 h0
noncomputable def VD(g:Gv)(is:List Nat):List (Str×AV):=is.map λi=>(aN g i,dm g i)
noncomputable def dR(acc:List Nat)(i:Nat):List Nat:=if i∈acc then acc else acc++[i]
noncomputable def wu(gY:List (List Nat)):List Nat:=gY.foldl (λacc is=>is.foldl dR acc) []
theorem gn{i j:Nat}(hi:i<3)(u:j<3)(h:aN g i=aN g j):i=j:=by
 have e:∀i,i<3->∃l,cl (aN g i)=(97+i)::l:=λi h=>by
  unfold aN;simp only[j5]
  match i,h with
  |0,_=>exact⟨_,rfl⟩
  |1,_=>exact⟨_,rfl⟩
  |2,_=>exact⟨_,rfl⟩
 refine ax (e i hi) λa f=>?_;refine ax (e j u) λb hb=>?_;rw[h]at f;rw[f]at hb;have:=(List.cons.inj hb).1;(clear hb f u hi;lia)
theorem mq{f:Nat->AV}{acc:List Nat}(B:∀j∈acc,j<3){i:Nat}(hi:i<3):bI (acc.map λi=>(aN g i,f i)) (aN g i) (f i)=(dR acc i).map λi=>(aN g i,f i):=by
 unfold bI dR;have e:(acc.map λi=>(aN g i,f i)).any (λF=>decide (F.1=aN g i))=decide (i∈acc):=by
  rw[List.any_map];by_cases q:i∈acc
  . rw[VJ q];exact VX.mpr ⟨i,q,VJ rfl⟩
  . rw[W5 q];refine List.any_eq_false.mpr λj u=>?_;simp only[Function.comp,decide_eq_true_eq];intro z;exact q (gn (B j u) hi z▸u)
 rw[e];by_cases q:i∈acc
 . rw[Vi (VJ q),Vi q,Vv];refine V0 λj u=>?_;show(if aN g j=aN g i then(aN g j,f i)else(aN g j,f j))=_;split
   . rename_i z;rw[gn (B j u) hi z]
   . rfl
 . rw[Vk (by simpa using q),Vk q];simp
theorem Dr{acc:List Nat}(f:∀j∈acc,j<3){i:Nat}(hi:i<3):bI (VD g acc) (aN g i) (dm g i)=VD g (dR acc i):=mq f hi
theorem gN{acc:List Nat}{i j:Nat}:j∈dR acc i<->j∈acc\/j=i:=by
 unfold dR;split
 . rename_i h;exact⟨.inl,λz=>z.elim id λe=>e▸h⟩
 . simp
theorem gZ:∀{is acc:List Nat}{j:Nat},j∈is.foldl dR acc<->j∈acc\/j∈is
 |[],acc,j=>by simp
 |i::is,acc,j=>by rw[We,gZ,gN];simp[or_assoc]
theorem i7{f:List (List Nat)}{j:Nat}:j∈wu f<->∃is∈f,j∈is:=by
 have:∀(f:List (List Nat))(acc:List Nat),j∈f.foldl (λacc is=>is.foldl dR acc) acc<->j∈acc\/∃is∈f,j∈is:=λf=>by
  induction f with
  |nil=>intro acc;simp
  |cons a l ih=>intro acc;rw[We,ih,gZ];simp[or_assoc]
 rw[wu,this];simp
theorem k6{acc:List Nat}{i:Nat}(h:acc.Nodup):(dR acc i).Nodup:=by
 unfold dR;split
 . exact h
 . rename_i q;exact List.nodup_append.mpr ⟨h,by simp,λa f b hb e=>q (by rw[Vo.mp hb]at e;exact e▸f)⟩
theorem rX:∀{is acc:List Nat},acc.Nodup->(is.foldl dR acc).Nodup
 |[],_,h=>h
 |i::is,_,h=>rX (is:=is) (k6 (i:=i) h)
theorem u0(f:List (List Nat)):(wu f).Nodup:=by
 have:∀(f:List (List Nat))(acc:List Nat),acc.Nodup->(f.foldl (λacc is=>is.foldl dR acc) acc).Nodup:=λf=>by
  induction f with
  |nil=>intro acc h;exact h
  |cons a l ih=>intro acc h;exact ih _ (rX h)
 exact this f [] .nil
theorem yS{acc:List Nat}(h:acc.Nodup)(f:∀j∈acc,j<3):acc.length<=3:=by
 have:=h.length_le_of_subset (l₂:=[0,1,2]) λj i=>by exact Ge (P:=λj=>j∈[0,1,2]) (f j i) (.head _) (.tail _ (.head _)) (.tail _ (.tail _ (.head _)))
 simpa using this
theorem KU(u:List (List Nat))(h:∀is∈u,∀i∈is,i<3):Ev 3 42 [.list (u.map λis=> .dict (VD g is))] [] (.dict (VD g (wu u))):=aw (by decide) (by decide) λk _=>by
 have P:∀(u:List (List Nat))(acc:List Nat),(∀is∈u,∀i∈is,i<3)->(∀i∈acc,i<3)->∀i∈u.foldl (λacc is=>is.foldl dR acc) acc,i<3:=λu=>by
  induction u with
  |nil=>intro acc _ h;exact h
  |cons a l ih=>
   intro acc h h';refine ih _ (λis hi=>h is (Vw _ hi)) λi hi=>?_;refine Or.elim (gZ.mp hi) (λz=>?_) λz=>?_
   . exact h' i z
   . exact h a Vm i z
 obtain⟨σ,e,r,hr,hn,rfl⟩:=fJ (body:=ay (aF k) (aV k) 42 0 198) (nm:=["row"]) (x:=λis=>AV.dict (VD g is)) (f:=λacc is=>is.foldl dR acc) (b0:=([]:List Nat)) (R:=λacc σ=>∃r:ah,(r=[]\/∃d B,r=(("row":Str),EV.fz d)::B/\(B=[]\/∃y z,B=[(("k":Str),EV.fz y),(("v":Str),EV.fz z)]))/\acc.Nodup/\σ=(("rows":Str),EV.fz (.list (u.map λis=> .dict (VD g is))))::("ret",.od (VD g acc))::r) u (λF is Q e σ G=>by
  refine bV G λr hr hn H=>?_;clear G;subst H;have U:∀j∈F.foldl (λacc is=>is.foldl dR acc) [],j<3:=P F [] (λis hi=>h is (by rw[e];simp[hi])) (λ_ h=>nomatch h);generalize F.foldl (λacc is=>is.foldl dR acc) []=acc at*
  have I:∃B:ah,(B=[]\/∃y z,B=[(("k":Str),EV.fz y),(("v":Str),EV.fz z)])/\aX ((("rows":Str),EV.fz (.list (u.map λis=> .dict (VD g is))))::("ret",.od (VD g acc))::r) ["row"] [.dict (VD g is)]=(("rows":Str),EV.fz (.list (u.map λis=> .dict (VD g is))))::("ret",.od (VD g acc))::("row",.fz (.dict (VD g is)))::B:=by
   rcases hr with rfl|⟨d,B,rfl,J⟩
   . exact ag [] (.inl rfl) rfl
   . exact ag B J rfl
  refine ab I λB J I=>?_;obtain⟨gf,W,r1,X,Y,rfl⟩:=fU (body:=ay (aF k) (aV k) 42 1 197) (nm:=["k","v"]) (x:=λi=>[.str (aN g i),dm g i]) (f:=dR) (b0:=acc) (R:=λacc σ=>∃r:ah,(r=[]\/∃y z,r=[(("k":Str),EV.fz y),(("v":Str),EV.fz z)])/\(acc.Nodup/\∀j∈acc,j<3)/\σ=(("rows":Str),EV.fz (.list (u.map λis=> .dict (VD g is))))::("ret",.od (VD g acc))::("row",.fz (.dict (VD g is)))::r) is (λF i Q Z σ G=>by
   refine bV G λr2 OC bg H=>?_;clear G;refine af bg λO N=>?_;subst H;generalize F.foldl dR acc=acc at*
   have hi:=(h is (by rw[e];simp)) i (by rw[Z];simp);have e6:aX ((("rows":Str),EV.fz (.list (u.map λis=> .dict (VD g is))))::("ret",.od (VD g acc))::("row",.fz (.dict (VD g is)))::r2) ["k","v"] [.str (aN g i),dm g i]=(("rows":Str),EV.fz (.list (u.map λis=> .dict (VD g is))))::("ret",.od (VD g acc))::("row",.fz (.dict (VD g is)))::[("k",.fz (.str (aN g i))),("v",.fz (dm g i))]:=by rcases OC with rfl|⟨y,z,rfl⟩<;>rfl
   have hl:(VD g acc).length<=1000:=by have:=yS O N;unfold VD;rw[Vp];lia
   rw[e6,N8,Vi hl,Dr N hi];exact⟨_,rfl,_,.inr ⟨_,_,rfl⟩,⟨k6 O,λj hj=>(gN.mp hj).elim (N j) λe=>e▸hi⟩,rfl⟩) (σ0:=(("rows":Str),EV.fz (.list (u.map λis=> .dict (VD g is))))::("ret",.od (VD g acc))::("row",.fz (.dict (VD g is)))::B) ⟨B,J,⟨hn,U⟩,rfl⟩
  have e7:(VD g is).map (λz=>[AV.str z.1,z.2])=is.map λi=>[.str (aN g i),dm g i]:=by unfold VD;rw[Vv];rfl
  rw[I,SV,e7,W,Vl];exact⟨_,rfl,_,.inr ⟨_,_,rfl,X⟩,Y.1,rfl⟩) (σ0:=[(("rows":Str),EV.fz (.list (u.map λis=> .dict (VD g is)))),("ret",.od [])]) ⟨[],.inl rfl,.nil,rfl⟩
 rw[Ud,e,Vl];exact Py _ _ _ _ r
inductive ff(g:Gv)(D:Nat)(x:AV)(s:Sem):Prop
 |mk (C:Addr) (fl:List (Str×AV)) (f:Addr) (is:List Nat) (e:x= .obj C fl) (m:ba.cZ C "vars"=some f) (v:Ev D f [x] [] (.dict (VD g is))) (nd:is.Nodup) (h:∀i,i∈is<->s.vs i=true) (l:∀i∈is,i<3)
theorem ff.mono{D'}(h:ff g D x s)(hd:D<=D'):ff g D' x s:=by obtain⟨C,fl,f,is,i,u,z,B,F,G⟩:=h;exact⟨C,fl,f,is,i,u,z.mono hd,B,F,G⟩
theorem kF(h:ff g D x s)(G:3<=D){C:Addr}(B:C=430\/C=485\/C=526\/C=574)(b mn mx:Int){s':Sem}(H:∀i,s'.vs i=s.vs i):ff g (D+1) (bG C x b mn mx) s':=by
 obtain⟨I,fl,f,is,J,N,z,W,O,F⟩:=h;have P:ba.cZ C "vars"=some 387:=by rcases B with rfl|rfl|rfl|rfl<;>kernel_rfl
 refine⟨C,_,387,wu [is,[]],rfl,P,aw (by exact VT G) (by decide) λk Q=>?_,u0 _,λi=>?_,λi hi=>?_⟩
 . have z:=z k Q;have M:=KU (g:=g) [is,[]] (λU hi i u=>by
    rcases VN.mp hi with rfl|hi
    . exact F i u
    . rw[Vo.mp hi]at u;cases u) k (by lia)
   rw[J]at z⊢;rw[PB _ _ C I B,bl N,z,Vl];rw[M];rfl
 . rw[i7,H,<-O];simp
 . refine ab (i7.mp hi) λU J4 u=>?_;rcases VN.mp J4 with rfl|J4
   . exact F i u
   . rw[Vo.mp J4]at u;cases u
theorem mY(og:g.Ok)(h:Ng g n)(X:∀t∈n.1,ff g D t.x t.s)(Y:5<=D)(hp:nP n.1<=120):ff g (D+2) (nO n) (sm n):=by
 have T:∀t∈n.1,ff g (D+1) (bz t) (sm ([t],0)):=λt ht=>by
  have hv:∀i,(sm ([t],0)).vs i=t.s.vs i:=λi=>by simp[nS]
  unfold bz;split
  . obtain⟨C,fl,f,is,I,G,J,Z,P,Q⟩:=(X t ht).mono (Nat.le_succ D);exact⟨C,fl,f,is,I,G,J,Z,λi=>by rw[hv];exact P i,Q⟩
  . exact kF (X t ht) (by exact up Y rfl) (.inr (.inl rfl)) _ _ _ hv
 have N:∀c,ff g (D+1) (aO c) (sm ([],c)):=λc=>⟨338,lE c,64,[],rfl,by kernel_rfl,aw (d:=D) (by exact up Y rfl) (by decide) (λk _=>Ub ..),.nil,λi=>by rw[aD];simp,λi hi=>(nomatch hi)⟩;rcases aL n with⟨q1,q2⟩|⟨t,rfl,q1,q2⟩|⟨t,rfl,q1,q2⟩|⟨q0,q1,q2⟩
 . have e:n=([],n.2):=by rw[<-q1]
   have:=(N n.2).mono (Nat.le_succ (D+1));rw[<-e]at this;rw[q2];exact this
 . have:=(T t Vm).mono (Nat.le_succ (D+1));exact this
 . have:=(T t Vm).mono (Nat.le_succ (D+1));exact this
 . have hI:∀i∈aW n,ff g (D+1) (iX i) (sm (eY i)):=λi hi=>by
    rcases fc hi with⟨t,ht,rfl⟩|⟨_,rfl⟩
    . exact T t ht
    . exact N _
   have hlen:n.1.length<=60:=h.w.len og hp;have hl:=fT n;have H:∃F:It->List Nat,∀i∈aW n,(∀k,D+1<=k->(bH (iX i) "vars" λf a=>aF k f [a] [])=some (.dict (VD g (F i))))/\(∀j,j∈F i<->(sm (eY i)).vs j=true)/\∀j∈F i,j<3:=by
    have:∀i∈aW n,∃is:List Nat,(∀k,D+1<=k->(bH (iX i) "vars" λf a=>aF k f [a] [])=some (.dict (VD g is)))/\(∀j,j∈is<->(sm (eY i)).vs j=true)/\∀j∈is,j<3:=λi hi=>by obtain⟨C,fl,f,is,I,G,J,Z,P,Q⟩:=hI i hi;refine dA is (λk U=>?_) P Q;have J:=J k U;rw[I]at J⊢;rw[bl G];exact J
    classical
    exact⟨λi=>if h:∃is:List Nat,(∀k,D+1<=k->(bH (iX i) "vars" λf a=>aF k f [a] [])=some (.dict (VD g is)))/\(∀j,j∈is<->(sm (eY i)).vs j=true)/\∀j∈is,j<3 then h.choose else[],λi hi=>by
     have:=this i hi;simp only[dif_pos this];exact this.choose_spec⟩
   refine ax H λF H=>?_;refine⟨656,_,595,wu ((aW n).map F),q2,by kernel_rfl,?_,u0 _,λj=>?_,λj B=>?_⟩
   . rw[q2];refine aw (d:=D+1) (by lia) (by decide) λk U=>?_;obtain⟨σ',e⟩:=c7 (step:=aU (aF k) (aV k) 595 0 38) (σ0:=[]) (sh:=λy=>[("x",.fz y)]) (x:=iX) (f:=λi=> .dict (VD g (F i))) (aW n) (λi hi σ bJ acc hc=>by
      refine aP (jd h.a (r:=n.2) (x:=iX i) (by rw[<-jc];exact Vy.mpr ⟨i,hi,rfl⟩)) λC fl W hC=>?_;obtain⟨C',eK,f,is,I,G,_⟩:=hI i hi;have E:=(H i hi).1 k U;rw[W]at I;(injection I with z;subst z);rw[W,bl G]at E;rw[W];rcases bJ with rfl|⟨y,rfl⟩
      . rw[AA _ _ C fl acc [] (.inl rfl),Vi hc,bl G,E];rfl
      . rw[AA _ _ C fl acc _ (.inr ⟨y,rfl⟩),Vi hc,bl G,E];rfl) (by lia)
     have M:=KU (g:=g) ((aW n).map F) (λis hi i B=>by
      refine ab (Vy.mp hi) λit u O=>?_;subst O;exact(H it u).2.2 i B) k (by lia)
     rw[Vv]at M;rw[Pm,e];show(aF k 42 [.list ((aW n).map λi=> .dict (VD g (F i)))] []).bind some=_;rw[show aF k 42 [.list ((aW n).map λi=> .dict (VD g (F i)))] []=_ from M];rfl
   . rw[i7];constructor
     . rintro⟨is,hi,B⟩;refine ab (Vy.mp hi) λi u O=>?_;subst O;exact tS u (((H i u).2.1 j).mp B)
     . intro B;refine ab (cO B) λt ht e=>?_;have u: .inl t∈aW n:=by unfold aW;exact WZ _ (Vy.mpr ⟨t,ht,rfl⟩)
       exact ag (F (.inl t)) (Vy.mpr ⟨_,u,rfl⟩) (((H _ u).2.1 j).mpr (VX.mpr ⟨t,Vm,e⟩))
   . refine ab (i7.mp B) λis hi B=>?_;refine ab (Vy.mp hi) λi u O=>?_;subst O;exact(H i u).2.2 j B
theorem Bg(B:g.Ok)(h:At g x s t):s.ph<=120->ff g (4*s.ph+20) x s:=by
 have F:∀{ts:List Tm}{r:Int}{q:Nat},Nd g ts r->nP ts+1<=q->nP ts<=120->(∀t∈ts,t.s.ph<=120->ff g (4*t.s.ph+20) t.x t.s)->ff g (4*q+19) (nX ts r) (nS ts r):=λ{ts r q} hd N u z=>by refine(mY (n:=(ts,r)) (D:=4*q+16) B hd (λt ht=>?_) (by lia) u).mono (by lia);have O:t.s.ph<=nP ts:=aR (f:=λt:Tm=>t.s.ph) ht;exact(z t ht (by lia)).mono (by lia)
 induction h with
 |var i hi hl=>
  intro _;have A:At g _ _ _:= .var i hi hl;refine⟨284,_,267,[i],rfl,by kernel_rfl,aw (d:=27) (by decide) (by decide) λk H=>?_,by simp,λj=>?_,λj I=>?_⟩
  . have:=(A.key B (p:=2) (Vt _) (by assumption)) k (by exact up H rfl);unfold dm at this⊢;rw[PI,this];rfl
  . show j∈[i]<->(j==i)=true;simp
  . rw[Vo.mp I];exact hi
 |div ts r c hn u ha hc jx iO ie sW z=>intro h1;have G:(cL ts r c).ph=(nS ts r).ph+md ts:=rfl;have h2:=i0 (r:=r) hn λt ht=>((ha t ht).sb B).ph;exact kF (F (q:=(cL ts r c).ph) ⟨u,ha⟩ (by assumption) (by lia) z) (by lia) (.inr (.inr (.inl rfl))) _ _ _ λ_=>rfl
 |mod ts r c hn u ha hc nv iO z=>intro h1;have G:(eW ts r c).ph=(nS ts r).ph+mm ts r:=rfl;have h2:=i0 (r:=r) hn λt ht=>((ha t ht).sb B).ph;have J:=ki ts r;exact kF (F (q:=(eW ts r c).ph) ⟨u,ha⟩ (by lia) (by lia) z) (by lia) (.inr (.inr (.inr rfl))) _ _ _ λ_=>rfl
 |lt ts c hn u ha h1 h2 z=>intro J;have G:(oB ts c).ph=nP ts+2:=rfl;exact kF (F (q:=(oB ts c).ph) (r:=0) ⟨u,ha⟩ (by lia) (by lia) z) (by lia) (.inl rfl) _ _ _ λ_=>rfl
theorem oh(i:g.Ok)(h:Ng g n)(u:nP n.1<=120):ff g 502 (nO n) (sm n):=
 mY (D:=500) i h (λt ht=>by
  have z:t.s.ph<=nP n.1:=aR (f:=λt:Tm=>t.s.ph) ht;exact(Bg i (h.a t ht) (by lia)).mono (by lia)) (by decide) u
end
set_option tactic.hygienic false
section
variable(call:aI)(make:aH)
noncomputable abbrev SL(xs:List AV)(ns rs us:List AV)(r:ah):ah:=("script",.fz (.list xs))::("nodes",.fz (.list ns))::("rows",.fz (.list rs))::("used",.fz (.list us))::r
noncomputable def lw(j:Nat):Stmt:=((AG 702)[j]?).getD (.Pass default)
noncomputable abbrev oL(n:Nat)(σ:ah)(st:Stmt){R:Type}(kN kC:ah->Option R)(kR:AV->ah->Option R):Option R:=bB ba (hZ call make) (jK 702) 40 n σ [st] kN kC kR
noncomputable abbrev xL(n:Nat)(σ:ah)(l:List Stmt){R:Type}(kN kC:ah->Option R)(kR:AV->ah->Option R):Option R:=bB ba (hZ call make) (jK 702) 40 n σ l kN kC kR
noncomputable def Mw{R:Type}(y:AV)(k:AV->AV->AV->Option R):Option R:=uR y λys=>(match ys with
 |[]=>none
 |a::ys=>(match ys with
  |[]=>none
  |b::ys=>(match ys with
   |[]=>none
   |c::ys=>if ys.isEmpty then k a b c else none)))
noncomputable def gq{R:Type}(rs:List AV)(k m:Int)(K:AV->Option R):Option R:=(bc rs k).bind λv=>d7 v λl=>(bc l m).bind K
noncomputable abbrev mK(rs:List AV)(k m:Int):Option AV:=gq rs k m some
theorem gp{R:Type}{rs:List AV}{k m:Int}{x:AV}{K:AV->Option R}(h:mK rs k m=some x):gq rs k m K=K x:=by refine ab (bL h) λv h1 h=>?_;refine ab (bL h) λl h2 h=>?_;refine ab (bL h) λy f h=>?_;(injection h with z;subst z);unfold gq d7;rw[h1,Vl,h2,Vl,f];rfl
noncomputable def yY{R:Type}(ns:List AV)(j:Int)(K:AV->Option R):Option R:=(bc ns j).bind λv=>(gA call make v "key").bind K
noncomputable def gh{R:Type}(ns:List AV)(j:Int)(l:List (Str×AV))(K:Bool->Option R):Option R:=yY call make ns j λx=>b8 x λs=>K (fe l s).isSome
noncomputable def No{R:Type}(ns:List AV)(j:Int)(l:List (Str×AV))(K:Bool->Option R):Option R:=yY call make ns j λx=>b8 x λs=>K (!(fe l s).isSome)
noncomputable def Uv{R:Type}(l:List (Str×AV))(iv:AV)(K:AV->Option R):Option R:=match(vA iv).i with
 |some _=>none
 |none=>b8 iv λs=>(fe l s).bind K
noncomputable abbrev SK(xs ns rs us:List AV)(k:Int)(r:ah):ah:=SL xs ns rs us (("k",.fz (.int k))::r)
noncomputable def tj(j nm:AV):Nat->ah
 |0=>[("j",.fz j)]
 |1=>[("name",.fz nm),("j",.fz j)]
 |_=>[("j",.fz j),("name",.fz nm)]
noncomputable def tl(j nm:AV):Nat->ah
 |0=>[]
 |1=>[("name",.fz nm)]
 |i+2=>tj j nm i
noncomputable def sA(d:AV)(e:EV)(j nm:AV):Nat->ah
 |0=>[]
 |i+1=>("named",.fz d)::("names",e)::tj j nm i
noncomputable abbrev sN(d:AV)(e:EV)(j nm:AV)(i:Nat):ah:=("named",.fz d)::("names",e)::tl j nm i
noncomputable abbrev wx(w:Nat->AV)(r:ah):ah:=("left",.fz (w 0))::("rest",.fz (w 1))::("values",.fz (w 2))::("i",.fz (w 3))::r
noncomputable def tx(j nm:AV)(w:Nat->AV):Nat->ah
 |0=>[("j",.fz j)]
 |1=>[("name",.fz nm),("j",.fz j)]
 |2=>[("j",.fz j),("name",.fz nm)]
 |3=>("j",.fz j)::wx w []
 |4=>("j",.fz j)::wx w [("name",.fz nm)]
 |5=>("name",.fz nm)::("j",.fz j)::wx w []
 |_=>("j",.fz j)::("name",.fz nm)::wx w []
noncomputable abbrev sX(d:AV)(e:EV)(j nm:AV)(w:Nat->AV)(i:Nat):ah:=("named",.fz d)::("names",e)::tx j nm w i
noncomputable def LT(a b c d:AV):Nat->AV
 |0=>a
 |1=>b
 |2=>c
 |_=>d
noncomputable def dI:Nat->Nat
 |0=>0
 |i+1=>i+2
noncomputable def nI:Nat->Nat
 |0=>1
 |1=>1
 |3=>3
 |_=>4
noncomputable def jI:Nat->Nat
 |0=>0
 |1=>1
 |2=>0
 |3=>1
 |_=>2
noncomputable def hI:Nat->Nat
 |0=>0
 |1=>1
 |_=>2
noncomputable def fI:Nat->Nat
 |0=>3
 |1=>5
 |2=>6
 |i=>i
noncomputable def gI:Nat->Nat
 |0=>4
 |1=>5
 |2=>6
 |3=>4
 |i=>i
theorem n7{A:Type}{f g:Nat->A}(a:mz f g 0)(b:mz f g 1)(c:mz f g 2)(d:mz f g 3)(e:mz f g 4)(h:mz f g 5)(k:∀n,mz f g (n+6)):∀i,f i=g i:=n3 a b (n5 (f:=λi=>f (i+2)) (g:=λi=>g (i+2)) c d e h k)
variable(xs ns rs us:List AV)(k j:Int)(d jv nm left:AV)(e:EV)(l l2 vd:List (Str×AV))(ys:List AV)(a:Str)(w:Nat->AV)(ii:Int)
variable{R:Type}{kN kC:ah->Option R}{kR:AV->ah->Option R}
noncomputable abbrev r3:List (List AV):=[[.int 0],[.int 1],[.int 2]]
noncomputable abbrev sR(left r:AV)(i:Nat):ah:=aQ (aQ (SK xs ns rs us k (sX (.dict l) e (.int j) nm w i)) "left" (.fz left)) "rest" (.fz r)
noncomputable abbrev sV(left r:AV)(vd:List (Str×AV))(ii:Int)(i:Nat):ah:=aQ (aQ (sR xs ns rs us k j nm e l w left r i) "values" (.od vd)) "i" (.fz (.int ii))
theorem N5:oL call make 200 [("script",.fz (.list xs))] (lw 1) kN kC kR=((fF xs).bind λl=>(oP call make .Sub l (.int 12)).bind λa=>(sB (.builtin "max") [.int 3,a]).bind λb=>(sB (.builtin "min") [.int 6,b]).bind λn=>(call 697 [.list xs,n] []).bind λy=>Mw y λa b c=>(kN [("script",.fz (.list xs)),("nodes",.fz a),("rows",.fz b),("used",.fz c)]):Option R):=by kernel_rfl
theorem SU:∀i,xL call make 198 (SK xs ns rs us k (sA d e jv nm i)) (gx 702 0) kN kC kR=((bc ns k).bind λy=>bH y "vars" λf v=>(call f [v] []).bind λz=>(aE (aU call make 702 0 40) r3 [("k",.fz (.int k)),("nodes",.fz (.list ns)),("used",.fz (.list us))] (.l [])).bind λp=>(gO p.2).bind λl2=>xL call make 196 (SK xs ns rs us k (sN z (.ol l2) jv nm (dI i))) ((gx 702 0).drop 2) kN kC kR:Option R):=by refine n5 ?_ ?_ ?_ ?_ (λn=>?_)<;>kernel_rfl
theorem N7:∀i,xL call make 196 (SK xs ns rs us k (sN (.dict l) e jv nm i)) ((gx 702 0).drop 2) kN kC kR=((bU (ay call make 702 1 195) ["name"] (l.map λy=>[.str y.1]) (SK xs ns rs us k (sN (.dict l) e jv nm i))).bind (f6 (λσ=>xL call make 195 σ ((gx 702 0).drop 3) kN kC kR) kC kR):Option R):=by refine n5 ?_ ?_ ?_ ?_ (λn=>?_)<;>kernel_rfl
theorem N6:∀i,xL call make 195 (SK xs ns rs us k (sN (.dict l) e jv nm i)) ((gx 702 0).drop 3) kN kC kR=((bU (ay call make 702 2 194) ["j"] r3 (SK xs ns rs us k (sN (.dict l) e jv nm i))).bind (f6 kN kC kR):Option R):=by refine n5 ?_ ?_ ?_ ?_ (λn=>?_)<;>kernel_rfl
theorem NX:∀i,xL call make 195 (aX (SK xs ns rs us k (sN (.dict l) (.ol ys) jv nm i)) ["name"] [.str a]) (gx 702 1) kN kC kR=((cM call make .NotIn (.str a) (.list ys)).bind λq=>if q=true then kR (.bool false) (SK xs ns rs us k (sN (.dict l) (.fz (.list ys)) jv (.str a) (nI i)))else kN (SK xs ns rs us k (sN (.dict l) (.fz (.list ys)) jv (.str a) (nI i))):Option R):=by refine n5 ?_ ?_ ?_ ?_ (λn=>?_)<;>kernel_rfl
theorem NY:∀i,xL call make 195 (aX (SK xs ns rs us k (sN (.dict l) (.fz (.list ys)) jv nm i)) ["name"] [.str a]) (gx 702 1) kN kC kR=((cM call make .NotIn (.str a) (.list ys)).bind λq=>if q=true then kR (.bool false) (SK xs ns rs us k (sN (.dict l) (.fz (.list ys)) jv (.str a) (nI i)))else kN (SK xs ns rs us k (sN (.dict l) (.fz (.list ys)) jv (.str a) (nI i))):Option R):=by refine n5 ?_ ?_ ?_ ?_ (λn=>?_)<;>kernel_rfl
theorem NW:∀i,xL call make 194 (aX (SK xs ns rs us k (sN (.dict l) e jv nm i)) ["j"] [.int j]) (gx 702 2) kN kC kR=(gq rs k (1+j) λy=>gq rs k 0 λz=>(cM call make .NotEq y z).bind λq=>if q=true then No call make ns j l λq=>if q=true then kR (.bool false) (SK xs ns rs us k (sN (.dict l) e (.int j) nm (jI i+2)))else xL call make 193 (SK xs ns rs us k (sN (.dict l) e (.int j) nm (jI i+2))) ((gx 702 2).drop 1) kN kC kR else xL call make 193 (SK xs ns rs us k (sN (.dict l) e (.int j) nm (jI i+2))) ((gx 702 2).drop 1) kN kC kR:Option R):=by refine n5 ?_ ?_ ?_ ?_ (λn=>?_)<;>kernel_rfl
theorem NV:∀i,xL call make 193 (SK xs ns rs us k (sN (.dict l) e (.int j) nm (i+2))) ((gx 702 2).drop 1) kN kC kR=((bc us k).bind λy=>(cM call make .In (.int j) y).bind λq=>if q=true then gh call make ns j l λq=>if q=true then yY call make ns j λkx=>Uv l kx λx=>(bc ns j).bind λy=>(cM call make .NotEq x y).bind λq=>if q=true then kR (.bool false) (SK xs ns rs us k (sN (.dict l) e (.int j) nm (i+2)))else kN (SK xs ns rs us k (sN (.dict l) e (.int j) nm (i+2)))else kN (SK xs ns rs us k (sN (.dict l) e (.int j) nm (i+2)))else kN (SK xs ns rs us k (sN (.dict l) e (.int j) nm (i+2))):Option R):=by refine n3 ?_ ?_ (λn=>?_)<;>kernel_rfl
theorem Hq(ys:List AV)(r:ah)(hr:r=[]\/∃f,r=[(("j":Str),EV.fz f)]):aU call make 702 0 40 (("k",.fz (.int k))::("nodes",.fz (.list ns))::("used",.fz (.list us))::r) [.int j] (.l ys)=((bc us k).bind λy=>(cM call make .In (.int j) y).bind λq=>if q=true then(if ys.length<=1000 then(bc ns j).bind λy=>(gA call make y "key").bind λz=>some ([("k",.fz (.int k)),("nodes",.fz (.list ns)),("used",.fz (.list us)),("j",.fz (.int j))],.l (ys++[z]))else none)else some ([("k",.fz (.int k)),("nodes",.fz (.list ns)),("used",.fz (.list us)),("j",.fz (.int j))],.l ys):Option (ah×Acc)):=by rcases hr with rfl|⟨f,rfl⟩<;>kernel_rfl
theorem N4:oL call make 199 (SL xs ns rs us []) (lw 2) kN kC kR=((fF ns).bind λv=>d8 v λn=>(yd n).bind λrows=>(bU (ay call make 702 0 198) ["k"] rows (SL xs ns rs us [])).bind λo=>f6 kN kC kR o:Option R):=by kernel_rfl
theorem Jm:∀i,xL call make 198 (SK xs ns rs us k (sA d e jv nm (i+1))) [lw 3,lw 4,lw 5] kN kC kR=((bc ns (-1)).bind λy=>bH y "vars" λf v=>(call f [v] []).bind λz=>(bU (ay call make 702 3 196) ["j"] r3 (SK xs ns rs us k (sX z e jv nm w (hI i)))).bind (f6 (λσ=>xL call make 196 σ [lw 5] kN kC kR) kC kR):Option R):=by refine n3 ?_ ?_ (λn=>?_)<;>kernel_rfl
theorem N3:∀i,xL call make 196 (SK xs ns rs us k (sX d e jv nm w i)) [lw 5] kN kC kR=(kR (.bool true) (SK xs ns rs us k (sX d e jv nm w i)):Option R):=by refine n7 ?_ ?_ ?_ ?_ ?_ ?_ (λn=>?_)<;>kernel_rfl
theorem QR:∀i,xL call make 196 (aX (SK xs ns rs us k (sX (.dict l) e jv nm w i)) ["j"] [.int j]) (gx 702 3) kN kC kR=((bc us j).bind λy=>(cM call make .NotIn (.int j) y).bind λq=>if q=true then kC (SK xs ns rs us k (sX (.dict l) e (.int j) nm w i))else(bc ns (-1)).bind λy=>bH y "substitute" λf v=>(bc ns j).bind λz=>(gA call make z "key").bind λkx=>gq rs j (1+j) λy=>(make 338 [y]).bind λfl=>b8 kx λkx=>(call f [v,.dict [(kx,.obj 338 fl)]] []).bind λu=>xL call make 194 (aQ (SK xs ns rs us k (sX (.dict l) e (.int j) nm w i)) "left" (.fz u)) ((gx 702 3).drop 2) kN kC kR:Option R):=by refine n7 ?_ ?_ ?_ ?_ ?_ ?_ (λn=>?_)<;>kernel_rfl
theorem NU(C:Addr)(fl:List (Str×AV)):∀i,xL call make 194 (aQ (SK xs ns rs us k (sX (.dict l) e (.int j) nm w i)) "left" (.fz (.obj C fl))) ((gx 702 3).drop 2) kN kC kR=(bH (.obj C fl) "vars" λf v=>(call f [v] []).bind λz=>xL call make 193 (sR xs ns rs us k j nm e l w (.obj C fl) z i) ((gx 702 3).drop 3) kN kC kR:Option R):=by refine n7 ?_ ?_ ?_ ?_ ?_ ?_ (λn=>?_)<;>kernel_rfl
theorem SP:∀i,xL call make 193 (sR xs ns rs us k j nm e l w left (.dict l2) i) ((gx 702 3).drop 3) kN kC kR=(gh call make ns j l2 λq=>if q=true then kR (.bool false) (sR xs ns rs us k j nm e l w left (.dict l2) i)else(bU (ay call make 702 4 190) ["i"] r3 (aQ (sR xs ns rs us k j nm e l w left (.dict l2) i) "values" (.od []))).bind (f6 (λσ=>xL call make 190 σ ((gx 702 3).drop 6) kN kC kR) kC kR):Option R):=by refine n7 ?_ ?_ ?_ ?_ ?_ ?_ (λn=>?_)<;>kernel_rfl
theorem NP:∀i,xL call make 190 (sV xs ns rs us k j nm e l w left (.dict l2) vd ii i) (gx 702 4) kN kC kR=(if(ii !=j)=true then(bc us ii).bind λy=>(cM call make .In (.int ii) y).bind λq=>if q=true then gq rs ii (1+j) λx=>(bc ns ii).bind λy=>(gA call make y "key").bind λkx=>b8 kx λkx=>if vd.length<=1000 then kN (sV xs ns rs us k j nm e l w left (.dict l2) (bI vd kx x) ii i)else none else kN (sV xs ns rs us k j nm e l w left (.dict l2) vd ii i)else kN (sV xs ns rs us k j nm e l w left (.dict l2) vd ii i):Option R):=by refine n7 ?_ ?_ ?_ ?_ ?_ ?_ (λn=>?_)<;>kernel_rfl
theorem NR:∀i,xL call make 190 (sV xs ns rs us k j nm e l w left (.dict l2) vd ii i) ((gx 702 3).drop 6) kN kC kR=((bU (ay call make 702 5 189) ["name"] (l2.map λy=>[.str y.1]) (sV xs ns rs us k j nm e l w left (.dict l2) vd ii i)).bind (f6 (λσ=>xL call make 189 σ ((gx 702 3).drop 7) kN kC kR) kC kR):Option R):=by refine n7 ?_ ?_ ?_ ?_ ?_ ?_ (λn=>?_)<;>kernel_rfl
theorem NO:∀i,xL call make 189 (aQ (sV xs ns rs us k j nm e l w left (.dict l2) vd ii i) "name" (.fz (.str a))) (gx 702 5) kN kC kR=(if(!(fe l a).isSome)=true then kR (.bool false) (aQ (sV xs ns rs us k j nm e l w left (.dict l2) vd ii i) "name" (.fz (.str a)))else kN (aQ (sV xs ns rs us k j nm e l w left (.dict l2) vd ii i) "name" (.fz (.str a))):Option R):=by refine n7 ?_ ?_ ?_ ?_ ?_ ?_ (λn=>?_)<;>kernel_rfl
theorem Jl:∀i,xL call make 189 (sV xs ns rs us k j nm e l w left (.dict l2) vd ii i) ((gx 702 3).drop 7) kN kC kR=((call 671 [left,.dict vd] []).bind λy=>gq rs (-1) (1+j) λz=>(cM call make .NotEq y z).bind λq=>if q=true then kR (.bool false) (SK xs ns rs us k (sX (.dict l) e (.int j) nm (LT left (.dict l2) (.dict vd) (.int ii)) (fI i)))else kN (SK xs ns rs us k (sX (.dict l) e (.int j) nm (LT left (.dict l2) (.dict vd) (.int ii)) (fI i))):Option R):=by refine n7 ?_ ?_ ?_ ?_ ?_ ?_ (λn=>?_)<;>kernel_rfl
theorem Jk:∀i,xL call make 189 (aQ (sV xs ns rs us k j nm e l w left (.dict l2) vd ii i) "name" (.fz (.str a))) ((gx 702 3).drop 7) kN kC kR=((call 671 [left,.dict vd] []).bind λy=>gq rs (-1) (1+j) λz=>(cM call make .NotEq y z).bind λq=>if q=true then kR (.bool false) (SK xs ns rs us k (sX (.dict l) e (.int j) (.str a) (LT left (.dict l2) (.dict vd) (.int ii)) (gI i)))else kN (SK xs ns rs us k (sX (.dict l) e (.int j) (.str a) (LT left (.dict l2) (.dict vd) (.int ii)) (gI i))):Option R):=by refine n7 ?_ ?_ ?_ ?_ ?_ ?_ (λn=>?_)<;>kernel_rfl
theorem SH:wA.tail=([lw 1,lw 2,lw 3,lw 4,lw 5]:List Stmt):=by kernel_rfl
end
set_option tactic.hygienic true
section
variable{call:aI}{make:aH}{k:Nat}
noncomputable abbrev Nx(call:aI)(make:aH)(f N:Nat)(σ:ah)(st:Stmt)(σ':ah):Prop:=RY ba (hZ call make) (jK f) 40 N σ st σ'
theorem RN{f N:Nat}{σ σ':ah}{st:Stmt}{rest:List Stmt}{R:Type}{kN kC:ah->Option R}{kR:AV->ah->Option R}(h:Nx call make f (N+2) σ st σ'):bB ba (hZ call make) (jK f) 40 (N+2) σ (st::rest) kN kC kR=bB ba (hZ call make) (jK f) 40 (N+1) σ' rest kN kC kR:=eE h
noncomputable abbrev iL(l:List Int):AV:= .list (l.map .int)
theorem fE{l:List Int}(h:l.length<=18):fF (l.map .int)=some (.int l.length):=by rw[gU (by rw[Vp];lia),Vp]
theorem m9{xs:List AV}{i:Nat}(hi:i<xs.length)(hl:xs.length<=1000):bc xs (i:Int)=xs[i]? :=by unfold bc;rw[Vk (by simp;lia),Vi (by lia)];rfl
theorem Ey{l:List Int}(hl:l.length<=18){j:Int}(h0:0<=j)(h1:j<=100):∃v:Int,Ev 3 685 [iL l,.int j] [] (.int v):=by
 have u:j.natAbs<=2^1800:=Vg (show j.natAbs<=100 by lia) (by decide);have z:∀call make,oP call make .Mult (.int 7) (.int j)=some (.int (7*j)):=λcall make=>im (by decide) (bR u);have f:∀i:Nat,i<l.length->∃v:Int,bc (l.map .int) (i:Int)=some (.int v):=λi hi=>by rw[m9 (by rw[Vp];exact hi) (by rw[Vp];lia),List.getElem?_map,Xd hi];exact⟨_,rfl⟩
 by_cases q:j<l.length
 . refine ax (f j.toNat (by(clear u;lia))) λv hv=>?_;rw[Int.toNat_of_nonneg h0]at hv;refine⟨v,aw (by decide) (by decide) λk _=>?_⟩;rw[GP];refine bE (fE hl) ?_;show(if decide (j<l.length)=true then _ else _)=_;rw[Vi (by simpa using q),hv];rfl
 . by_cases q2:l=[]
   . refine⟨7*j+3,aw (by lia) (by decide) λk _=>?_⟩;rw[GP];refine bE (fE hl) ?_;show(if decide (j<l.length)=true then _ else _)=_;rw[Vk (by simpa using q),Er,q2,show ib (.list ([].map AV.int))=some false from rfl,Vl,Vi (show(!false)=true from rfl),z];rfl
   . have B:0<l.length:=List.length_pos_iff.mpr q2;refine ax (f (j%l.length).toNat (by
      have:=V5 j (show(0:Int)<l.length by lia);lia)) λv hv=>?_
     rw[Int.toNat_of_nonneg (Wc j (by lia))]at hv;refine⟨v+7*j,aw (by lia) (by decide) λk _=>?_⟩;have ht:ib (iL l)=some true:=by
      show(if(l.map AV.int).length<=1000 then some (!(l.map AV.int).isEmpty)else none)=_;rw[Vi (by rw[Vp];lia)]
      induction l using List.casesOn with
      |nil=>exact Vu rfl q2
      |cons=>rfl
     rw[GP];refine bE (fE hl) ?_;show(if decide (j<l.length)=true then _ else _)=_;refine(Vk (by simpa using q)).trans ?_;rw[Er];refine bE ht ?_;refine(Vk (by decide)).trans ?_;rw[Kt];refine bE (fE hl) ?_;refine bE (dt (by lia)) ?_;show((bc (l.map .int) _).bind _)=_;refine bE hv ?_;rw[z];rfl
noncomputable def du(n:Int):Int:=if(if n<0 then-n else n)<1000000000000000000 then n else n.fmod 1000000000000000003
theorem Ex(n:Int):Ev 3 692 [.int n] [] (.int (du n)):=aw (by decide) (by decide) λk _=>by
 rw[Pe];unfold du;by_cases q:(if n<0 then-n else n)<1000000000000000000
 . rw[Vi (VJ q),Vi q]
 . rw[Vk (by simpa using q),Vk q]
theorem pA(n:Int):(du n).natAbs<=1000000000000000002:=by
 unfold du;by_cases q:(if n<0 then-n else n)<1000000000000000000
 . rw[Vi q];by_cases z:n<0
   . rw[Vi z]at q;omega
   . rw[Vk z]at q;lia
 . rw[Vk q];have h1:=Int.fmod_nonneg_of_pos n (show(0:Int)<1000000000000000003 by decide);lia
theorem vJ(a:Int):sB (.builtin "abs") [.int a]=some (.int a.natAbs):=by show some (AV.int (if a<0 then-a else a))=_;rw[QY]
structure bt where
 (sp lo fi se:Nat->Int)
 DL:∀i,0<=sp i/\sp i<=1000000000000000002
 Gf:∀i,0<=lo i/\lo i<=1000000000000000002
 Rz:∀i,0<=fi i/\fi i<=sp i
 QC:∀i,0<=se i/\se i<=sp i
noncomputable def bt.gv(V:bt):Gv:=⟨V.lo,λi=>V.lo i+V.sp i⟩
noncomputable def bt.ρ(V:bt)(c i:Nat):Int:=if c=i+1 then V.lo i+V.se i else V.lo i+V.fi i
theorem bt.ok(V:bt):V.gv.Ok:=⟨λi=>(V.Gf i).1,λi=>by have:=(V.DL i).1;show V.lo i<=V.lo i+V.sp i;lia,λi=>by
 have:=(V.DL i).2;have:=(V.Gf i).2;show V.lo i+V.sp i<=(XX:Nat);have:XX=2^62:=rfl;lia⟩
theorem bt.In(V:bt)(c:Nat):V.gv.In (V.ρ c):=λi=>by
 have:=V.Rz i;have:=V.QC i;have e:V.ρ c i=V.lo i+V.se i\/V.ρ c i=V.lo i+V.fi i:=by
  unfold bt.ρ;split
  . exact .inl rfl
  . exact .inr rfl
 show V.lo i<=V.ρ c i/\V.ρ c i<=V.lo i+V.sp i;refine Or.elim e (λe=>?_) λe=>?_<;>rw [e]<;>lia
noncomputable def bt.nd(V:bt)(i:Nat):aY:=if V.sp i=0 then([],V.lo i)else pM (dm V.gv i) (gr V.gv i) (aN V.gv i)
noncomputable def bt.u(V:bt)(i:Nat):List Int:=if V.sp i=0 then[]else[(i:Int)]
theorem bt.I4(V:bt){i:Nat}(hi:i<3):Ng V.gv (V.nd i):=by
 unfold bt.nd;split
 . exact cV (by
    have:=V.Gf i;lia)
 . rename_i q;have:=V.DL i;exact j6 (.var i hi (show V.lo i<V.lo i+V.sp i by lia)) (show 1<=2^800 by decide)
theorem bt.tL(V:bt)(i:Nat){ρ:Nat->Int}(f:V.gv.In ρ):(sm (V.nd i)).val ρ=ρ i:=by
 unfold bt.nd;split
 . rename_i q;rw[aD];have:=f i;have h1:V.lo i<=ρ i:=this.1;have h2:ρ i<=V.lo i+V.sp i:=this.2;lia
 . rw[(gM ..).val];rfl
noncomputable abbrev gt(ρ:Nat->Nat->Int)(m:aY):AV:= .list ((List.range 4).map λc=> .int ((sm m).val (ρ c)))
theorem bt.KV(V:bt){i:Nat}(hi:i<3):Ev 6 347 [.str (B7 i),.int (V.lo i),.int (V.lo i+V.sp i)] [] (nO (V.nd i)):=aw (d:=5) (by decide) (by decide) λk f=>by
 have:=V.DL i;have:=V.Gf i;rw[PD,Vi (VJ (V.Gf i).1),Vi (VJ (by lia))];unfold bt.nd;by_cases q:V.sp i=0
 . rw[Vi (by simp;lia),Vi q,e9 _ k (by exact VT f),cm];rfl
 . rw[Vk (by simp;lia),Vk q,(mw (by decide) λk _=>O9 .. :Mk 4 284 [.str (B7 i),.int (V.lo i),.int (V.lo i+V.sp i)] (xv (B7 i) (V.lo i) (V.lo i+V.sp i))) k (by lia)];rfl
theorem KO:Ev 3 678 [] [] (.list [.str "a",.str "b",.str "c"]):=aw (by decide) (by decide) λk _=>Pf ..
noncomputable def wV(V:bt)(i:Nat):Nat->AV
 |0=> .int (V.sp i)
 |1=> .int (V.lo i)
 |2=> .int (V.fi i)
 |3=> .int (V.se i)
 |_=>gt V.ρ (V.nd i)
theorem oA{call:aI}{make:aH}(x y:Int):oP call make .Add (.int x) (.int y)=some (.int (x+y)):=oI x y
theorem MB{m:Option AV}{x y:Int}(h:m=some (.int x))(e:y=x):m=some (.int y):=h.trans (Vx (λz=>some (AV.int z)) e.symm)
theorem Io(V:bt)(z:Int->Int){xs ns rs us:List AV}{n:Int}{i:Nat}(hi:i<3)(F:10<=k)(G:∀j:Int,0<=j->j<=100->aF k 685 [.list xs,.int j] []=some (.int (z j)))
 (J:V.sp i=(du (z i)).natAbs)(N:V.lo i=(du (z (3+i))).natAbs)(O:V.fi i=z (6+i)%(V.sp i+1))(P:V.se i=z (9+i)%(V.sp i+1))(hn:ns.length<=100)(hr:rs.length<=100)(H:us.length<=100)(o:Nat->AV)(j:Nat):
 ay (aF k) (aV k) 697 0 196 (s0 xs n i ns rs us (r0 o j))=some (.next (s0 xs n i (ns++[nO (V.nd i)]) (rs++[gt V.ρ (V.nd i)]) (us++[iL (V.u i)]) (r0 (wV V i) 1))):=by
 have I:=λa=>Ex a k (by exact up F rfl);have Y:=V.DL i;have Q:bc [.str "a",.str "b",.str "c"] (i:Int)=some (.str (B7 i)):=by apply Ge hi<;>rfl
 have U:BP (i:Int) (V.lo i) (V.fi i) (V.se i)=(List.range 4).map λc=> .int (if c=i+1 then V.lo i+V.se i else V.lo i+V.fi i):=by apply Ge hi<;>rfl
 have W:AV.list (BP (i:Int) (V.lo i) (V.fi i) (V.se i))=gt V.ρ (V.nd i):=by rw[U];refine Vx AV.list (V0 λc _=>?_);rw[V.tL i (V.In c)];rfl
 have md:∀{d t:Int},t=z (d+i)%(V.sp i+1)->oP (aF k) (aV k) .Mod (.int (z (d+i))) (.int (V.sp i+1))=some (.int t):=λh=>MB (dt (by lia)) h;have X:0<=1+(i:Int)/\1+(i:Int)<(List.replicate 4 (AV.int (V.lo i+V.fi i))).length/\(List.replicate 4 (AV.int (V.lo i+V.fi i))).length<=1000:=by rw[List.length_replicate];lia
 have f:∀{l:List AV},l.length<=100->l.length<=1000:=λh=>Vg h (by decide);have B:∀d:Nat,d<=9->aF k 685 [.list xs,.int (d+i)] []=some (.int (z (d+i))):=λd hd=>G _ (by lia) (by lia);unfold ay;refine(Sj ..).trans (bE (G i (by lia) (by lia)) (bE (I _) (bE (MB (vJ _) J) (bE (oA _ _) (bE (B 3 (by decide)) (bE (I _) (bE (MB (vJ _) N) (bE (oA _ _) (bE (B 6 (by decide)) (bE (oA _ _) (bE (md O) ?_)))))))))));refine(Sg ..).trans (bE (oA _ _) (bE (B 9 (by decide)) (bE (oA _ _) (bE (md P) (bE (KO k (by lia)) (bE (a:=[.str "a",.str "b",.str "c"]) rfl (bE Q (bE (oA _ _) (bE (V.KV hi k (by exact up F rfl)) ((Vi (f hn)).trans ?_))))))))));refine(Sh ..).trans ((Vi X).trans ((Vi (f hr)).trans ?_));unfold GO;rw[W];unfold bt.u;by_cases q:V.sp i=0
 . rw[Vk (by simp;lia),Vi (f H),Vi q];rfl
 . rw[Vi (by simp;lia),Vi (f H),Vk q];rfl
end
set_option tactic.hygienic false
section
variable{call:aI}{make:aH}{k:Nat}
noncomputable def pT(i:Nat):Nat:=[2,2,2,4,7,11,21,35,63].getD i 0
noncomputable def qT(i:Nat):Nat:=[2,2,2,6,10,20,34,62,104].getD i 0
noncomputable def aT(i:Nat):Nat:=2^(124*(i-2))
noncomputable def vT(i:Nat):Nat:=2^(62*i+62)
theorem Ix:((List.range 9).all λL=>(List.range L).all λa=>decide (L<3)||(decide (pT a<=pT L)&&(decide (2*pT a<=qT L)&&(decide (qT a+1<=pT L)&&(decide (pT a+2<=pT L)&&(decide (qT a<=62)&&(decide (pT a<=35)&&(decide (2^124*aT a<=aT L)&&(decide (2^62*vT a<=vT L)&&(decide (aT L<=2^800)&&(decide (vT L<=2^600)&&decide (pT L<=qT L))))))))))))=true:=by decide+kernel
theorem Iw:((List.range 9).all λL=>(List.range L).all λa=>(List.range L).all λb=>decide (L<3)||(decide (a=b)||(decide (pT a+pT b<=pT L)&&(decide (qT a+qT b<=qT L)&&decide (qT a+2*pT b<=qT L)))))=true:=by decide+kernel
structure T1(L a:Nat):Prop where
 p:pT a<=pT L
 q:2*pT a<=qT L
 r:qT a+1<=pT L
 s:pT a+2<=pT L
 t:qT a<=62
 u:pT a<=35
 am:2^124*aT a<=aT L
 vm:2^62*vT a<=vT L
 al:aT L<=2^800
 vl:vT L<=2^600
 pq:pT L<=qT L
theorem we{L a:Nat}(f:L<9)(i:3<=L)(u:a<L):T1 L a:=by have:=VB.mp (VB.mp Ix L (Wv.mpr f)) a (Wv.mpr u);simp only[Xg,V6,decide_eq_true_eq]at this;obtain⟨a1,z,B,F,G,H,I,J,N,O,P⟩:=this.resolve_left (by exact Nat.not_lt.mpr i);exact⟨a1,z,B,F,G,H,I,J,N,O,P⟩
theorem MD{L a b:Nat}(f:L<9)(i:3<=L)(u:a<L)(hb:b<L)(z:a≠b):pT a+pT b<=pT L/\qT a+qT b<=qT L/\qT a+2*pT b<=qT L:=by have:=VB.mp (VB.mp (VB.mp Iw L (Wv.mpr f)) a (Wv.mpr u)) b (Wv.mpr hb);simp only[Xg,V6,decide_eq_true_eq]at this;exact(this.resolve_left (by exact Nat.not_lt.mpr i)).resolve_left z
noncomputable abbrev TN:=aY×List Int
structure NI(V:bt)(i:Nat)(t:TN):Prop where
 nd:Ng V.gv t.1
 ph:(sm t.1).ph<=qT i
 p:nP t.1.1<=pT i
 am:(sm t.1).am<=aT i
 val:∀ρ,V.gv.In ρ->((sm t.1).val ρ).natAbs<=vT i
 vs:∀j,(sm t.1).vs j=true->(j:Int)∈t.2
 us:∀z∈t.2,∃j:Nat,j<3/\z=j/\V.sp j≠0
 len:t.2.length<=2^i
theorem Fv{ts:List Tm}{w:Sem->Nat}:∀{L:List Tm},Nn L->(∀u∈L,∃v∈ts,v.t=u.t/\v.s=u.s)->aq (L.map λt=>w t.s)<=aq (ts.map λt=>w t.s):=λ{L}=>by
 induction L generalizing ts with
 |nil=>intro _ _;exact Vq _
 |cons u L ih=>
  intro hn h;refine af (Xh.mp hn) λn1 n2=>?_;refine bV (h u Vm) λv hv F G=>?_;refine cq (List.append_of_mem hv) λa b H=>?_;subst H;have:=ih (ts:=a++b) n2 λf i=>by
   refine bV (h f (Vw _ i)) λz I B J=>?_;have N:z≠v:=λe=>n1 (by
    show u.t∈L.map (·.t);rw[<-F,<-e,B];exact Vy.mpr ⟨f,i,rfl⟩)
   refine dA z ?_ B J;refine Or.elim (Wl.mp I) (λh=>?_) λh=>?_
   . exact WZ _ h
   . refine Or.elim (VN.mp h) (λh=>?_) λh=>?_
     . exact Vu h N
     . exact List.mem_append_right _ h
  rw[Vn,au,VM,bN,Vn,au];rw[VM,bN]at this;rw[G];lia
theorem IP(ts:List Tm)(r:Int):(nS ts r).ph<=2*nP ts:=by rw[<-cF];exact bM λt _=>VC _ (mX _)
theorem Fu{g:Gv}{n m:aY}(h:Ng g n)(z:m=n\/∃j,m=eV j n):nP (cu [n,m]).1<=nP n.1:=by
 have i:∀t∈[n,m].flatMap (·.1),∃v∈n.1,v.t=t.t/\v.x=t.x/\v.s=t.s:=λt ht=>by
  refine ab (Wz.mp ht) λJ hn h1=>?_;rcases VN.mp hn with rfl|hn
  . exact wR t h1 rfl rfl rfl
  . rw[Vo.mp hn]at h1;rcases z with rfl|⟨j,rfl⟩
    . exact wR t h1 rfl rfl rfl
    . unfold eV at h1;split at h1
      . cases h1
      . refine ab (Vy.mp h1) λu f B=>?_;rw[<-B];exact wR u f rfl rfl rfl
 have M:=DW (uA (g:=g) λt ht=>by
  refine CZ (i t ht) λv hv a b c=>?_;rw[<-a,<-b,<-c];exact h.a v hv)
 exact Fv (w:=λs=>s.ph) M.nn λu f=>by obtain⟨_,v,hv,a,_,c⟩:=M.mem u f;refine CZ (i v hv) λF G H _ I=>?_;exact dA F G (H.trans a) (I.trans c)
noncomputable abbrev iE(ms:List TN):List AV:=ms.map λt=>nO t.1
noncomputable abbrev mD(V:bt)(ms:List TN):List AV:=ms.map λt=>gt V.ρ t.1
noncomputable abbrev kG(ms:List TN):List AV:=ms.map λt=>iL t.2
noncomputable abbrev f5(f:Nat->Int):List AV:=(List.range 4).map λc=> .int (f c)
theorem MQ{V:bt}{m:aY}{f:Nat->Int}(h:∀ρ,V.gv.In ρ->True)(hf:∀c,(sm m).val (V.ρ c)=f c):AV.list (f5 f)=gt V.ρ m:=Vx AV.list (V0 λc _=>Vx AV.int (hf c).symm)
theorem mf{i:Nat}{u:ah}{sh:AV->ah}{f F:Nat->Int}(H:∀c σ,(σ=u\/∃y,σ=sh y)->∀acc:List AV,acc.length<=1000->aU call make 697 i 40 σ [.int (f c)] (.l acc)=some (sh (.int (f c)),.l (acc++[.int (F c)]))){R:Type}{K:List AV->Option R}:cp call make i (bf (f5 f)) u K=K (f5 F):=by refine ax (c7 (step:=aU call make 697 i 40) (σ0:=u) (sh:=sh) (x:=λc=>AV.int (f c)) (f:=λc=>AV.int (F c)) (List.range 4) (λc _ σ z acc B=>H c σ z acc B) (by decide)) λσ' e=>?_;unfold cp;rw[e];rfl
theorem sq{kd:Int}{f h F:Nat->Int}(z:∀c,(if kd=0 then f c+h c else f c-h c)=F c){R:Type}{K:List AV->Option R}:cp call make 0 (qR (f5 f) (f5 h)) [("kind",.fz (.int kd))] K=K (f5 F):=by
 show((aE (aU call make 697 0 40) ((List.range 4).map λc=>[.int (f c),.int (h c)]) _ _).bind _)=_;obtain⟨σ',_,e⟩:=eP (step:=aU call make 697 0 40) (I:=λσ=>∃r:ah,(r=[]\/∃B G,r=[(("x":Str),EV.fz B),(("y":Str),EV.fz G)])/\σ=(("kind":Str),EV.fz (.int kd))::r) (x:=λc=>[AV.int (f c),.int (h c)]) (f:=λc=>[AV.int (F c)]) (List.range 4) [] [("kind",.fz (.int kd))] ⟨[],.inl rfl,rfl⟩ (λc _ σ i acc u=>by
  refine ab i λr hr H=>?_;clear i;rw[H];simp only[VP,Wb]at u;refine ag ((("kind":Str),EV.fz (.int kd))::[(("x":Str),EV.fz (.int (f c))),(("y":Str),EV.fz (.int (h c)))]:ah) ⟨_,.inr ⟨_,_,rfl⟩,rfl⟩ ((Hr call make kd (.int (f c)) (.int (h c)) acc r hr).trans ?_);rw[Vi (by exact VT u)];show(if(kd==0)=true then _ else _)=_;rw[<-z c];by_cases q:kd=0
  . rw[Vi (by simpa using q),Vi q];rfl
  . rw[Vk (by simpa using q),Vk q];rfl) (by rw[Pa,Vp];decide)
 rw[e];rfl
end
section
variable{k L a b:Nat}{V:bt}{t s:TN}
inductive A9(V:bt)(L:Nat)(us:List Int)(f:(Nat->Int)->Int)(K:aI->aH->Option AV):Prop
 |mk (m:aY) (e:∀k,600<=k->K (aF k) (aV k)=some (nO m)) (n:NI V L (m,us)) (v:∀ρ,V.gv.In ρ->(sm m).val ρ=f ρ)
theorem lF{m:aY}{v:(Nat->Int)->Int}{ph p am:Nat}{vs:Nat->Prop}(R:RS V.gv m v ph p am vs)(h1:ph<=qT L)(h2:p<=pT L)(i:am<=aT L)(u:∀ρ,V.gv.In ρ->(v ρ).natAbs<=vT L){us:List Int}(B:∀j,vs j->(j:Int)∈us)(F:∀z∈us,∃j:Nat,j<3/\z=j/\V.sp j≠0)(G:us.length<=2^L):NI V L (m,us):=
 ⟨R.nd,Vg R.ph h1,Vg R.p h2,Vg R.am i,λρ f=>by rw[R.val ρ f];exact u ρ f,λj H=>B j (R.vs j H),F,G⟩
theorem Sw{a L:Nat}(h:a<L):2^a<=2^L:=VH (by lia) (by lia)
theorem QG{a b L:Nat}(h:a<L)(h':b<L):2^a+2^b<=2^L:=by
 have h1:2^a<=2^(L-1):=VH (by lia) (by lia);have h2:2^b<=2^(L-1):=VH (by lia) (by lia);have:2^L=2^(L-1)*2:=by rw[<-Nat.pow_succ];congr 1;lia
 lia
theorem Na:(2:Nat)^600<=2^870:=VH (by lia) (by lia)
theorem EO(h:NI V a t)(h':NI V b s):∀z∈t.2++s.2,∃j:Nat,j<3/\z=j/\V.sp j≠0:=λz f=>(Wl.mp f).elim (h.us z) (h'.us z)
theorem Qs(n:Nat):2*vT n<=2^62*vT n:=VC _ (by decide)
theorem Vf(n:Nat):2*aT n<=2^124*aT n:=VC _ (by decide)
theorem Rs:XX=2^62:=rfl
structure NB(V:bt)(L:Nat)(t:TN):Prop where
 yh:nP t.1.1<=35
 Ry:(sm t.1).ph<=62
 p2:nP t.1.1+2<=pT L
 h1:(sm t.1).ph+1<=pT L
 pq:pT L<=qT L
 al:aT L<=2^800
 vl:vT L<=2^870
 Ij:2*2^62<=vT L
 am:∀q,q<=2^124->q*(sm t.1).am<=aT L
 val:∀ρ,V.gv.In ρ->∀q,q<=2^62->q*((sm t.1).val ρ).natAbs<=vT L
 len:t.2.length<=2^L
theorem xf(z:L<9)(B:3<=L)(i:a<L)(h:NI V a t):NB V L t:=
 have T:=we z B i
 ⟨Vg h.p T.u,Vg h.ph T.t,Vg (Wh h.p 2) T.s,Vg (Wh h.ph 1) T.r,T.pq,T.al,Vg T.vl Na,Vg (VF 2 (VH (by decide) (WX 62 _))) (Vg (Qs a) T.vm),
  λq f=>Vg (Wq f h.am) T.am,λρ F q f=>Vg (Wq f (h.val ρ F)) T.vm,Vg h.len (Sw i)⟩
theorem NB.HL(B:NB V L t):1*(sm t.1).am<=aT L:=B.am 1 (by decide)
theorem NB.P7(B:NB V L t):(sm t.1).am<=aT L:=by have:=B.HL;rwa [Nat.one_mul]at this
theorem NB.v1(B:NB V L t)(ρ)(f:V.gv.In ρ):((sm t.1).val ρ).natAbs<=vT L:=by have:=B.val ρ f 1 (by decide);rwa [Nat.one_mul]at this
theorem NB.pL(B:NB V L t):nP t.1.1<=pT L:=Vg (Wg ..) B.p2
theorem NB.hL(B:NB V L t):(sm t.1).ph<=pT L:=Vg (Wg ..) B.h1
theorem NB.Ly(B:NB V L t):XX*(sm t.1).am<=2^800:=Vg (B.am XX (by decide)) B.al
theorem NB.EN(B:NB V L t)(ρ)(f:V.gv.In ρ):((sm t.1).val ρ* -1).natAbs<=2^870:=by rw[WQ,WM];exact Vg (B.val ρ f 1 (by decide)) B.vl
theorem io:bC (-1)=XX:=by decide+kernel
theorem hf{x y z:Nat}(h:2*x<=z)(h':2*y<=z):x+y<=z:=by lia
theorem RW{x y:Int}{z:Nat}(h:2*x.natAbs<=z)(h':2*y.natAbs<=z):(x+y).natAbs<=z:=Vg (WI x y) (hf h h')
theorem Lz{x y:Int}{z:Nat}(h:2*x.natAbs<=z)(h':2*y.natAbs<=z):(x-y).natAbs<=z:=Vg (Int.natAbs_sub_le x y) (hf h h')
theorem QW{j:Int}{z:Nat}(f:j.natAbs<=2^61)(h:2*2^62<=z):2*j.natAbs<=z:=by lia
theorem yq(F:L<9)(G:3<=L)(u:a<L)(hb:b<L)(h:NI V a t)(h':NI V b s)(J:a=b->t=s){m:aY}(nd:Ng V.gv m)(N:m=s.1\/∃j,m=eV j s.1)(p:nP m.1<=nP s.1.1)(ph:(sm m).ph<=(sm s.1).ph\/(sm m).ph<=2*nP s.1.1)(am:2*(sm m).am<=aT L)
 (vs:∀i,(sm m).vs i=true->(sm s.1).vs i=true){v:(Nat->Int)->Int}(hv:∀ρ,V.gv.In ρ->(sm t.1).val ρ+(sm m).val ρ=v ρ)(H:∀ρ,V.gv.In ρ->(v ρ).natAbs<=vT L):NI V L (cu [t.1,m],t.2++s.2)/\∀ρ,V.gv.In ρ->(sm (cu [t.1,m])).val ρ=v ρ:=by
 have B:=xf F G u h;have I:=hf (B.am 2 (by decide)) am;have R:=AN V.ok h.nd nd (Vg I B.al) (by rw[hv _ V.ok.cX];exact Vg (H _ V.ok.cX) (Vg B.vl (by decide)));have val:=λρ f=>(R.val ρ f).trans (hv ρ f);have g8:(sm (cu [t.1,m])).ph<=qT L/\nP (cu [t.1,m]).1<=pT L:=by
  by_cases q:a=b
  . obtain rfl:=J q;have s1:=Fu h.nd N;exact⟨Vg (Vg (IP (cu [t.1,m]).1 (cu [t.1,m]).2) (VF 2 (Vg s1 h.p))) (we F G u).q,Vg s1 B.pL⟩
  . refine dh (MD F G u hb q) λO P Q=>?_;refine⟨Vg R.ph ?_,Vg R.p (Vg (Wf h.p (Vg p h'.p)) O)⟩;exact ph.elim (λz=>Vg (Wf h.ph (Vg z h'.ph)) P) λz=>Vg (Wf h.ph (Vg z (VF 2 h'.p))) Q
 exact⟨⟨R.nd,g8.1,g8.2,Vg R.am I,λρ f=>by rw[val ρ f];exact H ρ f,λj U=>(R.vs j U).elim (λz=>WZ _ (h.vs j z)) λz=>List.mem_append_right _ (h'.vs j (vs j z)),EO h h',by rw[VO];exact Vg (Wf h.len h'.len) (QG u hb)⟩,val⟩
theorem FU(i:L<9)(u:3<=L)(F:a<L)(hb:b<L)(h:NI V a t)(h':NI V b s)(H:a=b->t=s):A9 V L (t.2++s.2) (λρ=>(sm t.1).val ρ+(sm s.1).val ρ) λcall make=>oP call make .Add (nO t.1) (nO s.1):=by have B:=xf i u F h;have f:=xf i u hb h';refine af (yq i u F hb h h' H h'.nd (.inl rfl) (Vt _) (.inl (Vt _)) (f.am 2 (by decide)) (λ_ z=>z) (λ_ _=>rfl) λρ G=>RW (B.val ρ G 2 (by decide)) (f.val ρ G 2 (by decide))) λN v=>?_;exact⟨_,λk I=>oN (p:=35) V.ok h.nd h'.nd B.yh f.yh (by decide) (Vg (hf (B.am 2 (by decide)) (f.am 2 (by decide))) B.al) k (up I rfl),N,v⟩
theorem FM(u:L<9)(z:3<=L)(F:a<L)(hb:b<L)(h:NI V a t)(h':NI V b s)(J:a=b->t=s):A9 V L (t.2++s.2) (λρ=>(sm t.1).val ρ-(sm s.1).val ρ) λcall make=>oP call make .Sub (nO t.1) (nO s.1):=by
 have B:=xf u z F h;have f:=xf u z hb h';have G:=f.EN _ V.ok.cX;have S:=kf (j:= -1) h'.nd (by rw[io];exact f.Ly) V.ok G;have H:=S.am;rw[io]at H;have I:2*(XX*(sm s.1).am)<=aT L:=by rw[<-WE];exact f.am _ (by decide)
 refine af (yq u z F hb h h' J S.nd (.inr ⟨-1,rfl⟩) S.p (.inr S.ph) (Vg (VF 2 H) I) S.vs (v:=λρ=>(sm t.1).val ρ-(sm s.1).val ρ) (λρ i=>by rw[S.val ρ i];lia) λρ i=>Lz (B.val ρ i 2 (by decide)) (f.val ρ i 2 (by decide))) λN v=>?_;exact⟨_,λk O=>FD (p:=35) V.ok h.nd h'.nd B.yh f.yh (by decide) (Vg (hf (B.am 2 (by decide)) I) B.al) G k (up O rfl),N,v⟩
theorem FO(u:L<9)(z:3<=L)(F:a<L)(h:NI V a t){j:Int}(f:j.natAbs<=2^61):A9 V L t.2 (λρ=>(sm t.1).val ρ*j) λcall make=>oP call make .Mult (nO t.1) (.int j):=by
 have B:=xf u z F h;have G:bC j<=2^124:=by
  unfold bC;split
  . exact Vg f (by decide)
  . rw[Rs];exact Vg (VF _ f) (by decide)
 have am:=B.am _ G;have hv:∀ρ,V.gv.In ρ->((sm t.1).val ρ*j).natAbs<=vT L:=λρ H=>by rw[WQ,WM];exact B.val ρ H _ (Vg f (by decide))
 have i:=Vg (hv _ V.ok.cX) B.vl;exact⟨_,λk I=>tD V.ok h.nd (j:=j) (bR (Vg f (by decide))) (Vg am B.al) i (p:=35) B.yh (by decide) k (up I rfl),lF (kf h.nd (j:=j) (Vg am B.al) V.ok i) (Vg (VF 2 h.p) (we u z F).q) B.pL am hv h.vs h.us B.len,(kf h.nd (j:=j) (Vg am B.al) V.ok i).val⟩
theorem FT(u:L<9)(z:3<=L)(F:a<L)(h:NI V a t){j:Int}(h1:1<=j)(f:j.natAbs<=2^61):A9 V L t.2 (λρ=>(sm t.1).val ρ/j) λcall make=>oP call make .FloorDiv (nO t.1) (.int j):=by have B:=xf u z F h;have am:=B.am _ (Vg f (by decide));obtain⟨m,O,R,_⟩:=yk V.ok 62 (by decide) t.1 h.nd B.Ry j h1 (Vg f (by decide)) (Vg am B.al);have i:(sm t.1).ph+md t.1.1<=pT L:=Vg (Wt (gw t.1.1) _) B.h1;exact⟨m,λk G=>O k (up G rfl),lF R (Vg i B.pq) i am (λρ H=>Vg (VV ..) (B.v1 ρ H)) h.vs h.us B.len,R.val⟩
theorem CW{x j:Int}(h:1<=j):(x%j).natAbs<=j.natAbs:=by have:=Wc x (b:=j) (by lia);have:=V5 x (b:=j) (by lia);lia
theorem SW{j:Int}{z:Nat}(f:j.natAbs<=2^61)(h:2*2^62<=z):j.natAbs<=z:=by lia
theorem FQ(i:L<9)(u:3<=L)(z:a<L)(h:NI V a t){j:Int}(h1:1<=j)(F:j.natAbs<=2^61):A9 V L t.2 (λρ=>(sm t.1).val ρ%j) λcall make=>oP call make .Mod (nO t.1) (.int j):=by have B:=xf i u z h;obtain⟨m,O,R⟩:=oM V.ok 62 t.1 h.nd B.Ry (by decide) j (by lia) (by rw[Rs];lia);have f:(sm t.1).ph+mm t.1.1 t.1.2<=pT L:=Vg (Wt (kh t.1.1 t.1.2) _) B.h1;exact⟨m,λk G=>O k (up G rfl),lF R (Vg f B.pq) f B.P7 (λρ H=>Vg (CW h1) (SW F B.Ij)) h.vs h.us B.len,R.val⟩
theorem B6(f:L<9)(i:3<=L)(u:a<L)(h:NI V a t){j:Int}(z:j.natAbs<=2^61):A9 V L t.2 (λρ=>(sm t.1).val ρ+j) λcall make=>oP call make .Add (nO t.1) (.int j):=by
 have B:=xf f i u h;have hv:∀ρ,V.gv.In ρ->((sm t.1).val ρ+j).natAbs<=vT L:=λρ F=>RW (B.val ρ F 2 (by decide)) (QW z B.Ij);have hr:(t.1.2+j).natAbs<=2^880:=oQ V.ok (ts:=t.1.1) (r:=t.1.2+j) h.nd.a h.nd.p.am (by
  show(ao _+(t.1.2+j)).natAbs<=_;rw[<-W0];exact Vg (hv _ V.ok.cX) (Vg B.vl (by decide)))
 exact⟨_,λk G=>i4 V.ok h.nd (p:=35) B.yh (by decide) (c:=j) k (up G rfl),lF (gR V.ok h.nd hr) (Vg B.hL B.pq) B.pL B.P7 hv h.vs h.us B.len,(gR V.ok h.nd hr).val⟩
theorem FN(u:L<9)(F:3<=L)(G:a<L)(h:NI V a t){j:Int}(i:j.natAbs<=2^61):A9 V L t.2 (λρ=>j-(sm t.1).val ρ) λcall make=>(nG call make (nO t.1)).bind λx=>oP call make .Add x (.int j):=by
 have B:=xf u F G h;have hv:∀ρ,V.gv.In ρ->(j-(sm t.1).val ρ).natAbs<=vT L:=λρ f=>Lz (QW i B.Ij) (B.val ρ f 2 (by decide));have H:=B.EN _ V.ok.cX;have S:=kf (j:= -1) h.nd (by rw[io];exact B.Ly) V.ok H;have I:=S.am;rw[io]at I;have ev:∀ρ,V.gv.In ρ->(sm (eV (-1) t.1)).val ρ+j=j-(sm t.1).val ρ:=λρ f=>by rw[S.val ρ f];lia
 have hr:((eV (-1) t.1).2+j).natAbs<=2^880:=oQ V.ok (ts:=(eV (-1) t.1).1) (r:=(eV (-1) t.1).2+j) S.nd.a S.nd.p.am (by
  show(ao _+((eV (-1) t.1).2+j)).natAbs<=_;rw[<-W0];exact(ev _ V.ok.cX).symm▸Vg (hv _ V.ok.cX) (Vg B.vl (by decide)))
 have R:=gR V.ok S.nd hr;refine⟨_,λk J=>?_,lF (R.w ev (Vt _) (Vt _) (Vt _) λ_ z=>z) (Vg S.ph (Vg (VF 2 h.p) (we u F G).q)) (Vg S.p B.pL) (Vg I (B.am XX (by decide))) hv (λj i=>h.vs j (S.vs j i)) h.us B.len,λρ f=>(R.val ρ f).trans (ev ρ f)⟩;exact bE (tK V.ok h.nd (p:=35) B.yh (by decide) B.Ly H k (up J rfl)) (i4 V.ok S.nd (p:=35) (Vg S.p B.yh) (by decide) (c:=j) k (up J rfl))
theorem RT{p:Prop}[Decidable p]{z:Nat}(h:2*2^62<=z):(if p then(1:Int)else 0).natAbs<=z:=by split<;>lia
theorem IY(f:L<9)(i:3<=L)(u:a<L)(h:NI V a t)(j:Int):A9 V L t.2 (λρ=>if(sm t.1).val ρ<j then 1 else 0) λcall make=>call 359 [nO t.1,.int j] []:=by have B:=xf f i u h;obtain⟨m,O,R⟩:=vB V.ok h.nd j (p:=35) B.yh (by decide);exact⟨m,λk z=>O k (up z rfl),lF R (by have:=B.p2;have:=B.pq;have:=B.h1;lia) (by have:=B.p2;have:=B.pq;lia) B.P7 (λρ F=>RT B.Ij) h.vs h.us B.len,R.val⟩
theorem IZ(G:L<9)(H:3<=L)(I:a<L)(h:NI V a t)(j:Int):A9 V L t.2 (λρ=>if j<=(sm t.1).val ρ then 1 else 0) λcall make=>call 366 [nO t.1,.int j] []:=by
 have B:=xf G H I h;have u:=B.EN _ V.ok.cX;have S:=kf (j:= -1) h.nd (by rw[io];exact B.Ly) V.ok u;have sp:=S.p;have F:=S.am;rw[io]at F;obtain⟨m,O,R⟩:=vB V.ok S.nd (-j+1) (p:=35) (Vg sp B.yh) (by decide);have ev:∀ρ,V.gv.In ρ->Ja (eV (-1) t.1) (-j+1) ρ=if j<=(sm t.1).val ρ then 1 else 0:=λρ f=>by
  show(if(sm (eV (-1) t.1)).val ρ< -j+1 then(1:Int)else 0)=_;rw[S.val ρ f];have:(sm t.1).val ρ* -1< -j+1<->j<=(sm t.1).val ρ:=by lia
  simp only[this]
 refine aP (bx (r:=t.1.2) h.nd.a) λC fl e P=>?_;have e:nO t.1=_:=e;refine⟨m,λk i=>?_,lF (R.w ev (Vt _) (Vt _) (Vt _) λ_ z=>z) (by have:=B.p2;have:=B.pq;lia) (by have:=B.p2;lia) (Vg F (B.am XX (by decide))) (λρ f=>RT B.Ij) (λj J=>h.vs j (S.vs j J)) h.us B.len,λρ f=>(R.val ρ f).trans (ev ρ f)⟩;refine aw (d:=400) (by lia) (by decide) (λk i=>?_) k (up i rfl);have N:=tK V.ok h.nd (p:=35) B.yh (by decide) B.Ly u k (up i rfl);rw[e]at N⊢;rw[PC];refine bE N ?_;rw[O k (up i rfl)];rfl
end
section
variable{k L a b:Nat}{V:bt}{t s:TN}{ms:List TN}
theorem idx_map{α:Type}{l:List α}{f:α->AV}{i:Nat}(hi:i<l.length)(hl:l.length<=1000):bc (l.map f) (i:Int)=some (f l[i]):=by rw[m9 (by rw[Vp];exact hi) (by rw[Vp];exact hl),List.getElem?_map,Xd hi];rfl
theorem Ln{L:Nat}(hL:0<L)(z:Int):∃i:Nat,i<L/\(L:Int)-1-z%L=i:=by refine ax (Xe (Wc z (Wd (Int.ofNat_lt.mpr hL)))) λr hr=>?_;have h1:r<L:=Int.ofNat_lt.mp (hr▸V5 z (Int.ofNat_lt.mpr hL));refine ag (L-1-r) (Nat.lt_of_le_of_lt (Nat.sub_le _ _) (Nat.sub_lt hL (by decide))) ?_;rw[hr,Int.natCast_sub (Nat.le_sub_one_of_lt h1),Int.natCast_sub hL];rfl
noncomputable abbrev fx(V:bt)(ms:List TN)(y:Fx):Fx:=⟨y.xs,iE ms,mD V ms,kG ms,y.n,y.k,y.o0,y.o1,y.o2,y.o3⟩
theorem BJ{j:Int}{xs:List AV}{v:AV}{R:Type}{K:AV->Option R}{b:Option R}(h:bc xs j=some v)(r:K v=b):lx (.int j) xs K=b:=bE (k:=K) h r
theorem M8(hL:ms.length=L)(F:3<=L)(G:L<=8){y:Fx}{z:Nat->AV}{i:Nat}{v:Int}(H:aF k 685 [.list y.xs,.int (12+y.k)] []=some (.int v)){R:Type}(kN kC:ah->Option R)(kR:AV->ah->Option R):
 ∃(nu kd:Int)(h:Nat)(B:h<ms.length),0<=kd/\kd<8/\pr (aF k) (aV k) 195 (ST (fx V ms y) z i) (gx 697 1) kN kC kR=
  pr (aF k) (aV k) 187 (ST (fx V ms y) (tN (gt V.ρ ms[h].1) (.int nu) (.int kd) (.int h) (nO ms[h].1) (iL ms[h].2) (z 0) (z 1) (z 2) (z 3)) (i-1+1)) xe kN kC kR:=by
 refine ab (Ln (L:=L) (by exact up F rfl) (v/8)) λh B I=>?_;have f:h<ms.length:=hL▸B;have hl:ms.length<=1000:=Vg (hL▸G) (by decide);have u:fF (iE ms)=some (.int L):=by rw[gU (by rw[Vp];exact hl),Vp,hL]
 have J:oP (aF k) (aV k) .Sub (.int ((L:Int)-1)) (.int (v/8%L))=some (.int h):=(oI _ _).trans (by rw[<-I];rfl);have N:oP (aF k) (aV k) .FloorDiv (.int (v/8)) (.int L)=some (.int (v/8/L)):=dl (bR (Vg (show((L:Nat):Int).natAbs<=8 by assumption) (by decide))) (by lia);have s1:oP (aF k) (aV k) .Sub (.int L) (.int 1)=some (.int ((L:Int)-1)):=oI _ _;have O:bc (iE ms) (h:Int)=some (nO ms[h].1):=idx_map f hl;have i2:bc (mD V ms) (h:Int)=some (gt V.ρ ms[h].1):=idx_map f hl;have P:bc (kG ms) (h:Int)=some (iL ms[h].2):=idx_map f hl;refine⟨v/8/L,v%8,h,f,Wc v (by decide),V5 v (by decide),?_⟩;refine(hd ..).trans (bE (oA _ _) (bE H (bE (dt (by decide)) (bE (dl (by decide) (by decide)) (bE u (bE s1 (bE u (bE (dt (by lia)) (bE J (bE u (bE N ?_)))))))))));exact BJ O (BJ i2 (BJ P rfl))
end
section
variable{call:aI}{make:aH}{k L:Nat}{V:bt}{ms:List TN}
noncomputable def Br(V:bt)(L k:Nat)(ms:List TN)(y:Fx)(z:Nat->AV)(i:Nat):Prop:=∃(t:TN)(z':Nat->AV)(i':Nat),NI V L t/\∀{R:Type}{kN kC:ah->Option R}{kR:AV->ah->Option R},pr (aF k) (aV k) 187 (ST (fx V ms y) z (i+1)) xe kN kC kR=kN (ST (fx V (ms++[t]) y) z' (i'+1))
theorem QL{call:aI}{make:aH}{f N:Nat}{σ a b:ah}{st:Stmt}(e:a=b)(h:Nx call make f N σ st a):Nx call make f N σ st b:=e▸h
theorem QM{call:aI}{make:aH}{f N:Nat}{σ σ' a:ah}{st:Stmt}(e:σ=σ')(h:Nx call make f N σ' st a):Nx call make f N σ st a:=e▸h
theorem Uu{α β i:Type}{m:Option α}{f:α->Option β}{k:β->Option i}{c:β}{b:Option i}(h:m.bind f=some c)(r:k c=b):(m.bind λa=>(f a).bind k)=b:=ar h λ_ e h=>bE e (bE h r)
theorem T9(t:TN)(y:Fx):fx V (ms++[t]) y=⟨y.xs,iE ms++[nO t.1],mD V ms++[gt V.ρ t.1],kG ms++[iL t.2],y.n,y.k,y.o0,y.o1,y.o2,y.o3⟩:=by simp only[fx,iE,mD,kG,VM,Vn,List.map_nil]
theorem pI(u z:AV)(B:Nat){y:Fx}{p nu kd he no pa a b c d:AV}{i:Nat}{us:List Int}{f:(Nat->Int)->Int}{K:aI->aH->Option AV}(N:A9 V L us f K)(F:600<=k)(hl:ms.length<=1000)
 (h:∀m,K (aF k) (aV k)=some (nO m)->∀{R:Type}{kN kC:ah->Option R}{kR:AV->ah->Option R},pr (aF k) (aV k) 187 (ST (fx V ms y) (tN p nu kd he no pa a b c d) (i+1)) xe kN kC kR=g8 (fx V ms y) nu kd he no (iL us) u z (nO m) p B (f5 λc=>f (V.ρ c)) kN):Br V L k ms y (tN p nu kd he no pa a b c d) i:=by
 obtain⟨m,E,I,v⟩:=N;refine si (m,us) (tN p nu kd he no (iL us) u z (nO m) (gt V.ρ m)) B I (λ{R}{kN kC}{kR}=>(h m (E k F)).trans ?_);have G:(f5 λc=>f (V.ρ c))=f5 λc=>(sm m).val (V.ρ c):=V0 λc _=>Vx AV.int (v _ (V.In c)).symm;have hl:∀f:TN->AV,(ms.map f).length<=1000:=λf=>(Vp f).symm▸hl;rw[G,T9];exact(Vi (hl _)).trans ((Vi (hl _)).trans (Vi (hl _)))
theorem FL{xs ys:List AV}{call:aI}{make:aH}(h:xs.length+ys.length<=1000):oP call make .Add (.list xs) (.list ys)=some (.list (xs++ys)):=by show(if Operator.Add=Operator.Add/\xs.length+ys.length<=1000 then some (AV.list (xs++ys))else none)=_;rw[Vi ⟨rfl,h⟩]
theorem BO{j:Nat}(i:j<4){f F:Nat->Int}{b:Int}(h:∀c,cJ call make j (.int (f c)) (.int b)=some (.int (F c))){R:Type}{K:List AV->Option R}:cp call make (j+1) (bf (f5 f)) [("by",.fz (.int b))] K=K (f5 F):=
 mf (sh:=λy=>[("by",.fz (.int b)),("x",.fz y)]) λc σ u acc z=>(P0 _ _ i b _ acc u).trans ((Vi z).trans (bE (h c) rfl))
theorem MT{f:Nat->Int}{b:Int}{R:Type}{K:List AV->Option R}:cp call make 5 (bf (f5 f)) [("by",.fz (.int b))] K=K (f5 λc=>b-f c):=
 mf (sh:=λy=>[("by",.fz (.int b)),("x",.fz y)]) λc σ i acc u=>(Lf _ _ b _ acc i).trans ((Vi u).trans (bE (oI _ _) rfl))
theorem IL(z:Bool){f:Nat->Int}{b:Int}{Q:Nat->Prop}[DecidablePred Q](h:∀c,cM call make (cQ z) (.int (f c)) (.int b)=some (decide (Q c))){R:Type}{K:List AV->Option R}:cp call make (6+z.toNat) (bf (f5 f)) [("by",.fz (.int b))] K=K (f5 λc=>if Q c then 1 else 0):=
 mf (sh:=λy=>[("by",.fz (.int b)),("x",.fz y)]) λc σ i acc u=>(Lg _ _ z b _ acc i).trans ((Vi u).trans (bE (h c) (by
  by_cases q:Q c
  . rw[Vi (VJ q),Vi q]
  . rw[Vk (λh=>q (V9 h)),Vk q])))
theorem Hx(hL:ms.length=L)(F:3<=L)(h8:L<=8)(H:600<=k)(hI:∀i(h:i<ms.length),NI V i ms[i]){y:Fx}{a b c d:AV}{i:Nat}{nu kd:Int}{h:Nat}(hh:h<ms.length)(h0:0<=kd)(h7:kd<8):
 Br V L k ms y (tN (gt V.ρ ms[h].1) (.int nu) (.int kd) (.int h) (nO ms[h].1) (iL ms[h].2) a b c d) i:=by
 have z:=hI h hh;refine aP (bx (r:=ms[h].1.2) z.nd.a) λC fl e hC=>?_;have e:nO ms[h].1= .obj C fl:=e;rw[e];have hl:ms.length<=1000:=by lia-abstractProof
 have I:=λa=>Ex a k (by lia-abstractProof);have X:=pA nu;have G:L<9:=by lia-abstractProof
 have B:h<L:=by lia-abstractProof
 refine ab (Ln (L:=L) (by lia-abstractProof) (nu+1)) λu Q Ui=>?_;have J:u<ms.length:=by lia-abstractProof
 have U:=hI u J;have N:fF (iE ms)=some (.int L):=by rw[gU (by rw[Vp];exact hl),Vp,hL]
 have Y:oP (aF k) (aV k) .Mod (.int (nu+1)) (.int L)=some (.int ((nu+1)%L)):=dt (by lia-abstractProof);have Z:bc (iE ms) (u:Int)=some (nO ms[u].1):=idx_map J hl;have i2:bc (mD V ms) (u:Int)=some (gt V.ρ ms[u].1):=idx_map J hl;have i3:bc (kG ms) (u:Int)=some (iL ms[u].2):=idx_map J hl;have s2:oP (aF k) (aV k) .Sub (.int ((L:Int)-1)) (.int ((nu+1)%L))=some (.int u):=(oI _ _).trans (by rw[<-Ui];rfl);have s1:oP (aF k) (aV k) .Sub (.int L) (.int 1)=some (.int ((L:Int)-1)):=oI _ _;have vg:oP (aF k) (aV k) .Add (iL ms[h].2) (iL ms[u].2)=some (iL (ms[h].2++ms[u].2)):=by have:=z.len;have:=U.len;have:=QG B Q;have:2^L<=2^8:=VH (by lia-abstractProof) h8;rw[FL (by rw[Vp,Vp];lia-abstractProof),<-VM]
 have sf:∀c,Sm ((sm ms[h].1).val (V.ρ c))=true:=λc=>bR (Vg (z.val _ (V.In c)) (by
  have:=(we G F B).vm;have:=(we G F B).vl;have h1:=Qs h;lia-abstractProof))
 have RK:(2:Nat)^61<=2^1800:=VH (by lia-abstractProof) (by lia-abstractProof);have O:(du nu+2).natAbs<=2^61:=Vg (WI _ _) (Vg (Wh X 2) (by decide));have W:(1+((du nu+1).natAbs:Int)).natAbs<=2^61:=Vg (WI _ _) (Vg (Wt (Vg (WI _ _) (Wh X 1)) 1) (by decide));have P:1<=1+((du nu+1).natAbs:Int):=by lia-abstractProof
 have:kd=0\/kd=1\/kd=2\/kd=3\/kd=4\/kd=5\/kd=6\/kd=7:=by lia-abstractProof
 rcases this with rfl|rfl|rfl|rfl|rfl|rfl|rfl|rfl
 . refine pI (.int u) b (Md i) (FU G F B Q z U (λq=>by cases q;rfl)) H hl λm f{R}{kN kC}{kR}=>?_;rw[e]at f;exact(b0 ..).trans (bE N (bE s1 (bE (oA _ _) (bE N (bE Y (bE s2 (BJ Z (bE f (BJ i2 (bE (a:=f5 _) rfl ((sq (λc=>Vi rfl)).trans (BJ i3 (bE vg rfl)))))))))))))
 . refine pI (.int u) b (Md i) (FM G F B Q z U (λq=>by subst q;rfl)) H hl λm f{R}{kN kC}{kR}=>?_;rw[e]at f;exact(b1 ..).trans (bE N (bE s1 (bE (oA _ _) (bE N (bE Y (bE s2 (BJ Z (bE f (BJ i2 (bE (a:=f5 _) rfl ((sq (λc=>Vk (by decide))).trans (BJ i3 (bE vg rfl)))))))))))))
 . refine pI a (.int (du nu+2)) (vk i) (FO G F B z (j:=(du nu+2)) O) H hl λm f{R}{kN kC}{kR}=>?_;rw[e]at f;exact(b2 ..).trans (bE (I _) (bE (oA _ _) (bE f (BO (j:=0) (by decide) λc=>im (call:=aF k) (make:=aV k) (sf c) (bR (Vg O RK))))))
 . refine pI a (.int (1+((du nu+1).natAbs:Int))) (vk i) (FT G F B z (j:=(1+((du nu+1).natAbs:Int))) P W) H hl λm f{R}{kN kC}{kR}=>?_;rw[e]at f;exact(b3 ..).trans (bE (I _) (bE (oA _ _) (bE (vJ _) (bE (oA _ _) (bE f (BO (j:=1) (by decide) λc=>dl (call:=aF k) (make:=aV k) (bR (Vg W RK)) P))))))
 . refine pI a (.int (1+((du nu+1).natAbs:Int))) (vk i) (FQ G F B z (j:=(1+((du nu+1).natAbs:Int))) P W) H hl λm f{R}{kN kC}{kR}=>?_;rw[e]at f;exact(b4 ..).trans (bE (I _) (bE (oA _ _) (bE (vJ _) (bE (oA _ _) (bE f (BO (j:=2) (by decide) λc=>dt (call:=aF k) (make:=aV k) P))))))
 . refine pI a (.int (du nu+2)) (vk i) (B6 G F B z (j:=(du nu+2)) O) H hl λm f{R}{kN kC}{kR}=>?_;rw[e]at f;exact(b5 ..).trans (bE (I _) (bE (oA _ _) (bE f (BO (j:=3) (by decide) λc=>oI (call:=aF k) (make:=aV k) _ _))))
 . refine pI a (.int (du nu+2)) (vk i) (FN G F B z (j:=(du nu+2)) O) H hl λm f{R}{kN kC}{kR}=>?_;rw[e]at f;exact(b6 ..).trans (bE (I _) (bE (oA _ _) (Uu f MT)))
 . by_cases q:nu%2=0
   . refine pI a (.int ((sm ms[h].1).val (V.ρ 2)+du (nu/2))) (vk i) (IY G F B z ((sm ms[h].1).val (V.ρ 2)+du (nu/2))) H hl λm f{R}{kN kC}{kR}=>?_;rw[e]at f;exact(b7 ..).trans (bE rfl (bE (dl (by decide) (by decide)) (bE (I _) (bE (oA _ _) (bE (dt (by decide)) (bE (dZ _ _ (.inl rfl)) ((Vi (by simpa using q)).trans (bE f (IL false λc=>rfl)))))))))
   . refine pI a (.int ((sm ms[h].1).val (V.ρ 2)+du (nu/2))) (vk i) (IZ G F B z ((sm ms[h].1).val (V.ρ 2)+du (nu/2))) H hl λm f{R}{kN kC}{kR}=>?_;rw[e]at f;exact(b7 ..).trans (bE rfl (bE (dl (by decide) (by decide)) (bE (I _) (bE (oA _ _) (bE (dt (by decide)) (bE (dZ _ _ (.inl rfl)) ((Vk (by simpa using q)).trans (bE f (IL true λc=>rfl)))))))))
end
set_option tactic.hygienic true
section
variable{k L a b:Nat}{V:bt}{t s:TN}{ms:List TN}
noncomputable def F7(sc:Int->Int):bt where
 sp i:=(du (sc i)).natAbs
 lo i:=(du (sc (3+i))).natAbs
 fi i:=sc (6+i)%((du (sc i)).natAbs+1)
 se i:=sc (9+i)%((du (sc i)).natAbs+1)
 DL i:=⟨by lia,by have:=pA (sc i);lia⟩
 Gf i:=⟨by lia,by have:=pA (sc (3+i));lia⟩
 Rz i:=⟨Wc _ (by lia),by have:=V5 (sc (6+i)) (show(0:Int)<(du (sc i)).natAbs+1 by lia);lia⟩
 QC i:=⟨Wc _ (by lia),by have:=V5 (sc (9+i)) (show(0:Int)<(du (sc i)).natAbs+1 by lia);lia⟩
noncomputable def init(V:bt):List TN:=[(V.nd 0,V.u 0),(V.nd 1,V.u 1),(V.nd 2,V.u 2)]
theorem Np(V:bt){i:Nat}(hi:i<3):NI V i (V.nd i,V.u i):=by
 have H:=V.DL i;have hl:=V.Gf i;have F:pT i=2/\qT i=2/\1<=aT i/\2^62<=vT i:=by apply Ge hi<;>decide
 have hv:∀ρ,V.gv.In ρ->((sm (V.nd i)).val ρ).natAbs<=vT i:=λρ G=>by rw[V.tL i G];have:=G i;exact i5 (VQ hl.1 this.1) this.2 (VQ (Int.add_le_add hl.2 H.2) (VQ (by decide) (Wr.mpr F.2.2.2)))
 have:=V.I4 hi;refine⟨this,?_,?_,?_,hv,λj f=>?_,λz B=>?_,?_⟩
 . show(sm (V.nd i)).ph<=qT i;unfold bt.nd;split
   . rw[aD];exact Vq _
   . rw[(gM ..).ph,F.2.1];exact Vt 2
 . show nP (V.nd i).1<=pT i;unfold bt.nd;split
   . exact Vq _
   . rw[(gM ..).p,F.1];exact Vt 2
 . show(sm (V.nd i)).am<=aT i;unfold bt.nd;split
   . rw[aD];exact Vq _
   . rw[(gM ..).am];exact F.2.2.1
 . have f:(sm (V.nd i)).vs j=true:=f;show(j:Int)∈V.u i;unfold bt.nd at f;unfold bt.u;split at f
   . rw[aD]at f;injection f
   . rename_i q;rw[(gM ..).vs]at f;have:j=i:=by simpa[gr]using f
     rw[Vk q,this];exact Vo.mpr rfl
 . have B:z∈V.u i:=B;unfold bt.u at B;split at B
   . cases B
   . rename_i q;exact dA i hi (Vo.mp B) q
 . show(V.u i).length<=2^i;have:=Nat.one_le_two_pow (n:=i);unfold bt.u;split
   . exact Vq _
   . exact this
noncomputable def Rt(V:bt)(xs:List AV)(b:Nat)(σ:ah):Prop:=∃(ms:List TN)(y:Fx)(z:Nat->AV)(i:Nat),(∃DV,ms=init V++DV)/\ms.length=3+b/\(∀i(h:i<ms.length),NI V i ms[i])/\y.xs=xs/\(b≠0->i≠0)/\σ=ST (fx V ms y) z i
theorem Im(hL:ms.length=L)(B:3<=L)(F:L<=8)(G:600<=k)(hI:∀i(h:i<ms.length),NI V i ms[i]){y:Fx}{z:Nat->AV}{i:Nat}{v:Int}(H:aF k 685 [.list y.xs,.int (12+y.k)] []=some (.int v)):
 ∃(t:TN)(f:Nat->AV)(u:Nat),NI V L t/\ay (aF k) (aV k) 697 1 195 (ST (fx V ms y) z i)=some (.next (ST (fx V (ms++[t]) y) f (u+1))):=by
 refine CY (M8 (V:=V) (z:=z) (i:=i) hL B F H (λσ=>some (fW.next σ)) (λσ=>some (.cont σ)) (λx σ=>some (.ret x σ))) λnu kd h e=>?_;obtain⟨I,J,O,e⟩:=e;refine f9 (Hx (nu:=nu) (y:=y) (a:=z 0) (b:=z 1) (c:=z 2) (d:=z 3) (i:=i-1) hL B F G hI I J O) λt f u N P=>?_;exact si t f u N (e.trans P)
theorem GN{A B C:Nat->AV}{w:Nat->Nat->AV}{xs:List AV}{n:Int}{body:ah->Option fW}(T:∀(ns rs us:List AV)(i:Nat),i<3->ns.length<=100->rs.length<=100->us.length<=100->∀r:ah,(∃o j,r=r0 o j)->body (xX xs (.int n) ns rs us (("k",.fz (.int i))::r))=some (.next (xX xs (.int n) (ns++[A i]) (rs++[B i]) (us++[C i]) (("k",.fz (.int i))::r0 (w i) 1)))):
 bU body ["k"] [[.int 0],[.int 1],[.int 2]] (xX xs (.int n) [] [] [] [])=some (.next (xX xs (.int n) [A 0,A 1,A 2] [B 0,B 1,B 2] [C 0,C 1,C 2] (("k",.fz (.int 2))::r0 (w 2) 1))):=by
 have f:∀(rows:List (List AV))(row:List AV)(σ u σ':ah),aX σ ["k"] row=u->body u=some (.next σ')->bU body ["k"] (row::rows) σ=bU body ["k"] rows σ':=λrows row σ u σ' e h=>(Vx (Option.bind · _) ((Vx body e).trans h)).trans rfl;rw[f _ _ (xX xs (.int n) [] [] [] []) (xX xs (.int n) [] [] [] [("k",.fz (.int (0:Nat)))]) _ rfl (T [] [] [] 0 (by lia) (by decide) (by decide) (by decide) [] ⟨w 0,0,rfl⟩)];rw[f _ _ _ (xX xs (.int n) [A 0] [B 0] [C 0] (("k",.fz (.int (1:Nat)))::r0 (w 0) 1)) _ rfl (T [A 0] [B 0] [C 0] 1 (by lia) (by simp) (by simp) (by simp) _ ⟨w 0,1,rfl⟩)];rw[f _ _ _ (xX xs (.int n) [A 0,A 1] [B 0,B 1] [C 0,C 1] (("k",.fz (.int (2:Nat)))::r0 (w 1) 1)) _ rfl (T [A 0,A 1] [B 0,B 1] [C 0,C 1] 2 (by lia) (by simp) (by simp) (by simp) _ ⟨w 1,1,rfl⟩)];rfl
theorem cnt(l:List Nat):∀b:Nat,l.foldl (λb _=>b+1) b=b+l.length:=by
 induction l with
 |nil=>intro b;rfl
 |cons a l ih=>intro b;rw[We,ih,VP];lia
theorem Fs(O:600<=k){xs:List AV}{n:Nat}(hn:n<=6)(P:Int->Int)(Q:∀j:Int,0<=j->j<=100->aF k 685 [.list xs,.int j] []=some (.int (P j))){σ0:ah}(h0:Rt V xs 0 σ0):
 ∃σ,bU (ay (aF k) (aV k) 697 1 195) ["k"] ((List.range n).map λi:Nat=>[AV.int i]) σ0=some (.next σ)/\Rt V xs n σ:=by
 obtain⟨σ,e,R⟩:=fU (body:=ay (aF k) (aV k) 697 1 195) (nm:=["k"]) (x:=λi:Nat=>[AV.int i]) (f:=λb _=>b+1) (b0:=0) (R:=Rt V xs) (List.range n) (λu i ka e σ U=>by
  obtain⟨ms,y,z,j,⟨W,X⟩,B,F,G,Y,rfl⟩:=U;rw[cnt]at B Y⊢;have Z:=Vx List.length e;rw[W7,VO,VP]at Z;have hi:i=u.length:=by have:=Vx (λl=>l[u.length]?) e;simp at this;rw[List.getElem?_range (by lia)]at this;exact(Option.some.inj this).symm
  let H:Fx:=⟨y.xs,y.ns,y.rs,y.us,y.n,i,y.o0,y.o1,y.o2,y.o3⟩;refine f9 (Im (k:=k) (y:=H) (z:=z) (i:=j) B (by lia) (by lia) O F (G▸Q (12+i) (by lia) (by lia))) λt z' I N et=>?_;refine⟨_,et,ms++[t],H,z',I+1,⟨W++[t],by rw[X,WJ]⟩,by rw[VO,B];rfl,λj J=>?_,G,λ_=>Nat.succ_ne_zero I,rfl⟩;rw[VO]at J;by_cases q:j<ms.length
  . rw[List.getElem_append_left q];exact F j q
  . have:j=ms.length:=by simp at J;lia
    subst this;rw[List.getElem_append_right (by lia)];simp only[Nat.sub_self,List.getElem_cons_zero];rw[B];exact N) h0
 rw[cnt,W7,Nat.zero_add]at R;exact ag σ e R
set_option maxHeartbeats 1000000 in
theorem Ld(Y:609<=k){l:List Int}(hl:l.length<=18){m:Nat}(G:m<4):∃(V:bt)(ms:List TN),(∃H,ms=init V++H)/\ms.length=3+(m+3)/\(∀i(h:i<ms.length),NI V i ms[i])/\aF (k+1) 697 [iL l,.int (m+3:Nat)] []=some (.tup [.list (iE ms),.list (mD V ms),.list (kG ms)]):=by
 have F:∃f:Int->Int,∀j:Int,0<=j->j<=100->aF k 685 [iL l,.int j] []=some (.int (f j)):=by
  classical
  exact⟨λj=>if h:0<=j/\j<=100 then(Ey hl h.1 h.2).choose else 0,λj h0 h1=>by
   simp only[dif_pos (And.intro h0 h1)];exact(Ey hl h0 h1).choose_spec k (by lia)⟩
 refine ax F λf F=>?_;have I:=GN (A:=λi=>nO ((F7 f).nd i)) (B:=λi=>gt (F7 f).ρ ((F7 f).nd i)) (C:=λi=>iL ((F7 f).u i)) (w:=wV (F7 f)) (xs:=l.map .int) (n:=(m+3:Nat)) (body:=ay (aF k) (aV k) 697 0 196) (λns rs us i hi h1 h2 J r hr=>by
  obtain⟨o,j,rfl⟩:=hr;exact Io (F7 f) f hi (by lia) F rfl rfl rfl rfl h1 h2 J o j)
 generalize F7 f=V at*
 let y:Fx:=⟨l.map .int,[],[],[],(m+3:Nat),2,.int (V.sp 2),.int (V.lo 2),.int (V.fi 2),.int (V.se 2)⟩;obtain⟨σ,N,ms,O,z,i,Q,U,W,Z,X,rfl⟩:=Fs (V:=V) (k:=k) (xs:=l.map .int) (by lia) (n:=m+3) (by lia) f F (σ0:=SS (fx V (init V) y) (gt V.ρ (V.nd 2)) []) ⟨init V,y,λ_=>gt V.ρ (V.nd 2),0,⟨[],by simp⟩,rfl,λi hi=>by
  exact Ge (P:=λi=>∀h:i<(init V).length,NI V i (init V)[i]) hi (λ_=>Np V (by decide)) (λ_=>Np V (by decide)) (λ_=>Np V (by decide)) hi,rfl,λh=>Vu rfl h,rfl⟩
 refine z9 V ms Q U W (Av (by lia) (by decide) ?_);rw[Pd];refine bE I ?_;refine(Kr (aF k) (aV k) (fx V (init V) y) (gt V.ρ (V.nd 2)) m G).trans ?_;refine(bE N ?_)
 cases i with
 |zero=>exact Vu rfl (X (by lia))
 |succ i=>exact Ks _ _ (fx V ms O) z i
end
set_option tactic.hygienic false
section
variable{g:Gv}{n m:aY}{D:Nat}{x:AV}{s:Sem}{t:Str}{l:List (Str×AV)}{S:Nat->Bool}{sv:Nat->Int}
theorem I0(h:Ng g m)(hv:∀i,(sm m).vs i≠true):m.1=[]:=by
 induction e:m.1 using List.casesOn with
 |nil=>rfl
 |cons a b=>
  have f:a∈m.1:=by rw[e];exact Vm
  refine ax ((h.a a f).vr.2) λi hi=>?_;exact Vu (VX.mpr ⟨a,f,hi⟩) (hv i)
theorem uU(h:Ng g m)(hv:∀i,(sm m).vs i≠true)(ρ:Nat->Int):nO m=aO ((sm m).val ρ):=by rw[(by rw[<-I0 h hv]:m=([],m.2)),aD,cm]
noncomputable def AW(g:Gv)(l:List (Str×AV))(S:Nat->Bool)(sv:Nat->Int)(D:Nat)(x:AV)(s:Sem):Prop:=∃c:Int,ga l D x (aO c)/\∀ρ,g.In ρ->c=s.val (upd S sv ρ)
theorem uF(u:g.Ok)(U:mt g l S sv)(h:Ng g n)(hr:n.2.natAbs<=2^872)(hl:n.1.length<=60)(z:∀t∈n.1,AW g l S sv D t.x t.s)(W:20<=D):AW g l S sv (D+2) (nO n) (sm n):=by
 have T:∀i∈aW n,∃c:Int,ga l (D+1) (iX i) (aO c)/\(∀ρ,g.In ρ->c=(sm (eY i)).val (upd S sv ρ))/\c.natAbs<=2^880:=λi hi=>by
  rcases fc hi with⟨t,ht,rfl⟩|⟨_,rfl⟩
  . refine ab (z t ht) λc E v=>?_;have J:=h.a t ht;have ev:∀ρ,(sm ([t],0)).val ρ=t.s.val ρ*t.k:=λρ=>by simp[nS,ao]
    have bn:=J.bn u (U.In u.cX);have sb:=J.sb u;have N:=eF sb (VQ sb.mn bn.1) bn.2;have a0:(sm ([t],0)).am<=2^800:=(h.term ht).p.am;have tx:=gP (n:=bC t.k*t.s.am) (by assumption);rw[<-v _ u.cX]at N;by_cases q:t.k=1
    . refine dA c (by rw[show iX (.inl t)=t.x from Vi q];exact E.mono (by lia)) (λρ G=>?_) ?_
      . show c=(sm ([t],0)).val _;rw[ev,q,Int.mul_one];exact v ρ G
      . have P:c*t.k=c:=by rw[q,Int.mul_one]
        rw[P]at N;lia
    . have X:=(h.fu u).2.2.2 t ht;have Y:=h.p.nz t ht;have Q:c.natAbs<=2^880:=by
       have:c.natAbs*1<=c.natAbs*t.k.natAbs:=VF _ (by(clear X q;lia));rw[WQ]at N;lia
      refine dA (c*t.k) ?_ (λρ G=>?_) (by lia)
      . rw[show iX (.inl t)=bG 485 t.x t.k (dU t) (d9 t)from Vk q];refine⟨485,_,475,rfl,by kernel_rfl,aw (d:=D) (by exact up W rfl) (by decide) λk I=>?_⟩;refine aP J.obj λC fl e hC=>?_;have E:=E.cZ (K:=λy=>(oP (aF k) (aV k) .Mult y (.int t.k)).bind some) I;have O:=F4 u (i:= .inr c) (j:=t.k) (bR (by lia)) (bR (by lia)) k (by lia);have O:oP (aF k) (aV k) .Mult (aO c) (.int t.k)=some (aO (c*t.k)):=by
         rw[show iX (.inr c)=aO c from rfl]at O;rw[O];have:eV t.k (eY (.inr c))=([],c*t.k):=Vk Y;rw[this,cm]
        rw[e]at E⊢;rw[KC,E,O];rfl
      . show c*t.k=(sm ([t],0)).val _;rw[ev,v ρ G]
  . have hb:=h.p.vb;refine dA n.2 ⟨338,lE n.2,328,rfl,by kernel_rfl,aw (d:=D) (by lia) (by decide) λk _=>CK ..⟩ (λρ _=>?_) hb;rw[aD]
 have B:∃F:It->Int,∀i∈aW n,ga l (D+1) (iX i) (aO (F i))/\(∀ρ,g.In ρ->F i=(sm (eY i)).val (upd S sv ρ))/\(F i).natAbs<=2^880:=by
  classical
  exact⟨λi=>if h:∃c:Int,ga l (D+1) (iX i) (aO c)/\(∀ρ,g.In ρ->c=(sm (eY i)).val (upd S sv ρ))/\c.natAbs<=2^880 then h.choose else 0,λi hi=>by
   have:=T i hi;simp only[dif_pos this];exact this.choose_spec⟩
 refine ax B λF B=>?_;rcases aL n with⟨q1,q2⟩|⟨t,rfl,q1,q2⟩|⟨t,rfl,q1,q2⟩|⟨q0,q1,q2⟩
 . have e:n=([],n.2):=by rw[<-q1]
   refine ag n.2 ⟨338,lE n.2,328,q2,by kernel_rfl,aw (d:=D+1) (by lia) (by decide) λk _=>?_⟩ λρ _=>?_
   . rw[q2];exact CK ..
   . rw[e,aD]
 . refine dh (B (.inl t) (by simp[aW])) λE v _=>?_;exact ag (F (.inl t)) (E.mono (by lia)) v
 . refine dh (B (.inl t) (by simp[aW])) λE v _=>?_;exact ag (F (.inl t)) (E.mono (by lia)) v
 . have U5:=fT n;have Z:∀L:List It,(L.map λi=>(([],F i):aY)).flatMap (·.1)=[]/\ao ((L.map λi=>(([],F i):aY)).map (·.2))=ao (L.map F)/\aq (L.map λi=>(sm ([],F i)).am)=0/\(L.flatMap λi=>(([],F i):aY).1)=[]:=λL=>by
    induction L with
    |nil=>exact⟨rfl,rfl,rfl,rfl⟩
    |cons a L z=>
     refine⟨?_,?_,?_,?_⟩
     . rw[Vn,VS,z.1];rfl
     . rw[Vn,Vn,ak,z.2.1,Vn,ak]
     . rw[Vn,au,z.2.2.1,aD]
     . rw[VS,z.2.2.2];rfl
   have H:=eA u (aW n) (λi=>(([],F i):aY)) (λi _=>yx (F i)) (p:=0) (λ_ _=>Vq _) (by decide) (by rw[(Z _).2.2.2];simp;lia) (by rw[(Z _).2.2.1];exact Vq _);have eS:cu ((aW n).map λi=>(([],F i):aY))=([],ao ((aW n).map F)):=by unfold cu;rw[(Z _).1,(Z _).2.1];rfl
   rw[eS,cm]at H;refine ag (ao ((aW n).map F)) ⟨656,_,642,q2,by kernel_rfl,?_⟩ λρ G=>?_
   . rw[q2];refine aw (d:=D+1) (by lia) (by decide) λk I=>?_;obtain⟨σ',e⟩:=c7 (step:=aU (aF k) (aV k) 642 0 38) (σ0:=[("var_vals",.fz (.dict l))]) (sh:=λy=>[("var_vals",.fz (.dict l)),("node",.fz y)]) (x:=iX) (f:=λi=>aO (F i)) (aW n) (λi hi σ bJ acc Q=>by
      refine aP (jd h.a (r:=n.2) (x:=iX i) (by rw[<-jc];exact Vy.mpr ⟨i,hi,rfl⟩)) λC fl P hC=>?_;have E:=(B i hi).1;rw[P]at E⊢;rcases bJ with rfl|⟨y,rfl⟩
      . rw[pH _ _ _ C fl acc [] (.inl rfl),Vi Q,E.cZ I]
      . rw[pH _ _ _ C fl acc _ (.inr ⟨y,rfl⟩),Vi Q,E.cZ I]) (by lia)
     rw[Kv,e];have H:=H k (by lia);rw[(V0 λi _=>cm _)]at H;show(aF k 211 [.list ((aW n).map λi=>aO (F i))] []).bind some=_;rw[H];rfl
   . rw[<-kT];exact Vx ao (V0 λi hi=>(B i hi).2.1 ρ G)
theorem BB(u:g.Ok)(I:mt g l S sv)(h:At g x s t):(∀i,s.vs i=true->S i=true)->s.ph<=120->AW g l S sv (4*s.ph+30) x s:=by
 have J:∀{ts:List Tm}{r:Int}{q:Nat},ts≠[]->Nd g ts r->nP ts+1<=q->q<=120->(∀t∈ts,(∀i,t.s.vs i=true->S i=true)->t.s.ph<=120->AW g l S sv (4*t.s.ph+30) t.x t.s)->(∀i,(nS ts r).vs i=true->S i=true)->r.natAbs<=2^870->∃c:Int,ga l (4*q+28) (nO (ts,r)) (aO c)/\(∀ρ,g.In ρ->c=(nS ts r).val (upd S sv ρ))/\c.natAbs<=2^872:=λ{ts r q} hn hd F Z G hv hr=>by
  have N:Ng g (ts,r):=hd;refine ab (uF (n:=(ts,r)) (D:=4*q+26) u I N (Vg hr (VH (by lia) (by decide))) (N.w.len u (by show nP ts<=120;lia)) (λt ht=>by
   have tp:t.s.ph<=nP ts:=aR (f:=λt:Tm=>t.s.ph) ht;refine ab (G t ht (λi hi=>hv i (VX.mpr ⟨t,ht,hi⟩)) (by lia)) λc E v=>?_;exact ag c (E.mono (by lia)) v) (by lia)) λc E v=>?_
  refine dA c E v ?_;have a1:=fR u hd.a hd.p.am (I.In u.cX);rw[<-show c=(nS ts r).val (upd S sv g.lo)from v _ u.cX]at a1;exact pW a1 hr (by decide)
 induction h with
 |var i hi hl=>
  intro hv _;have A:At g _ _ _:= .var i hi hl;have q:S i=true:=hv i (by show(i==i)=true;simp);refine ag (sv i) ⟨284,_,274,rfl,by kernel_rfl,aw (d:=37) (by decide) (by decide) λk B=>?_⟩ λρ _=>?_
  . have e:=I.dict i hi hl;rw[Vi q]at e;have:=(A.key u (p:=2) (Vt _) (by assumption)) k (by exact up B rfl);unfold dm at this⊢;rw[KH,this];show some ((fe l (aN g i)).getD _)=_;rw[e];rfl
  . show sv i=upd S sv ρ i;unfold upd;rw[Vi q]
 |div ts r c hn F ha hc jx iO ie sW G=>intro hv h1;have P:(cL ts r c).ph=(nS ts r).ph+md ts:=rfl;have h2:=i0 (r:=r) hn λt ht=>((ha t ht).sb u).ph;refine bV (J (q:=(cL ts r c).ph) hn ⟨F,ha⟩ (by assumption) h1 G hv jx.2) λz E v U=>?_;have Rr:c.natAbs<=2^800:=Vg (Wu _ (cz (r:=r) hn F.nz λt ht=>(ha t ht).sb u)) jx.1;refine ag (z/c) ⟨526,_,516,rfl,by kernel_rfl,aw (d:=4*(cL ts r c).ph+29) (by lia) (by decide) λk B=>?_⟩ (λρ H=>by rw[v ρ H];rfl);refine aP (bx (r:=r) ha) λC fl e W=>?_;have E:=E.cZ (K:=λy=>(oP (aF k) (aV k) .FloorDiv y (.int c)).bind some) (k:=k) (by exact VT B);rw[show nO (ts,r)= .obj C fl from e]at E;rw[e,KB,E,kM u (by lia) (by exact Vs hc) (by lia) k (by exact up B rfl)];rfl
 |mod ts r c hn F ha hc nv iO G=>intro hv h1;have P:(eW ts r c).ph=(nS ts r).ph+mm ts r:=rfl;have h2:=i0 (r:=r) hn λt ht=>((ha t ht).sb u).ph;have X:=ki ts r;refine bV (J (q:=(eW ts r c).ph) hn ⟨F,ha⟩ (by lia) h1 G hv nv.2) λz E v U=>?_;have nz:=cV (g:=g) (c:=z) (by lia);obtain⟨Y,O,Q⟩:=oM u 0 ([],z) nz (by rw[aD];exact Vt _) (by decide) c (by exact Vs hc) nv.1;have q2:=uU Q.nd (λi hi=>by have:=Q.vs i hi;rw[aD]at this;injection this) g.lo;rw[Q.val _ u.cX,aD]at q2;refine ag (z%c) ⟨574,_,564,rfl,by kernel_rfl,aw (d:=4*(eW ts r c).ph+29) (by lia) (by decide) λk B=>?_⟩ (λρ H=>by rw[v ρ H];rfl);refine aP (bx (r:=r) ha) λC fl e W=>?_;have E:=E.cZ (K:=λy=>(oP (aF k) (aV k) .Mod y (.int c)).bind some) (k:=k) (by exact VT B);have O:=O k (by exact up B rfl);rw[cm,q2]at O;rw[show nO (ts,r)= .obj C fl from e]at E;rw[e,Ky,E,O];rfl
 |lt ts c hn F ha h1 h2 G=>
  intro hv X;have P:(oB ts c).ph=nP ts+2:=rfl;refine bV (J (r:=0) (q:=(oB ts c).ph) hn ⟨F,ha⟩ (by lia) X G hv (Vq _)) λz E v U=>?_;have nz:=cV (g:=g) (c:=z) (by lia);obtain⟨Y,O,Q⟩:=vB u nz c (p:=0) (Vq _) (by lia);have q2:=uU Q.nd (λi hi=>by have:=Q.vs i hi;rw[aD]at this;injection this) g.lo;rw[Q.val _ u.cX]at q2;refine ag (Ja ([],z) c g.lo) ⟨430,_,420,rfl,by kernel_rfl,aw (d:=4*(oB ts c).ph+29) (by lia) (by decide) λk B=>?_⟩ λρ H=>?_
  . refine aP (bx (r:=0) ha) λC fl e W=>?_;have E:=E.cZ (K:=λy=>(aF k 359 [y,.int c] []).bind some) (k:=k) (by exact VT B);have O:=O k (by exact up B rfl);rw[cm,q2]at O;rw[show nO (ts,0)= .obj C fl from e]at E;rw[e,KF,E,O];rfl
  . show(if(sm ([],z)).val g.lo<c then(1:Int)else 0)=if(nS ts 0).val (upd S sv ρ)<c then 1 else 0
    rw[aD,<-v ρ H]
theorem xK(u:g.Ok)(z:mt g l S sv)(h:Ng g n)(hr:n.2.natAbs<=2^872)(B:nP n.1<=120)(hv:∀i,(sm n).vs i=true->S i=true):AW g l S sv 520 (nO n) (sm n):=
 uF (D:=518) u z h hr (h.w.len u B) (λt ht=>by
  have F:t.s.ph<=nP n.1:=aR (f:=λt:Tm=>t.s.ph) ht;refine ab (BB u z (h.a t ht) (λi hi=>hv i (VX.mpr ⟨t,ht,hi⟩)) (by lia)) λc E v=>?_;exact ag c (E.mono (by lia)) v) (by decide)
end
section
variable{call:aI}{make:aH}{k L:Nat}{V:bt}{ms:List TN}
theorem ji{body:ah->Option fW}{nm:List Str}{R:ah->Prop}:∀{rows:List (List AV)},(∀row∈rows,∀σ,R σ->∃σ',(body (aX σ nm row)=some (.next σ')\/body (aX σ nm row)=some (.cont σ'))/\R σ')->∀{σ},R σ->∃σ',bU body nm rows σ=some (.next σ')/\R σ'
 |[],_,σ,h=>⟨σ,rfl,h⟩
 |row::rows,H,σ,h=>by refine ab (H row Vm σ h) λu e h1=>?_;refine ab (ji (rows:=rows) (λr hr=>H r (Vw _ hr)) h1) λf i h2=>?_;refine ag f ?_ h2;refine Or.elim e (λe=>?_) λe=>?_<;>(simp only[bU,e];exact i)
structure Tr(V:bt)(ms:List TN):Prop where
 SY:∃DV,ms=init V++DV
 l6:6<=ms.length
 l9:ms.length<=9
 ni:∀i(h:i<ms.length),NI V i ms[i]
theorem Tr.P5(T:Tr V ms){j:Nat}(f:j<3):∃h:j<ms.length,ms[j]=(V.nd j,V.u j):=by
 have:=T.l6;refine⟨by lia,?_⟩;refine ax T.SY λi e=>?_;subst e;rw[List.getElem_append_left (by show j<3;exact f)]
 match j,f with
 |0,_=>rfl
 |1,_=>rfl
 |2,_=>rfl
theorem Tr.ns(T:Tr V ms){j:Nat}(i:j<3):bc (iE ms) (j:Int)=some (nO (V.nd j)):=by obtain⟨h,e⟩:=T.P5 i;have:=T.l9;rw[idx_map (f:=λt:TN=>nO t.1) h (by lia),e]
theorem Tr.us(T:Tr V ms){j:Nat}(h:j<ms.length):bc (kG ms) (j:Int)=some (iL ms[j].2):=by have:=T.l9;exact idx_map (f:=λt:TN=>iL t.2) h (by lia)
theorem uM(f:Nat->Int){c:Nat}(i:c<4):bc (f5 f) (c:Int)=some (.int (f c)):=by apply NM i<;>rfl
theorem uG{rs l:List AV}{k m:Int}{x:AV}(h1:bc rs k=some (.list l))(h2:bc l m=some x):Mine.Internal.mK rs k m=some x:=by unfold Mine.Internal.mK gq;rw[h1];show(bc l m).bind some=_;rw[h2];rfl
theorem Tr.mK(T:Tr V ms){j c:Nat}(h:j<ms.length)(i:c<4):Mine.Internal.mK (mD V ms) (j:Int) (c:Int)=some (.int ((sm ms[j].1).val (V.ρ c))):=by have:=T.l9;exact uG (idx_map (f:=λt:TN=>gt V.ρ t.1) h (by lia)) (uM _ i)
theorem Tr.last(T:Tr V ms):∃h:ms.length-1<ms.length,bc (iE ms) (-1)=some (nO ms[ms.length-1].1)/\∀c:Nat,c<4->Mine.Internal.mK (mD V ms) (-1) (c:Int)=some (.int ((sm ms[ms.length-1].1).val (V.ρ c))):=by
 have i:=T.l6;have B:=T.l9;have h:ms.length-1<ms.length:=Nat.sub_lt (Nat.lt_of_lt_of_le (by decide) i) (by decide);have neg:∀f:TN->AV,bc (ms.map f) (-1)=some (f ms[ms.length-1]):=λf=>by
  unfold bc;rw[Vk (by decide),Vk (by decide),Vi (by rw[Vp];lia)];have e:(-1+((ms.map f).length:Int)).toNat=ms.length-1:=by rw[Vp];obtain⟨m,u⟩:=dW (Vg (by decide) i);rw[u,Int.natCast_add,WW,W0];exact Vx Int.toNat (WN (m:Int))
  rw[e,List.getElem?_map,Xd h];rfl
 refine ag h (neg _) λc z=>?_;exact uG (neg λt:TN=>gt V.ρ t.1) (uM _ z)
theorem iJ{j:Nat}(f:j<3)(i:V.sp j≠0):nO (V.nd j)=dm V.gv j/\At V.gv (dm V.gv j) (gr V.gv j) (aN V.gv j)/\V.gv.lo j<V.gv.hi j:=by
 have h0:=V.DL j;have hl:V.gv.lo j<V.gv.hi j:=by show V.lo j<V.lo j+V.sp j;lia
 unfold bt.nd;rw[Vk i];exact⟨rfl,.var j f hl,hl⟩
theorem gV(f:100<=k){j:Nat}(u:j<3)(z:V.sp j≠0):gA (aF k) (aV k) (dm V.gv j) "key"=some (.str (aN V.gv j))/\∀{R:Type}{ns:List AV}{i:Int}{K:AV->Option R},bc ns i=some (dm V.gv j)->yY (aF k) (aV k) ns i K=K (.str (aN V.gv j)):=by have K:=((iJ u z).2.1).key V.ok (p:=2) (Vt _) (by decide) k (by exact up f rfl);refine⟨K,λh=>?_⟩;unfold yY;refine bE h ?_;exact bE K rfl
theorem lQ(j:Int)(u:List Int):cM call make .In (.int j) (iL u)=some (decide (j∈u))/\cM call make .NotIn (.int j) (iL u)=some (!decide (j∈u)):=by
 have e:u.any (· ==j)=decide (j∈u):=by
  by_cases q:j∈u
  . rw[VJ q];exact VX.mpr ⟨j,q,by simp⟩
  . rw[W5 q];exact List.any_eq_false.mpr λx hx=>by simp;intro z;exact q (z▸hx)
 constructor
 . show((gD (u.map AV.int)).map λns=>ns.any (· ==j))=_;rw[jQ,Option.map_some,e]
 . show((gD (u.map AV.int)).map λns=>ns.any (· ==j)).map _=_;rewrite[jQ,Option.map_some,e];rfl
theorem AS{is:List Nat}(h:∀i∈is,i<3){f:Nat->AV}{j:Nat}(u:j<3):fe (is.map λi=>(aN V.gv i,f i)) (aN V.gv j)=if j∈is then some (f j)else none:=by
 induction is with
 |nil=>rfl
 |cons a l ih=>
  show List.lookup (aN V.gv j) ((aN V.gv a,f a)::_)=_;rw[VK];by_cases q:j=a
  . subst q;simp
  . have:(aN V.gv j==aN V.gv a)=false:=by
     rw[beq_eq_false_iff_ne];exact λz=>q (gn u (h a Vm) z)
    rw[this];have:=ih λi hi=>h i (Vw _ hi);show fe (l.map λi=>(aN V.gv i,f i)) (aN V.gv j)=_;rw[this];simp[q]
theorem Ha{m:aY}(h:Ng V.gv m){j:Nat}(f:(sm m).val (V.ρ (1+j))≠(sm m).val (V.ρ 0)):(sm m).vs j=true:=by
 refine Wp λq=>f ?_;refine oU (λt ht=>(h.a t ht).dep) _ _ λi hi=>?_;have u:i≠j:=λe=>by subst e;exact q hi
 unfold bt.ρ;rw[Vk (by(clear f;lia)),Vk (by lia)]
theorem NI.real{t:TN}{i:Nat}(h:NI V i t){j:Nat}(f:(sm t.1).vs j=true):j<3/\V.sp j≠0:=by
 refine bV (h.us _ (h.vs j f)) λz h1 h2 u=>?_;have:j=z:=by lia
 rw[this];exact⟨h1,u⟩
theorem Cc(z:100<=k){j:Nat}(i:j<3)(u:V.sp j≠0):cM (aF k) (aV k) .NotEq (dm V.gv j) (dm V.gv j)=some false:=by
 have e:aF k 93 [dm V.gv j,dm V.gv j] []=some (.bool true):=by obtain⟨k',rfl⟩:=dW (n:=k) (by lia);have K:=(iJ i u).2.1.key V.ok (p:=2) (Vt _) (by decide) k' (by lia);refine Av (by lia) (by decide) ?_;refine(Ua (aF k') (aV k') 284 284 (xv (B7 j) (V.gv.lo j) (V.gv.hi j)) (xv (B7 j) (V.gv.lo j) (V.gv.hi j))).trans ?_;rw[show ba.isin (.ref 284) (.ref 227)=some true by kernel_rfl,Vl,Vk (by decide),K,Vl,Vl];show some (AV.bool (aN V.gv j==aN V.gv j))=_;simp
 show(match ba.eq 284 (.ref 284)with|some f=>((aF k f [dm V.gv j,dm V.gv j] []).bind EG).map (!·)|none=>none)=_;rw[show ba.eq 284 (.ref 284)=some 93 by kernel_rfl];dsimp only;rw[e];rfl
end
section
variable{call:aI}{make:aH}{k L:Nat}{V:bt}{ms:List TN}
noncomputable abbrev SM(V:bt)(ms:List TN)(xs:List AV)(kk:Int)(r:ah):ah:=SK xs (iE ms) (mD V ms) (kG ms) kk r
theorem Kl{body:ah->Option fW}{nm:Str}{σ0 f i u:ah}(h0:body (aX σ0 [nm] [.int 0])=some (.next f))(h1:body (aX f [nm] [.int 1])=some (.next i))(h2:body (aX i [nm] [.int 2])=some (.next u)):bU body [nm] r3 σ0=some (.next u):=bE h0 (bE h1 (bE h2 rfl))
theorem Lj(T:Tr V ms)(hk:640<=k){xs:List AV}{kk:Nat}(H:kk<ms.length){d0:AV}{e0:EV}{j0 nm0:AV}{i:Nat}:∃(d:AV)(e:EV)(j nm:AV)(U:Nat),ay (aF k) (aV k) 702 0 198 (SM V ms xs kk (sA d0 e0 j0 nm0 i))=some (.next (SM V ms xs kk (sA d e j nm (U+1)))):=by
 have N:=T.ni kk H;have h9:=T.l9;have i3:=T.us H;have hp:nP ms[kk].1.1<=120:=Vg N.p (by
  have:pT kk<=63:=by
   have:∀i<9,pT i<=63:=by decide
   exact this kk (by lia)
  lia)
 obtain⟨C,fl,f,is,e1,e2,O,e4,e5,e6⟩:=oh V.ok N.nd hp;have O:=O k (by exact up hk rfl);let B:List Str:=(List.range 3).flatMap λj:Nat=>if(j:Int)∈ms[kk].2 then[aN V.gv j]else[]
 have W:∃σ',aE (aU (aF k) (aV k) 702 0 40) [[.int 0],[.int 1],[.int 2]] [("k",.fz (.int kk)),("nodes",.fz (.list (iE ms))),("used",.fz (.list (kG ms)))] (.l [])=some (σ',.l (B.map .str)):=by
  obtain⟨σ',_,e⟩:=eP (step:=aU (aF k) (aV k) 702 0 40) (I:=λσ=>∃r:ah,(r=[]\/∃y0,r=[(("j":Str),EV.fz y0)])/\σ=(("k":Str),EV.fz (.int kk))::("nodes",.fz (.list (iE ms)))::("used",.fz (.list (kG ms)))::r) (x:=λj:Nat=>[AV.int j]) (f:=λj:Nat=>(if(j:Int)∈ms[kk].2 then[AV.str (aN V.gv j)]else[])) (List.range 3) [] [("k",.fz (.int kk)),("nodes",.fz (.list (iE ms))),("used",.fz (.list (kG ms)))] ⟨[],.inl rfl,rfl⟩ (λj u σ P acc Q=>by
   have u:=Wv.mp u;refine ab P λr hr J=>?_;clear P;rw[J];refine ag ((("k":Str),EV.fz (.int kk))::("nodes",.fz (.list (iE ms)))::("used",.fz (.list (kG ms)))::[(("j":Str),EV.fz (.int j))]:ah) ⟨_,.inr ⟨_,rfl⟩,rfl⟩ ((Hq _ _ (iE ms) (kG ms) kk j acc r hr).trans ?_);refine bE i3 ?_;refine bE ((lQ _ _).1) ?_;by_cases q:(j:Int)∈ms[kk].2
   . refine bV (N.us _ q) λz h1 h2 h3=>?_;have:j=z:=by lia
     subst this;rw[Vi q]at Q⊢;simp only[VP,Wb]at Q;rw[Vi (VJ q),Vi (by exact VT Q),T.ns u,Vl,(iJ u h3).1,(gV (by exact up hk rfl) u h3).1];rfl
   . rw[Vk q]at Q⊢;rw[Vk (by simpa using q)];simp) (by
   have:∀l:List Nat,(l.flatMap λj:Nat=>(if(j:Int)∈ms[kk].2 then[AV.str (aN V.gv j)]else[])).length<=l.length:=λl=>by
    induction l with
    |nil=>exact Vt _
    |cons a l ih=>rw[VS,VO,VP];split<;>simp only[VP,Wb]<;>lia
   have:=this (List.range 3);rw[W7]at this;rw[Wb];lia)
  refine⟨σ',?_⟩;rw[show([[.int 0],[.int 1],[.int 2]]:List (List AV))=(List.range 3).map λj:Nat=>[AV.int j]from rfl,e];have:(B.map AV.str)=(List.range 3).flatMap λj:Nat=>(if(j:Int)∈ms[kk].2 then[AV.str (aN V.gv j)]else[]):=by rw[List.map_flatMap];refine Vx (λf=>List.flatMap f (List.range 3)) (funext λj=>?_);split<;>rfl
  rw[this];rfl
 refine ax W λgf W=>?_;have OK:∀j∈is,B.any (· ==aN V.gv j)=true:=λj u=>by refine VX.mpr ⟨aN V.gv j,Wz.mpr ⟨j,Wv.mpr (e6 j u),?_⟩,by simp⟩;rw[Vi (N.vs j ((e5 j).mp u))];exact Vo.mpr rfl
 have Rc:∀j∈is,cM (aF k) (aV k) .NotIn (.str (aN V.gv j)) (.list (B.map .str))=some false:=λj u=>by show((fq (B.map AV.str)).map λns=>ns.any (· ==aN V.gv j)).map _=_;rewrite[jD,Option.map_some,OK j u];rfl
 let S:EV->AV->Nat->ah:=λe nm i=>SM V ms xs kk (sN (.dict (VD V.gv is)) e j0 nm i);let I:ah->Prop:=λσ=>∃(e:EV)(nm:AV)(i:Nat),(e= .ol (B.map .str)\/e= .fz (.list (B.map .str)))/\σ=S e nm i;refine ab (ji (body:=ay (aF k) (aV k) 702 1 195) (nm:=["name"]) (rows:=(VD V.gv is).map λy=>[.str y.1]) (σ:=S (.ol (B.map .str)) nm0 (dI i)) (R:=I) (λrow tX σ P=>?_) ⟨_,_,_,.inl rfl,rfl⟩) λxo en Os=>?_
 . refine ab (Vy.mp tX) λy hy J=>?_;rw[<-J];refine ab (Vy.mp hy) λj u J=>?_;rw[<-J];refine f9 P λe nm i he X=>?_;rw[X];refine ag (S (.fz (.list (B.map .str))) (.str (aN V.gv j)) (nI i)) (.inl ?_) ⟨.fz (.list (B.map .str)),.str (aN V.gv j),nI i,.inr rfl,rfl⟩;rcases he with rfl|rfl
   . exact(NX _ _ xs (iE ms) (mD V ms) (kG ms) kk j0 nm (VD V.gv is) (B.map .str) (aN V.gv j) i).trans (bE (Rc j u) rfl)
   . exact(NY _ _ xs (iE ms) (mD V ms) (kG ms) kk j0 nm (VD V.gv is) (B.map .str) (aN V.gv j) i).trans (bE (Rc j u) rfl)
 have one:∀(e:EV)(jv nm:AV)(i j:Nat),j<3->ay (aF k) (aV k) 702 2 194 (aX (SM V ms xs kk (sN (.dict (VD V.gv is)) e jv nm i)) ["j"] [.int j])=some (.next (SM V ms xs kk (sN (.dict (VD V.gv is)) e (.int j) nm (jI i+2)))):=λe jv nm i j u=>by
  have s1:=T.mK (c:=1+j) H (by lia);have s0:=T.mK (c:=0) H (by decide);have Y:∀{j:Nat},j<3->fe (VD V.gv is) (aN V.gv j)=if j∈is then some (dm V.gv j)else none:=λu=>AS e6 u
  refine Eq.trans (b:=xL (aF k) (aV k) 193 (SM V ms xs kk (sN (.dict (VD V.gv is)) e (.int j) nm (jI i+2))) ((gx 702 2).drop 1) (λσ=>some (fW.next σ)) (λσ=>some (.cont σ)) (λx σ=>some (.ret x σ))) ?_ ?_
  . refine(NW ..).trans ?_;rw[gp s1,gp s0,dZ _ _ (.inr (.inr (.inr (.inr rfl))))];show(if((sm ms[kk].1).val (V.ρ (1+j))!=(sm ms[kk].1).val (V.ρ 0))=true then _ else _)=_;by_cases q:(sm ms[kk].1).val (V.ρ (1+j))=(sm ms[kk].1).val (V.ρ 0)
    . rw[Vk (by simpa using q)]
    . rw[Vi (by simpa using q)];have hv:=Ha N.nd q;have F:=(N.real hv).2;refine Eq.trans ((gV (by lia) u F).2 ((T.ns u).trans (Vx some (iJ u F).1))) ?_;show(if(!(fe (VD V.gv is) (aN V.gv j)).isSome)=true then _ else _)=_;rw[Y u,Vi ((e5 j).mpr hv)];rfl
  . refine(NV ..).trans ?_;refine bE i3 ?_;refine bE ((lQ _ _).1) ?_;by_cases q:(j:Int)∈ms[kk].2
    . rw[Vi (VJ q)];refine bV (N.us _ q) λz h1 h2 F=>?_;have:j=z:=by lia
      subst this;have Z:bc (iE ms) j=some (dm V.gv j):=(T.ns u).trans (Vx some (iJ u F).1);refine Eq.trans ((gV (by lia) u F).2 Z) ?_;by_cases q2:j∈is
      . have G:=Y u;rw[Vi q2]at G;show(if(fe (VD V.gv is) (aN V.gv j)).isSome=true then _ else _)=_;rw[Vi (by rw[G];rfl)];refine Eq.trans ((gV (by lia) u F).2 Z) ?_;show((fe (VD V.gv is) (aN V.gv j)).bind _)=_;rw[G,Vl,Z,Vl,Cc (by lia) u F,Vl,Vk (by decide)]
      . have G:=Y u;rw[Vk q2]at G;show(if(fe (VD V.gv is) (aN V.gv j)).isSome=true then _ else _)=_;rw[G];rfl
    . rw[Vk (by simpa using q)]
 rw[e1]at O;refine f9 Os λe nm U he X=>?_;subst X;refine⟨.dict (VD V.gv is),e,.int 2,nm,jI (jI (jI U+2)+2),?_⟩;refine(SU ..).trans (bE (idx_map (f:=λt:TN=>nO t.1) H (by lia)) ?_);rw[e1,bl e2];refine bE O (bE W (bE rfl ?_));refine(N7 ..).trans (bE en ?_);exact(N6 ..).trans (bE (Kl (one _ _ _ _ 0 (by decide)) (one _ _ _ _ 1 (by decide)) (one _ _ _ _ 2 (by decide))) rfl)
end
section
variable{call:aI}{make:aH}{k L:Nat}{V:bt}{ms:List TN}
theorem JD{g:Gv}(O:g.Ok){n:aY}(h:Ng g n)(hr:n.2.natAbs<=2^872)(P:nP n.1<=120){is:List Nat}{v:Nat->Int}(I:∀i∈is,i<3)(hv:∀i∈is,g.lo i<=v i/\v i<=g.hi i)(Q:∀i,(sm n).vs i=true->i∈is):∃c:Int,Ev 530 671 [nO n,.dict (is.map λi=>(aN g i,.int (v i)))] [] (.int c)/\∀ρ,g.In ρ->c=(sm n).val (upd (λi=>decide (i∈is)) v ρ):=by
 have G:∀j,j∈is.foldl dR []<->j∈is:=λj=>by rw[gZ];simp
 have U:mt g ((is.foldl dR []).map λi=>(aN g i,aO (v i))) (λi=>decide (i∈is)) v:=⟨λi hi hl=>by
  have e:∀{is:List Nat},(∀i∈is,i<3)->fe (is.map λi=>(aN g i,aO (v i))) (aN g i)=if i∈is then some (aO (v i))else none:=λ{is} h=>by
   induction is with
   |nil=>rfl
   |cons a l ih=>
    show List.lookup (aN g i) ((aN g a,aO (v a))::_)=_;rw[VK];by_cases q:i=a
    . rw[q];simp
    . have:(aN g i==aN g a)=false:=by
       rw[beq_eq_false_iff_ne];exact λz=>q (gn hi (h a Vm) z)
      rw[this];have:=ih λi hi=>h i (Vw _ hi);show fe (l.map λi=>(aN g i,aO (v i))) (aN g i)=_;rw[this];simp[q]
  rw[e (λj W=>I j ((G j).mp W))];by_cases q:i∈is
  . rw[Vi ((G i).mpr q),Vi (VJ q)]
  . rw[Vk λz=>q ((G i).mp z),Vk (by simpa using q)],λi hi=>hv i (V9 hi)⟩
 refine ab (xK O U h hr P (λi hi=>VJ (Q i hi))) λc X val=>?_;obtain⟨C,fl,f,J,Y,B⟩:=X;refine ag c (aw (d:=529) (by decide) (by decide) λk N=>?_) val;have u:∀(l:List Nat)(acc:List Nat)(σ:ah),(∀i∈l,i<3)->(∀i∈acc,i<3)->acc.Nodup->(σ=[]\/∃Z y1,σ=[(("k":Str),EV.fz Z),(("v":Str),EV.fz y1)])->∃σ',aE (aU (aF k) (aV k) 671 0 37) (l.map λi=>[.str (aN g i),.int (v i)]) σ (.d (acc.map λi=>(aN g i,aO (v i))))=some (σ',.d ((l.foldl dR acc).map λi=>(aN g i,aO (v i)))):=λl=>by
  induction l with
  |nil=>intro acc σ _ _ _ _;exact⟨σ,rfl⟩
  |cons a l ih=>
   intro acc σ hl H hn bJ;have OS:acc.length<=1000:=by have:=yS hn H;lia
   have st:=Hs (aF k) (aV k) (aN g a) (.int (v a)) (acc.map λi=>(aN g i,aO (v i))) σ bJ;rw[Vi (by rw[Vp];exact OS),e9 _ k (by exact up N rfl),Vl]at st;rw[(mq (f:=λi=>aO (v i)) H (hl a Vm))]at st;refine ax (ih (dR acc a) _ (λi hi=>hl i (Vw _ hi)) (λi hi=>(gN.mp hi).elim (H i) λz=>z▸hl a Vm) (k6 hn) (.inr ⟨.str (aN g a),.int (v a),rfl⟩)) λσ' e=>?_;refine⟨σ',?_⟩;simp only[Vn,aE,st,Vl,We];exact e
 refine ax (u is [] [] I (λ_ h=>(nomatch h)) .nil (.inl rfl)) λσ' ec=>?_;have B:=B k (by exact up N rfl);refine aP (bx (r:=n.2) h.a) λC' eK F hC=>?_;have F:nO n= .obj C' eK:=F;rw[F]at J;cases J;have er:(is.map λi=>(aN g i,AV.int (v i))).map (λz=>[AV.str z.1,z.2])=is.map λi=>[.str (aN g i),.int (v i)]:=by rw[Vv];rfl
 rw[F]at B⊢;rw[Pg];refine bE ((iB hC).2.1) ?_;refine(Vk (by decide)).trans ?_;rw[bl Y,er];rw[ec];show(aF k f [.obj C fl,.dict _] []).bind _=_;refine bE B ?_;refine bE (show ba.isin (iW (aO c)) (.ref 338)=some true by kernel_rfl) ?_;refine(Vi rfl).trans ?_;rw[show gA (aF k) (aV k) (aO c) "b"=some (.int c)from Kk c];rfl
end
section
variable{call:aI}{make:aH}{k L:Nat}{V:bt}{ms:List TN}
theorem jH(x:Str)(a b:EV):∀σ:ah,aQ (aQ σ x a) x b=aQ σ x b
 |[]=>by simp[aQ]
 |(y,f)::r=>by
  by_cases q:y=x
  . simp[aQ,q]
  . simp[aQ,q,jH x a b r]
theorem NI.b{t:TN}{i:Nat}(N:NI V i t)(hi:i<9):nP t.1.1<=63/\t.1.2.natAbs<=2^870:=by
 have b1:(List.range 9).all (λi=>decide (pT i<=63)&&decide (vT i<=2^600))=true:=by decide+kernel
 have b2:=VB.mp b1 i (Wv.mpr hi);rw[V6]at b2;have p1:pT i<=63:=V9 b2.1;have v1:vT i<=2^600:=V9 b2.2;clear b2 b1;refine⟨Vg N.p p1,?_⟩;exact xz (fR (ts:=t.1.1) (r:=t.1.2) V.ok N.nd.a N.nd.p.am V.ok.cX) (Vg (N.val _ V.ok.cX) v1) (by decide)
theorem D2(T:Tr V ms):∃h:ms.length-1<ms.length,NI V (ms.length-1) ms[ms.length-1]/\nP ms[ms.length-1].1.1<=63/\ms[ms.length-1].1.2.natAbs<=2^870:=by have f:=T.l6;have i:=T.l9;have h:ms.length-1<ms.length:=Nat.sub_lt (Nat.lt_of_lt_of_le (by decide) f) (by decide);have N:=T.ni _ h;exact ag h N (N.b (by lia))
theorem uB(V:bt)(j:Nat):(j:Int)∈V.u j<->V.sp j≠0:=by
 unfold bt.u;by_cases q:V.sp j=0
 . rw[Vi q];simp[q]
 . rw[Vk q];simp[q]
theorem qW{S:Nat->Bool}{v ρ:Nat->Int}(h:∀i,S i=true->v i=ρ i):upd S v ρ=ρ:=funext λi=>by
 unfold upd;split
 . exact h i (by assumption)
 . rfl
set_option maxHeartbeats 2000000 in
theorem Sr{g:Gv}{j:Nat}(f:j<3)(v:Nat->Int)(hv:g.lo j<=v j/\v j<=g.hi j):mt g [(aN g j,aO (v j))] (λi=>decide (i=j)) v:=⟨λi hi _=>by
 show List.lookup (aN g i) [(aN g j,aO (v j))]=_;rw[VK];by_cases q:i=j
 . rw[q,beq_self_eq_true];exact(Vi (VJ rfl)).symm
 . rw[beq_eq_false_iff_ne.mpr λz=>q (gn hi f z)];exact(Vk λz=>q (V9 z)).symm,λi hi=>V9 hi▸hv⟩
theorem Hy{a b:Int}(h:a=b):¬(a !=b)=true:=λz=>bne_iff_ne.mp z h
theorem Li(T:Tr V ms)(I:640<=k){xs:List AV}{kk:Int}{is:List Nat}(e6:∀i∈is,i<3){hl:ms.length-1<ms.length}(e5:∀i,i∈is<->(sm ms[ms.length-1].1).vs i=true){j:Nat}(J:j<3){e:EV}{jv nm:AV}{w:Nat->AV}{i:Nat}:
 ∃σ',(ay (aF k) (aV k) 702 3 196 (aX (SM V ms xs kk (sX (.dict (VD V.gv is)) e jv nm w i)) ["j"] [.int j])=some (.next σ')\/ay (aF k) (aV k) 702 3 196 (aX (SM V ms xs kk (sX (.dict (VD V.gv is)) e jv nm w i)) ["j"] [.int j])=some (.cont σ'))/\∃(jv nm:AV)(w:Nat->AV)(i:Nat),σ'=SM V ms xs kk (sX (.dict (VD V.gv is)) e jv nm w i):=by
 obtain⟨Ri,ej⟩:=T.P5 J;have Mv:=T.us Ri;rw[ej]at Mv;by_cases Q:V.sp j=0
 . exact ag _ (.inr ((QR ..).trans (bE Mv (bE (lQ _ _).2 (Vi (by rw[W5 λz=>(uB V j).mp z Q];rfl)))))) ⟨.int j,nm,w,i,rfl⟩
 obtain⟨_,NL,pL,rL⟩:=D2 T;obtain⟨H5,l1,l2⟩:=T.last;have SD:=Sr J (λi=>V.ρ (1+j) i) (V.In (1+j) j);obtain⟨m1,E1,n1,v1,p1,Bf,r1⟩:=Fh V.ok SD NL.nd rL (by lia);refine aP (bx (r:=m1.2) n1.a) λC fl P hC=>?_;have P:nO m1= .obj C fl:=P;obtain⟨C2,Vd,f2,G,q1,q2,q3,q4,q5,q6⟩:=oh V.ok n1 (by lia);have q3:=q3 k (by exact up I rfl);rw[P]at q1 q3;(injection q1 with z;subst z);have Tz:decide ((j:Int)∈V.u j)=true:=VJ ((uB V j).mpr Q);have kv:=gV (k:=k) (by exact up I rfl) J Q;have Oy:G⊆is:=λz B=>(e5 z).mpr (Bf z ((q5 z).mp B)).1;have Tq:j∉G:=λB=>by have:=(Bf j ((q5 j).mp B)).2;simp at this
 have wF:bc (iE ms) (j:Int)=some (dm V.gv j):=(T.ns J).trans (Vx some (iJ J Q).1);have Ed:∀(z:Nat)(B:z<ms.length),ms[z]=(V.nd z,V.u z)->Mine.Internal.mK (mD V ms) (z:Int) (1+(j:Int))=some (.int (V.ρ (1+j) z)):=λz B e=>(T.mK (c:=1+j) B (by lia)).trans (Vx (λy=>some (AV.int y)) (by rw[e];exact V.tL z (V.In (1+j))));let U:ah:=sR xs (iE ms) (mD V ms) (kG ms) kk j nm e (VD V.gv is) w (.obj C fl) (.dict (VD V.gv G)) i;let Z:List (Str×AV)->Int->ah:=λvd ii=>sV xs (iE ms) (mD V ms) (kG ms) kk j nm e (VD V.gv is) w (.obj C fl) (.dict (VD V.gv G)) vd ii i;let F:List Nat->List (Str×AV):=λacc=>acc.map λi=>(aN V.gv i,.int (V.ρ (1+j) i));let fI:List Nat×Nat->Nat->List Nat×Nat:=λa i=>(if i≠j/\V.sp i≠0 then dR a.1 i else a.1,a.2+1);have Je:∃ii:Int,bU (ay (aF k) (aV k) 702 4 190) ["i"] r3 (aQ U "values" (.od []))=some (.next (Z (F ((List.range 3).foldl fI ([],0)).1) ii))/\(∀z∈((List.range 3).foldl fI ([],0)).1,z<3):=by
  obtain⟨σ',ef,hn,N,H⟩:=fU (body:=ay (aF k) (aV k) 702 4 190) (nm:=["i"]) (x:=λi:Nat=>[AV.int i]) (f:=fI) (b0:=(([],0):List Nat×Nat)) (R:=λa σ=>a.1.Nodup/\(∀z∈a.1,z<3)/\(a.2=0/\a.1=[]/\σ=aQ U "values" (.od [])\/∃ii:Int,σ=Z (F a.1) ii)) (List.range 3) (λpre z ka ez σ H=>by
   refine dh H λhn N H=>?_;generalize pre.foldl fI ([],0)=a at*
   have B:z<3:=Wv.mp (by rw[ez];simp);obtain⟨QZ,RB⟩:=T.P5 B;have hb:aX σ ["i"] [.int z]=Z (F a.1) z:=by
    rcases H with⟨_,ha,rfl⟩|⟨ii,rfl⟩
    . rw[ha];rfl
    . exact jH _ _ _ _
   have OS:(F a.1).length<=1000:=by have:=yS hn N;rw[Vp];lia
   have Qt:=T.us QZ;rw[RB]at Qt;have to:∀{l},(fI a z).1=l->(some (fW.next (Z (F l) z)))=some (fW.next (Z (F (fI a z).1) z)):=λh=>Vx (λl=>some (fW.next (Z (F l) z))) h.symm;refine wR (Z (F (fI a z).1) z) ?_ ?_ ?_ (.inr ⟨z,rfl⟩)
   . rw[hb];refine(NP ..).trans ?_;by_cases W:z=j
     . exact(Vk (Hy (by rw[W]))).trans (to (Vk λy=>y.1 W))
     . refine(Vi (bne_iff_ne.mpr λy=>W (Int.ofNat.inj y))).trans (bE Qt (bE (lQ _ _).1 ?_));by_cases O:V.sp z=0
       . exact(Vk λy=>(uB V z).mp (V9 y) O).trans (to (Vk λy=>y.2 O))
       . refine(Vi (VJ ((uB V z).mpr O))).trans ((gp (Ed z QZ RB)).trans (bE ((T.ns B).trans (Vx some (iJ B O).1)) (bE (gV (k:=k) (by exact up I rfl) B O).1 (bE rfl ((Vi OS).trans ?_)))));exact(Vx (λl=>some (fW.next (aQ (aQ U "values" (.od l)) "i" (.fz (.int z))))) (mq (f:=λi=> .int (V.ρ (1+j) i)) N B)).trans (to (Vi ⟨W,O⟩))
   . show(if z≠j/\V.sp z≠0 then dR a.1 z else a.1).Nodup;split
     . exact k6 hn
     . exact hn
   . intro y hy;have hy:y∈(if z≠j/\V.sp z≠0 then dR a.1 z else a.1):=hy;split at hy
     . exact(gN.mp hy).elim (N y) λq=>q▸B
     . exact N y hy) (σ0:=aQ U "values" (.od [])) ⟨.nil,λ_ h=>(nomatch h),.inl ⟨rfl,rfl,rfl⟩⟩
  refine ax (H.resolve_left λz=>by rw[(rfl:((List.range 3).foldl fI ([],0)).2=3)]at z;injection z.1) λii aK=>?_;subst aK;exact ag ii ef N
 refine ab Je λii eI TZ=>?_;have Nz:∀z,z∈((List.range 3).foldl fI ([],0)).1<->z<3/\z≠j/\V.sp z≠0:=λz=>by
  have:∀(l:List Nat)(a:List Nat×Nat),z∈(l.foldl fI a).1<->z∈a.1\/(z∈l/\z≠j/\V.sp z≠0):=λl=>by
   induction l with
   |nil=>intro a;simp
   |cons y l ih=>
    intro a;rw[We,ih];show(z∈(if y≠j/\V.sp y≠0 then dR a.1 y else a.1)\/_)<->_;by_cases q:y≠j/\V.sp y≠0
    . rw[Vi q,gN];constructor
      . rintro((h|rfl)|h)
        . exact .inl h
        . exact .inr ⟨Vm,q⟩
        . exact .inr ⟨Vw _ h.1,h.2⟩
      . rintro(h|⟨h,h'⟩)
        . exact .inl (.inl h)
        . rcases VN.mp h with rfl|h
          . exact .inl (.inr rfl)
          . exact .inr ⟨h,h'⟩
    . rw[Vk q];constructor
      . rintro(h|h)
        . exact .inl h
        . exact .inr ⟨Vw _ h.1,h.2⟩
      . rintro(h|⟨h,h'⟩)
        . exact .inl h
        . rcases VN.mp h with rfl|h
          . exact Vu h' q
          . exact .inr ⟨h,h'⟩
  rw[this,Wv];simp
 generalize((List.range 3).foldl fI ([],0)).1=Ea at*
 refine ab (ji (body:=ay (aF k) (aV k) 702 5 189) (nm:=["name"]) (rows:=(VD V.gv G).map λy=>[.str y.1]) (σ:=Z (F Ea) ii) (R:=λσ'=>σ'=Z (F Ea) ii\/∃a:Str,σ'=aQ (Z (F Ea) ii) "name" (.fz (.str a))) (λrow tX σ H=>?_) (.inl rfl)) λR7 eN Oq=>?_
 . refine ab (Vy.mp tX) λy hy bg=>?_;rw[<-bg];refine ab (Vy.mp hy) λz B bg=>?_;rw[<-bg];have hb:aX σ ["name"] [.str (aN V.gv z)]=aQ (Z (F Ea) ii) "name" (.fz (.str (aN V.gv z))):=by
    rcases H with rfl|⟨a,rfl⟩
    . rfl
    . exact jH _ _ _ _
   refine ag _ (.inl ?_) (.inr ⟨aN V.gv z,rfl⟩);rw[hb];exact(NO ..).trans (Vk (by rw[(AS e6 (q6 z B)),Vi (Oy B)];exact VU))
 refine ab (JD V.ok n1 r1 (by omega) (is:=Ea) (v:=λi=>V.ρ (1+j) i) TZ (λi _=>V.In (1+j) i) (λz B=>by
  have h1:=Bf z B;have h2:=NL.real h1.1;exact(Nz z).mpr ⟨h2.1,by simpa using h1.2,h2.2⟩)) λc X vc=>?_
 have X:=X k (by exact up I rfl);rw[P]at X;have cv:c=(sm ms[ms.length-1].1).val (V.ρ (1+j)):=by rw[vc _ (V.In (1+j)),qW (λ_ _=>rfl),v1 _ (V.In (1+j)),qW (λ_ _=>rfl)]
 have ne:cM (aF k) (aV k) .NotEq (.int c) (.int ((sm ms[ms.length-1].1).val (V.ρ (1+j))))=some false:=by rw[<-cv,dZ _ _ (.inr (.inr (.inr (.inr rfl))))];show some (c !=c)=_;simp
 have Kp:∀{R:Type}(p r:Option R),((aF k 671 [.obj C fl,.dict (F Ea)] []).bind λz=>gq (mD V ms) (-1) (1+(j:Int)) λy=>(cM (aF k) (aV k) .NotEq z y).bind λq=>if q=true then p else r)=r:=λ_ _=>bE X ((gp (l2 (1+j) (by lia))).trans (bE ne rfl));have g8:∃σ',(∃(jv nm:AV)(w:Nat->AV)(i:Nat),σ'=SM V ms xs kk (sX (.dict (VD V.gv is)) e jv nm w i))/\xL (aF k) (aV k) 189 R7 ((gx 702 3).drop 7) (λσ=>some (fW.next σ)) (λσ=>some (.cont σ)) (λx σ=>some (.ret x σ))=some (.next σ'):=by
  rcases Oq with rfl|⟨a,rfl⟩
  . exact ag _ ⟨_,_,_,_,rfl⟩ ((Jl _ _ xs (iE ms) (mD V ms) (kG ms) kk j nm (.obj C fl) e (VD V.gv is) (VD V.gv G) (F Ea) w ii i).trans (Kp _ _))
  . exact ag _ ⟨_,_,_,_,rfl⟩ ((Jk _ _ xs (iE ms) (mD V ms) (kG ms) kk j nm (.obj C fl) e (VD V.gv is) (VD V.gv G) (F Ea) a w ii i).trans (Kp _ _))
 refine ab g8 λR6 hR e7=>?_;refine ag R6 (.inl ?_) hR;obtain⟨C3,Vc,f3,z1,z2,Y⟩:=E1;have Y:=Y k (by exact up I rfl);rw[z1,P]at Y;refine(QR ..).trans (bE Mv (bE (lQ _ _).2 ((Vk (by rw[Tz];decide)).trans (bE l1 ((Vx (λx=>bH x "substitute" _) z1).trans ((bl z2).trans (bE wF (bE kv.1 ((gp (Ed j Ri ej)).trans (bE (e9 _ k (by exact up I rfl)) (bE rfl (bE Y ?_))))))))))));refine(NU ..).trans ((bl q2).trans (bE q3 ?_));refine(SP ..).trans ((kv.2 wF).trans ((Vk (by rw[show fe (VD V.gv G) (aN V.gv j)=_ from AS q6 J,Vk Tq];exact VU)).trans (bE eI ?_)));exact(NR ..).trans (bE eN e7)
end
section
variable{call:aI}{make:aH}{k L:Nat}{V:bt}{ms:List TN}
theorem Nk{l:Nat}(h:l<=18):∃m:Nat,m<4/\((oP call make .Sub (.int (l:Int)) (.int 12)).bind λa=>(sB (.builtin "max") [.int 3,a]).bind λb=>sB (.builtin "min") [.int 6,b])=some (.int (m+3:Nat)):=by refine af ((by decide+kernel:∀l:Nat,l<19->min 6 (max 3 (l-12))-3<4/\(if(if(l:Int)-12>3 then(l:Int)-12 else 3)<6 then(if(l:Int)-12>3 then(l:Int)-12 else 3)else 6)=((min 6 (max 3 (l-12))-3+3:Nat):Int)) l (Nat.lt_succ_of_le h)) λhn e=>?_;refine ag (min 6 (max 3 (l-12))-3) hn ?_;rw[<-e];rfl
theorem law_pure:pS:=λl hl=>by
 have hb:bB ba (hZ (aF 690) (aV 690)) (jK 702) 40 200 [("script",.fz (.list (l.map .int)))] ([lw 1,lw 2,lw 3,lw 4,lw 5]) (λ_=>none) (λ_=>none) (λx _=>some x)=some (.bool true):=by
  refine ab (Nk (call:=aF 690) (make:=aV 690) hl) λm O B=>?_;refine wQ (Ld (k:=689) (by decide) hl O) λV ms h1 h2 J P=>?_;have T:Tr V ms:=⟨h1,by(clear h1;lia),by(clear J h1 B hl;lia),J⟩;have h9:=T.l9;have h6:=T.l6;have N:(iE ms).length=ms.length:=Vp _;have Q:fF (iE ms)=some (.int ms.length):=(gU (by rw[N];(clear h2;lia))).trans (by rw[N]);have U:∀(l:List Nat)(a:Nat),l.foldl (λa _=>a+1) a=a+l.length:=λl=>by
   induction l with
   |nil=>intro a;rfl
   |cons x l ih=>intro a;rw[We,ih,VP];lia
  have F:∃(kk:Int)(d:AV)(e:EV)(j nm:AV)(i:Nat),bU (ay (aF 690) (aV 690) 702 0 198) ["k"] ((List.range ms.length).map λi:Nat=>[AV.int i]) (SL (l.map .int) (iE ms) (mD V ms) (kG ms) [])=some (.next (SM V ms (l.map .int) kk (sA d e j nm (i+1)))):=by
   obtain⟨σ',G,u⟩:=fU (body:=ay (aF 690) (aV 690) 702 0 198) (nm:=["k"]) (x:=λi:Nat=>[AV.int i]) (f:=λa _=>a+1) (b0:=0) (R:=λ(a:Nat) σ=>(a=0/\σ=SL (l.map .int) (iE ms) (mD V ms) (kG ms) [])\/∃(kk:Int)(d:AV)(e:EV)(j nm:AV)(i:Nat),σ=SM V ms (l.map .int) kk (sA d e j nm (i+1))) (List.range ms.length) (λW z ka X σ u=>by
    have hb:∃(d:AV)(e:EV)(j nm:AV)(i:Nat),aX σ ["k"] [.int z]=SM V ms (l.map .int) z (sA d e j nm i):=by
     rcases u with⟨_,rfl⟩|⟨kk,d,e,j,nm,i,rfl⟩
     . exact⟨.none,.fz .none,.none,.none,0,rfl⟩
     . exact⟨d,e,j,nm,i+1,rfl⟩
    obtain⟨d,e,j,nm,i,H⟩:=hb;obtain⟨Y,Z,j',I,i',es⟩:=Lj (k:=690) T (by decide) (xs:=l.map .int) (Wv.mp (by rw[X];simp):z<ms.length) (d0:=d) (e0:=e) (j0:=j) (nm0:=nm) (i:=i);exact ag _ (by rw[H];exact es) (.inr ⟨z,Y,Z,j',I,i',rfl⟩)) (σ0:=SL (l.map .int) (iE ms) (mD V ms) (kG ms) []) (.inl ⟨rfl,rfl⟩)
   have u:=u.resolve_left λz=>by have:=z.1;rw[U,W7]at this;(clear h2;lia)
   obtain⟨kk,d,e,j,nm,i,rfl⟩:=u;exact⟨kk,d,e,j,nm,i,G⟩
  obtain⟨kk,d,e,j,nm,i,eL⟩:=F;obtain⟨_,NL,pL,rL⟩:=D2 T;obtain⟨H5,l1,l2⟩:=T.last;obtain⟨C,fl,f,is,q1,q2,q3,q4,q5,q6⟩:=oh V.ok NL.nd (by lia);have q3:=q3 690 (by decide);rw[q1]at q3 l1;obtain⟨σ',G,jv,I,w,m',rfl⟩:=ji (body:=ay (aF 690) (aV 690) 702 3 196) (nm:=["j"]) (R:=λσ=>∃(jv nm:AV)(w:Nat->AV)(i:Nat),σ=SM V ms (l.map .int) kk (sX (.dict (VD V.gv is)) e jv nm w i)) (rows:=(List.range 3).map λj:Nat=>[AV.int j]) (λrow tX σ u=>by
   refine K0 u λjv nm w i oa=>?_;rw[oa];refine ab (Vy.mp tX) λj hj bg=>?_;rw[<-bg];exact Li (k:=690) T (by lia) (xs:=l.map .int) (kk:=kk) q6 (hl:=H5) q5 (Wv.mp hj)) (σ:=SM V ms (l.map .int) kk (sX (.dict (VD V.gv is)) e j nm (λ_=> .none) (hI i))) ⟨j,nm,λ_=> .none,hI i,rfl⟩
  refine dF.trans ((N5 ..).trans ?_);refine ab (bL B) λa ea B=>?_;refine ab (bL B) λb H B=>?_;refine bE (fE hl) (bE ea (bE H (bE B (bE P ?_))));refine dF.trans ((N4 ..).trans (bE Q (bE rfl (bE (Vi (by(clear h2 h1;lia))) (bE eL ?_)))));refine(Jm _ _ (l.map .int) (iE ms) (mD V ms) (kG ms) kk d j nm e (λ_=> .none) i).trans (bE l1 ((bl q2).trans (bE q3 (bE G ?_))));exact N3 _ _ (l.map .int) (iE ms) (mD V ms) (kG ms) kk (.dict (VD V.gv is)) jv I e w (kN:=λ_=>none) (kC:=λ_=>none) (kR:=λx _=>some x) m'
 rw[SH,Am (by decide)];exact hb
end
end Mine.Internal
end
theorem PySem.Challenge.cw_iy0027_01_holds : PySem.Challenge.rw_iy0027_01.Holds :=
 Mine.Internal.joined Mine.Internal.law_pure
